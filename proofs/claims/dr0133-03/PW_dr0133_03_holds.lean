import PyProof.Rows.All
import Wide.All
import OpenK.AllK
import Wide.FinOn
import KE.KPar
import PySem.Challenge.RW_dr0133_03
set_option genInjectivity false
set_option genSizeOf false
set_option Elab.async false
set_option maxRecDepth 100000
set_option linter.unusedVariables false
set_option linter.unusedSimpArgs false
set_option compiler.extract_closed false
set_option hygiene false in
local macro_rules
  | `(tactic| rcases _ : $e with $p) => `(tactic| (refine Classical.byContradiction fun kk0 => ?_; rcases $e:term with $p <;> (refine kk0 ?_; clear kk0)))
  | `(tactic| decreasing_trivial) => `(tactic| solve_by_elim (maxDepth := 5) only [Nat.le_trans, Nat.lt_of_lt_of_le, Nat.lt_of_le_of_lt, Nat.le_of_lt, Nat.le_of_eq, Eq.symm, Nat.le_succ, Nat.le_add_right, Nat.le_add_left, Nat.lt_succ_self, Nat.succ_le_succ, *])
set_option hygiene false in
local macro_rules
 | `(tK)=>`((by kernel_rfl))
 | `(tA)=>`((by decide))
 | `(tI)=>`(Inv cx g Z s)
 | `(tB)=>`(Bw pr pa x i a)
 | `(tC)=>`(List (Str×AV))
 | `(tE)=>`(List (Str×Str))
 | `(tV)=>`(List (Str×Value))
 | `(tL)=>`(List Str)
 | `(tW)=>`(List AV)
 | `(tU)=>`(List Value)
 | `(tH)=>`(s.heap.objs.size)
 | `(tw $x0 $x1 $x2 $x3)=>`(wpAny cx.M A $x0 $x1 $x2 $x3)
 | `(tF $x0)=>`(Str.ofString $x0)
 | `(tG $x0)=>`(wpAny_bind $x0)
 | `(tJ $x0)=>`(wpAny_pure $x0)
 | `(tM $x0 $x1)=>`(wpAny_ite_split $x0 $x1)
 | `(sS $x)=>`(some (.str $x))
open PySem PySem.W PyProof.Rows
noncomputable section
set_option maxHeartbeats 8000000
theorem Mine.said : OpenLaw.wellSaid PySem.Challenge.rw_dr0133_03 = true := by kernel_rfl
open_top hd for (PySem.Challenge.rw_dr0133_03.row)
end
noncomputable section
set_option tactic.hygienic false
set_option backward.match.sparseCases false
namespace Mine
theorem jH {a b c:Nat}(h:a<=b)(k:b<=c):a<=c:=Nat.le_trans h k
theorem jJ {a b c:Nat}(h:a<=b)(k:b<c):a<c:=Nat.lt_of_le_of_lt h k
theorem jK {a b c:Nat}(h:a<b)(k:b<=c):a<c:=Nat.lt_of_lt_of_le h k
theorem jZ (n:Nat):n<=n:=Nat.le_refl n
theorem zA {a b:Nat}(h:a=b):a<=b:=Nat.le_of_eq h
theorem zB {a b:Nat}(h:a<b):a<=b:=Nat.le_of_lt h
theorem zC (a b:Nat):a<=a+b:=Nat.le_add_right a b
theorem zD {a b c d:Nat}(h:a<=b)(k:c<=d):a+c<=b+d:=Nat.add_le_add h k
theorem zE {α:Type}{a b:α}(h:some a=some b):a=b:=Option.some.inj h
theorem zF {α:Type}{a b:α}(h:a∈[b]):a=b:=List.mem_singleton.mp h
theorem zG {α:Type}(y:α){a:α}{l:List α}(h:a∈l):a∈y::l:=List.mem_cons_of_mem y h
theorem zH {α β:Type}{as:List α}(f:α->β):(as.map f).length=as.length:=List.length_map f
theorem zI {α:Type}{as bs:List α}:(as++bs).length=as.length+bs.length:=List.length_append
theorem zJ {m n:Nat}(k:Nat)(h:m<=n):k*m<=k*n:=Nat.mul_le_mul_left k h
theorem zK {α:Type}{a:α}{s t:List α}(h:a∈s++t):a∈s\/a∈t:=List.mem_append.mp h
theorem zL {α:Type}{a:α}{l:List α}:a∈a::l:=List.mem_cons_self
inductive BI where
 | len|sum|range|list|set|sorted|str|dict
 | lAppend|lPop|lSort
 | sJoin|sRsplit|sSplit
 | dItems|dGet|dUpdate|eAdd
 deriving DecidableEq,Inhabited
noncomputable def BI.val:BI->Value
 | .len=>.builtin "len" | .sum=>.builtin "sum" | .sorted=>.builtin "sorted"
 | .range=>.type "range" | .list=>.type "list" | .set=>.type "set" | .str=>.type "str" | .dict=>.type "dict"
 | .lAppend=>.builtin "list.append" | .lPop=>.builtin "list.pop" | .lSort=>.builtin "list.sort"
 | .sJoin=>.builtin "str.join" | .sRsplit=>.builtin "str.rsplit" | .sSplit=>.builtin "str.split"
 | .dItems=>.builtin "dict.items" | .dGet=>.builtin "dict.get" | .dUpdate=>.builtin "dict.update" | .eAdd=>.builtin "set.add"
inductive Ex2 {α β:Type} (p:α->β->Prop):Prop|mk (a:α) (b:β) (h:p a b):Ex2 p
inductive Ex3 {α β γ:Type} (p:α->β->γ->Prop):Prop|mk (a:α) (b:β) (c:γ) (h:p a b c):Ex3 p
inductive Ex4 {α β γ δ:Type} (p:α->β->γ->δ->Prop):Prop|mk (a:α) (b:β) (c:γ) (d:δ) (h:p a b c d):Ex4 p
inductive Ex5 {α β γ δ ε:Type} (p:α->β->γ->δ->ε->Prop):Prop|mk (a:α) (b:β) (c:γ) (d:δ) (e:ε) (h:p a b c d e):Ex5 p
inductive Ex6 {α β γ δ ε ζ:Type} (p:α->β->γ->δ->ε->ζ->Prop):Prop|mk (a:α) (b:β) (c:γ) (d:δ) (e:ε) (f:ζ) (h:p a b c d e f):Ex6 p
inductive Ex7 {α β γ δ ε ζ η:Type} (p:α->β->γ->δ->ε->ζ->η->Prop):Prop|mk (a:α) (b:β) (c:γ) (d:δ) (e:ε) (f:ζ) (g:η) (h:p a b c d e f g):Ex7 p
inductive An3 (a b c:Prop):Prop|mk (_:a) (_:b) (_:c):An3 a b c
inductive An4 (a b c d:Prop):Prop|mk (_:a) (_:b) (_:c) (_:d):An4 a b c d
inductive An5 (a b c d e:Prop):Prop|mk (_:a) (_:b) (_:c) (_:d) (_:e):An5 a b c d e
inductive An6 (a b c d e f:Prop):Prop|mk (_:a) (_:b) (_:c) (_:d) (_:e) (_:f):An6 a b c d e f
inductive An7 (a b c d e f g:Prop):Prop|mk (_:a) (_:b) (_:c) (_:d) (_:e) (_:f) (_:g):An7 a b c d e f g
inductive AV where
 | none
 | bool (b:Bool)
 | int (i:Int)
 | str (s:Str)
 | lit (s:Str)
 | tup (xs:tW)
 | fl (xs:tW)
 | fd (ks:tL) (xs:tW)
 | ws (ks:tL)
 | loc (l:Nat)
 | obj (d:Nat)
 | fn (a:Addr)
 | bf (b:BI)
 | bm (b:BI) (x:AV)
 | mt (f:Addr) (x:AV)
 | rng (a b:Int)
 | iv (x:AV)
 deriving Inhabited
inductive AObj where
 | list (xs:tW)
 | dict (kvs:tC)
 | set (ks:tL)
 | attrs (fs:List (Option AV))
 | code
 deriving Inhabited
abbrev Store:=List AObj
abbrev Vs:=List (Option AV)
structure Fn where
 qual:Str
 pars:List Str
 body:List Stmt
 scope:Scope
 dfl:List AV
 kwd:List (Str×AV)
 kws:List tL
structure Tab where
 gl:List (Str×AV)
 fn:List (Addr×Fn)
 C:Addr
 ini:Addr
 an:List Str
 ms:List (Str×Addr)
 mu:Nat->Bool
 lits:Nat->Bool
 lam:Pos
 fr:Addr
noncomputable def norm (v:AV):AV:=match v with
 | .lit s=>.str s
 | v=>v
noncomputable def q6n (ns:tL) (vs:Vs) (x:Str):Option AV:=match vs[ns.idxOf x]? with|some (some v)=>some v|_=>none
noncomputable def putV (ns:tL) (vs:Vs) (x:Str) (v:AV):Vs:=vs.set (ns.idxOf x) (some v)
noncomputable def locV:AV->Option Nat | .loc l=>some l|_=>none
noncomputable def strV:AV->Option Str | .str s=>some s|_=>none
noncomputable def intV:AV->Option Int | .int i=>some i|_=>none
noncomputable def q0i (Z:Store):AV->Option tW
 | .fl xs=>some xs
 | .loc l=>match Z[l]? with|some (.list xs)=>some xs|_=>none
 | _=>none
noncomputable def z0w (Z:Store) (l:Nat):Option tC:=match Z[l]? with|some (.dict kvs)=>some kvs|_=>none
noncomputable def q0l (Z:Store):AV->Option tC
 | .fd ks xs=>some (ks.zip xs)
 | .loc l=>z0w Z l
 | _=>none
noncomputable def k3t (Z:Store):AV->Option tL
 | .ws ks=>some ks
 | .loc l=>match Z[l]? with|some (.set ks)=>some ks|_=>none
 | _=>none
noncomputable def q0z:List AV->Option tL
 | []=>some []
 | .str s::r=>(q0z r).map (s :: ·)
 | .lit s::r=>(q0z r).map (s :: ·)
 | _::_=>none
noncomputable def q9f:List AV->Option (List Int)
 | []=>some []
 | x::r=>(intV x).bind λ s=>(q9f r).map (s :: ·)
noncomputable def q3x (Z:Store):AV->Option Bool
 | .none=>some false
 | .bool b=>some b
 | .int i=>some (i !=0)
 | .str s=>some (s.length !=0)
 | .fl xs=>some (!xs.isEmpty)
 | .fd ks _=>some (!ks.isEmpty)
 | .loc l=>match Z[l]? with
  | some (.list xs)=>some (!xs.isEmpty)
  | some (.dict kvs)=>some (!kvs.isEmpty)
  | _=>none
 | _=>none
noncomputable def catA (a b:Str):Option Str:=if a.length+b.length<=sizeLine then some (a++b)else none
noncomputable def k9u (xs:tW):Option tW:=if xs.length<=sizeLine then some xs else none
noncomputable def q4n (xs:tW):Nat->List AV
 | 0=>[]
 | n+1=>xs++q4n xs n
def addA (Z:Store) (a b:AV):Option AV:=match a with
 | .int i=>(intV b).map λ j=>.int (i+j)
 | .str x=>(strV b).bind λ y=>(catA x y).map .str
 | a=>(q0i Z a).bind λ xs=>(q0i Z b).bind λ ys=>(k9u (xs++ys)).map .fl
def mulA (Z:Store) (a b:AV):Option AV:=(intV b).bind λ j=>match a with
 | .int i=>if j.natAbs<2 ^ 30 then some (.int (i * j))else none
 | a=>(q0i Z a).bind λ xs=>if xs.length * j.toNat<=sizeLine/\j.natAbs<2 ^ 30 then some (.fl (q4n xs j.toNat))else none
def modA (a b:AV):Option AV:=(intV a).bind λ i=>(intV b).bind λ j=>if j=0 then none else some (.int (i.fmod j))
noncomputable def v4x (a b:AV):Option AV:=(intV a).bind λ i=>(intV b).bind λ j=>if j=0\/j.natAbs≥2 ^ 30 then none else some (.int (i.fdiv j))
def powA (a b:AV):Option AV:=(intV a).bind λ i=>(intV b).bind λ j=>if i=2/\0<=j/\j<30 then some (.int (2 ^ j.toNat))else none
def binA (Z:Store) (op:Operator) (a b:AV):Option AV:=match op with
 | .Add=>addA Z a b
 | .Mult=>mulA Z a b
 | .Mod=>modA a b
 | .FloorDiv=>v4x a b
 | .Pow=>powA a b
 | _=>none
noncomputable def optC {α β:Type} (o:Option α) (f:α->β) (x:β):β:=match o with|some a=>f a|none=>x
noncomputable def q1i (k:Str):List (Str×AV)->Option AV
 | []=>none
 | (x,v)::r=>if x=k then some v else q1i k r
theorem k9t {k x:Str} {v:AV} {r:tC}:q1i k ((x,v)::r)=if x=k then some v else q1i k r:=rfl
def k0b (a b:AV):Option Bool:=match a with
 | .int i=>(intV b).map λ j=>decide (i=j)
 | .str x=>(strV b).map λ y=>decide (x=y)
 | _=>none
noncomputable def eqDs (kb:tC):List (Str×AV)->Option Bool
 | []=>some true
 | kv::r=>optC (q1i kv.1 kb) (λ y=>(k0b kv.2 y).bind λ a=>(eqDs kb r).map λ b=>a&&b) (some false)
def eqA (Z:Store) (a b:AV):Option Bool:=(k0b a b).orElse λ J=>optC (q0i Z b) (λ ys=>(q0i Z a).bind λ xs=>if ys.isEmpty=true then some xs.isEmpty else none) ((q0l Z a).bind λ ka=>(q0l Z b).bind λ kb=>if ka.length=kb.length then eqDs kb ka else some false)
def inA (Z:Store) (a b:AV):Option Bool:=(strV a).bind λ x=>match b with
 | .str y=>some (PySem.Txt.contains y x)
 | b=>((q0i Z b).bind λ ys=>(q0z ys).map (·.contains x)).orElse λ J=>((k3t Z b).map λ ks=>ks.contains x).orElse λ J=>(q0l Z b).map λ kvs=>(kvs.map (·.1)).contains x
noncomputable def isA (a b:AV):Option Bool:=match b with
 | .none=>match a with
  | .none=>some true
  | .ws _=>some false
  | _=>none
 | _=>none
def ltA (f:Int->Int->Bool) (a b:AV):Option Bool:=(intV a).bind λ i=>(intV b).map λ j=>f i j
def cmpA (Z:Store) (op:CmpOp) (a b:AV):Option Bool:=match op with
 | .Eq=>eqA Z a b
 | .NotEq=>(eqA Z a b).map (!·)
 | .Lt=>ltA (λ i j=>decide (i<j)) a b
 | .Gt=>ltA (λ i j=>decide (i > j)) a b
 | .In=>inA Z a b
 | .NotIn=>(inA Z a b).map (!·)
 | .Is=>isA a b
 | .IsNot=>(isA a b).map (!·)
 | _=>none
abbrev Res:=Option (AV×Store)
noncomputable def z9v:Const->Option AV
 | .none=>some .none
 | .bool b=>some (.bool b)
 | .int i=>some (.int i)
 | .str s=>if s.length<=sizeLine then some (.str s)else Option.none
 | _=>Option.none
noncomputable def idxA (n:Nat) (i:Int):Option Nat:=if i.natAbs<2 ^ 30 then seqIndex? i n else none
noncomputable def q0x (k:Str) (v:AV) (kvs:tC):List (Str×AV):=
 if kvs.any (λ kv=>kv.1=k)then kvs.map (λ kv=>if kv.1=k then(kv.1,v)else kv)else kvs++[(k,v)]
noncomputable def j9y (n:Nat):Str:=⟨#[n]⟩
def getA (Z:Store) (o i:AV):Option AV:=match i with
 | .int i=>match o with
  | .tup xs=>(idxA xs.length i).bind (xs[·]?)
  | .str s=>(idxA s.length i).bind λ k=>s.cps[k]?.map λ c=>.str (j9y c)
  | o=>(q0i Z o).bind λ xs=>(idxA xs.length i).bind (xs[·]?)
 | .str k=>(q0l Z o).bind (q1i k)
 | _=>none
noncomputable def k7y (xs:tW) (lo hi:Option Int):List AV:=(xs.take (hi.elim xs.length (clipAt xs.length))).drop (lo.elim 0 (clipAt xs.length))
noncomputable def k7b:AV->Option (Option Int)
 | .none=>some Option.none
 | .int i=>some (some i)
 | _=>Option.none
def v3c (Z:Store) (o:AV) (lo hi:Option Int):Option AV:=match o with
 | .str s=>some (.str (PySem.Txt.slice s lo hi))
 | o=>(q0i Z o).map λ xs=>.fl (k7y xs lo hi)
def k7w (Z:Store) (o lo hi st:AV):Option AV:=(k7b lo).bind λ lo=>(k7b hi).bind λ hi=>match st with
 | .none=>v3c Z o lo hi
 | .int i=>if i = -1/\lo.isNone=true/\hi.isNone=true then(q0i Z o).map λ xs=>.fl xs.reverse else none
 | _=>none
noncomputable def q9o (T:Tab) (x:Str):Nat:=T.an.idxOf x
noncomputable def z0p (Z:Store) (d:Nat):Option (List (Option AV)):=match Z[d]? with|some (.attrs fs)=>some fs|_=>none
def q6h (T:Tab) (Z:Store) (o:AV) (x:Str):Option AV:=match o with
 | .obj d=>(z0p Z d).bind λ fs=>optC fs[q9o T x]? id ((T.ms.lookup x).map λ f=>.mt f (.obj d))
 | .loc l=>match Z[l]? with
  | some (.list _)=>if x=("append" : Str)then some (.bm .lAppend (.loc l))else none
  | _=>none
 | _=>none
noncomputable def q3z (T:Tab) (Z:Store) (o:AV) (x:Str) (v:AV):Option Store:=match o with
 | .obj d=>(z0p Z d).bind λ fs=>if q9o T x<fs.length then some (Z.set d (.attrs (fs.set (q9o T x) (some v))))else none
 | _=>none
inductive Callee where
 | val (f:AV)
 | fn (f:Addr) (self:AV)
 | bi (b:BI) (self:AV)
noncomputable def q1f (Z:Store) (l:Nat):Option tW:=match Z[l]? with|some (.list xs)=>some xs|_=>none
noncomputable def setC (Z:Store) (l:Nat):Option tL:=match Z[l]? with|some (.set ks)=>some ks|_=>none
noncomputable def q6i (i:Int):Str:=tF (toString i)
noncomputable def z4j:List (Str×BI):=[("append",.lAppend),("pop",.lPop),("sort",.lSort)]
noncomputable def z2u:List (Str×BI):=[("join",.sJoin),("rsplit",.sRsplit),("split",.sSplit)]
noncomputable def w4y:List (Str×BI):=[("items",.dItems),("get",.dGet),("update",.dUpdate)]
noncomputable def k1f:List (Str×BI):=[("add",.eAdd)]
def q7n (T:Tab) (Z:Store) (o:AV) (x:Str):Option Callee:=match o with
 | .obj d=>(z0p Z d).bind λ fs=>optC fs[q9o T x]? (Option.map .val) ((T.ms.lookup x).map λ f=>.fn f (.obj d))
 | .str s=>(z2u.lookup x).map (.bi · (.str s))
 | .fd ks xs=>(w4y.lookup x).map (.bi · (.fd ks xs))
 | .loc l=>optC (q1f Z l) (λ J=>(z4j.lookup x).map (.bi · (.loc l))) (optC (setC Z l) (λ J=>(k1f.lookup x).map (.bi · (.loc l))) ((z0w Z l).bind λ J=>(w4y.lookup x).map (.bi · (.loc l))))
 | _=>none
noncomputable def addK (k:Str) (ks:tL):List Str:=if ks.contains k then ks else ks++[k]
noncomputable def q0o (ks:tL):List Str->List Str:=List.foldl (λ a k=>addK k a) ks
noncomputable def z5h (a b:Int):List AV:=(List.range (b - a).toNat).map λ(k:Nat)=>.int (a+(k:Int))
noncomputable def w2j (kvs:tC):List AV:=kvs.map λ kv=>.tup [.str kv.1,kv.2]
def q5s (_:Store):AV->Option tW
 | .fl xs=>some xs
 | .rng a b=>if a.natAbs<2 ^ 30/\b.natAbs<2 ^ 30 then some (z5h a b)else none
 | .iv (.fd ks xs)=>some (w2j (ks.zip xs))
 | _=>none
noncomputable def popA (xs:tW):Option (List AV×AV):=match xs.getLast? with
 | some v=>some (xs.dropLast,v)
 | .none=>.none
noncomputable def fdV:AV->Option tC | .fd ks xs=>some (ks.zip xs)|_=>none
noncomputable def ivV:AV->Option AV | .iv d=>some d|_=>none
noncomputable def one:List AV->Option AV | [x]=>some x|_=>none
noncomputable def two:List AV->Option (AV×AV) | [x,y]=>some (x,y)|_=>none
noncomputable def tupV:AV->Option tW | .tup xs=>some xs|_=>none
def v2k (v:AV):Option (Str×Str):=(tupV v).bind λ xs=>(two xs).bind λ q=>(strV q.1).bind λ a=>(strV q.2).map λ b=>(a,b)
noncomputable def three:List AV->Option (AV×AV×AV) | [x,y,z]=>some (x,y,z)|_=>none
noncomputable def getP:List AV->Option (AV×AV×AV) | [x,y]=>some (x,y,.none) | [x,y,z]=>some (x,y,z)|_=>none
noncomputable def rngP:List AV->Option (AV×AV) | [y]=>some (.int 0,y) | [x,y]=>some (x,y)|_=>none
def lenA (v:AV) (Z:Store):Option Nat:=(q0i Z v).elim ((q0l Z v).map (·.length)) λ xs=>some xs.length
noncomputable def z8k:List AV->Option tE
 | []=>some []
 | x::r=>(v2k x).bind λ p=>(z8k r).map (p :: ·)
noncomputable def q0a (p:Str×Str):AV:=.tup [.str p.1,.str p.2]
noncomputable def w3b (a b:Str×Str):Bool:=if a.1=b.1 then decide (a.2.cps.toList<=b.2.cps.toList)else decide (a.1.cps.toList<=b.1.cps.toList)
noncomputable def q3r (xs:tL):List Str:=xs.mergeSort λ a b=>decide (a.cps.toList<=b.cps.toList)
noncomputable def q2d (xs:tE):List (Str×Str):=xs.mergeSort w3b
def w9q (kvs:tC):Option tE:=(q0z (kvs.map (·.2))).map λ vs=>(kvs.map (·.1)).zip vs
def v1n (v:AV) (Z:Store):Res:=optC (ivV v) (λ d=>(q0l Z d).bind λ kvs=>(w9q kvs).bind λ ps=>some (.fl (ps.map q0a),Z)) ((q0l Z v).bind λ kvs=>some (.fl (kvs.map λ kv=>.str kv.1),Z))
def z2t (v:AV) (Z:Store):Res:=optC (ivV v) (λ d=>(q0l Z d).bind λ kvs=>(w9q kvs).bind λ ps=>if ps.length<5 then some (.fl ((q2d ps).map q0a),Z)else none)
 (optC (q0l Z v) (λ kvs=>if(kvs.map (·.1)).length<64 then some (.fl ((q3r (kvs.map (·.1))).map .str),Z)else none) ((q0i Z v).bind λ xs=>(q0z xs).bind λ ts=>if ts.length<64 then some (.fl ((q3r ts).map .str),Z)else none))
def v0w (x y:AV) (v:AV) (Z:Store):Res:=(strV y).bind λ k=>(q0l Z x).map λ kvs=>((q1i k kvs).getD v,Z)
def biA (b:BI) (args:tW) (Z:Store):Res:=match b with
 | .lAppend=>(two args).bind λ(x,v)=>(locV x).bind λ l=>(q1f Z l).bind λ xs=>if xs.length<sizeLine then some (.none,Z.set l (.list (xs++[v])))else none
 | .lPop=>(one args).bind λ x=>(locV x).bind λ l=>(q1f Z l).bind λ xs=>(popA xs).map λ(r,v)=>(v,Z.set l (.list r))
 | .sJoin=>(two args).bind λ(x,v)=>(strV x).bind λ s=>(q0i Z v).bind λ xs=>(q0z xs).bind λ ts=>if(ts.map (·.length)).sum+ts.length * s.length<=sizeLine then some (.str (PySem.Txt.join s ts),Z)else none
 | .lSort=>(one args).bind λ x=>(locV x).bind λ l=>(q1f Z l).bind λ xs=>(z8k xs).bind λ ps=>if ps.length<5 then some (.none,Z.set l (.list ((q2d ps).map q0a)))else none
 | .sSplit=>(two args).bind λ(x,y)=>(strV x).bind λ s=>(strV y).bind λ c=>if c.length≠0/\(PySem.Txt.split s c).length<=sizeLine then some (.fl ((PySem.Txt.split s c).map .str),Z)else none
 | .str=>(one args).bind λ x=>(intV x).bind λ i=>if i.natAbs<10 ^ 6 then some (.str (q6i i),Z)else none
 | .dict=>(one args).bind λ x=>(q0l Z x).bind λ kvs=>if kvs.length<=15 then some (.fd (kvs.map (·.1)) (kvs.map (·.2)),Z)else none
 | .sRsplit=>(three args).bind λ(x,y,z)=>(strV x).bind λ s=>(strV y).bind λ c=>(intV z).bind λ k=>if c.length≠0/\k.natAbs<2 ^ 30/\(PySem.Txt.rsplitMax s c k).length<=sizeLine then some (.fl ((PySem.Txt.rsplitMax s c k).map .str),Z)else none
 | .dItems=>(one args).bind λ d=>(q0l Z d).map λ J=>(.iv d,Z)
 | .dGet=>(getP args).bind λ(x,y,z)=>v0w x y z Z
 | .dUpdate=>(two args).bind λ(x,y)=>(locV x).bind λ l=>(z0w Z l).bind λ kvs=>(fdV y).bind λ us=>if kvs.length+us.length<=100 then some (.none,Z.set l (.dict (us.foldl (λ a kv=>q0x kv.1 kv.2 a) kvs)))else none
 | .eAdd=>(two args).bind λ(x,y)=>(locV x).bind λ l=>(strV y).bind λ k=>(setC Z l).bind λ ks=>if ks.length+1<scanBound then some (.none,Z.set l (.set (addK k ks)))else none
 | .len=>(one args).bind λ v=>(lenA v Z).map λ(n:Nat)=>(AV.int (n:Int),Z)
 | .sum=>(one args).bind λ v=>(q0i Z v).bind λ xs=>(q9f xs).bind λ is=>some (.int is.sum,Z)
 | .range=>(rngP args).bind λ(x,y)=>(intV x).bind λ a=>(intV y).bind λ b=>some (.rng a b,Z)
 | .list=>(one args).bind λ v=>v1n v Z
 | .sorted=>(one args).bind λ x=>z2t x Z
 | .set=>if args.isEmpty then some (.loc Z.length,Z++[.set []])else(one args).bind λ v=>(q0i Z v).bind λ xs=>(q0z xs).bind λ ts=>if ts.length<=100 then some (.ws (q0o [] ts),Z)else none
inductive q1c where
 | next
 | ret (v:AV)
abbrev Kinds:=List (Str×NameKind)
abbrev ResS:=Option (q1c×Vs×Store)
structure Ev where
 e:Kinds->List Str->Expr->Vs->Store->Res
 t:Kinds->List Str->Expr->Vs->Store->Option (Bool×Store)
 a:Kinds->List Str->Expr->AV->Vs->Store->Option (Vs×Store)
 s:Kinds->List Str->Stmt->Vs->Store->ResS
noncomputable def w0t:Expr->Bool
 | .Starred _ _=>true
 | _=>false
noncomputable def j5f:Expr->Option (Expr×List Expr×List Keyword×Pos) | .Call f a k p=>some (f,a,k,p)|_=>none
noncomputable def k9c:Expr->Option (Expr×Str×Pos) | .Attribute o x p=>some (o,x,p)|_=>none
noncomputable def z4v:Expr->Option Str | .Name x _=>some x|_=>none
noncomputable def z3n:Expr->Option Const | .Constant c _ _=>some c|_=>none
noncomputable def j2s:Expr->Option (Const×Nat) | .Constant c _ p=>some (c,p.line)|_=>none
noncomputable def litV:AV->Option Str | .lit s=>some s|_=>none
noncomputable def intC:Const->Option Int | .int i=>some i|_=>none
noncomputable def subP:Expr->Option (Expr×Expr) | .Subscript o i _=>some (o,i)|_=>none
noncomputable def j6j:Option NameKind->Bool
 | some .local=>true
 | some .cell=>true
 | some .free=>true
 | _=>false
noncomputable def j6i (ks:Kinds) (x:Str):Bool:=!(x==("__debug__" : Str)||x==("__classdict__" : Str))&&j6j (ks.lookup x)
noncomputable def strC:Const->Option Str | .str s=>some s|_=>none
noncomputable def v3j:Expr->Option Expr | .Starred e _=>some e|_=>none
noncomputable def k7f:Expr->Option (Option Expr×Option Expr×Option Expr) | .Slice lo hi st _=>some (lo,hi,st)|_=>none
noncomputable def oneP {α:Type}:List α->Option α | [x]=>some x|_=>none
noncomputable def kwP:Keyword->Option (Str×Arguments×Expr×Scope×Pos)|⟨some kw,.Lambda la lb sc p,_⟩=>some (kw,la,lb,sc,p)|_=>none
noncomputable def twoP:List Expr->Option (Expr×Expr) | [a,b]=>some (a,b)|_=>none
abbrev q0b:=Addr->List AV->List (Str×AV)->Store->Res
section
variable (T:Tab) (C:q0b) (r:Ev) (ks:Kinds) (ns:tL)
noncomputable def z3v (ev:Expr->Vs->Store->Res):List Expr->Vs->Store->Option (List AV×Store)
 | [],_,Z=>some ([],Z)
 | e::es,vs,Z=>if w0t e then none else do
  let (v,Z) <-ev e vs Z
  let (xs,Z) <-z3v ev es vs Z
  some (v::xs,Z)
abbrev evals:List Expr->Vs->Store->Option (List AV×Store):=z3v (r.e ks ns)
noncomputable def rawC (ex:Expr):Option Str:=(j2s ex).bind λ q=>(strC q.1).bind λ s=>if T.lits q.2/\s.length<=sizeLine then some s else none
def rawE (ex:Expr) (vs:Vs) (Z:Store):Res:=optC (rawC T ex) (λ s=>some (.lit s,Z)) (r.e ks ns ex vs Z)
def litN (ex:Expr) (vs:Vs):Option AV:=(z4v ex).bind λ x=>if j6i ks x then q6n ns vs x else none
def litA (ex:Expr) (vs:Vs) (Z:Store):Option Str:=optC (z3n ex) (λ c=>(strC c).bind λ s=>if s.length<=sizeLine then some s else none)
 (optC (z4v ex) (λ J=>(litN ks ns ex vs).bind litV) ((subP ex).bind λ q=>(litN ks ns q.1 vs).bind λ v=>(z3n q.2).bind λ c=>(intC c).bind λ i=>(getA Z v (.int i)).bind litV))
noncomputable def q9q:List Keyword->Vs->Store->Option (List (Str×AV)×Store)
 | [],_,Z=>some ([],Z)
 | k::es,vs,Z=>k.arg.bind λ n=>do
  let (v,Z) <-r.e ks ns k.value vs Z
  let (xs,Z) <-q9q es vs Z
  some ((n,v)::xs,Z)
noncomputable def z8j (args:tW) (kws:tC) (Z:Store):Res:=do
 let (v,Z') <-C T.ini (.obj Z.length::args) kws (Z++[.attrs (T.an.map λ J=>.none)])
 match v with
 | .none=>some (.obj Z.length,Z')
 | _=>none
noncomputable def k5v (b:BI):Bool:=b==.lAppend||b==.sJoin
def q7i (f:AV) (args:tW) (kws:tC) (Z:Store):Res:=match f with
 | .fn a=>if a=T.C then z8j T C args kws Z else C a args kws Z
 | .bf b=>if kws.isEmpty then biA b args Z else none
 | .bm b x=>if(kws.isEmpty&&k5v b)=true then biA b (x::args) Z else none
 | .mt a x=>C a (x::args) kws Z
 | _=>none
def w4k (f:Callee) (args:tW) (kws:tC) (Z:Store):Res:=match f with
 | .val f=>q7i T C f args kws Z
 | .fn a x=>C a (x::args) kws Z
 | .bi b x=>if kws.isEmpty then biA b (x::args) Z else none
noncomputable def w6z:List Expr->Vs->Store->Option (Bool×Store)
 | [],_,Z=>some (true,Z)
 | c::cs,vs,Z=>do
  let (b,Z) <-r.t ks ns c vs Z
  if b then w6z cs vs Z else some (false,Z)
noncomputable def j5c (op:BoolOp):List Expr->Vs->Store->Res
 | [],_,_=>none
 | [e],vs,Z=>r.e ks ns e vs Z
 | e::es,vs,Z=>do
  let (v,Z) <-r.e ks ns e vs Z
  let b <-q3x Z v
  match op,b with
  | .And,false=>some (v,Z)
  | .Or,true=>some (v,Z)
  | _,_=>j5c op es vs Z
noncomputable def allA (op:BoolOp):List Expr->Vs->Store->Option (Bool×Store)
 | [],_,Z=>some (decide (op = .And),Z)
 | e::es,vs,Z=>do
  let (b,Z) <-r.t ks ns e vs Z
  match op,b with
  | .And,false=>some (false,Z)
  | .Or,true=>some (true,Z)
  | _,_=>allA op es vs Z
noncomputable def fmtV:AV->Option Str
 | .str s=>some s
 | .int i=>if i.natAbs<10 ^ 10 then some (q6i i)else none
 | _=>none
def v5c (vs:Vs) (x:Expr) (k:Str->Store->Option (Str×Store)) (acc:Str) (Z:Store):Option (Str×Store):=match x with
 | .Constant c _ _=>(strC c).bind λ s=>(catA acc s).bind λ a=>k a Z
 | .FormattedValue e cv sp _=>if cv = -1/\sp.isNone=true then do
  let (v,Z) <-r.e ks ns e vs Z
  (fmtV v).bind λ s=>(catA acc s).bind λ a=>k a Z
  else none
 | _=>none
noncomputable def z1f (vs:Vs):List Expr->Str->Store->Option (Str×Store)
 | []=>λ acc Z=>if acc.length<=sizeLine then some (acc,Z)else none
 | x::es=>λ acc Z=>v5c r ks ns vs x (z1f vs es) acc Z
end
noncomputable def z1m {β:Type} (f:AV->β->Store->Option (β×Store)):List AV->β->Store->Option (β×Store)
 | [],b,Z=>some (b,Z)
 | x::xs,b,Z=>(f x b Z).bind λ p=>z1m f xs p.1 p.2
noncomputable def k6i {β:Type} (l n:Nat) (f:AV->β->Store->Option (β×Store)):Nat->β->Store->Option (β×Store)
 | 0,b,Z=>(q1f Z l).bind λ xs=>if xs.length=n then some (b,Z)else none
 | j+1,b,Z=>(q1f Z l).bind λ xs=>if xs.length=n then xs[n - (j+1)]?.bind λ x=>(f x b Z).bind λ p=>k6i l n f j p.1 p.2 else none
noncomputable def q0s {β:Type} (v:AV) (f:AV->β->Store->Option (β×Store)) (b:β) (Z:Store):Option (β×Store):=match v with
 | .loc l=>(q1f Z l).bind λ xs=>k6i l xs.length f xs.length b Z
 | v=>(q5s Z v).bind λ xs=>z1m f xs b Z
noncomputable def q1j:Expr->Bool
 | .Set _ _ _=>false
 | _=>true
noncomputable def goOk:AV->Expr->Bool
 | .iv _,.Tuple _ _ _=>true
 | .iv _,_=>false
 | _,_=>true
section
variable (T:Tab) (C:q0b) (r:Ev)
noncomputable def z0u {β:Type} (ks:Kinds) (ns:tL) (emit:Vs->β->Store->Option (β×Store)):List Comprehension->Expr->List Expr->AV->Vs×β->Store->Option ((Vs×β)×Store)
 | [],target,ifs,src,b,Z=>if !goOk src target then none else q0s src (λ x (b:Vs×β) Z=>do
   let (vs,Z) <-r.a ks ns target x b.1 Z
   let (ok,Z) <-w6z r ks ns ifs vs Z
   if ok then do
    let (acc,Z) <-emit vs b.2 Z
    some ((vs,acc),Z)
   else some ((vs,b.2),Z)) b Z
 | g::gs,target,ifs,src,b,Z=>if !goOk src target then none else q0s src (λ x (b:Vs×β) Z=>do
   let (vs,Z) <-r.a ks ns target x b.1 Z
   let (ok,Z) <-w6z r ks ns ifs vs Z
   if ok then do
    let (v,Z) <-r.e ks ns g.iter vs Z
    if q1j g.iter then z0u ks ns emit gs g.target g.ifs v (vs,b.2) Z else none
   else some ((vs,b.2),Z)) b Z
noncomputable def q0m (names:Kinds):List Str:=(names.filter λ(_,k)=>k==.local).map (·.1)
noncomputable def z9u (ks:Kinds) (sc:Scope):Bool:=
 (sc.kind==.function)&&(sc.names.lookup ("resolved_names" : Str)).isNone&&(sc.names.map (·.1)).Nodup&&sc.names.all λ(n,k)=>k==.local||k==.globalImplicit||(k==.free&&(ks.lookup n==some .cell||ks.lookup n==some .free))
def k4o {β:Type} (ks:Kinds) (ns:tL) (b0:β) (emit:Kinds->List Str->Vs->β->Store->Option (β×Store)) (gens:List Comprehension) (sc:Scope) (vs:Vs) (Z:Store):Option (β×Store):=match gens with
 | []=>none
 | g::gs=>do
  let (v,Z) <-r.e ks ns g.iter vs Z
  if q1j g.iter&&z9u ks sc&&(g::gs).all (λ g=>g.is_async==0)then do
   let cn:=q0m sc.names
   let ((_,acc),Z) <-z0u r sc.names (cn++ns) (emit sc.names (cn++ns)) gs g.target g.ifs v (cn.map (λ J=>none)++vs,b0) Z
   some (acc,Z)
  else none
noncomputable def q2j (mu:Bool) (kvs:tC) (Z:Store):Res:=if mu then some (.loc Z.length,Z++[.dict kvs])else some (.fd (kvs.map (·.1)) (kvs.map (·.2)),Z)
noncomputable def j0w (mu:Bool) (ks:tL) (Z:Store):Res:=if ks.length<scanBound then(if mu then none else some (.ws ks,Z))else none
noncomputable def k4t (ks:Kinds) (ns:tL):List (Option Expr)->List Expr->Vs->Store->Option (List (Str×AV)×Store)
 | [],[],_,Z=>some ([],Z)
 | some k::kk,v::vv,vs,Z=>do
  let (x,Z) <-r.e ks ns k vs Z
  let (y,Z) <-r.e ks ns v vs Z
  let s <-strV x
  let (rest,Z) <-k4t ks ns kk vv vs Z
  some ((s,y)::rest,Z)
 | _,_,_,_=>none
def q3s (kvs:tC):List (Str×AV):=kvs.foldl (λ a kv=>q0x kv.1 kv.2 a) []
noncomputable def w7i (s:Str):List Nat×Option (List Nat):=
 (s.cps.toList.takeWhile (· !=125),if s.cps.toList.contains 125 then some ((s.cps.toList.dropWhile (· !=125)).drop 1)else none)
def j0k (a b:Str):Bool:=
 let (x,u):=w7i a
 let (y,v):=w7i b
 if x=y then(match u,v with
  | none,_=>true
  | some _,none=>false
  | some p,some q=>decide (p<=q))
 else decide (x<=y)
noncomputable def q4u (xs:tL):List Str:=xs.mergeSort j0k
noncomputable def q2y (Z:Store):Bool:=match Z[(0:Nat)]? with|some AObj.code=>true|_=>false
noncomputable def argP (la:Arguments):Option Str:=if la.posonlyargs.isEmpty&&la.vararg.isNone&&la.kwonlyargs.isEmpty&&la.kw_defaults.isEmpty&&la.kwarg.isNone&&la.defaults.isEmpty then(match la.args with
 | [a]=>if a.annotation.isNone then some a.arg else none
 | _=>none)else none
noncomputable def j6m (n:Str) (lb:Expr):Bool:=(j5f lb).any λ(f,as,kws,cp)=>kws.isEmpty&&((twoP as).any λ(a,b)=>z3n a==some (.str "}")&&z3n b==some (.int 1))&&
 (k9c f).any λ(o,sp,ap)=>sp==("split" : Str)&&ap.endLine==cp.line&&z4v o==some n
def w5f (la:Arguments) (lb:Expr) (sc:Scope):Bool:=(argP la).any λ n=>j6m n lb&&(sc.kind==.function&&!sc.isGenerator&&!sc.isCoroutine&&sc.names.lookup n==some .local&&(sc.names.lookup ("resolved_names" : Str)).isNone&&
 sc.names.all (λ p=>p.2==.local||p.2==.globalImplicit)&&!(n==("__debug__" : Str))&&!(n==("__classdict__" : Str))&&n==("n" : Str))
noncomputable def w4b:Option AV->Bool|some (.bf b)=>b==.sorted|_=>false
def k3e (x:AV) (Z:Store):Res:=match x with
 | .ws xs=>if xs.length<5/\q2y Z then some (.fl ((q4u xs).map .str),Z)else none
 | _=>none
noncomputable def q6q:Expr->Bool
 | .Call (.Name id _) [] [] _=>id !=("super" : Str)
 | _=>true
noncomputable def q0w (mu:Bool) (xs:tW) (Z:Store):Res:=if mu then some (.loc Z.length,Z++[.list xs])else some (.fl xs,Z)
def v2b (ks:Kinds) (ns:tL) (x:Str) (vs:Vs) (Z:Store):Res:=if x==("__debug__" : Str)||x==("__classdict__" : Str)then none else
 if j6j (ks.lookup x)then(q6n ns vs x).map (λ v=>(norm v,Z))else if ks.lookup x==some .globalImplicit then(T.gl.lookup x).map (·,Z)else none
def unE (ks:Kinds) (ns:tL) (op:UnaryOp) (e:Expr) (vs:Vs) (Z:Store):Res:=match op with
 | .Not=>do
  let (x,Z) <-r.e ks ns e vs Z
  let b <-q3x Z x
  some (.bool (!b),Z)
 | .USub=>do
  let (x,Z) <-r.e ks ns e vs Z
  (intV x).bind λ i=>some (.int (-i),Z)
 | _=>none
def v2x (ks:Kinds) (ns:tL) (e d:Expr) (p:Pos) (vs:Vs) (Z:Store):Res:=if w0t e then none else do
  let (x,Z) <-r.e ks ns e vs Z
  let (y,Z) <-r.e ks ns d vs Z
  (strV x).bind λ s=>(q0l Z y).bind λ kvs=>if kvs.length<=3 then j0w (T.mu p.line) (q0o [s] (kvs.map (·.1))) Z else none
def setE (ks:Kinds) (ns:tL) (es:List Expr) (k:Nat) (p:Pos) (vs:Vs) (Z:Store):Res:=if k=0 then(match es with
 | [e,d]=>(v3j d).bind λ d=>v2x T r ks ns e d p vs Z
 | _=>none)else none
noncomputable def j1g (ks:Kinds) (ns:tL) (vs:Vs) (o:Option Expr) (Z:Store):Res:=match o with|some e=>r.e ks ns e vs Z|none=>some (.none,Z)
def j3u (ks:Kinds) (ns:tL) (o:Expr) (lo hi st:Option Expr) (vs:Vs) (Z:Store):Res:=do
  let (x,Z) <-r.e ks ns o vs Z
  let (l,Z) <-j1g r ks ns vs lo Z
  let (h,Z) <-j1g r ks ns vs hi Z
  let (s,Z) <-j1g r ks ns vs st Z
  let v <-k7w Z x l h s
  some (v,Z)
def subE (ks:Kinds) (ns:tL) (o i:Expr) (vs:Vs) (Z:Store):Res:=optC (k7f i) (λ p=>j3u r ks ns o p.1 p.2.1 p.2.2 vs Z) (do
  let (x,Z) <-r.e ks ns o vs Z
  let (y,Z) <-r.e ks ns i vs Z
  let v <-getA Z x y
  some (norm v,Z))
def cmpE (ks:Kinds) (ns:tL) (a:Expr) (op:CmpOp) (b:Expr) (vs:Vs) (Z:Store):Option (Bool×Store):=if behindInMarks op b then none else do
  let (x,Z) <-r.e ks ns a vs Z
  let (y,Z) <-r.e ks ns b vs Z
  let v <-cmpA Z op x y
  some (v,Z)
def v2v (ks:Kinds) (ns:tL) (o:Expr) (args:List Expr) (kws:List Keyword) (vs:Vs) (Z:Store):Res:=do
   let (v,Z) <-r.e ks ns o vs Z
   (strV v).bind λ s=>(twoP args).bind λ(a,b)=>if kws.isEmpty then(litA ks ns a vs Z).bind λ p=>(litA ks ns b vs Z).bind λ q=>
    if p≠q/\s.length+(s.length+1) * q.length<=sizeLine then some (.str (PySem.Txt.replace s p q),Z)else none else none
def v1u (ks:Kinds) (ns:tL) (o:Expr) (x:Str) (args:List Expr) (kws:List Keyword) (vs:Vs) (Z:Store):Res:=do
  let (v,Z) <-r.e ks ns o vs Z
  let f <-q7n T Z v x
  let (xs,Z) <-evals r ks ns args vs Z
  let (kvs,Z) <-q9q r ks ns kws vs Z
  w4k T C f xs kvs Z
def j9x (ks:Kinds) (ns:tL) (f:Expr) (args:List Expr) (kws:List Keyword) (vs:Vs) (Z:Store):Res:=do
  let (v,Z) <-r.e ks ns f vs Z
  let (xs,Z) <-evals r ks ns args vs Z
  let (kvs,Z) <-q9q r ks ns kws vs Z
  q7i T C v xs kvs Z
def v6h (ks:Kinds) (ns:tL) (f:Expr) (args:List Expr) (l:Str×Arguments×Expr×Scope×Pos) (vs:Vs) (Z:Store):Res:=(z4v f).bind λ f=>(oneP args).bind λ e=>
  if w4b (T.gl.lookup f)&&!w0t e&&ks.lookup f==some .globalImplicit&&l.1==("key" : Str)&&w5f l.2.1 l.2.2.1 l.2.2.2.1&&l.2.2.2.2==T.lam&&(ks.lookup ("resolved_names" : Str)).isSome&&!(f==("__debug__" : Str))then do
   let (x,Z) <-r.e ks ns e vs Z
   k3e x Z
  else none
noncomputable def z9y (elt:Expr) (ks:Kinds) (ns:tL) (vs:Vs) (acc:tW) (Z:Store):Option (List AV×Store):=do
 let (v,Z) <-r.e ks ns elt vs Z
 if acc.length<sizeLine then some (acc++[v],Z)else none
noncomputable def wsV:AV->Option tL | .ws ks=>some ks|_=>none
noncomputable def lcP:Expr->Option (Expr×Comprehension×Scope) | .ListComp elt gens sc _=>(match gens with | [g]=>some (elt,g,sc)|_=>none)|_=>none
noncomputable def v1c:Option AV->Bool|some (.bf b)=>b==.set|_=>false
def j7s (g:Comprehension):Bool:=(j5f g.iter).any λ(f,_,_,_)=>(z4v f).any λ x=>v1c (T.gl.lookup x)
def setP (args:List Expr) (kws:List Keyword):Option (Expr×Comprehension×Scope):=(oneP args).bind λ a=>(lcP a).bind λ q=>if kws.isEmpty&&j7s T q.2.1 then some q else none
open Classical in
noncomputable def z8o (F:List AV->Option ((Vs×List AV)×Store)) (xs:tL) (Z:Store):Res:=
 if h:∃wA:List Str,∀p:List Str,p.Perm xs->∃q zs,F (p.map .str)=some ((q,zs.map .str),Z)/\zs.length<64/\q3r zs=wA then some (.fl (h.choose.map .str),Z)else none
def k1e (ks:Kinds) (ns:tL) (f:Expr) (elt:Expr) (g:Comprehension) (sc:Scope) (vs:Vs) (Z:Store):Res:=(z4v f).bind λ f=>
  if w4b (T.gl.lookup f)&&ks.lookup f==some .globalImplicit&&!(f==("__debug__" : Str))&&q1j g.iter&&z9u ks sc&&g.is_async==0 then do
   let (v,Z) <-r.e ks ns g.iter vs Z
   (wsV v).bind λ xs=>z8o (λ l=>z0u r sc.names (q0m sc.names++ns) (z9y r elt sc.names (q0m sc.names++ns)) [] g.target g.ifs (.fl l) ((q0m sc.names).map (λ J=>none)++vs,[]) Z) xs Z
  else none
def j9h (ks:Kinds) (ns:tL) (f:Expr) (args:List Expr) (kws:List Keyword) (cp:Pos) (vs:Vs) (Z:Store):Res:=optC (k9c f) (λ q=>if !q6q q.1||q.2.2.endLine !=cp.line||28<=args.length+kws.length then none else if q.2.1==("replace" : Str)then v2v r ks ns q.1 args kws vs Z else v1u T C r ks ns q.1 q.2.1 args kws vs Z)
  (optC ((oneP kws).bind kwP) (λ l=>v6h T r ks ns f args l vs Z) (optC (setP T args kws) (λ q=>k1e T r ks ns f q.1 q.2.1 q.2.2 vs Z) (j9x T C r ks ns f args kws vs Z)))
def k5d (k e:Expr) (ks:Kinds) (ns:tL) (vs:Vs) (acc:tC) (Z:Store):Option (List (Str×AV)×Store):=do
 let (x,Z) <-r.e ks ns k vs Z
 let (y,Z) <-r.e ks ns e vs Z
 (strV x).bind λ s=>if acc.length<sizeLine then some (q0x s y acc,Z)else none
def evE (ks:Kinds) (ns:tL) (ex:Expr) (vs:Vs) (Z:Store):Res:=match ex with
 | .Constant c _ _=>(z9v c).map (·,Z)
 | .Name x _=>v2b T ks ns x vs Z
 | .BoolOp op es _=>j5c r ks ns op es vs Z
 | .BinOp a op b _=>do
  let (x,Z) <-r.e ks ns a vs Z
  let (y,Z) <-r.e ks ns b vs Z
  let v <-binA Z op x y
  some (v,Z)
 | .UnaryOp op e _=>unE r ks ns op e vs Z
 | .IfExp t a b _=>do
  let (c,Z) <-r.t ks ns t vs Z
  if c then r.e ks ns a vs Z else r.e ks ns b vs Z
 | .Compare a ops bs _=>(oneP ops).bind λ op=>(oneP bs).bind λ b=>if behindInMarks op b then none else do
  let (x,Z) <-r.e ks ns a vs Z
  let (y,Z) <-r.e ks ns b vs Z
  let v <-cmpA Z op x y
  some (.bool v,Z)
 | .List es p=>do
  let (xs,Z) <-z3v (rawE T r ks ns) es vs Z
  if xs.length<=sizeLine then q0w (T.mu p.line) xs Z else none
 | .Tuple es _ _=>do
  let (xs,Z) <-evals r ks ns es vs Z
  if xs.length<=sizeLine then some (.tup xs,Z)else none
 | .ListComp elt gens sc p=>do
  let (acc,Z) <-k4o r ks ns [] (z9y r elt) gens sc vs Z
  q0w (T.mu p.line) acc Z
 | .DictComp k e gens sc p=>do
  let (acc,Z) <-k4o r ks ns [] (k5d r k e) gens sc vs Z
  q2j (T.mu p.line) acc Z
 | .Dict kk vv p=>do
  let (kvs,Z) <-k4t r ks ns kk vv vs Z
  if kk.length<=15 then q2j (T.mu p.line) (q3s kvs) Z else none
 | .Set es k p=>setE T r ks ns es k p vs Z
 | .Subscript o i _=>subE r ks ns o i vs Z
 | .Attribute o x _=>if !q6q o then none else do
  let (v,Z) <-r.e ks ns o vs Z
  let u <-q6h T Z v x
  some (norm u,Z)
 | .JoinedStr es _=>do
  let (s,Z) <-z1f r ks ns vs es Str.empty Z
  some (.str s,Z)
 | .Call f args kws cp=>j9h T C r ks ns f args kws cp vs Z
 | _=>none
def evT (ks:Kinds) (ns:tL) (ex:Expr) (vs:Vs) (Z:Store):Option (Bool×Store):=match ex with
 | .UnaryOp op e p=>(match op with
  | .Not=>do
   let (b,Z) <-r.t ks ns e vs Z
   some (!b,Z)
  | _=>do
   let (x,Z) <-r.e ks ns (.UnaryOp op e p) vs Z
   let b <-q3x Z x
   some (b,Z))
 | .BoolOp op es _=>allA r ks ns op es vs Z
 | .IfExp _ _ _ _=>none
 | .Compare a ops bs _=>(oneP ops).bind λ op=>(oneP bs).bind λ b=>cmpE r ks ns a op b vs Z
 | e=>do
  let (x,Z) <-r.e ks ns e vs Z
  let b <-q3x Z x
  some (b,Z)
noncomputable def q1x (ks:Kinds) (x:Str):Bool:=ks.lookup x==some .local||ks.lookup x==some .cell
noncomputable def asC {α:Type} (xs:tW) (k:AV->List AV->Option α):Option α:=match xs with|x::r=>k x r|_=>none
noncomputable def asE (xs:tW) (vs:Vs) (Z:Store):Option (Vs×Store):=match xs with | []=>some (vs,Z)|_=>none
noncomputable def putE (xs:tW) (vs:Vs):Option Vs:=match xs with | []=>some vs|_=>none
noncomputable def assigns (ks:Kinds) (ns:tL):List Expr->List AV->Vs->Store->Option (Vs×Store)
 | []=>λ xs vs Z=>asE xs vs Z
 | t::ts=>λ xs vs Z=>if w0t t then none else asC xs λ x xs=>do
  let (vs,Z) <-r.a ks ns t x vs Z
  assigns ks ns ts xs vs Z
def q1g (Z:Store):AV->Option tW
 | .tup xs=>some xs
 | v=>q0i Z v
def evA (ks:Kinds) (ns:tL) (t:Expr) (v:AV) (vs:Vs) (Z:Store):Option (Vs×Store):=match t with
 | .Name x _=>if q1x ks x then some (putV ns vs x v,Z)else none
 | .Tuple ts _ _=>do
  let xs <-q1g Z v
  assigns r ks ns ts xs vs Z
 | .Attribute o x _=>do
  let (u,Z) <-r.e ks ns o vs Z
  let Z <-q3z T Z u x v
  some (vs,Z)
 | .Subscript o i _=>do
  let (u,Z) <-r.e ks ns o vs Z
  let (y,Z) <-r.e ks ns i vs Z
  (locV u).bind λ l=>(strV y).bind λ k=>(z0w Z l).bind λ kvs=>if kvs.length<sizeLine then some (vs,Z.set l (.dict (q0x k v kvs)))else none
 | _=>none
noncomputable def q1b (ks:Kinds) (ns:tL):List Stmt->Vs->Store->ResS
 | [],vs,Z=>some (.next,vs,Z)
 | s::ss,vs,Z=>do
  let (f,vs,Z) <-r.s ks ns s vs Z
  match f with
  | .next=>q1b ks ns ss vs Z
  | .ret v=>some (.ret v,vs,Z)
noncomputable def forA (f:AV->Vs->Store->ResS):List AV->Vs->Store->ResS
 | [],vs,Z=>some (.next,vs,Z)
 | x::xs,vs,Z=>(f x vs Z).bind λ p=>match p.1 with
  | .next=>forA f xs p.2.1 p.2.2
  | .ret v=>some (.ret v,p.2.1,p.2.2)
noncomputable def frozen:AV->Bool
 | .loc _=>false
 | .iv _=>false
 | _=>true
noncomputable def q8q (ks:Kinds) (ns:tL) (v:AV):List Expr->Vs->Store->Option (Vs×Store)
 | [],vs,Z=>some (vs,Z)
 | t::ts,vs,Z=>do
  let (vs,Z) <-r.a ks ns t v vs Z
  q8q ks ns v ts vs Z
def augA (op:Operator) (old v:AV):Option AV:=match op with
 | .Add=>(match old with
  | .str x=>(strV v).bind λ y=>(catA x y).map .str
  | .int i=>(intV v).map λ j=>.int (i+j)
  | _=>none)
 | .Sub=>(intV old).bind λ i=>(intV v).map λ j=>.int (i - j)
 | _=>none
set_option backward.match.sparseCases true in
noncomputable def j8b (ks:Kinds) (targets:List Expr) (value:Expr):Option (Option tL):=match targets,value with
 | [.Tuple ts _ _],.Tuple vs _ _=>
  if !(ts.length==2||ts.length==3)||vs.length !=ts.length then some none
  else if vs.any (λ | .Starred ..=>true|_=>false)then some none
  else
   let line:=(ts.head?.map (·.pos.line)).getD 0
   let names:=ts.filterMap fun
    | .Name id pos=>if ks.lookup id==some .local&&pos.line==line then some id else none
    | _=>none
   if names.length !=ts.length||names.eraseDups.length !=names.length then some none
   else if vs.all (foldedForSure 8)then some none
   else if vs.all (constantsAlone 8)then none
   else some (some names)
 | [.List _ _],.Tuple _ _ _=>none
 | _,_=>some none
noncomputable def k1c (ns:tL) (ks:Kinds):List Str->List AV->Vs->Option Vs
 | []=>λ us vs=>putE us vs
 | x::xs=>λ us vs=>asC us λ v us=>if q1x ks x then k1c ns ks xs us (putV ns vs x v)else none
def z0n (ks:Kinds) (ns:tL) (ts:List Expr) (ex:Expr) (v:AV) (vs:Vs) (Z:Store):Option (Vs×Store):=(j8b ks ts ex).bind λ o=>
 optC o (λ names=>(q1g Z v).bind λ xs=>(k1c ns ks names.reverse xs.reverse vs).map (·,Z)) (q8q r ks ns v ts vs Z)
noncomputable def w5e:Expr->Bool
 | .ListComp ..=>true
 | .SetComp ..=>true
 | .DictComp ..=>true
 | _=>false
def augN (ks:Kinds) (ns:tL) (x:Str) (op:Operator) (e:Expr) (vs:Vs) (Z:Store):ResS:=if q1x ks x&&!(x==("__classdict__" : Str))then do
   let old <-q6n ns vs x
   let (v,Z) <-r.e ks ns e vs Z
   let new <-augA op (norm old) v
   some (.next,putV ns vs x new,Z)
  else none
def augO (ks:Kinds) (ns:tL) (o:Expr) (x:Str) (op:Operator) (e:Expr) (vs:Vs) (Z:Store):ResS:=do
  let (u,Z) <-r.e ks ns o vs Z
  let old <-q6h T Z u x
  let (v,Z) <-r.e ks ns e vs Z
  let new <-augA op (norm old) v
  let Z <-q3z T Z u x new
  some (.next,vs,Z)
noncomputable def delP (ts:List Expr):Option Expr:=(oneP ts).bind λ t=>(subP t).bind λ q=>(k7f q.2).bind λ z=>if z.1.isNone=true/\z.2.1.isNone=true/\z.2.2.isNone=true then some q.1 else none
def evS (ks:Kinds) (ns:tL) (st:Stmt) (vs:Vs) (Z:Store):ResS:=match st with
 | .Expr e _=>if w5e e then none else do
  let (_,Z) <-r.e ks ns e vs Z
  some (.next,vs,Z)
 | .Return o _=>optC o (λ e=>do
  let (v,Z) <-r.e ks ns e vs Z
  some (.ret v,vs,Z)) (some (.ret .none,vs,Z))
 | .Assign ts e _=>if ts.any w0t then none else do
  let (v,Z) <-rawE T r ks ns e vs Z
  let (vs,Z) <-z0n r ks ns ts e v vs Z
  some (.next,vs,Z)
 | .AugAssign t op e _=>optC (z4v t) (λ x=>augN r ks ns x op e vs Z) ((k9c t).bind λ q=>augO T r ks ns q.1 q.2.1 op e vs Z)
 | .If t a b _=>do
  let (c,Z) <-r.t ks ns t vs Z
  if c then q1b r ks ns a vs Z else q1b r ks ns b vs Z
 | .For t it body orelse _=>if orelse.isEmpty=true then if q1j it then do
   let (v,Z) <-r.e ks ns it vs Z
   if frozen v then do
    let xs <-q5s Z v
    forA (λ x vs Z=>do
     let (vs,Z) <-r.a ks ns t x vs Z
     q1b r ks ns body vs Z) xs vs Z
   else none
  else none else none
 | .Try body hs orelse fin _=>if hs.isEmpty=false/\orelse.isEmpty=true/\fin.isEmpty=true then q1b r ks ns body vs Z else none
 | .Delete ts _=>(delP ts).bind λ o=>do
  let (v,Z) <-r.e ks ns o vs Z
  (locV v).bind λ l=>(q1f Z l).bind λ J=>some (.next,vs,Z.set l (.list []))
 | _=>none
noncomputable def v0r:Ev:=⟨λ J J J J J=>none,λ J J J J J=>none,λ J J J J J J=>none,λ J J J J J=>none⟩
def v0t:Ev:=⟨evE T C r,evT r,evA T r,evS T r⟩
end
noncomputable def evN (T:Tab) (C:q0b):Nat->Ev
 | 0=>v0r
 | n+1=>v0t T C (evN T C n)
noncomputable def z7h:List Str->List AV->Option tC
 | [],[]=>some []
 | p::ps,x::xs=>(z7h ps xs).map ((p,x) :: ·)
 | _,_=>none
noncomputable def q0d (sc:Scope):List Str:=(sc.names.filter λ(_,k)=>k==.local||k==.cell).map (·.1)
theorem bind_some {α β:Type} {o:Option α} {f:α->Option β} {b:β} (h:(o >>= f)=some b):∃a,o=some a/\f a=some b:=Option.bind_eq_some_iff.mp h
theorem k2a {a b:q1c} {v v':Vs} {x x':Store} (h:some (a,v,x)=some (b,v',x')) {P:q1c->Vs->Store->Prop} (k:P a v x):P b v' x':=by cases h;exact k
theorem q0h {α β:Type} {a b:α} {x y:β} (h:some (a,x)=some (b,y)):b=a/\y=x:=by cases h;exact⟨rfl,rfl⟩
theorem fl_3 {a b:q1c} {v v':Vs} {x x':Store} (h:some (a,v,x)=some (b,v',x')):b=a/\v'=v/\x'=x:=by cases h;exact⟨rfl,rfl,rfl⟩
theorem nope {α:Type} {a:α} {P:Prop} (h:(none:Option α)=some a):P:=nomatch h
theorem ifNo {c:Prop} [Decidable c] {α:Type} {x:Option α} {a:α} {P:Prop} (h:(if c then none else x)=some a) (k:¬ c->x=some a->P):P:=
 if q:c then nope ((if_pos q).symm.trans h)else k q ((if_neg q).symm.trans h)
theorem q0k {c:Prop} [Decidable c] {α:Type} {x:Option α} {a:α} {P:Prop} (h:(if c then x else none)=some a) (k:c->x=some a->P):P:=
 if q:c then k q ((if_pos q).symm.trans h)else nope ((if_neg q).symm.trans h)
theorem ifE {c:Prop} [Decidable c] {α:Type} {x y:Option α} {a:α} {P:Prop} (h:(if c then x else y)=some a) (k:c->x=some a->P) (l:¬ c->y=some a->P):P:=
 if q:c then k q ((if_pos q).symm.trans h)else l q ((if_neg q).symm.trans h)
theorem mapE {α β:Type} {o:Option α} {f:α->β} {b:β} {P:β->Prop} (h:o.map f=some b) (k:∀a,o=some a->P (f a)):P b:=by
 induction o with
 | none=>exact nope h
 | some a=>obtain rfl:=zE h;exact k a rfl
theorem k6d {Z:Store} {l:Nat} {α:Type} {f:List AV->Option α} {a:α} {P:Prop} (h:(match Z[l]? with|some (.list xs)=>f xs|_=>none)=some a) (k:∀xs,Z[l]? = some (.list xs)->f xs=some a->P):P:=by
 revert h k
 cases Z[l]? with
 | none=>exact λ h J=>nope h
 | some o=>induction o with
  | list xs=>exact λ h k=>k xs rfl h
  | _=>exact λ h J=>nope h
theorem j4s {Z:Store} {l:Nat} {α:Type} {f:List (Option AV)->Option α} {a:α} {P:Prop} (h:(match Z[l]? with|some (.attrs xs)=>f xs|_=>none)=some a) (k:∀xs,Z[l]? = some (.attrs xs)->f xs=some a->P):P:=by
 revert h k
 cases Z[l]? with
 | none=>exact λ h J=>nope h
 | some o=>induction o with
  | attrs xs=>exact λ h k=>k xs rfl h
  | _=>exact λ h J=>nope h
theorem q6m {Z:Store} {l:Nat} {xs:tW} (h:q1f Z l=some xs):Z[l]? = some (.list xs):=by
 unfold q1f at h
 revert h
 cases Z[l]? with
 | none=>exact λ h=>nope h
 | some o=>induction o with
  | list xs=>exact λ h=>congrArg (λ x=>some (AObj.list x)) (zE h)
  | _=>exact λ h=>nope h
theorem v2y {Z:Store} {l:Nat} {xs:tL} (h:setC Z l=some xs):Z[l]? = some (.set xs):=by
 unfold setC at h
 revert h
 cases Z[l]? with
 | none=>exact λ h=>nope h
 | some o=>induction o with
  | set xs=>exact λ h=>congrArg (λ x=>some (AObj.set x)) (zE h)
  | _=>exact λ h=>nope h
theorem v5j {Z:Store} {l:Nat} {α:Type} {f:List AV->Option α} {f':List (Str×AV)->Option α} {a:α} {P:Prop} (h:(match Z[l]? with|some (.list xs)=>f xs|some (.dict xs)=>f' xs|_=>none)=some a)
  (k:∀xs,Z[l]? = some (.list xs)->f xs=some a->P) (k':∀xs,Z[l]? = some (.dict xs)->f' xs=some a->P):P:=by
 revert h k k'
 cases Z[l]? with
 | none=>exact λ h J J=>nope h
 | some o=>induction o with
  | list xs=>exact λ h k J=>k xs rfl h
  | dict xs=>exact λ h J k=>k xs rfl h
  | _=>exact λ h J J=>nope h
theorem v6d {Z:Store} {l:Nat} {α:Type} {f:List Str->Option α} {a:α} {P:Prop} (h:(match Z[l]? with|some (.set xs)=>f xs|_=>none)=some a) (k:∀xs,Z[l]? = some (.set xs)->f xs=some a->P):P:=by
 revert h k
 cases Z[l]? with
 | none=>exact λ h J=>nope h
 | some o=>induction o with
  | set xs=>exact λ h k=>k xs rfl h
  | _=>exact λ h J=>nope h
theorem mapQ {α β:Type} {o:Option α} {f:α->β} {b:β} {P:Prop} (h:o.map f=some b) (k:∀a,o=some a->f a=b->P):P:=match o,h with
 | some a,h=>k a rfl (zE h)
theorem optE {α β:Type} {o:Option α} {f:α->Option β} {b:β} {P:Prop} (h:o.bind f=some b) (k:∀a,o=some a->f a=some b->P):P:=match o,h with
 | some a,h=>k a rfl h
theorem orE' {α:Type} {o:Option α} {f:Unit->Option α} {b:α} {P:Prop} (h:o.orElse f=some b) (k:o=some b->P) (l:f ()=some b->P):P:=match o,h with
 | some _,h=>k h
 | none,h=>l h
theorem j3c {x:AV} {i:Int} (h:intV x=some i):x = .int i:=by rcases x<;>first|exact nope h|exact congrArg _ (zE h)
theorem z0e {x:AV} {i:Str} (h:strV x=some i):x = .str i:=by rcases x<;>first|exact nope h|exact congrArg _ (zE h)
theorem j3h {x:AV} {i:Nat} (h:locV x=some i):x = .loc i:=by rcases x<;>first|exact nope h|exact congrArg _ (zE h)
theorem optM {α β:Type} {o:Option α} {f:α->Option β} {x:Option β} {b:β} {P:Prop} (h:optC o f x=some b) (k:∀a,o=some a->f a=some b->P) (l:o=none->x=some b->P):P:=match o,h with
 | some a,h=>k a rfl h
 | none,h=>l rfl h
theorem w3a {α:Type} {xs:List α} {x:α} (h:oneP xs=some x):xs=[x]:=match xs,h with
 | [_],h=>congrArg (λ x=>[x]) (zE h)
theorem k9h {e f:Expr} {a:List Expr} {kw:List Keyword} {p:Pos} (h:j5f e=some (f,a,kw,p)):e = .Call f a kw p:=by
 induction e using Expr.casesOn with
 | Call=>rcases h;rfl
 | _=>exact nope h
theorem z0o {e o:Expr} {x:Str} {p:Pos} (h:k9c e=some (o,x,p)):e = .Attribute o x p:=by
 induction e using Expr.casesOn with
 | Attribute=>rcases h;rfl
 | _=>exact nope h
theorem w0w {e:Expr} {x:Str} (h:z4v e=some x):∃p,e = .Name x p:=by
 induction e using Expr.casesOn with
 | Name=>obtain rfl:=zE h;exact⟨_,rfl⟩
 | _=>exact nope h
theorem k8j {e o i:Expr} (h:subP e=some (o,i)):∃p,e = .Subscript o i p:=by
 induction e using Expr.casesOn with
 | Subscript=>rcases h;exact⟨_,rfl⟩
 | _=>exact nope h
theorem j1v {e x:Expr} (h:v3j e=some x):∃p,e = .Starred x p:=by
 induction e using Expr.casesOn with
 | Starred=>obtain rfl:=zE h;exact⟨_,rfl⟩
 | _=>exact nope h
theorem z5e {e:Expr} {lo hi st:Option Expr} (h:k7f e=some (lo,hi,st)):∃p,e = .Slice lo hi st p:=by
 induction e using Expr.casesOn with
 | Slice=>rcases h;exact⟨_,rfl⟩
 | _=>exact nope h
theorem w0q {e:Expr} {c:Const} (h:z3n e=some c):∃k p,e = .Constant c k p:=by
 induction e using Expr.casesOn with
 | Constant=>obtain rfl:=zE h;exact⟨_,_,rfl⟩
 | _=>exact nope h
theorem z9h {c:Const} {s:Str} (h:strC c=some s):c = .str s:=by
 induction c with
 | str=>exact congrArg _ (zE h)
 | _=>exact nope h
theorem k8o {es:List Expr} {a b:Expr} (h:twoP es=some (a,b)):es=[a,b]:=match es,h with
 | [_,_],h=>by obtain⟨rfl,rfl⟩:=Prod.mk.inj (zE h);rfl
theorem q8n {e:Expr} (h:¬ w0t e=true):∀x p,e≠.Starred x p:=λ x p q=>h (q▸rfl)
theorem k4q {e:Expr} {c:Const} {l:Nat} (h:j2s e=some (c,l)):∃k p,e = .Constant c k p:=by
 induction e using Expr.casesOn with
 | Constant=>rcases h;exact⟨_,_,rfl⟩
 | _=>exact nope h
theorem j3f {x:AV} {i:Str} (h:litV x=some i):x = .lit i:=by rcases x<;>first|exact nope h|exact congrArg _ (zE h)
theorem j6h {c:Const} {i:Int} (h:intC c=some i):c = .int i:=by
 induction c with
 | int=>exact congrArg _ (zE h)
 | _=>exact nope h
theorem v3q {x:AV} {i:tW} (h:tupV x=some i):x = .tup i:=by rcases x<;>first|exact nope h|exact congrArg _ (zE h)
theorem v3r:∀{xs:tW} {q:AV×AV},two xs=some q->xs=[q.1,q.2]
 | [],_,h=>nope h
 | [_],_,h=>nope h
 | [_,_],_,h=>congrArg (λ q:AV×AV=>[q.1,q.2]) (zE h)
 | _::_::_::_,_,h=>nope h
theorem j1f {x:AV} {p:Str×Str} (h:v2k x=some p):x=q0a p:=
 optE h λ xs h1 h=>optE h λ q h2 h=>optE h λ a h3 h=>mapQ h λ b h4 e=>by
  rw[v3q h1,v3r h2,z0e h3,z0e h4,<-e];rfl
theorem z7p {Z:Store} {l:Nat} {xs:tC} (h:z0w Z l=some xs):Z[l]? = some (.dict xs):=by
 unfold z0w at h
 revert h
 cases Z[l]? with
 | none=>exact λ h=>nope h
 | some o=>induction o with
  | dict xs=>exact λ h=>congrArg (λ x=>some (AObj.dict x)) (zE h)
  | _=>exact λ h=>nope h
theorem delE {ts:List Expr} {o:Expr} {P:Prop} (h:delP ts=some o) (k:∀p q,ts=[.Subscript o (.Slice none none none p) q]->P):P:=by
 refine optE h λ t h1 h=>optE h λ q h2 h=>optE h λ z h3 h=>q0k h λ hz h9=>?_
 obtain⟨q1,q2⟩:=q
 obtain⟨z1,z2,z3⟩:=z
 obtain⟨p,e0⟩:=k8j h2
 obtain⟨p',e⟩:=z5e h3
 obtain rfl:q1=o:=zE h9
 obtain⟨e1,e2,e3⟩:=hz
 exact k p' p (by rw[w3a h1,e0,show q2=_ from e,show z1=none from Option.isNone_iff_eq_none.mp e1,show z2=none from Option.isNone_iff_eq_none.mp e2,show z3=none from Option.isNone_iff_eq_none.mp e3])
theorem q7s {Z:Store} {α:Type} {a:α} {P:Prop} {l:Nat} {f:List AV->Option α} (h:(q1f Z l).bind f=some a) (k:∀xs,Z[l]? = some (.list xs)->f xs=some a->P):P:=optE h λ xs e h=>k xs (q6m e) h
theorem v6e {Z:Store} {α:Type} {a:α} {P:Prop} {l:Nat} {f:List Str->Option α} (h:(setC Z l).bind f=some a) (k:∀xs,Z[l]? = some (.set xs)->f xs=some a->P):P:=optE h λ xs e h=>k xs (v2y e) h
theorem q5l {α β:Type} {o:Option α} {f:α->Option β} {b:β} {P:Prop} (h:(o >>= f)=some b) (k:∀a,o=some a->f a=some b->P):P:=(bind_some h).elim λ a x=>k a x.1 x.2
theorem q0e {α γ β:Type} {o:Option (α×γ)} {f:α×γ->Option β} {b:β} {P:Prop} (h:(o >>= f)=some b) (k:∀a c,o=some (a,c)->f (a,c)=some b->P):P:=(bind_some h).elim λ a x=>k a.1 a.2 x.1 x.2
theorem nob {P:Prop} (h:false=true):P:=nomatch h
noncomputable def z9x (n:Str):List Stmt->Option (Arguments×List Stmt×Scope)
 | []=>none
 | .FunctionDef m a b _ _ _ sc _ _ _::r=>if m=n then some (a,b,sc)else z9x n r
 | _::r=>z9x n r
noncomputable def z7m (n:Str):List Stmt->List Stmt
 | []=>[]
 | .ClassDef m _ _ b _ _ _ _ _ _ _::r=>if m=n then b else z7m n r
 | _::r=>z7m n r
noncomputable def mkFn (d:Option (Arguments×List Stmt×Scope)) (qual:Str) (dfl:tW) (kwd:tC) (kws:List tL):Fn:=match d with
 | some (a,b,sc)=>⟨qual,a.args.map (·.arg),b,sc,dfl,kwd,kws⟩
 | none=>⟨qual,[],[],default,[],[],[]⟩
end Mine
end
noncomputable section
set_option tactic.hygienic false
namespace Mine
noncomputable def body:List Stmt:=PySem.Challenge.pw_dr0133_03.main.body
def cb:List Stmt:=z7m "C14NWriterTarget" body
def meth (n:String) (dfl:tW) (kwd:tC) (kws:List tL:=[[]]):Fn:=mkFn (z9x (tF n) cb) (tF ("C14NWriterTarget."++n)) dfl kwd kws
def top (n:String):Fn:=mkFn (z9x (tF n) body) (tF n) [] [] [[]]
noncomputable def nsM:AV:=.fd ["http://www.w3.org/XML/1998/namespace","http://www.w3.org/1999/xhtml","http://www.w3.org/1999/02/22-rdf-syntax-ns#","http://schemas.xmlsoap.org/wsdl/","http://www.w3.org/2001/XMLSchema","http://www.w3.org/2001/XMLSchema-instance","http://purl.org/dc/elements/1.1/"] [.str "xml",.str "html",.str "rdf",.str "wsdl",.str "xs",.str "xsi",.str "dc"]
def T:Tab where
 gl:=[("C14NWriterTarget",.fn 150),("_law_walk",.fn 173),("_law_key",.fn 180),("_law_uri",.fn 187),("_law_name",.fn 194),("_law_chain",.fn 199),("_escape_cdata_c14n",.fn 161),("_escape_attrib_c14n",.fn 168),("sum",.bf .sum),("len",.bf .len),("list",.bf .list),("range",.bf .range),("set",.bf .set),("sorted",.bf .sorted),("str",.bf .str),("dict",.bf .dict),("_namespace_map",nsM)]
 fn:=[(161,top "_escape_cdata_c14n"),(168,top "_escape_attrib_c14n"),(173,top "_law_walk"),(180,top "_law_key"),(187,top "_law_uri"),(194,top "_law_name"),(199,top "_law_chain"),(204,top "law"),
  (67,meth "__init__" [] [("with_comments",.bool false),("strip_text",.bool false),("rewrite_prefixes",.bool false),("qname_aware_tags",.none),("qname_aware_attrs",.none),("exclude_attrs",.none),("exclude_tags",.none)] [[],["exclude_tags","exclude_attrs"]]),
  (90,meth "_qname" [.none] []),(97,meth "data" [] []),(106,meth "_flush" [.bm .sJoin (.str "")] []),(113,meth "start_ns" [] []),(120,meth "start" [] []),(126,meth "_start" [.none] []),(133,meth "end" [] [])]
 C:=150
 ini:=67
 an:=["_write","_data","_with_comments","_strip_text","_exclude_attrs","_exclude_tags","_rewrite_prefixes","_qname_aware_tags","_find_qname_aware_attrs","_declared_ns_stack","_ns_stack","_prefix_map","_preserve_space","_pending_start","_root_seen","_root_done","_ignored_depth","_iter_namespaces"]
 ms:=[("_qname",90),("data",97),("_flush",106),("start_ns",113),("start",120),("_start",126),("end",133)]
 mu:=λ n=>[15,29,30,33,34,35,111,141,144,161,221,240,244,252,258].contains n
 lits:=λ n=>[236,237].contains n
 lam:=⟨139,71,139,96⟩
 fr:=199
noncomputable def fnOf (a:Addr):Fn:=(T.fn.lookup a).getD ⟨default,[],[],default,[],[],[]⟩
def j9k (Z:Store) (x:AV) (a:Str):Res:=(q6h T Z x a).bind λ u=>some (norm u,Z)
end Mine
end
noncomputable section
set_option tactic.hygienic false
set_option maxHeartbeats 8000000
namespace Mine
structure Cx where
 prog:Program
 w:World
 K:Frag
 C:Addr
 an:List Str
 h₀:Heap
 gA:Addr
 bA:Addr
 mg:Str->Option Value
 mb:Str->Option Value
 lc:Addr
 lP:Addr
 lp:Pos
 lq:Str
noncomputable abbrev Cx.M (cx:Cx):Model:=model cx.prog cx.w
noncomputable abbrev Cx.sk (cx:Cx):KeyKind cx.prog cx.w Str:=strKind cx.prog cx.w
noncomputable def erase (h:Heap) (a:Addr):Heap:={ h with objs:=h.objs.setIfInBounds a ⟨.none,none,.freed,#[]⟩ }
def cx3 (K:Frag) (w:World) (h:Heap) (mg mb:Str->Option Value):Cx where
 prog:=PySem.Challenge.rw_dr0133_03.row.prog
 w:=w
 K:=K
 C:=150
 an:=T.an
 h₀:=erase h 123
 gA:=mainGlobals
 bA:=builtinsNs
 mg:=mg
 mb:=mb
 lc:=125
 lP:=123
 lp:=T.lam
 lq:=tF "C14NWriterTarget._start"++".<locals>."
inductive j8w (w:World) (s:Shared) (mg mb:Str->Option Value):Prop
 | mk (h:(hd.heap_1 w.params).In s.heap->s.heap.get? 123=some (tabObj #[])->s.heap.Ns mainGlobals mg->s.heap.Ns builtinsNs mb->s.heap.NoLimit->(∀x:Str,x≠"__name__"->mb x=bootBuiltins x)->
  (∃bm ob,mg "__builtins__" = some (.ref bm)/\bm≠builtinsNs/\s.heap.get? bm=some ob/\ob.cls = .type "module"/\ob.dict=some builtinsNs/\ob.data = .plain)->
  ∀{fa l:Addr} (_:mg (tF "law")=some (.ref fa)) {vs:tU} {xs:List Int} {m:Nat} (_:s.heap.get? l=some { cls:=.type "list",data:=.seq vs.toArray m }) (_:IntsAre vs xs) (_:xs.length<=63),
  wpAny (model PySem.Challenge.rw_dr0133_03.row.prog w) callerA (call (.ref fa) [.ref l]) (λ v s'=>v = .bool true/\OldK s.heap s'.heap/\s'.os=s.os/\s'.gens=s.gens) (λ J J=>False) s)
inductive Bad (c:Cx):Prop
 | mk (w:World) (s:Shared) (mg mb:Str->Option Value) (e:c=cx3 (hd.heap_1 w.params) w s.heap mg mb) (n:¬ j8w w s mg mb)
open Classical in
theorem v0b:∃c:Cx,(∃c,Bad c)->Bad c:=if h:∃c,Bad c then h.elim λ c b=>⟨c,λ J=>b⟩else⟨cx3 default (aWorld 0) default (λ J=>none) λ J=>none,λ b=>absurd b h⟩
noncomputable def cx:Cx:=Classical.choose v0b
theorem v0a {c:Cx} (h:Bad c):Bad cx:=Classical.choose_spec v0b ⟨c,h⟩
end Mine
end
noncomputable section
set_option tactic.hygienic false
namespace Mine
structure G where
 I:Addr->Option Obj
 ρ:List Addr
 τ:Tok->Option Str
abbrev v5i (items:Array Value) (o:Obj):Prop:=∃n,o={ cls:=.type "list",data:=.seq items n }
abbrev tupO (items:Array Value) (o:Obj):Prop:=∃n,o={ cls:=.type "tuple",data:=.seq items n }
noncomputable abbrev z3h (v u:Value):Obj:={ cls:=.type "builtin_function_or_method",data:=.fields #[v,u] }
noncomputable abbrev v2w (a b c:Value):Obj:={ cls:=.type "range",data:=.fields #[a,b,c] }
inductive z9j (cx:Cx) (o:Obj):Prop
 | mk (es:Array (Int×Value)) (ep:Nat) (t:SetTable) (d:o.data = .set es ep t) (l:cx.w.params.followText "set-order" = false->t.led=true) (p:1<=es.size->t.plain=false) (q:es.size=1->t.mask=7/\t.dummies = #[])
section
variable (cx:Cx) (g:G) (n:Nat) (ks:tL) (P:List Value->Prop) (R:Value->Prop) (v:Value)
inductive RStr (s:Str):Prop|mk (t:Tok) (e:v = .str s t) (z:s.length<=sizeLine)
inductive RLit (s:Str):Prop|mk (t:Tok) (e:v = .str s t) (z:s.length<=sizeLine) (i:g.τ t=some s) (n:t≠0)
inductive RTup:Prop|mk (a:Addr) (o:Obj) (vs:tU) (e:v = .ref a) (i:g.I a=some o) (t:tupO vs.toArray o) (r:P vs) (z:n<=sizeLine)
inductive RFl:Prop|mk (a:Addr) (o:Obj) (vs:tU) (e:v = .ref a) (i:g.I a=some o) (t:v5i vs.toArray o) (r:P vs) (z:n<=sizeLine)
inductive RFd:Prop|mk (a:Addr) (o:Obj) (vs:tU) (e:v = .ref a) (i:g.I a=some o) (d:o.IsDictOf cx.sk (ks.zip vs)) (l:ks.length=n) (r:P vs) (q:(a==sysModules)=false) (z:ks.length<=sizeLine) (y:∀k∈ks,k.length<=sizeLine)
inductive RWs:Prop|mk (a:Addr) (o:Obj) (e:v = .ref a) (i:g.I a=some o) (d:o.SetObjOf cx.sk (λ k=>ks.contains k) ks.length) (z:ks.length<scanBound) (n:ks.Nodup) (y:∀k∈ks,k.length<=sizeLine) (l:z9j cx o)
inductive ROb:Prop|mk (x a:Addr) (e:v = .ref x) (i:g.I x=some (instObj cx.C a)) (l:g.ρ[n]? = some a)
inductive RBm (b:Value):Prop|mk (a:Addr) (u:Value) (e:v = .ref a) (i:g.I a=some (z3h b u)) (r:R u)
inductive RMt (f:Addr):Prop|mk (a:Addr) (u:Value) (e:v = .ref a) (i:g.I a=some (methodObj (.ref f) u)) (r:R u)
inductive RRng (x y:Int):Prop|mk (p:Addr) (o:Obj) (e:v = .ref p) (i:g.I p=some o) (r:∃t u w',o=v2w (.int x t) (.int y u) (.int 1 w'))
inductive RIv:Prop|mk (a:Addr) (o:Obj) (d:Addr) (e:v = .ref a) (i:g.I a=some o) (c:o.cls = .type "dict_items") (f:o.data = .fields #[.ref d]) (r:R (.ref d))
end
mutual
noncomputable def VR (cx:Cx) (g:G):AV->Value->Prop
 | .none,v=>v = .none
 | .bool b,v=>v = .bool b
 | .int i,v=>∃t,v = .int i t
 | .str s,v=>RStr v s
 | .lit s,v=>RLit g v s
 | .tup xs,v=>RTup g xs.length (VRs cx g xs) v
 | .fl xs,v=>RFl g xs.length (VRs cx g xs) v
 | .fd ks xs,v=>RFd cx g xs.length ks (VRs cx g xs) v
 | .ws ks,v=>RWs cx g ks v
 | .loc l,v=>∃a,v = .ref a/\g.ρ[l]? = some a
 | .obj d,v=>ROb cx g d v
 | .fn a,v=>v = .ref a
 | .bf b,v=>v=b.val
 | .bm b x,v=>RBm g (VR cx g x) v b.val
 | .mt f x,v=>RMt g (VR cx g x) v f
 | .rng a b,v=>RRng g v a b
 | .iv x,v=>RIv g (VR cx g x) v
noncomputable def VRs (cx:Cx) (g:G):List AV->List Value->Prop
 | [],vs=>vs=[]
 | x::xs,vs=>∃v r,vs=v::r/\VR cx g x v/\VRs cx g xs r
end
structure G.le (g g':G):Prop where
 I:∀a o,g.I a=some o->g'.I a=some o
 ρ:∃r,g'.ρ=g.ρ++r
 τ:∀t x,g.τ t=some x->g'.τ t=some x
theorem G.le.refl (g:G):g.le g:=⟨λ J J e=>e,⟨[],by simp⟩,λ J J e=>e⟩
theorem G.le.trans {g g' g'':G} (a:g.le g') (b:g'.le g''):g.le g'':=by
 obtain⟨r,hr⟩:=a.ρ
 obtain⟨q,hq⟩:=b.ρ
 exact⟨λ x o e=>b.I x o (a.I x o e),⟨r++q,by rw[hq,hr,List.append_assoc]⟩,λ t x e=>b.τ t x (a.τ t x e)⟩
theorem G.le.at {g g':G} (a:g.le g') {l:Nat} {x:Addr} (e:g.ρ[l]? = some x):g'.ρ[l]? = some x:=by
 obtain⟨r,hr⟩:=a.ρ
 rw[hr,List.getElem?_append_left (List.getElem?_eq_some_iff.mp e).1];exact e
section
variable {g g':G} (le:g.le g')
include le
theorem RTup.mono (k:∀vs,P vs->P' vs) (h:RTup g n P v):RTup g' n P' v:=by cases h with|mk a o vs e i t r z=>exact⟨a,o,vs,e,le.I _ _ i,t,k _ r,z⟩
theorem RFl.mono (k:∀vs,P vs->P' vs) (h:RFl g n P v):RFl g' n P' v:=by cases h with|mk a o vs e i t r z=>exact⟨a,o,vs,e,le.I _ _ i,t,k _ r,z⟩
theorem RFd.mono (k:∀vs,P vs->P' vs) (h:RFd cx g n ks P v):RFd cx g' n ks P' v:=by cases h with|mk a o vs e i d l r q z y=>exact⟨a,o,vs,e,le.I _ _ i,d,l,k _ r,q,z,y⟩
theorem RLit.mono (h:RLit g v s):RLit g' v s:=by cases h with|mk t e z i j=>exact⟨t,e,z,le.τ _ _ i,j⟩
theorem RWs.mono (h:RWs cx g ks v):RWs cx g' ks v:=by cases h with|mk a o e i d z n y l=>exact⟨a,o,e,le.I _ _ i,d,z,n,y,l⟩
theorem ROb.mono (h:ROb cx g n v):ROb cx g' n v:=by cases h with|mk x a e i j=>exact⟨x,a,e,le.I _ _ i,le.at j⟩
theorem RBm.mono (k:∀u,R u->R' u) (h:RBm g R v b):RBm g' R' v b:=by cases h with|mk a u e i r=>exact⟨a,u,e,le.I _ _ i,k _ r⟩
theorem RMt.mono (k:∀u,R u->R' u) (h:RMt g R v f):RMt g' R' v f:=by cases h with|mk a u e i r=>exact⟨a,u,e,le.I _ _ i,k _ r⟩
theorem RRng.mono (h:RRng g v x y):RRng g' v x y:=by cases h with|mk p o e i r=>exact⟨p,o,e,le.I _ _ i,r⟩
theorem RIv.mono (k:∀u,R u->R' u) (h:RIv g R v):RIv g' R' v:=by cases h with|mk a o d e i c f r=>exact⟨a,o,d,e,le.I _ _ i,c,f,k _ r⟩
end
mutual
theorem VR.mono {g g':G} (le:g.le g'):∀{x:AV} {v:Value},VR cx g x v->VR cx g' x v
 | .none,_,h=>h
 | .bool _,_,h=>h
 | .int _,_,h=>h
 | .str _,_,h=>h
 | .tup _,_,h=>RTup.mono le (λ J r=>VRs.mono le r) h
 | .fl _,_,h=>RFl.mono le (λ J r=>VRs.mono le r) h
 | .fd _ _,_,h=>RFd.mono le (λ J r=>VRs.mono le r) h
 | .lit _,_,h=>RLit.mono le h
 | .ws _,_,h=>RWs.mono le h
 | .loc _,_,h=>let ⟨a,e,i⟩:=h;⟨a,e,le.at i⟩
 | .obj _,_,h=>ROb.mono le h
 | .fn _,_,h=>h
 | .bf _,_,h=>h
 | .bm _ _,_,h=>RBm.mono le (λ J r=>VR.mono le r) h
 | .mt _ _,_,h=>RMt.mono le (λ J r=>VR.mono le r) h
 | .rng _ _,_,h=>RRng.mono le h
 | .iv _,_,h=>RIv.mono le (λ J r=>VR.mono le r) h
theorem VRs.mono {g g':G} (le:g.le g'):∀{xs:tW} {vs:tU},VRs cx g xs vs->VRs cx g' xs vs
 | [],_,h=>h
 | _::_,_,h=>let ⟨v,r,e,h,t⟩:=h;⟨v,r,e,VR.mono le h,VRs.mono le t⟩
end
section
theorem VRs.nil:VRs cx g [] []:=by rfl
theorem VRs.cons {x:AV} {xs:tW} {v:Value} {vs:tU} (h:VR cx g x v) (t:VRs cx g xs vs):VRs cx g (x::xs) (v::vs):=by
 skip;exact⟨v,vs,rfl,h,t⟩
theorem VRs.uncons {x:AV} {xs:tW} {vs:tU} (h:VRs cx g (x::xs) vs):∃v r,vs=v::r/\VR cx g x v/\VRs cx g xs r:=by
 exact h
theorem VRs.of_nil {vs:tU} (h:VRs cx g [] vs):vs=[]:=h
theorem VRs.length:∀{xs:tW} {vs:tU},VRs cx g xs vs->xs.length=vs.length
 | [],_,h=>by rw[h.of_nil];rfl
 | _::_,_,h=>by obtain⟨v,r,rfl,_,t⟩:=h.uncons;simp[t.length]
theorem VRs.append:∀{xs ys:tW} {vs us:tU},VRs cx g xs vs->VRs cx g ys us->VRs cx g (xs++ys) (vs++us)
 | [],_,_,_,h,k=>by rw[h.of_nil];exact k
 | _::_,_,_,_,h,k=>by obtain⟨v,r,rfl,a,t⟩:=h.uncons;exact .cons a (t.append k)
theorem VRs.get:∀{xs:tW} {vs:tU} {i:Nat} {x:AV},VRs cx g xs vs->xs[i]? = some x->∃v,vs[i]? = some v/\VR cx g x v
 | [],_,_,_,_,e=>by trivial
 | y::ys,_,0,x,h,e=>by rcases _:h.uncons with⟨v,r,rfl,a,t⟩;simp at e;subst e;exact⟨v,rfl,a⟩
 | y::ys,_,i+1,x,h,e=>by obtain⟨v,r,rfl,a,t⟩:=h.uncons;simp at e;obtain⟨u,p,q⟩:=t.get e;exact⟨u,by exact p,q⟩
theorem VRs.take:∀{xs:tW} {vs:tU} (n:Nat),VRs cx g xs vs->VRs cx g (xs.take n) (vs.take n)
 | _,_,0,_=>by exact VRs.nil
 | [],_,_+1,h=>by simp only[h.of_nil];exact VRs.nil
 | _::_,_,n+1,h=>by rcases _:h.uncons with⟨v,r,rfl,a,t⟩;exact VRs.cons a (t.take n)
theorem VRs.drop:∀{xs:tW} {vs:tU} (n:Nat),VRs cx g xs vs->VRs cx g (xs.drop n) (vs.drop n)
 | _,_,0,h=>by exact h
 | [],_,_+1,h=>by simp only[h.of_nil];exact VRs.nil
 | _::_,_,n+1,h=>by rcases _:h.uncons with⟨v,r,rfl,a,t⟩;exact t.drop n
theorem VRs.reverse:∀{xs:tW} {vs:tU},VRs cx g xs vs->VRs cx g xs.reverse vs.reverse
 | [],_,h=>by rw[h.of_nil];simpa using VRs.nil
 | _::_,_,h=>by obtain⟨v,r,rfl,a,t⟩:=h.uncons;simpa using t.reverse.append (.cons a .nil)
end
inductive NsN (h:Heap) (a:Addr) (m:Str->Option Value) (k:Nat):Prop
 | mk (o:Obj) (es:Array DictEntry) (ep:Nat) (e:h.get? a=some o) (d:o.data = .dict es ep) (s:StrKeys es) (f:∀name,nsFind es name=m name) (z:es.size<=k)
theorem NsN.ns {h:Heap} {a:Addr} {m:Str->Option Value} {k:Nat} (x:NsN h a m k):h.Ns a m:=let ⟨o,es,ep,a,b,c,d,_⟩:=x;⟨o,es,ep,a,b,c,d⟩
section
variable (cx:Cx) (g:G) (h:Heap) (a:Addr)
inductive v4c (xs:tW):Prop|mk (vs:tU) (p:h.PlainList a vs.toArray) (r:VRs cx g xs vs) (z:xs.length<=sizeLine)
inductive v4b (kvs:tC):Prop
 | mk (vs:tU) (p:h.DictOf cx.sk a ((kvs.map (·.1)).zip vs)) (r:VRs cx g (kvs.map (·.2)) vs) (q:(a==sysModules)=false) (z:kvs.length<=sizeLine) (y:∀kv∈kvs,kv.1.length<=sizeLine)
def j4b (fs:List (Option AV)) (m:Str->Option Value):Prop:=∀x v,x∈cx.an->fs[cx.an.idxOf x]? = some (some v)->∃u,m x=some u/\VR cx g v u
def j4a (fs:List (Option AV)) (m:Str->Option Value):Prop:=∀x,(x∈cx.an->fs[cx.an.idxOf x]? = some none)->m x=none
inductive j8x (fs:List (Option AV)):Prop
 | mk (m:Str->Option Value) (n:NsN h a m (fs.countP (·.isSome))) (l:fs.length=cx.an.length) (k:cx.an.length<=100) (i:j4b cx g fs m) (o:j4a cx fs m)
def j8t (ps:Array Value):Prop:=codeAmong cx.lp ps.toList=none\/∃c' oc fs t,codeAmong cx.lp ps.toList=some (.ref c')/\g.I c'=some oc/\oc.data = .fields fs/\fs[1]? = some (.str (cx.lq++"<lambda>") t)
inductive v4a:Prop|mk (e:a=cx.lP) (ps:Array Value) (o:h.get? a=some (tabObj ps)) (t:TriplesOk ps.toList) (c:j8t cx g ps)
end
def OR (cx:Cx) (g:G) (h:Heap) (a:Addr):AObj->Prop
 | .list xs=>v4c cx g h a xs
 | .dict kvs=>v4b cx g h a kvs
 | .set ks=>h.SetOf cx.sk a (λ k=>ks.contains k) ks.length/\ks.Nodup
 | .attrs fs=>j8x cx g h a fs
 | .code=>v4a cx g h a
theorem OR.mono {g g':G} {h h':Heap} {a:Addr} {o:AObj} (le:g.le g') (k:∀ob,h.get? a=some ob->h'.get? a=some ob) (x:OR cx g h a o):OR cx g' h' a o:=by
 induction o with
 | list xs=>obtain⟨vs,⟨n,e⟩,q,z⟩:=x;exact⟨vs,⟨n,k _ e⟩,q.mono le,z⟩
 | dict kvs=>rcases _:x with⟨vs,⟨ob,es,ep,e,r⟩,q,z,y,w⟩;exact⟨vs,⟨ob,es,ep,k _ e,r⟩,q.mono le,z,y,w⟩
 | set ks=>rcases _:x with⟨⟨ob,es,ep,t,e,r⟩,q⟩;exact⟨⟨ob,es,ep,t,k _ e,r⟩,q⟩
 | attrs fs=>obtain⟨m,⟨ob,es,ep,e,r,q,w,z⟩,r4,r6,r5,r7⟩:=x;exact⟨m,⟨ob,es,ep,k _ e,r,q,w,z⟩,r4,r6,λ y v hy e=>let ⟨u,a,b⟩:=r5 y v hy e;⟨u,a,b.mono le⟩,r7⟩
 | code=>obtain⟨e0,ps,e,t,r⟩:=x;exact⟨e0,ps,k _ e,t,r.imp id λ⟨c',oc,fs,t,a,b,r⟩=>⟨c',oc,fs,t,a,le.I _ _ b,r⟩⟩
theorem OR.there {g:G} {h:Heap} {a:Addr} {o:AObj} (x:OR cx g h a o):∃ob,h.get? a=some ob:=by
 induction o with
 | list xs=>rcases _:x with⟨vs,⟨n,e⟩,_,_⟩;exact⟨_,e⟩
 | dict kvs=>rcases _:x with⟨vs,⟨ob,es,ep,e,r⟩,_,_,_,_⟩;exact⟨ob,e⟩
 | set ks=>rcases _:x with⟨⟨ob,es,ep,t,e,r⟩,q⟩;exact⟨ob,e⟩
 | attrs fs=>obtain⟨m,⟨ob,_,_,e,_,_,_,_⟩,_,_,_,_⟩:=x;exact⟨ob,e⟩
 | code=>obtain⟨_,ps,e,_,_⟩:=x;exact⟨_,e⟩
structure Inv (cx:Cx) (g:G) (Z:Store) (s:Shared):Prop where
 sub:∀a o,g.I a=some o->s.heap.get? a=some o
 base:∀a o,cx.h₀.get? a=some o->g.I a=some o
 len:g.ρ.length=Z.length
 nodup:g.ρ.Nodup
 apart:∀a∈g.ρ,g.I a=none
 cells:∀(l:Nat) (o:AObj) (a:Addr),Z[l]? = some o->g.ρ[l]? = some a->OR cx g s.heap a o
 one:1<=s.toks
 tok:∀t x,g.τ t=some x->t<s.toks
structure Stp (own:List Addr) (g:G) (s:Shared) (g':G) (s':Shared):Prop where
 le:g.le g'
 toks:s.toks<=s'.toks
 keep:∀b o,s.heap.get? b=some o->b∉g.ρ->b∉own->s'.heap.get? b=some o
 new:∀b o,s.heap.get? b=some o->b∉g.ρ->b∉g'.ρ
 newI:∀b o,s.heap.get? b=some o->g.I b=none->g'.I b=none
 stay:∀b o,s.heap.get? b=some o->∃o',s'.heap.get? b=some o'
 gens:s'.gens=s.gens
 os:s'.os=s.os
theorem Stp.refl (own:List Addr) (g:G) (s:Shared):Stp own g s g s:=⟨.refl g,jZ _,λ J J e J J=>e,λ J J J h=>h,λ J J J h=>h,λ J o e=>⟨o,e⟩,rfl,rfl⟩
theorem Stp.trans {own:List Addr} {g g' g'':G} {s s' s'':Shared} (a:Stp own g s g' s') (b:Stp own g' s' g'' s''):Stp own g s g'' s'':=
 ⟨a.le.trans b.le,jH a.toks b.toks,λ x o e h q=>b.keep x o (a.keep x o e h q) (a.new x o e h) q,
  λ x o e h=>let ⟨o',e'⟩:=a.stay x o e;b.new x o' e' (a.new x o e h),
  λ x o e h=>let ⟨o',e'⟩:=a.stay x o e;b.newI x o' e' (a.newI x o e h),
  λ x o e=>let ⟨o',e'⟩:=a.stay x o e;b.stay x o' e',b.gens.trans a.gens,b.os.trans a.os⟩
theorem Stp.wider {own own':List Addr} {g g':G} {s s':Shared} (a:Stp own g s g' s') (h:∀b∈own,b∈own'):Stp own' g s g' s':=
 ⟨a.le,a.toks,λ x o e q z=>a.keep x o e q λ y=>z (h x y),a.new,a.newI,a.stay,a.gens,a.os⟩
theorem Stp.tks {own:List Addr} {g:G} {s:Shared} {t:Nat} (h:s.toks<=t):Stp own g s g { s with toks:=t }:=⟨.refl g,h,λ J J e J J=>e,λ J J J h=>h,λ J J J h=>h,λ J o e=>⟨o,e⟩,rfl,rfl⟩
theorem Inv.toks {g:G} {Z:Store} {s:Shared} (h:tI) {t:Nat} (ht:s.toks<=t):Inv cx g Z { s with toks:=t }:=
 ⟨h.sub,h.base,h.len,h.nodup,h.apart,h.cells,jH h.one ht,λ x y e=>jK (h.tok x y e) ht⟩
theorem Inv.cell {g:G} {Z:Store} {s:Shared} (h:tI) {l:Nat} {o:AObj} (e:Z[l]? = some o):∃a,g.ρ[l]? = some a/\OR cx g s.heap a o:=by
 have hl:l<g.ρ.length:=by rw[h.len];exact(List.getElem?_eq_some_iff.mp e).1
 exact⟨g.ρ[l],by simp[hl],h.cells l o _ e (by simp[hl])⟩
theorem Inv.notCell {g:G} {Z:Store} {s:Shared} (h:tI) {a:Addr} {o:Obj} (e:g.I a=some o):a∉g.ρ:=λ q=>by rw[h.apart a q]at e;cases e
theorem Inv.keep {g:G} {Z:Store} {s:Shared} (h:tI) {h':Heap} {t:Nat} (ht:s.toks<=t) (k:∀b o,s.heap.get? b=some o->h'.get? b=some o):Inv cx g Z { s with heap:=h',toks:=t }:=
 ⟨λ a o e=>k _ _ (h.sub a o e),h.base,h.len,h.nodup,h.apart,λ l o a e q=>(h.cells l o a e q).mono (.refl g) λ J e=>k _ _ e,jH h.one ht,λ x y e=>jK (h.tok x y e) ht⟩
theorem Stp.keeps {own:List Addr} {g:G} {s:Shared} {h':Heap} {t:Nat} (ht:s.toks<=t) (k:∀b o,s.heap.get? b=some o->h'.get? b=some o):Stp own g s g { s with heap:=h',toks:=t }:=
 ⟨.refl g,ht,λ b o e J J=>k b o e,λ J J J h=>h,λ J J J h=>h,λ b o e=>⟨o,k b o e⟩,rfl,rfl⟩
noncomputable def G.freeze (g:G) (a:Addr) (o:Obj):G:=⟨λ b=>if b=a then some o else g.I b,g.ρ,g.τ⟩
theorem G.freeze_self (g:G) (a:Addr) (o:Obj):(g.freeze a o).I a=some o:=by simp[G.freeze]
theorem G.freeze_le {g:G} {a:Addr} {o:Obj} (h:g.I a=none):g.le (g.freeze a o):=
 ⟨λ b x e=>by
  show(if b=a then some o else g.I b)=some x
  by_cases q:b=a
  ·subst q;rw[h]at e;cases e
  ·rw[if_neg q];exact e,⟨[],by simp[G.freeze]⟩,λ J J e=>e⟩
theorem Inv.fresh {g:G} {Z:Store} {s:Shared} (h:tI) {a:Addr} (e:s.heap.get? a=none):g.I a=none/\a∉g.ρ:=by
 constructor
 ·generalize q:g.I a=zzy
  induction zzy with
  | none=>rfl
  | some o=>rw[h.sub a o q]at e;contradiction
 ·intro q
  obtain⟨l,hl,rfl⟩:=List.getElem_of_mem q
  have hs:l<Z.length:=by simp only[<-h.len];exact hl
  obtain⟨ob,hob⟩:=(h.cells l Z[l] g.ρ[l] (by simp[hs]) (by simp[hl])).there
  rw[hob]at e;contradiction
theorem Inv.freeze {g:G} {Z:Store} {s:Shared} (h:tI) {h':Heap} {t:Nat} {a:Addr} {o:Obj} (ht:s.toks<=t) (hn:s.heap.get? a=none) (hn':h'.get? a=some o)
  (k:∀b o,s.heap.get? b=some o->h'.get? b=some o):Inv cx (g.freeze a o) Z { s with heap:=h',toks:=t }:=by
 obtain⟨f1,f2⟩:=h.fresh hn
 refine⟨λ b x e=>?_,λ b x e=>?_,h.len,h.nodup,λ b q=>?_,λ l x b e q=>(h.cells l x b e q).mono (G.freeze_le f1) λ J e=>k _ _ e,jH h.one ht,λ x y e=>jK (h.tok x y e) ht⟩
 ·have e:(if b=a then some o else g.I b)=some x:=e
  by_cases q:b=a
  ·subst q;rw[if_pos rfl]at e;obtain rfl:=zE e;exact hn'
  ·rw[if_neg q]at e;exact k _ _ (h.sub b x e)
 ·exact(G.freeze_le f1).I _ _ (h.base b x e)
 ·show(if b=a then some o else g.I b)=none
  have hb:b≠a:=λ e=>by simp only[e]at q;exact f2 q
  rw[if_neg hb];exact h.apart b q
theorem Stp.freeze {own:List Addr} {g:G} {Z:Store} {s:Shared} (h:tI) {h':Heap} {t:Nat} {a:Addr} {o:Obj} (ht:s.toks<=t) (hn:s.heap.get? a=none)
  (k:∀b o,s.heap.get? b=some o->h'.get? b=some o):Stp own g s (g.freeze a o) { s with heap:=h',toks:=t }:=
 ⟨G.freeze_le (h.fresh hn).1,ht,λ b o e J J=>k b o e,λ J J J h=>h,λ b x e q=>by
  show(if b=a then some o else g.I b)=none
  rw[if_neg λ z=>by simp only[z,hn]at e;contradiction];exact q,λ b o e=>⟨o,k b o e⟩,rfl,rfl⟩
noncomputable def G.cell (g:G) (a:Addr):G:=⟨g.I,g.ρ++[a],g.τ⟩
theorem G.cell_le (g:G) (a:Addr):g.le (g.cell a):=⟨λ J J e=>e,⟨[a],rfl⟩,λ J J e=>e⟩
theorem Inv.newCell {g:G} {Z:Store} {s:Shared} (h:tI) {h':Heap} {t:Nat} {a:Addr} {o:AObj} (ht:s.toks<=t) (hn:s.heap.get? a=none) (ho:OR cx (g.cell a) h' a o)
  (k:∀b o,s.heap.get? b=some o->h'.get? b=some o):Inv cx (g.cell a) (Z++[o]) { s with heap:=h',toks:=t }:=by
 obtain⟨f1,f2⟩:=h.fresh hn
 refine⟨λ b x e=>k _ _ (h.sub b x e),h.base,by simp[G.cell,h.len],?_,λ b q=>?_,λ l x b e q=>?_,jH h.one ht,λ x y e=>jK (h.tok x y e) ht⟩
 ·show(g.ρ++[a]).Nodup
  rw[List.nodup_append]
  exact⟨h.nodup,by simp,λ x hx y hy=>by simp at hy;subst hy;exact λ e=>f2 (e▸hx)⟩
 ·rcases _:zK q with q|q
  ·exact h.apart b q
  ·simp at q;subst q;exact f1
 ·have hl:=h.len
  by_cases hlt:l<Z.length
  ·rw[List.getElem?_append_left hlt]at e
   have q:(g.ρ++[a])[l]? = some b:=q
   rw[List.getElem?_append_left (by simp +arith [*])]at q
   exact(h.cells l x b e q).mono (g.cell_le a) λ J e=>k _ _ e
  ·have:l=Z.length:=by
    have:=(List.getElem?_eq_some_iff.mp e).1
    rw[zI]at this
    exact Nat.le_antisymm (Nat.le_of_lt_succ this) (Nat.le_of_not_lt hlt)
   subst this
   simp at e;subst e
   have q:(g.ρ++[a])[Z.length]? = some b:=q
   rw[<-hl]at q;simp at q;subst q
   exact ho
theorem Stp.newCell {own:List Addr} {g:G} {s:Shared} {h':Heap} {t:Nat} {a:Addr} (ht:s.toks<=t) (hn:s.heap.get? a=none)
  (k:∀b o,s.heap.get? b=some o->h'.get? b=some o):Stp own g s (g.cell a) { s with heap:=h',toks:=t }:=
 ⟨g.cell_le a,ht,λ b o e J J=>k b o e,λ b o e q z=>by
  rcases zK z with z|z
  ·exact q z
  ·have z:b=a:=by simpa using z
   rw[z,hn]at e;exact absurd e (by simp),λ J J J q=>q,λ b o e=>⟨o,k b o e⟩,rfl,rfl⟩
theorem Inv.setCellK {g:G} {Z:Store} {s:Shared} (h:tI) {h':Heap} {t:Nat} {l:Nat} {a:Addr} {o:AObj} (ht:s.toks<=t) (hl:g.ρ[l]? = some a) (ho:OR cx g h' a o) (hs:∀b o,b≠a->s.heap.get? b=some o->h'.get? b=some o) :
  Inv cx g (Z.set l o) { s with heap:=h',toks:=t }:=by
 refine⟨λ b x e=>?_,h.base,by simp[h.len],h.nodup,h.apart,λ m x b e q=>?_,jH h.one ht,λ x y e=>jK (h.tok x y e) ht⟩
 ·exact hs b x (λ z=>h.notCell e (z▸List.mem_of_getElem? hl)) (h.sub b x e)
 ·by_cases hm:l=m
  ·subst hm
   rw[hl]at q;obtain rfl:=zE q
   rw[List.getElem?_set]at e
   simp only[if_true]at e
   split at e
   ·obtain rfl:=zE e;exact ho
   ·contradiction
  ·rw[List.getElem?_set_ne hm]at e
   have hab:b≠a:=λ z=>hm (by
    subst z
    exact(List.getElem?_inj (List.getElem?_eq_some_iff.mp hl).1 h.nodup).mp (hl.trans q.symm))
   exact(h.cells m x b e q).mono (.refl g) λ J e=>hs b _ hab e
theorem Inv.setCell {g:G} {Z:Store} {s:Shared} (h:tI) {h':Heap} {t:Nat} {l:Nat} {a:Addr} {o:AObj} (ht:s.toks<=t) (hl:g.ρ[l]? = some a) (ho:OR cx g h' a o) (hs:Heap.SameBut a s.heap h') :
  Inv cx g (Z.set l o) { s with heap:=h',toks:=t }:=h.setCellK ht hl ho λ b J hb e=>(hs.2 b hb).trans e
theorem Stp.setCellK {own:List Addr} {g:G} {s:Shared} {h':Heap} {t:Nat} {l:Nat} {a:Addr} (hk:s.toks<=t) (hl:g.ρ[l]? = some a) (hs:∀b o,b≠a->s.heap.get? b=some o->h'.get? b=some o) (ht:∃o,h'.get? a=some o):Stp own g s g { s with heap:=h',toks:=t }:=
 ⟨.refl g,hk,λ b o e q J=>hs b o (λ z=>q (z▸List.mem_of_getElem? hl)) e,λ J J J h=>h,λ J J J h=>h,λ b o e=>by
  by_cases hb:b=a
  ·subst hb;exact ht
  ·exact⟨o,hs b o hb e⟩,rfl,rfl⟩
theorem Stp.setCell {own:List Addr} {g:G} {s:Shared} {h':Heap} {t:Nat} {l:Nat} {a:Addr} (hk:s.toks<=t) (hl:g.ρ[l]? = some a) (hs:Heap.SameBut a s.heap h') (ht:∃o,h'.get? a=some o):Stp own g s g { s with heap:=h',toks:=t }:=
 .setCellK hk hl (λ b J hb e=>(hs.2 b hb).trans e) ht
abbrev NoE:Value->Shared->Prop:=λ J J=>False
inductive PX (cx:Cx) (g:G) (s:Shared) (Z':Store) (v:AV) (u:Value) (s':Shared):Prop
 | mk (g':G) (a:Stp [] g s g' s') (i:Inv cx g' Z' s') (r:VR cx g' v u)
def PE (cx:Cx) (g:G) (s:Shared) (Z':Store) (v:AV) (u:Value) (s':Shared):Prop:=s.toks<=s'.toks->PX cx g s Z' v u s'
theorem q5k {α:Type} {A:Around} {t:Sem α} {s:Shared} {Q:α->Shared->Prop} (h:tw t (λ a s'=>s.toks<=s'.toks->Q a s') NoE s):tw t Q NoE s:=
 wpAny_mono (wpAny_toks_of (n:=s.toks) (jZ _) h) (λ J J x=>x.2 x.1) λ J J x=>x.2.elim
section
theorem PX.up {g1:G} {s₁:Shared} (a:Stp [] g s g1 s₁) (h:PX cx g1 s₁ Z' v u s'):PX cx g s Z' v u s':=let ⟨g',b,i,r⟩:=h;⟨g',a.trans b,i,r⟩
theorem PE.now (i:tI) (r:VR cx g v u):PE cx g s Z v u s:=λ J=>⟨g,.refl _ _ _,i,r⟩
theorem PE.tok (i:tI) (r:VR cx g v u) (t:Nat):PE cx g s Z v u { s with toks:=t }:=λ h=>⟨g,.tks h,i.toks h,r⟩
theorem PE.x {t:Sem Value} (h:tw t (PE cx g s Z' v) NoE s):tw t (PX cx g s Z' v) NoE s:=q5k h
theorem PX.then {t:Sem Value} {P:Value->Shared->Prop} (h:tw t (PX cx g s Z' v) NoE s) (k:∀g1 s₁ u1,Stp [] g s g1 s₁->Inv cx g1 Z' s₁->VR cx g1 v u1->P u1 s₁):tw t P NoE s:=
 wpAny_mono h (λ u1 s₁ ⟨g1,a,b,c⟩=>k g1 s₁ u1 a b c) λ J J x=>x
theorem PX.lift {t:Sem Value} {g1:G} {s₁:Shared} (a:Stp [] g s g1 s₁) (h:tw t (PX cx g1 s₁ Z' v) NoE s₁):tw t (PX cx g s Z' v) NoE s₁:=
 wpAny_mono h (λ J J x=>x.up a) λ J J x=>x
theorem q0f (s:Shared):s.heap.get? tH=none:=by
 cases q:s.heap.get? tH with
 | none=>rfl
 | some o=>exact absurd (Heap.lt_size q) (Nat.lt_irrefl _)
theorem PE.alloc {o:Obj} (i:tI) (hf:o.isFreed=false) (h:∀g',g.le g'->g'.I tH=some o->VR cx g' v (.ref tH)) (t:Nat) :
  PE cx g s Z v (.ref tH) { s with heap:=s.heap.push o,toks:=t }:=λ ht=>by
 have hn:=q0f s
 have k:∀b o',s.heap.get? b=some o'->(s.heap.push o).get? b=some o':=λ b o' e=>Heap.get?_push_of_some o e
 exact⟨g.freeze tH o,.freeze i ht hn k,i.freeze ht hn (Heap.get?_push_size _ hf) k,h _ (G.freeze_le (i.fresh hn).1) (G.freeze_self _ _ _)⟩
theorem PE.held {o:Obj} {h':Heap} {p:Addr} (i:tI) (hn:s.heap.get? p=none) (hp:h'.get? p=some o) (k:∀b o',s.heap.get? b=some o'->h'.get? b=some o') (h:∀g',g.le g'->g'.I p=some o->VR cx g' v (.ref p)) (t:Nat) :
  PE cx g s Z v (.ref p) { s with heap:=h',toks:=t }:=λ ht=>
 ⟨g.freeze p o,.freeze i ht hn k,i.freeze ht hn hp k,h _ (G.freeze_le (i.fresh hn).1) (G.freeze_self _ _ _)⟩
theorem PE.set {h':Heap} {l:Nat} {a:Addr} {o:AObj} (i:tI) (hl:g.ρ[l]? = some a) (ho:OR cx g h' a o) (hs:Heap.SameBut a s.heap h') (r:VR cx g v u) (t:Nat) :
  PE cx g s (Z.set l o) v u { s with heap:=h',toks:=t }:=λ ht=>⟨g,.setCell ht hl hs ho.there,i.setCell ht hl ho hs,r⟩
theorem PE.cell {h':Heap} {a:Addr} {o:AObj} (i:tI) (hn:s.heap.get? a=none) (ho:OR cx (g.cell a) h' a o) (k:∀b o,s.heap.get? b=some o->h'.get? b=some o) (t:Nat) :
  PE cx g s (Z++[o]) (.loc Z.length) (.ref a) { s with heap:=h',toks:=t }:=λ ht=>
 ⟨g.cell a,.newCell ht hn k,i.newCell ht hn ho k,by exact⟨a,rfl,by simp[G.cell,<-i.len]⟩⟩
theorem VR.norm (r:VR cx g v u):VR cx g (norm v) u:=by
 induction v using AV.casesOn with
 | lit x=>obtain⟨t,e,z,_⟩:=r;exact⟨t,e,z⟩
 | _=>exact r
inductive AsL (cx:Cx) (g:G) (s:Shared) (xs:tW) (u:Value):Prop
 | mk (a:Addr) (vs:tU) (e:u = .ref a) (h:s.heap.PlainList a vs.toArray) (r:VRs cx g xs vs) (z:xs.length<=sizeLine)
theorem q0q {xs:tW} (i:tI) (e:q0i Z v=some xs) (r:VR cx g v u):AsL cx g s xs u:=by
 induction v using AV.casesOn with
 | fl xs'=>
  obtain rfl:=zE e
  obtain⟨a,o,vs,rfl,h,⟨n,rfl⟩,q,z⟩:=r
  exact⟨a,vs,rfl,⟨n,i.sub _ _ h⟩,q,z⟩
 | loc l=>
  refine k6d e λ xs' hl e=>?_
  obtain rfl:=zE e
  obtain⟨a,rfl,h⟩:=r
  obtain⟨vs,hv,q,z⟩:=i.cells _ _ _ hl h
  exact⟨a,vs,rfl,hv,q,z⟩
 | _=>exact nope e
inductive AsD (cx:Cx) (g:G) (s:Shared) (kvs:tC) (u:Value):Prop
 | mk (a:Addr) (vs:tU) (e:u = .ref a) (h:s.heap.DictOf cx.sk a ((kvs.map (·.1)).zip vs)) (r:VRs cx g (kvs.map (·.2)) vs) (q:(a==sysModules)=false) (z:kvs.length<=sizeLine) (y:∀kv∈kvs,kv.1.length<=sizeLine)
theorem q0v {kvs:tC} (i:tI) (e:q0l Z v=some kvs) (r:VR cx g v u):AsD cx g s kvs u:=by
 induction v using AV.casesOn with
 | fd ks xs=>
  obtain rfl:=zE e
  obtain⟨a,o,vs,rfl,h,d,l,q,z,y,kz⟩:=r
  have e1:(ks.zip xs).map (·.1)=ks:=by rw[<-List.unzip_fst,List.unzip_zip l]
  have e2:(ks.zip xs).map (·.2)=xs:=by rw[<-List.unzip_snd,List.unzip_zip l]
  exact⟨a,vs,rfl,by rw[e1];exact Heap.dictOf_iff.mpr ⟨o,i.sub _ _ h,d⟩,by rw[e2];exact q,z,by(simp_all +arith),λ kv hk=>kz _ (List.of_mem_zip hk).1⟩
 | loc l=>
  obtain⟨a,rfl,h⟩:=r
  obtain⟨vs,hv,q,z,y,w⟩:=i.cells _ _ _ (z7p e) h
  exact⟨a,vs,rfl,hv,q,z,y,w⟩
 | _=>exact nope e
inductive AsS (cx:Cx) (s:Shared) (ks:tL) (u:Value):Prop
 | mk (a:Addr) (e:u = .ref a) (h:s.heap.SetOf cx.sk a (λ k=>ks.contains k) ks.length/\ks.Nodup)
theorem z9k {ks:tL} (i:tI) (e:k3t Z v=some ks) (r:VR cx g v u):AsS cx s ks u:=by
 induction v using AV.casesOn with
 | ws xs=>
  obtain rfl:=zE e
  obtain⟨a,o,rfl,h,d,z,n,y,l⟩:=r
  exact⟨a,rfl,d.setOf (i.sub _ _ h) z,n⟩
 | loc l=>
  refine v6d e λ xs' hl e=>?_
  obtain rfl:=zE e
  obtain⟨a,rfl,h⟩:=r
  exact⟨a,rfl,i.cells _ _ _ hl h⟩
 | _=>exact nope e
end
theorem w2f {n:Nat} (h:n<=sizeLine):(n:Int)<2 ^ 63:=Int.lt_of_le_of_lt (Int.ofNat_le.mpr h) (by rw[sizeLine_eq];decide)
theorem z4c {k:Int} {n:Nat} (h:k.natAbs<=n) : -(n:Int)<=k/\k<=n:=by
 have e:(k.natAbs:Int)<=n:=Int.ofNat_le.mpr h
 exact⟨Int.neg_le_of_neg_le (Int.le_trans (by rw[<-Int.natAbs_neg];exact Int.le_natAbs) e),Int.le_trans Int.le_natAbs e⟩
theorem q5m {k:Int} (h:k.natAbs<2 ^ 30) : -(2 ^ 63:Int)<=k/\k<2 ^ 63:=
 ⟨Int.le_trans tA (z4c (zB h)).1,Int.lt_of_le_of_lt (z4c (zB h)).2 tA⟩
theorem z1e {k:Int} (h:k.natAbs<2 ^ 30):(decide (k < -(2 ^ 63:Int))||decide (k≥2 ^ 63))=false:=by
 rw[decide_eq_false (Int.not_lt.mpr (q5m h).1),decide_eq_false (Int.not_le.mpr (q5m h).2)];rfl
section
theorem w9u {a:Addr} {vs:tU} {xs:tW} {Q:Bool->Shared->Prop} (hl:s.heap.IsList a vs.toArray) (r:VRs cx g xs vs) (z:xs.length<=sizeLine) (h:∀t,Q (!xs.isEmpty) { s with toks:=t }):tw (truthy (.ref a)) Q E s:=by
 have hv:vs.length=xs.length:=r.length.symm
 refine wpAny_truthy_list hl (by rw[List.size_toArray,hv];exact w2f z) ?_
 have:(!vs.toArray.isEmpty) = !xs.isEmpty:=by
  rcases vs<;>rcases xs<;>trivial
 simp only[this];exact h _
theorem w9l {a:Addr} {ks:tL} {vs:tU} {Q:Bool->Shared->Prop} (hl:s.heap.DictOf cx.sk a (ks.zip vs)) (hd:(a==sysModules)=false) (r:ks.length=vs.length) (z:ks.length<=sizeLine) (h:∀t,Q (!ks.isEmpty) { s with toks:=t }):tw (truthy (.ref a)) Q E s:=by
 refine wpAny_truthy_dict hd hl (by simp only[List.length_zip,<-r,Nat.min_self];exact w2f z) ?_
 have:(!(ks.zip vs).isEmpty) = !ks.isEmpty:=by rcases vs<;>rcases ks<;>trivial
 simp only[this];exact h _
theorem k3i {b:Bool} {Q:Bool->Shared->Prop} (i:tI) (e:q3x Z v=some b) (r:VR cx g v u) (h:∀t,Q b { s with toks:=t }):tw (truthy u) Q E s:=by
 have h0:Q b s:=h s.toks
 induction v using AV.casesOn with
 | none=>subst r;obtain rfl:=zE e;exact truthy_none h0
 | bool c=>subst r;obtain rfl:=zE e;exact wpAny_truthy_bool h0
 | int n=>obtain⟨t,rfl⟩:=r;obtain rfl:=zE e;exact PyProof.Rows.truthy_int h0
 | str x=>
  obtain⟨t,rfl,z⟩:=r;obtain rfl:=zE e
  refine PySem.P.truthy_str (Int.not_le.mpr (w2f z)) ?_
  have:((x.length:Int) !=0)=(x.length !=0):=by rcases x.length<;>rfl<;>lia
  simp only[this];exact h _
 | fl xs=>
  obtain⟨a,o,vs,rfl,hi,⟨n,rfl⟩,q,z⟩:=r;obtain rfl:=zE e
  exact w9u ⟨_,i.sub _ _ hi,rfl,n,rfl⟩ q z h
 | fd ks xs=>
  obtain⟨a,o,vs,rfl,hi,d,l,q,y,z,_⟩:=r;obtain rfl:=zE e
  exact w9l (Heap.dictOf_iff.mpr ⟨o,i.sub _ _ hi,d⟩) y (l.trans q.length) z h
 | loc l=>
  obtain⟨a,rfl,hl⟩:=r
  refine v5j e (λ xs hx e=>?_) λ kvs hx e=>?_<;>obtain rfl:=zE e
  ·obtain⟨vs,hv,q,z⟩:=i.cells _ _ _ hx hl
   exact w9u hv.isList q z h
  ·obtain⟨vs,hv,q,y,z,_⟩:=i.cells _ _ _ hx hl
   have e':kvs.isEmpty=(kvs.map (·.1)).isEmpty:=by rcases kvs<;>rfl
   rw[e']at h
   exact w9l hv y (by simp only[zH,<-q.length,zH]) (by simpa using z) h
 | _=>exact nope e
end
section
theorem VR.int_ {i:Int} (t:Tok):VR cx g (.int i) (.int i t):=Exists.intro t rfl
theorem VR.str_ {x:Str} (t:Tok) (h:x.length<=sizeLine):VR cx g (.str x) (.str x t):=RStr.mk t rfl h
theorem VR.bool_ {b:Bool}:VR cx g (.bool b) (.bool b):=(rfl:Value.bool b = .bool b)
theorem VR.of_int {i:Int} (h:VR cx g (.int i) u):∃t,u = .int i t:=h
theorem VR.of_str {x:Str} (h:VR cx g (.str x) u):RStr u x:=h
theorem VR.intV {i:Int} (e:intV x=some i) (h:VR cx g x u):∃t,u = .int i t:=by rw[j3c e]at h;exact h
theorem VR.strV {i:Str} (e:strV x=some i) (h:VR cx g x u):RStr u i:=by rw[z0e e]at h;exact h
theorem VR.of_none (h:VR cx g .none u):u = .none:=h
theorem PE.list {xs:tW} {vs:tU} {s₁:Shared} {n t:Nat} (i:tI) (r:VRs cx g xs vs) (z:xs.length<=sizeLine)
  (e:s₁={ s with heap:=s.heap.push { cls:=.type "list",data:=.seq vs.toArray n },toks:=t }):PE cx g s Z (.fl xs) (.ref tH) s₁:=by
 subst e
 exact .alloc i rfl (λ g' le hi=>show VR cx g' (.fl xs) (.ref tH)from RFl.mk _ _ vs rfl hi ⟨n,rfl⟩ (r.mono le) z) t
theorem PE.tuple {xs:tW} {vs:tU} {s₁:Shared} {n t:Nat} (i:tI) (r:VRs cx g xs vs) (z:xs.length<=sizeLine)
  (e:s₁={ s with heap:=s.heap.push { cls:=.type "tuple",data:=.seq vs.toArray n },toks:=t }):PE cx g s Z (.tup xs) (.ref tH) s₁:=by
 subst e
 exact .alloc i rfl (λ g' le hi=>show VR cx g' (.tup xs) (.ref tH)from RTup.mk _ _ vs rfl hi ⟨n,rfl⟩ (r.mono le) z) t
theorem VRs.rep {xs:tW} {vs:tU} (r:VRs cx g xs vs):∀n,VRs cx g (q4n xs n) ((List.replicate n vs).flatten)
 | 0=>by simpa [q4n]using VRs.nil
 | n+1=>by simpa [q4n,List.replicate_succ]using r.append (r.rep n)
theorem k5m (l:List tU) (acc:Array Value):(l.map List.toArray).foldl (λ x1 x2=>x1++x2) acc=(acc.toList++l.flatten).toArray:=by
 induction l generalizing acc with
 | nil=>simp
 | cons x l ih=>simp[ih]
theorem k2i (xs:tW) (n:Nat):(q4n xs n).length=xs.length * n:=by
 induction n with
 | zero=>rfl
 | succ n ih=>rw[q4n,zI,ih,Nat.mul_succ,Nat.add_comm]
theorem k6r {l:Addr} {items:Array Value} {k:Nat} {x:Int} {u:Tok} {E:Value->Shared->Prop} {Q:Value->Shared->Prop}
  (hl:s.heap.get? l=some { cls:=.type "list",dict:=none,data:=.seq items k,slots:=#[] }) (hlo : -(2 ^ 63:Int)<=x) (hhi:x<2 ^ 63) (hsz:items.size * x.toNat<=2 ^ 24)
  (h:Q (.ref tH) { s with heap:=s.heap.push { cls:=.type "list",data:=.seq (List.foldl (λ x1 x2=>x1++x2) #[] (List.replicate (if items.isEmpty=true then 0 else x.toNat) items)) } }) :
  tw (binaryOp .Mult (.ref l) (.int x u)) Q E s:=
 wpAny_binaryOp_repeat_ref (T:="list") (U:="int") tA ⟨_,hl,rfl⟩ (λ s'=>typeIs_int s' x u) noFill_list_mul F.fills_int_mul F.slot_int_rmul repeat_list F.slot_int_index.lookup
  (call_meets F.slot_int_rmul (typeIs_int s x u) F.entry_int_rmul (F.args_int_rmul_2 _ _) (int___rmul___int_list x u l items k)
   ⟨hl,rfl,⟨_,hl,rfl⟩,call_meets F.slot_list_mul ⟨_,hl,rfl⟩ F.entry_list_mul (F.args_list_mul_2 _ _)
    (AutoListH.list___mul___list_int_3 l items k x u (by dsimp[Builtin.List.listFitsIndex];lia) (by lia) (by simp[Builtin.List.listTooLong,sizeLine];omega))
    ⟨hl,h⟩⟩)
theorem z3f (x:AV) (i:tI) (e:((q0i Z x).bind λ xs=>(q0i Z y).bind λ ys=>(k9u (xs++ys)).map AV.fl)=some v) (ra:VR cx g x a) (rb:VR cx g y b):tw (binaryOp .Add a b) (PE cx g s Z v) NoE s:=by
 refine optE e λ xs h1 e=>optE e λ ys h2 e=>mapQ e λ zs h3 e=>q0k h3 λ hz h3=>?_
 subst e
 obtain rfl:=zE h3
 rcases _:q0q i h1 ra with⟨p,vs,rfl,⟨n,hp⟩,rp,zp⟩
 rcases _:q0q i h2 rb with⟨q,us,rfl,⟨m,hq⟩,rq,zq⟩
 refine P.add_list hp hq ?_ (by simp only[List.size_toArray,List.size_toArray,<-rp.length,<-rq.length];simpa using hz)
 exact .list (n:=0) (t:=s.toks) i (rp.append rq) hz (by simp)
theorem j4i (i:tI) (e:addA Z x y=some v) (ra:VR cx g x a) (rb:VR cx g y b):tw (binaryOp .Add a b) (PE cx g s Z v) NoE s:=by
 induction x using AV.casesOn with
 | int p=>
  refine mapQ e λ q h e=>?_;subst e
  obtain⟨t,rfl⟩:=ra.of_int
  obtain⟨t',rfl⟩:=rb.intV h
  exact add_int (.tok i (.int_ _) _)
 | str p=>
  refine optE e λ q h e=>mapQ e λ w hw e=>q0k hw λ hz hw=>?_;subst e
  obtain rfl:=zE hw
  obtain⟨t,rfl,z⟩:=ra.of_str
  obtain⟨t',rfl,z'⟩:=rb.strV h
  exact add_str (λ t' tk=>.tok i (.str_ _ (by rw[strLen_append];exact hz)) _) hz
 | fl xs=>exact z3f (.fl xs) i e ra rb
 | loc l=>exact z3f (.loc l) i e ra rb
 | _=>exact nope e
theorem z4u {j:Int} {t:Tok} (x:AV) (i:tI) (e:((q0i Z x).bind λ xs=>if xs.length * j.toNat<=sizeLine/\j.natAbs<2 ^ 30 then some (.fl (q4n xs j.toNat))else none)=some v) (ra:VR cx g x a):tw (binaryOp .Mult a (.int j t)) (PE cx g s Z v) NoE s:=by
 refine optE e λ xs h1 e=>q0k e λ hz e=>?_
 obtain rfl:=zE e
 have hs:=sizeLine_eq
 rcases _:q0q i h1 ra with⟨p,vs,rfl,⟨n,hp⟩,rp,zp⟩
 refine k6r hp (q5m hz.2).1 (q5m hz.2).2 (by rw[List.size_toArray,<-rp.length];exact jH hz.1 (by rw[hs];decide)) ?_
 have e1:(List.foldl (λ x1 x2=>x1++x2) #[] (List.replicate (if vs.toArray.isEmpty=true then 0 else j.toNat) vs.toArray))=((List.replicate j.toNat vs).flatten).toArray:=by
  rw[<-List.map_replicate,k5m]
  cases vs with
  | nil=>simp
  | cons _ _=>dsimp
 rw[e1]
 exact .list (n:=0) (t:=s.toks) i (rp.rep _) (by rw[k2i];exact hz.1) rfl
theorem j6z (i:tI) (e:mulA Z x y=some v) (ra:VR cx g x a) (rb:VR cx g y b):tw (binaryOp .Mult a b) (PE cx g s Z v) NoE s:=by
 refine optE e λ j h e=>?_
 obtain⟨t',rfl⟩:=rb.intV h
 induction x using AV.casesOn with
 | int p=>
  refine q0k e λ hz e=>?_
  obtain rfl:=zE e
  obtain⟨t,rfl⟩:=ra.of_int
  exact PyProof.Rows.mul_int (.tok i (.int_ _) _) (IntMulOk.of_right (intBits_le_64 (Int.lt_of_lt_of_le tA (q5m hz).1) (Int.lt_trans (q5m hz).2 tA)))
 | fl xs=>exact z4u (.fl xs) i e ra
 | loc l=>exact z4u (.loc l) i e ra
 | _=>exact nope e
theorem j5x {q:Int} (h2:q<30):¬ Builtin.Int.intTooBig (((Builtin.Int.intBits 2:Nat):Int) * q)=true:=by
 rw[show Builtin.Int.intBits 2=2 by decide +kernel]
 intro h
 have h:=of_decide_eq_true h
 have hb:(60:Int)<=(bitsLine:Int):=by decide +kernel
 exact absurd (Int.lt_of_le_of_lt hb h) (Int.not_lt.mpr (Int.mul_le_mul_of_nonneg_left (c:=2) (Int.le_of_lt h2) tA))
theorem j5a {op:Operator} (i:tI) (e:binA Z op x y=some v) (ra:VR cx g x a) (rb:VR cx g y b):tw (binaryOp op a b) (PE cx g s Z v) NoE s:=by
 induction op with
 | Add=>exact j4i i e ra rb
 | Mult=>exact j6z i e ra rb
 | Mod=>
  refine optE e λ p h1 e=>optE e λ q h2 e=>ifNo e λ hz e=>?_
  obtain rfl:=zE e
  obtain⟨t,rfl⟩:=ra.intV h1
  obtain⟨t',rfl⟩:=rb.intV h2
  exact mod_int' hz (.tok i (.int_ _) _)
 | FloorDiv=>
  refine optE e λ p h1 e=>optE e λ q h2 e=>ifNo e λ hz e=>?_
  obtain rfl:=zE e
  obtain⟨t,rfl⟩:=ra.intV h1
  obtain⟨t',rfl⟩:=rb.intV h2
  exact floordiv_int (λ h=>hz (.inl h)) (.tok i (.int_ _) _) (.inl (PyProof.noPylong_small (Nat.lt_of_not_le λ h=>hz (.inr h))))
 | Pow=>
  refine optE e λ p h1 e=>optE e λ q h2 e=>q0k e λ hz e=>?_
  obtain⟨hp,h0,hq⟩:=hz
  obtain rfl:=zE e
  obtain⟨t,rfl⟩:=ra.intV h1
  obtain⟨t',rfl⟩:=rb.intV h2
  subst hp
  by_cases hb:(q==0)=true
  ·rw[eq_of_beq hb];exact AutoIntOps.pow_0 tA rfl (.tok i (.int_ _) _)
  ·exact AutoIntOps.pow_4 h0 hb tA tA (j5x hq) (.tok i (.int_ _) _)
 | _=>exact nope e
end
end Mine
end
noncomputable section
set_option tactic.hygienic false
open PySem.SeqAt
namespace Mine
structure AOk (n:Nat) (A:Around):Prop where
 handled:A.handled=none
 depth:A.depth+4 * n+8<recursionLimit
 units:A.units+60 * n+100<cLine
theorem AOk.room {n:Nat} {A:Around} (h:AOk n A):A.units<cLine:=jJ (jH (zC _ _) (zC _ _)) h.units
section
def z3d (M:Model) (A:Around) (s:Shared) (a b:Value) (r:Bool):Prop:=(∀{E Q},Q (.bool r) s->wpAny M A (compareOp .Eq a b) Q E s)/\(∀{E Q},Q (.bool (!r)) s->wpAny M A (compareOp .NotEq a b) Q E s)
theorem z3d.of {prog:Program} {w:World} {r:Bool} (h:RcAt A s a b r) (k:RcNeAt A s a b (!r)):z3d (model prog w) A s a b r:=⟨λ q=>h _ _ _ _ q,λ q=>k _ _ _ _ q⟩
inductive EqL (M:Model) (A:Around) (s:Shared) (a b:Value) (r:Bool):Prop
 | mk (e:EqAt A s a b r) (p:z3d M A s a b r)
theorem EqL.c {r:Bool} (h:EqL cx.M A s a b r):z3d cx.M A s a b r:=let ⟨_,x⟩:=h;x
theorem EqL.at_ {r:Bool} (h:EqL cx.M A s a b r):EqAt A s a b r:=let ⟨x,_⟩:=h;x
theorem z3t {r:Bool} (e:k0b x y=some r) (ra:VR cx g x a) (rb:VR cx g y b):EqL cx.M A s a b r:=by
 induction x using AV.casesOn with
 | int i=>refine mapQ e λ j h e=>?_;subst e;obtain⟨t,rfl⟩:=ra.of_int;obtain⟨t',rfl⟩:=rb.intV h;exact⟨EqAt.int_int _ _ _ _,.of (RcAt.int_int _ _ _ _) (RcNeAt.int_int _ _ _ _)⟩
 | str i=>refine mapQ e λ j h e=>?_;subst e;obtain⟨t,rfl,_⟩:=ra.of_str;obtain⟨t',rfl,_⟩:=rb.strV h;exact⟨EqAt.str_str _ _ _ _,.of (RcAt.str_str _ _ _ _) (RcNeAt.str_str _ _ _ _)⟩
 | _=>exact nope e
theorem q5j {kvs:tC} {vs:tU} (r:VRs cx g (kvs.map (·.2)) vs) (k:Str) :
  (q1i k kvs=none->valueAt ((kvs.map (·.1)).zip vs) k=none)/\∀x,q1i k kvs=some x->∃u,valueAt ((kvs.map (·.1)).zip vs) k=some u/\VR cx g x u:=by
 induction kvs generalizing vs with
 | nil=>simp only[List.map_nil]at r;skip;exact⟨λ J=>rfl,λ x e=>by contradiction⟩
 | cons kv kvs ih=>
  obtain⟨k',y⟩:=kv
  rcases _:r.uncons with⟨u,us,rfl,hu,q⟩
  obtain⟨i1,i2⟩:=ih q
  simp only[k9t,List.map_cons,List.zip_cons_cons,valueAt,List.find?_cons]
  by_cases hk:k'=k
  ·simp only[hk,if_true,decide_true]
   refine⟨λ e=>absurd e (by trivial),λ x e=>?_⟩
   obtain rfl:=zE e
   exact⟨u,rfl,hu⟩
  ·simp only[hk,if_false,decide_false]
   exact⟨i1,i2⟩
theorem k5h {kb:tC} {us:tU} (rb:VRs cx g (kb.map (·.2)) us):∀{ka:tC} {vs:tU} {r:Bool},eqDs kb ka=some r->VRs cx g (ka.map (·.2)) vs->
  KeqHits A s ((kb.map (·.1)).zip us) ((ka.map (·.1)).zip vs) r
 | [],vs,_,h,p=>by obtain rfl:=zE h;exact .nil
 | (k,x)::ka,vs,_,h,p=>by
  obtain⟨v,vs,rfl,hv,p'⟩:=VRs.uncons (show VRs cx g (x::ka.map (·.2)) vs from p)
  obtain⟨f1,f2⟩:=q5j rb k
  refine optM h (λ y hy h=>optE h λ c hc h=>mapQ h λ d hd h=>?_) λ hn h=>?_
  ·subst h
   obtain⟨u,hu,ru⟩:=f2 y hy
   exact .hit hu (z3t hc hv ru).at_ (k5h rb hd p')
  ·obtain rfl:=zE h;exact .miss (f1 hn)
theorem w7d {ka:tC} {vs:tU} (rp:VRs cx g (ka.map (·.2)) vs):((ka.map (·.1)).zip vs).length=ka.length:=by rw[List.length_zip,zH,<-rp.length,zH,Nat.min_self]
theorem k6e {p q:Addr} {vs us:tU} (hA:A.units<cLine) (hp:s.heap.PlainList p vs.toArray) (hq:s.heap.PlainList q us.toArray) (hl:vs.length≠us.length):z3d cx.M A s (.ref p) (.ref q) false:=
 have h2:(vs.length !=us.length)=true:=bne_iff_ne.mpr hl
 .of (RcAt.lists_lengths hp.isList hq.isList h2 hA) (RcNeAt.lists_lengths hp.isList hq.isList h2 hA)
theorem j0r {p q:Addr} {vs us:tU} {f:Nat->Bool} {r:Bool} (hA:A.units<cLine) (hp:s.heap.PlainList p vs.toArray) (hq:s.heap.PlainList q us.toArray) (hl:vs.length=us.length)
  (he:∀j (h1:j<vs.toArray.size) (h2:j<us.toArray.size),EqAt A.in1 s vs.toArray[j] us.toArray[j] (f j)) (hr:(List.range vs.length).all f=r):z3d cx.M A s (.ref p) (.ref q) r:=
 hr▸.of (RcAt.lists hp.isList hq.isList hl hA he) (RcNeAt.lists hp.isList hq.isList hl hA he)
theorem k9o {r:Bool} {p q:Addr} {vs us:tU} {xs ys:tW} (hA:A.units<cLine) (hp:s.heap.PlainList p vs.toArray) (hq:s.heap.PlainList q us.toArray) (e:(if ys.isEmpty=true then some xs.isEmpty else none)=some r) (rp:VRs cx g xs vs) (rq:VRs cx g ys us):z3d cx.M A s (.ref p) (.ref q) r:=by
 refine q0k e λ hy e=>?_
 obtain rfl:=zE e
 obtain rfl:=List.isEmpty_iff.mp hy
 obtain rfl:=rq.of_nil
 rcases xs with _|⟨x,xs⟩
 ·obtain rfl:=rp.of_nil
  exact j0r (f:=λ J=>true) hA hp hq rfl (λ j h=>absurd h (Nat.not_lt_zero _)) rfl
 ·obtain⟨u,r,rfl,_,_⟩:=rp.uncons
  exact k6e hA hp hq (Nat.succ_ne_zero _)
theorem j2w {r:Bool} (hA:A.units<cLine) (i:tI) (e:eqA Z x y=some r) (ra:VR cx g x a) (rb:VR cx g y b):z3d cx.M A s a b r:=by
 refine orE' e (λ e=>(z3t e ra rb).c) λ e=>optM e (λ ys h2 e=>optE e λ xs h1 e=>?_) λ J e=>optE e λ ka h1 e=>optE e λ kb h2 e=>?_
 ·rcases _:q0q i h1 ra with⟨p,vs,rfl,hp,rp,zp⟩
  rcases _:q0q i h2 rb with⟨q,us,rfl,hq,rq,zq⟩
  exact k9o hA hp hq e rp rq
 rcases _:q0v i h1 ra with⟨p,vs,rfl,hp,rp,zp,_⟩
 rcases _:q0v i h2 rb with⟨q,us,rfl,hq,rq,zq,_⟩
 have la:=w7d rp
 have lb:=w7d rq
 refine ifE e (λ hl e=>?_) λ hl e=>?_
 ·have hits:=k5h (A:=A.in1) (s:=s) rq e rp
  have e1:(((ka.map (·.1)).zip vs).length==((kb.map (·.1)).zip us).length&&r)=r:=by simp only[la,lb,hl,beq_self_eq_true,Bool.true_and]
  exact⟨λ h=>keq_eq zp zq hp hq hA (λ J=>hits) (by rw[e1];exact h),λ h=>keq_ne zp zq hp hq hA (λ J=>hits) (by rw[e1];exact h)⟩
 ·obtain rfl:=zE e
  have e1:∀r,(((ka.map (·.1)).zip vs).length==((kb.map (·.1)).zip us).length&&r)=false:=λ r=>by simp only[la,lb,beq_false_of_ne hl,Bool.false_and]
  exact⟨λ h=>keq_eq (r:=true) zp zq hp hq hA (λ q=>absurd (by rw[la,lb]at q;exact q) hl) (by rw[e1];exact h),λ h=>keq_ne (r:=true) zp zq hp hq hA (λ q=>absurd (by rw[la,lb]at q;exact q) hl) (by rw[e1];exact h)⟩
end
section
theorem q3t:∀{xs:tW} {ts:tL} {vs:tU},q0z xs=some ts->VRs cx g xs vs->(∀t∈ts,t.length<=sizeLine)/\StrsAre vs ts
 | [],_,_,e,r=>by obtain rfl:=zE e;rw[r.of_nil];exact⟨by trivial,.nil⟩
 | x::xs,_,_,e,r=>by
  obtain⟨v,vs,rfl,hv,q⟩:=r.uncons
  induction x using AV.casesOn with
  | str t=>
   obtain⟨ts,he,rfl⟩:=Option.map_eq_some_iff.mp (show(q0z xs).map (t :: ·)=some _ from e)
   obtain⟨h1,h2⟩:=q3t he q
   obtain⟨tk,rfl,z⟩:=hv.of_str
   exact⟨by intro y hy;cases hy with|head=>exact z|tail _ hy=>exact h1 y hy,.cons _ _ h2⟩
  | lit t=>
   obtain⟨ts,he,rfl⟩:=Option.map_eq_some_iff.mp (show(q0z xs).map (t :: ·)=some _ from e)
   obtain⟨h1,h2⟩:=q3t he q
   obtain⟨tk,rfl,z⟩:=VR.of_str hv.norm
   exact⟨by intro y hy;cases hy with|head=>exact z|tail _ hy=>exact h1 y hy,.cons _ _ h2⟩
  | _=>exact nope e
theorem j1z {vs:tU} {ts:tL} (h:StrsAre vs ts) (x:Str):vs.any (λ v=>v.isStr x)=ts.contains x:=by
 induction h with
 | nil=>rfl
 | cons y t h ih=>
  rw[List.any_cons,ih,List.contains_cons]
  show(y==x||_)=_
  rw[BEq.comm]
theorem j2a {vs:tU} {ts:tL} (h:StrsAre vs ts):∀v∈vs,∃y t,v = .str y t:=by
 induction h with
 | nil=>intro v hv;rcases hv
 | cons y t h ih=>
  intro v hv
  cases hv with
  | head=>exact⟨y,t,rfl⟩
  | tail _ hv=>exact ih v hv
def InAt (A:Around) (s:Shared) (M:Model) (a b:Value) (r:Bool):Prop:=
 (∀{E Q},(∀t,Q (.bool r) { s with toks:=t })->wpAny M A (compareOp .In a b) Q E s)/\(∀{E Q},(∀t,Q (.bool (!r)) { s with toks:=t })->wpAny M A (compareOp .NotIn a b) Q E s)
theorem w9c {kvs:tC} {vs:tU} (r:VRs cx g (kvs.map (·.2)) vs) (k:Str):(valueAt ((kvs.map (·.1)).zip vs) k).isSome=(kvs.map (·.1)).contains k:=by
 induction kvs generalizing vs with
 | nil=>rfl
 | cons kv kvs ih=>
  obtain⟨k',y⟩:=kv
  rcases _:VRs.uncons (show VRs cx g (y::kvs.map (·.2)) vs from r)with⟨u,us,rfl,hu,q⟩
  have:=ih q
  simp only[List.map_cons,List.zip_cons_cons,valueAt,List.find?_cons,List.contains_cons]at this ⊢
  by_cases hk:k'=k
  ·simp[hk]
  ·have hk':(k==k')=false:=by simpa using λ e:k=k'=>hk e.symm
   simp only[hk,decide_false,hk',Bool.false_or]
   exact this
theorem w0s {r:Bool} {p:Str} {tk:Tok} (y:AV) (i:tI) (e:((q0i Z y).bind λ ys=>(q0z ys).map (·.contains p)).orElse (λ J=>((k3t Z y).map λ ks=>ks.contains p).orElse λ J=>(q0l Z y).map λ kvs=>(kvs.map (·.1)).contains p)=some r) (rb:VR cx g y b):InAt A s cx.M (.str p tk) b r:=by
 refine orE' e (λ e=>optE e λ ys h1 e=>mapQ e λ ts hts e=>?_) λ e=>orE' e (λ e=>mapQ e λ ks h2 e=>?_) λ e=>mapQ e λ kvs hk e=>?_<;>subst e
 ·rcases _:q0q i h1 rb with⟨q,vs,rfl,hp,rp,zp⟩
  obtain⟨_,hS⟩:=q3t hts rp
  have he:∀v,v∈vs.toArray->EqAt A.in1 s v (.str p tk) (v.isStr p):=λ v hv=>by
   obtain⟨y,t,rfl⟩:=j2a hS v (by simpa using hv)
   exact EqAt.str_str _ _ _ _
  have ea:vs.toArray.any (λ v=>v.isStr p)=ts.contains p:=by simp only[<-j1z hS p];simp
  exact⟨λ h=>in_listAt (λ v=>v.isStr p) hp.isList he (by rw[ea];exact h s.toks),λ h=>notIn_listAt (λ v=>v.isStr p) hp.isList he (by rw[ea];exact h s.toks)⟩
 ·rcases _:z9k i h2 rb with⟨q,rfl,hS,_⟩
  exact⟨λ h=>wpAny_inSet_of (strKind_is _ _ p tk) rfl hS (h _),λ h=>wpAny_notInSet_of (strKind_is _ _ p tk) rfl hS (h _)⟩
 ·rcases _:q0v i hk rb with⟨q,vs,rfl,hp,rp,zp,_⟩
  have:=w9c rp p
  exact⟨λ h=>wpAny_in_of (strKind_is _ _ p tk) zp hp.mapOf (by rw[this];exact h _),λ h=>wpAny_notIn_of (strKind_is _ _ p tk) zp hp.mapOf (by rw[this];exact h _)⟩
theorem j3a {r:Bool} (i:tI) (e:inA Z x y=some r) (ra:VR cx g x a) (rb:VR cx g y b):InAt A s cx.M a b r:=by
 refine optE e λ p h e=>?_
 obtain⟨tk,rfl,_⟩:=ra.strV h
 induction y using AV.casesOn with
 | str q=>
  obtain rfl:=zE e
  obtain⟨tk',rfl,_⟩:=rb.of_str
  exact⟨λ h=>in_str (h s.toks),λ h=>notIn_str (h s.toks)⟩
 | fl xs=>exact w0s (.fl xs) i e rb
 | loc l=>exact w0s (.loc l) i e rb
 | fd ks xs=>exact w0s (.fd ks xs) i e rb
 | ws ks=>exact w0s (.ws ks) i e rb
 | _=>exact nope e
theorem j3d {r:Bool} (e:isA x y=some r) (ra:VR cx g x a) (rb:VR cx g y b):b = .none/\(a==.none)=r:=by
 induction y using AV.casesOn with
 | none=>
  refine⟨rb.of_none,?_⟩
  induction x using AV.casesOn with
  | none=>obtain rfl:=zE e;rw[ra.of_none];rfl
  | ws ks=>obtain rfl:=zE e;obtain⟨a,o,rfl,_⟩:=ra;rfl
  | _=>exact nope e
 | _=>exact nope e
theorem k1o {f:Int->Int->Bool} {r:Bool} {P:Prop} (e:ltA f x y=some r) (ra:VR cx g x a) (rb:VR cx g y b) (k:∀i j t t',a = .int i t->b = .int j t'->f i j=r->P):P:=
 optE e λ i h1 e=>mapQ e λ j h2 e=>(ra.intV h1).elim λ t h3=>(rb.intV h2).elim λ t' h4=>k i j t t' h3 h4 e
theorem j5g {op:CmpOp} {r:Bool} (hA:AOk n A) (i:tI) (e:cmpA Z op x y=some r) (ra:VR cx g x a) (rb:VR cx g y b):tw (compareOp op a b) (PE cx g s Z (.bool r)) NoE s:=by
 induction op with
 | Eq=>exact(j2w hA.room i e ra rb).1 (.now i .bool_)
 | NotEq=>exact mapQ e λ r' h e=>e▸(j2w hA.room i h ra rb).2 (.now i .bool_)
 | Lt=>exact k1o e ra rb λ p q t t' h1 h2 h3=>h1▸h2▸h3▸lt_int (.now i .bool_)
 | Gt=>exact k1o e ra rb λ p q t t' h1 h2 h3=>h1▸h2▸h3▸gt_int (.now i .bool_)
 | In=>exact(j3a i e ra rb).1 λ t=>.tok i .bool_ t
 | NotIn=>exact mapQ e λ r' h e=>e▸(j3a i h ra rb).2 λ t=>.tok i .bool_ t
 | Is=>obtain⟨rfl,h⟩:=j3d e ra rb;exact is_none_gen (by rw[h];exact .now i .bool_)
 | IsNot=>obtain⟨r',h',rfl⟩:=Option.map_eq_some_iff.mp e;obtain⟨rfl,h⟩:=j3d h' ra rb;exact isnot_none_gen (by rw[h];exact .now i .bool_)
 | _=>exact nope e
set_option tactic.hygienic true in theorem z7w {m j:Nat} {k:Int} (e:idxA m k=some j):k.natAbs<2 ^ 30/\seqIndex? k m=some j:=by
 unfold idxA at e
 split at e
 ·rename_i h;exact⟨h,e⟩
 ·contradiction
set_option tactic.hygienic true in theorem z8t {m j:Nat} {k:Int} (e:seqIndex? k m=some j):j<m/\(0<=k->k.toNat=j)/\(k<0->-(m:Int)<=k/\(k+m).toNat=j):=by
 unfold seqIndex? at e
 by_cases hk:k<0
 ·simp only[hk,if_true]at e
  split at e
  ·rename_i h
   simp only[Bool.and_eq_true,decide_eq_true_eq]at h
   obtain rfl:=zE e
   exact⟨(Int.toNat_lt h.1).mpr h.2,λ h0=>absurd hk (Int.not_lt.mpr h0),λ J=>⟨Int.sub_nonneg.mp (by rw[Int.sub_neg];exact h.1),rfl⟩⟩
  ·contradiction
 ·simp only[hk,if_false]at e
  split at e
  ·rename_i h
   simp only[Bool.and_eq_true,decide_eq_true_eq]at h
   obtain rfl:=zE e;simp +arith [*]
  ·contradiction
inductive ItAt (cx:Cx) (g:G) (Z:Store) (s:Shared) (A:Around) (v:AV) (a b:Value):Prop
 | mk (T id:String) (h1:s.TypeIs a T) (h2:typeLookup (.type T) "__getitem__" = pure (some (.builtin id))) (h3:tw (getItem a b) (PE cx g s Z v) NoE s)
theorem k5r (i:tI) (e:getA Z x y=some v) (ra:VR cx g x a) (rb:VR cx g y b) :
  ItAt cx g Z s A v a b:=by
 have lists:∀{k:Int} {o:AV},((q0i Z o).bind λ xs=>(idxA xs.length k).bind (xs[·]?))=some v->VR cx g o a->VR cx g (.int k) b->
   ItAt cx g Z s A v a b:=by
  intro k o e ra rb
  obtain⟨xs,h1,e⟩:=Option.bind_eq_some_iff.mp e
  obtain⟨j,hj,e⟩:=Option.bind_eq_some_iff.mp e
  rcases _:z7w hj with⟨hk,hj⟩
  obtain⟨t,rfl⟩:=rb.of_int
  rcases _:q0q i h1 ra with⟨p,vs,rfl,hp,rp,zp⟩
  obtain⟨u,hu,ru⟩:=rp.get e
  obtain⟨j1,j2,j3⟩:=z8t hj
  refine⟨"list",_,hp.isList.typeIs,slot_list_getitem.lookup,?_⟩
  by_cases h0:0<=k
  ·exact wpAny_getItem_list hp.isList h0 (q5m hk).2 (by rw[j2 h0];simpa using hu) (.now i ru)
  ·have:=j3 (Int.not_le.mp h0)
   have hl:=rp.length
   exact wpAny_getItem_list_neg hp.isList (Int.not_le.mp h0) (by rw[List.size_toArray,<-hl];exact this.1) (q5m hk).1 (by simp only[List.size_toArray,<-hl,this.2];simpa using hu) (.now i ru)
 have dicts:∀{k:Str} {o:AV},(q0l Z o).bind (q1i k)=some v->VR cx g o a->VR cx g (.str k) b->
   ItAt cx g Z s A v a b:=by
  intro k o e ra rb
  rcases _:Option.bind_eq_some_iff.mp e with⟨kvs,h1,e⟩
  rcases _:rb.of_str with⟨t,rfl,_⟩
  rcases _:q0v i h1 ra with⟨p,vs,rfl,hp,rp,zp,_⟩
  obtain⟨u,hu,ru⟩:=(q5j rp k).2 _ e
  exact⟨"dict",_,hp.typeIs,slot_dict_getitem.lookup,wpAny_getItem_of (strKind_is _ _ k t) hp.mapOf hu (.tok i ru _)⟩
 induction y using AV.casesOn with
 | int k=>cases x with
  | tup xs=>
   obtain⟨j,hj,e⟩:=Option.bind_eq_some_iff.mp e
   obtain⟨hk,hj⟩:=z7w hj
   obtain⟨t,rfl⟩:=rb.of_int
   obtain⟨p,o,vs,rfl,hi,⟨m,rfl⟩,rp,z⟩:=ra
   rcases _:rp.get e with⟨u,hu,ru⟩
   have hT:IsTup s.heap p vs.toArray:=⟨_,i.sub _ _ hi,rfl,m,rfl⟩
   exact⟨"tuple",_,hT.typeIs,slot_tuple_getitem.lookup,getItem_tuple hT (q5m hk).1 (q5m hk).2 (by simp only[List.size_toArray,<-rp.length];exact hj) (by simpa using hu) (.now i ru)⟩
  | str p=>
   obtain⟨j,hj,e⟩:=Option.bind_eq_some_iff.mp e
   obtain⟨hk,hj⟩:=z7w hj
   obtain⟨c,hc,rfl⟩:=Option.map_eq_some_iff.mp e
   obtain⟨t,rfl⟩:=rb.of_int
   obtain⟨t',rfl,_⟩:=ra.of_str
   exact⟨"str",_,typeIs_str _ _ _,F.slot_str_getitem.lookup,P.getItem_str (z1e hk) (by rw[hj];exact hc) (.tok i (.str_ _ (by show 1<=sizeLine;decide)) _)⟩
  | _=>(refine lists ?_ ra rb;exact e)
 | str k=>exact dicts e ra rb
 | _=>exact nope e
theorem z2x {value slice:Expr} {T id:String} {E:Value->Shared->Prop} {Q:Value->Shared->Prop} (hT:s.TypeIs a T)
  (hl:typeLookup (.type T) "__getitem__" = pure (some (.builtin id))) (h:tw (getItem a b) Q E s):tw (subscriptTail value slice a b) Q E s:=by
 refine tG ?_
 refine tG (wpAny_specialOf hT hl ?_)
 have fin:tw (subscripted slice false a b) (λ r s3=>tw (letTemporaryGo value a r >>= λ J=>pure r) Q E s3) E s:=by
  have k:tw (getItem a b) (λ r s3=>tw (letTemporaryGo value a r >>= λ J=>pure r) Q E s3) E s:=
   wpAny_mono h (λ r s3 h3=>tG (wpAny_letTemporaryGo (tJ h3))) λ J J x=>x
  induction slice using Expr.casesOn with
  | Slice l u st p=>rcases st with _|st<;>exact wpAny_operating k
  | _=>exact wpAny_operating k
 first
  | exact tJ (tG fin)
  | exact tG (tJ (tG fin))
  | exact tG fin
inductive j8z (a:Value) (k:Option Int):Prop
 | mk (h:IsPart a k) (l:Option (Int×Tok)) (e:a=partValue l) (q:l.map (·.1)=k)
theorem z5a {k:Option Int} (e:k7b x=some k) (ra:VR cx g x a):j8z a k:=by
 induction x using AV.casesOn with
 | none=>obtain rfl:=zE e;rw[ra.of_none];exact⟨.none,none,rfl,rfl⟩
 | int j=>obtain rfl:=zE e;obtain⟨t,rfl⟩:=ra.of_int;exact⟨.int _ _,some (_,t),rfl,rfl⟩
 | _=>exact nope e
theorem k3b {α:Type} (xs:List α) (p q:Nat):(xs.drop p).take (q - p)=(xs.take q).drop p:=by
 rw[List.drop_take]
theorem k7x {lo hi st:AV} {l h t:Value} {m:Addr} (i:tI) (e:k7w Z x lo hi st=some v) (ra:VR cx g x a) (rl:VR cx g lo l) (rh:VR cx g hi h) (rt:VR cx g st t)
  (hs:g.I m=some { cls:=.type "slice",data:=.fields #[l,h,t] }) :
  ItAt cx g Z s A v a (.ref m):=by
 rcases _:Option.bind_eq_some_iff.mp e with⟨lo',h1,e⟩
 obtain⟨hi',h2,e⟩:=Option.bind_eq_some_iff.mp e
 rcases _:z5a h1 rl with⟨pl,l',rfl,hl'⟩
 rcases _:z5a h2 rh with⟨ph,h',rfl,hh'⟩
 have hm:s.heap.get? m=some { cls:=.type "slice",data:=.fields #[partValue l',partValue h',t] }:=i.sub _ _ hs
 have ls:∀x',((q0i Z x').map λ xs=>AV.fl (k7y xs lo' hi'))=some v->VR cx g x' a->t = .none->ItAt cx g Z s A v a (.ref m):=λ x' e ra ht=>by
  subst ht
  refine mapQ e λ xs hx e=>?_
  subst e
  obtain⟨p,vs,rfl,hp,rp,zp⟩:=q0q i hx ra
  have hz:vs.toArray.size<=sizeLine:=by simp only[List.size_toArray,<-rp.length];exact zp
  refine⟨"list",_,hp.isList.typeIs,slot_list_getitem.lookup,wpAny_getItem_list_slice (st:=none) hp.isList ⟨_,hm,rfl,rfl⟩ pl ph .none (by trivial) ?_ hz⟩
  rw[slicePick_plain,k3b]
  have hv:=rp.length
  simp only[List.size_toArray,<-hv]
  refine .list (n:=0) (t:=s.toks) i ((rp.take _).drop _) ?_ rfl
  exact jH (by rw[k7y,List.length_drop];exact Nat.sub_le _ _) (jH (by rw[List.length_take];exact Nat.min_le_right _ _) zp)
 induction st using AV.casesOn with
 | none=>
  have ht:=rt.of_none
  induction x using AV.casesOn with
  | str p=>
   subst ht
   obtain rfl:=zE e
   obtain⟨tk,rfl,z⟩:=ra.of_str
   refine⟨"str",_,typeIs_str _ _ _,F.slot_str_getitem.lookup,wpAny_getItem_str_slice (l:=l') (u:=h') (st:=none) ⟨_,hm,rfl,rfl⟩ rfl ?_⟩
   simp only[<-hl',<-hh']
   have zz:=jH (Txt.slice_le p (l'.map (·.1)) (h'.map (·.1))) z
   exact post_val_or_str ⟨zz,λ t' k=>.tok i (.str_ _ zz) _⟩
  | fl xs=>exact ls (.fl xs) e ra ht
  | loc xs=>exact ls (.loc xs) e ra ht
  | _=>exact nope e
 | int k=>
  refine q0k e λ hk e=>mapQ e λ xs hx e=>?_
  subst e
  rcases _:q0q i hx ra with⟨p,vs,rfl,hp,rp,zp⟩
  obtain⟨tk,rfl⟩:=rt.of_int
  obtain rfl:=hk.1
  obtain rfl:=Option.isNone_iff_eq_none.mp hk.2.1
  obtain rfl:=Option.isNone_iff_eq_none.mp hk.2.2
  have hz:vs.toArray.size<=sizeLine:=by simp only[List.size_toArray,<-rp.length];exact zp
  refine⟨"list",_,hp.isList.typeIs,slot_list_getitem.lookup,wpAny_getItem_list_slice (st:=some (-1)) hp.isList ⟨_,hm,rfl,rfl⟩ pl ph (.int _ _) (by trivial) ?_ hz⟩
  rw[krv_pick]
  exact .list (n:=0) (t:=s.toks) i rp.reverse (by simpa using zp) rfl
 | _=>exact nope e
end
section
theorem VR.of_loc {l:Nat} (h:VR cx g (.loc l) u):∃a,u = .ref a/\g.ρ[l]? = some a:=h
theorem VR.none_:VR cx g .none .none:=(rfl:Value.none = .none)
theorem w6x {vs:tU} {ts:tL} (h:StrsAre vs ts):∃l:List (Str×Tok),vs=strValues l/\l.map (·.1)=ts:=by
 induction h with
 | nil=>exact⟨[],rfl,rfl⟩
 | cons y t h ih=>obtain⟨l,rfl,rfl⟩:=ih;exact⟨(y,t)::l,rfl,rfl⟩
theorem k3r {l:Nat} {xs:tW} (i:tI) (e:Z[l]? = some (.list xs)) (hz:xs.length<sizeLine) (ra:VR cx g (.loc l) a) (rb:VR cx g v b) :
  tw (call (.builtin "list.append") [a,b]) (PE cx g s (Z.set l (.list (xs++[v]))) .none) NoE s:=by
 obtain⟨p,rfl,hl⟩:=ra.of_loc
 obtain⟨vs,hv,q,z⟩:=i.cells _ _ _ e hl
 refine wpAny_list_append_plain hv (λ h' hp hs=>?_) (by simp only[List.size_toArray,<-q.length];exact z)
 exact PE.set (o:=.list (xs++[v])) (t:=s.toks) i hl ⟨vs++[b],by simpa using hp,q.append (.cons rb .nil),by simp;assumption⟩ hs .none_
theorem k1y (vs:tU) (u:Value):((vs++[u]).toArray.eraseIdxIfInBounds ((vs++[u]).toArray.size - 1))=vs.toArray:=by
 simp[List.eraseIdx_append_of_length_le]
theorem w2z (f:Array Value->Array Value) (its:Array Value) (k:Nat):∃m,Obj.mapSeq f { cls:=.type "list",data:=.seq its k }={ cls:=.type "list",data:=.seq (f its) m }:=⟨_,rfl⟩
theorem VRs.snoc {xs:tW} {x:AV} {vs:tU} (h:VRs cx g (xs++[x]) vs):∃us u,vs=us++[u]/\VRs cx g xs us/\VR cx g x u:=by
 induction xs generalizing vs with
 | nil=>obtain⟨u,r,rfl,hu,hr⟩:=VRs.uncons h;rw[hr.of_nil];exact⟨[],u,rfl,.nil,hu⟩
 | cons y ys ih=>obtain⟨w,r,rfl,hw,hr⟩:=VRs.uncons h;obtain⟨us,u,rfl,h1,h2⟩:=ih hr;exact⟨w::us,u,rfl,.cons hw h1,h2⟩
set_option tactic.hygienic true in theorem v2l {l:Nat} {xs r:tW} (i:tI) (e:Z[l]? = some (.list xs)) (hp:popA xs=some (r,v)) (ra:VR cx g (.loc l) a) :
  tw (call (.builtin "list.pop") [a]) (PE cx g s (Z.set l (.list r)) v) NoE s:=by
 rcases _:ra.of_loc with⟨p,rfl,hl⟩
 rcases _:i.cells _ _ _ e hl with⟨vs,⟨k,hv⟩,q,z⟩
 unfold popA at hp
 split at hp
 ·rename_i w' hw
  rcases hp
  have hx:xs=xs.dropLast++[v]:=by
   induction xs with
   | nil=>trivial
   | cons y ys=>rw[List.getLast?_eq_some_getLast (by simp),Option.some.injEq]at hw;rw[<-hw];exact(List.dropLast_concat_getLast (by simp)).symm
  rw[hx]at q
  rcases _:q.snoc with⟨us,u,rfl,h1,h2⟩
  refine call_meets F.slot_list_pop ⟨_,hv,rfl⟩ F.entry_list_pop (F.args_list_pop_1 _) (MeetsSeq.list_pop_last p _ k u (by simp) (by simp only[List.size_toArray,<-(h1.append (.cons h2 .nil)).length,<-hx];exact z)) ⟨hv,?_⟩
  rcases _:w2z (λ xs=>xs.eraseIdxIfInBounds ((us++[u]).toArray.size - 1)) (us++[u]).toArray k with⟨m,hm⟩
  rw[k1y]at hm
  have hget:=Heap.get?_update_self (h:=s.heap) (a:=p) (Obj.mapSeq λ xs=>xs.eraseIdxIfInBounds ((us++[u]).toArray.size - 1)) hv (by rfl)
  rw[hm]at hget
  refine PE.set (o:=.list xs.dropLast) (t:=s.toks) i hl ⟨us,⟨m,hget⟩,h1,by simp;exact Nat.le_succ_of_le ‹_›⟩ (Heap.SameBut.update ..) h2
 ·contradiction
theorem j6k {sep:Str} {xs:tW} {ts:tL} (i:tI) (e:q0i Z v=some xs) (h:q0z xs=some ts) (hz:(ts.map (·.length)).sum+ts.length * sep.length<=sizeLine) (ra:VR cx g (.str sep) a) (rb:VR cx g v b) :
  tw (call (.builtin "str.join") [a,b]) (PE cx g s Z (.str (Txt.join sep ts))) NoE s:=by
 obtain⟨t,rfl,_⟩:=ra.of_str
 rcases _:q0q i e rb with⟨p,vs,rfl,hp,rp,zp⟩
 rcases _:q3t h rp with⟨_,hS⟩
 rcases _:w6x hS with⟨l,rfl,rfl⟩
 have hok:JoinOk sep (l.map (·.1))=true:=joinOk_of (by exact hz)
 have hj:=hok
 unfold JoinOk at hj
 refine call_meets F.slot_str_join (typeIs_str _ _ _) F.entry_str_join (F.args_str_join_2 _ _) (meets_str_join_list sep t p l (by simpa using hj)) ⟨hp.isList,post_join l ⟨joinOk_length hok,λ t' k=>.tok i (.str_ _ (joinOk_length hok)) _⟩⟩
theorem v3u {p:Str} (i:tI) (ra:VR cx g (.str p) a):tw (call (.builtin "str.strip") [a]) (PE cx g s Z (.str (Txt.strip p))) NoE s:=by
 obtain⟨t,rfl,z⟩:=ra.of_str
 exact SC.strip (λ t' k=>.tok i (.str_ _ (jH (fact_strip p) z)) _) z
theorem VRs.strs {ts:tL} {vs:tU} (h:StrsAre vs ts) (z:∀t∈ts,t.length<=sizeLine):VRs cx g (ts.map .str) vs:=by
 induction h with
 | nil=>exact .nil
 | cons y t h ih=>exact .cons (.str_ _ (z _ (by simp))) (ih λ x hx=>z x (by simp[hx]))
theorem q9l:∀l:List (Str×Tok),StrsAre (strValues l) (l.map (·.1))
 | []=>.nil
 | (_,_)::l=>.cons _ _ (q9l l)
theorem PE.texts {ts:tL} {l:List (Str×Tok)} {k t:Nat} (i:tI) (e:l.map (·.1)=ts) (z:∀t∈ts,t.length<=sizeLine) (hz:ts.length<=sizeLine) :
  PE cx g s Z (.fl (ts.map .str)) (.ref tH) { s with heap:=s.heap.push { cls:=.type "list",data:=.seq (strValues l).toArray k },toks:=t }:=
 .list (n:=k) (t:=t) i (VRs.strs (e▸q9l l) z) (by simpa using hz) rfl
theorem k7n {p c:Str} {k:Int} {d:Value} (i:tI) (hc:c.length≠0) (hk:k.natAbs<2 ^ 30) (hz:(Txt.rsplitMax p c k).length<=sizeLine) (ra:VR cx g (.str p) a) (rb:VR cx g (.str c) b) (rd:VR cx g (.int k) d) :
  tw (call (.builtin "str.rsplit") [a,b,d]) (PE cx g s Z (.fl ((Txt.rsplitMax p c k).map .str))) NoE s:=by
 obtain⟨t,rfl,z⟩:=ra.of_str
 obtain⟨u,rfl,_⟩:=rb.of_str
 obtain⟨w',rfl⟩:=rd.of_int
 have hy:(c.length==0)=false:=by simpa using hc
 have hk':(decide (k < -(2 ^ 63:Int))||decide (k≥2 ^ 63))=false:=z1e hk
 have zz:∀q∈Txt.rsplitMax p c k,q.length<=sizeLine:=λ q hq=>jH (rpartMax_short hq) z
 rcases h1:(decide (p.length<c.length)||decide (Builtin.Str.strKind p<Builtin.Str.strKind c))
 ·rcases hf:(Builtin.Str.occurrencesFromRight p c (limitOf p k)).isEmpty
  ·have e:Txt.rsplitMax p c k=Builtin.Str.partsBetween p (Builtin.Str.occurrencesFromRight p c (limitOf p k)) c.length:=by unfold Txt.rsplitMax;rw[if_neg (by rw[h1];simp),if_neg (by rw[hf];simp)]
   refine call_meets F.slot_str_rsplit (typeIs_str _ _ _) F.entry_str_rsplit (F.args_str_rsplit_3 _ _ _) (meets_str_rsplit_sep_max p c k t u w' hk' h1 hy hf z (by rw[<-e];exact hz)) ?_
   rw[strsFrom_eq]
   exact PE.texts i ((numbered_texts _ _).trans e.symm) zz hz
  ·have e:Txt.rsplitMax p c k=[p]:=by unfold Txt.rsplitMax;rw[if_neg (by rw[h1];simp),if_pos hf]
   exact call_meets F.slot_str_rsplit (typeIs_str _ _ _) F.entry_str_rsplit (F.args_str_rsplit_3 _ _ _) (meets_str_rsplit_max_not_found p c k t u w' hk' h1 hy hf) (PE.texts (l:=[(p,t)]) (t:=s.toks) i e.symm zz hz)
 ·have e:Txt.rsplitMax p c k=[p]:=by unfold Txt.rsplitMax;rw[if_pos h1]
  exact call_meets F.slot_str_rsplit (typeIs_str _ _ _) F.entry_str_rsplit (F.args_str_rsplit_3 _ _ _) (meets_str_rsplit_max_cannot_occur p c k t u w' hk' h1) (PE.texts (l:=[(p,t)]) (t:=s.toks) i e.symm zz hz)
theorem j0g {kvs:tC} (i:tI) (e:q0l Z v=some kvs) (ra:VR cx g v a):tw (call (.builtin "dict.items") [a]) (PE cx g s Z (.iv v)) NoE s:=by
 rcases _:q0v i e ra with⟨p,vs,rfl,hp,rp,zp,_⟩
 refine call_meetsIn F.slot_dict_items hp.typeIs F.entry_dict_items (F.args_dict_items_1 _) (meets_dict_items cx.sk p zp) ⟨⟨_,hp⟩,?_⟩
 exact PE.alloc (t:=s.toks) i rfl λ g' le hi=>by exact⟨_,_,p,rfl,hi,rfl,rfl,ra.mono le⟩
theorem v0x {k:Str} {kvs:tC} (i:tI) (e:q0l Z v=some kvs) (ra:VR cx g v a) (rb:VR cx g (.str k) b) :
  tw (call (.builtin "dict.get") [a,b]) (PE cx g s Z ((q1i k kvs).getD .none)) NoE s:=by
 rcases _:q0v i e ra with⟨p,vs,rfl,hp,rp,zp,_⟩
 obtain⟨t,rfl,_⟩:=rb.of_str
 refine call_meetsIn F.slot_dict_get hp.typeIs F.entry_dict_get (F.args_dict_get_2 _ _) (meets_dict_get cx.sk p (strKind_is _ _ k t) zp) ⟨_,hp.mapOf,?_⟩
 obtain⟨f1,f2⟩:=q5j rp k
 generalize hf:q1i k kvs=zzy
 induction zzy with
 | none=>rw[f1 hf];exact PE.tok i .none_ _
 | some x=>rcases _:f2 x hf with⟨u,hu,ru⟩;rw[hu];exact PE.tok i ru _
theorem j5z {k:Str} {kvs:tC} {d:Value} (i:tI) (e:q0l Z v=some kvs) (ra:VR cx g v a) (rb:VR cx g (.str k) b) (rd:VR cx g y d) :
  tw (call (.builtin "dict.get") [a,b,d]) (PE cx g s Z ((q1i k kvs).getD y)) NoE s:=by
 obtain⟨p,vs,rfl,hp,rp,zp,_⟩:=q0v i e ra
 obtain⟨t,rfl,_⟩:=rb.of_str
 refine call_meetsIn F.slot_dict_get hp.typeIs F.entry_dict_get (F.args_dict_get_3 _ _ _) (meets_dict_get_default cx.sk p (strKind_is _ _ k t) zp d) ⟨_,hp.mapOf,?_⟩
 obtain⟨f1,f2⟩:=q5j rp k
 generalize hf:q1i k kvs=zzy
 induction zzy with
 | none=>rw[f1 hf];exact PE.tok i rd _
 | some x=>rcases _:f2 x hf with⟨u,hu,ru⟩;rw[hu];exact PE.tok i ru _
set_option tactic.hygienic true in theorem w0m (k k':Str) (ks:tL):(addK k ks).contains k'=(ks.contains k'||decide (k'=k)):=by
 unfold addK
 split
 ·rename_i h
  by_cases e:k'=k
  ·subst e;rw[h];rfl
  ·simp[e]
 ·rw[List.contains_append];simp
set_option tactic.hygienic true in theorem w9f {k:Str} {ks:tL} (h:ks.Nodup):(addK k ks).Nodup:=by
 unfold addK
 split
 ·exact h
 ·rename_i q
  rw[List.nodup_append]
  exact⟨h,by simp,λ x hx y hy=>by simp at hy;subst hy;intro e;subst e;exact q (by simpa using hx)⟩
theorem q9n (k:Str) (ks:tL):(addK k ks).length=if ks.contains k then ks.length else ks.length+1:=by
 unfold addK;split<;>simp
theorem j9g {l:Nat} {k:Str} {ks:tL} (i:tI) (e:Z[l]? = some (.set ks)) (hz:ks.length+1<scanBound) (ra:VR cx g (.loc l) a) (rb:VR cx g (.str k) b) :
  tw (call (.builtin "set.add") [a,b]) (PE cx g s (Z.set l (.set (addK k ks))) .none) NoE s:=by
 obtain⟨p,rfl,hl⟩:=ra.of_loc
 obtain⟨t,rfl,_⟩:=rb.of_str
 obtain⟨hS,hn⟩:=i.cells _ _ _ e hl
 refine call_set_add (strKind_is _ _ k t) rfl hS hz λ h' hs hS'=>?_
 refine PE.set (o:=.set (addK k ks)) i hl ⟨?_,w9f hn⟩ hs .none_ _
 simp only[q9n]
 have:(λ k'=>(addK k ks).contains k')=λ k'=>ks.contains k'||decide (k'=k):=by funext k';exact w0m k k' ks
 simp only[this];exact hS'
theorem j8s {p:Str} (i:tI) (ra:VR cx g (.str p) a):tw (call (.builtin "len") [a]) (PE cx g s Z (.int p.length)) NoE s:=by
 obtain⟨t,rfl,z⟩:=ra.of_str
 exact P.len_str (Int.not_le.mpr (w2f z)) (PE.tok i (.int_ _) _)
theorem z8e {xs:tW} (i:tI) (e:q0i Z v=some xs) (ra:VR cx g v a):tw (call (.builtin "len") [a]) (PE cx g s Z (.int xs.length)) NoE s:=by
 rcases _:q0q i e ra with⟨p,vs,rfl,hp,rp,zp⟩
 refine Calls.call_len_list hp.isList (by simp only[List.size_toArray,<-rp.length];exact w2f zp) ?_
 simp only[List.size_toArray,<-rp.length]
 exact PE.tok i (.int_ _) _
end
def q7m (n:Nat) (p:Array Nat):Prop:=p.Perm (List.range n).toArray
theorem q7m.size {n:Nat} {p:Array Nat} (h:q7m n p):p.size=n:=by have:=h.size_eq;simpa using this
section
variable {O:KeyOrd} {key:Nat->O.α} {n:Nat}
noncomputable def Kp (key:Nat->O.α) (p:Array Nat) (i:Nat):O.α:=key (p.getD i 0)
def Up (key:Nat->O.α) (p:Array Nat) (k:Nat):Prop:=∀i j,i<=j->j<k->O.kle (Kp key p i) (Kp key p j)
def Asks (O:KeyOrd) (key:Nat->O.α) (cmp:Nat->Nat->(Bool->Shared->Prop)->Shared->Prop) (I:Shared->Prop) (n:Nat):Prop:=
 ∀i j C s,i<n->j<n->I s->(∀s',I s'->C (O.blt (key i) (key j)) s')->cmp i j C s
noncomputable def reach (fs:List (Nat×Nat×Bool)):Nat->Nat->Nat->Bool
 | 0,a,b=>a==b
 | k+1,a,b=>a==b||fs.any λ f=>(if f.2.2 then f.1==a&&reach fs k f.2.1 b else f.2.1==a&&reach fs k f.1 b)
def j3l (fs:List (Nat×Nat×Bool)) (p:Array Nat) (k:Nat):Bool:=reach fs 3 (p.getD k 0) (p.getD (k+1) 0)
theorem z1s {fs:List (Nat×Nat×Bool)} (hf:∀f∈fs,O.blt (key f.1) (key f.2.1)=f.2.2):∀(k a b:Nat),reach fs k a b=true->O.kle (key a) (key b)
 | 0,a,b,h=>by rw[beq_iff_eq.mp h];exact KeyOrd.kle_refl _
 | k+1,a,b,h=>by
  rcases(Bool.or_eq_true ..).mp h with h|h
  ·rw[beq_iff_eq.mp h];exact KeyOrd.kle_refl _
  ·obtain⟨f,hm,h⟩:=List.any_eq_true.mp h
   have e:=hf f hm
   generalize hb:f.2.2=c at h e
   induction c with
   | true=>
    obtain⟨h1,h2⟩:=(Bool.and_eq_true ..).mp h
    exact KeyOrd.kle_trans (beq_iff_eq.mp h1▸KeyOrd.kle_of_klt e) (z1s hf k _ b h2)
   | false=>
    obtain⟨h1,h2⟩:=(Bool.and_eq_true ..).mp h
    exact KeyOrd.kle_trans (beq_iff_eq.mp h1▸e) (z1s hf k _ b h2)
noncomputable def okT (n:Nat):KasT (Array Nat)->List (Nat×Nat×Bool)->Bool
 | .ret p,fs=>p.toList.isPerm (List.range n)&&(List.range (n - 1)).all (j3l fs p)
 | .ask i j k,fs=>(decide (i<n)&&decide (j<n))&&(okT n (k true) ((i,j,true)::fs)&&okT n (k false) ((i,j,false)::fs))
theorem v7i {fs:List (Nat×Nat×Bool)} {p:Array Nat} (hf:∀f∈fs,O.blt (key f.1) (key f.2.1)=f.2.2) (h:∀k,k+1<n->j3l fs p k=true):Up key p n:=λ i j hij=>by
 induction j with
 | zero=>exact λ J=>Nat.le_zero.mp hij▸KeyOrd.kle_refl _
 | succ j ih=>
  intro hj
  rcases Nat.lt_or_ge i (j+1)with h1|h1
  ·refine KeyOrd.kle_trans (ih (Nat.le_of_lt_succ h1) (Nat.lt_of_succ_lt hj)) ?_
   exact z1s hf 3 _ _ (h j hj)
  ·rw[Nat.le_antisymm hij h1];exact KeyOrd.kle_refl _
theorem k6z (h:Asks O key cmp I n) {Q:Array Nat->Shared->Prop} (k:∀p s',I s'->q7m n p->Up key p n->Q p s'):∀(t:KasT (Array Nat)) (fs:List (Nat×Nat×Bool)) (s:Shared),okT n t fs=true->(∀f∈fs,O.blt (key f.1) (key f.2.1)=f.2.2)->I s->t.kasWp cmp Q s
 | .ret p,fs,s,ht,hf,is=>by
  obtain⟨h1,h2⟩:=(Bool.and_eq_true ..).mp ht
  exact k p s is (Array.perm_iff_toList_perm.mpr (List.isPerm_iff.mp h1)) (v7i hf λ j hj=>List.all_eq_true.mp h2 j (List.mem_range.mpr (Nat.lt_sub_of_add_lt hj)))
 | .ask i j t,fs,s,ht,hf,is=>by
  obtain⟨h1,h2⟩:=(Bool.and_eq_true ..).mp ht
  obtain⟨h3,h4⟩:=(Bool.and_eq_true ..).mp h1
  obtain⟨h5,h6⟩:=(Bool.and_eq_true ..).mp h2
  refine h i j _ s (of_decide_eq_true h3) (of_decide_eq_true h4) is λ s' is'=>?_
  generalize hb:O.blt (key i) (key j)=b
  induction b with
  | true=>exact k6z h k (t true) _ s' h5 (λ f hm=>(List.mem_cons.mp hm).elim (λ e=>e▸hb) (hf f)) is'
  | false=>exact k6z h k (t false) _ s' h6 (λ f hm=>(List.mem_cons.mp hm).elim (λ e=>e▸hb) (hf f)) is'
theorem v2h:∀n<5,2<=n->okT n (kas_sort n) []=true:=by decide +kernel
theorem z4f (h:Asks O key cmp I n) {s:Shared} {Q:Array Nat->Shared->Prop} (h2:2<=n) (h5:n<5) (is:I s) (k:∀p s',I s'->q7m n p->Up key p n->Q p s'):(kas_sort n).kasWp cmp Q s:=
 k6z h k _ [] s (v2h n h5 h2) (λ J q=>nomatch q) is
end
theorem j3v (l:tU):l=(List.range l.length).map (λ i=>l.getD i .none):=by
 refine List.ext_getElem (by rw[zH,List.length_range]) λ i h J=>?_
 rw[List.getElem_map,List.getElem_range,List.getD,List.getElem?_eq_getElem h];rfl
theorem k7z {us kk:tU} {n:Nat} (e:us.length=n) (e2:kk.length=n):(kk.toArray.zip us.toArray).map (·.2)=((List.range n).toArray.toList.map λ i=>us.getD i Value.none).toArray:=by
 subst e
 apply Array.toList_inj.mp
 simp only[Array.toList_map,Array.toList_zip,List.map_snd_zip (zA e2.symm)]
 exact j3v us
theorem k1q {O:KeyOrd} {key:Nat->O.α} {n:Nat} (h:n<2):Up key (List.range n).toArray n:=λ i j hij hj=>by
 obtain rfl:j=0:=Nat.lt_one_iff.mp (jK hj (Nat.le_of_lt_succ h))
 obtain rfl:i=0:=Nat.le_zero.mp hij
 exact KeyOrd.kle_refl _
section
variable {prog:Program} {w:World} {A:Around} {s:Shared} {O:KeyOrd} {key:Nat->O.α} {κ:SortKind} {vs:tU}
def q3g (a:Addr) (h h':Heap):Prop:=∀b o,b≠a->h.get? b=some o->h'.get? b=some o
theorem z4l {a:Addr} {n:Nat} {P:PySem.Fin->Shared->Prop} (ho:s.heap.get? a=some (seqObj "list" vs.toArray n)) (h5:vs.length<5)
  (hkind:2<=vs.length->∀(h':Heap) (Q:SortKind->Shared->Prop),q3g a s.heap h'->Q κ { s with heap:=h' }->wpAny (model prog w) A (keyKind' vs.toArray) Q NoE { s with heap:=h' })
  (hask:2<=vs.length->∀(h':Heap) (t i j:Nat) (C:Bool->Shared->Prop),i<vs.length->j<vs.length->q3g a s.heap h'->(∀t',C (O.blt (key i) (key j)) { s with heap:=h',toks:=t' })->
   wpAny (model prog w) A (keyLt' κ (vs.getD i Value.none) (vs.getD j Value.none)) C NoE { s with heap:=h',toks:=t })
  (h:∀(p:Array Nat) (h':Heap) (t c:Nat),q7m vs.length p->Up key p vs.length->q3g a s.heap h'->h'.get? a=some (seqObj "list" (p.toList.map λ i=>vs.getD i Value.none).toArray c)->P (.done (.ret .none)) { s with heap:=h',toks:=t }) :
  wpAny (model prog w) A (Builtin.«list.sort» ⟨[.ref a],[]⟩) P NoE s:=by
 rw[list_sort_plain]
 have ha:a<tH:=Heap.lt_size ho
 obtain⟨e1,ho1⟩:∃e1,(s.heap.update a (Obj.mapSeq λ J=>(#[]:Array Value))).get? a=some (seqObj "list" #[] e1):=⟨_,get?_update_seq ho λ J=>#[]⟩
 refine tG (listItems_at ho rfl ?_)
 refine tG (listUpdate_at ho rfl ?_ (by rw[List.size_toArray,sizeLine_eq];decreasing_trivial) (Nat.zero_le _))
 refine tG (seqEpoch_at ho1 rfl ?_)
 refine tG (wpAny_newTuple ?_ (by show vs.length<=_;rw[sizeLine_eq];exact jH (zB h5) tA))
 refine tG (wpAny_newList ?_ (Nat.zero_le _))
 refine wpAny_holding ?_
 show wpAny (model prog w) A _ P NoE { s with heap:=((s.heap.update a (Obj.mapSeq λ J=>(#[]:Array Value))).push (seqObj "tuple" vs.toArray 0)).push (seqObj "list" #[] 0) }
 generalize hH:(((s.heap.update a (Obj.mapSeq λ J=>(#[]:Array Value))).push (seqObj "tuple" vs.toArray 0)).push (seqObj "list" #[] 0))=H
 have ho6:H.get? a=some (seqObj "list" #[] e1):=by rw[<-hH];exact Heap.get?_push_of_some _ (Heap.get?_push_of_some _ ho1)
 have kH:q3g a s.heap H:=λ b o hb e=>by
  rw[<-hH];exact Heap.get?_push_of_some _ (Heap.get?_push_of_some _ (by rw[Heap.get?_update_ne _ _ _ _ hb];exact e))
 dsimp only
 have fin:∀(t:Nat) (p:Array Nat),q7m vs.length p->Up key p vs.length->(Q:Unit->Shared->Prop)->(∀h' c,q3g a s.heap h'->h'.get? a=some (seqObj "list" (p.toList.map λ i=>vs.getD i Value.none).toArray c)->Q () { s with heap:=h',toks:=t })->
   wpAny (model prog w) A (Builtin.List.listUpdate (.ref a) λ J=>(p.toList.map λ i=>vs.getD i Value.none).toArray) Q NoE { s with heap:=H,toks:=t }:=by
  intro t p hp _ Q hQ
  refine listUpdate_at ho6 rfl ?_ (Nat.zero_le _) (by show(p.toList.map _).length<=_;simp only[zH,Array.length_toList,hp.size,sizeLine_eq];decreasing_trivial)
  refine hQ _ (if((p.toList.map λ i=>vs.getD i Value.none).toArray).size==(#[]:Array Value).size then e1 else e1+1) (λ b o hb e=>?_) (get?_update_seq ho6 _)
  rw[Heap.get?_update_ne _ _ _ _ hb];exact kH b o hb e
 by_cases h2:vs.toArray.size<2
 ·rw[if_pos h2,if_pos h2]
  refine tG (tJ ?_)
  rw[StateT.run_pure]
  refine tG (tJ ?_)
  dsimp only
  refine tG (seqEpoch_at ho6 rfl ?_)
  have hp0:q7m vs.length (List.range vs.length).toArray:=Array.Perm.refl _
  have hu0:Up key (List.range vs.length).toArray vs.length:=k1q h2
  have ex:((arrOf (SortSt.mk' general' (vs.toArray.zip vs.toArray) #[] 7 none)).map (·.2))=((List.range vs.length).toArray.toList.map λ i=>vs.getD i Value.none).toArray:=by
   exact k7z rfl rfl
  rw[ex]
  refine tG (fin s.toks _ hp0 hu0 _ λ h' c k1 k2=>?_)
  simp only[bne_self_eq_false,Bool.false_eq_true,if_false]
  exact tJ (h _ h' s.toks c hp0 hu0 k1 k2)
 ·rw[if_neg h2,if_neg h2]
  have h2':2<=vs.length:=Nat.le_of_not_lt h2
  refine tG (hkind h2' H _ kH ?_)
  refine wpAny_bind (wpAny_mono (kat_run (ks:=vs) (κ:=κ) (Q:=λ st' s'=>Ex2 λ(p:Array Nat) (t:Nat)=>An5 (s'={ s with heap:=H,toks:=t }) (q7m vs.length p) (Up key p vs.length) (arrOf st'=p.map (kas_item (vs.toArray.zip vs.toArray))) (failedOf st'=none))
   (G:=λ p s'=>q7m vs.length p/\Up key p vs.length/\∃t,s'={ s with heap:=H,toks:=t }) rfl h2' (Nat.lt_trans h5 tA) (λ p st' s' a1 a2 a3 a4=>⟨p,a4.2.2.choose,a4.2.2.choose_spec,a4.1,a4.2.1,a2,a3⟩)
   (z4f (O:=O) (key:=key) (I:=λ s'=>∃t,s'={ s with heap:=H,toks:=t }) ?asks h2' h5 ⟨s.toks,rfl⟩ λ p s' is hp hu=>⟨hp,hu,is⟩)) ?_ λ J J e=>e)
  case asks=>
   rintro i j C _ hi hj ⟨t,rfl⟩ hC
   exact wpAny_mono (hask h2' H t i j C hi hj kH λ t'=>hC _ ⟨t',rfl⟩) (λ J J x=>x) λ J J x=>x
  rintro⟨⟨⟩,st'⟩ s' ⟨p,t,rfl,hp,hu,har,hf⟩
  dsimp only
  refine tG (seqEpoch_at ho6 rfl ?_)
  have hout:=kat_snds rfl har
  rw[hout]
  refine tG (fin t p hp hu _ λ h' c k1 k2=>?_)
  rw[hf]
  simp only[bne_self_eq_false,Bool.false_eq_true,if_false]
  exact tJ (h p h' t c hp hu k1 k2)
theorem k8b {a:Addr} {n:Nat} {Q:Value->Shared->Prop} (ho:s.heap.get? a=some (seqObj "list" vs.toArray n)) (h5:vs.length<5)
  (hkind:2<=vs.length->∀(A:Around) (h':Heap) (Q:SortKind->Shared->Prop),q3g a s.heap h'->Q κ { s with heap:=h' }->wpAny (model prog w) A (keyKind' vs.toArray) Q NoE { s with heap:=h' })
  (hask:∀(A:Around) (h':Heap) (t i j:Nat) (C:Bool->Shared->Prop),i<vs.length->j<vs.length->q3g a s.heap h'->(∀t',C (O.blt (key i) (key j)) { s with heap:=h',toks:=t' })->
   wpAny (model prog w) A (keyLt' κ (vs.getD i Value.none) (vs.getD j Value.none)) C NoE { s with heap:=h',toks:=t })
  (h:∀(p:Array Nat) (h':Heap) (t c:Nat),q7m vs.length p->Up key p vs.length->q3g a s.heap h'->h'.get? a=some (seqObj "list" (p.toList.map λ i=>vs.getD i Value.none).toArray c)->Q .none { s with heap:=h',toks:=t }) :
  wpAny (model prog w) A (call (.builtin "list.sort") [.ref a]) Q NoE s:=
 wpAny_call_entry slot_list_sort ⟨_,ho,rfl⟩ entry_list_sort (z4l ho h5 (λ h2=>hkind h2 _) (λ J=>hask _) λ p h' t c a1 a2 a3 a4=>⟨_,rfl,h p h' t c a1 a2 a3 a4⟩) (args_list_sort _)
theorem k8e {x:Value} {Q:Value->Shared->Prop}
  (h:wpAny (model prog w) A.in1 (collect x) (λ vs s₁=>vs.length<=sizeLine/\∀A,wpAny (model prog w) A (call (.builtin "list.sort") [.ref s₁.heap.objs.size]) (λ J s'=>Q (.ref s₁.heap.objs.size) s') NoE { s₁ with heap:=s₁.heap.push (seqObj "list" vs.toArray 0) }) NoE s) :
  wpAny (model prog w) A (call (.builtin "sorted") [x]) Q NoE s:=by
 refine Calls.call_function_entry kind_sorted plain_sorted entry_sorted (args_sorted1 _) ?_
 unfold Builtin.«sorted»
 refine wpAny_bind (m:=checkCount "sorted" 1 1 _) (tJ ?_)
 refine tG (wpAny_mono h (λ vs s₁ x=>?_) λ J J x=>x.elim)
 refine tG (wpAny_newList ?_ x.1)
 exact tG (wpAny_holding (wpAny_mono (x.2 _) (λ J J q=>tJ ⟨_,rfl,q⟩) λ J J x=>x.elim))
end
def KR (a b:Option NameKind):Prop:=a=b\/(a=some .free/\b=some .cell)
inductive w9d (g:G) (cd:Value):Prop
 | mk (c:Addr) (o:Obj) (fs:Array Value) (e:cd = .ref c) (i:g.I c=some o) (d:o.data = .fields fs)
theorem w9d.mono {g g':G} {cd:Value} (le:g.le g') (h:w9d g cd):w9d g' cd:=let ⟨c,o,fs,a,b,r⟩:=h;⟨c,o,fs,a,le.I _ _ b,r⟩
def IsCF (ks:Kinds) (x:Str):Prop:=ks.lookup x=some .cell\/ks.lookup x=some .free
def Holds (cx:Cx) (g:G) (o:Option Value) (v:AV):Prop:=∃u,o=some u/\VR cx g v u
inductive v3z (cx:Cx) (ks:Kinds) (ns:tL) (l:Addr) (g:G) (vs:Vs) (h:Heap):Prop
 | mk (m:Str->Option Value) (n:h.Ns l m) (k:∀x v,ks.lookup x=some .local->q6n ns vs x=some v->Holds cx g (m x) v)
inductive v3w (cx:Cx) (ns:tL) (env:Env) (g:G) (vs:Vs) (h:Heap) (x:Str):Prop
 | mk (c:Addr) (e:env.cells.lookup x=some c) (n:c∉g.ρ) (i:g.I c=none) (l:c≠env.locals) (o:Option Value) (d:h.IsCell c o) (k:∀v,q6n ns vs x=some v->Holds cx g o v)
structure ER (cx:Cx) (ks:Kinds) (ns:tL) (env:Env) (g:G) (vs:Vs) (s:Shared):Prop where
 fn:env.scope.kind = .function
 gl:env.globals=cx.gA
 bl:env.builtins=cx.bA
 code:w9d g env.code/\((ks.lookup ("resolved_names" : Str)).isSome=true->env.code = .ref cx.lc/\env.qual=cx.lq)
 len:vs.length=ns.length
 kinds:∀x,KR (ks.lookup x) (env.kindOf x)
 mem:∀x,ks.lookup x=some .local\/ks.lookup x=some .cell->x∈ns
 loc:v3z cx ks ns env.locals g vs s.heap
 locA:env.locals∉g.ρ/\g.I env.locals=none
 cel:∀x,IsCF ks x->v3w cx ns env g vs s.heap x
 apart:∀x y c,env.cells.lookup x=some c->env.cells.lookup y=some c->x=y
noncomputable def ownK (ks:Kinds) (env:Env):List Addr:=env.locals::ks.filterMap λ p=>if ks.lookup p.1=some .cell then env.cells.lookup p.1 else none
section
variable {ns:tL} {vs:Vs}
theorem q7h {h:Heap} {a:Addr} {m:Str->Option Value} (x:h.Ns a m):∃o,h.get? a=some o:=let ⟨o,_,_,e,_⟩:=x;⟨o,e⟩
theorem q3f {h:Heap} {a:Addr} {m:Option Value} (x:h.IsCell a m):∃o,h.get? a=some o:=let ⟨o,e,_⟩:=x;⟨o,e⟩
theorem j1c {h h':Heap} {a:Addr} {m:Str->Option Value} (x:h.Ns a m) (k:∀o,h.get? a=some o->h'.get? a=some o):h'.Ns a m:=x.at' k
theorem k4h {h h':Heap} {a:Addr} {m:Option Value} (x:h.IsCell a m) (k:∀o,h.get? a=some o->h'.get? a=some o):h'.IsCell a m:=let ⟨o,e,d⟩:=x;⟨o,k o e,d⟩
theorem ER.step {own:List Addr} (E:ER cx ks ns env g vs s) (a:Stp own g s g' s') (h1:env.locals∉own) (h2:∀x c,IsCF ks x->env.cells.lookup x=some c->c∉own):ER cx ks ns env g' vs s':=by
 obtain⟨m,hm,hv⟩:=E.loc
 obtain⟨lo,ho⟩:=q7h hm
 refine⟨E.fn,E.gl,E.bl,⟨E.code.1.mono a.le,E.code.2⟩,E.len,E.kinds,E.mem,⟨m,j1c hm λ o e=>a.keep _ _ e E.locA.1 h1,λ x v k e=>let ⟨u,p,q⟩:=hv x v k e;⟨u,p,q.mono a.le⟩⟩,⟨a.new _ _ ho E.locA.1,a.newI _ _ ho E.locA.2⟩,λ x k=>?_,E.apart⟩
 obtain⟨c,hc,c1,c2,c3,o,co,cv⟩:=E.cel x k
 obtain⟨oc,hoc⟩:=q3f co
 exact⟨c,hc,a.new _ _ hoc c1,a.newI _ _ hoc c2,c3,o,k4h co λ o e=>a.keep _ _ e c1 (h2 x c k hc),λ v e=>let ⟨u,p,q⟩:=cv v e;⟨u,p,q.mono a.le⟩⟩
theorem ER.go (E:ER cx ks ns env g vs s) (a:Stp [] g s g' s'):ER cx ks ns env g' vs s':=E.step a (by simp) (by simp)
theorem ER.toks (E:ER cx ks ns env g vs s) (t:Nat):ER cx ks ns env g vs { s with toks:=t }:=⟨E.fn,E.gl,E.bl,E.code,E.len,E.kinds,E.mem,E.loc,E.locA,E.cel,E.apart⟩
theorem w2d (E:ER cx ks ns env g vs s) {x:Str} (h:ks.lookup x=some .local):env.kindOf x=some .local:=by
 rcases E.kinds x with e|⟨e,_⟩
 ·rw[<-e];exact h
 ·rw[h]at e;cases e
theorem z4g (E:ER cx ks ns env g vs s) {x:Str} (h:ks.lookup x=some .cell):env.kindOf x=some .cell:=by
 rcases E.kinds x with e|⟨e,_⟩
 ·rw[<-e];exact h
 ·rw[h]at e;cases e
theorem k5x (E:ER cx ks ns env g vs s) {x:Str} (h:ks.lookup x=some .free):env.kindOf x=some .free\/env.kindOf x=some .cell:=by
 rcases E.kinds x with e|⟨_,e⟩
 ·rw[<-e];exact .inl h
 ·exact .inr e
theorem z8c (E:ER cx ks ns env g vs s) {x:Str} (h:ks.lookup x=some .globalImplicit):env.kindOf x=some .globalImplicit:=by
 rcases E.kinds x with e|⟨e,_⟩
 ·rw[<-e];exact h
 ·rw[h]at e;cases e
theorem k6s {x:Str} {v:AV} {A:Around} {E':Value->Shared->Prop} {Q:Value->Shared->Prop} (E:ER cx ks ns env g vs s) (hk:ks.lookup x=some .local\/ks.lookup x=some .cell\/ks.lookup x=some .free)
  (hd:(x==("__classdict__" : Str))=false) (hv:q6n ns vs x=some v) (h:∀u,VR cx g v u->Q u s):tw (loadName env x) Q E' s:=by
 rcases _:hk with k|k|k
 ·obtain⟨m,hm,hx⟩:=E.loc
  rcases _:hx x v k hv with⟨u,e,r⟩
  exact wpAny_loadName_local E.fn (w2d E k) hm e (h u r)
 ·obtain⟨c,hc,_,_,_,o,co,cv⟩:=E.cel x (.inl k)
  obtain⟨u,rfl,r⟩:=cv v hv
  exact wpAny_loadName_cell E.fn (z4g E k) hc co (h u r)
 ·obtain⟨c,hc,_,_,_,o,co,cv⟩:=E.cel x (.inr k)
  obtain⟨u,rfl,r⟩:=cv v hv
  rcases k5x E k with q|q
  ·exact wpAny_loadName_free E.fn q hc co (h u r) hd
  ·exact wpAny_loadName_cell E.fn q hc co (h u r)
theorem w4a {x:Str} (h:x∈ns):ns.idxOf x<ns.length:=List.idxOf_lt_length_of_mem h
theorem w5c {x y:Str} (h:x∈ns) (e:ns.idxOf x=ns.idxOf y):x=y:=by
 have h1:=w4a h
 have h2:ns.idxOf y<ns.length:=by rw[<-e];exact h1
 have a1:ns[ns.idxOf x]=x:=List.getElem_idxOf h1
 have a2:ns[ns.idxOf y]=y:=List.getElem_idxOf h2
 rw[<-a1,<-a2];congr 1
theorem q2p {x:Str} {v:AV} (hl:vs.length=ns.length) (h:x∈ns):q6n ns (putV ns vs x v) x=some v:=by
 unfold q6n putV
 rw[List.getElem?_set_self (by rw[hl];exact w4a h)]
theorem q1z {x y:Str} {v:AV} (h:x∈ns) (hne:y≠x):q6n ns (putV ns vs x v) y=q6n ns vs y:=by
 unfold q6n putV
 rw[List.getElem?_set_ne (λ e=>hne (w5c h e).symm)]
theorem q9r {x:Str} {v:AV}:(putV ns vs x v).length=vs.length:=by simp[putV]
inductive PA (cx:Cx) (ks:Kinds) (ns:tL) (env:Env) (g:G) (s:Shared) (vs':Vs) (Z':Store) (s':Shared):Prop
 | mk (g':G) (a:Stp (ownK ks env) g s g' s') (i:Inv cx g' Z' s') (e:ER cx ks ns env g' vs' s')
theorem z1n {x:Str} {c:Addr} (h:env.cells.lookup x=some c) (hk:ks.lookup x=some .cell):c∈ownK ks env:=by
 refine zG _ (List.mem_filterMap.mpr ⟨(x,.cell),mem_of_lookup hk,by simp[hk,h]⟩)
set_option tactic.hygienic true in theorem k7d (E:ER cx ks ns env g vs s) {b:Addr} (h:b∈ownK ks env):∃o,s.heap.get? b=some o:=by
 rcases List.mem_cons.mp h with rfl|h
 ·obtain⟨m,hm,_⟩:=E.loc;exact q7h hm
 ·rcases _:List.mem_filterMap.mp h with⟨⟨x,k⟩,_,e⟩
  split at e
  ·rename_i hk
   rcases _:E.cel x (.inl hk)with⟨c,hc,_,_,_,o,co,_⟩
   simp only[hc]at e;obtain rfl:=zE e
   exact q3f co
  ·contradiction
theorem k5g (E:ER cx ks ns env g vs s):(∃o,s.heap.get? env.locals=some o)/\∀x c,IsCF ks x->env.cells.lookup x=some c->∃o,s.heap.get? c=some o:=by
 refine⟨by rcases _:E.loc with⟨m,hm,_⟩;exact q7h hm,λ x c k h=>?_⟩
 obtain⟨c',hc,_,_,_,o,co,_⟩:=E.cel x k
 rw[hc]at h;obtain rfl:=zE h
 exact q3f co
theorem Stp.write {own:List Addr} {h':Heap} {a:Addr} {t:Nat} (ht:s.toks<=t) (ha:a∈own) (hs:Heap.SameBut a s.heap h') (hx:∃o,h'.get? a=some o):Stp own g s g { s with heap:=h',toks:=t }:=
 ⟨.refl g,ht,λ b o e J q=>(hs.2 b λ z=>q (z▸ha)).trans e,λ J J J h=>h,λ J J J h=>h,λ b o e=>by
  by_cases z:b=a
  ·rw[z];exact hx
  ·exact⟨o,(hs.2 b z).trans e⟩,rfl,rfl⟩
theorem Inv.write (i:tI) {h':Heap} {a:Addr} {t:Nat} (ht:s.toks<=t) (h1:a∉g.ρ) (h2:g.I a=none) (hs:Heap.SameBut a s.heap h'):Inv cx g Z { s with heap:=h',toks:=t }:=
 ⟨λ b o e=>(hs.2 b λ z=>by rw[z,h2]at e;contradiction).trans (i.sub b o e),i.base,i.len,i.nodup,i.apart,
  λ l o b e q=>(i.cells l o b e q).mono (.refl g) λ ob eo=>(hs.2 b λ z=>h1 (z▸List.mem_of_getElem? q)).trans eo,jH i.one ht,λ x y e=>jK (i.tok x y e) ht⟩
theorem w4h {x:Str} {v:AV} {u:Value} {A:Around} {E':Value->Shared->Prop} {Q:Unit->Shared->Prop} (i:tI) (E:ER cx ks ns env g vs s) (hk:q1x ks x=true) (r:VR cx g v u)
  (h:∀s',PA cx ks ns env g s (putV ns vs x v) Z s'->Q () s'):tw (storeName env x u) Q E' s:=by
 unfold q1x at hk
 simp only[Bool.or_eq_true,beq_iff_eq,beq_iff_eq]at hk
 have hx:x∈ns:=E.mem x hk
 have hp:(env.scope.kind==.class||(env.scope.kind==.module&&env.locals !=env.globals))=false:=by rw[E.fn];rfl
 rcases _:E.loc with⟨m,hm,hv⟩
 rcases _:hk with k|k
 ·refine wpAny_storeName_local (w2d E k) hm (λ h' hn hs=>h _ ⟨g,.write (Nat.le_succ _) (zL ..) hs (q7h hn),i.write (Nat.le_succ _) E.locA.1 E.locA.2 hs,?_⟩) hp
  refine⟨E.fn,E.gl,E.bl,E.code,by rw[q9r];exact E.len,E.kinds,E.mem,⟨_,hn,λ y w ky e=>?_⟩,E.locA,λ y ky=>?_,E.apart⟩
  ·by_cases q:y=x
   ·cases q;rw[q2p E.len hx]at e;obtain rfl:=zE e;exact⟨u,by simp,r⟩
   ·rw[q1z hx q]at e;rcases _:hv y w ky e with⟨u',p,q'⟩;exact⟨u',by simp[q,p],q'⟩
  ·obtain⟨c,hc,c1,c2,c3,o,co,cv⟩:=E.cel y ky
   have q:y≠x:=λ z=>by subst z;rcases ky with ky|ky<;>(rw[k]at ky;contradiction)
   exact⟨c,hc,c1,c2,c3,o,co.sameBut hs c3,λ w e=>by rw[q1z hx q]at e;exact cv w e⟩
 ·obtain⟨c,hc,c1,c2,c3,o,co,cv⟩:=E.cel x (.inl k)
  refine wpAny_storeName_cell E.fn (z4g E k) hc co λ h' hn hs=>h _ ⟨g,.write (jZ _) (z1n hc k) hs (q3f hn),i.write (jZ _) c1 c2 hs,?_⟩
  refine⟨E.fn,E.gl,E.bl,E.code,by rw[q9r];exact E.len,E.kinds,E.mem,⟨m,hm.sameBut hs c3.symm,λ y w ky e=>?_⟩,E.locA,λ y ky=>?_,E.apart⟩
  ·have q:y≠x:=λ z=>by cases z;rw[k]at ky;contradiction
   rw[q1z hx q]at e;exact hv y w ky e
  ·by_cases q:y=x
   ·subst q;exact⟨c,hc,c1,c2,c3,some u,hn,λ w e=>by rw[q2p E.len hx]at e;obtain rfl:=zE e;exact⟨u,rfl,r⟩⟩
   ·obtain⟨c',hc',d1,d2,d3,o',co',cv'⟩:=E.cel y ky
    exact⟨c',hc',d1,d2,d3,o',co'.sameBut hs (λ z=>q (E.apart y x c (z▸hc') hc)),λ w e=>by rw[q1z hx q]at e;exact cv' w e⟩
end
inductive PB (cx:Cx) (g:G) (s:Shared) (Z':Store) (b b':Bool) (s':Shared):Prop
 | mk (e:b'=b) (g':G) (a:Stp [] g s g' s') (i:Inv cx g' Z' s')
def FR (cx:Cx) (g:G):q1c->Flow->Prop
 | .next,f=>f = .next
 | .ret v,f=>∃u,f = .ret u/\VR cx g v u
inductive PS (cx:Cx) (ks:Kinds) (ns:tL) (env:Env) (g:G) (s:Shared) (fl:q1c) (vs':Vs) (Z':Store) (f:Flow) (s':Shared):Prop
 | mk (g':G) (a:Stp (ownK ks env) g s g' s') (i:Inv cx g' Z' s') (e:ER cx ks ns env g' vs' s') (r:FR cx g' fl f)
def EOk (cx:Cx) (n:Nat) (f:Kinds->List Str->Expr->Vs->Store->Res):Prop:=
 ∀{ks ns ex vs Z v Z'},f ks ns ex vs Z=some (v,Z')->∀{A env g s},AOk n A->Inv cx g Z s->ER cx ks ns env g vs s->tw (eval ex env) (PX cx g s Z' v) NoE s
def TOk (cx:Cx) (n:Nat) (f:Kinds->List Str->Expr->Vs->Store->Option (Bool×Store)):Prop:=
 ∀{ks ns ex vs Z b Z'},f ks ns ex vs Z=some (b,Z')->∀{A env g s},AOk n A->Inv cx g Z s->ER cx ks ns env g vs s->tw (isTrue ex env (eval ex env)) (PB cx g s Z' b) NoE s
def AsOk (cx:Cx) (n:Nat) (f:Kinds->List Str->Expr->AV->Vs->Store->Option (Vs×Store)):Prop:=
 ∀{ks ns t v vs Z vs' Z'},f ks ns t v vs Z=some (vs',Z')->∀{A env g s u},AOk n A->Inv cx g Z s->ER cx ks ns env g vs s->VR cx g v u->
  tw (assign t env u) (λ J s'=>PA cx ks ns env g s vs' Z' s') NoE s
def SOk (cx:Cx) (n:Nat) (f:Kinds->List Str->Stmt->Vs->Store->ResS):Prop:=
 ∀{ks ns st vs Z fl vs' Z'},f ks ns st vs Z=some (fl,vs',Z')->∀{A env g s},AOk n A->Inv cx g Z s->ER cx ks ns env g vs s->tw (exec st env) (PS cx ks ns env g s fl vs' Z') NoE s
def COk (cx:Cx) (n:Nat) (f:Kinds->List Str->Expr->Vs->Store->Res):Prop:=
 ∀{ks ns ex vs Z v Z'},w5e ex=true->f ks ns ex vs Z=some (v,Z')->∀{A env g s} {use:Value->Sem Unit} {vs' Z''},AOk n A->Inv cx g Z s->ER cx ks ns env g vs s->
  (∀g1 s₁ u1,Stp [] g s g1 s₁->Inv cx g1 Z' s₁->ER cx ks ns env g1 vs s₁->VR cx g1 v u1->tw (use u1) (λ J s₂=>PA cx ks ns env g1 s₁ vs' Z'' s₂) NoE s₁)->
  tw (evalThenUse ex env use) (λ J s'=>PA cx ks ns env g s vs' Z'' s') NoE s
structure EvOk (cx:Cx) (n:Nat) (r:Ev):Prop where
 e:EOk cx n r.e
 c:COk cx n r.e
 t:TOk cx n r.t
 a:AsOk cx n r.a
 s:SOk cx n r.s
structure GlOk (cx:Cx) (T:Tab):Prop where
 mods:∃b o,sysModules<=b/\cx.h₀.get? b=some o
 gns:cx.h₀.Ns cx.gA cx.mg
 bns:cx.h₀.Ns cx.bA cx.mb
 names:∀x v,T.gl.lookup x=some v->∃u,(cx.mg x=some u\/(cx.mg x=none/\cx.mb x=some u))/\∀g,(∀a o,cx.h₀.get? a=some o->g.I a=some o)->VR cx g v u
section
variable {T:Tab} {n:Nat} {r:Ev} {ks:Kinds} {ns:tL} {env:Env} {g g':G} {vs:Vs} {Z Z':Store} {s:Shared} {A:Around} {v:AV} {u:Value} {ex:Expr}
theorem VRs.e1 {g:G} {x:AV} {us:tU} {P:List Value->Prop} (R:VRs cx g [x] us) (k:∀u,VR cx g x u->P [u]):P us:=by
 obtain⟨u,r,rfl,h,R⟩:=R.uncons
 obtain rfl:=R.of_nil
 exact k u h
theorem VRs.e2 {g:G} {x y:AV} {us:tU} {P:List Value->Prop} (R:VRs cx g [x,y] us) (k:∀u w,VR cx g x u->VR cx g y w->P [u,w]):P us:=by
 obtain⟨u,r,rfl,h,R⟩:=R.uncons
 exact R.e1 (P:=λ l=>P (u::l)) λ w h'=>k u w h h'
theorem VRs.e3 {g:G} {x y z:AV} {us:tU} {P:List Value->Prop} (R:VRs cx g [x,y,z] us) (k:∀u w q,VR cx g x u->VR cx g y w->VR cx g z q->P [u,w,q]):P us:=by
 obtain⟨u,r,rfl,h,R⟩:=R.uncons
 exact R.e2 (P:=λ l=>P (u::l)) λ w q h' h''=>k u w q h h' h''
theorem Inv.nsAt (i:tI) {a:Addr} {m:Str->Option Value} (h:cx.h₀.Ns a m):s.heap.Ns a m:=j1c h λ o e=>i.sub _ _ (i.base _ _ e)
set_option tactic.hygienic true in theorem z0y {c:Const} {k:Nat} {p:Pos} (e:z9v c=some v) (i:tI):tw (eval (.Constant c k p) env) (PX cx g s Z v) NoE s:=by
 refine PE.x ?_
 rcases c<;>dsimp only[z9v]at e
 case none=>obtain rfl:=zE e;exact wpAny_Constant_none (.now i .none_)
 case bool=>obtain rfl:=zE e;exact wpAny_Constant_bool (.now i .bool_)
 case int=>obtain rfl:=zE e;exact wpAny_Constant_int (.tok i (.int_ _) _)
 case str x=>split at e<;>rcases e;exact wpAny_Constant_str (.tok i (.str_ _ ‹_›) _)
 all_goals contradiction
theorem z7q {x:Str} {p:Pos} (E:ER cx ks ns env g vs s) (i:tI) (hk:ks.lookup x=some .local\/ks.lookup x=some .cell\/ks.lookup x=some .free)
  (h1:(x==("__debug__" : Str))=false) (h2:(x==("__classdict__" : Str))=false) (e:q6n ns vs x=some v):tw (eval (.Name x p) env) (PX cx g s Z v) NoE s:=
 PE.x (wpAny_Name (k6s E hk h2 e λ u r=>.now i r) h1)
theorem z0z (H:GlOk cx T) {x:Str} {p:Pos} (E:ER cx ks ns env g vs s) (i:tI) (hk:ks.lookup x=some .globalImplicit)
  (h1:(x==("__debug__" : Str))=false) (e:T.gl.lookup x=some v):tw (eval (.Name x p) env) (PX cx g s Z v) NoE s:=by
 rcases _:H.names x v e with⟨u,hu,hr⟩
 refine PE.x (Calls.Name_function_global E.fn (z8c E hk) ?_ h1)
 have hg:s.heap.Ns env.globals cx.mg:=by rw[E.gl];exact i.nsAt H.gns
 have hb:s.heap.Ns env.builtins cx.mb:=by rw[E.bl];exact i.nsAt H.bns
 rcases _:hu with hu|⟨h0,hu⟩
 ·exact Calls.loadGlobal_global hg hu (.now i (hr g i.base))
 ·exact Calls.loadGlobal_builtin hg h0 hb hu (.now i (hr g i.base))
theorem k0z {o:Option NameKind} (h:j6j o=true):o=some .local\/o=some .cell\/o=some .free:=by
 rcases o with _|o
 ·exact absurd h Bool.false_ne_true
 ·induction o with
  | «local»=>exact .inl rfl
  | cell=>exact .inr (.inl rfl)
  | free=>exact .inr (.inr rfl)
  | _=>exact absurd h Bool.false_ne_true
theorem v0i (H:GlOk cx T) {x:Str} {p:Pos} (E:ER cx ks ns env g vs s) (i:tI)
  (e:v2b T ks ns x vs Z=some (v,Z')):tw (eval (.Name x p) env) (PX cx g s Z' v) NoE s:=by
 refine ifNo e λ hd e=>ifE e (λ h1 e=>mapQ e λ w h e=>?_) λ J e=>q0k e λ h1 e=>mapQ e λ w h e=>?_<;>(simp only[Bool.or_eq_true,not_or,Bool.not_eq_true]at hd;rcases e)
 ·exact wpAny_mono (z7q E i (k0z h1) hd.1 hd.2 h) (λ _ _ ⟨g',a,b,c⟩=>⟨g',a,b,c.norm⟩) λ J J x=>x
 ·exact z0z H E i (beq_iff_eq.mp h1) hd.1 h
theorem q0r (R:EOk cx n r.e) (hA:AOk n A) (i:tI) (E:ER cx ks ns env g vs s) {x:AV} {Z1:Store} (e:r.e ks ns ex vs Z=some (x,Z1)) {P:Value->Shared->Prop}
  (k:∀g1 s₁ u1,Stp [] g s g1 s₁->Inv cx g1 Z1 s₁->ER cx ks ns env g1 vs s₁->VR cx g1 x u1->P u1 s₁):tw (eval ex env) P NoE s:=
 PX.then (R e hA i E) λ g1 s₁ u1 a b c=>k g1 s₁ u1 a b (E.go a) c
theorem z7b (R:TOk cx n r.t) (hA:AOk n A) (i:tI) (E:ER cx ks ns env g vs s) {b:Bool} {Z1:Store} (e:r.t ks ns ex vs Z=some (b,Z1)) {P:Bool->Shared->Prop}
  (k:∀g1 s₁,Stp [] g s g1 s₁->Inv cx g1 Z1 s₁->ER cx ks ns env g1 vs s₁->P b s₁):tw (isTrue ex env (eval ex env)) P NoE s:=
 wpAny_mono (R e hA i E) (λ b' s₁ ⟨hb,g1,a,i1⟩=>by cases hb;exact k g1 s₁ a i1 (E.go a)) λ J J x=>x
theorem PE.up' {t:Sem Value} {g1:G} {s₁:Shared} (a:Stp [] g s g1 s₁) (h:tw t (PE cx g1 s₁ Z' v) NoE s₁):tw t (PX cx g s Z' v) NoE s₁:=PX.lift a (PE.x h)
theorem z2z {b:Bool} {g1:G} {s₁:Shared} (a:Stp [] g s g1 s₁) (i:Inv cx g1 Z s₁) (e:q3x Z v=some b) (c:VR cx g1 v u):tw (truthy u) (PB cx g s Z b) NoE s₁:=by
 refine q5k (k3i i e c λ t ht=>⟨rfl,g1,a.trans (.tks ht),i.toks ht⟩)
theorem j5o (R:EOk cx n r.e) (hA:AOk n A) (i:tI) (E:ER cx ks ns env g vs s) {l rr:Expr} {op:Operator} {p:Pos}
  (e:(do
   let (x,Z) <-r.e ks ns l vs Z
   let (y,Z) <-r.e ks ns rr vs Z
   let v <-binA Z op x y
   some (v,Z))=some (v,Z')):tw (eval (.BinOp l op rr p) env) (PX cx g s Z' v) NoE s:=by
 refine q0e e λ x Z1 e1 e=>q0e e λ y Z2 e2 e=>q5l e λ w e3 e=>?_
 rw[(q0h e).1,(q0h e).2]
 refine wpAny_BinOp (q0r R hA i E e1 λ g1 s₁ u1 a1 i1 E1 r1=>q0r R hA i1 E1 e2 λ g2 s₂ u2 a2 i2 E2 r2=>?_)
 exact PE.up' (a1.trans a2) (j5a i2 e3 (r1.mono a2.le) r2)
theorem k4j (R:EOk cx n r.e) (hA:AOk n A) (i:tI) (E:ER cx ks ns env g vs s) {l rr:Expr} {op:CmpOp} {b:Bool} {P:Value->Shared->Prop} {x y:AV} {Z1:Store}
  (e1:r.e ks ns l vs Z=some (x,Z1)) (e2:r.e ks ns rr vs Z1=some (y,Z')) (e3:cmpA Z' op x y=some b) (k:∀g1 s₁,Stp [] g s g1 s₁->Inv cx g1 Z' s₁->P (.bool b) s₁) :
  tw (eval l env) (λ a s₁=>tw (eval rr env) (λ b s₂=>tw (compareOp op a b) P NoE s₂) NoE s₁) NoE s:=by
 refine q0r R hA i E e1 λ g1 s₁ u1 a1 i1 E1 r1=>q0r R hA i1 E1 e2 λ g2 s₂ u2 a2 i2 E2 r2=>?_
 refine PX.then (PE.x (j5g hA i2 e3 (r1.mono a2.le) r2)) λ g3 s3 u3 a3 i3 r3=>?_
 subst r3
 exact k g3 s3 ((a1.trans a2).trans a3) i3
theorem k4x (R:EOk cx n r.e) (hA:AOk n A) (i:tI) (E:ER cx ks ns env g vs s) {l rr:Expr} {op:CmpOp} {p:Pos}
  (e:(if behindInMarks op rr then none else do
   let (x,Z) <-r.e ks ns l vs Z
   let (y,Z) <-r.e ks ns rr vs Z
   let v <-cmpA Z op x y
   some (AV.bool v,Z))=some (v,Z')):tw (eval (.Compare l [op] [rr] p) env) (PX cx g s Z' v) NoE s:=by
 refine ifNo e λ hm e=>q0e e λ x Z1 e1 e=>q0e e λ y Z2 e2 e=>q5l e λ w e3 e=>?_
 rw[(q0h e).1,(q0h e).2]
 exact wpAny_Compare1 (k4j R hA i E e1 e2 e3 λ g1 s₁ a1 i1=>⟨g1,a1,i1,.bool_⟩) (Bool.not_eq_true _▸hm)
theorem j5p (R:EvOk cx n r) (hA:AOk n A) (i:tI) (E:ER cx ks ns env g vs s) {t a b:Expr} {p:Pos}
  (e:(do
   let (c,Z) <-r.t ks ns t vs Z
   if c then r.e ks ns a vs Z else r.e ks ns b vs Z)=some (v,Z')):tw (eval (.IfExp t a b p) env) (PX cx g s Z' v) NoE s:=by
 rcases _:bind_some e with⟨⟨c,Z1⟩,e1,e⟩
 refine wpAny_IfExp (z7b R.t hA i E e1 λ g1 s₁ a1 i1 E1=>?_)
 induction c with
 | true=>exact PX.lift a1 (R.e e hA i1 E1)
 | false=>exact PX.lift a1 (R.e e hA i1 E1)
theorem e_un (R:EOk cx n r.e) (hA:AOk n A) (i:tI) (E:ER cx ks ns env g vs s) {a:Expr} {op:UnaryOp} {p:Pos}
  (e:unE r ks ns op a vs Z=some (v,Z')):tw (eval (.UnaryOp op a p) env) (PX cx g s Z' v) NoE s:=by
 induction op with
 | Not=>
  refine q0e e λ x Z1 e1 e=>q5l e λ b e2 e=>?_
  rw[(q0h e).1,(q0h e).2]
  refine wpAny_UnaryOp (q0r R hA i E e1 λ g1 s₁ u1 a1 i1 E1 r1=>PySem.not_value ?_)
  exact wpAny_mono (z2z a1 i1 e2 r1) (λ b' s₂ ⟨hb,g2,a2,i2⟩=>by subst hb;exact⟨g2,a2,i2,.bool_⟩) λ J J x=>x
 | USub=>
  refine q0e e λ x Z1 e1 e=>optE e λ j e2 e=>?_
  rw[(q0h e).1,(q0h e).2]
  refine wpAny_UnaryOp (q0r R hA i E e1 λ g1 s₁ u1 a1 i1 E1 r1=>?_)
  obtain⟨t,rfl⟩:=r1.intV e2
  exact PE.up' a1 (PyProof.Rows.neg_int (.tok i1 (.int_ _) _))
 | _=>exact nope e
theorem k4w (R:EOk cx n r.e) (hA:AOk n A) {op:BoolOp} {p:Pos}:∀{es:List Expr} {g:G} {Z:Store} {s:Shared},Inv cx g Z s->ER cx ks ns env g vs s->
  j5c r ks ns op es vs Z=some (v,Z')->tw (boolOp p op (evalEach es env)) (PX cx g s Z' v) NoE s
 | [],_,_,_,_,_,e=>by contradiction
 | [x],_,_,_,i,E,e=>R e hA i E
 | x::y::es,g,Z,s,i,E,e=>by
  rcases _:bind_some e with⟨⟨w,Z1⟩,e1,e⟩
  rcases _:bind_some e with⟨b,e2,e⟩
  refine tG (q0r R hA i E e1 λ g1 s₁ u1 a1 i1 E1 r1=>tG (wpAny_standAt (tG (wpAny_holding ?_))))
  (refine wpAny_mono (z2z (.refl _ _ _) i1 e2 r1) (λ b' s₂ zz0=>?_) λ J J x=>x;obtain⟨hb,g2,a2,i2⟩:=zz0)
  subst hb
  have E2:=E1.go a2
  rcases op<;>rcases b'<;>simp only at e ⊢
  case And.true=>exact PX.lift (a1.trans a2) (k4w R hA i2 E2 e)
  case Or.false=>exact PX.lift (a1.trans a2) (k4w R hA i2 E2 e)
  all_goals (rw[(q0h e).1,(q0h e).2];exact tJ ⟨g2,a1.trans a2,i2,r1.mono a2.le⟩)
theorem j8d (R:TOk cx n r.t) (hA:AOk n A) {op:BoolOp} {b:Bool}:∀{es:List Expr} {g:G} {Z:Store} {s:Shared},Inv cx g Z s->ER cx ks ns env g vs s->
  allA r ks ns op es vs Z=some (b,Z')->tw (allTrue op es env) (PB cx g s Z' b) NoE s
 | [],g,Z,s,i,E,e=>by
  rw[(q0h e).1,(q0h e).2]
  exact tJ ⟨by rcases op<;>rfl,g,.refl _ _ _,i⟩
 | x::es,g,Z,s,i,E,e=>by
  rcases _:bind_some e with⟨⟨c,Z1⟩,e1,e⟩
  refine tG (z7b R hA i E e1 λ g1 s₁ a1 i1 E1=>?_)
  have up:∀{t:Sem Bool},tw t (PB cx g1 s₁ Z' b) NoE s₁->tw t (PB cx g s Z' b) NoE s₁:=λ h=>
   wpAny_mono h (λ _ _ ⟨hb,g',a,i⟩=>⟨hb,g',a1.trans a,i⟩) λ J J x=>x
  rcases op<;>rcases c<;>simp only at e ⊢
  case And.true=>exact up (j8d R hA i1 E1 e)
  case Or.false=>exact up (j8d R hA i1 E1 e)
  all_goals (rw[(q0h e).1,(q0h e).2];exact tJ ⟨rfl,g1,a1,i1⟩)
theorem PB.up {t:Sem Bool} {b:Bool} {g1:G} {s₁:Shared} (a:Stp [] g s g1 s₁) (h:tw t (PB cx g1 s₁ Z' b) NoE s₁):tw t (PB cx g s Z' b) NoE s₁:=
 wpAny_mono h (λ _ _ ⟨hb,g',c,i⟩=>⟨hb,g',a.trans c,i⟩) λ J J x=>x
theorem j8e (R:EOk cx n r.e) (hA:AOk n A) (i:tI) (E:ER cx ks ns env g vs s) {b:Bool}
  (e:(do
   let (x,Z) <-r.e ks ns ex vs Z
   let b <-q3x Z x
   some (b,Z))=some (b,Z')) (he:isTrue ex env (eval ex env)=(do let v <-eval ex env;standAt ex.pos;holding [v] (truthy v))):tw (isTrue ex env (eval ex env)) (PB cx g s Z' b) NoE s:=by
 rcases _:bind_some e with⟨⟨x,Z1⟩,e1,e⟩
 rcases _:bind_some e with⟨b',e2,e⟩
 rw[(q0h e).1,(q0h e).2]
 exact wpAny_isTrue_value (q0r R hA i E e1 λ g1 s₁ u1 a1 i1 E1 r1=>z2z a1 i1 e2 r1) he
theorem v0u (R:EvOk cx n r):TOk cx n (evT r):=by
 intro ks ns ex vs Z b Z' e A env g s hA i E
 have dflt:(do
   let (x,Z) <-r.e ks ns ex vs Z
   let b <-q3x Z x
   some (b,Z))=some (b,Z')->isTrue ex env (eval ex env)=(do let v <-eval ex env;standAt ex.pos;holding [v] (truthy v))->tw (isTrue ex env (eval ex env)) (PB cx g s Z' b) NoE s:=
  λ e he=>j8e R.e hA i E e he
 induction ex using Expr.casesOn with
 | UnaryOp op x p=>
  induction op with
  | Not=>
   rcases _:bind_some e with⟨⟨c,Z1⟩,e1,e⟩
   rw[(q0h e).1,(q0h e).2]
   exact tG (z7b R.t hA i E e1 λ g1 s₁ a1 i1 E1=>tJ ⟨rfl,g1,a1,i1⟩)
  | _=>exact dflt e rfl
 | BoolOp op es p=>skip;exact j8d R.t hA i E e
 | IfExp t a c p=>exact nope e
 | Compare l ops rs p=>
  refine optE e λ op h1 e=>optE e λ rr h2 e=>?_
  obtain rfl:=w3a h1
  obtain rfl:=w3a h2
  refine ifNo e λ hm e=>q0e e λ x Z1 e1 e=>q0e e λ y Z2 e2 e=>q5l e λ w e3 e=>?_
  rw[(q0h e).1,(q0h e).2]
  exact wpAny_isTrue_Compare1 (k4j R.e hA i E e1 e2 e3 λ g1 s₁ a1 i1=>wpAny_truthy_bool ⟨rfl,g1,a1,i1⟩) (Bool.not_eq_true _▸hm)
 | _=>exact dflt e rfl
inductive PL (cx:Cx) (g:G) (s:Shared) (Z':Store) (xs:tW) (us:tU) (s':Shared):Prop
 | mk (g':G) (a:Stp [] g s g' s') (i:Inv cx g' Z' s') (r:VRs cx g' xs us)
theorem q0u {e:Expr} {es:List Expr} (h:∀x p,e≠.Starred x p):starEach (e::es) env=(false,eval e env)::starEach es env:=by
 rcases e<;>first|rfl|exact absurd rfl (h _ _)
def j8y (cx:Cx) (A:Around) (ks:Kinds) (ns:tL) (env:Env) (vs:Vs) (ev:Expr->Vs->Store->Res):Prop:=
 ∀{ex Z v Z' g s},ev ex vs Z=some (v,Z')->Inv cx g Z s->ER cx ks ns env g vs s->tw (eval ex env) (PX cx g s Z' v) NoE s
theorem w5a {ev:Expr->Vs->Store->Res} (R:j8y cx A ks ns env vs ev) {p:Pos}:∀{es:List Expr} {g:G} {Z:Store} {s:Shared} {xs:tW},Inv cx g Z s->ER cx ks ns env g vs s->z3v ev es vs Z=some (xs,Z')->
  tw (spliced (backTo p (starEach es env))) (PL cx g s Z' xs) NoE s
 | [],g,Z,s,_,i,E,e=>by rw[(q0h e).1,(q0h e).2];exact tJ ⟨g,.refl _ _ _,i,.nil⟩
 | x::es,g,Z,s,xs,i,E,e=>by
  refine ifNo e λ hx e=>q0e e λ w Z1 e1 e2=>q0e e2 λ ws Z2 e2 e3=>?_
  rcases e3
  rw[q0u (q8n hx)]
  show wpAny cx.M A (do
   let v <-eval x env
   let here <-pure [v]
   return here++(<-holding here (spliced (backTo p (starEach es env))))) _ _ s
  refine tG (PX.then (R e1 i E) λ g1 s₁ u1 a1 i1 r1=>tG (tJ (tG (wpAny_holding ?_))))
  refine wpAny_mono (w5a R i1 (E.go a1) e2) (λ us s₂ ⟨g2,a2,i2,r2⟩=>tJ ⟨g2,a1.trans a2,i2,.cons (r1.mono a2.le) r2⟩) λ J J x=>x
theorem k0d (R:EOk cx n r.e) (hA:AOk n A) {p:Pos} {es:List Expr} {xs:tW} (i:tI) (E:ER cx ks ns env g vs s) (e:evals r ks ns es vs Z=some (xs,Z')):tw (spliced (backTo p (starEach es env))) (PL cx g s Z' xs) NoE s:=
 w5a (λ e i E=>R e hA i E) i E e
noncomputable def G.lit (g:G) (t:Tok) (x:Str):G:=⟨g.I,g.ρ,λ y=>if y=t then some x else g.τ y⟩
theorem G.lit_le {t:Tok} {x:Str} (h:g.τ t=none):g.le (g.lit t x):=
 ⟨λ J J e=>e,⟨[],by simp[G.lit]⟩,λ y z e=>by
  show(if y=t then some x else g.τ y)=some z
  by_cases q:y=t
  ·subst q;rw[h]at e;contradiction
  ·rw[if_neg q];exact e⟩
theorem j3g {x:Str} (i:tI) (hx:x.length<=sizeLine):PX cx g s Z (.lit x) (.str x s.toks) { s with toks:=s.toks+1 }:=by
 have h0:g.τ s.toks=none:=by
  generalize q:g.τ s.toks=zzy
  induction zzy with
  | none=>rfl
  | some y=>exact absurd (i.tok _ _ q) (Nat.lt_irrefl _)
 have le:=G.lit_le (x:=x) h0
 refine⟨g.lit s.toks x,⟨le,Nat.le_succ _,λ J J e J J=>e,λ J J J h=>h,λ J J J h=>h,λ J o e=>⟨o,e⟩,rfl,rfl⟩,
  ⟨i.sub,i.base,i.len,i.nodup,i.apart,λ l o a e q=>(i.cells l o a e q).mono le λ J e=>e,Nat.le_succ_of_le i.one,λ t y e=>?_⟩,⟨_,rfl,hx,if_pos rfl,Nat.ne_of_gt i.one⟩⟩
 have e:(if t=s.toks then some x else g.τ t)=some y:=e
 by_cases q:t=s.toks
 ·subst q;exact Nat.lt_succ_self _
 ·rw[if_neg q]at e;exact Nat.lt_succ_of_lt (i.tok _ _ e)
theorem j3q (R:EOk cx n r.e) (hA:AOk n A):j8y cx A ks ns env vs (rawE T r ks ns):=λ{ex Z v Z' g s} e i E=>by
 refine optM e (λ x h e=>optE h λ q h1 h=>optE h λ x' h2 h=>q0k h λ hz h9=>?_) λ J e=>R e hA i E
 rw[(q0h e).1,(q0h e).2]
 obtain⟨c,l⟩:=q
 obtain⟨k,p,rfl⟩:=k4q h1
 obtain rfl:c = .str x':=z9h h2
 obtain rfl:=zE h9
 exact wpAny_Constant_str (j3g i hz.2)
theorem k6q {mu:Bool} {xs:tW} {us:tU} {k t:Nat} (i:tI) (q:VRs cx g xs us) (z:xs.length<=sizeLine) (e:q0w mu xs Z=some (v,Z')) :
  PE cx g s Z' v (.ref tH) { s with heap:=s.heap.push { cls:=.type "list",data:=.seq us.toArray k },toks:=t }:=by
 unfold q0w at e
 split at e<;>rw[(q0h e).1,(q0h e).2]
 ·refine PE.cell (o:=.list xs) i (q0f s) ⟨us,⟨k,Heap.get?_push_size _ rfl⟩,q.mono (G.cell_le _ _),z⟩ (λ b o e=>Heap.get?_push_of_some _ e) t
 ·exact .list i q z rfl
theorem v0h (R:EOk cx n r.e) (hA:AOk n A) (i:tI) (E:ER cx ks ns env g vs s) {es:List Expr} {p:Pos}
  (e:(do
   let (xs,Z) <-z3v (rawE T r ks ns) es vs Z
   if xs.length<=sizeLine then q0w (T.mu p.line) xs Z else none)=some (v,Z')):tw (eval (.List es p) env) (PX cx g s Z' v) NoE s:=by
 refine q0e e λ xs Z1 e1 e=>q0k e λ z e=>?_
 refine PE.x (wpAny_List (wpAny_mono (w5a (j3q R hA) i E e1) (λ us s₁ ⟨g1,a1,i1,r1⟩=>⟨by rw[<-r1.length];exact z,λ ht=>?_⟩) λ J J x=>x))
 exact(k6q (k:=0) (t:=s₁.toks) i1 r1 z e (jZ _)).up a1
theorem j5r (R:EOk cx n r.e) (hA:AOk n A) (i:tI) (E:ER cx ks ns env g vs s) {es:List Expr} {k:Nat} {p:Pos}
  (e:(do
   let (xs,Z) <-evals r ks ns es vs Z
   if xs.length<=sizeLine then some (AV.tup xs,Z)else none)=some (v,Z')):tw (eval (.Tuple es k p) env) (PX cx g s Z' v) NoE s:=by
 refine q0e e λ xs Z1 e1 e=>q0k e λ z e=>?_
 rw[(q0h e).1,(q0h e).2]
 refine PE.x (wpAny_Tuple (wpAny_mono (k0d R hA i E e1) (λ us s₁ ⟨g1,a1,i1,r1⟩=>⟨by rw[<-r1.length];exact z,λ ht=>?_⟩) λ J J x=>x))
 exact(PE.tuple (n:=0) (t:=s₁.toks) i1 r1 z rfl (jZ _)).up a1
theorem v4t (R:EOk cx n r.e) (hA:AOk n A) (i:tI) (E:ER cx ks ns env g vs s) {o j:Expr} {p:Pos}
  (e:(do
   let (x,Z) <-r.e ks ns o vs Z
   let (y,Z) <-r.e ks ns j vs Z
   let v <-getA Z x y
   some (norm v,Z))=some (v,Z')):tw (eval (.Subscript o j p) env) (PX cx g s Z' v) NoE s:=by
 refine q0e e λ x Z1 e1 e=>?_
 refine q0e e λ y Z2 e2 e=>?_
 refine q5l e λ w e3 e=>?_
 rw[(q0h e).1,(q0h e).2]
 refine tG (q0r R hA i E e1 λ g1 s₁ u1 a1 i1 E1 r1=>tG (wpAny_holding (q0r R hA i1 E1 e2 λ g2 s₂ u2 a2 i2 E2 r2=>tG (wpAny_standAt ?_))))
 rcases _:k5r (A:=A) i2 e3 (r1.mono a2.le) r2 with⟨T',id,hT,hl,h⟩
 exact z2x hT hl (wpAny_mono (PE.up' (a1.trans a2) h) (λ _ _ ⟨g',a,b,c⟩=>⟨g',a,b,c.norm⟩) λ J J x=>x)
theorem z8n (R:EOk cx n r.e) (hA:AOk n A) (i:tI) (E:ER cx ks ns env g vs s) {o:Option Expr} (e:j1g r ks ns vs o Z=some (v,Z')) {P:Value->Shared->Prop}
  (k:∀g1 s₁ u1,Stp [] g s g1 s₁->Inv cx g1 Z' s₁->ER cx ks ns env g1 vs s₁->VR cx g1 v u1->P u1 s₁):tw (valueOrNone (evalOpt o env)) P NoE s:=by
 induction o with
 | none=>obtain⟨rfl,rfl⟩:=Prod.mk.inj (zE e);exact tJ (k g s .none (.refl _ _ _) i E .none_)
 | some x=>exact q0r R hA i E e k
theorem j5q (R:EOk cx n r.e) (hA:AOk n A) (i:tI) (E:ER cx ks ns env g vs s) {o:Expr} {lo hi st:Option Expr} {p q:Pos}
  (e:j3u r ks ns o lo hi st vs Z=some (v,Z')):tw (eval (.Subscript o (.Slice lo hi st q) p) env) (PX cx g s Z' v) NoE s:=by
 refine q0e e λ x Z1 e1 e=>q0e e λ y Z2 e2 e=>q0e e λ z Z3 e3 e=>q0e e λ w Z4 e4 e=>q5l e λ w' e5 e=>?_
 rcases e
 refine tG (q0r R hA i E e1 λ g1 s₁ u1 a1 i1 E1 r1=>tG (wpAny_holding ?_))
 refine tG (z8n R hA i1 E1 e2 λ g2 s₂ u2 a2 i2 E2 r2=>tG (wpAny_holding (z8n R hA i2 E2 e3 λ g3 s3 u3 a3 i3 E3 r3=>tG (wpAny_holding (z8n R hA i3 E3 e4 λ g4 s4 u4 a4 i4 E4 r4=>?_)))))
 refine wpAny_newObj_type ?_
 have hn:=q0f s4
 have k:∀b o',s4.heap.get? b=some o'->(s4.heap.push { cls:=.type "slice",data:=.fields #[u2,u3,u4] }).get? b=some o':=λ b o' e=>Heap.get?_push_of_some _ e
 have le:=G.freeze_le (o:={ cls:=.type "slice",data:=.fields #[u2,u3,u4] }) (i4.fresh hn).1
 have a5:Stp [] g4 s4 (g4.freeze s4.heap.objs.size { cls:=.type "slice",data:=.fields #[u2,u3,u4] }) { s4 with heap:=s4.heap.push { cls:=.type "slice",data:=.fields #[u2,u3,u4] } }:=.freeze (t:=s4.toks) i4 (jZ _) hn k
 have i5:Inv cx (g4.freeze s4.heap.objs.size { cls:=.type "slice",data:=.fields #[u2,u3,u4] }) Z' { s4 with heap:=s4.heap.push { cls:=.type "slice",data:=.fields #[u2,u3,u4] } }:=i4.freeze (t:=s4.toks) (jZ _) hn (Heap.get?_push_size _ rfl) k
 refine tG (wpAny_standAt ?_)
 rcases _:k7x (A:=A) i5 e5 ((((r1.mono a2.le).mono a3.le).mono a4.le).mono le) (((r2.mono a3.le).mono a4.le).mono le) ((r3.mono a4.le).mono le) (r4.mono le) (G.freeze_self _ _ _)with⟨T',id,hT,hl,h⟩
 refine z2x hT hl ?_
 exact PE.up' ((((a1.trans a2).trans a3).trans a4).trans a5) h
theorem w3v (x:Str):Str.empty++x=x:=by cases x;show(⟨#[]++_⟩:Str)=_;simp
theorem catE {a y b:Str} {P:Prop} (h:catA a y=some b) (k:b=a++y->(a++y).length<=sizeLine->P):P:=q0k h λ z h=>k (zE h).symm (by rw[strLen_append];exact z)
theorem k4y (R:EOk cx n r.e) (hA:AOk n A) {out:Str} {es:List Expr}:∀{acc:Str} {g:G} {Z:Store} {s:Shared} {Q:Str->Shared->Prop},Inv cx g Z s->ER cx ks ns env g vs s->z1f r ks ns vs es acc Z=some (out,Z')->
  (∀g1 s₁,Stp [] g s g1 s₁->Inv cx g1 Z' s₁->out.length<=sizeLine->Q out s₁)->Joins cx.M A NoE (evalEach es env) acc Q s:=by
 induction es with
 | nil=>exact λ i E e k=>q0k e λ z e=>by rcases e;exact k _ _ (.refl _ _ _) i z
 | cons x es ih=>
  intro acc g Z s Q i E e k
  induction x using Expr.casesOn with
  | Constant c kk p=>
   refine optE e λ y h0 e=>optE e λ a h1 e=>catE h1 λ h2 z=>?_
   obtain rfl:=z9h h0
   subst h2
   exact wpAny_Constant_str ⟨y,_,rfl,z,ih (i.toks (Nat.le_succ _)) (E.toks _) e λ g1 s₁ a1 i1=>k g1 s₁ ((Stp.tks (Nat.le_succ _)).trans a1) i1⟩
  | FormattedValue y cv sp p=>
   refine q0k e λ hc e=>q0e e λ w Z1 e1 e=>optE e λ q h0 e=>optE e λ a h1 e=>catE h1 λ h2 z=>?_
   obtain rfl:=hc.1
   obtain rfl:=Option.isNone_iff_eq_none.mp hc.2
   subst h2
   refine wpAny_FormattedValue_plain (q0r R hA i E e1 λ g1 s₁ u1 a1 i1 E1 r1=>?_)
   induction w using AV.casesOn with
   | str q'=>
    obtain rfl:=zE h0
    obtain⟨t,rfl,zz⟩:=r1.of_str
    exact wpAny_formatField_str ⟨_,_,rfl,z,ih i1 E1 e λ g2 s₂ a2 i2=>k g2 s₂ (a1.trans a2) i2⟩ ⟨_,_,rfl,z,ih (i1.toks (Nat.le_succ _)) (E1.toks _) e λ g2 s₂ a2 i2=>k g2 s₂ (a1.trans ((Stp.tks (Nat.le_succ _)).trans a2)) i2⟩ zz
   | int j=>
    refine q0k h0 λ hi h0=>?_
    obtain rfl:=zE h0
    obtain⟨t,rfl⟩:=r1.of_int
    have hlt:s₁.toks<=s₁.toks+1+1:=zC _ 2
    refine wpAny_formatField_int ?_ ⟨_,_,rfl,z,ih (i1.toks hlt) (E1.toks _) e λ g2 s₂ a2 i2=>k g2 s₂ (a1.trans ((Stp.tks hlt).trans a2)) i2⟩
    by_cases h0:j.natAbs=0
    ·rw[h0];decide
    ·exact(Nat.log2_lt h0).mpr (jK hi (jH (by decide:10 ^ 10<=2 ^ 40) (Nat.pow_le_pow_right tA tA)))
   | _=>exact nope h0
  | _=>exact nope e
theorem k9m (R:EOk cx n r.e) (hA:AOk n A) (i:tI) (E:ER cx ks ns env g vs s) {es:List Expr} {p:Pos}
  (e:(do
   let (x,Z) <-z1f r ks ns vs es Str.empty Z
   some (AV.str x,Z))=some (v,Z')):tw (eval (.JoinedStr es p) env) (PX cx g s Z' v) NoE s:=by
 refine q0e e λ x Z1 e1 e=>?_
 rcases e
 have two:tw (joinParts Str.empty (evalEach es env)) (PX cx g s Z' (.str x)) NoE s:=by
  refine wpAny_joinPartsRec _ _ _ _ (k4y R hA i E e1 λ g1 s₁ a1 i1 z=>⟨z,?_⟩)
  exact(PE.tok i1 (.str_ _ z) (s₁.toks+1) (Nat.le_succ _)).up a1
 rcases es with _|⟨y,_|⟨y',es'⟩⟩
 ·exact two
 rotate_left
 ·exact two
 ·skip
  have h:=k4y (Q:=λ o s₁=>o.length<=sizeLine/\o=x/\∃g1,Stp [] g s g1 s₁/\Inv cx g1 Z' s₁) R hA i E e1 λ g1 s₁ a1 i1 z=>⟨z,rfl,g1,a1,i1⟩
  refine wpAny_mono (show tw (eval y env) (λ v s₁=>∃y t,v = .str y t/\(Str.empty++y).length<=sizeLine/\Joins cx.M A NoE [] (Str.empty++y) _ s₁) NoE s from h) ?_ λ J J x=>x
  rintro _ s₁ ⟨y',t,rfl,_,z,hx,g1,a1,i1⟩
  rw[w3v]at z hx
  cases hx
  exact⟨g1,a1,i1,.str_ _ z⟩
end
theorem w0i:Slot "method_descriptor" "__get__" "method_descriptor.__get__":=
 .of (owner:="method_descriptor") (n:="__get__") tK (by rfl) (by rfl) (by rfl)
  (by first|exact .inl (by rfl)|exact .inr (by decide +kernel)) tK
theorem z3s:entryFor table "method_descriptor.__get__" = some Builtin.«method_descriptor.__get__»:=entryFor_of_tree tK
theorem z7f (a b c:Value):argsOk "method_descriptor.__get__" ⟨[a,b,c],[]⟩:=by unfold argsOk;kernel_rfl
theorem k6w:typeLookup (.type "method_descriptor") "__set__" = pure none:=by rw[typeLookup_type,builtinLookup_eq_fast];kernel_rfl
theorem k6v:typeLookup (.type "method_descriptor") "__delete__" = pure none:=by rw[typeLookup_type,builtinLookup_eq_fast];kernel_rfl
theorem sub_list_list:isSubtype (.type "list") (.type "list")=pure true:=by rw[isSubtype_type];kernel_rfl
section
variable {prog:Program} {w:World} {A:Around} {E:Value->Shared->Prop} {h:Heap} {g:Array GenState} {d:Drawn} {t:Nat} {os:OsState} {p:Addr} {items:Array Value} {k:Nat}
theorem v1r {P:PySem.Fin->Shared->Prop} (ho:h.get? p=some { cls:=.type "list",data:=.seq items k })
  (hq:P (.done (.ret (.ref h.objs.size))) ⟨h.push (z3h (.builtin "list.append") (.ref p)),g,d,t,os⟩) :
  wpAny (model prog w) A (Builtin.«method_descriptor.__get__» ⟨[.builtin "list.append",.ref p,.type "list"],[]⟩) P E ⟨h,g,d,t,os⟩:=by
 have hT:(⟨h,g,d,t,os⟩:Shared).TypeIs (.ref p) "list":=⟨_,ho,rfl⟩
 refine tG (wpAny_of_eq (a:=(.builtin "list.append",some (.ref p),some (.type "list"))) (by first|rfl|kernel_rfl) ?_)
 refine tG ?_
 refine tG (tJ ?_)
 refine tG (wpAny_isInstance hT sub_list_list ?_)
 exact tJ (tG (wpAny_newObj_type (tJ hq)))
theorem k5q {tk:Tok} {Q:PySem.Fin->Shared->Prop} (ho:h.get? p=some { cls:=.type "list",data:=.seq items k })
  (hq:Q (.done (.ret (.ref h.objs.size))) ⟨h.push (z3h (.builtin "list.append") (.ref p)),g,d,t,os⟩) :
  wpAny (model prog w) A (Builtin.«object.__getattribute__» ⟨[.ref p,.str "append" tk],[]⟩) Q E ⟨h,g,d,t,os⟩:=by
 have hT:(⟨h,g,d,t,os⟩:Shared).TypeIs (.ref p) "list":=⟨_,ho,rfl⟩
 have f4:=F.slot_list_append.lookup
 have f5:=F.type_list_append
 have f6:=w0i.lookup
 have f7:=k6w
 have f8:=k6v
 have hT5:(⟨h,g,d,t,os⟩:Shared).TypeIs (.builtin "list.append") "method_descriptor":=f5
 repeat (any_goals (first|assumption|wp_step))
 refine codeAny_call_builtin w0i.plain z3s (w0i.check _ _ _ _ _ _ _ _ hT5 (z7f _ _ _) (v1r ho ?_))
 repeat (any_goals (first|assumption|wp_step))
theorem k2c {expr:Bool} {Q:Value->Shared->Prop} (ho:h.get? p=some { cls:=.type "list",data:=.seq items k })
  (hq:Q (.ref h.objs.size) ⟨h.push (z3h (.builtin "list.append") (.ref p)),g,d,t+1,os⟩) :
  wpAny (model prog w) A (getAttr (.ref p) ("append" : Str) expr) Q E ⟨h,g,d,t,os⟩:=by
 have hT:(⟨h,g,d,t+1,os⟩:Shared).TypeIs (.ref p) "list":=⟨_,ho,rfl⟩
 have f2:=F.slot_list_getattribute.lookup
 have f3:=F.slot_list_getattribute.bind (.ref p)
 repeat (any_goals (first|assumption|wp_step))
 rw[if_neg (by rcases expr<;>trivial)]
 dsimp only[boundAndCalled]
 repeat (any_goals (first|assumption|wp_step))
 refine codeAny_call_builtin F.slot_list_getattribute.plain F.entry_list_ga (F.slot_list_getattribute.check _ _ _ _ _ _ _ _ hT (F.args_list_getattribute_2 _ _) (k5q ho ?_))
 repeat (any_goals (first|assumption|wp_step))
end
structure q6d (cx:Cx) (T:Tab):Prop where
 X:cx.K.In cx.h₀
 C:T.C=cx.C
 an:T.an=cx.an
 ga:findIn cx.K (.ref cx.C) "__getattribute__" = some (some (.builtin "object.__getattribute__"))
 gh:findIn cx.K (.ref cx.C) "__getattr__" = some none
 sa:findIn cx.K (.ref cx.C) "__setattr__" = some (some (.builtin "object.__setattr__"))
 over:plainOver cx.K cx.C=true
 dict:hasDictIn cx.K cx.C=true
 attr:∀x∈cx.an,takerIn cx.K cx.C x=some none/\(findIn cx.K (.ref cx.C) x=some none\/Ex2 λ f g=>findIn cx.K (.ref cx.C) x=some (some (.ref f))/\typeIn cx.K (.ref f)=some (.type "function")/\
  specialIn cx.K (.ref f) "__get__" = some (some g)/\takesIn cx.K (.ref f)=some false)
 ms:∀x f,x∉cx.an->T.ms.lookup x=some f->findIn cx.K (.ref cx.C) x=some (some (.ref f))/\typeIn cx.K (.ref f)=some (.type "function")/\fnIn cx.K f=true/\
  specialIn cx.K (.ref f) "__get__" = some (some (.builtin "function.__get__"))/\takesIn cx.K (.ref f)=some false/\copiedNames.contains x=false
section
variable {T:Tab} {g:G} {A:Around}
theorem Inv.keeps0 (i:tI) (b:Addr) (o:Obj) (e:cx.h₀.get? b=some o):s.heap.get? b=some o:=i.sub _ _ (i.base _ _ e)
theorem Inv.X (i:tI) (H:q6d cx T):cx.K.In s.heap:=H.X.keeps i.keeps0
theorem k6x {h:Heap} {a:Addr} {m:Str->Option Value} (hn:h.Ns a m):∃o,h.get? a=some o/\∀x,lookIn x o=some (m x):=by
 rcases _:hn with⟨o,es,ep,ho,hd,hk,hm⟩
 refine⟨o,ho,λ x=>?_⟩
 have hany:es.toList.any (·.refKey)=false:=by
  rw[Array.any_toList,Array.any_eq_false'];intro e he;rcases _:hk e he with⟨n,t,h⟩;simp[DictEntry.refKey,h]
 unfold lookIn
 simp only[hd,<-hm x]
 simp only[nsFind,findBy,<-Array.find?_toList,hany]
 cases es.toList.find? (·.key.isStr x)<;>rfl
theorem j7g {a:Addr} {m:Str->Option Value} {k:Nat} {name:Str} {w:Value} {E:Value->Shared->Prop} {Q:Unit->Shared->Prop} (hn:NsN s.heap a m k)
  (h:∀h',NsN h' a (λ x=>if x=name then some w else m x) (if(m name).isSome then k else k+1)->Heap.SameBut a s.heap h'->Q () { s with heap:=h',toks:=s.toks+1 }):tw (nsSet a name w) Q E s:=λ Γ p J=>by
 obtain⟨o,es,ep,ho,hd,hk,hm,hz⟩:=hn
 simp only[nsSet,strHash,Sem.wp_bind',Sem.wp_cmd_ask,Sem.wp_pure',Sem.wp_cmd_mkText]
 rw[Sem.wp_loadPart_of cx.M Γ _ p { s with toks:=s.toks+1 } (o:=o) _ ho]
 have hany:es.any (·.refKey)=false:=by
  rw[Array.any_eq_false'];intro e he;rcases _:hk e he with⟨n,t,h⟩;simp[DictEntry.refKey,h]
 simp only[hd,aRefKeyMayBeTheName_eq,aRefKeyMayBeTheNameByArray,hany,Bool.and_false,Bool.false_eq_true,if_false,Sem.wp_cmd_updatePart]
 refine⟨by rw[ho];rfl,h _ ?_ (Heap.SameBut.update ..)⟩
 obtain⟨c,d,dt,sl⟩:=o
 subst hd
 have hsome:(m name).isSome=(es.findIdx? (·.key.isStr name)).isSome:=by
  rw[<-hm name];simp only[nsFind,findBy,Option.isSome_map]
  rw[Bool.eq_iff_iff,Array.find?_isSome,Array.findIdx?_isSome,Array.any_eq_true]
  constructor
  ·rintro⟨x,hx,hp⟩;rcases _:Array.mem_iff_getElem.mp hx with⟨i,hi,rfl⟩;exact⟨i,hi,hp⟩
  ·rintro⟨i,hi,hp⟩;exact⟨_,Array.getElem_mem hi,hp⟩
 generalize hi:es.findIdx? (·.key.isStr name)=zzy
 induction zzy with
 | some i=>
  rw[hi]at hsome
  refine⟨_,_,ep,Heap.get?_update_self _ ho (by simp only[Obj.putName_eq,Obj.putNameByArray,hi];rfl),by simp only[Obj.putName_eq,Obj.putNameByArray,hi];rfl,hk.modify _ _,λ x=>?_,?_⟩
  ·show _=if x=name then some w else m x
   rw[<-hm];exact findBy_modify (λ n v=>v.isStr n) Value.isStr_inj es name x w i hi
  ·rw[hsome];simpa using hz
 | none=>
  rw[hi]at hsome
  refine⟨_,_,ep+1,Heap.get?_update_self _ ho (by simp only[Obj.putName_eq,Obj.putNameByArray,hi];rfl),by simp only[Obj.putName_eq,Obj.putNameByArray,hi];rfl,hk.push _ _ _ _,λ x=>?_,?_⟩
  ·show _=if x=name then some w else m x
   rw[<-hm]
   exact findBy_push (λ n v=>v.isStr n) es name x _ _ w (λ y=>by
    show(name==y)=decide (y=name)
    by_cases h:y=name
    ·cases h;rfl
    ·have:¬ name=y:=λ e=>h e.symm
     simp[h,this]) hi
  ·rw[hsome];simpa using hz
inductive j8u (cx:Cx) (g:G) (s:Shared) (d:Nat) (fs:List (Option AV)) (u:Value):Prop
 | mk (y a:Addr) (o:Obj) (m:Str->Option Value) (e:u = .ref y) (h:InstAt s.heap y (instObj cx.C a) cx.C (some o)) (ha:g.ρ[d]? = some a) (n:NsN s.heap a m (fs.countP (·.isSome))) (l:∀x,lookIn x o=some (m x)) (z:fs.length=cx.an.length) (z':cx.an.length<=100)
   (h1:∀x v,x∈cx.an->fs[cx.an.idxOf x]? = some (some v)->∃u,m x=some u/\VR cx g v u) (h2:∀x,(x∈cx.an->fs[cx.an.idxOf x]? = some none)->m x=none)
theorem z7x {d:Nat} {fs:List (Option AV)} (i:tI) (r:VR cx g (.obj d) u) (e:z0p Z d=some fs):j8u cx g s d fs u:=by
 obtain⟨y,a,rfl,hy,ha⟩:=r
 refine j4s e λ fs' hs e=>?_
 obtain rfl:=zE e
 obtain⟨m,hm,hl,hl',h1,h2⟩:=i.cells _ _ _ hs ha
 obtain⟨o,ho,hlk⟩:=k6x hm.ns
 exact⟨y,a,o,m,rfl,⟨i.sub _ _ hy,rfl,rfl,ho⟩,ha,hm,hlk,hl,hl',h1,h2⟩
theorem BI.handed (b:BI):handedIn b.val=true:=by rcases b<;>first|rfl|decide +kernel
set_option tactic.hygienic true in theorem z4b (r:VR cx g v u):handedIn u=true:=by
 rcases v<;>skip
 case bf b=>subst r;exact b.handed
 all_goals first
  | (subst r;rfl)
  | (obtain⟨_,rfl,_⟩:=r;rfl)
  | (obtain⟨_,rfl⟩:=r;rfl)
  | (obtain⟨_,_,rfl,_⟩:=r;rfl)
  | (obtain⟨_,_,_,rfl,_⟩:=r;rfl)
theorem j1a {f:Addr} {gg:Value} {o:Obj} {w:Value} (H:q6d cx T) (h1:findIn cx.K (.ref cx.C) x=some (some (.ref f))) (h3:specialIn cx.K (.ref f) "__get__" = some (some gg)) (h4:takesIn cx.K (.ref f)=some false) (hl:lookIn x o=some (some w)) :
  findObj cx.K cx.C (some o) x=some (.value w):=by
 rcases _:any_some H.dict with⟨cd,hc',hd⟩
 unfold findObj
 have ho:PySem.W.ownOf cd (some o) x=some (some w):=by dsimp only[PySem.W.ownOf];rw[if_pos hd];exact hl
 simp only[hc',Option.bind_some,h1,Option.bind_some]
 simp only[h3,h4,Option.bind_some,ho]
theorem w9n {o:Obj} {w:Value} (H:q6d cx T) (hx:x∈cx.an) (hl:lookIn x o=some (some w)):findObj cx.K cx.C (some o) x=some (.value w):=by
 rcases _:(H.attr x hx).2 with h|⟨f,gg,h1,_,h3,h4⟩
 ·exact findObj_own H.dict h rfl hl
 ·exact j1a H h1 h3 h4 hl
theorem z9l {fs:List (Option AV)} {o:Option AV} (hl:fs.length=cx.an.length) (h:fs[cx.an.idxOf x]? = some o):x∈cx.an:=by
 have:=(List.getElem?_eq_some_iff.mp h).1
 rw[hl]at this
 exact List.idxOf_lt_length_iff.mp this
theorem w2x {fs:List (Option AV)} (hl:fs.length=cx.an.length) (h:fs[cx.an.idxOf x]? = none):x∉cx.an:=λ hx=>by
 have:=List.idxOf_lt_length_of_mem hx
 (simp_all +arith)
theorem w7k {l:Nat} {xs:tW} {expr:Bool} (i:tI) (r:VR cx g (.loc l) u) (e:Z[l]? = some (.list xs)):tw (getAttr u ("append" : Str) expr) (PE cx g s Z (.bm .lAppend (.loc l))) NoE s:=by
 obtain⟨p,rfl,hl⟩:=r.of_loc
 obtain⟨vs,⟨k,hv⟩,q,z⟩:=i.cells _ _ _ e hl
 obtain⟨h,gs,d,t,os⟩:=s
 refine k2c hv ?_
 exact PE.alloc (t:=t+1) i rfl (λ g' le hi=>by exact⟨_,_,rfl,hi,⟨p,rfl,le.at hl⟩⟩)
theorem w9p (H:q6d cx T) {o:AV} {expr:Bool} (i:tI) (r:VR cx g o u) (e:q6h T Z o x=some v):tw (getAttr u x expr) (PE cx g s Z v) NoE s:=by
 induction o using AV.casesOn with
 | obj d=>
  refine optE e λ fs e1 e=>?_
  rcases _:z7x i r e1 with⟨y,a,ob,m,rfl,I,ha,hm,hlk,hl,hl',h1,h2⟩
  unfold q9o at e
  rw[H.an]at e
  refine optM e (λ w hw e=>?_) λ hw e=>?_
  ·have hx:=z9l hl hw
   subst e
   rcases _:h1 x v hx hw with⟨u,hu,ru⟩
   exact get_value (i.X H) I H.ga (w9n H hx (by simp only[hlk,hu])) (z4b ru) (.tok i ru _)
  ·have hx:=w2x hl hw
   obtain⟨f,e2,rfl⟩:=Option.map_eq_some_iff.mp e
   rcases _:H.ms x f hx e2 with⟨m1,m2,m3,m4,m5,m6⟩
   have hn:m x=none:=h2 x λ q=>absurd q hx
   refine get_bind (i.X H) I H.ga (findObj_fn H.dict m1 m4 m5 m6 (by rw[hlk,hn])) H.gh (wpAny_call (fn_get (s:={ s with toks:=s.toks+1 }) (i.X H) m2 (handed_on rfl ?_)))
   exact PE.alloc i rfl (λ g' le hi=>show VR cx g' (.mt f (.obj d)) _ from RMt.mk _ _ rfl hi (r.mono le)) _
 | loc l=>exact k6d e λ xs h e=>q0k e λ hx e=>by subst hx;obtain rfl:=zE e;exact w7k i r h
 | _=>exact nope e
theorem z0d (H:q6d cx T) {o w:AV} {uw:Value} {Q:Unit->Shared->Prop} (i:tI) (r:VR cx g o u) (rw':VR cx g w uw) (e:q3z T Z o x w=some Z')
  (h:∀s',Stp [] g s g s'->Inv cx g Z' s'->Q () s'):tw (setAttr u x uw) Q NoE s:=by
 induction o using AV.casesOn with
 | obj d=>
  refine optE e λ fs e1 e=>?_
  rcases _:z7x i r e1 with⟨y,a,ob,m,rfl,I,ha,hm,hlk,hl,hl',h1,h2⟩
  unfold q9o at e
  rw[H.an]at e
  refine q0k e λ hlt e=>?_
  ·obtain rfl:=zE e
   have hx:x∈cx.an:=by simp only[hl]at hlt;exact List.idxOf_lt_length_iff.mp hlt
   refine set_plain (i.X H) I H.sa (osa_open (s:={ s with toks:=s.toks+1 }) (i.X H) I H.over (H.attr x hx).1 λ b=>?_)
   rcases _:any_some H.dict with⟨cd,hc,hd'⟩
   refine tG (tJ (tG (tG (wpAny_loadPart I.at_ (tG ((show Looks cx.M ({ s with toks:=s.toks+1 }:Shared).heap _ _ from looks_clsIn (i.X H) hc).here ?_))))))
   rw[hd']
   refine wpAny_pure (a:=some a) (tG (tJ (tG ?_)))
   refine j7g (s:={ s with toks:=s.toks+1 }) hm λ h' hn hs=>?_
   have hcount:(if(m x).isSome then fs.countP (·.isSome)else fs.countP (·.isSome)+1)=(fs.set (cx.an.idxOf x) (some w)).countP (·.isSome):=by
    rw[List.countP_set (h:=hlt)]
    have hpos:∀z:Option AV,fs[cx.an.idxOf x]? = some z->z.isSome=true->0<fs.countP (·.isSome):=λ z hz hs=>
     List.countP_pos_iff.mpr ⟨z,List.mem_of_getElem? hz,hs⟩
    generalize hf:fs[cx.an.idxOf x]=zzy
    induction zzy with
    | none=>
     have:m x=none:=h2 x λ J=>by simp only[List.getElem?_eq_getElem hlt,hf]
     simp[this]
    | some z=>
     obtain⟨u',hu',_⟩:=h1 x z hx (by simp only[List.getElem?_eq_getElem hlt,hf])
     have:=hpos (some z) (by simp only[List.getElem?_eq_getElem hlt,hf]) rfl
     dsimp[hu'];(simp_all +arith)
   simp only[hcount]at hn
   have ho:OR cx g h' a (.attrs (fs.set (cx.an.idxOf x) (some w))):=by
    refine⟨_,hn,by rw[List.length_set];exact hl,hl',λ z q hz hq=>?_,λ z hz=>?_⟩
    ·by_cases hzx:z=x
     ·cases hzx;rw[List.getElem?_set_self hlt]at hq;rcases hq;exact⟨uw,by simp,rw'⟩
     ·rw[List.getElem?_set_ne (λ q=>hzx (w5c hx q).symm)]at hq
      obtain⟨u',p1,p2⟩:=h1 z q hz hq
      exact⟨u',by simp[hzx,p1],p2⟩
    ·have hzx:z≠x:=λ q=>by cases q;have:=hz hx;rw[List.getElem?_set_self hlt]at this;rcases this
     simp only[hzx,if_false]
     exact h2 z λ q=>by have:=hz q;rwa [List.getElem?_set_ne (λ q=>hzx (w5c hx q).symm)]at this
   rcases _:hn with⟨on,es,ep,hget,hdat,_,_,hsz⟩
   have hcl:(fs.set (cx.an.idxOf x) (some w)).countP (·.isSome)<=100:=jH List.countP_le_length (by simp only[List.length_set,hl];exact hl')
   refine tG (wpAny_lookBehind hget (by rw[hdat];exact pastItsLine_dict (jH hsz (jH hcl (by rw[sizeLine_eq];decide)))) (tJ ?_))
   have ht:s.toks<=s.toks+1+1:=by solve_by_elim (maxDepth:=4) only[jH,jK,jJ, *]
   exact h _ (.setCell (t:=s.toks+1+1) ht ha hs ho.there) (i.setCell (t:=s.toks+1+1) ht ha ho hs)
 | _=>exact nope e
theorem j8q {kvs:tC} {us:tU} {k:Str} (h:kvs.length=us.length):(((kvs.map (·.1)).zip us).any λ kv=>kv.1=k)=kvs.any λ kv=>kv.1=k:=by
 induction kvs generalizing us with
 | nil=>rfl
 | cons a kvs ih=>induction us with
  | nil=>trivial
  | cons b us=>simp only[List.map_cons,List.zip_cons_cons,List.any_cons];simp only[ih (by simpa using h)]
set_option tactic.hygienic true in theorem w1o {kvs:tC} {us:tU} {k:Str} (q:VRs cx g (kvs.map (·.2)) us) (r:VR cx g v u) :
  ∃us',stored ((kvs.map (·.1)).zip us) k u=((q0x k v kvs).map (·.1)).zip us'/\VRs cx g ((q0x k v kvs).map (·.2)) us':=by
 have hl:kvs.length=us.length:=by simpa using q.length
 delta stored q0x
 rw[j8q hl]
 split
 ·rename_i hany
  clear hany hl
  induction kvs generalizing us with
  | nil=>exact⟨[],by rfl,.nil⟩
  | cons a kvs ih=>
   rcases _:VRs.uncons (show VRs cx g (a.2::kvs.map (·.2)) us from q)with⟨b,us,rfl,h1,h2⟩
   rcases _:ih h2 with⟨us',e1,e2⟩
   by_cases ha:a.1=k
   ·exact⟨u::us',by simp[ha];simpa using e1,by simpa [ha]using VRs.cons r e2⟩
   ·exact⟨b::us',by simp[ha];simpa using e1,by simpa [ha]using VRs.cons h1 e2⟩
 ·exact⟨us++[u],by rw[List.map_append,List.zip_append (by simpa using hl)];rfl,by rw[List.map_append];exact q.append (.cons r .nil)⟩
theorem q3y (k:Str) (kvs:tC):(q0x k v kvs).length<=kvs.length+1:=by
 unfold q0x;split<;>simp
theorem w0j {k:Str} {kvs:tC} (h:∀kv∈kvs,kv.1.length<=sizeLine) (hk:k.length<=sizeLine):∀kv∈q0x k v kvs,kv.1.length<=sizeLine:=by
 intro kv hm
 unfold q0x at hm
 split at hm
 ·obtain⟨x,hx,rfl⟩:=List.mem_map.mp hm
  split
  ·exact h x hx
  ·exact h x hx
 ·rcases zK hm with hm|hm
  ·exact h kv hm
  ·rw[List.mem_singleton]at hm;subst hm;exact hk
theorem q9m (hA:AOk n A) {xs:tW} {k:Nat} {P:List Value->Shared->Prop} (i:tI) (e:q1g Z v=some xs) (r:VR cx g v u) (hk:k=xs.length)
  (h:∀us h',VRs cx g xs us->(∀b o,s.heap.get? b=some o->h'.get? b=some o)->P us { s with heap:=h' }):tw (unpackItems u k none) P NoE s:=by
 have fin:∀{us:tU} {h':Heap},VRs cx g xs us->Heap.ExtBut tH s.heap h'->P us { s with heap:=h' }:=λ q x=>h _ _ q λ b o e=>x b o (Nat.ne_of_lt (Heap.lt_size e)) e
 have lists:∀{v:AV},q0i Z v=some xs->VR cx g v u->tw (unpackItems u k none) P NoE s:=by
  intro v e r
  obtain⟨p,us,rfl,hp,rp,zp⟩:=q0q i e r
  have hk':k=us.toArray.size:=by simp only[hk,rp.length,List.size_toArray]
  rw[hk']
  exact kun_itemsOf hA.handled hp.isList λ h' x=>fin rp x
 induction v using AV.casesOn with
 | tup ys=>
  rcases e
  obtain⟨a,o,us,rfl,hi,⟨m,rfl⟩,q,z⟩:=r
  have hk':k=us.toArray.size:=by rw[hk,q.length,List.size_toArray]
  rw[hk']
  exact wpAny_unpackItems_tuple hA.handled (show s.heap.IsTuple a us.toArray from⟨_,i.sub _ _ hi,rfl,m,rfl⟩) λ h' x=>fin q x
 | fl ys=>exact lists (v:=.fl ys) e r
 | loc l=>exact lists (v:=.loc l) e r
 | _=>exact nope e
theorem PA.next {t:Sem Unit} {g1:G} {s₁:Shared} (a:Stp (ownK ks env) g s g1 s₁) (h:tw t (λ J s'=>PA cx ks ns env g1 s₁ vs' Z' s') NoE s₁):tw t (λ J s'=>PA cx ks ns env g s vs' Z' s') NoE s₁:=
 wpAny_mono h (λ _ _ ⟨g',b,i,E⟩=>⟨g',a.trans b,i,E⟩) λ J J x=>x
theorem q1o {e:Expr} {es:List Expr} (h:∀x p,e≠.Starred x p):assignEach (e::es) env=(false,assign e env)::assignEach es env:=by
 rcases e<;>first|rfl|exact absurd rfl (h _ _)
inductive v3v (xs:tW) (ts:List Expr) (env:Env):Prop
 | mk (h1:(assignEach ts env).findIdx? (·.1)=none) (h2:(assignEach ts env).length=xs.length) (h3:ts.length=xs.length)
theorem asCE {α:Type} {xs:tW} {f:AV->List AV->Option α} {a:α} {P:Prop} (h:asC xs f=some a) (k:∀x r,xs=x::r->f x r=some a->P):P:=match xs,h with
 | x::r,h=>k x r rfl h
theorem asEE {xs:tW} {P:Prop} (h:asE xs vs Z=some (vs',Z')) (k:xs=[]->vs=vs'->Z=Z'->P):P:=match xs,h with
 | [],h=>by obtain⟨h1,h2⟩:=Prod.mk.inj (zE h);exact k rfl h1 h2
theorem w2w:∀{ts:List Expr} {xs:tW} {vs:Vs} {Z:Store},assigns r ks ns ts xs vs Z=some (vs',Z')->∀env,v3v xs ts env
 | [],xs,vs,Z,e,_=>asEE e λ h J J=>by subst h;exact⟨rfl,rfl,rfl⟩
 | t::ts,xs,vs,Z,e,env=>ifNo e λ hx e=>asCE e λ x xs hq e=>q0e e λ vs1 Z1 e1 e2=>by
  subst hq
  obtain⟨h1,h2,h3⟩:=w2w (ts:=ts) e2 env
  have c:=q1o (env:=env) (es:=ts) (q8n hx)
  exact⟨by rw[c,List.findIdx?_cons];simp[h1],by simp[c,h2],by simp[h3]⟩
theorem w9h (R:AsOk cx n r.a) (hA:AOk n A):∀{ts:List Expr} {xs:tW} {us:tU} {g:G} {s:Shared} {vs:Vs} {Z:Store},Inv cx g Z s->ER cx ks ns env g vs s->VRs cx g xs us->assigns r ks ns ts xs vs Z=some (vs',Z')->
  tw (assignInOrder ((assignEach ts env).map (·.2)) us) (λ J s'=>PA cx ks ns env g s vs' Z' s') NoE s
 | [],xs,us,g,s,vs,Z,i,E,q,e=>asEE e λ J h1 h2=>by subst h1 h2;exact tJ ⟨g,.refl _ _ _,i,E⟩
 | t::ts,xs,us,g,s,vs,Z,i,E,q,e=>by
  refine ifNo e λ hx e=>asCE e λ x xs hq e=>q0e e λ vs1 Z1 e1 e2=>?_
  subst hq
  rw[q1o (q8n hx)]
  rcases _:q.uncons with⟨u,us,rfl,h1,h2⟩
  (refine tG (wpAny_holding (wpAny_mono (R e1 hA i E h1) (λ J s₁ zz0=>?_) λ J J x=>x));obtain⟨g1,a1,i1,E1⟩:=zz0)
  exact PA.next a1 (w9h R hA i1 E1 (h2.mono a1.le) e2)
theorem Stp.own {own:List Addr} (a:Stp [] g s g' s'):Stp own g s g' s':=a.wider (by simp)
theorem v0p (H:q6d cx T) (R:EvOk cx n r):AsOk cx n (evA T r):=by
 intro ks ns t v vs Z vs' Z' e A env g s u hA i E rv
 induction t using Expr.casesOn with
 | Name x p=>exact q0k e λ hk e=>PyProof.Rows.assign_Name (w4h i E hk rv λ s' h=>by rw[(q0h e).1,(q0h e).2];exact h)
 | Tuple ts k p=>
  refine q5l e λ xs e1 e=>?_
  obtain⟨h1,h2,h3⟩:=w2w e env
  refine tG (wpAny_standAt ?_)
  unfold unpack
  rw[h1]
  refine tG (wpAny_holding (q9m hA i e1 rv h2 λ us h' q k=>?_))
  have a1:Stp [] g s g { s with heap:=h' }:=.keeps (t:=s.toks) (jZ _) k
  exact PA.next a1.own (w9h R.a hA (i.keep (t:=s.toks) (jZ _) k) (E.go a1) q e)
 | Attribute o x p=>
  refine q0e e λ w Z1 e1 e=>q5l e λ Z2 e2 e=>?_
  rw[(q0h e).1,(q0h e).2]
  refine tG (wpAny_holding (q0r R.e hA i E e1 λ g1 s₁ u1 a1 i1 E1 r1=>tG (wpAny_standAt (tG (wpAny_holding (z0d H i1 r1 (rv.mono a1.le) e2 λ s₂ a2 i2=>?_))))))
  exact wpAny_release ⟨g1,(a1.trans a2).own,i2,E1.go a2⟩
 | Subscript o j p=>
  refine q0e e λ w Z1 e1 e=>q0e e λ y Z2 e2 e=>optE e λ l h1 e=>optE e λ k h2 e=>optE e λ kvs hl e=>q0k e λ hz e=>?_
  rw[(q0h e).1,(q0h e).2]
  have hl:=z7p hl
  refine tG (wpAny_holding (q0r R.e hA i E e1 λ g1 s₁ u1 a1 i1 E1 r1=>tG (wpAny_holding (q0r R.e hA i1 E1 e2 λ g2 s₂ u2 a2 i2 E2 r2=>tG (wpAny_standAt (tG (wpAny_holding ?_)))))))
  have r1':=r1.mono a2.le
  rw[j3h h1]at r1'
  obtain⟨p,rfl,hp⟩:=r1'.of_loc
  obtain⟨t,rfl,tz⟩:=r2.strV h2
  obtain⟨us,hd,q,y1,y2,y3⟩:=i2.cells _ _ _ hl hp
  have hlen:((kvs.map (·.1)).zip us).length<=sizeLine:=by rw[w7d q];exact y2
  refine wpAny_setItem_pairs (strKind_is _ _ k t) hd (λ h' hd' hs=>wpAny_release ?_) hlen
  rcases _:w1o (k:=k) q ((rv.mono a1.le).mono a2.le)with⟨us',e3,q'⟩
  simp only[e3]at hd'
  have ho:OR cx g2 h' p (.dict (q0x k v kvs)):=⟨us',hd',q',y1,jH (q3y k kvs) hz,w0j y3 tz⟩
  have a3:Stp [] g2 s₂ g2 { s₂ with heap:=h',toks:=s₂.toks+1 }:=.setCell (t:=s₂.toks+1) (Nat.le_succ _) hp hs ho.there
  exact⟨g2,((a1.trans a2).trans a3).own,i2.setCell (t:=s₂.toks+1) (Nat.le_succ _) hp ho hs,E2.go a3⟩
 | _=>exact nope e
theorem PS.up {t:Sem Flow} {g1:G} {s₁:Shared} (a:Stp (ownK ks env) g s g1 s₁) (h:tw t (PS cx ks ns env g1 s₁ fl vs' Z') NoE s₁):tw t (PS cx ks ns env g s fl vs' Z') NoE s₁:=
 wpAny_mono h (λ _ _ ⟨g',b,i,E,f⟩=>⟨g',a.trans b,i,E,f⟩) λ J J x=>x
theorem q6g (R:SOk cx n r.s) (hA:AOk n A):∀{ss:List Stmt} {g:G} {s:Shared} {vs:Vs} {Z:Store},Inv cx g Z s->ER cx ks ns env g vs s->q1b r ks ns ss vs Z=some (fl,vs',Z')->
  tw (execs ss env) (PS cx ks ns env g s fl vs' Z') NoE s
 | [],g,s,vs,Z,i,E,e=>by rcases e;exact wpAny_execs_nil ⟨g,.refl _ _ _,i,E,rfl⟩
 | st::ss,g,s,vs,Z,i,E,e=>by
  rcases _:bind_some e with⟨⟨f,vs1,Z1⟩,e1,e⟩
  (refine wpAny_execs_cons (wpAny_mono (R e1 hA i E) (λ f' s₁ zz0=>?_) λ J J x=>x);obtain⟨g1,a1,i1,E1,F⟩:=zz0)
  induction f with
  | next=>subst F;exact PS.up a1 (q6g R hA i1 E1 e)
  | ret w=>
   obtain⟨u,rfl,ru⟩:=F
   exact k2a (P:=λ fl vs' Z'=>PS cx ks ns env g s fl vs' Z' _ _) e ⟨g1,a1,i1,E1,u,rfl,ru⟩
theorem k9w (E:ER cx ks ns env g vs s):env.blockKind = .function:=by unfold Env.blockKind;rw[E.fn];rfl
theorem w7l (E:ER cx ks ns env g vs s) (y:Str):(env.kindOf y==some .local)=(ks.lookup y==some .local):=by
 rcases E.kinds y with e|⟨e,e'⟩
 ·rw[e]
 ·rw[e,e'];rfl
theorem j8c (E:ER cx ks ns env g vs s) {ts:List Expr} {o:Option tL} (h:j8b ks ts ex=some o):swappedStores ts ex env=pure o:=by
 have hb:=k9w E
 have hk:=w7l E
 have no:∀{q:Sem (Option tL)},q=pure none->some none=some o->q=pure o:=λ h1 h2=>h1.trans (congrArg pure (zE h2))
 rcases ts with _|⟨t,_|⟨t',ts⟩⟩
 ·exact no rfl h
 ·induction t using Expr.casesOn with
  | Tuple us k p=>induction ex using Expr.casesOn with
   | Tuple ws k' p'=>
    dsimp only[swappedStores]
    simp only[hb,hk,bne_self_eq_false,Bool.or_false]
    exact ifE h (λ c h=>no (if_pos c) h) λ c h=>(if_neg c).trans (ifE h (λ c h=>no (if_pos c) h) λ c h=>(if_neg c).trans (ifE h (λ c h=>no (if_pos c) h) λ c h=>(if_neg c).trans (ifE h (λ c h=>no (if_pos c) h) λ c h=>(if_neg c).trans (ifNo h λ c h=>(if_neg c).trans (congrArg pure (zE h))))))
   | _=>exact no rfl h
  | List us p=>cases ex with
   | Tuple ws k' p'=>exact nope h
   | _=>exact no rfl h
  | _=>exact no rfl h
 ·rcases t<;>exact no rfl h
theorem k3d {ts:List Expr} {line:Nat} (h:w5e ex=false):swapsWithSole ts ex line env=pure false:=by
 have:∀t,swapsWith ex t line env=pure false:=λ t=>by rcases ex<;>first|rfl|exact absurd h.symm Bool.false_ne_true
 rcases ts with _|⟨t,_|⟨t',ts⟩⟩
 ·rfl
 ·exact this _
 ·rfl
theorem q7o (R:AsOk cx n r.a) (hA:AOk n A):∀{ts:List Expr} {g:G} {s:Shared} {vs:Vs} {Z:Store},Inv cx g Z s->ER cx ks ns env g vs s->VR cx g v u->q8q r ks ns v ts vs Z=some (vs',Z')->(∀t∈ts,∀y q,t≠.Starred y q)->
  tw (assignAll u ((assignEach ts env).map (·.2))) (λ J s'=>PA cx ks ns env g s vs' Z' s') NoE s
 | [],g,s,vs,Z,i,E,q,e,_=>by rw[(q0h e).1,(q0h e).2];exact tJ ⟨g,.refl _ _ _,i,E⟩
 | [t],g,s,vs,Z,i,E,q,e,h=>by
  rcases _:bind_some e with⟨⟨vs1,Z1⟩,e1,e2⟩
  obtain⟨rfl,rfl⟩:=Prod.mk.inj (zE e2)
  rw[q1o (h t (by simp))]
  exact R e1 hA i E q
 | t::t' :: ts,g,s,vs,Z,i,E,q,e,h=>by
  rcases _:bind_some e with⟨⟨vs1,Z1⟩,e1,e2⟩
  rw[q1o (h t (by simp))]
  have h':(assignEach (t' :: ts) env).map (·.2)≠[]:=by rw[q1o (h t' (by simp))];simp
  have eq:assignAll u (assign t env::(assignEach (t' :: ts) env).map (·.2))=(do holding [u] (assign t env u);assignAll u ((assignEach (t' :: ts) env).map (·.2))):=by
   generalize hh:(assignEach (t' :: ts) env).map (·.2)=zzy
   induction zzy with
   | nil=>exact absurd hh h'
   | cons a b=>rfl
  show tw (assignAll u (assign t env::(assignEach (t' :: ts) env).map (·.2))) _ _ s
  rw[eq]
  (refine tG (wpAny_holding (wpAny_mono (R e1 hA i E q) (λ J s₁ zz0=>?_) λ J J x=>x));obtain⟨g1,a1,i1,E1⟩:=zz0)
  exact PA.next a1 (q7o R hA i1 E1 (q.mono a1.le) (by exact e2) λ t ht=>h t (by simp[ht]))
theorem v2p {xs:tW} {P:Prop} (h:putE xs vs=some vs') (k:xs=[]->vs=vs'->P):P:=match xs,h with
 | [],h=>k rfl (zE h)
theorem z5g:∀{xs:tL} {ws:tW} {us:tU} {g:G} {s:Shared} {vs:Vs},Inv cx g Z s->ER cx ks ns env g vs s->VRs cx g ws us->k1c ns ks xs ws vs=some vs'->
  tw (assignInOrder (xs.map λ n=>bindName env n) us) (λ J s'=>PA cx ks ns env g s vs' Z s') NoE s
 | [],ws,us,g,s,vs,i,E,q,e=>v2p e λ J h=>by subst h;exact tJ ⟨g,.refl _ _ _,i,E⟩
 | x::xs,ws,us,g,s,vs,i,E,q,e=>by
  refine asCE e λ w ws hq e1=>q0k e1 λ hk e2=>?_
  subst hq
  obtain⟨u,us,rfl,h1,h2⟩:=q.uncons
  (refine tG (wpAny_holding (wpAny_bindName (w4h i E hk h1 λ s₁ zz0=>?_)));rcases _:zz0 with⟨g1,a1,i1,E1⟩)
  exact PA.next a1 (z5g i1 E1 (h2.mono a1.le) e2)
theorem w0y:∀{xs:tL} {ws:tW} {vs:Vs},k1c ns ks xs ws vs=some vs'->xs.length=ws.length
 | [],_,_,e=>v2p e λ h J=>by subst h;rfl
 | _::xs,_,_,e=>asCE e λ J J h e1=>q0k e1 λ J e2=>by subst h;exact congrArg (· + 1) (w0y e2)
theorem w4p (R:AsOk cx n r.a) (hA:AOk n A) {ts:List Expr} (i:tI) (E:ER cx ks ns env g vs s) (q:VR cx g v u) (hs:∀t∈ts,∀y q,t≠.Starred y q) (e:z0n r ks ns ts ex v vs Z=some (vs',Z')) :
  tw (do assignStores env u (<-swappedStores ts ex env) ((assignEach ts env).map (·.2))) (PS cx ks ns env g s .next vs' Z') NoE s:=by
 have fin:∀{t:Sem Unit} {s0:Shared},tw t (λ J s'=>PA cx ks ns env g s vs' Z' s') NoE s0->tw (do t;pure Flow.next) (PS cx ks ns env g s .next vs' Z') NoE s0:=λ h=>
  tG (wpAny_mono h (λ _ _ ⟨g',a,i,E⟩=>tJ ⟨g',a,i,E,rfl⟩) λ J J x=>x)
 refine optE e λ o hw e=>?_
 rw[j8c E hw]
 refine tG (tJ ?_)
 refine optM e (λ names ho e=>?_) λ ho e=>?_<;>subst ho
 ·refine optE e λ xs e1 e=>mapQ e λ vs1 e2 e=>?_
  obtain⟨rfl,rfl⟩:=Prod.mk.inj e
  refine tG (wpAny_rule (tG (q9m hA i e1 q (by have:=w0y e2;simpa using this) λ us h' qs k=>?_)))
  have a1:Stp [] g s g { s with heap:=h' }:=.keeps (t:=s.toks) (jZ _) k
  exact fin (PA.next a1.own (z5g (i.keep (t:=s.toks) (jZ _) k) (E.go a1) qs.reverse e2))
 ·exact fin (q7o R hA i E q e hs)
theorem j2p {op:Operator} {old w:AV} {uo:Value} (i:tI) (e:augA op old w=some v) (r1:VR cx g old uo) (r2:VR cx g w u):tw (inplaceOp op uo u) (PE cx g s Z v) NoE s:=by
 induction op with
 | Add=>induction old using AV.casesOn with
  | str x=>
   refine optE e λ y h1 e=>mapQ e λ z h e=>q0k h λ hz h=>?_
   subst e
   obtain rfl:=zE h
   obtain⟨t,rfl,_⟩:=r1.of_str
   obtain⟨t',rfl,_⟩:=r2.strV h1
   exact PyProof.Rows.iadd_str (λ J J=>.tok i (.str_ _ (by rw[strLen_append];exact hz)) _) hz
  | int p=>
   refine mapQ e λ q h1 e=>?_
   subst e
   obtain⟨t,rfl⟩:=r1.of_int
   obtain⟨t',rfl⟩:=r2.intV h1
   exact AutoIntOps.iadd_0 (show PE cx g s Z _ _ _ from .tok i (.int_ _) _)
  | _=>exact nope e
 | Sub=>
  refine optE e λ p h0 e=>mapQ e λ q h1 e=>?_
  subst e
  obtain⟨t,rfl⟩:=r1.intV h0
  obtain⟨t',rfl⟩:=r2.intV h1
  exact AutoIntOps.isub_0 (show PE cx g s Z _ _ _ from .tok i (.int_ _) _)
 | _=>exact nope e
theorem k7q (R:EvOk cx n r) (hA:AOk n A) (i:tI) (E:ER cx ks ns env g vs s) {op:Operator} {p q:Pos}
  (e:augN r ks ns x op ex vs Z=some (fl,vs',Z')):tw (exec (.AugAssign (.Name x p) op ex q) env) (PS cx ks ns env g s fl vs' Z') NoE s:=by
 ·refine q0k e λ hk e=>?_
  simp only[Bool.and_eq_true,Bool.not_eq_true']at hk
  refine q5l e λ old e1 e=>q0e e λ w Z1 e2 e=>q5l e λ new e3 e=>?_
  rw[(fl_3 e).1,(fl_3 e).2.1,(fl_3 e).2.2]
  have hk':ks.lookup x=some .local\/ks.lookup x=some .cell\/ks.lookup x=some .free:=by
   have:=hk.1;unfold q1x at this;rw[Bool.or_eq_true,beq_iff_eq,beq_iff_eq]at this;exact this.elim .inl λ h=>.inr (.inl h)
  refine wpAny_AugAssign_Name (k6s E hk' hk.2 e1 λ uo ro=>q0r R.e hA i E e2 λ g1 s₁ u1 a1 i1 E1 r1=>?_)
  refine PX.then (PE.x (j2p i1 e3 (ro.mono a1.le).norm r1)) λ g2 s₂ u2 a2 i2 r2=>?_
  refine w4h i2 (E1.go a2) hk.1 r2 λ s3 ⟨g3,a3,i3,E3⟩=>⟨g3,((a1.trans a2).own).trans a3,i3,E3,rfl⟩
theorem k7p (H:q6d cx T) (R:EvOk cx n r) (hA:AOk n A) (i:tI) (E:ER cx ks ns env g vs s) {o:Expr} {op:Operator} {p q:Pos}
  (e:augO T r ks ns o x op ex vs Z=some (fl,vs',Z')):tw (exec (.AugAssign (.Attribute o x p) op ex q) env) (PS cx ks ns env g s fl vs' Z') NoE s:=by
 refine q0e e λ w Z1 e1 e=>q5l e λ old e2 e=>q0e e λ y Z2 e3 e=>q5l e λ new e4 e=>q5l e λ Z3 e5 e=>?_
 rw[(fl_3 e).1,(fl_3 e).2.1,(fl_3 e).2.2]
 refine wpAny_AugAssign_AttributeAny (q0r R.e hA i E e1 λ g1 s₁ u1 a1 i1 E1 r1=>PX.then (PE.x (w9p H i1 r1 e2)) λ g2 s₂ u2 a2 i2 r2=>q0r R.e hA i2 (E1.go a2) e3 λ g3 s3 u3 a3 i3 E3 r3=>?_)
 refine PX.then (PE.x (j2p i3 e4 (r2.mono a3.le).norm r3)) λ g4 s4 u4 a4 i4 r4=>?_
 refine z0d H i4 (((r1.mono a2.le).mono a3.le).mono a4.le) r4 e5 λ s5 a5 i5=>?_
 exact⟨g4,((((a1.trans a2).trans a3).trans a4).trans a5).own,i5,(E3.go a4).go a5,rfl⟩
end
structure StpI (I:Addr) (g:G) (s:Shared) (g':G) (s':Shared):Prop where
 le:g.le g'
 toks:s.toks<=s'.toks
 keep:∀b o,s.heap.get? b=some o->b≠I->s'.heap.get? b=some o
 new:∀b o,s.heap.get? b=some o->b∉g.ρ->b∉g'.ρ
 newI:∀b o,s.heap.get? b=some o->g.I b=none->g'.I b=none
 gens:s'.gens=s.gens
 os:s'.os=s.os
abbrev Nx:=Nat->Store->Option (Option AV)
inductive WkN (cx:Cx) (I:Addr) (g:G) (s:Shared) (Z:Store) (x:AV) (M:G->Heap->Value->Prop) (r:Option Value) (s':Shared):Prop
 | mk (u:Value) (g':G) (e:r=some u) (a:StpI I g s g' s') (i:Inv cx g' Z s') (q:VR cx g' x u) (m:M g' s'.heap u) (o:∃o,s'.heap.get? I=some o)
inductive WkD (cx:Cx) (I:Addr) (g:G) (s:Shared) (Z:Store) (r:Option Value) (s':Shared):Prop
 | mk (e:r=none) (a:StpI I g s g s') (i:Inv cx g Z s')
inductive WkG (cx:Cx) (I:Addr) (g:G) (s:Shared) (Z:Store) (St:G->Heap->Prop) (s':Shared):Prop
 | mk (a:StpI I g s g s') (i:Inv cx g Z s') (m:St g s'.heap) (o:∃o,s'.heap.get? I=some o)
inductive StW (n:Nat) (St':Nat->Heap->Prop) (g0:G) (I:Addr) (i:Nat) (g:G) (h:Heap):Prop
 | mk (hi:i<=n) (st:St' i h) (le:g0.le g) (h1:I∉g.ρ) (h2:g.I I=none)
inductive StC (l:Nat) (I:Addr) (i:Nat) (g:G) (h:Heap):Prop
 | mk (p:Addr) (e:g.ρ[l]? = some p) (it:h.IsListIter I p i) (h1:I∉g.ρ) (h2:g.I I=none)
structure WK (cx:Cx) (A:Around) (I:Addr) (tt:Expr->Bool) (nx:Nx) (St:Nat->G->Heap->Prop) (Mid:Nat->G->Heap->Value->Prop):Prop where
 next:∀{i g Z s x},Inv cx g Z s->St i g s.heap->nx i Z=some (some x)->
  tw (pyNext (.ref I)) (WkN cx I g s Z x (Mid (i+1))) NoE s
 done:∀{i g Z s},Inv cx g Z s->St i g s.heap->nx i Z=some none->tw (pyNext (.ref I)) (WkD cx I g s Z) NoE s
 frame:∀{i g s g' s' own Z Z'},St i g s.heap->Stp own g s g' s'->Inv cx g Z s->Inv cx g' Z' s'->I∉own->St i g' s'.heap
 self:∀{i g s} {Q:Value->Shared->Prop},St i g s.heap->Q (.ref I) s->tw (pyIter (.ref I)) Q NoE s
 go:∀{i g Z s t x u},Inv cx g Z s->Mid i g s.heap u->tt t=true->VR cx g x u->tw (letOwnedTupleGo t (.ref I) u) (λ J=>WkG cx I g s Z (St i)) NoE s
 out:∀{i g h},St i g h->I∉g.ρ/\g.I I=none
 there:∀{i g h},St i g h->∃o,h.get? I=some o
section
variable {T:Tab}
theorem Stp.thenI {own:List Addr} {g0:G} {s0:Shared} (a:Stp own g0 s0 g s) (b:StpI I g s g' s') (h:s0.heap.get? I=none):Stp own g0 s0 g' s':=
 ⟨a.le.trans b.le,jH a.toks b.toks,λ x o e p q=>b.keep x o (a.keep x o e p q) (λ z=>by rw[z,h]at e;rcases e),
  λ x o e p=>let ⟨o',e'⟩:=a.stay x o e;b.new x o' e' (a.new x o e p),λ x o e p=>let ⟨o',e'⟩:=a.stay x o e;b.newI x o' e' (a.newI x o e p),
  λ x o e=>let ⟨o',e'⟩:=a.stay x o e;⟨o',b.keep x o' e' (λ z=>by rw[z,h]at e;cases e)⟩,b.gens.trans a.gens,b.os.trans a.os⟩
theorem ER.stepI (E:ER cx ks ns env g vs s) (a:StpI I g s g' s') (h1:env.locals≠I) (h2:∀x c,IsCF ks x->env.cells.lookup x=some c->c≠I):ER cx ks ns env g' vs s':=by
 obtain⟨m,hm,hv⟩:=E.loc
 obtain⟨lo,ho⟩:=q7h hm
 refine⟨E.fn,E.gl,E.bl,⟨E.code.1.mono a.le,E.code.2⟩,E.len,E.kinds,E.mem,⟨m,j1c hm λ o e=>a.keep _ _ e h1,λ x v k e=>let ⟨u,p,q⟩:=hv x v k e;⟨u,p,q.mono a.le⟩⟩,⟨a.new _ _ ho E.locA.1,a.newI _ _ ho E.locA.2⟩,λ x k=>?_,E.apart⟩
 obtain⟨c,hc,c1,c2,c3,o,co,cv⟩:=E.cel x k
 obtain⟨oc,hoc⟩:=q3f co
 exact⟨c,hc,a.new _ _ hoc c1,a.newI _ _ hoc c2,c3,o,k4h co λ o e=>a.keep _ _ e (h2 x c k hc),λ v e=>let ⟨u,p,q⟩:=cv v e;⟨u,p,q.mono a.le⟩⟩
theorem Inv.writeI (i:tI) {h':Heap} {t:Nat} (ht:s.toks<=t) (h1:I∉g.ρ) (h2:g.I I=none) (k:∀b o,s.heap.get? b=some o->b≠I->h'.get? b=some o):Inv cx g Z { s with heap:=h',toks:=t }:=
 ⟨λ b o e=>k b o (i.sub b o e) (λ z=>by rw[z,h2]at e;contradiction),i.base,i.len,i.nodup,i.apart,
  λ l o b e q=>(i.cells l o b e q).mono (.refl g) λ ob eo=>k b ob eo λ z=>h1 (z▸List.mem_of_getElem? q),jH i.one ht,λ x y e=>jK (i.tok x y e) ht⟩
theorem StpI.write {h':Heap} {t:Nat} (ht:s.toks<=t) (k:∀b o,s.heap.get? b=some o->b≠I->h'.get? b=some o):StpI I g s g { s with heap:=h',toks:=t }:=
 ⟨.refl g,ht,λ b o e q=>k b o e q,λ J J J h=>h,λ J J J h=>h,rfl,rfl⟩
theorem Inv.add (i:tI) {a:Addr} {o:Obj} (ho:s.heap.get? a=some o) (h1:a∉g.ρ) (h2:g.I a=none):Inv cx (g.freeze a o) Z s:=by
 refine⟨λ b x e=>?_,λ b x e=>(G.freeze_le h2).I _ _ (i.base b x e),i.len,i.nodup,λ b q=>?_,λ l x b e q=>(i.cells l x b e q).mono (G.freeze_le h2) λ J e=>e,i.one,i.tok⟩
 ·have e:(if b=a then some o else g.I b)=some x:=e
  by_cases q:b=a
  ·subst q;rw[if_pos rfl]at e;obtain rfl:=zE e;exact ho
  ·rw[if_neg q]at e;exact i.sub b x e
 ·show(if b=a then some o else g.I b)=none
  rw[if_neg λ z=>by simp only[z]at q;exact h1 q];exact i.apart b q
noncomputable def w2i:List String:=["enumerate","zip","dict_itemiterator","dict_reverseitemiterator","odict_iterator","itertools.zip_longest","itertools.pairwise"]
theorem k0k {t:Expr} {o:Obj} {T:String} {Q:Unit->Shared->Prop} {E:Value->Shared->Prop} (ho:s.heap.get? I=some o) (hc:o.cls = .type T) (hT:w2i.contains T=false) (hQ:Q () s):tw (letOwnedTupleGo t (.ref I) u) Q E s:=by
 have body:∀a:Addr,wpAny cx.M A (do
   let o <-load I
   match o.cls,o.data with
   | .type n,.fields vs=>
    if w2i.contains n&&vs[0]?==some (rawInt a)then
     rule "for.unpacks-the-owned-tuple"
     updateField I 0 .none
   | _,_=>pure ()) Q E s:=λ a=>by
  refine tG (wpAny_load ho ?_)
  rw[hc]
  rcases o.data<;>first|exact tJ hQ|skip
  simp only[hT,Bool.false_and,Bool.false_eq_true,if_false]
  exact tJ hQ
 rcases t<;>first|exact tJ hQ|(rcases u<;>first|exact tJ hQ|exact body _)
theorem WK.of_walks {fp:List Addr} {n:Nat} {P:Nat->Value->Prop} {St':Nat->Heap->Prop} {g0:G} {xs:tW} (W:Walks cx.prog cx.w A I fp [I] n P St') (hP:∀i v,i<n->P i v->∃x,xs[i]? = some x/\VR cx g0 x v) (hn:n=xs.length)
  (hfp:∀b∈fp,b=I\/∃o,g0.I b=some o) (hc:∀i h,St' i h->∃o T,h.get? I=some o/\o.cls = .type T/\w2i.contains T=false) :
  WK cx A I (λ J=>true) (λ i J=>some xs[i]?) (StW n St' g0 I) (λ i g h J=>StW n St' g0 I i g h) where
 next:=by
  rintro i g Z s x inv ⟨hi,st,le,h1,h2⟩ e
  have e:=zE e
  have hlt:i<n:=by simp only[hn];exact(List.getElem?_eq_some_iff.mp e).1
  refine q5k (W.item i s _ _ hlt st λ v h' tk hv st' k ht=>?_)
  rcases _:hP i v hlt hv with⟨y,hy,ry⟩
  rw[e]at hy;obtain rfl:=zE hy
  have k':∀b o,s.heap.get? b=some o->b≠I->h'.get? b=some o:=λ b o e q=>k b o (by simpa using q) e
  rcases _:hc _ _ st' with⟨o,T,ho,_⟩
  exact⟨v,g,rfl,.write ht k',inv.writeI ht h1 h2 k',ry.mono le,⟨hlt,st',le,h1,h2⟩,o,ho⟩
 done:=by
  rintro i g Z s inv ⟨hi,st,le,h1,h2⟩ e
  have e:=zE e
  have hin:i=n:=Nat.le_antisymm hi (by rw[hn];exact List.getElem?_eq_none_iff.mp e)
  subst hin
  refine q5k (W.done s _ _ st λ h' tk k ht=>?_)
  have k':∀b o,s.heap.get? b=some o->b≠I->h'.get? b=some o:=λ b o e q=>k b o (by simpa using q) e
  exact⟨rfl,.write ht k',inv.writeI ht h1 h2 k'⟩
 frame:=by
  rintro i g s g' s' own Z Z' ⟨hi,st,le,h1,h2⟩ a i1 i2 hI
  rcases _:hc _ _ st with⟨o,T,ho,_⟩
  refine⟨hi,W.frame i _ _ st λ b hb ob e=>?_,le.trans a.le,a.new _ _ ho h1,a.newI _ _ ho h2⟩
  rcases hfp b hb with rfl|⟨o',ho'⟩
  ·exact a.keep _ _ e h1 hI
  ·have e1:=i1.sub _ _ (le.I _ _ ho')
   rw[e]at e1;obtain rfl:=zE e1
   exact i2.sub _ _ (a.le.I _ _ (le.I _ _ ho'))
 self:=λ⟨_,st,_,_,_⟩ q=>W.self _ _ _ _ st q
 go:=by
  rintro i g Z s t x u inv ⟨hi,st,le,h1,h2⟩ _ _
  rcases _:hc _ _ st with⟨o,T,ho,hcl,hT⟩
  exact k0k ho hcl hT ⟨.write (t:=s.toks) (jZ _) λ J J e J=>e,inv,⟨hi,st,le,h1,h2⟩,o,ho⟩
 out:=λ⟨_,_,_,h1,h2⟩=>⟨h1,h2⟩
 there:=λ⟨_,st,_,_,_⟩=>let ⟨o,_,ho,_⟩:=hc _ _ st;⟨o,ho⟩
def nxC (l n:Nat):Nx:=λ i Z=>(q1f Z l).bind λ ys=>if ys.length=n then some ys[i]? else none
theorem WK.of_cell {l m:Nat} (hA:AOk n A):WK cx A I (λ J=>true) (nxC l m) (StC l I) (λ i g h J=>StC l I i g h) where
 next:=by
  rintro i g Z s x inv ⟨p,hp,it,h1,h2⟩ e
  refine q7s e λ ys hy e=>q0k e λ J e=>?_
  have e:=zE e
  obtain⟨us,hl,q,z⟩:=inv.cells _ _ _ hy hp
  rcases _:q.get e with⟨v,hv,rv⟩
  refine wpAny_pyNext_list_item it hl.isList (x:=v) (by simpa using hv) λ h' it' hs=>?_
  have k':∀b o,s.heap.get? b=some o->b≠I->h'.get? b=some o:=λ b o e q=>(hs.2 b q).trans e
  rcases _:id it' with⟨o,ho,_⟩
  exact⟨v,g,rfl,.write (t:=s.toks) (jZ _) k',inv.writeI (t:=s.toks) (jZ _) h1 h2 k',rv,⟨p,hp,it',h1,h2⟩,o,ho⟩
 done:=by
  rintro i g Z s inv ⟨p,hp,it,h1,h2⟩ e
  refine q7s e λ ys hy e=>q0k e λ J e=>?_
  have e:=zE e
  obtain⟨us,hl,q,z⟩:=inv.cells _ _ _ hy hp
  refine wpAny_pyNext_list_end hA.handled it hl.isList (by rw[List.getElem?_toArray,List.getElem?_eq_none_iff,<-q.length];exact List.getElem?_eq_none_iff.mp e) λ h' hx=>?_
  have k':∀b o,s.heap.get? b=some o->b≠I->h'.get? b=some o:=λ b o e q=>hx b o q e
  exact⟨rfl,.write (t:=s.toks) (jZ _) k',inv.writeI (t:=s.toks) (jZ _) h1 h2 k'⟩
 frame:=by
  rintro i g s g' s' own Z Z' ⟨p,hp,it,h1,h2⟩ a i1 i2 hI
  rcases _:it with⟨o,ho,r⟩
  exact⟨p,a.le.at hp,⟨o,a.keep _ _ ho h1 hI,r⟩,a.new _ _ ho h1,a.newI _ _ ho h2⟩
 self:=λ⟨_,_,it,_,_⟩ q=>wpAny_pyIter_listiter it q
 go:=by
  rintro i g Z s t x u inv ⟨p,hp,it,h1,h2⟩ _ _
  rcases _:it with⟨o,ho,hcl,r⟩
  exact k0k ho hcl (by rfl) ⟨.write (t:=s.toks) (jZ _) λ J J e J=>e,inv,⟨p,hp,⟨o,ho,hcl,r⟩,h1,h2⟩,o,ho⟩
 out:=λ⟨_,_,_,h1,h2⟩=>⟨h1,h2⟩
 there:=λ⟨_,_,⟨o,ho,_⟩,_,_⟩=>⟨o,ho⟩
end
theorem q9p:entryFor table "dict_itemiterator.__iter__" = some Builtin.«dict_keyiterator.__iter__»:=
 entryFor_alias (id':="dict_keyiterator.__iter__") tK (by first|rfl|decide +kernel) (by decide +kernel) tK
theorem w0o (a:Value):argsOk "dict_itemiterator.__iter__" ⟨[a],[]⟩:=by unfold argsOk;kernel_rfl
noncomputable def v1d:Expr->Bool
 | .Tuple _ _ _=>true
 | _=>false
section
variable {T:Tab}
def nxA (Z:Store) (v:AV):Option Nx:=match v with
 | .loc l=>(q1f Z l).bind λ xs=>some (nxC l xs.length)
 | v=>(q5s Z v).map λ xs=>λ i J=>some xs[i]?
inductive k8u (cx:Cx) (A:Around) (g:G) (Z:Store) (s:Shared) (v:AV) (nx:Nx) (it:Value) (s':Shared):Prop
 | mk (I:Addr) (St:Nat->G->Heap->Prop) (Mid:Nat->G->Heap->Value->Prop) (e:it = .ref I) (h:s.heap.get? I=none) (a:Stp [] g s g s') (i:Inv cx g Z s') (W:WK cx A I (goOk v) nx St Mid) (st:St 0 g s'.heap)
theorem WK.tt {tt tt':Expr->Bool} {nx:Nx} {St:Nat->G->Heap->Prop} {Mid:Nat->G->Heap->Value->Prop} (W:WK cx A I tt nx St Mid) (h:∀t,tt' t=true->tt t=true):WK cx A I tt' nx St Mid:=
 ⟨W.next,W.done,W.frame,W.self,λ a b c d=>W.go a b (h _ c) d,W.out,W.there⟩
theorem w5t {d:Addr} {i m ep:Nat} {ok ov:Value} {Q:Value->Shared->Prop} {E:Value->Shared->Prop} (hit:IsItemIter s.heap I d i m ep ok ov) (h:Q (.ref I) s):tw (pyIter (.ref I)) Q E s:=by
 have hT:s.TypeIs (.ref I) "dict_itemiterator":=⟨_,hit,rfl⟩
 refine wpAny_pyIter_slot hT F.slot_dict_itemiterator_iter (wpAny_call_entry F.slot_dict_itemiterator_iter hT q9p ?_ (w0o _))
 exact tJ ⟨_,rfl,"dict_itemiterator",_,hT,F.slot_dict_itemiterator_next.lookup,h⟩
theorem k7e {kvs:tC} {i:Nat} {y:AV} (h:(w2j kvs)[i]? = some y):∃k w,kvs[i]? = some (k,w)/\y = .tup [.str k,w]:=by
 unfold w2j at h
 rw[List.getElem?_map]at h
 rcases _:Option.map_eq_some_iff.mp h with⟨⟨k,w⟩,h1,rfl⟩
 exact⟨k,w,h1,rfl⟩
theorem j8r {ks:tL} {xs:tW} {us:tU} (q:VRs cx g xs us) {i:Nat} {k:Str} {w:AV} (h:(ks.zip xs)[i]? = some (k,w)):∃u,(ks.zip us)[i]? = some (k,u)/\VR cx g w u:=by
 rcases _:List.getElem?_zip_eq_some.mp h with⟨h1,h2⟩
 obtain⟨u,e,ru⟩:=q.get h2
 exact⟨u,List.getElem?_zip_eq_some.mpr ⟨h1,e⟩,ru⟩
inductive StI (n:Nat) (g0:G) (d:Addr) (ep:Nat) (I:Addr) (i:Nat) (g:G) (h:Heap):Prop
 | mk (ok ov:Value) (it:IsItemIter h I d i n ep ok ov) (le:g0.le g) (h1:I∉g.ρ) (h2:g.I I=none)
inductive MdI (n:Nat) (g0:G) (d:Addr) (ep:Nat) (I:Addr) (i:Nat) (g:G) (h:Heap) (u:Value):Prop
 | mk (ok ov:Value) (a:Addr) (e:u = .ref a) (it:IsItemIterOut h I d i n ep ok ov a) (le:g0.le g) (h1:I∉g.ρ) (h2:g.I I=none)
theorem WK.of_items {g0:G} {d:Addr} {o:Obj} {kks:tL} {xs:tW} {us:tU} {ep:Nat} (hA:AOk n A) (ho:g0.I d=some o) (hd:∀h:Heap,h.get? d=some o->h.DictAt cx.sk d (kks.zip us) ep) (q:VRs cx g0 xs us) (hl:kks.length=xs.length) (hz:∀k∈kks,k.length<=sizeLine) :
  WK cx A I v1d (λ i J=>some (w2j (kks.zip xs))[i]?)
   (StI (kks.zip us).length g0 d ep I) (MdI (kks.zip us).length g0 d ep I) where
 next:=by
  rintro i g Z s y inv ⟨ok,ov,it,le,h1,h2⟩ e
  have e:=zE e
  rcases _:k7e e with⟨k,w,e1,rfl⟩
  rcases _:j8r q e1 with⟨uw,e2,rw'⟩
  have hdat:=hd s.heap (inv.sub _ _ (le.I _ _ ho))
  refine wpAny_pyNext_items_item it hdat e2 λ key h' hk it' ht hsz k'=>?_
  obtain⟨t,rfl⟩:∃t,key = .str k t:=by rcases kdl_flat_str hk s.heap;exact⟨_,rfl⟩
  have hn:=q0f s
  rcases _:inv.fresh hn with⟨f1,f2⟩
  have kk:∀b o,s.heap.get? b=some o->b≠I->h'.get? b=some o:=λ b o e q=>k' b o q e
  have i1:Inv cx g Z { s with heap:=h' }:=inv.writeI (t:=s.toks) (jZ _) h1 h2 kk
  have i2:=i1.add (a:=tH) ht f2 f1
  have le2:g.le (g.freeze tH { cls:=.type "tuple",data:=.seq #[.str k t,uw] }):=G.freeze_le f1
  have hIs:I≠tH:=Nat.ne_of_lt (Heap.lt_size it)
  refine⟨_,_,rfl,⟨le2,jZ _,λ b o e q=>kk b o e q,λ J J J h=>h,λ b o e q=>?_,rfl,rfl⟩,i2,?_,⟨_,_,_,rfl,it',le.trans le2,h1,?_⟩,_,it'⟩
  ·show(if b=tH then _ else g.I b)=none
   rw[if_neg λ z=>by rw[z,hn]at e;contradiction];exact q
  ·skip
   have hkm:k∈kks:=(List.of_mem_zip (List.mem_of_getElem? e1)).1
   exact⟨_,_,[.str k t,uw],rfl,G.freeze_self _ _ _,⟨0,rfl⟩,.cons (.str_ _ (hz k hkm)) (.cons ((rw'.mono le).mono le2) .nil),by show 2<=sizeLine;decide⟩
  ·show(if I=tH then _ else g.I I)=none
   rw[if_neg hIs];exact h2
 done:=by
  rintro i g Z s inv ⟨ok,ov,it,le,h1,h2⟩ e
  have e:=zE e
  have hdat:=hd s.heap (inv.sub _ _ (le.I _ _ ho))
  have hlen:(kks.zip us).length=(w2j (kks.zip xs)).length:=by simp[w2j,List.length_zip,q.length]
  refine wpAny_pyNext_items_end hA.handled it hdat (by rw[List.getElem?_eq_none_iff,hlen];exact List.getElem?_eq_none_iff.mp e) λ h' hx=>?_
  have k':∀b o,s.heap.get? b=some o->b≠I->h'.get? b=some o:=λ b o e q=>hx b o q e
  exact⟨rfl,.write (t:=s.toks) (jZ _) k',inv.writeI (t:=s.toks) (jZ _) h1 h2 k'⟩
 frame:=by
  rintro i g s g' s' own Z Z' ⟨ok,ov,it,le,h1,h2⟩ a i1 i2 hI
  exact⟨ok,ov,a.keep _ _ it h1 hI,le.trans a.le,a.new _ _ it h1,a.newI _ _ it h2⟩
 self:=λ⟨_,_,it,_,_,_⟩ q=>w5t it q
 go:=by
  rintro i g Z s t y u inv ⟨ok,ov,a,rfl,it,le,h1,h2⟩ ht _
  rcases t<;>first|exact nob ht|skip
  refine wpAny_letOwnedTupleGo_items it λ h' it' hs=>?_
  have k':∀b o,s.heap.get? b=some o->b≠I->h'.get? b=some o:=λ b o e q=>(hs.2 b q).trans e
  exact⟨.write (t:=s.toks) (jZ _) k',inv.writeI (t:=s.toks) (jZ _) h1 h2 k',⟨ok,ov,it',le,h1,h2⟩,_,it'⟩
 out:=λ⟨_,_,_,_,h1,h2⟩=>⟨h1,h2⟩
 there:=λ⟨_,_,it,_,_,_⟩=>⟨_,it⟩
set_option tactic.hygienic true in theorem z0b (a b:Int):Builtin.Range.rangeSize a b 1=((b - a).toNat:Int):=by
 unfold Builtin.Range.rangeSize
 rw[if_pos tA]
 split
 ·rename_i h
  rw[Int.ediv_one,Int.sub_add_cancel,Int.toNat_of_nonneg (Int.sub_nonneg_of_le (Int.le_of_lt h))]
 ·rename_i h
  rw[Int.toNat_eq_zero.mpr (Int.sub_nonpos_of_le (Int.not_lt.mp h))];rfl
theorem q7p {k:Int} {n:Nat} (h:k.natAbs<=n) (hn:n<=2 ^ 31):Builtin.Range.rangeFitsLong k=true:=by
 unfold Builtin.Range.rangeFitsLong
 have h2:=z4c (jH h hn)
 rw[decide_eq_true (Int.le_trans tA h2.1),decide_eq_true (Int.lt_of_le_of_lt h2.2 tA)];rfl
theorem z8r {a b:Int} (ha:a.natAbs<2 ^ 30) (hb:b.natAbs<2 ^ 30):Builtin.Range.small a b 1=true:=by
 unfold Builtin.Range.small
 rw[z0b,q7p (zB ha) tA,q7p (zB hb) tA,q7p (k:=1) (jZ 1) tA,
  q7p (k:=((b - a).toNat:Int)) (n:=2 ^ 31) ?_ (jZ _),if_pos tA,Int.sub_self,Int.add_zero,q7p (zB hb) tA,Bool.or_true]
 ·rfl
 ·refine Int.toNat_le.mpr (Int.le_trans (Int.add_le_add (z4c (zB hb)).2 (Int.neg_le_neg (z4c (zB ha)).1)) tA)
theorem z7y (hA:AOk n A) (i:tI) (r:VR cx g v u) {nx:Nx} (e:nxA Z v=some nx):tw (pyIter u) (k8u cx A g Z s v nx) NoE s:=by
 have hn:=q0f s
 obtain⟨f1,f2⟩:=i.fresh hn
 have kp:∀(o:Obj) b o',s.heap.get? b=some o'->(s.heap.push o).get? b=some o':=λ o b o' e=>Heap.get?_push_of_some o e
 have st1:∀o:Obj,Stp [] g s g { s with heap:=s.heap.push o }:=λ o=>.keeps (t:=s.toks) (jZ _) (kp o)
 have in1:∀o:Obj,Inv cx g Z { s with heap:=s.heap.push o }:=λ o=>i.keep (t:=s.toks) (jZ _) (kp o)
 induction v using AV.casesOn with
 | loc l=>
  refine q7s e λ xs hx e=>?_
  obtain rfl:=zE e
  rcases _:r.of_loc with⟨p,rfl,hp⟩
  rcases _:i.cells _ _ _ hx hp with⟨us,hl,q,z⟩
  exact wpAny_pyIter_list hl.isList ⟨_,_,_,rfl,hn,st1 _,in1 _,(WK.of_cell hA).tt λ J J=>rfl,p,hp,⟨_,Heap.get?_push_size _ rfl,rfl,rfl⟩,f2,f1⟩
 | fl xs=>
  obtain rfl:=zE e
  obtain⟨a,o,us,rfl,hi,⟨k,rfl⟩,q,z⟩:=r
  have hne:a≠tH:=Nat.ne_of_lt (Heap.lt_size (i.sub _ _ hi))
  have ht:s.heap.IsList a us.toArray:=⟨_,i.sub _ _ hi,rfl,k,rfl⟩
  refine wpAny_pyIter_list ht ⟨_,_,_,rfl,hn,st1 _,in1 _,(WK.of_walks (g0:=g) (xs:=xs) (Walks.list hA.handled _ a hne us.toArray) (λ j w J hw=>?_) (by rw[List.size_toArray];exact q.length.symm) (λ b hb=>?_) (λ j h st=>?_)).tt λ J J=>rfl,Nat.zero_le _,⟨⟨_,Heap.get?_push_size _ rfl,rfl,rfl⟩,ht.push _⟩,.refl g,f2,f1⟩
  ·have hj:us[j]? = some w:=by simpa using hw
   have hlt:j<xs.length:=by rw[q.length];exact(List.getElem?_eq_some_iff.mp hj).1
   rcases _:q.get (i:=j) (x:=xs[j]) (by simp[hlt])with⟨w',h1,h2⟩
   rw[hj]at h1;cases h1
   exact⟨xs[j],by simp[hlt],h2⟩
  ·simp at hb
   rcases hb with rfl|rfl
   ·exact .inl rfl
   ·exact .inr ⟨_,hi⟩
  ·obtain⟨⟨o,ho,hc,_⟩,_⟩:=st
   exact⟨o,_,ho,hc,by rfl⟩
 | rng a b=>
  refine mapQ e λ xs hx e=>q0k hx λ hab hx=>?_
  subst e
  obtain rfl:=zE hx
  obtain⟨p,o,rfl,hi,t,t',w',rfl⟩:=r
  have hsz:Builtin.Range.rangeSize a b 1=((b - a).toNat:Int):=z0b a b
  have hsm:Builtin.Range.small a b 1=true:=z8r hab.1 hab.2
  have hr:IsRange s.heap p a b 1 t t' w':=i.sub _ _ hi
  refine wpAny_pyIter_range hr hsm ⟨_,_,_,rfl,hn,st1 _,in1 _,(WK.of_walks (g0:=g) (xs:=z5h a b) (Walks.range hA.handled _ a 1 (b - a).toNat) (λ j w hj hw=>?_) (by simp[z5h]) (λ b hb=>.inl (by simpa using hb)) (λ j h st=>?_)).tt λ J J=>rfl,Nat.zero_le _,?_,.refl g,f2,f1⟩
  ·obtain⟨t,rfl⟩:=hw
   refine⟨.int (a+(j:Int)),?_,by rw[show a+(j:Int) * 1=a+j by simp +arith [*]];exact .int_ _⟩
   unfold z5h
   simp only[List.getElem?_map,List.getElem?_range hj];rfl
  ·exact⟨_,_,st,rfl,by rfl⟩
  ·show IsRangeIter _ _ (a+((0:Nat):Int) * 1) (((b - a).toNat:Int) - ((0:Nat):Int)) 1
   rw[show a+((0:Nat):Int) * 1=a by simp,show((b - a).toNat:Int) - ((0:Nat):Int)=(b - a).toNat by rfl,<-hsz]
   exact Heap.get?_push_size _ rfl
 | iv x=>induction x using AV.casesOn with
  | fd kks ys=>
   obtain rfl:=zE e
   obtain⟨a,o,d,rfl,hi,hcl,hfd,d',o',us,hdd,hid,hdo,hl,q,hsm,hz,hkz⟩:=r
   rcases hdd
   obtain⟨ep,hat⟩:=(Heap.dictOf_iff.mpr ⟨o',i.sub _ _ hid,hdo⟩).dictAt
   have hat':∀h:Heap,h.get? d=some o'->h.DictAt cx.sk d (kks.zip us) ep:=λ h e=>by
    rcases _:hat with⟨ob,es,e1,rest⟩
    rw[i.sub _ _ hid]at e1;obtain rfl:=zE e1
    exact⟨_,es,e,rest⟩
   have hv':s.heap.IsItemsView a d:=⟨o,i.sub _ _ hi,hcl,hfd⟩
   refine wpAny_pyIter_items hv' hat ⟨_,_,_,rfl,hn,st1 _,in1 _,(WK.of_items hA hid hat' q hl hkz).tt λ t ht=>?_,⟨_,_,Heap.get?_push_size _ rfl,.refl g,f2,f1⟩⟩
   rcases t<;>first|rfl|assumption
  | _=>exact nope e
 | _=>exact nope e
end
noncomputable def z4o {β:Type} (nx:Nx) (f:AV->β->Store->Option (β×Store)):Nat->Nat->β->Store->Option (β×Store)
 | 0,_,_,_=>none
 | k+1,i,b,Z=>(nx i Z).bind λ o=>optC o (λ x=>(f x b Z).bind λ p=>z4o nx f k (i+1) p.1 p.2) (some (b,Z))
theorem k6k {β:Type} {f:AV->β->Store->Option (β×Store)} {all:tW}:∀(xs:tW) (i:Nat) (b:β) (Z:Store) (r:β×Store),xs=all.drop i->i<=all.length->z1m f xs b Z=some r->z4o (λ i J=>some all[i]?) f (xs.length+1) i b Z=some r
 | [],i,b,Z,r,h,hi,e=>by
  have:all[i]? = none:=List.getElem?_eq_none_iff.mpr (List.drop_eq_nil_iff.mp h.symm)
  show optC all[i]? _ _=_
  rw[this];exact e
 | x::xs,i,b,Z,r,h,hi,e=>by
  have hx:all[i]? = some x:=by rw[<-List.head?_drop,<-h];rfl
  have hd:xs=all.drop (i+1):=by rw[<-List.tail_drop,<-h];rfl
  have hlt:i<all.length:=(List.getElem?_eq_some_iff.mp hx).1
  show optC all[i]? _ _=_
  rw[hx]
  refine optE e λ p h1 e=>?_
  show(f x b Z).bind _=_
  rw[h1]
  exact k6k xs (i+1) p.1 p.2 r hd hlt e
theorem q1q {Z:Store} {l:Nat} {xs:tW} (h:Z[l]? = some (.list xs)):q1f Z l=some xs:=by unfold q1f;rw[h]
theorem k6j {β:Type} {f:AV->β->Store->Option (β×Store)} {l n:Nat}:∀(j:Nat) (b:β) (Z:Store) (r:β×Store),j<=n->k6i l n f j b Z=some r->z4o (nxC l n) f (j+1) (n - j) b Z=some r
 | 0,b,Z,r,hj,e=>q7s e λ xs hx e=>q0k e λ hn e=>by
  show((q1f Z l).bind λ ys=>if ys.length=n then some ys[n]? else none).bind _=_
  rw[q1q hx,Option.bind_some,if_pos hn,List.getElem?_eq_none_iff.mpr (zA hn)]
  exact e
 | j+1,b,Z,r,hj,e=>q7s e λ xs hx e=>q0k e λ hn e=>optE e λ x h1 e=>optE e λ p h2 e=>by
  show((q1f Z l).bind λ ys=>if ys.length=n then some ys[n - (j+1)]? else none).bind _=_
  rw[q1q hx,Option.bind_some,if_pos hn,h1]
  show(f x b Z).bind _=_
  rw[h2]
  have:=k6j j p.1 p.2 r (zB hj) e
  rw[show n - j=n - (j+1)+1 from(Nat.succ_pred_eq_of_pos (Nat.sub_pos_of_lt hj)).symm]at this
  exact this
inductive j9f {β:Type} (v:AV) (f:AV->β->Store->Option (β×Store)) (b:β) (Z:Store) (r:β×Store):Prop
 | mk (nx:Nx) (k:Nat) (h1:nxA Z v=some nx) (h2:z4o nx f k 0 b Z=some r)
theorem k3l {β:Type} {f:AV->β->Store->Option (β×Store)} {v:AV} {b:β} {Z:Store} {r:β×Store} (h:nxA Z v=(q5s Z v).map λ xs=>λ i J=>some xs[i]?) (e:((q5s Z v).bind λ xs=>z1m f xs b Z)=some r):j9f v f b Z r:=
 optE e λ xs h1 e=>⟨_,_,h.trans (by rw[h1];rfl),k6k xs 0 b Z r rfl (Nat.zero_le _) e⟩
theorem k8s {β:Type} {f:AV->β->Store->Option (β×Store)} {v:AV} {b:β} {Z:Store} {r:β×Store} (e:q0s v f b Z=some r):j9f v f b Z r:=by
 induction v using AV.casesOn with
 | loc l=>exact q7s e λ xs hx e=>⟨nxC l xs.length,xs.length+1,by show(q1f Z l).bind _=_;rw[q1q hx];rfl,by have:=k6j _ _ _ _ (jZ _) e;rwa [Nat.sub_self]at this⟩
 | _=>exact k3l rfl e
section
variable {T:Tab} {n:Nat} {r:Ev} {ks:Kinds} {ns:tL} {env:Env} {g g':G} {vs vs':Vs} {Z Z':Store} {s s':Shared} {A:Around} {v:AV} {u:Value} {x:Str} {I:Addr}
section
variable {tt:Expr->Bool} {nx:Nx} {St:Nat->G->Heap->Prop} {Mid:Nat->G->Heap->Value->Prop} {i:Nat} {y:AV} {P:Option Value->Shared->Prop} {E:Value->Shared->Prop} {t:Expr}
theorem WK.nextK (W:WK cx A I tt nx St Mid) (inv:tI) (st:St i g s.heap) (e:nx i Z=some (some y)) (k:∀u g' s',StpI I g s g' s'->Inv cx g' Z s'->VR cx g' y u->Mid (i+1) g' s'.heap u->P (some u) s'):tw (pyNext (.ref I)) P E s:=
 wpAny_mono (W.next inv st e) (λ _ s' ⟨u,g',h,a,b,c,d,_⟩=>h▸k u g' s' a b c d) λ J J x=>x.elim
theorem WK.doneK (W:WK cx A I tt nx St Mid) (inv:tI) (st:St i g s.heap) (e:nx i Z=some none) (k:∀s',StpI I g s g s'->Inv cx g Z s'->P none s'):tw (pyNext (.ref I)) P E s:=
 wpAny_mono (W.done inv st e) (λ _ s' ⟨h,a,b⟩=>h▸k s' a b) λ J J x=>x.elim
theorem WK.goK {Q:Unit->Shared->Prop} (W:WK cx A I tt nx St Mid) (inv:tI) (m:Mid i g s.heap u) (ht:tt t=true) (r:VR cx g y u) (k:∀s',StpI I g s g s'->Inv cx g Z s'->St i g s'.heap->Q () s'):tw (letOwnedTupleGo t (.ref I) u) Q E s:=
 wpAny_mono (W.go inv m ht r) (λ _ s' ⟨a,b,c,_⟩=>k s' a b c) λ J J x=>x.elim
theorem z0m {Q:Unit->Shared->Prop} {env:Env} (R:AsOk cx n r.a) (hA:AOk n A) (i:tI) (e:ER cx ks ns env g vs s) (f:r.a ks ns t v vs Z=some (vs',Z')) (q:VR cx g v u)
  (k:∀g' s',Stp (ownK ks env) g s g' s'->Inv cx g' Z' s'->ER cx ks ns env g' vs' s'->Q () s'):tw (assign t env u) Q E s:=
 wpAny_mono (R f hA i e q) (λ _ s' ⟨g',a,b,c⟩=>k g' s' a b c) λ J J x=>x.elim
theorem PB.thenE {Q:Bool->Shared->Prop} {t:Sem Bool} {b:Bool} (h:tw t (PB cx g s Z' b) NoE s) (k:∀g' s',Stp [] g s g' s'->Inv cx g' Z' s'->Q b s'):tw t Q E s:=
 wpAny_mono h (λ _ s' ⟨e,g',a,b⟩=>e▸k g' s' a b) λ J J x=>x.elim
theorem PX.thenE {Q:Value->Shared->Prop} {t:Sem Value} (h:tw t (PX cx g s Z' v) NoE s) (k:∀u g' s',Stp [] g s g' s'->Inv cx g' Z' s'->VR cx g' v u->Q u s'):tw t Q E s:=
 wpAny_mono h (λ u s' ⟨g',a,b,c⟩=>k u g' s' a b c) λ J J x=>x.elim
end
theorem w0n {g0:G} {s0:Shared} {vs0:Vs} (E0:ER cx ks ns env g0 vs0 s0) (hI:s0.heap.get? I=none):env.locals≠I/\(∀x c,IsCF ks x->env.cells.lookup x=some c->c≠I)/\I∉ownK ks env:=by
 rcases _:k5g E0 with⟨⟨o,ho⟩,hc⟩
 refine⟨(λ z=>by rw[z,hI]at ho;contradiction),λ x c k e z=>?_,λ h=>?_⟩
 ·obtain⟨o,ho⟩:=hc x c k e;rw[z,hI]at ho;contradiction
 ·obtain⟨o,ho⟩:=k7d E0 h;rw[hI]at ho;contradiction
theorem set_plain {it:Expr} {env:Env} (h:q1j it=true) (x:Value):foldedSetIterable it env x=pure x:=by induction it using Expr.casesOn with
 | Set=>exact nob h
 | _=>rfl
def k5n (r:Ev) (ks:Kinds) (ns:tL) (t:Expr) (body:List Stmt) (x:AV) (vs:Vs) (Z:Store):ResS:=do
 let (vs,Z) <-r.a ks ns t x vs Z
 q1b r ks ns body vs Z
theorem v4y {f:AV->Vs->Store->ResS} {x:AV} {xs:tW} {q:q1c×Vs×Store} {P:Prop} (e:forA f (x::xs) vs Z=some q)
  (k:∀fl1 vs1 Z1,f x vs Z=some (fl1,vs1,Z1)->(match fl1 with | .next=>forA f xs vs1 Z1 | .ret w=>some (.ret w,vs1,Z1))=some q->P):P:=
 optE e λ p h e=>k p.1 p.2.1 p.2.2 h e
inductive v3x (cx:Cx) (r:Ev) (ks:Kinds) (ns:tL) (env:Env) (t:Expr) (body:List Stmt) (xs:tW) (St:Nat->G->Heap->Prop) (g0:G) (s0:Shared) (fl:q1c) (vs':Vs) (Z':Store) (m:Nat) (s:Shared):Prop
 | mk (j:Nat) (g:G) (vs:Vs) (Z:Store) (_:m=xs.length - j+1) (_:j<=xs.length) (_:Stp (ownK ks env) g0 s0 g s) (_:tI) (_:ER cx ks ns env g vs s) (_:St j g s.heap) (_:forA (k5n r ks ns t body) (xs.drop j) vs Z=some (fl,vs',Z'))
theorem v0v (R:EvOk cx n r) (hA:AOk n A) {t:Expr} {body:List Stmt} {xs:tW} {St:Nat->G->Heap->Prop} {Mid:Nat->G->Heap->Value->Prop} {tt:Expr->Bool} (W:WK cx A I tt (λ i J=>some xs[i]?) St Mid) (ht:tt t=true)
  {g0:G} {s0:Shared} {vs0:Vs} (E0:ER cx ks ns env g0 vs0 s0) (hI:s0.heap.get? I=none) (a:Stp (ownK ks env) g0 s0 g s) (i:tI) (E:ER cx ks ns env g vs s) (st:St 0 g s.heap)
  (e:forA (k5n r ks ns t body) xs vs Z=some (fl,vs',Z')) {Er:Value->Shared->Prop} :
  codeAny cx.M A (.forLoop t (.ref I) body [] env) (λ q s'=>match q with | .ok f=>PS cx ks ns env g0 s0 fl vs' Z' f s' | .error e=>Er e s') s:=by
 rcases _:w0n E0 hI with⟨p1,p2,p3⟩
 refine codeAny_forLoop_any (λ m s=>v3x cx r ks ns env t body xs St g0 s0 fl vs' Z' m s) ?_ (xs.length+1) (.mk 0 g vs Z rfl (Nat.zero_le _) a i E st e)
 rintro m s ⟨j,g,vs,Z,hm,hj,a,i,E,st,e⟩
 subst hm
 by_cases hlt:j<xs.length
 ·rw[List.drop_eq_getElem_cons hlt]at e
  refine v4y e λ f vs1 Z1 hf e=>q0e hf λ vs2 Z2 e1 e2=>W.nextK i st (congrArg some (List.getElem?_eq_getElem hlt)) λ u g1 s₁ a1 i1 r1 md=>W.goK i1 md ht r1 λ s₂ a2 i2 st2=>?_
  (refine z0m R.a hA i2 ((E.stepI a1 p1 p2).stepI a2 p1 p2) e1 r1 λ g3 s3 a3 i3 E3=>wpAny_mono (q6g R.s hA i3 E3 e2) (λ f' s4 zz0=>?_) λ J J x=>x.elim;rcases _:zz0 with⟨g4,a4,i4,E4,F⟩)
  have A4:=(((a.thenI a1 hI).thenI a2 hI).trans a3).trans a4
  induction f with
  | next=>subst F;exact⟨xs.length - (j+1)+1,Nat.succ_lt_succ (Nat.sub_lt_sub_left hlt (Nat.lt_succ_self j)),j+1,g4,vs1,Z1,rfl,hlt,A4,i4,E4,W.frame (W.frame st2 a3 i2 i3 p3) a4 i3 i4 p3,e⟩
  | ret w=>obtain⟨uw,rfl,rw'⟩:=F;exact k2a (P:=λ fl vs' Z'=>PS cx ks ns env g0 s0 fl vs' Z' _ _) e ⟨g4,A4,i4,E4,uw,rfl,rw'⟩
 ·have hj':j=xs.length:=Nat.le_antisymm hj (Nat.not_lt.mp hlt)
  subst hj'
  rw[List.drop_length]at e
  exact W.doneK i st (congrArg some (List.getElem?_eq_none_iff.mpr (jZ _))) λ s₁ a1 i1=>wpAny_execs_nil (k2a e (P:=λ fl vs' Z'=>PS cx ks ns env g0 s0 fl vs' Z' _ _) ⟨g,a.thenI a1 hI,i1,by(first|exact i1|exact E.stepI a1 p1 p2),rfl⟩)
theorem v5y (R:EvOk cx n r) (hA:AOk n A) (i:tI) (E:ER cx ks ns env g vs s) {t it:Expr} {body:List Stmt} {p:Pos}
  (e:(if q1j it then do
   let (v,Z) <-r.e ks ns it vs Z
   if frozen v then do
    let xs <-q5s Z v
    forA (λ x vs Z=>do
     let (vs,Z) <-r.a ks ns t x vs Z
     q1b r ks ns body vs Z) xs vs Z
   else none
  else none)=some (fl,vs',Z')):tw (exec (.For t it body [] p) env) (PS cx ks ns env g s fl vs' Z') NoE s:=by
 refine q0k e λ hp e=>q0e e λ w Z1 e1 e=>q0k e λ hf e=>q5l e λ xs e2 e=>?_
 have hs:∀x,foldedSetIterable it env x=pure x:=set_plain hp
 have e2':=congrArg (λ o:Option tW=>o.map λ xs=>(λ(i:Nat) (_:Store)=>some xs[i]? : Nx)) e2
 have hnx:nxA Z1 w=some (λ i J=>some xs[i]?):=by
  induction w using AV.casesOn with
  | loc=>exact nob hf
  | _=>exact e2'
 refine wpAny_For (q0r R.e hA i E e1 λ g1 s₁ u1 a1 i1 E1 r1=>wpAny_mono (z7y hA i1 r1 hnx) ?_ λ J J x=>x) hs
 rintro _ s₂ ⟨I,St,Mid,rfl,hI,a2,i2,W,st⟩
 have htt:goOk w t=true:=by
  cases w with
  | iv=>exact nob hf
  | _=>rfl
 refine codeAny_mono (v0v (Er:=λ e s'=>cameBackBy cx.M A env NoE e s') R hA W htt E1 hI a2.own i2 (E1.go a2) st e) λ z s' h=>?_
 induction z with
 | error=>exact h
 | ok=>obtain⟨g',b,c,d,e⟩:=h;exact⟨g',a1.own.trans b,c,d,e⟩
end
noncomputable def j2u (e:Expr) (acc:Value) (env:Env):Sem Unit:=match e with
 | .ListComp elt _ _ _=>do let _ <-call (.builtin "list.append") [acc,<-eval elt env]
 | .DictComp k v _ _ _=>do
  let kv <-eval k env
  let vv <-holding [kv] (eval v env)
  match acc with
  | .ref d=>do
   standAt { k.pos with endLine:=v.pos.endLine,endCol:=v.pos.endCol }
   holding [kv,vv] (dictSet d kv vv)
  | _=>unsupported "internal:dictcomp"
 | _=>unsupported "internal:not-a-comprehension"
def deeper (e:Expr) (depth:Nat) (acc:Value) (env:Env) (k:Sem PySem.Fin):Option Comprehension->Sem PySem.Fin
 | some g'=>do
  let x <-eval g'.iter env
  standAt g'.iter.pos
  if g'.is_async !=0 then do
   let x <-foldedIterable g'.iter x
   let it <-holding [x] (if g'.is_async !=0 then asyncIter x else pyIter x)
   let _ <-runOwn (.compStart e (depth+1) it acc env) env
   k
  else do
   let x <-foldedSetIterable g'.iter env x
   let it <-holding [x] (if g'.is_async !=0 then asyncIter x else pyIter x)
   let _ <-runOwn (.compStart e (depth+1) it acc env) env
   k
 | none=>do
  j2u e acc env
  k
noncomputable def w7a (ifs:List Expr) (env:Env):Sem Bool:=forIn ifs true λ c r=>if r=true then do let ok <-isTrue c env (eval c env);pure (ForInStep.yield ok)else pure (ForInStep.yield r)
theorem w7h {elt target iter:Expr} {gens:List Comprehension} {ifs:List Expr} {sc:Scope} {pos:Pos} {depth:Nat} {it acc:Value} {env:Env} (hg:gens[depth]? = some ⟨target,iter,ifs,0⟩) :
  compTurn (.ListComp elt gens sc pos) depth it acc env=(standAt iter.pos >>= λ J=>pyNext it >>= λ r=>match r with
   | none=>pure (.done .next)
   | some v=>letOwnedTupleGo target it v >>= λ J=>assign target env v >>= λ J=>w7a ifs env >>= λ ok=>
    if ok=true then deeper (.ListComp elt gens sc pos) depth acc env (again (.compLoop (.ListComp elt gens sc pos) depth it acc env)) gens[depth+1]?
    else again (.compLoop (.ListComp elt gens sc pos) depth it acc env)):=by
 dsimp only[compTurn]
 simp only[hg]
 generalize gens[depth+1]? = zzy at *
 induction zzy with
 | none=>rfl
 | some g'=>rfl
theorem w7g {kx vx target iter:Expr} {gens:List Comprehension} {ifs:List Expr} {sc:Scope} {pos:Pos} {depth:Nat} {it acc:Value} {env:Env} (hg:gens[depth]? = some ⟨target,iter,ifs,0⟩) :
  compTurn (.DictComp kx vx gens sc pos) depth it acc env=(standAt iter.pos >>= λ J=>pyNext it >>= λ r=>match r with
   | none=>pure (.done .next)
   | some v=>letOwnedTupleGo target it v >>= λ J=>assign target env v >>= λ J=>w7a ifs env >>= λ ok=>
    if ok=true then deeper (.DictComp kx vx gens sc pos) depth acc env (again (.compLoop (.DictComp kx vx gens sc pos) depth it acc env)) gens[depth+1]?
    else again (.compLoop (.DictComp kx vx gens sc pos) depth it acc env)):=by
 dsimp only[compTurn]
 simp only[hg]
 generalize gens[depth+1]? = zzy at *
 induction zzy with
 | none=>rfl
 | some g'=>rfl
structure IsC (cx:Cx) (e:Expr) (gens:List Comprehension):Prop where
 turn:∀{depth it acc env target iter ifs},gens[depth]? = some ⟨target,iter,ifs,0⟩->compTurn e depth it acc env=(standAt iter.pos >>= λ J=>pyNext it >>= λ r=>match r with
   | none=>pure (.done .next)
   | some v=>letOwnedTupleGo target it v >>= λ J=>assign target env v >>= λ J=>w7a ifs env >>= λ ok=>
    if ok=true then deeper e depth acc env (again (.compLoop e depth it acc env)) gens[depth+1]?
    else again (.compLoop e depth it acc env))
 den:∀depth it acc env,cx.M.den (.compLoop e depth it acc env)=(compTurn e depth it acc env).onRaise (λ x=>do noteFrame x env;theTreesLotGoes x)
 denS:∀depth it acc env,cx.M.den (.compStart e depth it acc env)=(compStart e depth it acc env).onRaise (λ x=>do noteFrame x env;standAt theWindowsPlace)
 und:∀(A:Around) depth it acc env,A.under (.compLoop e depth it acc env)=A
 undS:∀(A:Around) depth it acc env,A.under (.compStart e depth it acc env)=A
 quiet:∀depth it acc env,(Code.compLoop e depth it acc env).quiet=true
 clauses:clausesOf e=gens
theorem k0n {elt:Expr} {gens:List Comprehension} {sc:Scope} {pos:Pos}:IsC cx (.ListComp elt gens sc pos) gens:=
 ⟨w7h,λ J J J J=>rfl,λ J J J J=>rfl,λ J J J J J=>rfl,λ J J J J J=>rfl,λ J J J J=>rfl,rfl⟩
theorem j0d {kx vx:Expr} {gens:List Comprehension} {sc:Scope} {pos:Pos}:IsC cx (.DictComp kx vx gens sc pos) gens:=
 ⟨w7g,λ J J J J=>rfl,λ J J J J=>rfl,λ J J J J J=>rfl,λ J J J J J=>rfl,λ J J J J=>rfl,rfl⟩
def k9f {β:Type} (r:Ev) (ks:Kinds) (ns:tL) (emit:Vs->β->Store->Option (β×Store)) (gs:List Comprehension) (target:Expr) (ifs:List Expr) (x:AV) (b:Vs×β) (Z:Store):Option ((Vs×β)×Store):=do
 let (vs,Z) <-r.a ks ns target x b.1 Z
 let (ok,Z) <-w6z r ks ns ifs vs Z
 if ok then match gs with
  | []=>do
   let (acc,Z) <-emit vs b.2 Z
   some ((vs,acc),Z)
  | g::gs=>do
   let (v,Z) <-r.e ks ns g.iter vs Z
   if q1j g.iter then z0u r ks ns emit gs g.target g.ifs v (vs,b.2) Z else none
 else some ((vs,b.2),Z)
theorem z0v {β:Type} {r:Ev} {ks:Kinds} {ns:tL} {emit:Vs->β->Store->Option (β×Store)} {gs:List Comprehension} {target:Expr} {ifs:List Expr} {src:AV} {b:Vs×β} {Z:Store} :
  z0u r ks ns emit gs target ifs src b Z=if !goOk src target then none else q0s src (k9f r ks ns emit gs target ifs) b Z:=by
 cases gs<;>rfl
section
variable {T:Tab}
theorem w7b {env:Env}:∀cs:List Expr,(forIn cs false λ c r=>if r=true then do let ok <-isTrue c env (eval c env);pure (ForInStep.yield ok)else pure (ForInStep.yield r):Sem Bool)=pure false
 | []=>rfl
 | c::cs=>by rw[List.forIn_cons];skip;exact w7b cs
theorem z2y (R:TOk cx n r.t) (hA:AOk n A) {b:Bool}:∀{cs:List Expr} {g:G} {Z:Store} {s:Shared},Inv cx g Z s->ER cx ks ns env g vs s->w6z r ks ns cs vs Z=some (b,Z')->tw (w7a cs env) (PB cx g s Z' b) NoE s
 | [],g,Z,s,i,E,e=>by rw[(q0h e).1,(q0h e).2];exact tJ ⟨rfl,g,.refl _ _ _,i⟩
 | c::cs,g,Z,s,i,E,e=>by
  rcases _:bind_some e with⟨⟨d,Z1⟩,e1,e⟩
  unfold w7a
  rw[List.forIn_cons]
  refine tG (tG (z7b R hA i E e1 λ g1 s₁ a1 i1 E1=>tJ ?_))
  induction d with
  | true=>exact PB.up a1 (z2y R hA i1 E1 e)
  | false=>
   rw[(q0h e).1,(q0h e).2]
   dsimp only
   rw[w7b]
   exact tJ ⟨rfl,g1,a1,i1⟩
theorem w2y {e:Expr} {gens:List Comprehension} (C:IsC cx e gens) {depth:Nat} {it acc:Value} {cenv:Env} {gg:Comprehension} (hg:gens[depth]? = some gg) (h0:gg.is_async=0) {P:Result->Shared->Prop}
  (h1:codeAny cx.M A (.compLoop e depth it acc cenv) P s) (h2:tw (pyIter it) (λ it' s'=>codeAny cx.M A (.compLoop e depth it' acc cenv) P s') NoE s):codeAny cx.M A (.compStart e depth it acc cenv) P s:=by
 refine codeAny_of_tree ?_
 rw[C.undS,C.denS]
 refine wpAny_notedAt ?_
 dsimp only[compStart]
 rw[C.clauses,hg]
 simp only[Option.elim,h0,bne_self_eq_false,Bool.false_eq_true,if_false]
 refine tG (wpAny_askSetting (wpAny_ite ?_))
 split
 ·exact tJ ⟨C.quiet ..,h1⟩
 ·refine tG (wpAny_rule (tG (wpAny_standAt (tG (wpAny_mono h2 (λ it' s' h'=>tJ ⟨C.quiet ..,h'⟩) λ J J x=>x.elim)))))
end
structure Acc (β:Type) (cx:Cx) where
 R:G->Heap->Addr->β->Prop
 mono:∀{g g' h h' D b},g.le g'->(∀o,h.get? D=some o->h'.get? D=some o)->R g h D b->R g' h' D b
section
variable {T:Tab}
theorem z1r (h:∀x,ks.lookup x≠some .cell):ownK ks cenv=[cenv.locals]:=by
 unfold ownK
 congr 1
 rw[List.filterMap_eq_nil_iff]
 intro p _
 rw[if_neg (h p.1)]
structure Cs (Q:Acc β cx) (ks:Kinds) (ns:tL) (cenv:Env) (D:Addr) (g0:G) (s0:Shared) (vs:Vs) (b:β) (Z:Store) (g:G) (s:Shared):Prop where
 stp:Stp [cenv.locals,D] g0 s0 g s
 inv:Inv cx g Z s
 er:ER cx ks ns cenv g vs s
 acc:Q.R g s.heap D b
 out:D∉g.ρ/\g.I D=none
 there:∃o,s.heap.get? D=some o
theorem Cs.go (c:Cs Q ks ns cenv D g0 s0 vs b Z g s) (a:Stp [] g s g' s') (i:Inv cx g' Z' s'):Cs Q ks ns cenv D g0 s0 vs b Z' g' s':=by
 rcases _:c.there with⟨o,ho⟩
 exact⟨c.stp.trans a.own,i,c.er.go a,Q.mono a.le (λ o e=>a.keep _ _ e c.out.1 (by simp)) c.acc,⟨a.new _ _ ho c.out.1,a.newI _ _ ho c.out.2⟩,a.stay _ _ ho⟩
theorem Cs.set (c:Cs Q ks ns cenv D g0 s0 vs b Z g s) (hD:D≠cenv.locals) (a:Stp [cenv.locals] g s g' s') (i:Inv cx g' Z' s') (E:ER cx ks ns cenv g' vs' s'):Cs Q ks ns cenv D g0 s0 vs' b Z' g' s':=by
 rcases _:c.there with⟨o,ho⟩
 exact⟨c.stp.trans (a.wider (by simp)),i,E,Q.mono a.le (λ o e=>a.keep _ _ e c.out.1 (by simpa using hD)) c.acc,⟨a.new _ _ ho c.out.1,a.newI _ _ ho c.out.2⟩,a.stay _ _ ho⟩
theorem Cs.it (c:Cs Q ks ns cenv D g0 s0 vs b Z g s) (hI:s0.heap.get? I=none) (h1:cenv.locals≠I) (h2:∀x c,IsCF ks x->cenv.cells.lookup x=some c->c≠I) (hD:D≠I) (a:StpI I g s g' s') (i:Inv cx g' Z s'):Cs Q ks ns cenv D g0 s0 vs b Z g' s':=by
 obtain⟨o,ho⟩:=c.there
 exact⟨c.stp.thenI a hI,i,c.er.stepI a h1 h2,Q.mono a.le (λ o e=>a.keep _ _ e hD) c.acc,⟨a.new _ _ ho c.out.1,a.newI _ _ ho c.out.2⟩,o,a.keep _ _ ho hD⟩
inductive j3z (Q:Acc β cx) (g:G) (s:Shared) (Z':Store) (D:Addr) (b':β) (s':Shared):Prop
 | mk (g':G) (a:Stp [D] g s g' s') (i:Inv cx g' Z' s') (r:Q.R g' s'.heap D b') (o:∃o,s'.heap.get? D=some o)
def Emits (Q:Acc β cx) (A:Around) (ks:Kinds) (ns:tL) (cenv:Env) (D:Addr) (e:Expr) (emit:Vs->β->Store->Option (β×Store)):Prop:=
 ∀{vs b Z b' Z' g s},emit vs b Z=some (b',Z')->Inv cx g Z s->ER cx ks ns cenv g vs s->Q.R g s.heap D b->D∉g.ρ->g.I D=none->
  tw (j2u e (.ref D) cenv) (λ J s'=>j3z Q g s Z' D b' s') NoE s
theorem j6t {γ:Type} {nx:Nx} {f:AV->γ->Store->Option (γ×Store)} {k i:Nat} {b:γ} {q:γ×Store} {P:Prop} (e:z4o nx f (k+1) i b Z=some q)
  (h0:nx i Z=some none->(b,Z)=q->P) (h1:∀x b' Z',nx i Z=some (some x)->f x b Z=some (b',Z')->z4o nx f k (i+1) b' Z'=some q->P):P:=
 optE e λ o h2 e=>optM e (λ x ho e=>optE e λ p h3 e=>h1 x p.1 p.2 (ho▸h2) h3 e) λ ho e=>h0 (ho▸h2) (zE e)
def j3b (r:Ev) (ks:Kinds) (ns:tL) (emit:Vs->β->Store->Option (β×Store)):List Comprehension->Vs->β->Store->Option ((Vs×β)×Store)
 | [],vs,b,Z=>do
   let (acc,Z) <-emit vs b Z
   some ((vs,acc),Z)
 | g::gs,vs,b,Z=>do
   let (v,Z) <-r.e ks ns g.iter vs Z
   if q1j g.iter then z0u r ks ns emit gs g.target g.ifs v (vs,b) Z else none
theorem v4l {emit:Vs->β->Store->Option (β×Store)} {gs:List Comprehension} {target:Expr} {ifs:List Expr} {q:(Vs×β)×Store} {P:Prop} (h:k9f r ks ns emit gs target ifs v (vs,b) Z=some q)
  (k:∀vs1 Z1 Z2,r.a ks ns target v vs Z=some (vs1,Z1)->(w6z r ks ns ifs vs1 Z1=some (false,Z2)->some ((vs1,b),Z2)=some q->P)/\(w6z r ks ns ifs vs1 Z1=some (true,Z2)->j3b r ks ns emit gs vs1 b Z2=some q->P)):P:=
 q0e h λ vs1 Z1 f1 h=>q0e h λ ok Z2 f2 h=>match ok,f2,h with
  | false,f2,h=>(k vs1 Z1 Z2 f1).1 f2 h
  | true,f2,h=>(k vs1 Z1 Z2 f1).2 f2 (by rcases gs<;>exact h)
section
def k3m (Q:Acc β cx) (A:Around) (r:Ev) (ks:Kinds) (ns:tL) (cenv:Env) (D:Addr) (e:Expr) (emit:Vs->β->Store->Option (β×Store)) (depth:Nat) (o:Option Comprehension) (gs:List Comprehension):Prop:=
 ∀(k:Sem PySem.Fin) {P:PySem.Fin->Shared->Prop} {E:Value->Shared->Prop} {g0 s0 vs b Z q g s},Cs Q ks ns cenv D g0 s0 vs b Z g s->j3b r ks ns emit gs vs b Z=some q->
  (∀g' s',Stp [cenv.locals,D] g s g' s'->Cs Q ks ns cenv D g0 s0 q.1.1 q.1.2 q.2 g' s'->tw k P E s')->tw (deeper e depth (.ref D) cenv k o) P E s
def k3n (Q:Acc β cx) (A:Around) (r:Ev) (ks:Kinds) (ns:tL) (cenv:Env) (D:Addr) (e:Expr) (emit:Vs->β->Store->Option (β×Store)) (depth:Nat) (target:Expr) (ifs:List Expr) (gs:List Comprehension):Prop:=
 ∀(nx:Nx) {I St Mid src},WK cx A I (goOk src) nx St Mid->goOk src target=true->cenv.locals≠I->(∀x c,IsCF ks x->cenv.cells.lookup x=some c->c≠I)->D≠I->∀{g0 s0},s0.heap.get? I=none->
  ∀k i {b vs Z g s q},Cs Q ks ns cenv D g0 s0 vs b Z g s->St i g s.heap->z4o nx (k9f r ks ns emit gs target ifs) k i (vs,b) Z=some q->
  codeAny cx.M A (.compLoop e depth (.ref I) (.ref D) cenv) (λ z s'=>match z with | .ok _=>∃g',Cs Q ks ns cenv D g0 s0 q.1.1 q.1.2 q.2 g' s' | .error _=>False) s
theorem k6l (R:EvOk cx n r) (hA:AOk n A) (C:IsC cx e gens) (hks:∀x,ks.lookup x≠some .cell) (hD:D≠cenv.locals) (hg:gens[depth]? = some ⟨target,iter,ifs,0⟩) (H:k3m Q A r ks ns cenv D e emit depth gens[depth+1]? gs) :
  k3n Q A r ks ns cenv D e emit depth target ifs gs:=by
 intro nx I St Mid src W hgo p1 p2 hDI g0 s0 hI k
 have p3:I∉[cenv.locals]:=λ h=>p1 (zF h).symm
 induction k with
 | zero=>exact λ i b vs Z g s q c st e'=>nope e'
 | succ k ih=>
  intro i b vs Z g s q c st e'
  refine codeAny_of_tree ?_
  simp only[C.und,C.den]
  refine wpAny_noted ?_
  simp only[C.turn hg]
  refine tG (wpAny_standAt ?_)
  refine j6t e' (λ hnx hq=>tG (W.doneK c.inv st hnx λ s₁ a1 i1=>tJ ⟨g,hq▸c.it hI p1 p2 hDI a1 i1⟩))
   λ y b1 Z1 hnx hf hl=>tG (W.nextK c.inv st hnx λ u g1 s₁ a1 i1 r1 md=>tG (W.goK i1 md hgo r1 λ s₂ a2 i2 st2=>?_))
  have c2:=(c.it hI p1 p2 hDI a1 i1).it hI p1 p2 hDI a2 i2
  refine v4l hf λ vs1 Z1 Z2 f1=>?_
  have st4:∀{g3 s3 g4 s4 Z1 Z2},Stp (ownK ks cenv) g1 s₂ g3 s3->Inv cx g3 Z1 s3->Stp [] g3 s3 g4 s4->Inv cx g4 Z2 s4->St (i+1) g4 s4.heap:=λ a3 i3 a4 i4=>W.frame (W.frame st2 a3 i2 i3 (by rw[z1r hks];exact p3)) a4 i3 i4 List.not_mem_nil
  constructor
  ·refine λ f2 h=>tG (z0m R.a hA i2 c2.er f1 r1 λ g3 s3 a3 i3 E3=>tG (PB.thenE (z2y R.t hA i3 E3 f2) λ g4 s4 a4 i4=>?_))
   obtain⟨rfl,rfl⟩:=Prod.mk.inj (zE h)
   exact tJ ⟨C.quiet ..,ih (i+1) ((c2.set hD (z1r (cenv:=cenv) hks▸a3) i3 E3).go a4 i4) (st4 a3 i3 a4 i4) hl⟩
  ·refine λ f2 h=>tG (z0m R.a hA i2 c2.er f1 r1 λ g3 s3 a3 i3 E3=>tG (PB.thenE (z2y R.t hA i3 E3 f2) λ g4 s4 a4 i4=>?_))
   exact H _ ((c2.set hD (z1r (cenv:=cenv) hks▸a3) i3 E3).go a4 i4) h λ g5 s5 a5 c5=>tJ ⟨C.quiet ..,ih (i+1) c5 (W.frame (st4 a3 i3 a4 i4) a5 i4 c5.inv λ m=>(List.mem_cons.mp m).elim (λ z=>p1 z.symm) λ m=>hDI (zF m).symm) hl⟩
theorem k9l (hem:Emits Q A ks ns cenv D e emit) (hD:D≠cenv.locals) (hcD:∀x cc,cenv.cells.lookup x=some cc->cc≠D):k3m Q A r ks ns cenv D e emit depth none []:=λ J J J J J J J J J J J c h k=>by
 obtain⟨o,ho⟩:=c.there
 refine q0e h λ acc Z1 f h=>?_
 obtain rfl:=zE h
 (refine tG (wpAny_mono (hem f c.inv c.er c.acc c.out.1 c.out.2) (λ J s' zz0=>?_) λ J J x=>x.elim);rcases _:zz0 with⟨g',a,i,q,o'⟩)
 have a':Stp [cenv.locals,D] _ _ g' s':=a.wider λ J m=>zG _ m
 exact k g' s' a' ⟨c.stp.trans a',i,c.er.step a (λ m=>hD (zF m).symm) (λ x cc J hx m=>hcD x cc hx (zF m)),q,⟨a.new _ _ ho c.out.1,a.newI _ _ ho c.out.2⟩,o'⟩
theorem z7o {it:Value} {k:Sem PySem.Fin} {gg:Comprehension} (h0:gg.is_async=0) (h:q1j gg.iter=true) :
  deeper e depth it cenv k (some gg)=(eval gg.iter cenv >>= λ x=>standAt gg.iter.pos >>= λ J=>holding [x] (pyIter x) >>= λ i=>runOwn (.compStart e (depth+1) i it cenv) cenv >>= λ J=>k):=by
 dsimp only[deeper]
 simp only[h0,bne_self_eq_false,Bool.false_eq_true,if_false,set_plain h,pure_bind]
theorem k4r (R:EvOk cx n r) (hA:AOk n A) (C:IsC cx e gens) {gg:Comprehension} (hg:gens[depth+1]? = some gg) (h0:gg.is_async=0) (L:k3n Q A r ks ns cenv D e emit (depth+1) gg.target gg.ifs gs) :
  k3m Q A r ks ns cenv D e emit depth (some gg) (gg::gs):=λ k P E g0 s0 vs b Z q g s c h kk=>by
 refine q0e h λ w Z3 f3 h=>q0k h λ hpl h=>?_
 rw[z0v]at h
 refine ifNo h λ hgo2 h=>?_
 rcases _:k8s h with⟨nx2,k2,hnx2,hl2⟩
 rw[z7o h0 hpl]
 refine tG (PX.thenE (R.e f3 hA c.inv c.er) λ uw g5 s5 a5 i5 r5=>tG (wpAny_standAt ?_))
 have c5:=c.go a5 i5
 refine tG (wpAny_holding (wpAny_mono (z7y hA i5 r5 hnx2) ?_ λ J J x=>x.elim))
 rintro _ s6 ⟨I2,St2,Mid2,rfl,hI2,a6,i6,W2,st26⟩
 have c6:=c5.go a6 i6
 obtain⟨od,hod⟩:=c5.there
 rcases _:w0n c5.er hI2 with⟨q1,q2,_⟩
 have inner:=L _ W2 (by simpa using hgo2) q1 q2 (λ z=>by simp only[z,hI2]at hod;contradiction) hI2 k2 0 (g0:=g5) (s0:=s5) ⟨a6.own,i6,c6.er,c6.acc,c6.out,c6.there⟩ st26 hl2
 refine tG (wpAny_runOwn ?_)
 refine codeAny_mono (w2y C hg h0 inner (W2.self st26 inner)) λ z s7 h7=>?_
 induction z with
 | error=>exact h7.elim
 | ok=>
  obtain⟨g7,c7⟩:=h7
  exact kk g7 s7 (a5.own.trans c7.stp) ⟨c5.stp.trans c7.stp,c7.inv,c7.er,c7.acc,c7.out,c7.there⟩
theorem k4p (R:EvOk cx n r) (hA:AOk n A) (C:IsC cx e gens) (hem:Emits Q A ks ns cenv D e emit) (hks:∀x,ks.lookup x≠some .cell) (hD:D≠cenv.locals) (hcD:∀x cc,cenv.cells.lookup x=some cc->cc≠D) :
  ∀(gs:List Comprehension) (depth:Nat) (target iter:Expr) (ifs:List Expr),gens.drop depth=⟨target,iter,ifs,0⟩::gs->(∀g∈gs,g.is_async=0)->k3n Q A r ks ns cenv D e emit depth target ifs gs:=by
 intro gs
 induction gs with
 | nil=>
  intro depth target iter ifs hd _
  have hg:gens[depth]? = some ⟨target,iter,ifs,0⟩:=by rw[<-List.head?_drop,hd];rfl
  have hg':gens[depth+1]? = none:=by rw[<-List.head?_drop,<-List.tail_drop,hd];rfl
  exact k6l R hA C hks hD hg (by simp only[hg'];exact k9l hem hD hcD)
 | cons gg gs ih=>
  intro depth target iter ifs hd has
  have hg:gens[depth]? = some ⟨target,iter,ifs,0⟩:=by rw[<-List.head?_drop,hd];rfl
  have hg':gens[depth+1]? = some gg:=by rw[<-List.head?_drop,<-List.tail_drop,hd];rfl
  have h0:=has gg zL
  refine k6l R hA C hks hD hg (by
   simp only[hg']
   refine k4r R hA C hg' h0 (ih (depth+1) gg.target gg.iter gg.ifs ?_ λ g m=>has g (zG _ m))
   rw[<-List.tail_drop,hd];show gg::gs=_;rcases gg;subst h0;exact rfl)
end
end
noncomputable def clOf (env:Env):List (Str×NameKind)->List (Str×Addr)->Option (List (Str×Addr))
 | [],acc=>some acc
 | (n,k)::r,acc=>if k==.free then(match env.cells.lookup n with|some c=>clOf env r ((n,c)::acc)|none=>none)else clOf env r acc
set_option tactic.hygienic true in theorem k1u {sc:Scope} {env:Env} {cl:List (Str×Addr)} (h:clOf env sc.names []=some cl):closureFor sc env=pure cl:=by
 have key:∀(names:List (Str×NameKind)) (acc cl:List (Str×Addr)),clOf env names acc=some cl->
   (forIn names acc λ(x:Str×NameKind) cs=>match x with|(name,kind)=>if(kind==NameKind.free)=true then do let c <-cellOf env name;pure (ForInStep.yield ((name,c)::cs))else pure (ForInStep.yield cs):Sem (List (Str×Addr)))=pure cl:=by
  intro names
  induction names with
  | nil=>intro acc cl h;obtain rfl:=zE h;rfl
  | cons p r ih=>
   obtain⟨n,k⟩:=p
   intro acc cl h
   simp only[List.forIn_cons]
   unfold clOf at h
   split at h
   ·rename_i hk
    split at h
    ·rename_i c hc
     simp only[hk,if_true]
     unfold cellOf
     rw[hc]
     exact ih _ _ h
    ·contradiction
   ·rename_i hk
    simp only[hk,Bool.false_eq_true,if_false,pure_bind]
    exact ih _ _ h
 dsimp only[closureFor]
 have:=key sc.names [] cl h
 simp only[bind_pure]
 first|exact this|simpa using this
set_option tactic.hygienic true in theorem q2x {env:Env}:∀{names:List (Str×NameKind)} {acc cl:List (Str×Addr)},clOf env names acc=some cl->∀x c,cl.lookup x=some c->acc.lookup x=some c\/((x,NameKind.free)∈names/\env.cells.lookup x=some c)
 | [],acc,cl,h,x,c,e=>by obtain rfl:=zE h;exact .inl e
 | (n,k)::r,acc,cl,h,x,c,e=>by
  unfold clOf at h
  split at h
  ·rename_i hk
   split at h
   ·rename_i d hd
    rcases q2x h x c e with q|⟨q1,q2⟩
    ·simp only[List.lookup_cons]at q
     split at q
     ·rename_i hx
      obtain rfl:=zE q
      rw[beq_iff_eq]at hx hk
      subst hx hk
      exact .inr ⟨by simp,hd⟩
     ·exact .inl q
    ·exact .inr ⟨by simp[q1],q2⟩
   ·contradiction
  ·rcases q2x h x c e with q|⟨q1,q2⟩
   ·exact .inl q
   ·exact .inr ⟨by simp[q1],q2⟩
theorem z0s {env:Env}:∀{names:List (Str×NameKind)} {acc cl:List (Str×Addr)},clOf env names acc=some cl->∀x,(acc.lookup x).isSome=true->(cl.lookup x).isSome=true
 | [],acc,cl,h,x,e=>by obtain rfl:=zE h;exact e
 | (n,k)::r,acc,cl,h,x,e=>by
  unfold clOf at h
  split at h
  ·split at h
   ·refine z0s h x ?_
    simp only[List.lookup_cons]
    split
    ·rfl
    ·exact e
   ·contradiction
  ·exact z0s h x e
theorem z0t {env:Env}:∀{names:List (Str×NameKind)} {acc cl:List (Str×Addr)},clOf env names acc=some cl->∀x,(x,NameKind.free)∈names->(cl.lookup x).isSome=true
 | (n,k)::r,acc,cl,h,x,e=>by
  unfold clOf at h
  rcases List.mem_cons.mp e with q|q
  ·rcases q
   rw[if_pos (by rfl)]at h
   split at h
   ·exact z0s h _ (by simp)
   ·contradiction
  ·split at h
   ·split at h
    ·exact z0t h x q
    ·contradiction
   ·exact z0t h x q
set_option tactic.hygienic true in theorem w4t {env:Env}:∀{names:List (Str×NameKind)} {acc:List (Str×Addr)},(∀x,(x,NameKind.free)∈names->∃c,env.cells.lookup x=some c)->∃cl,clOf env names acc=some cl
 | [],acc,_=>⟨acc,rfl⟩
 | (n,k)::r,acc,h=>by
  dsimp only[clOf]
  split
  ·rename_i hk
   rw[beq_iff_eq]at hk
   subst hk
   obtain⟨c,hc⟩:=h n (by simp)
   rw[hc]
   exact w4t λ x hx=>h x (by simp[hx])
  ·exact w4t λ x hx=>h x (by simp[hx])
set_option tactic.hygienic true in theorem w7n {sc:Scope} {env:Env} (x:Str):KR (sc.names.lookup x) ((relabel sc env).names.lookup x):=by
 show KR (sc.names.lookup x) ((sc.names.map λ(n,k)=>if(k==.free&&env.scope.kind==.function&&env.kindOf n==some .cell)then(n,NameKind.cell)else(n,k)).lookup x)
 induction sc.names with
 | nil=>exact .inl rfl
 | cons p r ih=>
  obtain⟨n,k⟩:=p
  rw[List.map_cons]
  simp only
  split
  ·rename_i hc
   simp only[List.lookup_cons,List.lookup_cons]
   split
   ·simp only[Bool.and_eq_true,beq_iff_eq]at hc
    exact .inr ⟨by rw[hc.1.1],rfl⟩
   ·exact ih
  ·simp only[List.lookup_cons,List.lookup_cons]
   split
   ·exact .inl rfl
   ·exact ih
section
variable {T:Tab}
structure w9e (ks:Kinds) (sc:Scope):Prop where
 kind:sc.kind = .function
 nodup:(sc.names.map (·.1)).Nodup
 names:∀p∈sc.names,p.2 = .local\/p.2 = .globalImplicit\/(p.2 = .free/\(ks.lookup p.1=some .cell\/ks.lookup p.1=some .free))
 lam:sc.names.lookup ("resolved_names" : Str)=none
theorem z3k {sc:Scope} (h:z9u ks sc=true):w9e ks sc:=by
 unfold z9u at h
 simp only[Bool.and_eq_true,decide_eq_true_eq,beq_iff_eq,List.all_eq_true,Bool.or_eq_true]at h
 refine⟨h.1.1.1,h.1.2,λ p hp=>?_,by simpa using h.1.1.2⟩
 have:=h.2 p hp
 rcases this with(h1|h1)|⟨h1,h2⟩
 ·exact .inl h1
 ·exact .inr (.inl h1)
 ·exact .inr (.inr ⟨h1,h2⟩)
theorem q4l {names:List (Str×NameKind)} (h:(names.map (·.1)).Nodup) {x:Str} {k:NameKind} (hm:(x,k)∈names):names.lookup x=some k:=by
 induction names with
 | nil=>simp at hm
 | cons p r ih=>
  obtain⟨n,k'⟩:=p
  simp only[List.map_cons,List.nodup_cons]at h
  simp only[List.lookup_cons]
  rcases List.mem_cons.mp hm with q|q
  ·rcases q;simp
  ·have:(x==n)=false:=by
    rw[beq_eq_false_iff_ne];intro z;subst z;exact h.1 (List.mem_map.mpr ⟨(x,k),q,rfl⟩)
   rw[this];exact ih h.2 q
theorem k6n {names:List (Str×NameKind)} {x:Str}:x∈q0m names↔(x,NameKind.local)∈names:=by
 dsimp only[q0m]
 simp only[List.mem_map,List.mem_filter,beq_iff_eq,Prod.exists]
 constructor
 ·rintro⟨a,b,⟨h1,h2⟩,rfl⟩;subst h2;exact h1
 ·intro h;exact⟨x,.local,⟨h,rfl⟩,rfl⟩
theorem k6h {cn:tL} (hx:x∉cn):q6n (cn++ns) (cn.map (λ J=>none)++vs) x=q6n ns vs x:=by
 unfold q6n
 rw[List.idxOf_append,if_neg hx,List.getElem?_append_right (by simp)]
 simp
theorem k9k {sc:Scope} {cl:List (Str×Addr)} {C:Addr} {cenv:Env} (K:w9e ks sc) (E:ER cx ks ns env g vs s) (hcl:clOf env sc.names []=some cl) (hC:s.heap.get? C=none\/True)
  (e1:cenv.scope=relabel sc env) (e2:cenv.locals=C) (e3:cenv.globals=env.globals) (e4:cenv.cells=cl) (e5:cenv.builtins=env.builtins) (e6:cenv.code=env.code)
  (hn:∃m,s'.heap.Ns C m) (hk:∀b o,s.heap.get? b=some o->s'.heap.get? b=some o) (h1:C∉g.ρ) (h2:g.I C=none) (h3:∀b o,s.heap.get? b=some o->b≠C) :
  ER cx sc.names (q0m sc.names++ns) cenv g ((q0m sc.names).map (λ J=>none)++vs) s':=by
 have out:∀x,sc.names.lookup x=some .free->x∉q0m sc.names:=λ x hx hm=>by
  rw[q4l K.nodup (k6n.mp hm)]at hx;contradiction
 have own:∀x,sc.names.lookup x=some .local->x∈q0m sc.names:=λ x hx=>k6n.mpr (mem_of_lookup hx)
 have noCell:∀x,sc.names.lookup x≠some .cell:=λ x hx=>by
  rcases K.names _ (mem_of_lookup hx)with h|h|⟨h,_⟩<;>contradiction
 obtain⟨m,hm⟩:=hn
 refine⟨?_,by rw[e3];exact E.gl,by rw[e5];exact E.bl,⟨by simp only[e6];exact E.code.1,λ h=>by rw[K.lam]at h;exact Bool.noConfusion h⟩,by simp[E.len],λ x=>?_,λ x hx=>?_,⟨m,by rw[e2];exact hm,λ x v hx hv=>?_⟩,by rw[e2];exact⟨h1,h2⟩,λ x hx=>?_,λ x y c hx hy=>?_⟩
 ·rw[e1];exact K.kind
 ·show KR _ (cenv.scope.names.lookup x);rw[e1];exact w7n x
 ·rcases hx with hx|hx
  ·exact List.mem_append_left _ (own x hx)
  ·exact absurd hx (noCell x)
 ·exfalso
  have hx':=own x hx
  unfold q6n at hv
  rw[List.idxOf_append,if_pos hx',List.getElem?_append_left (by simpa using w4a hx')]at hv
  rw[List.getElem?_map,List.getElem?_eq_getElem (w4a hx')]at hv
  trivial
 ·rcases hx with hx|hx
  ·exact absurd hx (noCell x)
  ·have hmem:=mem_of_lookup hx
   obtain⟨c,hc⟩:=Option.isSome_iff_exists.mp (z0t hcl x hmem)
   rcases q2x hcl x c hc with q|⟨_,q⟩
   ·trivial
   ·rcases K.names _ hmem with h|h|⟨_,h⟩
    ·contradiction
    ·contradiction
    ·obtain⟨c',hc',c1,c2,c3,o,co,cv⟩:=E.cel x h
     rw[q]at hc';obtain rfl:=zE hc'
     obtain⟨oc,hoc⟩:=q3f co
     refine⟨c,by rw[e4];exact hc,c1,c2,by simp only[e2];exact h3 _ _ hoc,o,co.keeps hk,λ v hv=>?_⟩
     rw[k6h (out x hx)]at hv
     exact cv v hv
 ·rw[e4]at hx hy
  rcases _:q2x hcl x c hx with q|⟨_,q⟩
  ·trivial
  ·rcases q2x hcl y c hy with q' | ⟨_,q'⟩
   ·trivial
   ·exact E.apart x y c q q'
theorem Stp.fresh {own:List Addr} (a:Stp own g s g' s') (h:∀b∈own,s.heap.get? b=none):Stp [] g s g' s':=
 ⟨a.le,a.toks,λ b o e p J=>a.keep b o e p λ q=>(by rw[h b q]at e;contradiction),a.new,a.newI,a.stay,a.gens,a.os⟩
structure CFin (Q:Acc β cx) (ks:Kinds) (ns:tL) (env:Env) (g:G) (s:Shared) (vs:Vs) (b:β) (Z:Store) (D C:Addr) (g':G) (s':Shared):Prop where
 nsp:∃m,s'.heap.Ns C m
 stp:Stp [] g s g' s'
 inv:Inv cx g' Z s'
 er:ER cx ks ns env g' vs s'
 acc:Q.R g' s'.heap D b
 outD:D∉g'.ρ/\g'.I D=none/\s.heap.get? D=none
 outC:C∉g'.ρ/\g'.I C=none/\s.heap.get? C=none
 ne:D≠C
 there:∃o,s'.heap.get? D=some o
inductive j8v (cx:Cx) (A:Around) (g:G) (Z:Store) (s:Shared) (target:Expr) (F:AV->Vs×β->Store->Option ((Vs×β)×Store)) (b:Vs×β) (good:β->Store->Prop) (it:Value) (s':Shared):Prop
 | mk (v:AV) (nx:Nx) (k:Nat) (vsc:Vs) (b':β) (Z':Store) (g':G) (I:Addr) (St:Nat->G->Heap->Prop) (Mid:Nat->G->Heap->Value->Prop) (e:it = .ref I) (h:s.heap.get? I=none) (a:Stp [] g s g' s') (i:Inv cx g' Z s') (W:WK cx A I (goOk v) nx St Mid) (st:St 0 g' s'.heap)
   (ho:goOk v target=true) (hl:z4o nx F k 0 b Z=some ((vsc,b'),Z')) (hg:good b' Z')
theorem w9i {Q:Acc β cx} (R:EvOk cx n r) (hA:AOk n A) {e:Expr} {gens gs:List Comprehension} (C:IsC cx e gens) {target iter:Expr} {ifs:List Expr} (hgens:gens=⟨target,iter,ifs,0⟩::gs) (has:∀g∈gs,g.is_async=0)
  {sc:Scope} (K:w9e ks sc) {emit:Vs->β->Store->Option (β×Store)} {b0:β} {w:AV} {Z1:Store} {newAcc:Sem Value} {ao:Obj} {use:Option (Value->Sem Unit)} {pos:Pos} {P:Value->Shared->Prop} {good:β->Store->Prop}
  (hp:q1j iter=true) (e1:r.e ks ns iter vs Z=some (w,Z1))
  (hit:∀{g1 s₁ u1},Inv cx g1 Z1 s₁->VR cx g1 w u1->tw (pyIter u1) (j8v cx A g1 Z1 s₁ target (k9f r sc.names (q0m sc.names++ns) emit gs target ifs) ((q0m sc.names).map (λ J=>none)++vs,b0) good) NoE s₁)
  (hnew:∀{s:Shared} {P:Value->Shared->Prop},P (.ref tH) { s with heap:=s.heap.push ao }->tw newAcc P NoE s) (hfr:ao.isFreed=false) (hmod:∃b o,sysModules<=b/\cx.h₀.get? b=some o) (hq:∀g h D,h.get? D=some ao->(D==sysModules)=false->Q.R g h D b0)
  (hem:∀cenv D,Emits Q A sc.names (q0m sc.names++ns) cenv D e emit) (i:tI) (E:ER cx ks ns env g vs s)
  (fin:∀b' Z',good b' Z'->∀g' s' D C,CFin Q ks ns env g s vs b' Z' D C g' s'->match use with
   | none=>∀h',Heap.SameBut C s'.heap h'->P (.ref D) { s' with heap:=h' }
   | some u=>tw (u (.ref D)) (λ J s''=>∃m,s''.heap.Ns C m/\∀h',Heap.SameBut C s''.heap h'->P .none { s'' with heap:=h' }) NoE s') :
  tw (comprehension e sc env pos newAcc false (eval iter env) use) P NoE s:=by
 have noCell:∀x,sc.names.lookup x≠some .cell:=λ x hx=>by
  rcases K.names _ (mem_of_lookup hx)with h|h|⟨h,_⟩<;>contradiction
 obtain⟨cl,hcl⟩:=w4t (env:=env) (names:=sc.names) (acc:=[]) λ x hx=>by
  rcases K.names _ hx with h|h|⟨_,h⟩
  ·contradiction
  ·contradiction
  ·obtain⟨c,hc,_⟩:=E.cel x h;exact⟨c,hc⟩
 have hs:∀x,foldedSetIterable iter env x=pure x:=set_plain hp
 refine wpAny_comprehension_free (g:=⟨target,iter,ifs,0⟩) (gs:=gs) (by simp only[C.clauses,hgens]) hs (k1u hcl) K.kind (λ x hx hl=>q4l K.nodup (by rw[<-hl];exact hx)) ?_
 refine q0r R.e hA i E e1 λ g1 s₁ u1 a1 i1 E1 r1=>?_
 refine wpAny_mono (hit i1 r1) ?_ λ J J x=>x
 rintro _ s₂ ⟨v0,nx,k,vsc,b',Z',g2,I,St,Mid,rfl,hI,a2,i2,W,st,hgo,hl,hgood⟩
 obtain⟨oI,hoI⟩:=W.there st
 refine hnew ?_
 refine wpAny_newFunctionEnv (λ x hx hc=>noCell x.1 (q4l K.nodup (by rw[<-hc];exact hx))) (by intro x hx;simp at hx) (λ h1 hns hsb=>?_) K.kind
 dsimp only at hns hsb ⊢
 generalize hD:s₂.heap.objs.size=D at hns hsb ⊢
 generalize hH:s₂.heap.push ao=H at hns hsb ⊢
 generalize hCC:H.objs.size=CC at hns hsb ⊢
 have hDC:D≠CC:=by rw[<-hCC,<-hH,Heap.size_push,hD];exact Nat.ne_of_lt (Nat.lt_succ_self _)
 have below:∀b o,s₂.heap.get? b=some o->b≠D/\b≠CC:=λ b o e=>by
  have:=Heap.lt_size e
  rw[<-hCC,<-hH,Heap.size_push]
  rw[hD]at this ⊢
  exact⟨Nat.ne_of_lt this,Nat.ne_of_lt (Nat.lt_succ_of_lt this)⟩
 have keep:∀b o,s₂.heap.get? b=some o->h1.get? b=some o:=λ b o e=>hsb.extBut b o (below b o e).2 (Heap.get?_push_of_some _ (by rw[<-hH];exact Heap.get?_push_of_some _ e))
 have hDo:h1.get? D=some ao:=hsb.extBut D _ hDC (Heap.get?_push_of_some _ (by rw[<-hH,<-hD];exact Heap.get?_push_size _ hfr))
 have nD:s₂.heap.get? D=none:=by rw[<-hD];exact q0f s₂
 have hDm:(D==sysModules)=false:=by
  rcases _:hmod with⟨b,o,hb,ho⟩
  have:=Heap.lt_size (i2.sub _ _ (i2.base _ _ ho))
  simp only[hD]at this
  exact beq_false_of_ne (Nat.ne_of_gt (jJ hb this))
 have nC:s₂.heap.get? CC=none:=by
  cases q:s₂.heap.get? CC with
  | none=>rfl
  | some o=>exact absurd rfl (below _ _ q).2
 obtain⟨fD1,fD2⟩:=i2.fresh nD
 obtain⟨fC1,fC2⟩:=i2.fresh nC
 have ht:s₂.toks<=s₂.toks+([]:tV).length:=jZ _
 have a3:Stp [] g2 s₂ g2 { s₂ with heap:=h1,toks:=s₂.toks+([]:tV).length }:=.keeps ht keep
 have i3:Inv cx g2 Z1 { s₂ with heap:=h1,toks:=s₂.toks+([]:tV).length }:=i2.keep ht keep
 have E2:=E1.go a2
 have st3:=W.frame st a3 i2 i3 (by simp)
 have n1:∀{b},s₂.heap.get? b=none->s₁.heap.get? b=none:=λ{b} h=>by
  generalize q:s₁.heap.get? b=zzy
  induction zzy with
  | none=>rfl
  | some o=>obtain⟨o',e'⟩:=a2.stay _ _ q;rw[h]at e';contradiction
 have n0:∀{b},s₁.heap.get? b=none->s.heap.get? b=none:=λ{b} h=>by
  cases q:s.heap.get? b with
  | none=>rfl
  | some o=>obtain⟨o',e'⟩:=a1.stay _ _ q;rw[h]at e';contradiction
 have hcellsI:∀x c,IsCF ks x->env.cells.lookup x=some c->c≠I/\∃o,s₂.heap.get? c=some o:=λ x c k hc=>by
  obtain⟨c',hc',_,_,_,o,co,_⟩:=E2.cel x k
  rw[hc]at hc';obtain rfl:=zE hc'
  obtain⟨oc,hoc⟩:=q3f co
  refine⟨λ z=>?_,oc,hoc⟩
  exact(w0n E1 hI).2.1 x c k hc z
 have hclc:∀x c,cl.lookup x=some c->c≠I/\c≠D:=λ x c hx=>by
  rcases q2x hcl x c hx with q|⟨hm,q⟩
  ·trivial
  ·rcases K.names _ hm with h|h|⟨_,h⟩
   ·contradiction
   ·contradiction
   ·obtain⟨z1,o,ho⟩:=hcellsI x c h q
    exact⟨z1,(below _ _ ho).1⟩
 have hIC:I≠CC:=(below _ _ hoI).2
 have hID:I≠D:=(below _ _ hoI).1
 have body:∀cenv:Env,cenv.scope=relabel sc env->cenv.locals=CC->cenv.globals=env.globals->cenv.cells=cl->cenv.builtins=env.builtins->cenv.code=env.code->
   codeAny cx.M A (.compStart e 0 (.ref I) (.ref D) cenv) (compPost cx.M A NoE use P (.ref D) CC) { s₂ with heap:=h1,toks:=s₂.toks+([]:tV).length }:=by
  intro cenv q1 q2 q3 q4 q5 q6
  have Ec:ER cx sc.names (q0m sc.names++ns) cenv g2 ((q0m sc.names).map (λ J=>none)++vs) { s₂ with heap:=h1,toks:=s₂.toks+([]:tV).length }:=
   k9k K E2 hcl (.inr trivial) q1 q2 q3 q4 q5 q6 ⟨_,hns⟩ keep fC2 fC1 λ b o e=>(below b o e).2
  have A3:Stp [cenv.locals,D] g1 s₁ g2 { s₂ with heap:=h1,toks:=s₂.toks+([]:tV).length }:=(a2.trans a3).own
  have c0:Cs Q sc.names (q0m sc.names++ns) cenv D g1 s₁ ((q0m sc.names).map (λ J=>none)++vs) b0 Z1 g2 { s₂ with heap:=h1,toks:=s₂.toks+([]:tV).length }:=
   ⟨A3,i3,Ec,hq _ _ _ hDo hDm,⟨fD2,fD1⟩,_,hDo⟩
  have inner:=k4p R hA C (hem cenv D) noCell (by simp only[q2];exact hDC) (λ x cc hx=>by rw[q4]at hx;exact(hclc x cc hx).2) gs 0 target iter ifs (by rw[hgens];rfl) has nx W hgo (by rw[q2];exact hIC.symm) (λ x c J hx=>by rw[q4]at hx;exact(hclc x c hx).1) hID.symm hI k 0 c0 st3 hl
  refine codeAny_mono (w2y C (by rw[hgens];rfl) rfl inner (W.self st3 inner)) ?_
  rintro(ee|f) s' h
  ·exact h.elim
  ·obtain⟨g',c⟩:=h
   have hnC:∃m,s'.heap.Ns CC m:=by obtain⟨m,hm,_⟩:=c.er.loc;rw[q2]at hm;exact⟨m,hm⟩
   have hst:Stp [] g s g' s':=a1.trans (c.stp.fresh λ b hb=>by
    rw[q2]at hb
    rcases List.mem_cons.mp hb with rfl|hb
    ·exact n1 nC
    ·rw[zF hb];exact n1 nD)
   have hEr:ER cx ks ns env g' vs s':=E.go hst
   have F:CFin Q ks ns env g s vs b' Z' D CC g' s':=⟨hnC,hst,c.inv,hEr,c.acc,⟨c.out.1,c.out.2,n0 (n1 nD)⟩,⟨by have:=c.er.locA.1;rwa [q2]at this,by have:=c.er.locA.2;rwa [q2]at this,n0 (n1 nC)⟩,hDC,c.there⟩
   have:=fin _ _ hgood g' s' D CC F
   induction use with
   | none=>exact⟨_,hnC.choose_spec,this⟩
   | some u=>exact this
 exact body _ rfl rfl rfl rfl rfl rfl
theorem z3l {Q:Acc β cx} (R:EvOk cx n r) (hA:AOk n A) {e:Expr} {gens gs:List Comprehension} (C:IsC cx e gens) {target iter:Expr} {ifs:List Expr} (hgens:gens=⟨target,iter,ifs,0⟩::gs) (has:∀g∈gs,g.is_async=0)
  {sc:Scope} (K:w9e ks sc) {emit:Vs->β->Store->Option (β×Store)} {b0 b':β} {vsc:Vs} {w:AV} {Z1:Store} {newAcc:Sem Value} {ao:Obj} {use:Option (Value->Sem Unit)} {pos:Pos} {P:Value->Shared->Prop}
  (hp:q1j iter=true) (e1:r.e ks ns iter vs Z=some (w,Z1))
  (e2:z0u r sc.names (q0m sc.names++ns) emit gs target ifs w ((q0m sc.names).map (λ J=>none)++vs,b0) Z1=some ((vsc,b'),Z'))
  (hnew:∀{s:Shared} {P:Value->Shared->Prop},P (.ref tH) { s with heap:=s.heap.push ao }->tw newAcc P NoE s) (hfr:ao.isFreed=false) (hmod:∃b o,sysModules<=b/\cx.h₀.get? b=some o) (hq:∀g h D,h.get? D=some ao->(D==sysModules)=false->Q.R g h D b0)
  (hem:∀cenv D,Emits Q A sc.names (q0m sc.names++ns) cenv D e emit) (i:tI) (E:ER cx ks ns env g vs s)
  (fin:∀g' s' D C,CFin Q ks ns env g s vs b' Z' D C g' s'->match use with
   | none=>∀h',Heap.SameBut C s'.heap h'->P (.ref D) { s' with heap:=h' }
   | some u=>tw (u (.ref D)) (λ J s''=>∃m,s''.heap.Ns C m/\∀h',Heap.SameBut C s''.heap h'->P .none { s'' with heap:=h' }) NoE s') :
  tw (comprehension e sc env pos newAcc false (eval iter env) use) P NoE s:=by
 refine w9i (good:=λ b Z=>b=b'/\Z=Z') R hA C hgens has K hp e1 (λ{g1 s₁ u1} i1 r1=>?_) hnew hfr hmod hq hem i E λ b1 Z2 hg g' s' D C F=>?_
 ·rw[z0v]at e2
  refine ifNo e2 λ hgo e2=>?_
  obtain⟨nx,k,hnx,hl⟩:=k8s e2
  exact wpAny_mono (z7y hA i1 r1 hnx) (λ it s₂ ⟨I,St,Mid,e,hI,a2,i2,W,st⟩=>⟨_,nx,k,vsc,b',Z',g1,I,St,Mid,e,hI,a2,i2,W,st,by simpa using hgo,hl,rfl,rfl⟩) λ J J x=>x
 ·have q:=fin g' s' D C (by rw[<-hg.1,<-hg.2];exact F)
  induction use with
  | none=>exact q
  | some u=>exact q
inductive AccL (cx:Cx) (g:G) (h:Heap) (D:Addr) (b:tW):Prop
 | mk (us:tU) (p:h.PlainList D us.toArray) (r:VRs cx g b us) (z:b.length<=sizeLine)
inductive AccD (cx:Cx) (g:G) (h:Heap) (D:Addr) (b:tC):Prop
 | mk (us:tU) (p:h.DictOf cx.sk D ((b.map (·.1)).zip us)) (r:VRs cx g (b.map (·.2)) us) (q:(D==sysModules)=false) (z:b.length<=sizeLine) (y:∀kv∈b,kv.1.length<=sizeLine)
inductive Made (cx:Cx) (g:G) (s:Shared) (g':G) (s':Shared) (D:Addr) (v:AV) (Z':Store):Prop
 | mk (g'':G) (le:g'.le g'') (a:Stp [] g s g'' s') (i:Inv cx g'' Z' s') (r:VR cx g'' v (.ref D)) (h1:∀c,c≠D->c∉g'.ρ->c∉g''.ρ) (h2:∀c,c≠D->g'.I c=none->g''.I c=none)
def w5m:Acc tW cx where
 R:=AccL cx
 mono:=by rintro g g' h h' D b le k ⟨us,⟨m,e⟩,q,z⟩;exact⟨us,⟨m,k _ e⟩,q.mono le,z⟩
def w4x:Acc tC cx where
 R:=AccD cx
 mono:=by rintro g g' h h' D b le k ⟨us,⟨ob,es,ep,e,r⟩,q,z,y,x⟩;exact⟨us,⟨ob,es,ep,k _ e,r⟩,q.mono le,z,y,x⟩
theorem z3r (R:EOk cx n r.e) (hA:AOk n A) {cenv:Env} {elt:Expr} {gens:List Comprehension} {sc:Scope} {p:Pos} :
  Emits (w5m) A ks ns cenv D (.ListComp elt gens sc p) (z9y r elt ks ns):=by
 intro vs b Z b' Z' g s e i E q h1 h2
 refine q0e e λ w Z1 e1 e=>q0k e λ hz e=>?_
 rw[(q0h e).1,(q0h e).2]
 refine tG (q0r R hA i E e1 λ g1 s₁ u1 a1 i1 E1 r1=>tG ?_)
 rcases _:q with⟨us,⟨m,hm⟩,qs,z⟩
 have hm1:s₁.heap.PlainList D us.toArray:=⟨m,a1.keep _ _ hm h1 (by simp)⟩
 have d1:=a1.new _ _ hm h1
 have d2:=a1.newI _ _ hm h2
 refine wpAny_list_append_plain hm1 (λ h' hp hs=>tJ ?_) (by simp only[List.size_toArray,<-qs.length];exact z)
 have ho:∃o,h'.get? D=some o:=by obtain⟨m',e'⟩:=hp;exact⟨_,e'⟩
 exact⟨g1,a1.own.trans (.write (t:=s₁.toks) (jZ _) (by simp) hs ho),i1.write (t:=s₁.toks) (jZ _) d1 d2 hs,⟨us++[u1],by simpa using hp,(qs.mono a1.le).append (.cons r1 .nil),by simp;assumption⟩,ho⟩
theorem k5e (R:EOk cx n r.e) (hA:AOk n A) {cenv:Env} {kx vx:Expr} {gens:List Comprehension} {sc:Scope} {p:Pos} :
  Emits (w4x) A ks ns cenv D (.DictComp kx vx gens sc p) (k5d r kx vx ks ns):=by
 intro vs b Z b' Z' g s e i E q h1 h2
 refine q0e e λ w Z1 e1 e=>q0e e λ y Z2 e2 e=>optE e λ k h0 e=>q0k e λ hz e=>?_
 ·rw[(q0h e).1,(q0h e).2]
  show wpAny cx.M A (do
   let kv <-eval kx cenv
   let vv <-holding [kv] (eval vx cenv)
   standAt _
   holding [kv,vv] (dictSet D kv vv)) _ _ s
  refine tG (q0r R hA i E e1 λ g1 s₁ u1 a1 i1 E1 r1=>tG (wpAny_holding (q0r R hA i1 E1 e2 λ g2 s₂ u2 a2 i2 E2 r2=>tG (wpAny_standAt (wpAny_holding ?_)))))
  rcases _:q with⟨us,hd,qs,y1,z,kz⟩
  obtain⟨t,rfl,tz⟩:=r1.strV h0
  have a12:=a1.trans a2
  rcases _:hd with⟨ob,es,ep,eo,rest⟩
  have hd2:s₂.heap.DictOf cx.sk D ((b.map (·.1)).zip us):=⟨ob,es,ep,a12.keep _ _ eo h1 (by simp),rest⟩
  have d1:=a12.new _ _ eo h1
  have d2:=a12.newI _ _ eo h2
  have hlen:((b.map (·.1)).zip us).length<=sizeLine:=by have:=qs.length;skip;(simp_all +arith)
  refine wpAny_dictSet_pairs (hsz:=hlen) (strKind_is _ _ k t) hd2 λ h' hp hs=>?_
  rcases _:w1o (k:=k) (qs.mono a12.le) r2 with⟨us',e3,q'⟩
  simp only[e3]at hp
  have ho:∃o,h'.get? D=some o:=by rcases _:hp with⟨ob,es,ep,e',_⟩;exact⟨_,e'⟩
  exact⟨g2,a12.own.trans (.write (t:=s₂.toks+1) (Nat.le_succ _) (by simp) hs ho),i2.write (t:=s₂.toks+1) (Nat.le_succ _) d1 d2 hs,⟨us',hp,q',y1,jH (q3y k b) hz,w0j kz tz⟩,ho⟩
theorem Inv.addCell (i:tI) {a:Addr} {o:AObj} (ho:OR cx (g.cell a) s.heap a o) (h1:a∉g.ρ) (h2:g.I a=none):Inv cx (g.cell a) (Z++[o]) s:=by
 refine⟨i.sub,i.base,by simp[G.cell,i.len],?_,λ b hb=>?_,λ l ob b e q=>?_,i.one,i.tok⟩
 ·show(g.ρ++[a]).Nodup
  rw[List.nodup_append];exact⟨i.nodup,by simp,λ x hx y hy=>by simp at hy;subst hy;exact λ z=>h1 (z▸hx)⟩
 ·rcases _:zK hb with hb|hb
  ·exact i.apart b hb
  ·rw[List.mem_singleton]at hb;subst hb;exact h2
 ·by_cases hl:l<Z.length
  ·rw[List.getElem?_append_left hl]at e
   have q':g.ρ[l]? = some b:=by
    have:(g.ρ++[a])[l]? = some b:=q
    rwa [List.getElem?_append_left (by simp only[i.len];exact hl)]at this
   exact(i.cells l ob b e q').mono (G.cell_le g a) λ J e=>e
  ·have hl':l=Z.length:=by
    have:=(List.getElem?_eq_some_iff.mp e).1
    rw[zI]at this
    exact Nat.le_antisymm (Nat.le_of_lt_succ this) (Nat.le_of_not_lt hl)
   subst hl'
   simp at e;subst e
   have:(g.ρ++[a])[Z.length]? = some b:=q
   rw[<-i.len]at this;simp at this;subst this;exact ho
theorem Stp.addCell {own:List Addr} {g0:G} {s0:Shared} {a:Addr} (x:Stp own g0 s0 g s) (h:s0.heap.get? a=none):Stp own g0 s0 (g.cell a) s:=
 ⟨x.le.trans (G.cell_le _ _),x.toks,x.keep,λ b o e p q=>by
  rcases zK q with q|q
  ·exact x.new b o e p q
  ·rw[zF q,h]at e;exact absurd e (by simp),x.newI,x.stay,x.gens,x.os⟩
theorem Stp.addFz {own:List Addr} {g0:G} {s0:Shared} {a:Addr} {o:Obj} (x:Stp own g0 s0 g s) (h:s0.heap.get? a=none) (hi:g.I a=none):Stp own g0 s0 (g.freeze a o) s:=
 ⟨x.le.trans (G.freeze_le hi),x.toks,x.keep,x.new,λ b ob e p=>by
  show(if b=a then some o else g.I b)=none
  rw[if_neg λ z=>by rw[z,h]at e;contradiction];exact x.newI b ob e p,x.stay,x.gens,x.os⟩
theorem k9r {mu:Bool} {b:tW} {Z1:Store} (a:Stp [] g s g' s') (i:Inv cx g' Z1 s') (q:(w5m).R g' s'.heap D b) (h1:D∉g'.ρ) (h2:g'.I D=none) (h3:s.heap.get? D=none) (e:q0w mu b Z1=some (v,Z')) :
  Made cx g s g' s' D v Z':=by
 rcases _:q with⟨us,⟨m,hm⟩,qs,z⟩
 unfold q0w at e
 split at e<;>rw[(q0h e).1,(q0h e).2]
 ·refine⟨g'.cell D,G.cell_le _ _,a.addCell h3,i.addCell (o:=.list b) ⟨us,⟨m,hm⟩,qs.mono (G.cell_le _ _),z⟩ h1 h2,?_,λ c hc h=>?_,λ c hc h=>h⟩
  ·skip;exact⟨D,rfl,by simp[G.cell,<-i.len]⟩
  ·simp only[G.cell,List.mem_append,List.mem_singleton,not_or];exact⟨h,hc⟩
 ·refine⟨g'.freeze D _,G.freeze_le h2,a.addFz h3 h2,i.add hm h1 h2,?_,λ c hc h=>h,λ c hc h=>?_⟩
  ·skip;exact⟨D,_,us,rfl,G.freeze_self _ _ _,⟨m,rfl⟩,qs.mono (G.freeze_le h2),z⟩
  ·show(if c=D then _ else g'.I c)=none
   rw[if_neg hc];exact h
theorem k0e {mu:Bool} {b:tC} {Z1:Store} (a:Stp [] g s g' s') (i:Inv cx g' Z1 s') (q:(w4x).R g' s'.heap D b) (h1:D∉g'.ρ) (h2:g'.I D=none) (h3:s.heap.get? D=none) (e:q2j mu b Z1=some (v,Z')) :
  Made cx g s g' s' D v Z':=by
 rcases _:q with⟨us,hd,qs,y,z,kz⟩
 unfold q2j at e
 split at e<;>rw[(q0h e).1,(q0h e).2]
 ·refine⟨g'.cell D,G.cell_le _ _,a.addCell h3,i.addCell (o:=.dict b) ⟨us,hd,qs.mono (G.cell_le _ _),y,z,kz⟩ h1 h2,?_,λ c hc h=>?_,λ c hc h=>h⟩
  ·skip;exact⟨D,rfl,by simp[G.cell,<-i.len]⟩
  ·simp only[G.cell,List.mem_append,List.mem_singleton,not_or];exact⟨h,hc⟩
 ·rcases _:Heap.dictOf_iff.mp hd with⟨ob,hob,hdo⟩
  refine⟨g'.freeze D ob,G.freeze_le h2,a.addFz h3 h2,i.add hob h1 h2,?_,λ c hc h=>h,λ c hc h=>?_⟩
  ·skip;exact⟨D,ob,us,rfl,G.freeze_self _ _ _,hdo,by simp,qs.mono (G.freeze_le h2),y,by simpa using z,λ k hk=>by obtain⟨kv,hkv,rfl⟩:=List.mem_map.mp hk;exact kz kv hkv⟩
  ·show(if c=D then _ else g'.I c)=none
   rw[if_neg hc];exact h
def Makes (Q:Acc β cx) (mk:β->Store->Res):Prop:=
 ∀{g s g' s' D b Z1 v Z'},Stp [] g s g' s'->Inv cx g' Z1 s'->Q.R g' s'.heap D b->D∉g'.ρ->g'.I D=none->s.heap.get? D=none->mk b Z1=some (v,Z')->
  Made cx g s g' s' D v Z'
theorem z3m {Q:Acc β cx} {mk:β->Store->Res} (M:Makes Q mk) (R:EvOk cx n r) (hA:AOk n A) {e:Expr} {gens gs:List Comprehension} (Cc:IsC cx e gens) {target iter:Expr} {ifs:List Expr} (hgens:gens=⟨target,iter,ifs,0⟩::gs) (has:∀g∈gs,g.is_async=0)
  {sc:Scope} (K:w9e ks sc) {emit:Vs->β->Store->Option (β×Store)} {b0 b':β} {vsc:Vs} {w:AV} {Z1:Store} {newAcc:Sem Value} {ao:Obj} {pos:Pos}
  (hp:q1j iter=true) (e1:r.e ks ns iter vs Z=some (w,Z1))
  (e2:z0u r sc.names (q0m sc.names++ns) emit gs target ifs w ((q0m sc.names).map (λ J=>none)++vs,b0) Z1=some ((vsc,b'),Z'))
  (hnew:∀{s:Shared} {P:Value->Shared->Prop},P (.ref tH) { s with heap:=s.heap.push ao }->tw newAcc P NoE s) (hfr:ao.isFreed=false) (hmod:∃b o,sysModules<=b/\cx.h₀.get? b=some o) (hq:∀g h D,h.get? D=some ao->(D==sysModules)=false->Q.R g h D b0)
  (hem:∀cenv D,Emits Q A sc.names (q0m sc.names++ns) cenv D e emit) (i:tI) (E:ER cx ks ns env g vs s) (em:mk b' Z'=some (v,Z'')) :
  tw (comprehension e sc env pos newAcc false (eval iter env)) (PX cx g s Z'' v) NoE s/\
  ∀{use:Value->Sem Unit} {vs' Z3},(∀g1 s₁ u1,Stp [] g s g1 s₁->Inv cx g1 Z'' s₁->ER cx ks ns env g1 vs s₁->VR cx g1 v u1->tw (use u1) (λ J s₂=>PA cx ks ns env g1 s₁ vs' Z3 s₂) NoE s₁)->
   tw (comprehension e sc env pos newAcc false (eval iter env) (some use)) (λ J s'=>PA cx ks ns env g s vs' Z3 s') NoE s:=by
 constructor
 ·refine z3l (use:=none) R hA Cc hgens has K hp e1 e2 hnew hfr hmod hq hem i E λ g' s' D C F h' hs=>?_
  rcases _:M F.stp F.inv F.acc F.outD.1 F.outD.2.1 F.outD.2.2 em with⟨g'',le,a,i',rv,hc1,hc2⟩
  have k':∀b o,s'.heap.get? b=some o->b≠C->h'.get? b=some o:=λ b o e q=>(hs.2 b q).trans e
  have c1:=hc1 C F.ne.symm F.outC.1
  have c2:=hc2 C F.ne.symm F.outC.2.1
  exact⟨g'',a.thenI (.write (t:=s'.toks) (jZ _) k') F.outC.2.2,i'.writeI (t:=s'.toks) (jZ _) c1 c2 k',rv⟩
 ·intro use vs' Z3 hu
  refine z3l (use:=some use) R hA Cc hgens has K hp e1 e2 hnew hfr hmod hq hem i E λ g' s' D C F=>?_
  rcases _:M F.stp F.inv F.acc F.outD.1 F.outD.2.1 F.outD.2.2 em with⟨g'',le,a,i',rv,hc1,hc2⟩
  have c1:=hc1 C F.ne.symm F.outC.1
  have c2:=hc2 C F.ne.symm F.outC.2.1
  (refine wpAny_mono (hu g'' s' _ a i' (E.go a) rv) (λ J s₂ zz0=>?_) λ J J x=>x;obtain⟨g2,b,i2,E2⟩:=zz0)
  obtain⟨m,hm⟩:=F.nsp
  obtain⟨oC,hoC⟩:=q7h hm
  obtain⟨z1,z2,z3⟩:=w0n E F.outC.2.2
  refine⟨m,j1c hm λ o e=>b.keep _ _ e c1 z3,λ h' hs=>?_⟩
  have k':∀b o,s₂.heap.get? b=some o->b≠C->h'.get? b=some o:=λ b o e q=>(hs.2 b q).trans e
  have st:StpI C g2 s₂ g2 { s₂ with heap:=h' }:=.write (t:=s₂.toks) (jZ _) k'
  exact⟨g2,(a.own.trans b).thenI st F.outC.2.2,i2.writeI (t:=s₂.toks) (jZ _) (b.new _ _ hoC c1) (b.newI _ _ hoC c2) k',E2.stepI st z1 z2⟩
theorem w9w {mu:Bool}:Makes (w5m) (q0w mu):=λ a i q h1 h2 h3 e=>k9r a i q h1 h2 h3 e
theorem k2l {mu:Bool}:Makes (w4x) (q2j mu):=λ a i q h1 h2 h3 e=>k0e a i q h1 h2 h3 e
inductive Parts (r:Ev) (ks:Kinds) (ns:tL) (b0:β) (emit:Kinds->List Str->Vs->β->Store->Option (β×Store)) (gens:List Comprehension) (sc:Scope) (vs:Vs) (Z:Store) (b':β) (Z':Store):Prop
 | mk (target iter:Expr) (ifs:List Expr) (gs:List Comprehension) (w:AV) (Z1:Store) (vsc:Vs) (h:gens=⟨target,iter,ifs,0⟩::gs) (h1:∀g∈gs,g.is_async=0) (h2:w9e ks sc) (h3:q1j iter=true) (h4:r.e ks ns iter vs Z=some (w,Z1))
   (h5:z0u r sc.names (q0m sc.names++ns) (emit sc.names (q0m sc.names++ns)) gs target ifs w ((q0m sc.names).map (λ J=>none)++vs,b0) Z1=some ((vsc,b'),Z'))
theorem w4v {b0:β} {emit:Kinds->List Str->Vs->β->Store->Option (β×Store)} {gens:List Comprehension} {sc:Scope} {b':β} (e:k4o r ks ns b0 emit gens sc vs Z=some (b',Z')):Parts r ks ns b0 emit gens sc vs Z b' Z':=by
 rcases gens with _|⟨⟨t,it,ifs,as⟩,gs⟩
 ·exact nope e
 ·refine q0e e λ w Z1 e1 e=>q0k e λ h e=>q0e e λ q Z2 e2 e=>?_
  simp only[Bool.and_eq_true,List.all_cons,List.all_eq_true,beq_iff_eq]at h
  rw[(q0h e).1,(q0h e).2]
  obtain rfl:=h.2.1
  exact⟨t,it,ifs,gs,w,Z1,q.1,rfl,h.2.2,z3k h.1.2,h.1.1,e1,e2⟩
theorem w9t (H:GlOk cx T) (R:EvOk cx n r) (hA:AOk n A) {elt:Expr} {gens:List Comprehension} {sc:Scope} {p:Pos} (i:tI) (E:ER cx ks ns env g vs s)
  (e:(do
   let (acc,Z) <-k4o r ks ns [] (z9y r elt) gens sc vs Z
   q0w (T.mu p.line) acc Z)=some (v,Z')) :
  tw (eval (.ListComp elt gens sc p) env) (PX cx g s Z' v) NoE s/\
  ∀{use:Value->Sem Unit} {vs' Z3},(∀g1 s₁ u1,Stp [] g s g1 s₁->Inv cx g1 Z' s₁->ER cx ks ns env g1 vs s₁->VR cx g1 v u1->tw (use u1) (λ J s₂=>PA cx ks ns env g1 s₁ vs' Z3 s₂) NoE s₁)->
   tw (evalThenUse (.ListComp elt gens sc p) env use) (λ J s'=>PA cx ks ns env g s vs' Z3 s') NoE s:=by
 refine q0e e λ acc Z1 e1 em=>?_
 clear e
 rcases _:w4v e1 with⟨target,iter,ifs,gs,w,Z2,vsc,rfl,has,K,hp,f1,f2⟩
 obtain⟨h1,h2⟩:=z3m (Q:=w5m) (mk:=q0w (T.mu p.line)) (pos:=iter.pos) w9w R hA k0n rfl has K hp f1 f2 (newAcc:=newList []) (ao:={ cls:=.type "list",data:=.seq #[] }) (λ h=>wpAny_newObj_type h) rfl H.mods
  (λ g h D e J=>⟨[],⟨0,e⟩,.nil,Nat.zero_le _⟩) (λ cenv D=>z3r R.e hA) i E em
 refine⟨h1,λ hu=>?_⟩
 exact tG (wpAny_mono (h2 hu) (λ J J h=>tJ h) λ J J x=>x)
theorem w9k (H:GlOk cx T) (R:EvOk cx n r) (hA:AOk n A) {kx vx:Expr} {gens:List Comprehension} {sc:Scope} {p:Pos} (i:tI) (E:ER cx ks ns env g vs s)
  (e:(do
   let (acc,Z) <-k4o r ks ns [] (k5d r kx vx) gens sc vs Z
   q2j (T.mu p.line) acc Z)=some (v,Z')) :
  tw (eval (.DictComp kx vx gens sc p) env) (PX cx g s Z' v) NoE s/\
  ∀{use:Value->Sem Unit} {vs' Z3},(∀g1 s₁ u1,Stp [] g s g1 s₁->Inv cx g1 Z' s₁->ER cx ks ns env g1 vs s₁->VR cx g1 v u1->tw (use u1) (λ J s₂=>PA cx ks ns env g1 s₁ vs' Z3 s₂) NoE s₁)->
   tw (evalThenUse (.DictComp kx vx gens sc p) env use) (λ J s'=>PA cx ks ns env g s vs' Z3 s') NoE s:=by
 refine q0e e λ acc Z1 e1 em=>?_
 clear e
 rcases _:w4v e1 with⟨target,iter,ifs,gs,w,Z2,vsc,rfl,has,K,hp,f1,f2⟩
 have hempty:∀(g:G) (h:Heap) (D:Addr),h.get? D=some { cls:=.type "dict",data:=.dict #[] }->(D==sysModules)=false->(w4x).R g h D []:=λ g h D e hm=>
  ⟨[],⟨_,#[],0,e,⟨rfl,rfl,rfl⟩,rfl,λ J he=>by simp at he,.nil,by trivial⟩,.nil,hm,Nat.zero_le _,by trivial⟩
 obtain⟨h1,h2⟩:=z3m (Q:=w4x) (mk:=q2j (T.mu p.line)) (pos:=iter.pos) k2l R hA j0d rfl has K hp f1 f2 (newAcc:=newDict) (ao:={ cls:=.type "dict",data:=.dict #[] }) (λ h=>wpAny_newObj_type h) rfl H.mods
  hempty (λ cenv D=>k5e R.e hA) i E em
 refine⟨h1,λ hu=>?_⟩
 exact tG (wpAny_mono (h2 hu) (λ J J h=>tJ h) λ J J x=>x)
end
theorem z2q:typeLookup (.type "slice") "__index__" = pure none:=by rw[typeLookup_type,builtinLookup_eq_fast];kernel_rfl
section
variable {prog:Program} {w:World} {A:Around} {E:Value->Shared->Prop} {h:Heap} {g:Array GenState} {d:Drawn} {t:Nat} {os:OsState} {l m:Addr} {items:Array Value} {k:Nat}
theorem z7r {f:Value×Nat->Option Value} (hf:∀p∈items.toList.zipIdx,f p=none):(items.toList.zipIdx.filterMap f).toArray = #[]:=by
 rw[List.filterMap_eq_nil_iff.mpr hf]
theorem z4y {f:Value×Nat->Option Value} (hf:∀x k,f (x,k)=if(if(1:Int) > 0 then decide ((0:Int)<=(k:Int))&&decide ((k:Int)<(items.size:Int))&&(((k:Int) - 0) % 1==0)else false)=true then none else some x):(items.toList.zipIdx.filterMap f).toArray = #[]:=by
 refine z7r λ p hp=>?_
 obtain⟨x,k⟩:=p
 have hk:k<items.size:=by
  have:=(List.mem_zipIdx hp).2.1
  simpa using this
 rw[hf]
 simp[hk,Int.emod_one]
theorem j5l {P:PySem.Fin->Shared->Prop} (hl:h.get? l=some { cls:=.type "list",data:=.seq items k }) (hm:h.get? m=some { cls:=.type "slice",data:=.fields #[.none,.none,.none] }) (hz:items.size<=sizeLine)
  (hq:∀f:Array Value->Array Value,f items = #[]->P (.done (.ret .none)) ⟨h.update l (Obj.mapSeq f),g,d,t,os⟩) :
  wpAny (model prog w) A (Builtin.«list.__delitem__» ⟨[.ref l,.ref m],[]⟩) P E ⟨h,g,d,t,os⟩:=by
 have hT:(⟨h,g,d,t,os⟩:Shared).TypeIs (.ref m) "slice":=⟨_,hm,rfl⟩
 refine wpAny_bind (m:=slotArgs _ _ _) (tJ ?_)
 refine tG ?_
 refine tG (wpAny_specialOf hT z2q ?_)
 refine tJ ?_
 refine tG (wpAny_typeOf hT ?_)
 refine tM (λ hab=>absurd hab tA) (λ J=>?_)
 refine tG ?_
 refine tG (wpAny_field hm rfl (x:=.none) rfl ?_)
 refine tG (tJ ?_)
 refine tM (λ hab=>absurd hab tA) (λ J=>?_)
 refine tG (wpAny_field hm rfl (x:=.none) rfl ?_)
 refine tG (tJ ?_)
 refine tG (wpAny_field hm rfl (x:=.none) rfl ?_)
 refine tG (tJ ?_)
 refine tJ ?_
 refine tG (listItems_at hl rfl ?_)
 refine tG ?_
 show wpAny _ _ (pure ((0:Int),(items.size:Int),(1:Int))) _ _ _
 refine tJ ?_
 refine tG (wpAny_rule ?_)
 refine tG ?_
 refine listUpdate_at hl rfl ?_ hz ?_
 ·exact tG (wpAny_letGo (tJ (hq _ (z4y λ J J=>rfl))))
 ·refine jH (zA (congrArg Array.size (z4y λ J J=>rfl))) (Nat.zero_le _)
end
section
variable {T:Tab} {r:Ev} {g:G} {s:Shared} {A:Around} {x:Str}
theorem k8a {ts:List Expr} {line:Nat} (h:w5e ex=true):∃b,swapsWithSole ts ex line env=pure b/\(b=true->∃t,ts=[t]):=by
 rcases ts with _|⟨t,_|⟨t',ts⟩⟩
 ·exact⟨false,rfl,by simp⟩
 ·rcases ex<;>first|(exact absurd h Bool.false_ne_true)|(rcases t<;>exact⟨_,rfl,λ J=>⟨_,rfl⟩⟩)
 ·exact⟨false,rfl,by simp⟩
theorem j1k (h:w5e ex=true):rawE T r ks ns ex vs Z=r.e ks ns ex vs Z:=by induction ex using Expr.casesOn with
 | Constant=>exact nob h
 | _=>rfl
theorem k8l {ts:List Expr} (h:w5e ex=true):j8b ks ts ex=some none:=by
 rcases ex<;>first|(exact absurd h Bool.false_ne_true)|(rcases ts with _|⟨t,_|⟨t',ts⟩⟩<;>first|rfl|(rcases t<;>rfl))
theorem j1l (R:EvOk cx n r) (hA:AOk n A) (i:tI) (E:ER cx ks ns env g vs s) {ts:List Expr} {p:Pos}
  (e:(if ts.any w0t then none else do
   let (v,Z) <-rawE T r ks ns ex vs Z
   let (vs,Z) <-z0n r ks ns ts ex v vs Z
   some (q1c.next,vs,Z))=some (fl,vs',Z')):tw (exec (.Assign ts ex p) env) (PS cx ks ns env g s fl vs' Z') NoE s:=by
 refine ifNo e λ hst e=>q0e e λ w Z1 e1 e=>q0e e λ vs1 Z2 ev e=>?_
 have hs:∀t∈ts,∀y q,t≠.Starred y q:=λ t ht y q h=>hst (List.any_eq_true.mpr ⟨t,ht,by rw[h];rfl⟩)
 rcases e
 refine tG (wpAny_standAt ?_)
 have plain:wpAny cx.M A (do
   let v <-eval ex env
   assignStores env v (<-swappedStores ts ex env) ((assignEach ts env).map (·.2))) (PS cx ks ns env g s .next vs' Z') NoE s:=by
  refine tG (PX.then (j3q R.e hA e1 i E) λ g1 s₁ u1 a1 i1 r1=>?_)
  exact PS.up a1.own (w4p R.a hA i1 (E.go a1) r1 hs ev)
 cases hc:w5e ex with
 | false=>
  rw[k3d hc]
  exact tG (tJ plain)
 | true=>
  rcases _:k8a (env:=env) (ts:=ts) (line:=p.line) hc with⟨b,hb,hb'⟩
  rw[hb]
  refine tG (tJ ?_)
  induction b with
  | false=>exact plain
  | true=>
   rw[j1k hc]at e1
   have ev':q8q r ks ns w ts vs Z1=some (vs',Z'):=by unfold z0n at ev;rw[k8l hc]at ev;exact ev
   refine tG (wpAny_mono (R.c hc e1 hA i E (use:=λ v=>assignAll v ((assignEach ts env).map (·.2))) λ g1 s₁ u1 a1 i1 E1 r1=>q7o R.a hA i1 E1 r1 ev' hs) (λ _ s₂ ⟨g2,a,i2,E2⟩=>tJ ⟨g2,a,i2,E2,rfl⟩) λ J J x=>x)
theorem j5k {l:Nat} {xs:tW} {m:Addr} {Q:Unit->Shared->Prop} (hA:AOk n A) (i:tI) (r:VR cx g (.loc l) u) (e:Z[l]? = some (.list xs)) (hm:s.heap.get? m=some { cls:=.type "slice",data:=.fields #[.none,.none,.none] }) (hmI:g.I m=some { cls:=.type "slice",data:=.fields #[.none,.none,.none] })
  (h:∀s',Stp [] g s g s'->Inv cx g (Z.set l (.list [])) s'->Q () s'):tw (delItem u (.ref m)) Q NoE s:=by
 obtain⟨p,rfl,hp⟩:=r.of_loc
 rcases _:i.cells _ _ _ e hp with⟨us,⟨k,hk⟩,q,z⟩
 have hz:us.toArray.size<=sizeLine:=by simp only[List.size_toArray,<-q.length];exact z
 refine wpAny_delItem_slot ⟨_,hk,rfl⟩ (by rfl) F.slot_list_delitem ?_
 obtain⟨hh,gs,d,t,os⟩:=s
 refine wpAny_call_entry F.slot_list_delitem ⟨_,hk,rfl⟩ F.entry_list_delitem (j5l hk hm hz λ f hf=>⟨_,rfl,?_⟩) (F.args_list_delitem_2 _ _)
 obtain⟨k',hk'⟩:=w2z f us.toArray k
 have hget:=Heap.get?_update_self (h:=hh) (a:=p) (Obj.mapSeq f) hk (by rfl)
 rw[hk',hf]at hget
 have ho:OR cx g (hh.update p (Obj.mapSeq f)) p (.list []):=⟨[],⟨k',hget⟩,.nil,Nat.zero_le _⟩
 exact h _ (.setCell (t:=t) (jZ _) hp (Heap.SameBut.update ..) ho.there) (i.setCell (t:=t) (jZ _) hp ho (Heap.SameBut.update ..))
theorem v5x (R:EvOk cx n r) (hA:AOk n A) (i:tI) (E:ER cx ks ns env g vs s) {o:Expr} {p q q':Pos}
  (e:(do
   let (v,Z) <-r.e ks ns o vs Z
   (locV v).bind λ l=>(q1f Z l).bind λ J=>some (q1c.next,vs,Z.set l (.list [])))=some (fl,vs',Z')):tw (exec (.Delete [.Subscript o (.Slice none none none q) q'] p) env) (PS cx ks ns env g s fl vs' Z') NoE s:=by
 refine q0e e λ w Z1 e1 e=>optE e λ l h0 e=>q7s e λ xs hx e=>?_
 rw[(fl_3 e).1,(fl_3 e).2.1,(fl_3 e).2.2]
 refine wpAny_Delete ?_
 refine tG (tG (q0r R.e hA i E e1 λ g1 s₁ u1 a1 i1 E1 r1=>tG (wpAny_holding ?_)))
 refine tG (tJ (tG (wpAny_holding (tJ (tG (wpAny_holding (tJ ?_)))))))
 refine wpAny_newObj_type ?_
 have hn:=q0f s₁
 have k:∀b o',s₁.heap.get? b=some o'->(s₁.heap.push { cls:=.type "slice",data:=.fields #[.none,.none,.none] }).get? b=some o':=λ b o' e=>Heap.get?_push_of_some _ e
 have a2:Stp [] g1 s₁ (g1.freeze s₁.heap.objs.size { cls:=.type "slice",data:=.fields #[.none,.none,.none] }) { s₁ with heap:=s₁.heap.push { cls:=.type "slice",data:=.fields #[.none,.none,.none] } }:=.freeze (t:=s₁.toks) i1 (jZ _) hn k
 have i2:Inv cx (g1.freeze s₁.heap.objs.size { cls:=.type "slice",data:=.fields #[.none,.none,.none] }) Z1 { s₁ with heap:=s₁.heap.push { cls:=.type "slice",data:=.fields #[.none,.none,.none] } }:=i1.freeze (t:=s₁.toks) (jZ _) hn (Heap.get?_push_size _ rfl) k
 obtain rfl:=j3h h0
 refine tG (wpAny_standAt (tG (wpAny_holding (j5k hA i2 (r1.mono a2.le) hx (Heap.get?_push_size _ rfl) (G.freeze_self _ _ _) λ s3 a3 i3=>wpAny_release ?_))))
 exact tJ ⟨_,((a1.trans a2).trans a3).own,i3,(E1.go a2).go a3,rfl⟩
theorem v0s (H:q6d cx T) (R:EvOk cx n r):SOk cx n (evS T r):=by
 intro ks ns st vs Z fl vs' Z' e A env g s hA i E
 induction st using Stmt.casesOn with
 | Expr ee pp=>
  refine ifNo e λ hc e=>q0e e λ w Z1 e1 e=>?_
  have hi:interactive env=false:=by dsimp only[interactive];rw[E.fn];rfl
  refine wpAny_Expr_any (q0r R.e hA i E e1 λ g1 s₁ u1 a1 i1 E1 r1=>k2a (P:=λ fl vs' Z'=>PS cx ks ns env g s fl vs' Z' _ _) e ⟨g1,a1.own,i1,E1,rfl⟩) hi ?_
  rcases ee<;>first|rfl|exact absurd rfl hc
 | Return o p=>
  refine optM e (λ ee h e=>q0e e λ w Z1 e1 e9=>?_) λ h e9=>?_<;>rw[h]
  ·exact wpAny_Return_some (q0r R.e hA i E e1 λ g1 s₁ u1 a1 i1 E1 r1=>k2a (P:=λ fl vs' Z'=>PS cx ks ns env g s fl vs' Z' _ _) e9 ⟨g1,a1.own,i1,E1,u1,rfl,r1⟩)
  ·exact wpAny_Return_none (k2a (P:=λ fl vs' Z'=>PS cx ks ns env g s fl vs' Z' _ _) e9 ⟨g,.refl _ _ _,i,E,.none,rfl,.none_⟩)
 | Assign ts ee p=>exact j1l R hA i E e
 | AugAssign t op ee p=>
  refine optM e (λ x h e=>?_) λ J e=>optE e λ q h e=>?_
  ·obtain⟨q,e1⟩:=w0w h;rw[e1];exact k7q R hA i E e
  ·rw[z0o h];exact k7p H R hA i E e
 | If t a b p=>
  refine q0e e λ c Z1 e1 e=>wpAny_If (z7b R.t hA i E e1 λ g1 s₁ a1 i1 E1=>?_)
  cases c with
  | true=>exact PS.up a1.own (q6g R.s hA i1 E1 e)
  | false=>exact PS.up a1.own (q6g R.s hA i1 E1 e)
 | For t it body orelse p=>exact q0k e λ h e=>by rw[List.isEmpty_iff.mp h];exact v5y R hA i E e
 | Try body hs orelse fin p=>
  refine q0k e λ h e9=>?_
  rw[List.isEmpty_iff.mp h.2.1,List.isEmpty_iff.mp h.2.2]
  replace h:=h.1
  induction hs using List.casesOn with
  | nil=>exact absurd h.symm Bool.false_ne_true
  | cons h0 hs=>
   refine wpAny_Try_except (wpAny_mono (q6g R.s hA i E e9) (λ f s₁ h=>?_) λ J J x=>x.elim)
   rcases f<;>first|exact h|exact wpAny_execs_nil h
 | Delete ts p=>exact optE e λ o h e=>delE h λ q q' h=>by rw[h];exact v5x R hA i E e
 | _=>exact nope e
end
def BiOk (cx:Cx) (n:Nat):Prop:=∀{b args Z v Z'},biA b args Z=some (v,Z')->∀{A g s us},AOk n A->Inv cx g Z s->VRs cx g args us->tw (call b.val us) (PX cx g s Z' v) NoE s
structure z0i (n:Nat) (A:Around):Prop where
 handled:A.handled=none
 depth:A.depth+4 * n+6<recursionLimit
 units:A.units+60 * n+80<cLine
theorem AOk.call {n:Nat} {A:Around} (h:AOk n A):z0i n A:=
 ⟨h.handled,jJ (Nat.add_le_add_left (by decide:6<=8) _) h.depth,jJ (Nat.add_le_add_left (by decide:80<=100) _) h.units⟩
theorem z0i.droom {n:Nat} {A:Around} (h:z0i n A):A.depth<recursionLimit:=jJ (jH (zC _ _) (zC _ _)) h.depth
theorem z0i.deep {n:Nat} {A:Around} (h:z0i (n+1) A) (env:Env):AOk n (A.deeper env):=
 ⟨h.handled,jJ (zA (congrArg (· + 8) (Nat.add_right_comm A.depth 1 (4 * n)))) (jJ (Nat.add_le_add_left (by decide:9<=10) _) h.depth),
  jJ (zA (congrArg (· + 100) (Nat.add_right_comm A.units 3 (60 * n)))) (jJ (Nat.add_le_add_left (by decide:103<=140) _) h.units)⟩
structure CfOk (cx:Cx) (n:Nat) (C:q0b):Prop where
 run:∀{a args kws Z v Z'},C a args kws Z=some (v,Z')->∀{A g s us uk},z0i n A->Inv cx g Z s->VRs cx g args us->VRs cx g (kws.map (·.2)) uk->
  codeAny cx.M A (.call (.ref a) ⟨us,(kws.map (·.1)).zip uk⟩) (λ r s'=>match r with | .ok (.ret u)=>PX cx g s Z' v u s' | _=>False) s
 fn:∀{a args kws Z r},C a args kws Z=some r->keepIn cx.K (.ref a)=true/\fnIn cx.K a=true
section
variable {T:Tab}
inductive KwOk (p:Pos) (env:Env) (kws:List Keyword) (kvs:tC):Prop
 | mk (h1:(backToKw p (keywordEach kws env)).filterMap (·.1)=kvs.map (·.1)) (h2:(backToKw p (keywordEach kws env)).all (·.1.isSome)=true) (h3:(backToKw p (keywordEach kws env)).any (·.1.isNone)=false) (h4:kws.length=kvs.length)
theorem z1i {p:Pos}:∀{kws:List Keyword} {kvs:tC} {Z:Store},q9q r ks ns kws vs Z=some (kvs,Z')->∀env,KwOk p env kws kvs
 | [],_,_,e,_=>by rw[(q0h e).1];exact⟨rfl,rfl,rfl,rfl⟩
 | ⟨an,ex,q⟩::kws,kvs,Z,e,env=>by
  refine optE e λ nm h0 e=>q0e e λ w Z1 e1 e=>q0e e λ ws Z2 e2 e9=>?_
  obtain rfl:an=some nm:=h0
  rcases e9
  obtain⟨h1,h2,h3,h4⟩:=z1i (p:=p) e2 env
  unfold backToKw at h1 h2 h3
  refine⟨?_,?_,?_,congrArg (· + 1) h4⟩<;>(unfold backToKw;simp only[arm_keywordEach_cons])
  ·simpa using h1
  ·exact h2
  ·exact h3
theorem v1i (R:EOk cx n r.e) (hA:AOk n A) {p:Pos}:∀{kws:List Keyword} {kvs:tC} {g:G} {Z:Store} {s:Shared},Inv cx g Z s->ER cx ks ns env g vs s->q9q r ks ns kws vs Z=some (kvs,Z')->
  tw (evalAll ((backToKw p (keywordEach kws env)).map (·.2))) (PL cx g s Z' (kvs.map (·.2))) NoE s
 | [],_,g,Z,s,i,E,e=>by rw[(q0h e).1,(q0h e).2];exact kwAll_nil ⟨g,.refl _ _ _,i,.nil⟩
 | ⟨an,ex,q⟩::kws,kvs,g,Z,s,i,E,e=>by
  refine optE e λ nm h0 e=>q0e e λ w Z1 e1 e=>q0e e λ ws Z2 e2 e9=>?_
  obtain rfl:an=some nm:=h0
  rcases e9
  refine kwAll_cons (q0r R hA i E e1 λ g1 s₁ u1 a1 i1 E1 r1=>?_)
  exact wpAny_mono (v1i R hA i1 E1 e2) (λ us s₂ ⟨g2,a2,i2,q2⟩=>⟨g2,a1.trans a2,i2,.cons (r1.mono a2.le) q2⟩) λ J J x=>x
theorem k6u {p:Pos}:∀{es:List Expr} {xs:tW} {Z:Store},evals r ks ns es vs Z=some (xs,Z')->∀env,(backTo p (starEach es env)).any (·.1)=false/\es.length=xs.length
 | [],_,_,e,_=>by rw[(q0h e).1];exact⟨rfl,rfl⟩
 | y::es,xs,Z,e,env=>by
  refine ifNo e λ hx e=>q0e e λ w Z1 e1 e=>q0e e λ ws Z2 e2 e=>?_
  rcases e
  obtain⟨h1,h2⟩:=k6u (p:=p) e2 env
  rw[q0u (q8n hx)]
  exact⟨by exact h1,by simp[h2]⟩
theorem w4r (R:EOk cx n r.e) (hA:AOk n A) {p:Pos} {first:tU} {args:List Expr} {kws:List Keyword} {xs:tW} {kvs:tC} {Z1 Z2:Store} {P:Value->Shared->Prop} {f:Value} {HP:Heap->Prop}
  (i:tI) (E:ER cx ks ns env g vs s) (e1:evals r ks ns args vs Z=some (xs,Z1)) (e2:q9q r ks ns kws vs Z1=some (kvs,Z2))
  (hk:∀h,HP h->∃k,(k=Keeper.frame\/k=Keeper.machine\/k=Keeper.boundFrame)/\Looks cx.M h (keeperOf f) k)
  (h:∀g1 s₁ us uk,Stp [] g s g1 s₁->Inv cx g1 Z2 s₁->VRs cx g1 xs us->VRs cx g1 (kvs.map (·.2)) uk->HP s₁.heap/\tw (call f (first++us) ((kvs.map (·.1)).zip uk)) P NoE s₁) :
  tw (callWith p f first (backTo p (starEach args env)) (backToKw p (keywordEach kws env))) P NoE s:=by
 rcases _:z1i (p:=p) e2 env with⟨k1,k2,k3,k4⟩
 obtain⟨n1,n2⟩:=k6u (p:=p) e1 env
 refine callWith_of (P:=HP) (by simp only[n1,k3];rfl) hk ?_
 have tail:∀{g1:G} {s₁:Shared} {us:tU},Stp [] g s g1 s₁->Inv cx g1 Z1 s₁->VRs cx g1 xs us->tw (evalAll ((backToKw p (keywordEach kws env)).map (·.2))) (λ ks' s₂=>HP s₂.heap/\tw (call f (first++us) (((backToKw p (keywordEach kws env)).filterMap (·.1)).zip ks')) P NoE s₂) NoE s₁:=by
  intro g1 s₁ us a1 i1 q1
  (refine wpAny_mono (v1i R hA i1 (E.go a1) e2) (λ uk s₂ zz0=>?_) λ J J x=>x;rcases _:zz0 with⟨g2,a2,i2,q2⟩)
  rw[k1]
  exact h g2 s₂ us uk (a1.trans a2) i2 (q1.mono a2.le) q2
 induction args with
 | nil=>
  exact evalArgs_kw2_nil k2 (tail (.refl _ _ _) (by rw[(q0h e1).2];exact i) (by rw[(q0h e1).1];exact .nil))
 | cons y args=>
  have hx:∀z q,y≠.Starred z q:=ifNo e1 λ hx J=>q8n hx
  refine evalArgs_kw2 k2 (wpAny_mono (k0d R hA i E e1) (λ us s₁ ⟨g1,a1,i1,q1⟩=>tail a1 i1 q1) λ J J x=>x) (q0u hx)
variable {n:Nat} {r:Ev} {ks:Kinds} {ns:tL} {env:Env} {g:G} {vs:Vs} {Z:Store} {s:Shared} {A:Around} {v:AV}
theorem z0q {o:Expr} {P:Value->Shared->Prop} {E:Value->Shared->Prop} (hs:q6q o=true) (h:tw (eval o env) P E s):tw (attributeBase o x env (eval o env)) P E s:=by
 induction o using Expr.casesOn with
 | Call f as kw p=>induction f using Expr.casesOn with
  | Name id q=>induction as with
   | nil=>induction kw with
    | nil=>
     dsimp only[attributeBase]
     rw[show(id !=("super" : Str))=true from hs]
     first|exact h|exact wpAny_bind (wpAny_mono h (λ J J z=>tJ z) λ J J z=>z)
    | cons=>exact h
   | cons=>exact h
  | _=>exact h
 | _=>exact h
theorem v0e (H:q6d cx T) (R:EOk cx n r.e) (hA:AOk n A) (i:tI) (E:ER cx ks ns env g vs s) {o:Expr} {p:Pos}
  (e:(if !q6q o then none else do
   let (v,Z) <-r.e ks ns o vs Z
   let u <-q6h T Z v x
   some (norm u,Z))=some (v,Z')):tw (eval (.Attribute o x p) env) (PX cx g s Z' v) NoE s:=by
 refine ifNo e λ hs e=>q0e e λ w Z1 e1 e=>q5l e λ y e2 e=>?_
 rw[(q0h e).1,(q0h e).2]
 refine tG (z0q (by simpa using hs) (q0r R hA i E e1 λ g1 s₁ u1 a1 i1 E1 r1=>tG (wpAny_standAt (tG (wpAny_holding ?_)))))
 refine PX.then (PE.x (w9p H i1 r1 e2)) λ g2 s₂ u2 a2 i2 r2=>tG (wpAny_letTemporaryGo (tJ ⟨g2,a1.trans a2,i2,r2.norm⟩))
theorem z1o {K:Frag} {f y Ca:Addr} {ox:Obj} {od:Option Obj} {name:Str} {pl:Sem Bool} {Q:Value×List Value->Shared->Prop} {E:Value->Shared->Prop} (X:K.In s.heap) (I:InstAt s.heap y ox Ca od) (hga:findIn K (.ref Ca) "__getattribute__" = some (some (.builtin "object.__getattribute__"))) (hk:findIn K (.ref Ca) "__getattr__" = some none)
  (hf:findIn K (.ref Ca) name=some (some (.ref f))) (ht:typeIn K (.ref f)=some (.type "function")) (hs:shadowIn od name=some true) (hod:ox.dict≠none) (h:tw (getAttr (.ref y) name) (λ v=>Q (v,[])) E s) :
  tw (getMethod (.ref y) name pl) Q E s:=by
 dsimp only[getMethod,specialOf]
 refine tG (tG (I.type.here ((looks_findIn X hga).here ?_)))
 dsimp only
 refine tG (tG (I.type.here ((looks_findIn X hk).here ?_)))
 refine tG (tG (I.type.here ((looks_findIn X hf).here (tG ((looks_typeIn X ht).here ?_)))))
 refine tG (wpAny_loadPart I.at_ ?_)
 have hd:=I.dict
 cases e:ox.dict with
 | none=>exact absurd e hod
 | some dx=>
  induction od with
  | none=>rw[e]at hd;exact hd.elim
  | some o=>
   rw[e]at hd
   rcases _:Option.map_eq_some_iff.mp hs with⟨q,a,b⟩
   refine tG (tG (wpAny_loadPart hd ?_))
   simp only[nsLook_of a]
   refine tJ ?_
   rw[b]
   exact tG (wpAny_mono h (λ J J z=>tJ z) λ J J z=>z)
end
def MR (cx:Cx) (g:G) (c:Callee) (fx:Value×List Value):Prop:=match c with
 | .val v=>fx.2=[]/\VR cx g v fx.1
 | .fn f o=>fx.1 = .ref f/\∃us,fx.2=[us]/\VR cx g o us
 | .bi b o=>fx.1=b.val/\∃us,fx.2=[us]/\VR cx g o us
section
variable {T:Tab}
set_option tactic.hygienic true in theorem q1l {α:Type} {k:Str} {a b:α} {l:List (Str×α)} (h:((k,a)::l).lookup x=some b):(x=k/\b=a)\/l.lookup x=some b:=by
 simp only[List.lookup_cons]at h
 split at h
 ·rename_i hx;obtain rfl:=zE h;exact .inl ⟨beq_iff_eq.mp hx,rfl⟩
 ·exact .inr h
theorem k6o {b:BI} {p:Addr} {items:Array Value} {pl:Sem Bool} {Q:Value×List Value->Shared->Prop} {E:Value->Shared->Prop} (hl:s.heap.PlainList p items) (e:z4j.lookup x=some b) (h:Q (b.val,[.ref p]) s):tw (getMethod (.ref p) x pl) Q E s:=by
 rcases _:hl with⟨k,hk⟩
 have hd:∀a,Value.ref p = .ref a->∃o,s.heap.get? a=some o/\o.dict=none:=λ a z=>by rcases z;exact⟨_,hk,rfl⟩
 have hT:s.TypeIs (.ref p) "list":=⟨_,hk,rfl⟩
 rcases q1l e with⟨rfl,rfl⟩|e
 ·exact getMethod_builtin hT F.plainAttrs_list F.slot_list_append F.type_list_append hd h
 rcases q1l e with⟨rfl,rfl⟩|e
 ·exact getMethod_builtin hT F.plainAttrs_list F.slot_list_pop F.type_list_pop hd h
 rcases q1l e with⟨rfl,rfl⟩|e
 ·exact getMethod_builtin hT F.plainAttrs_list F.slot_list_sort F.type_list_sort hd h
 ·contradiction
theorem z4s {b:BI} {p:Addr} {kvs:tV} {pl:Sem Bool} {Q:Value×List Value->Shared->Prop} {E:Value->Shared->Prop} (hl:s.heap.DictOf cx.sk p kvs) (e:w4y.lookup x=some b) (h:Q (b.val,[.ref p]) s):tw (getMethod (.ref p) x pl) Q E s:=by
 have hd:∀a,Value.ref p = .ref a->∃o,s.heap.get? a=some o/\o.dict=none:=λ a z=>by
  rcases z;rcases _:hl with⟨o,es,ep,ho,hx,_⟩;exact⟨o,ho,hx.2.1⟩
 have hT:=hl.typeIs
 rcases _:q1l e with⟨rfl,rfl⟩|e
 ·exact getMethod_builtin hT F.plainAttrs_dict F.slot_dict_items F.type_dict_items hd h
 rcases q1l e with⟨rfl,rfl⟩|e
 ·exact getMethod_builtin hT F.plainAttrs_dict F.slot_dict_get F.type_dict_get hd h
 rcases q1l e with⟨rfl,rfl⟩|e
 ·exact getMethod_builtin hT F.plainAttrs_dict F.slot_dict_update F.type_dict_update hd h
 ·contradiction
theorem j0t {b:BI} {p:Addr} {S:Str->Bool} {m:Nat} {pl:Sem Bool} {Q:Value×List Value->Shared->Prop} {E:Value->Shared->Prop} (hl:s.heap.SetOf cx.sk p S m) (e:k1f.lookup x=some b) (h:Q (b.val,[.ref p]) s):tw (getMethod (.ref p) x pl) Q E s:=by
 rcases q1l e with⟨rfl,rfl⟩|e
 ·exact getMethod_builtin hl.typeIs F.plainAttrs_set F.slot_set_add F.type_set_add hl.noDict h
 ·contradiction
set_option maxHeartbeats 4000000 in
theorem j0u {b:BI} {y:Str} {t:Tok} {pl:Sem Bool} {Q:Value×List Value->Shared->Prop} {E:Value->Shared->Prop} (e:z2u.lookup x=some b) (h:Q (b.val,[.str y t]) s):tw (getMethod (.str y t) x pl) Q E s:=by
 have hd:∀a,Value.str y t = .ref a->∃o,s.heap.get? a=some o/\o.dict=none:=λ a z=>by cases z
 have hT:s.TypeIs (.str y t) "str":=typeIs_str _ _ _
 unfold z2u at e
 rcases q1l e with⟨rfl,rfl⟩|e
 ·exact getMethod_builtin hT F.plainAttrs_str F.slot_str_join F.type_str_join hd h
 rcases q1l e with⟨rfl,rfl⟩|e
 ·exact getMethod_builtin hT F.plainAttrs_str F.slot_str_rsplit F.type_str_rsplit hd h
 rcases q1l e with⟨rfl,rfl⟩|e
 ·exact getMethod_builtin hT F.plainAttrs_str F.slot_str_split F.type_str_split hd h
 ·cases e
theorem z4t {y:Str} {t:Tok} {pl:Sem Bool} {Q:Value×List Value->Shared->Prop} {E:Value->Shared->Prop} (h:Q (.builtin "str.replace",[.str y t]) s):tw (getMethod (.str y t) "replace" pl) Q E s:=
 getMethod_builtin (typeIs_str _ _ _) F.plainAttrs_str F.slot_str_replace F.type_str_replace (λ a z=>by cases z) h
theorem k2m {y:Str} {t:Tok} {pl:Sem Bool} {Q:Value×List Value->Shared->Prop} {E:Value->Shared->Prop} (h:Q (.builtin "str.split",[.str y t]) s):tw (getMethod (.str y t) "split" pl) Q E s:=
 getMethod_builtin (typeIs_str _ _ _) F.plainAttrs_str F.slot_str_split F.type_str_split (λ a z=>by cases z) h
inductive z0j (cx:Cx) (g:G) (s:Shared) (Z:Store) (c:Callee) (fx:Value×List Value) (s':Shared):Prop
 | mk (g':G) (a:Stp [] g s g' s') (i:Inv cx g' Z s') (m:MR cx g' c fx)
theorem k6p (H:q6d cx T) {o:AV} {c:Callee} {pl:Sem Bool} (i:tI) (r:VR cx g o u) (e:q7n T Z o x=some c) :
  tw (getMethod u x pl) (z0j cx g s Z c) NoE s:=by
 have bi:∀{o:AV} {b:BI},VR cx g o u->z0j cx g s Z (.bi b o) (b.val,[u]) s:=λ r=>⟨g,.refl _ _ _,i,rfl,u,rfl,r⟩
 induction o using AV.casesOn with
 | obj d=>
  refine optE e λ fs e1 e=>?_
  rcases _:z7x i r e1 with⟨y,a,ob,m,rfl,I,ha,hm,hlk,hl,hl',h1,h2⟩
  unfold q9o at e
  rw[H.an]at e
  refine optM e (λ w' hw e=>mapQ e λ w ho e=>?_) λ hw e=>mapQ e λ f e2 e=>?_<;>subst e
  ·subst ho
   have hx:=z9l hl hw
   rcases _:h1 x w hx hw with⟨uw,hu,ru⟩
   have get:tw (getAttr (.ref y) x) (λ v=>z0j cx g s Z (.val w) (v,[])) NoE s:=
    get_value (i.X H) I H.ga (w9n H hx (by simp only[hlk,hu])) (z4b ru) ⟨g,.tks (Nat.le_succ _),i.toks (Nat.le_succ _),rfl,ru⟩
   rcases _:(H.attr x hx).2 with h|⟨f,gg,q1,q2,_,_⟩
   ·exact method_usual (i.X H) I H.ga H.gh h rfl get
   ·exact z1o (i.X H) I H.ga H.gh q1 q2 (by simp[shadowIn,hlk,hu]) (by simp) get
  ·have hx:=w2x hl hw
   obtain⟨m1,m2,_⟩:=H.ms x f hx e2
   have hn:m x=none:=h2 x λ q=>absurd q hx
   exact method_fn (i.X H) I H.ga H.gh m1 m2 (by simp[shadowIn,hlk,hn]) ⟨g,.refl _ _ _,i,rfl,_,rfl,r⟩
 | str y=>
  refine mapQ e λ b e2 e=>?_
  subst e
  obtain⟨t,rfl,z⟩:=r.of_str
  exact j0u e2 (bi r)
 | fd kk ys=>
  refine mapQ e λ b e2 e=>?_
  subst e
  obtain⟨p,us,rfl,hp,_⟩:=q0v i rfl r
  exact z4s hp e2 (bi r)
 | loc l=>
  refine optM e (λ xs hx e=>mapQ e λ b e2 e=>?_) λ J e=>optM e (λ kk hx e=>mapQ e λ b e2 e=>?_) λ J e=>optE e λ kvs hx e=>mapQ e λ b e2 e=>?_<;>subst e
  ·obtain⟨p,us,rfl,hp,_⟩:=q0q (xs:=xs) i (by assumption) r
   exact k6o hp e2 (bi r)
  ·obtain⟨p,rfl,hp,_⟩:=z9k (v:=.loc l) (ks:=kk) i hx r
   exact j0t hp e2 (bi r)
  ·obtain⟨p,us,rfl,hp,_⟩:=q0v (v:=.loc l) (kvs:=kvs) i hx r
   exact z4s hp e2 (bi r)
 | _=>exact nope e
end
structure w2u (cx:Cx) (T:Tab):Prop where
 makes:makesIn cx.K cx.C=true
 ini:findIn cx.K (.ref cx.C) "__init__" = some (some (.ref T.ini))
 iniFn:typeIn cx.K (.ref T.ini)=some (.type "function")
 keep:keepIn cx.K (.ref cx.C)=true
def j4c (cx:Cx) (g:G) (s:Shared) (Z':Store) (v:AV) (r:Result) (s':Shared):Prop:=match r with
 | .ok (.ret u)=>PX cx g s Z' v u s'
 | _=>False
section
variable {T:Tab}
theorem q2i {fv:Value} {us:tU} {kw:tV} (h:codeAny cx.M A (.call fv ⟨us,kw⟩) (j4c cx g s Z' v) s'):tw (call fv us kw) (PX cx g s Z' v) NoE s':=by
 refine wpAny_call (codeAny_mono h λ r s'' z=>?_)
 rcases r with e|(w|_|_|_)<;>first|exact z|exact z.elim
theorem j0i {a:Addr} {p q:Value} (h:Heap) (e:h.get? a=some (z3h p q)):∃k,(k=Keeper.frame\/k=Keeper.machine\/k=Keeper.boundFrame)/\Looks cx.M h (keeperOf (.ref a)) k:=
 ⟨.machine,.inr (.inl rfl),(Looks.ld (part:=none) e).andThen .now⟩
theorem q2o {id:String} (h:Heap):∃k,(k=Keeper.frame\/k=Keeper.machine\/k=Keeper.boundFrame)/\Looks cx.M h (keeperOf (.builtin id)) k:=⟨.machine,.inr (.inl rfl),.now⟩
theorem k2f {id:String} (h:Heap):∃k,(k=Keeper.frame\/k=Keeper.machine\/k=Keeper.boundFrame)/\Looks cx.M h (keeperOf (.type id)) k:=⟨.machine,.inr (.inl rfl),.now⟩
theorem BI.keeps (b:BI) (h:Heap):∃k,(k=Keeper.frame\/k=Keeper.machine\/k=Keeper.boundFrame)/\Looks cx.M h (keeperOf b.val) k:=by
 rcases b<;>first|exact q2o h|exact k2f h
theorem K_at (H:q6d cx T) (i:tI) {h:Heap} (k:∀a o,g.I a=some o->h.get? a=some o):cx.K.In h:=H.X.keeps λ b o e=>k _ _ (i.base _ _ e)
theorem w9r (H:q6d cx T) (M:w2u cx T) (Cf:CfOk cx n C) {xs:tW} {kvs:tC} {res:AV×Store} (e:q7i T C f xs kvs Z'=some res) (i:tI) (rf:VR cx g f uf) (h:Heap) (k:∀a o,g.I a=some o->h.get? a=some o) :
  ∃k,(k=Keeper.frame\/k=Keeper.machine\/k=Keeper.boundFrame)/\Looks cx.M h (keeperOf uf) k:=by
 have X:=K_at H i k
 revert e rf
 rcases f<;>first
  | exact λ e J=>nope e
  | exact λ e rf=>by subst rf;exact ifE e (λ hc J=>by rw[hc,H.C];exact keeps_K M.keep h X) λ J e=>keeps_K (Cf.fn e).1 h X
  | exact λ J rf=>by subst rf;exact BI.keeps _ h
  | exact λ J rf=>let ⟨_,_,e,hi,_⟩:=rf;e▸j0i h (k _ _ hi)
  | exact λ e rf=>let ⟨_,_,e',hi,_⟩:=rf;e'▸keeps_M (Cf.fn e).2 h ⟨k _ _ hi,X⟩
theorem j1d {h:Heap} {a:Addr} (e:h.get? a=some emptyDict):NsN h a (λ J=>none) 0:=⟨_,#[],_,e,rfl,λ x hx=>by simp at hx,λ J=>rfl,jZ _⟩
theorem v2c (H:q6d cx T) (M:w2u cx T) (Cf:CfOk cx n C) (h100:cx.an.length<=100) {xs:tW} {kvs:tC} {us uk:tU} (e:z8j T C xs kvs Z=some (v,Z')) (hA:AOk n A) (i:tI) (q:VRs cx g xs us) (qk:VRs cx g (kvs.map (·.2)) uk) :
  codeAny cx.M A (.call (.ref cx.C) ⟨us,(kvs.map (·.1)).zip uk⟩) (j4c cx g s Z' v) s:=by
 rcases _:bind_some e with⟨⟨w,Z1⟩,e1,e⟩
 induction w using AV.casesOn with
 | none=>
  rw[(q0h e).1,(q0h e).2]
  obtain⟨hh,gs,d,t,os⟩:=s
  have X:=i.X H
  refine make_core (makes_of X M.makes) (looks_findIn X M.ini) (λ self=>bind_fn X self M.iniFn) (.inl rfl) ?_
  have hn:=q0f ⟨hh,gs,d,t,os⟩
  have k1:∀b o,hh.get? b=some o->(hh.push emptyDict).get? b=some o:=λ b o e=>Heap.get?_push_of_some _ e
  have g1:(hh.push emptyDict).get? hh.objs.size=some emptyDict:=Heap.get?_push_size _ rfl
  have o1:OR cx (g.cell hh.objs.size) (hh.push emptyDict) hh.objs.size (.attrs (T.an.map λ J=>none)):=by
   refine⟨λ J=>none,?_,by rw[zH,H.an],h100,λ x v J hx=>?_,λ J J=>rfl⟩
   ·have:(T.an.map λ J=>(none:Option AV)).countP (·.isSome)=0:=by rw[List.countP_eq_zero];intro z hz;obtain⟨_,_,rfl⟩:=List.mem_map.mp hz;simp
    simp only[this];exact j1d g1
   ·rw[List.getElem?_map]at hx;rcases _:Option.map_eq_some_iff.mp hx with⟨_,_,hx⟩;contradiction
  have a1:Stp [] g ⟨hh,gs,d,t,os⟩ (g.cell hh.objs.size) ⟨hh.push emptyDict,gs,d,t,os⟩:=.newCell (t:=t) (jZ _) hn k1
  have i1:Inv cx (g.cell hh.objs.size) (Z++[.attrs (T.an.map λ J=>none)]) ⟨hh.push emptyDict,gs,d,t,os⟩:=i.newCell (t:=t) (jZ _) hn o1 k1
  have hn2:=q0f ⟨hh.push emptyDict,gs,d,t,os⟩
  have hsz:(hh.push emptyDict).objs.size=hh.objs.size+1:=Heap.size_push ..
  have k2:∀b o,(hh.push emptyDict).get? b=some o->((hh.push emptyDict).push (instObj cx.C hh.objs.size)).get? b=some o:=λ b o e=>Heap.get?_push_of_some _ e
  have g2:((hh.push emptyDict).push (instObj cx.C hh.objs.size)).get? (hh.objs.size+1)=some (instObj cx.C hh.objs.size):=by rw[<-hsz];exact Heap.get?_push_size _ rfl
  have hn3:(hh.push emptyDict).get? (hh.objs.size+1)=none:=by rw[<-hsz];exact hn2
  have a2:Stp [] (g.cell hh.objs.size) ⟨hh.push emptyDict,gs,d,t,os⟩ ((g.cell hh.objs.size).freeze (hh.objs.size+1) (instObj cx.C hh.objs.size)) ⟨(hh.push emptyDict).push (instObj cx.C hh.objs.size),gs,d,t,os⟩:=
   .freeze (t:=t) i1 (jZ _) hn3 k2
  have i2:=i1.freeze (t:=t) (o:=instObj cx.C hh.objs.size) (jZ _) hn3 g2 k2
  have a12:=a1.trans a2
  have self:VR cx ((g.cell hh.objs.size).freeze (hh.objs.size+1) (instObj cx.C hh.objs.size)) (.obj Z.length) (.ref (hh.objs.size+1)):=by
   exact ROb.mk _ _ rfl (G.freeze_self _ _ _) (by rw[<-i.len];exact List.getElem?_concat_length)
  have hw:∀k,(Code.builtin "type.__call__" ⟨.ref cx.C::us,k⟩).weight=1:=λ k=>rfl
  have hc:∀k,(Code.builtin "type.__call__" ⟨.ref cx.C::us,k⟩).cUnits=1:=λ k=>rfl
  refine codeAny_mono (Cf.run e1 (A:=A.under (.builtin "type.__call__" ⟨.ref cx.C::us,(kvs.map (·.1)).zip uk⟩)) ⟨hA.handled,?_,?_⟩ i2 (.cons self (q.mono a12.le)) (qk.mono a12.le)) λ r s' z=>?_
  ·have:=hA.depth;show A.depth+(Code.builtin "type.__call__" ⟨.ref cx.C::us,_⟩).weight+4 * n+6<recursionLimit;rw[hw];exact jJ (zA (congrArg (· + 6) (Nat.add_right_comm A.depth 1 (4 * n)))) (jJ (Nat.add_le_add_left (by decide:7<=8) _) hA.depth)
  ·have:=hA.units;show A.units+(Code.builtin "type.__call__" ⟨.ref cx.C::us,_⟩).cUnits+60 * n+80<cLine;rw[hc];exact jJ (zA (congrArg (· + 80) (Nat.add_right_comm A.units 1 (60 * n)))) (jJ (Nat.add_le_add_left (by decide:81<=100) _) hA.units)
  ·rcases r with e|(y|_|_|_)<;>first|exact z.elim|skip
   obtain⟨g',a3,i3,r3⟩:=z
   refine⟨r3.of_none,g',a12.trans a3,i3,self.mono a3.le⟩
 | _=>exact nope e
end
theorem w6y:isSubtype (.type "list") (.type "module")=pure false:=by rw[isSubtype_type];kernel_rfl
theorem w9b:isSubtype (.type "str") (.type "module")=pure false:=by rw[isSubtype_type];kernel_rfl
theorem k3a:∃sig,Manifest.signature? "list.append" = some sig/\∀a b,Bind.checkArgs "list.append" { sig with full:=toString (Bind.lastOf "list")++toString "."++toString (Bind.lastOf "list.append") } ⟨[a,b],[]⟩=pure ():=⟨(Manifest.signature? "list.append").get (by decide +kernel),(Option.some_get _).symm,λ J J=>by kernel_rfl⟩
theorem j1o:∃sig,Manifest.signature? "str.join" = some sig/\∀a b,Bind.checkArgs "str.join" { sig with full:=toString (Bind.lastOf "str")++toString "."++toString (Bind.lastOf "str.join") } ⟨[a,b],[]⟩=pure ():=⟨(Manifest.signature? "str.join").get (by decide +kernel),(Option.some_get _).symm,λ J J=>by kernel_rfl⟩
theorem z8b:builtinKind "list.append" = some .method:=by decide +kernel
theorem k5y:builtinKind "str.join" = some .method:=by decide +kernel
section
variable {T:Tab} {n:Nat} {r:Ev} {C:q0b} {ks:Kinds} {ns:tL} {env:Env} {g g':G} {vs vs':Vs} {Z Z' Z'':Store} {s s':Shared} {A:Around} {v f:AV} {u uf:Value} {ex:Expr} {x:Str}
theorem z3i {p:Addr} {k:Nat} {items:Array Value} {y:Value} {Q:Unit->Shared->Prop} {E:Value->Shared->Prop} (ho:s.heap.get? p=some { cls:=.type "list",data:=.seq items k }) (hq:Q () s) :
  tw (checkBoundCall "list.append" ⟨[.ref p,y],[]⟩) Q E s:=by
 rcases _:k3a with⟨sig,hs,hk⟩
 have hT:s.TypeIs (.ref p) "list":=⟨_,ho,rfl⟩
 have hv:Manifest.varargsMethods.contains "list.append" = false:=by rfl
 simp only[checkBoundCall,hs,z8b,hv]
 refine wpAny_ite_split (λ h=>absurd h tA) λ J=>?_
 refine tG (wpAny_isInstance hT w6y ?_)
 refine wpAny_ite_split (λ h=>absurd h tA) λ J=>?_
 refine tG ?_
 refine tG ?_
 refine wpAny_loadPart ho (tJ ?_)
 dsimp only
 refine wpAny_ite_split (λ h=>absurd h tA) λ J=>?_
 refine tG (wpAny_typeOf hT ?_)
 dsimp only
 rw[hk]
 exact tJ hq
theorem k1s {p:Str} {t:Tok} {y:Value} {Q:Unit->Shared->Prop} {E:Value->Shared->Prop} (hq:Q () s) :
  tw (checkBoundCall "str.join" ⟨[.str p t,y],[]⟩) Q E s:=by
 rcases _:j1o with⟨sig,hs,hk⟩
 have hT:s.TypeIs (.str p t) "str":=typeIs_str _ _ _
 have hv:Manifest.varargsMethods.contains "str.join" = false:=by rfl
 simp only[checkBoundCall,hs,k5y,hv]
 refine wpAny_ite_split (λ h=>absurd h tA) λ J=>?_
 refine tG (wpAny_isInstance hT w9b ?_)
 refine wpAny_ite_split (λ h=>absurd h tA) λ J=>?_
 refine tG ?_
 refine tG ?_
 refine tJ (tJ ?_)
 refine wpAny_ite_split (λ h=>absurd h tA) λ J=>?_
 refine tG (wpAny_typeOf hT ?_)
 dsimp only
 rw[hk]
 exact tJ hq
theorem j2q {a:Addr} {id:String} {w:Value} {us:tU} {R:Result->Shared->Prop} (ho:s.heap.get? a=some (z3h (.builtin id) w)) (hq:(Code.builtin id ⟨w::us,[]⟩).quiet=true)
  (h:wpAny cx.M A.in1 (checkBoundCall id ⟨w::us,[]⟩) (λ J s'=>codeAny cx.M A (.builtin id ⟨w::us,[]⟩) R s') (λ J J=>False) s):codeAny cx.M A (.call (.ref a) ⟨us,[]⟩) R s:=by
 refine codeAny_of_tree ?_
 show wpAny _ A.in1 (callAny (.ref a) _) _ _ s
 dsimp only[callAny]
 refine tG (wpAny_load ho ?_)
 exact tG (wpAny_mono h (λ J s' z=>tJ ⟨hq,z⟩) λ J J z=>z.elim)
theorem k4b {l:Nat} {xs:tW} {b w:Value} {a:Addr} (hA:AOk n A) (i:tI) (e:Z[l]? = some (.list xs)) (hz:xs.length<sizeLine) (ho:s.heap.get? a=some (z3h (.builtin "list.append") w)) (ra:VR cx g (.loc l) w) (rb:VR cx g v b) :
  tw (call (.ref a) [b]) (PX cx g s (Z.set l (.list (xs++[v]))) .none) NoE s:=by
 rcases _:ra.of_loc with⟨p,rfl,hl⟩
 obtain⟨vs,⟨k,hv⟩,q,z⟩:=i.cells _ _ _ e hl
 refine PE.x (wpAny_call (j2q ho (plainId_quiet F.slot_list_append.plain _) (z3i hv (codeAny_builtin F.entry_list_append ?_))))
 show wpAny _ _ (updateSeq p (·.push b) >>= λ J=>ret .none) _ _ s
 refine tG ?_
 have hsz:vs.toArray.size<=sizeLine:=by simp only[List.size_toArray,<-q.length];exact z
 refine wpAny_updateSeq hv rfl (tJ ?_)
 have hp:(s.heap.update p (Obj.mapSeq (·.push b))).PlainList p (vs.toArray.push b):=⟨k+1,by rw[Heap.get?_update_self _ hv (by rfl),Obj.mapSeq_push_plain]⟩
 exact PE.set (o:=.list (xs++[v])) (t:=s.toks) i hl ⟨vs++[b],by simpa using hp,q.append (.cons rb .nil),by simp;assumption⟩ (Heap.SameBut.update ..) .none_
theorem j5b {sep:Str} {xs:tW} {ts:tL} {a:Addr} {b w:Value} (hA:AOk n A) (i:tI) (e:q0i Z v=some xs) (h:q0z xs=some ts) (hz:(ts.map (·.length)).sum+ts.length * sep.length<=sizeLine) (ho:s.heap.get? a=some (z3h (.builtin "str.join") w)) (ra:VR cx g (.str sep) w) (rb:VR cx g v b) :
  tw (call (.ref a) [b]) (PX cx g s Z (.str (Txt.join sep ts))) NoE s:=by
 rcases _:ra.of_str with⟨t,rfl,_⟩
 rcases _:q0q i e rb with⟨p,vs,rfl,hp,rp,zp⟩
 obtain⟨_,hS⟩:=q3t h rp
 rcases _:w6x hS with⟨l,rfl,rfl⟩
 have hok:JoinOk sep (l.map (·.1))=true:=joinOk_of (by exact hz)
 have hj:=hok
 unfold JoinOk at hj
 refine PE.x (wpAny_call (j2q ho (plainId_quiet F.slot_str_join.plain _) (k1s (codeAny_builtin F.entry_str_join ?_))))
 exact meets_str_join_list sep t p l (by simpa using hj) cx.prog cx.w A (wants (PE cx g s Z (.str (Txt.join sep (l.map (·.1))))) NoE) s ⟨hp.isList,post_join l ⟨joinOk_length hok,λ t' k=>.tok i (.str_ _ (joinOk_length hok)) _⟩⟩
theorem v1v {a f:Addr} {w:Value} {us:tU} {kw:tV} {R:Result->Shared->Prop} (ho:s.heap.get? a=some (methodObj (.ref f) w))
  (h:codeAny cx.M A (.call (.ref f) ⟨w::us,kw⟩) R s):codeAny cx.M A (.call (.ref a) ⟨us,kw⟩) R s:=by
 refine codeAny_of_tree ?_
 show wpAny _ A.in1 (callAny (.ref a) _) _ _ s
 dsimp only[callAny]
 refine tG (wpAny_load ho ?_)
 exact tJ ⟨rfl,h⟩
theorem pxE {t:Sem Value} {w:AV} {Z1:Store} (h:some (w,Z1)=some (v,Z')) (p:tw t (PX cx g s Z1 w) NoE s):tw t (PX cx g s Z' v) NoE s:=by obtain⟨rfl,rfl⟩:=Prod.mk.inj (zE h);exact p
theorem pxM {α:Type} {o:Option α} {fo:α->AV×Store} {t:Sem Value} (h:o.map fo=some (v,Z')) (p:∀a,o=some a->tw t (PX cx g s (fo a).2 (fo a).1) NoE s):tw t (PX cx g s Z' v) NoE s:=by
 induction o with
 | none=>exact nope h
 | some a=>
  have q:=p a rfl
  rw[show fo a=(v,Z')from zE h]at q
  exact q
theorem VRs.c1 {x:AV} {us:tU} {kw:tV} {fv:Value} {Q:Value->Shared->Prop} {E:Value->Shared->Prop} (R:VRs cx g [x] us) (k:∀u,VR cx g x u->tw (call fv [u] kw) Q E s):tw (call fv us kw) Q E s:=R.e1 (P:=λ us=>tw (call fv us kw) Q E s) k
section
variable {g:G} {Z Z':Store} {s:Shared} {A:Around} {v x:AV} {u:Value} {xs:tW} {us:tU} {α:Type} {a:α} {P:Prop} {Q:List Value->Prop}
theorem w7o {f:AV->Option α} (R:VRs cx g xs us) (h:(one xs).bind f=some a) (k:∀x u,VR cx g x u->f x=some a->Q [u]):Q us:=match xs,R,h with
 | [x],R,h=>R.e1 λ u r=>k x u r h
 | [],_,h=>nope h
 | _::_::_,_,h=>nope h
theorem k8p {f:AV×AV->Option α} (R:VRs cx g xs us) (h:(two xs).bind f=some a) (k:∀x y u w,VR cx g x u->VR cx g y w->f (x,y)=some a->Q [u,w]):Q us:=match xs,R,h with
 | [x,y],R,h=>R.e2 λ u w r q=>k x y u w r q h
 | [],_,h=>nope h
 | [_],_,h=>nope h
 | _::_::_::_,_,h=>nope h
theorem j8h {f:AV×AV×AV->Option α} (R:VRs cx g xs us) (h:(three xs).bind f=some a) (k:∀x y z u w q,VR cx g x u->VR cx g y w->VR cx g z q->f (x,y,z)=some a->Q [u,w,q]):Q us:=match xs,R,h with
 | [x,y,z],R,h=>R.e3 λ u w q r r' r''=>k x y z u w q r r' r'' h
 | [],_,h=>nope h
 | [_],_,h=>nope h
 | [_,_],_,h=>nope h
 | _::_::_::_::_,_,h=>nope h
theorem k2k {f:Nat->Option α} (r:VR cx g x u) (h:(locV x).bind f=some a) (k:∀l,VR cx g (.loc l) u->f l=some a->P):P:=by
 rcases x<;>first|exact nope h|exact k _ r h
theorem z2v {f:Str->Option α} (r:VR cx g x u) (h:(strV x).bind f=some a) (k:∀l,VR cx g (.str l) u->f l=some a->P):P:=by
 rcases x<;>first|exact nope h|exact k _ r h
theorem k5t {f:Int->Option α} (r:VR cx g x u) (h:(intV x).bind f=some a) (k:∀l,VR cx g (.int l) u->f l=some a->P):P:=by
 rcases x<;>first|exact nope h|exact k _ r h
theorem iv_E {f:AV->Option α} (r:VR cx g x u) (h:(ivV x).bind f=some a) (k:∀l,VR cx g (.iv l) u->f l=some a->P):P:=by
 rcases x<;>first|exact nope h|exact k _ r h
theorem bm_E {f:AV×AV->Option α} (q:VRs cx g xs us) (h:(two (x::xs)).bind f=some a) (k:∀y u,VR cx g y u->f (x,y)=some a->Q [u]):Q us:=match xs,q,h with
 | [y],q,h=>q.e1 λ u r=>k y u r h
 | [],_,h=>nope h
 | _::_::_,_,h=>nope h
end
theorem w2t {kvs:tC} (h:kvs.isEmpty=true) (uk:tU):(kvs.map (·.1)).zip uk=[]:=by cases kvs<;>simp at h ⊢
theorem z7l (Cf:CfOk cx n C) {a:Addr} {xs:tW} {kvs:tC} {us uk:tU} (e:C a xs kvs Z=some (v,Z')) (hA:AOk n A) (i:tI) (q:VRs cx g xs us) (qk:VRs cx g (kvs.map (·.2)) uk) :
  codeAny cx.M A (.call (.ref a) ⟨us,(kvs.map (·.1)).zip uk⟩) (j4c cx g s Z' v) s:=
 codeAny_mono (Cf.run e hA.call i q qk) λ r s' z=>by rcases r with e|(w|_|_|_)<;>first|exact z|exact z.elim
section
variable (H:q6d cx T) (M:w2u cx T) (B:BiOk cx n) (Cf:CfOk cx n C) (h100:cx.an.length<=100) {xs:tW} {kvs:tC} {us uk:tU} (hA:AOk n A) (i:tI) (q:VRs cx g xs us) (qk:VRs cx g (kvs.map (·.2)) uk)
include H M B Cf h100 hA i q qk
theorem k9a {a:Addr} (e:(if a=T.C then z8j T C xs kvs Z else C a xs kvs Z)=some (v,Z')) (rf:VR cx g (.fn a) uf):tw (call uf us ((kvs.map (·.1)).zip uk)) (PX cx g s Z' v) NoE s:=by
 subst rf
 exact ifE e (λ hc e=>by rw[hc,H.C];exact q2i (v2c H M Cf h100 e hA i q qk)) λ J e=>q2i (z7l Cf e hA i q qk)
theorem k8y {b:BI} (e:(if kvs.isEmpty then biA b xs Z else none)=some (v,Z')) (rf:VR cx g (.bf b) uf):tw (call uf us ((kvs.map (·.1)).zip uk)) (PX cx g s Z' v) NoE s:=by
 subst rf
 exact q0k e λ hk e=>by rw[w2t hk];exact B e hA i q
theorem k8z {b:BI} {x:AV} (e:(if(kvs.isEmpty&&k5v b)=true then biA b (x::xs) Z else none)=some (v,Z')) (rf:VR cx g (.bm b x) uf):tw (call uf us ((kvs.map (·.1)).zip uk)) (PX cx g s Z' v) NoE s:=by
 obtain⟨a,w,rfl,hi,rw'⟩:=rf
 refine q0k e λ hk e=>?_
 obtain⟨hk,hb⟩:=Bool.and_eq_true_iff.mp hk
 rw[w2t hk]
 have hi:=i.sub _ _ hi
 clear qk hk H M B Cf h100
 revert e hb
 rcases b<;>first
  | exact λ J hb=>nob hb
  | exact λ e J=>bm_E (Q:=λ us=>tw (call _ us) _ _ _) q e λ y u h1 e=>k2k rw' e λ l rw' e=>q7s e λ ys hy e=>q0k e λ hz e=>pxE e (k4b hA i hy hz hi rw' h1)
  | exact λ e J=>bm_E (Q:=λ us=>tw (call _ us) _ _ _) q e λ y u h1 e=>z2v rw' e λ l rw' e=>q5l e λ ys e1 e=>q5l e λ ts e2 e=>q0k e λ hz e=>pxE e (j5b hA i e1 e2 hz hi rw' h1)
theorem k9b {a:Addr} {x:AV} (e:C a (x::xs) kvs Z=some (v,Z')) (rf:VR cx g (.mt a x) uf):tw (call uf us ((kvs.map (·.1)).zip uk)) (PX cx g s Z' v) NoE s:=by
 obtain⟨a',w,rfl,hi,rw'⟩:=rf
 exact q2i (v1v (i.sub _ _ hi) (z7l Cf e hA i (.cons rw' q) qk))
theorem z3g (e:q7i T C f xs kvs Z=some (v,Z')) (rf:VR cx g f uf):tw (call uf us ((kvs.map (·.1)).zip uk)) (PX cx g s Z' v) NoE s:=by
 revert e rf
 rcases f<;>first
  | exact λ e J=>nope e
  | exact λ e r=>k9a H M B Cf h100 hA i q qk e r
  | exact λ e r=>k8y H M B Cf h100 hA i q qk e r
  | exact λ e r=>k8z H M B Cf h100 hA i q qk e r
  | exact λ e r=>k9b H M B Cf h100 hA i q qk e r
theorem k3s {c:Callee} {fx:Value×List Value} (e:w4k T C c xs kvs Z=some (v,Z')) (rf:MR cx g c fx) :
  tw (call fx.1 (fx.2++us) ((kvs.map (·.1)).zip uk)) (PX cx g s Z' v) NoE s:=by
 obtain⟨f1,f2⟩:=fx
 exact match c,e,rf with
 | .val f,e,⟨h1,h2⟩=>by subst h1;exact z3g H M B Cf h100 hA i q qk e h2
 | .fn a x,e,⟨h1,w,h2,h3⟩=>by subst h1;subst h2;exact q2i (z7l Cf e hA i (.cons h3 q) qk)
 | .bi b x,e,⟨h1,w,h2,h3⟩=>by subst h1;subst h2;exact q0k e λ hk e=>by rw[w2t hk];exact B e hA i (.cons h3 q)
end
theorem z7z (H:q6d cx T) (M:w2u cx T) (Cf:CfOk cx n C) {c:Callee} {fx:Value×List Value} {xs:tW} {kvs:tC} {res:AV×Store} (e:w4k T C c xs kvs Z'=some res) (i:tI) (rf:MR cx g c fx) (h:Heap) (k:∀a o,g.I a=some o->h.get? a=some o) :
  ∃k,(k=Keeper.frame\/k=Keeper.machine\/k=Keeper.boundFrame)/\Looks cx.M h (keeperOf fx.1) k:=by
 have X:=K_at H i k
 exact match c,e,rf with
 | .val f,e,rf=>w9r H M Cf e i rf.2 h k
 | .fn a x,e,rf=>rf.1▸keeps_K (Cf.fn e).1 h X
 | .bi b x,e,rf=>rf.1▸BI.keeps _ h
theorem z8h {p:Pos} {args:List Expr} {kws:List Keyword} {xs:tW} {kvs:tC} {Z1:Store} (e1:evals r ks ns args vs Z=some (xs,Z1)) (e2:q9q r ks ns kws vs Z1=some (kvs,Z')) (hz:args.length+kws.length<28) :
  methodCallForm (args.length+kws.length) (backTo p (starEach args env)) (backToKw p (keywordEach kws env))=true:=by
 rcases _:z1i (p:=p) e2 env with⟨k1,k2,k3,k4⟩
 obtain⟨n1,n2⟩:=k6u (p:=p) e1 env
 unfold methodCallForm
 rw[k2]
 have:(backTo p (starEach args env)).all (λ x=>!x.1)=true:=by
  rw[List.all_eq_true];intro y hy
  have:=List.any_eq_false.mp n1 y hy
  simpa using this
 rw[this]
 simp only[Bool.and_self,Bool.true_and,decide_eq_true_eq]
 split<;>decreasing_trivial
theorem k9n (H:q6d cx T) (M:w2u cx T) (B:BiOk cx n) (Cf:CfOk cx n C) (h100:cx.an.length<=100) (R:EOk cx n r.e) (hA:AOk n A) (i:tI) (E:ER cx ks ns env g vs s) {o:Expr} {ap cp:Pos} {args:List Expr} {kws:List Keyword}
  (hs:q6q o=true) (hl:ap.endLine=cp.line) (hz:args.length+kws.length<28)
  (e:v1u T C r ks ns o x args kws vs Z=some (v,Z')):tw (eval (.Call (.Attribute o x ap) args kws cp) env) (PX cx g s Z' v) NoE s:=by
 refine q0e e λ w Z1 e1 e=>q5l e λ c e2 e=>q0e e λ xs Z2 e3 e=>q0e e λ kvs Z3 e4 e=>?_
 refine tG (z0q hs (q0r R hA i E e1 λ g1 s₁ u1 a1 i1 E1 r1=>tG (wpAny_standAt ?_)))
 dsimp only[methodCall]
 rw[z8h e3 e4 hz]
 have hpos:methodCallPos true o env ap cp=pure cp:=by unfold methodCallPos;simp[hl]
 refine tG (wpAny_holding ?_)
 (refine wpAny_mono (k6p H i1 r1 e2) (λ fx s₂ zz0=>?_) λ J J x=>x;rcases _:zz0 with⟨g2,a2,i2,m2⟩)
 obtain⟨fv,first⟩:=fx
 refine tG (wpAny_of_eq hpos ?_)
 refine w4r R hA i2 (E1.go a2) e3 e4 (HP:=λ h=>∀a o,g2.I a=some o->h.get? a=some o) (λ h k=>z7z H M Cf e i2 m2 h k) λ g3 s3 us uk a3 i3 q qk=>⟨λ a o z=>i3.sub _ _ (a3.le.I _ _ z),?_⟩
 have m3:MR cx g3 c (fv,first):=by
  induction c with
  | val w=>exact⟨m2.1,m2.2.mono a3.le⟩
  | fn a o=>obtain⟨h1,w,h2,h3⟩:=m2;exact⟨h1,w,h2,h3.mono a3.le⟩
  | bi b o=>obtain⟨h1,w,h2,h3⟩:=m2;exact⟨h1,w,h2,h3.mono a3.le⟩
 exact PX.lift ((a1.trans a2).trans a3) (k3s H M B Cf h100 hA i3 q qk e m3)
theorem v0f (H:q6d cx T) (M:w2u cx T) (B:BiOk cx n) (Cf:CfOk cx n C) (h100:cx.an.length<=100) (R:EOk cx n r.e) (hA:AOk n A) (i:tI) (E:ER cx ks ns env g vs s) {o:Expr} {cp:Pos} {args:List Expr} {kws:List Keyword}
  (ho:∀a b c,o≠.Attribute a b c)
  (e:j9x T C r ks ns o args kws vs Z=some (v,Z')):tw (eval (.Call o args kws cp) env) (PX cx g s Z' v) NoE s:=by
 refine q0e e λ w Z1 e1 e=>q0e e λ xs Z2 e3 e=>q0e e λ kvs Z3 e4 e=>?_
 have arm:eval (.Call o args kws cp) env=(do callWith cp (<-eval o env) [] (backTo cp (starEach args env)) (backToKw cp (keywordEach kws env))):=by
  rcases o<;>first|rfl|exact absurd rfl (ho _ _ _)
 rw[arm]
 refine tG (q0r R hA i E e1 λ g1 s₁ u1 a1 i1 E1 r1=>?_)
 refine w4r R hA i1 E1 e3 e4 (HP:=λ h=>∀a o,g1.I a=some o->h.get? a=some o) (λ h k=>w9r H M Cf e i1 r1 h k) λ g3 s3 us uk a3 i3 q qk=>⟨λ a o z=>i3.sub _ _ (a3.le.I _ _ z),?_⟩
 exact PX.lift (a1.trans a3) (z3g H M B Cf h100 hA i3 q qk e (r1.mono a3.le))
theorem k6g {ex:Expr} (i:tI) (E:ER cx ks ns env g vs s) (e:litN ks ns ex vs=some v):tw (eval ex env) (PX cx g s Z v) NoE s:=by
 refine optE e λ x h e=>q0k e λ hk e9=>?_
 obtain⟨p,rfl⟩:=w0w h
 obtain⟨h1,h2⟩:=Bool.and_eq_true_iff.mp hk
 simp only[Bool.not_eq_true',Bool.or_eq_false_iff]at h1
 exact z7q E i (k0z h2) h1.1 h1.2 e9
theorem k6f {ex:Expr} (hA:AOk n A) (i:tI) (E:ER cx ks ns env g vs s) {q:Str} (e:litA ks ns ex vs Z=some q):tw (eval ex env) (PX cx g s Z (.lit q)) NoE s:=by
 refine optM e (λ c h e=>optE e λ x h2 e=>q0k e λ hz e9=>?_) λ J e=>optM e (λ J J e=>optE e λ w h2 e9=>?_) λ J e=>optE e λ oq h e=>optE e λ w h2 e=>optE e λ c h3 e=>optE e λ j h4 e=>optE e λ y h5 e9=>?_
 ·obtain⟨k,p,rfl⟩:=w0q h
  obtain rfl:=z9h h2
  obtain rfl:=zE e9
  exact wpAny_Constant_str (j3g i hz)
 ·obtain rfl:=j3f e9
  exact k6g i E h2
 ·obtain rfl:=j3f e9
  obtain⟨o,j'⟩:=oq
  obtain⟨p,rfl⟩:=k8j h
  obtain⟨k,p',rfl⟩:∃k p,j' = .Constant c k p:=w0q h3
  obtain rfl:=j6h h4
  refine tG (PX.then (k6g i E h2) λ g1 s₁ u1 a1 i1 r1=>tG (wpAny_holding (PX.then (z0y (v:=.int _) (Z:=Z) rfl i1) λ g2 s₂ u2 a2 i2 r2=>tG (wpAny_standAt ?_))))
  rcases _:k5r (A:=A) i2 h5 (r1.mono a2.le) r2 with⟨T',id,hT,hl,h⟩
  exact z2x hT hl (PE.up' (a1.trans a2) h)
theorem z4m {ex:Expr} {q:Str} (e:litA ks ns ex vs Z=some q):∀y z,ex≠.Starred y z:=λ y z h=>by subst h;exact nope e
theorem w6u {p:Pos} {a b:Expr} {P:List Value->Shared->Prop} {E:Value->Shared->Prop} (h:tw (eval a env) (λ u s₁=>tw (eval b env) (λ w s₂=>P [u,w] s₂) E s₁) E s):tw (spliced (backTo p [(false,eval a env),(false,eval b env)])) P E s:=by
 refine Calls.spliced_cons (wpAny_mono h (λ u s₁ h1=>Calls.spliced_cons (wpAny_mono h1 (λ w s₂ h2=>Calls.spliced_nil h2) λ J J x=>x)) λ J J x=>x)
theorem z8f {x y z:Str} (h:x.length+(x.length+1) * z.length<=sizeLine):(Txt.replace x y z).length<=sizeLine:=by
 unfold Txt.replace
 split
 ·exact jH (zC _ _) h
 ·exact fits_replaced y (by exact h)
theorem k4z (R:EOk cx n r.e) (hA:AOk n A) (i:tI) (E:ER cx ks ns env g vs s) {o a b:Expr} {ap cp:Pos} {p q x:Str} {Z1:Store}
  (hs:q6q o=true) (hl:ap.endLine=cp.line) (e1:r.e ks ns o vs Z=some (.str x,Z1)) (e2:litA ks ns a vs Z1=some p) (e3:litA ks ns b vs Z1=some q) (hc:p≠q/\x.length+(x.length+1) * q.length<=sizeLine) :
  tw (eval (.Call (.Attribute o ("replace" : Str) ap) [a,b] [] cp) env) (PX cx g s Z1 (.str (Txt.replace x p q))) NoE s:=by
 refine tG (z0q hs (q0r R hA i E e1 λ g1 s₁ u1 a1 i1 E1 r1=>tG (wpAny_standAt ?_)))
 unfold methodCall
 have st:starEach [a,b] env=[(false,eval a env),(false,eval b env)]:=by rw[q0u (z4m e2),q0u (z4m e3)];rfl
 have hform:methodCallForm ([a,b].length+([]:List Keyword).length) (backTo cp (starEach [a,b] env)) (backToKw cp (keywordEach [] env))=true:=by rw[st];rfl
 rw[hform]
 have hpos:methodCallPos true o env ap cp=pure cp:=by unfold methodCallPos;simp[hl]
 refine tG (wpAny_holding ?_)
 rcases _:r1.of_str with⟨t,rfl,tz⟩
 refine z4t ?_
 refine tG (wpAny_of_eq hpos ?_)
 refine callWith_of (P:=λ J=>True) (by rw[st];rfl) (λ h J=>q2o h) ?_
 rw[st]
 refine Calls.evalArgs_plain (w6u ?_)
 refine PX.then (k6f hA i1 E1 e2) λ g2 s₂ u2 a2 i2 r2=>PX.then (k6f hA i2 (E1.go a2) e3) λ g3 s3 u3 a3 i3 r3=>⟨trivial,?_⟩
 obtain⟨t2,rfl,z2,τ2,n2⟩:RLit g3 u2 p:=r2.mono a3.le
 obtain⟨t3,rfl,z3,τ3,n3⟩:RLit g3 u3 q:=r3
 refine PE.up' ((a1.trans a2).trans a3) (SC.replace n2 n3 (λ h=>?_) (by simpa using hc.1) (by have:=hc.2;exact this) λ t' k=>.tok i3 (.str_ _ (z8f hc.2)) _)
 rw[h,τ3]at τ2
 exact hc.1 (zE τ2).symm
end
def k3y (f:Fn) (args:tW) (kws:tC):Option tC:=
 if f.kws.contains (kws.map (·.1))=true then(z7h f.pars (args++f.dfl)).map λ ps=>ps++f.kwd.map λ kd=>(kd.1,(q1i kd.1 kws).getD kd.2)else none
def k9e:AV->Bool
 | .str _=>true
 | .fl xs=>(q9f xs).isSome
 | _=>false
noncomputable def v4m:AV->Option Bool | .bool b=>some b|_=>none
def z3z (T:Tab) (C:q0b):q0b:=λ a args kws Z=>if a=T.fr then
  (if(q2y Z&&args.all k9e&&kws.isEmpty)=true then(C a args [] [.code]).bind λ p=>(v4m p.1).bind λ b=>if q2y p.2=true then some (.bool b,Z)else none else none)
 else C a args kws Z
noncomputable def w1w (T:Tab):Nat->q0b
 | 0=>λ J J J J=>none
 | n+1=>λ a args kws Z=>do
  let f <-T.fn.lookup a
  let bs <-k3y f args kws
  let ns:=q0d f.scope
  let (fl,_,Z) <-q1b (evN T (z3z T (w1w T n)) 40) f.scope.names ns f.body (bs.foldl (λ vs (x,v)=>putV ns vs x v) (ns.map λ J=>.none)) Z
  match fl with
  | .next=>some (.none,Z)
  | .ret v=>some (v,Z)
theorem z8g {ps:tL} {us:tU} (h:ps.length=us.length):(ps.zip us).map (·.1)=ps:=by rw[<-List.unzip_fst,List.unzip_zip h]
noncomputable def pick:List Str->List Value->List (Str×Value)->List (Str×Value)
 | n::ns,d::ds,kw=>(n,(kw.lookup n).getD d)::pick ns ds kw
 | _,_,_=>[]
inductive j2g (cx:Cx) (f:Fn) (fd:FuncData):Prop
 | mk (dv kv:tU) (hd:∀g:G,(∀a o,cx.h₀.get? a=some o->g.I a=some o)->VRs cx g f.dfl dv/\VRs cx g (f.kwd.map (·.2)) kv)
   (run:∀kn∈f.kws,∀us uk:List Value,us.length+f.dfl.length=f.pars.length->uk.length=kn.length->∀s:Shared,cx.K.In s.heap->BindsTo s fd ⟨us,kn.zip uk⟩ (f.pars.zip (us++dv)++pick (f.kwd.map (·.1)) kv (kn.zip uk)))
theorem w1u:∀{ps:tL} {xs:tW} {bs:tC},z7h ps xs=some bs->ps.length=xs.length/\bs.map (·.1)=ps/\bs.map (·.2)=xs
 | [],[],_,e=>by cases e;exact⟨rfl,rfl,rfl⟩
 | p::ps,x::xs,bs,e=>by
  refine mapQ e λ b e1 h=>?_
  subst h
  obtain⟨h1,h2,h3⟩:=w1u e1
  exact⟨congrArg (· + 1) h1,congrArg (p :: ·) h2,congrArg (x :: ·) h3⟩
 | [],_::_,_,e=>nope e
 | _::_,[],_,e=>nope e
section
variable {T:Tab}
theorem j6n {kws:tC} {uk:tU} (q:VRs cx g (kws.map (·.2)) uk) (k:Str):(q1i k kws=none/\((kws.map (·.1)).zip uk).lookup k=none)\/∃w u,q1i k kws=some w/\((kws.map (·.1)).zip uk).lookup k=some u/\VR cx g w u:=by
 induction kws generalizing uk with
 | nil=>exact .inl ⟨rfl,rfl⟩
 | cons a kws ih=>
  obtain⟨b,us,rfl,h1,h2⟩:=VRs.uncons (show VRs cx g (a.2::kws.map (·.2)) uk from q)
  obtain⟨k',w⟩:=a
  by_cases hk:k'=k
  ·subst hk;exact .inr ⟨w,b,by simp[q1i],by simp[List.lookup_cons],h1⟩
  ·have hk':(k==k')=false:=beq_false_of_ne λ e=>hk e.symm
   have e1:q1i k ((k',w)::kws)=q1i k kws:=by simp[q1i,hk]
   have e2:((((k',w)::kws).map (·.1)).zip (b::us)).lookup k=((kws.map (·.1)).zip us).lookup k:=by simp[List.lookup_cons,hk']
   rw[e1,e2];exact ih h2
theorem k7g {kws:tC} {uk:tU} (q:VRs cx g (kws.map (·.2)) uk):∀{kwd:tC} {kv:tU},VRs cx g (kwd.map (·.2)) kv->
  ∃pv,pick (kwd.map (·.1)) kv ((kws.map (·.1)).zip uk)=(kwd.map (·.1)).zip pv/\VRs cx g (kwd.map λ kd=>(q1i kd.1 kws).getD kd.2) pv
 | [],_,_=>⟨[],rfl,.nil⟩
 | (k,d)::kwd,kv,r=>by
  obtain⟨v,kv,rfl,rv,r⟩:=VRs.uncons (show VRs cx g (d::kwd.map (·.2)) kv from r)
  obtain⟨pv,e,rp⟩:=k7g q r
  rcases j6n q k with⟨f1,f2⟩|⟨w,u,f1,f2,f3⟩
  ·exact⟨v::pv,by show(k,_)::pick _ _ _=_;rw[f2,e];rfl,by rw[List.map_cons,f1];exact .cons rv rp⟩
  ·exact⟨u::pv,by show(k,_)::pick _ _ _=_;rw[f2,e];rfl,by rw[List.map_cons,f1];exact .cons f3 rp⟩
theorem w4q {f:Fn} {args:tW} {kws bs:tC} (e:k3y f args kws=some bs):bs.map (·.1)=f.pars++f.kwd.map (·.1):=by
 refine q0k e λ hk e=>mapE (P:=λ bs=>bs.map (·.1)=f.pars++f.kwd.map (·.1)) e λ ps e1=>?_
 simp only[List.map_append,(w1u e1).2.1,List.map_map];rfl
theorem k3z {f:Fn} {fd:FuncData} (B:j2g cx f fd) (X:cx.K.In s.heap) {args:tW} {kws:tC} {bs:tC} {us uk:tU} {P:List (Str×Value)->Shared->Prop} (e:k3y f args kws=some bs) (hI:∀a o,cx.h₀.get? a=some o->g.I a=some o) (q:VRs cx g args us) (qk:VRs cx g (kws.map (·.2)) uk)
  (h:∀ws,VRs cx g (bs.map (·.2)) ws->P ((bs.map (·.1)).zip ws) s):tw (bindArgs fd ⟨us,(kws.map (·.1)).zip uk⟩) P NoE s:=by
 have hn:=w4q e
 revert h
 rw[hn]
 refine q0k e λ hk e=>mapE (P:=λ bs=>(∀ws,VRs cx g (bs.map (·.2)) ws->P ((f.pars++f.kwd.map (·.1)).zip ws) s)->_) e λ ps e1 h=>?_
 obtain⟨l1,_,l3⟩:=w1u e1
 obtain⟨dv,kv,hd,run⟩:=B
 obtain⟨rd,rk⟩:=hd g hI
 obtain⟨pv,p1,p2⟩:=k7g qk rk
 rw[zI,q.length]at l1
 simp only[List.map_append,l3,List.map_map]at h
 refine run _ (List.contains_iff_mem.mp hk) us uk l1.symm (by rw[<-qk.length,zH,zH]) s X cx.M A NoE P ?_
 rw[p1,<-List.zip_append (by rw[zI,<-rd.length];exact l1)]
 exact h _ ((q.append rd).append p2)
end
structure ScOk (sc:Scope):Prop where
 kind:sc.kind = .function
 free:∀p∈sc.names,p.2≠.free
 co:sc.isCoroutine=false
 gen:sc.isGenerator=false
set_option tactic.hygienic true in theorem q2g:∀(names:List (Str×NameKind)) (n:Nat) (acc:List (Str×Addr)) (x:Str),((x,NameKind.cell)∈names\/∃c,acc.lookup x=some c)->∃c,(cellsFrom n names acc).lookup x=some c
 | [],_,_,_,h=>h.elim (λ h=>by simp at h) id
 | (y,k)::r,n,acc,x,h=>by
  dsimp only[cellsFrom]
  split
  ·refine q2g r _ _ x ?_
   by_cases hx:x=y
   ·subst hx;exact .inr ⟨n,by simp[List.lookup_cons]⟩
   ·rcases h with h|⟨c,h⟩
    ·rcases List.mem_cons.mp h with h|h
     ·rcases h;exact absurd rfl hx
     ·exact .inl h
    ·exact .inr ⟨c,by simp only[List.lookup_cons,beq_false_of_ne hx];exact h⟩
  ·rename_i hk
   refine q2g r _ _ x ?_
   rcases h with h|h
   ·rcases _:List.mem_cons.mp h with h|h
    ·rcases h;exact absurd rfl hk
    ·exact .inl h
   ·exact .inr h
theorem q8s (ns:tL) (x:Str):q6n ns (ns.map λ J=>none) x=none:=by
 unfold q6n
 rw[List.getElem?_map]
 cases ns[ns.idxOf x]?<;>rfl
section
variable {T:Tab}
theorem z9q {P:PUnit->Shared->Prop} (f:Str×Value->PUnit->Sem (ForInStep PUnit)) (hf:∀n v u,f (n,v) u=(do storeName env n v;pure (.yield ⟨⟩))):∀{bs:tC} {ws:tU} {g:G} {s:Shared} {vs:Vs},(∀p∈bs,q1x ks p.1=true)->
  Inv cx g Z s->ER cx ks ns env g vs s->VRs cx g (bs.map (·.2)) ws->(∀s',PA cx ks ns env g s (bs.foldl (λ vs (x,v)=>putV ns vs x v) vs) Z s'->P ⟨⟩ s')->tw (forIn ((bs.map (·.1)).zip ws) ⟨⟩ f) P NoE s
 | [],ws,g,s,vs,_,i,E,q,h=>by
  exact tJ (h s ⟨g,.refl _ _ _,i,E⟩)
 | (y,w)::bs,ws,g,s,vs,hs,i,E,q,h=>by
  rcases _:VRs.uncons (show VRs cx g (w::bs.map (·.2)) ws from q)with⟨u,us,rfl,h1,h2⟩
  rw[List.map_cons,List.zip_cons_cons,List.forIn_cons,hf]
  refine tG (tG (w4h i E (hs (y,w) (by simp)) h1 λ s₁ ⟨g1,a1,i1,E1⟩=>tJ ?_))
  refine z9q f hf (λ p hp=>hs p (by simp[hp])) i1 E1 (h2.mono a1.le) λ s₂ ⟨g2,a2,i2,E2⟩=>h s₂ ⟨g2,a1.trans a2,i2,E2⟩
theorem k0h {sc:Scope} (S:ScOk sc) {qual:Str} {func:Option Addr} {code:Value} (hcd:w9d g code/\((sc.names.lookup ("resolved_names" : Str)).isSome=true->code = .ref cx.lc/\qual=cx.lq)) {bs:tC} {ws:tU} {P:Env->Shared->Prop} (hs:∀p∈bs,q1x sc.names p.1=true) (i:tI) (q:VRs cx g (bs.map (·.2)) ws)
  (h:∀env g' s',(∀b∈ownK sc.names env,s.heap.get? b=none)->Stp (ownK sc.names env) g s g' s'->Inv cx g' Z s'->ER cx sc.names (q0d sc) env g' (bs.foldl (λ vs (x,v)=>putV (q0d sc) vs x v) ((q0d sc).map λ J=>none)) s'->P env s') :
  tw (newFunctionEnv sc cx.gA [] ((bs.map (·.1)).zip ws) qual func code none cx.bA) P NoE s:=by
 have hn:=q0f s
 simp only[newFunctionEnv,Option.isSome_none,Bool.false_eq_true,if_false]
 refine tG (wpAny_alloc ?_)
 refine tG (wpAny_layCells _ (λ name kind cells=>by rcases hkc:kind==NameKind.cell<;>dsimp[hkc]) _ _ _ _ ?_)
 have ok:=cellsFrom_ok sc.names (s.heap.push { cls:=.type "frame",data:=.dict #[] }) (s.heap.objs.size+1) [] ⟨λ J J hm=>(nomatch hm),List.Pairwise.nil⟩ (by simp only[Heap.size_push];exact jZ _)
 have k:∀b o,s.heap.get? b=some o->(pushCells (s.heap.push { cls:=.type "frame",data:=.dict #[] }) sc.names).get? b=some o:=λ b o e=>pushCells_keeps _ _ b o (Heap.get?_push_of_some _ e)
 have hns:(pushCells (s.heap.push { cls:=.type "frame",data:=.dict #[] }) sc.names).Ns tH (λ J=>none):=(Heap.Ns.new s.heap (.type "frame")).keeps (pushCells_keeps _ _)
 have hbig:∀{b:Addr},s.heap.objs.size<=b->s.heap.get? b=none:=λ{b} hb=>by
  generalize q:s.heap.get? b=zzy
  induction zzy with
  | none=>rfl
  | some o=>exact absurd (Heap.lt_size q) (Nat.not_lt.mpr hb)
 generalize hcs:cellsFrom (s.heap.push { cls:=.type "frame",data:=.dict #[] }).objs.size sc.names []=cs at ok
 generalize hh:pushCells (s.heap.push { cls:=.type "frame",data:=.dict #[] }) sc.names=hp at ok k hns
 have a0:Stp [] g s g { s with heap:=hp }:=.keeps (t:=s.toks) (jZ _) k
 have i0:Inv cx g Z { s with heap:=hp }:=i.keep (t:=s.toks) (jZ _) k
 let env:Env:={ scope:=sc,locals:=tH,globals:=cx.gA,cells:=cs,qual:=qual,func:=func,code:=code,frame:=some tH,builtins:=cx.bA }
 have E0:ER cx sc.names (q0d sc) env g ((q0d sc).map λ J=>none) { s with heap:=hp }:=by
  refine⟨S.kind,rfl,rfl,hcd,by simp,λ x=>.inl rfl,λ x hx=>?_,⟨_,hns,λ x v J e=>by rw[q8s]at e;contradiction⟩,⟨(i.fresh hn).2,(i.fresh hn).1⟩,λ x hx=>?_,λ x y c hx hy=>?_⟩
  ·skip
   rcases hx with hx|hx
   ·exact List.mem_map.mpr ⟨_,List.mem_filter.mpr ⟨mem_of_lookup hx,by rfl⟩,rfl⟩
   ·exact List.mem_map.mpr ⟨_,List.mem_filter.mpr ⟨mem_of_lookup hx,by rfl⟩,rfl⟩
  ·rcases hx with hx|hx
   ·obtain⟨c,hc⟩:=q2g sc.names (s.heap.push { cls:=.type "frame",data:=.dict #[] }).objs.size [] x (.inl (mem_of_lookup hx))
    rw[hcs]at hc
    obtain⟨o1,o2⟩:=ok.empty x c (mem_of_lookup hc)
    have hb:=hbig (b:=c) (zB o2)
    exact⟨c,hc,(i.fresh hb).2,(i.fresh hb).1,(Nat.ne_of_lt o2).symm,none,o1,λ v e=>by rw[q8s]at e;contradiction⟩
   ·exact absurd rfl (S.free _ (mem_of_lookup hx))
  ·exact name_of_addr ok.apart (mem_of_lookup hx) (mem_of_lookup hy)
 refine tG (z9q (env:=env) _ (λ J J J=>rfl) hs i0 E0 q λ s₁ ⟨g1,a1,i1,E1⟩=>tJ (h env g1 s₁ (λ b hb=>?_) (a0.own.trans a1) i1 E1))
 rcases List.mem_cons.mp hb with rfl|hb
 ·exact hn
 ·rcases _:List.mem_filterMap.mp hb with⟨⟨y,kk⟩,_,e⟩
  split at e
  ·exact hbig (zB (ok.empty y b (mem_of_lookup e)).2)
  ·contradiction
inductive FnIs (cx:Cx) (a:Addr) (f:Fn):Prop
 | mk (o:Obj) (fd:FuncData) (ho:cx.h₀.get? a=some o) (hd:o.data = .func fd) (hb:fd.body = .stmts f.body) (hs:fd.scope=f.scope) (S:ScOk f.scope) (hg:fd.globals=cx.gA) (hbl:fd.builtins=cx.bA) (hcl:fd.closure=[]) (hc:cx.h₀.CodeRec fd.code fd.qualname)
   (k:keepIn cx.K (.ref a)=true) (n:fnIn cx.K a=true) (l:(f.scope.names.lookup ("resolved_names" : Str)).isSome=true->fd.code = .ref cx.lc/\fd.qualname++".<locals>." = cx.lq) (st:∀p∈f.pars++f.kwd.map (·.1),q1x f.scope.names p=true) (B:j2g cx f fd)
structure FnOk (cx:Cx) (T:Tab):Prop where
 X:cx.K.In cx.h₀
 lim:cx.h₀.NoLimit
 fn:∀a f,T.fn.lookup a=some f->FnIs cx a f
theorem k4k {Z:Store} (h:q2y Z=true):Z[0]? = some .code:=by
 unfold q2y at h
 revert h
 cases Z[0]? with
 | none=>exact nob
 | some o=>cases o<;>first|exact λ J=>rfl|exact nob
theorem k0m {g g':G}:∀{xs:tW} {is:List Int} {us:tU},q9f xs=some is->VRs cx g xs us->VRs cx g' xs us
 | [],_,us,_,q=>by rw[VRs.of_nil q];exact .nil
 | x::xs,is,us,h,q=>by
  obtain⟨u,us,rfl,r,q1⟩:=q.uncons
  clear q
  exact optE h λ k hk h=>mapQ h λ js h2 J=>.cons (by rw[j3c hk]at r ⊢;exact r) (k0m h2 q1)
theorem j4y {g g':G} (hI:∀a o,g.I a=some o->g'.I a=some o) {x:AV} {u:Value} (h:k9e x=true) (r:VR cx g x u):VR cx g' x u:=by
 rcases x<;>first
  | exact nob h
  | exact r
  | (obtain⟨a,o,vs,e,i,t,q,z⟩:=r;obtain⟨is,hs⟩:=Option.isSome_iff_exists.mp h;exact⟨a,o,vs,e,hI _ _ i,t,k0m hs q,z⟩)
theorem z9o {g g':G} (hI:∀a o,g.I a=some o->g'.I a=some o):∀{xs:tW} {us:tU},xs.all k9e=true->VRs cx g xs us->VRs cx g' xs us
 | [],us,_,q=>by rw[VRs.of_nil q];exact .nil
 | x::xs,us,h,q=>by
  obtain⟨u,us,rfl,r,q⟩:=q.uncons
  obtain⟨h1,h2⟩:=Bool.and_eq_true_iff.mp h
  exact .cons (j4y hI h1 r) (z9o hI h2 q)
theorem k4l {g g':G} {h:Heap} {a:Addr} (hI:∀a o,g.I a=some o->g'.I a=some o) (x:OR cx g h a .code):OR cx g' h a .code:=by
 obtain⟨e0,ps,e,t,r⟩:=x
 exact⟨e0,ps,e,t,r.imp id λ⟨c',oc,fs,t,a,b,r⟩=>⟨c',oc,fs,t,a,hI _ _ b,r⟩⟩
noncomputable def G.alone (g:G) (a:Addr):G:=⟨g.I,[a],g.τ⟩
noncomputable def G.back (g:G) (ρ:List Addr):G:=⟨g.I,ρ,g.τ⟩
theorem k0i {C:q0b} {n:Nat} (Cf:CfOk cx n C):CfOk cx n (z3z T C):=by
 refine⟨?_,?_⟩
 ·intro a args kws Z v Z' e A g s us uk hA i q qk
  refine ifE e (λ J e=>q0k e λ h e=>optE e λ p h1 e=>optE e λ b h2 e=>q0k e λ h3 e=>?_) λ J e=>Cf.run e hA i q qk
  rw[(q0h e).1,(q0h e).2]
  obtain⟨h,hk⟩:=Bool.and_eq_true_iff.mp h
  obtain⟨hc,hb⟩:=Bool.and_eq_true_iff.mp h
  have c0:=k4k hc
  obtain⟨a0,ha0⟩:∃a0,g.ρ[0]? = some a0:=⟨g.ρ[0]'(by rw[i.len];exact(List.getElem?_eq_some_iff.mp c0).1),List.getElem?_eq_getElem _⟩
  have hm0:a0∈g.ρ:=List.mem_of_getElem? ha0
  have i0:Inv cx (g.alone a0) [.code] s:=⟨i.sub,i.base,rfl,by show[a0].Nodup;simp,λ b hb=>i.apart b (by rw[zF hb];exact hm0),λ l o b ho hb=>by
   cases l with
   | zero=>
    obtain rfl:=zE ho
    obtain rfl:=zE hb
    exact k4l (g:=g) (g':=g.alone a0) (λ J J e=>e) (i.cells 0 .code a0 c0 ha0)
   | succ l=>exact nope ho,i.one,i.tok⟩
  obtain rfl:=List.isEmpty_iff.mp hk
  refine codeAny_mono (Cf.run h1 hA i0 (z9o (g:=g) (g':=g.alone a0) (λ J J e=>e) hb q) (uk:=uk) qk) λ r s' z=>?_
  rcases r with e|(u|_|_|_)<;>first|exact z.elim|skip
  obtain⟨g1,a1,i1,r1⟩:=z
  have hb2:p.1 = .bool b:=by
   revert h2
   cases p.1<;>first|exact λ h=>congrArg _ (zE h)|exact λ h=>nope h
  rw[hb2]at r1
  have le:g.le (g1.back g.ρ):=⟨a1.le.I,⟨[],(List.append_nil _).symm⟩,a1.le.τ⟩
  have there:∀b∈g.ρ,∃ob,s.heap.get? b=some ob:=λ b hb=>by
   obtain⟨l,hl⟩:=List.mem_iff_getElem?.mp hb
   have hlt:l<Z.length:=by rw[<-i.len];exact(List.getElem?_eq_some_iff.mp hl).1
   exact(i.cells l Z[l] b (List.getElem?_eq_getElem hlt) hl).there
  refine⟨g1.back g.ρ,⟨le,a1.toks,λ b o e h1 h2=>a1.keep b o e (λ hm=>h1 (by rw[zF hm];exact hm0)) h2,λ b o J h=>h,a1.newI,a1.stay,a1.gens,a1.os⟩,?_,r1⟩
  refine⟨i1.sub,i1.base,i.len,i.nodup,λ b hb=>(there b hb).elim λ ob e=>a1.newI b ob e (i.apart b hb),λ l o b ho hl=>?_,i1.one,i1.tok⟩
  by_cases h0:l=0
  ·subst h0
   rw[c0]at ho
   have hl:g.ρ[0]? = some b:=hl
   rw[ha0]at hl
   obtain rfl:=zE ho
   obtain rfl:=zE hl
   exact k4l (g:=g1) (g':=g1.back g.ρ) (λ J J e=>e) (i1.cells 0 .code a0 (k4k h3) (a1.le.at (show(g.alone a0).ρ[0]? = some a0 from rfl)))
  ·refine(i.cells l o b ho hl).mono le λ ob e=>a1.keep b ob e (λ hm=>h0 ?_) (by simp)
   have hba:b=a0:=zF hm
   have hl:g.ρ[l]? = some b:=hl
   rw[hba]at hl
   obtain⟨x1,x2⟩:=List.getElem?_eq_some_iff.mp hl
   obtain⟨y1,y2⟩:=List.getElem?_eq_some_iff.mp ha0
   exact(List.getElem_inj i.nodup).mp (x2.trans y2.symm)
 ·intro a args kws Z r e
  refine ifE e (λ J e=>q0k e λ h e=>optE e λ p h1 e=>Cf.fn h1) λ J e=>Cf.fn e
theorem z9r (F:FnOk cx T) (hEv:∀n,CfOk cx n (z3z T (w1w T n))->EvOk cx n (evN T (z3z T (w1w T n)) 40)):∀n,CfOk cx n (w1w T n)
 | 0=>CfOk.mk (λ e=>nomatch e) (λ e=>nomatch e)
 | n+1=>by
  have R:=hEv n (k0i (z9r F hEv n))
  refine⟨?_,?_⟩
  ·intro a args kws Z v Z' e A g s us uk hA i q qk
   refine q5l e λ f e1 e=>q5l e λ bs e2 e=>?_
   rcases _:bind_some e with⟨⟨fl,vs',Z1⟩,e3,e⟩
   rcases _:F.fn a f e1 with⟨o,fd,ho,hd,hb,hsc,S,hg,hbl,hcl,hcode,_,_,hlam,hst,B⟩
   have room:A.depth<recursionLimit:=hA.droom
   refine codeAny_call_function room (i.keeps0 _ _ ho) hd (by rw[hsc];exact S.co) (by rw[hsc];exact S.gen) hb (hcode.keeps i.keeps0) (k3z (A:=A.in1) B (F.X.keeps i.keeps0) e2 i.base q qk λ ws qw=>?_)
   rw[hsc,hg,hbl,hcl]
   have hst':∀p∈bs,q1x f.scope.names p.1=true:=λ p hp=>hst _ (by rw[<-w4q e2];exact List.mem_map.mpr ⟨p,hp,rfl⟩)
   refine k0h S ⟨let ⟨c,o,fs,_,h1,h2,h3,_⟩:=hcode;⟨c,o,fs,h1,i.base _ _ h2,h3⟩,hlam⟩ hst' i qw λ env g1 s₁ hown a1 i1 E1=>⟨F.lim.keeps i1.keeps0,codeAny_func ?_⟩
   have hA':AOk n (A.deeper env):=hA.deep env
   (refine wpAny_mono (q6g R.s hA' i1 E1 e3) (λ ff s₂ zz0=>?_) λ J J x=>x.elim;obtain⟨g2,a2,i2,E2,r2⟩:=zz0)
   have a12:=(a1.trans a2).fresh hown
   induction fl with
   | next=>rw[(q0h e).1,(q0h e).2];subst r2;exact⟨g2,a12,i2,.none_⟩
   | ret w=>rw[(q0h e).1,(q0h e).2];obtain⟨u,rfl,r3⟩:=r2;exact⟨g2,a12,i2,r3⟩
  ·intro a args kws Z r e
   refine q5l e λ f e1 e=>?_
   rcases _:F.fn a f e1 with⟨o,fd,_,_,_,_,_,_,_,_,_,h1,h2,_⟩
   exact⟨h1,h2⟩
theorem k1b (R:EOk cx n r.e) (hA:AOk n A) {p:Pos}:∀{kk:List (Option Expr)} {vv:List Expr} {kvs:tC} {g:G} {Z:Store} {s:Shared},Inv cx g Z s->ER cx ks ns env g vs s->k4t r ks ns kk vv vs Z=some (kvs,Z')->
  tw (evalPairs (pairTrees kk vv env p)) (λ prs s₁=>Ex2 λ g1 us=>An5 (Stp [] g s g1 s₁) (Inv cx g1 Z' s₁) (VRs cx g1 (kvs.map (·.2)) us) (Carries cx.sk prs ((kvs.map (·.1)).zip us)) (∀kv∈kvs,kv.1.length<=sizeLine)) NoE s
 | [],[],kvs,g,Z,s,i,E,e=>by
  rw[(q0h e).1,(q0h e).2]
  exact pairTrees_nil_walk ⟨g,[],.refl _ _ _,i,.nil,trivial,by trivial⟩
 | some k::kk,w::vv,kvs,g,Z,s,i,E,e=>by
  rcases _:bind_some e with⟨⟨x,Z1⟩,e1,e⟩
  rcases _:bind_some e with⟨⟨y,Z2⟩,e2,e⟩
  refine optE e λ k hk e=>?_
  rcases _:bind_some e with⟨⟨rest,Z3⟩,e3,e4⟩
  clear e
  rw[<-(q0h e4).2]at e3
  rw[(q0h e4).1]
  obtain rfl:=z0e hk
  refine pairTrees_cons_walk (q0r R hA i E e1 λ g1 s₁ u1 a1 i1 E1 r1=>q0r R hA i1 E1 e2 λ g2 s₂ u2 a2 i2 E2 r2=>?_)
  (refine wpAny_mono (k1b R hA i2 E2 e3) (λ prs s3 zz0=>?_) λ J J x=>x;rcases _:zz0 with⟨g3,us,a3,i3,q3,c3,z3⟩)
  obtain⟨t,rfl,tz⟩:=r1.of_str
  refine⟨g3,u2::us,(a1.trans a2).trans a3,i3,.cons (r2.mono a3.le) q3,⟨strKind_is _ _ _ t,rfl,c3⟩,λ kv hkv=>?_⟩
  rcases List.mem_cons.mp hkv with rfl|hkv
  ·exact tz
  ·exact z3 kv hkv
 | [],_::_,_,_,_,_,_,_,e=>nope e
 | none::_,_,_,_,_,_,_,_,e=>nope e
 | some _::_,[],_,_,_,_,_,_,e=>nope e
theorem w4w:∀{kk:List (Option Expr)} {vv:List Expr} {kvs:tC} {Z:Store},k4t r ks ns kk vv vs Z=some (kvs,Z')->kk.all (·.isSome)=true/\kk.length=vv.length/\kk.length=kvs.length
 | [],[],kvs,Z,e=>by rw[(q0h e).1];exact⟨rfl,rfl,rfl⟩
 | some k::kk,w::vv,kvs,Z,e=>by
  rcases _:bind_some e with⟨⟨x,Z1⟩,e1,e⟩
  rcases _:bind_some e with⟨⟨y,Z2⟩,e2,e⟩
  refine optE e λ k hk e=>?_
  obtain⟨⟨rest,Z3⟩,e3,e4⟩:=bind_some e
  clear e
  rw[<-(q0h e4).2]at e3
  obtain⟨h1,h2,h3⟩:=w4w e3
  rw[(q0h e4).1]
  exact⟨h1,congrArg (· + 1) h2,congrArg (· + 1) h3⟩
 | [],_::_,_,_,e=>nope e
 | none::_,_,_,_,e=>nope e
 | some _::_,[],_,_,e=>nope e
theorem w9x:∀{us:tU} {kvs acc:tC} {ua:tU},VRs cx g (kvs.map (·.2)) us->VRs cx g (acc.map (·.2)) ua->
  ∃ws,merged ((acc.map (·.1)).zip ua) ((kvs.map (·.1)).zip us)=((kvs.foldl (λ a kv=>q0x kv.1 kv.2 a) acc).map (·.1)).zip ws/\VRs cx g ((kvs.foldl (λ a kv=>q0x kv.1 kv.2 a) acc).map (·.2)) ws
 | us,[],acc,ua,q,qa=>by exact⟨ua,rfl,qa⟩
 | us,(k,w)::kvs,acc,ua,q,qa=>by
  rcases _:VRs.uncons (show VRs cx g (w::kvs.map (·.2)) us from q)with⟨u,us,rfl,h1,h2⟩
  rcases _:w1o (k:=k) qa h1 with⟨us',e1,q1⟩
  obtain⟨ws,e2,q2⟩:=w9x h2 q1
  refine⟨ws,?_,q2⟩
  simp only[List.foldl_cons,<-e2,<-e1];rfl
theorem q7q:∀{kvs acc:tC},(kvs.foldl (λ a kv=>q0x kv.1 kv.2 a) acc).length<=acc.length+kvs.length
 | [],acc=>by simp
 | kv::kvs,acc=>by
  simp only[List.foldl_cons]
  have:=q7q (kvs:=kvs) (acc:=q0x kv.1 kv.2 acc)
  have:=q3y (v:=kv.2) kv.1 acc
  exact jH ‹_› (jH (Nat.add_le_add_right this _) (zA (by rw[List.length_cons,Nat.add_right_comm];rfl)))
theorem q3u:∀{kvs acc:tC},(∀kv∈acc,kv.1.length<=sizeLine)->(∀kv∈kvs,kv.1.length<=sizeLine)->∀kv∈kvs.foldl (λ a kv=>q0x kv.1 kv.2 a) acc,kv.1.length<=sizeLine
 | [],acc,h,_=>h
 | kv::kvs,acc,h,hk=>by
  simp only[List.foldl_cons]
  exact q3u (w0j h (hk kv (by simp))) λ kv' hkv'=>hk kv' (by simp[hkv'])
theorem w9j {h:Heap} (D:Addr) (hD:h.get? D=some { cls:=.type "dict",data:=.dict #[] }):h.DictOf cx.sk D []:=
 ⟨_,#[],0,hD,⟨rfl,rfl,rfl⟩,rfl,λ J he=>by simp at he,.nil,by trivial⟩
set_option tactic.hygienic true in theorem v0g (H:GlOk cx T) (R:EOk cx n r.e) (hA:AOk n A) (i:tI) (E:ER cx ks ns env g vs s) {kk:List (Option Expr)} {vv:List Expr} {p:Pos}
  (e:(do
   let (kvs,Z) <-k4t r ks ns kk vv vs Z
   if kk.length<=15 then q2j (T.mu p.line) (q3s kvs) Z else none)=some (v,Z')):tw (eval (.Dict kk vv p) env) (PX cx g s Z' v) NoE s:=by
 rcases _:bind_some e with⟨⟨kvs,Z1⟩,e1,e⟩
 dsimp only at e
 split at e
 rotate_left
 ·contradiction
 rename_i hz
 rcases _:w4w e1 with⟨h1,h2,h3⟩
 have hn:=q0f s
 have hmod:(s.heap.objs.size==sysModules)=false:=by
  rcases _:H.mods with⟨b,o,hb,ho⟩
  have:=Heap.lt_size (i.keeps0 _ _ ho)
  exact beq_false_of_ne (Nat.ne_of_gt (jJ hb this))
 have k:∀b o,s.heap.get? b=some o->(s.heap.push { cls:=.type "dict",data:=.dict #[] }).get? b=some o:=λ b o e=>Heap.get?_push_of_some _ e
 have a0:Stp [] g s g { s with heap:=s.heap.push { cls:=.type "dict",data:=.dict #[] } }:=.keeps (t:=s.toks) (jZ _) k
 have i0:Inv cx g Z { s with heap:=s.heap.push { cls:=.type "dict",data:=.dict #[] } }:=i.keep (t:=s.toks) (jZ _) k
 have hD:(s.heap.push { cls:=.type "dict",data:=.dict #[] }).get? tH=some { cls:=.type "dict",data:=.dict #[] }:=Heap.get?_push_size _ rfl
 have fin:∀{g1:G} {s₁:Shared} {us:tU} {h':Heap} {t:Nat},Stp [] g { s with heap:=s.heap.push { cls:=.type "dict",data:=.dict #[] } } g1 s₁->Inv cx g1 Z1 s₁->VRs cx g1 ((q3s kvs).map (·.2)) us->(∀kv∈kvs,kv.1.length<=sizeLine)->
   h'.DictOf cx.sk tH (((q3s kvs).map (·.1)).zip us)->Heap.SameBut tH s₁.heap h'->s₁.toks<=t->PX cx g s Z' v (.ref tH) { s₁ with heap:=h',toks:=t }:=by
  intro g1 s₁ us h' t a1 i1 q hk hd hs ht
  have n1:tH∉g1.ρ:=a1.new _ _ hD (i.fresh hn).2
  have n2:g1.I tH=none:=a1.newI _ _ hD (i.fresh hn).1
  have a2:Stp [s.heap.objs.size] g1 s₁ g1 { s₁ with heap:=h',toks:=t }:=.write ht (by simp) hs (let ⟨o,_,_,ho,_⟩:=hd;⟨o,ho⟩)
  have i2:Inv cx g1 Z1 { s₁ with heap:=h',toks:=t }:=i1.write ht n1 n2 hs
  have a3:Stp [] g s g1 { s₁ with heap:=h',toks:=t }:=((a0.trans a1).own.trans a2).fresh (by simp[hn])
  obtain⟨g3,_,b1,b2,b3,_⟩:=k0e a3 i2 ⟨us,hd,q,hmod,jH q7q (by simp only[sizeLine_eq];simp;lia),q3u (by simp) hk⟩ n1 n2 hn e
  exact⟨g3,b1,b2,b3⟩
 by_cases h0:kk=[]
 ·subst h0
  have hv:vv=[]:=List.length_eq_zero_iff.mp (by exact h2.symm)
  subst hv
  have z1:=(q0h e1).1
  refine wpAny_Dict_empty ?_
  exact fin (s₁:={ s with heap:=s.heap.push { cls:=.type "dict",data:=.dict #[] } }) (t:=s.toks) (.refl _ _ _) (by rw[(q0h e1).2];exact i0) (by rw[z1];exact .nil) (by rw[z1];simp) (by rw[z1];exact w9j _ hD) (Heap.SameBut.refl ..) (jZ _)
 ·(refine wpAny_Dict_walk (knd:=cx.sk) h1 h2 h0 hz (wpAny_mono (k1b R hA i0 (E.go a0) e1) (λ prs s₁ zz0=>?_) λ J J x=>x);rcases _:zz0 with⟨g1,us,a1,i1,q,c,hk⟩)
  refine⟨_,c,w9j _ (a1.keep _ _ hD (i.fresh hn).2 (by simp)),λ h' hd hs=>?_⟩
  rcases _:w9x (acc:=[]) (ua:=[]) q .nil with⟨ws,m1,m2⟩
  simp only[show([]:tV)=(([]:tC).map (·.1)).zip []from rfl,m1]at hd
  exact fin a1 i1 m2 hk hd hs (by simp +arith [*])
end
structure k8v (cx:Cx) (n:Nat) (t:SetTable):Prop where
 led:cx.w.params.followText "set-order" = false->t.led=true
 plain:1<=n->t.plain=false
 zero:n=0->t.mask=7/\t.place = #[]/\t.dummies = #[]
 one:n=1->t.mask=7/\t.dummies = #[]
inductive q2m (cx:Cx) (h:Heap) (a:Addr) (ks:tL):Prop
 | mk (o:Obj) (es:Array (Int×Value)) (ep:Nat) (t:SetTable) (ho:h.get? a=some o) (hx:o.ExactSet) (hd:o.data = .set es ep t) (hel:ElemsOf cx.sk es.toList) (hm:∀k,ks.contains k=true↔∃e∈es.toList,cx.sk.is k e.2=true)
   (hb:es.size<scanBound) (hf:t.fits es.size=true) (hn:es.size=ks.length) (hnd:ks.Nodup) (hz:∀k∈ks,k.length<=sizeLine) (ht:k8v cx es.size t)
theorem z1q (t:SetTable) (n:Nat):(t.orStandIn n).led=t.led:=by unfold SetTable.orStandIn;split<;>rfl
theorem w5p {t:SetTable} {n:Nat} (h:t.plain=false):(t.orStandIn n).plain=false:=by unfold SetTable.orStandIn;split<;>first|exact h|rfl
theorem k2h (t:SetTable) (es:Array (Int×Value)) (h:Int) (x:Value):(layNew t es h x).2.1.led=t.led:=by
 unfold layNew
 split
 ·exact z1q _ _
 ·rfl
theorem z4i {t:SetTable} (es:Array (Int×Value)) (h:Int) (x:Value) (hp:t.plain=false):(layNew t es h x).2.1.plain=false:=by
 unfold layNew
 split
 ·exact w5p hp
 ·rfl
theorem j0o {mask finger moves:Nat} {led plain:Bool} {hs:Array Int} {r:SetTable×Array Nat} (h:SetTable.laid mask finger moves led plain hs=some r):r.1.led=led/\r.1.plain=plain:=by
 rcases _:bind_some h with⟨o,_,h⟩
 obtain rfl:=zE h
 exact⟨rfl,rfl⟩
set_option tactic.hygienic true in theorem z5i (t:SetTable) (es:Array (Int×Value)) (wanted:Nat):(relayAll t es wanted).2.1.led=t.led/\(t.plain=false->(relayAll t es wanted).2.1.plain=false):=by
 unfold relayAll
 split
 ·rename_i t' order h
  have:=j0o h
  dsimp only
  split
  ·exact⟨this.1,λ hp=>this.2.trans hp⟩
  ·exact⟨rfl,λ J=>rfl⟩
 ·exact⟨rfl,λ J=>rfl⟩
theorem k3c {t:SetTable} (hp:t.place = #[]) (hd:t.dummies = #[]) (j:Nat):t.slot j = .empty:=by
 dsimp only[SetTable.slot,SetTable.has]
 rw[hp,hd]
 rfl
theorem w7j {t:SetTable} (h:Int) (hp:t.place = #[]) (hd:t.dummies = #[]):∃j,t.freeSlot h=some (j,false):=by
 delta SetTable.freeSlot SetTable.probe
 have hf:∃f,10 * SetTable.turns t.mask=f+1:=⟨10 * SetTable.turns t.mask - 1,by rfl⟩
 obtain⟨f,hf⟩:=hf
 rw[hf]
 dsimp only[SetTable.probe.go]
 simp only[k3c hp hd]
 exact⟨_,rfl⟩
theorem z4h {t:SetTable} (h:Int) (x:Value) (hm:t.mask=7) (hp:t.place = #[]) (hd:t.dummies = #[]) :
  (layNew t #[] h x).2.1.mask=7/\(layNew t #[] h x).2.1.dummies = #[]/\(layNew t #[] h x).2.1.place.size=1:=by
 rcases _:w7j (t:=t) h hp hd with⟨j,hj⟩
 unfold layNew
 rw[hj]
 have hput:(t.put j).1.mask=7/\(t.put j).1.dummies = #[]/\(t.put j).1.place.size=1:=by
  dsimp only[SetTable.put,SetTable.has,SetTable.insertAt]
  rw[hp,hd]
  trivial
 have hfit:(t.put j).1.fits 1=true:=by
  delta SetTable.fits SetTable.fill
  simp only[hput.1,hput.2.1,hput.2.2];rfl
 dsimp only
 have hsz:(SetTable.insertAt (#[]:Array (Int×Value)) (t.put j).2 (h,x)).size=1:=by unfold SetTable.insertAt;simp
 rw[hsz]
 unfold SetTable.orStandIn
 rw[if_pos hfit]
 exact hput
section
variable {T:Tab}
theorem q2m.new {led:Bool} {h:Heap} {a:Addr} (ho:h.get? a=some { cls:=.type "set",dict:=none,data:=.set #[] 0 (.fresh 0 0 led) }) (hl:cx.w.params.followText "set-order" = false->led=true):q2m cx h a []:=
 ⟨_,#[],0,_,ho,⟨rfl,rfl,rfl⟩,rfl,λ e he=>by simp at he,λ k=>by simp,by decide,rfl,rfl,.nil,by trivial,hl,by simp,λ J=>⟨rfl,rfl,rfl⟩,by simp⟩
theorem z4x {Q:Value->Shared->Prop} (h:∀led:Bool,(cx.w.params.followText "set-order" = false->led=true)->Q (.ref tH) { s with heap:=s.heap.push { cls:=.type "set",dict:=none,data:=.set #[] 0 (.fresh 0 0 led) } }) :
  tw (newSet (.type "set")) Q E s:=by
 dsimp only[newSet,setsByText]
 refine tG (tG (wpAny_askSetting (tJ ?_)))
 exact tG (wpAny_alloc (tJ (h _ λ hl=>by show(!cx.w.params.followText "set-order")=true;rw[hl];rfl)))
theorem k1n {h:Heap} {a:Addr} {o:Obj} {es:Array (Int×Value)} {ep:Nat} {t:SetTable} (ho:h.get? a=some o) (hex:o.ExactSet) (hd:o.data = .set es ep t)
  {es':Array (Int×Value)} {t':SetTable} {kk:tL} (hel:ElemsOf cx.sk es'.toList) (hmem:∀k,kk.contains k=true↔∃e∈es'.toList,cx.sk.is k e.2=true) (hb:es'.size<scanBound) (hf:t'.fits es'.size=true)
  (hn:es'.size=kk.length) (hnd:kk.Nodup) (hz:∀k∈kk,k.length<=sizeLine) (ht:k8v cx es'.size t') :
  (h.update a (Obj.putSet es' t')).get? a=some { o with data:=.set es' (ep+1) t' }/\q2m cx (h.update a (Obj.putSet es' t')) a kk:=by
 have hg:(h.update a (Obj.putSet es' t')).get? a=some { o with data:=.set es' (ep+1) t' }:=by
  have:=Heap.get?_update_self (Obj.putSet es' t') ho (by rw[putSet_of es' t' hd];rfl)
  rw[putSet_of es' t' hd]at this;exact this
 exact⟨hg,_,es',ep+1,t',hg,hex,rfl,hel,hmem,hb,hf,hn,hnd,hz,ht⟩
theorem k8w {k:Str} {kk:tL} (h:kk.contains k=false):addK k kk=kk++[k]:=by unfold addK;rw[h];rfl
theorem k8x {k:Str} {kk:tL} (h:kk.contains k=true):addK k kk=kk:=by unfold addK;rw[h];rfl
set_option tactic.hygienic true in theorem w2v {a:Addr} {kk:tL} {k:Str} {tk:Tok} {Q:Bool->Shared->Prop} (H:q2m cx s.heap a kk) (hz:k.length<=sizeLine) (hroom:kk.length+1<scanBound)
  (h:∀b h',Heap.SameBut a s.heap h'->q2m cx h' a (addK k kk)->Q b { s with heap:=h' }):tw (setAddHashed a (.str k tk) (cx.sk.hash k)) Q E s:=by
 have hkey:cx.sk.is k (.str k tk)=true:=strKind_is _ _ _ _
 have hsc:(Value.str k tk).scannable=true:=rfl
 rcases _:H with⟨o,es,ep,t,ho,hex,hd,hel,hmem,hb,hf,hn,hnd,hkz,ht⟩
 have hb1:es.size+1<scanBound:=by rw[hn];exact hroom
 refine wpAny_holding (tG (wpAny_setState_of ho hd hf ?_))
 dsimp only
 rw[byScan_of hsc hb hel]
 refine tG ?_
 refine tG (wpAny_rule ?_)
 refine tG (wpAny_setScan_of hkey ho hd hf hel ?_)
 generalize hr:List.findIdx? (λ e=>cx.sk.is k e.2) es.toList=zzy
 induction zzy with
 | some j=>
  rcases _:List.findIdx?_eq_some_iff_getElem.mp hr with⟨hj,hpj,_⟩
  have hSk:kk.contains k=true:=(hmem k).mpr ⟨es.toList[j],List.getElem_mem hj,hpj⟩
  refine tJ (tJ ?_)
  have e:s={ s with heap:=s.heap }:=by rcases s;rfl
  refine h _ s.heap (Heap.SameBut.refl a s.heap) ?_
  simp only[k8x hSk]
  exact⟨o,es,ep,t,ho,hex,hd,hel,hmem,hb,hf,hn,hnd,hkz,ht⟩
 | none=>
  have hSk:kk.contains k=false:=by
   cases hk:kk.contains k with
   | false=>rfl
   | true=>obtain⟨e,he,hp⟩:=(hmem k).mp hk;have:=List.findIdx?_eq_none_iff.mp hr e he;rw[hp]at this;exact Bool.noConfusion this
  have hgw:∀(b:Bool) {s₁:Shared} {Q':Unit->Shared->Prop},Q' () s₁->tw (match b with|true=>rule "set.scan.the-table-gave-way" | false=>pure ()) Q' E s₁:=
   λ b s₁ Q' hq=>by rcases b<;>first|exact tJ hq|exact wpAny_rule hq
  have hperm:=layNew_perm t es (cx.sk.hash k) (.str k tk)
  have hfits:=layNew_fits t es (cx.sk.hash k) (.str k tk)
  have hled:=k2h t es (cx.sk.hash k) (.str k tk)
  have hpl:=λ hp=>z4i (t:=t) es (cx.sk.hash k) (.str k tk) hp
  have hfirst:es.size=0->(layNew t es (cx.sk.hash k) (.str k tk)).2.1.mask=7/\(layNew t es (cx.sk.hash k) (.str k tk)).2.1.dummies = #[]/\(layNew t es (cx.sk.hash k) (.str k tk)).2.1.place.size=1:=λ h0=>by
   have:es = #[]:=Array.size_eq_zero_iff.mp h0
   subst this
   rcases _:ht.zero rfl with⟨z1,z2,z3⟩
   exact z4h _ _ z1 z2 z3
  generalize hL:layNew t es (cx.sk.hash k) (.str k tk)=L at hperm hfits hled hpl hfirst ⊢
  obtain⟨es1,t1,wasDummy,gave⟩:=L
  dsimp only at hperm hfits hled hpl hfirst ⊢
  simp only[Array.toList_push]at hperm
  have hel1:ElemsOf cx.sk es1.toList:=(hel.push hkey hsc).perm hperm
  have hmem1:∀k',(addK k kk).contains k'=true↔∃e∈es1.toList,cx.sk.is k' e.2=true:=λ k'=>by
   simp only[w0m];exact mem_push_iff hkey hmem hperm k'
  have hsz1:es1.size=es.size+1:=by rw[<-Array.length_toList,hperm.length_eq,zI,Array.length_toList];rfl
  have hb1':es1.size<scanBound:=by rw[hsz1];exact hb1
  have hlen:es1.size=(addK k kk).length:=by simp only[q9n,hSk,hsz1,hn];rfl
  have hndp:(addK k kk).Nodup:=w9f hnd
  have hzz:∀y∈addK k kk,y.length<=sizeLine:=λ y hy=>by
   rw[k8w hSk]at hy
   rcases zK hy with hy|hy
   ·exact hkz y hy
   ·rw[List.mem_singleton]at hy;cases hy;exact hz
  refine tG (hgw _ ?_)
  have fin:∀t2:SetTable,t2.fits es1.size=true->(cx.w.params.followText "set-order" = false->t2.led=true)->t2.plain=false->(es.size=0->t2.mask=7/\t2.dummies = #[])->
    ∀{R:Option Bool->Shared->Prop},(∀h',Heap.SameBut a s.heap h'->q2m cx h' a (addK k kk)->R (some true) { s with heap:=h' })->
    wpAny cx.M A (do
     storeSet a es1 t2
     if(!wasDummy&&t2.tooFull)=true then do
       (match (relayAll t2 es1 (SetTable.grown es1.size)).2.2 with|true=>rule "set.scan.the-table-gave-way" | false=>pure ())
       storeSet a (relayAll t2 es1 (SetTable.grown es1.size)).1 (relayAll t2 es1 (SetTable.grown es1.size)).2.1
       pure (some true)
      else pure (some true)) R E s:=by
   intro t2 hf2 hl2 hp2 hm2 R hR
   have T1:k8v cx es1.size t2:=⟨hl2,λ J=>hp2,λ h0=>by(simp_all +arith),λ h1=>hm2 (by(simp_all +arith))⟩
   refine tG (wpAny_storeSet_of ho hd ?_ (fits_of_scanBound hb1'))
   obtain⟨ho1,hS1⟩:=k1n ho hex hd hel1 hmem1 hb1' hf2 hlen hndp hzz T1
   have hsb1:=Heap.SameBut.update s.heap a (Obj.putSet es1 t2)
   split
   ·rename_i hfull
    have hp:=relayAll_perm t2 es1 (SetTable.grown es1.size)
    have hfr:=relayAll_fits t2 es1 (SetTable.grown es1.size)
    have hrl:=z5i t2 es1 (SetTable.grown es1.size)
    have hbig:es.size≠0:=λ h0=>by
     have hm:=hm2 h0
     have hpz:t2.place.size=es1.size:=by simp only[SetTable.fits,Bool.and_eq_true,beq_iff_eq]at hf2;exact hf2.1
     simp only[SetTable.tooFull,SetTable.fill,hm.1,hm.2,hpz,hsz1,h0,Bool.and_eq_true,decide_eq_true_eq]at hfull
     have:=hfull.2
     trivial
    generalize hRl:relayAll t2 es1 (SetTable.grown es1.size)=Rl at hp hfr hrl ⊢
    obtain⟨es2,t3,gave2⟩:=Rl
    dsimp only at hp hfr hrl ⊢
    have hel2:ElemsOf cx.sk es2.toList:=hel1.perm hp
    have hmem2:∀k',(addK k kk).contains k'=true↔∃e∈es2.toList,cx.sk.is k' e.2=true:=λ k'=>(hmem1 k').trans ⟨λ⟨e,he,q⟩=>⟨e,hp.mem_iff.mpr he,q⟩,λ⟨e,he,q⟩=>⟨e,hp.mem_iff.mp he,q⟩⟩
    have hsz:es2.size=es1.size:=by rw[<-Array.length_toList,hp.length_eq,Array.length_toList]
    have hb2:es2.size<scanBound:=by rw[hsz];exact hb1'
    have T2:k8v cx es2.size t3:=⟨λ hl=>hrl.1.trans (hl2 hl),λ J=>hrl.2 hp2,λ h0=>by(simp_all +arith),λ h1=>by(simp_all +arith)⟩
    have tailw:wpAny cx.M A (do
      storeSet a es2 t3
      pure (some true)) R E { s with heap:=s.heap.update a (Obj.putSet es1 t2) }:=by
     refine tG (wpAny_storeSet_of ho1 rfl ?_ (fits_of_scanBound hb2))
     obtain⟨_,hS2⟩:=k1n ho1 hex rfl hel2 hmem2 hb2 hfr (hsz.trans hlen) hndp hzz T2
     exact tJ (hR _ (hsb1.trans (Heap.SameBut.update _ a _)) hS2)
    refine tG (by rcases gave2<;>first|exact tJ tailw|exact wpAny_rule tailw)
   ·exact tJ (hR _ hsb1 hS1)
  have ledok:cx.w.params.followText "set-order" = false->t1.led=true:=λ hl=>hled.trans (ht.led hl)
  have mok:es.size=0->t1.mask=7/\t1.dummies = #[]:=λ h0=>⟨(hfirst h0).1,(hfirst h0).2.1⟩
  split
  ·refine tG ?_
   refine tJ ?_
   refine fin { t1 with plain:=false } (SetTable.fits_plain_off hfits) ledok rfl mok λ h' hsb hS'=>?_
   skip;exact tJ (h _ h' hsb hS')
  ·rename_i hpf
   refine tG (tJ ?_)
   refine fin t1 hfits ledok (by simpa using hpf) mok λ h' hsb hS'=>?_
   skip;exact tJ (h _ h' hsb hS')
theorem j2l {a:Addr} {kk:tL} {k:Str} {tk:Tok} {Q:Bool->Shared->Prop} (H:q2m cx s.heap a kk) (hz:k.length<=sizeLine) (hroom:kk.length+1<scanBound)
  (h:∀b h',Heap.SameBut a s.heap h'->q2m cx h' a (addK k kk)->Q b { s with heap:=h',toks:=s.toks+1 }):tw (setAdd a (.str k tk)) Q E s:=by
 unfold setAdd
 refine wpAny_holding (tG (cx.sk.pyHash (strKind_is _ _ _ _) ?_))
 exact w2v (s:={ s with toks:=s.toks+1 }) H hz hroom h
end
theorem z2w:isSubtype (.type "dict") (.type "set")=pure false:=by rw[isSubtype_type];kernel_rfl
theorem w0l:isSubtype (.type "dict") (.type "frozenset")=pure false:=by rw[isSubtype_type];kernel_rfl
theorem w4j (kk ts:tL) (k:Str):q0o kk (ts++[k])=addK k (q0o kk ts):=by unfold q0o;rw[List.foldl_append];rfl
theorem q4e (ts:tL):∀kk:List Str,(q0o kk ts).length<=kk.length+ts.length:=by
 unfold q0o
 induction ts with
 | nil=>intro kk;simp
 | cons t ts ih=>
  intro kk
  simp only[List.foldl_cons]
  have:=ih (addK t kk)
  have h2:=q9n t kk
  exact jH this (jH (Nat.add_le_add_right (jH (zA h2) (by split;exact Nat.le_succ _;exact jZ _)) _) (zA (Nat.succ_add_eq_add_succ _ _)))
theorem q7r {k:Str} {v:Value} (h:cx.sk.is k v=true):∃t,v = .str k t:=Value.isStrOf_shape h
section
variable {T:Tab}
theorem q2m.at {h h':Heap} {a:Addr} {kk:tL} (H:q2m cx h a kk) (k:∀o,h.get? a=some o->h'.get? a=some o):q2m cx h' a kk:=
 let ⟨o,es,ep,t,h1,a,b,c,d,e,f,g,i,j,l⟩:=H;⟨o,es,ep,t,k _ h1,a,b,c,d,e,f,g,i,j,l⟩
theorem q2m.there {h:Heap} {a:Addr} {kk:tL} (H:q2m cx h a kk):∃o,h.get? a=some o:=by obtain⟨o,_,_,_,h1⟩:=H;exact⟨o,h1⟩
theorem w7c {I:Addr} {fp wr:List Addr} {Gr:Array GenState->Array GenState->Prop} {P:Nat->Value->Prop} {St:Nat->Shared->Prop} {ts:tL} {R:Result->Shared->Prop} (W:WalksS cx.prog cx.w A.in1 I fp wr Gr ts.length P St) (S:Addr) (hSf:S∉fp)
  (hval:∀i v,P i v->∃k t,ts[i]? = some k/\v = .str k t) (hz:∀k∈ts,k.length<=sizeLine) {kk:tL} (hb:kk.length+ts.length+1<scanBound) :
  ∀(k i:Nat) (s:Shared),ts.length - i=k->i<=ts.length->St i s->q2m cx s.heap S (q0o kk (ts.take i))->
   (∀s',Moved (S::wr) Gr s s'->q2m cx s'.heap S (q0o kk ts)->R (.ok (.ret .none)) s')->
   codeAny cx.M A (.builtin "set.update.loop" ⟨[.ref S,.ref I],[]⟩) R s:=by
 have hSw:S∉wr:=λ h=>hSf (W.sub _ h)
 have hsub:∀b∈wr,b∈S::wr:=λ b hb=>zG _ hb
 intro k
 induction k with
 | zero=>
  intro i s hk hi hst hS hR
  have hin:i=ts.length:=Nat.le_antisymm hi (Nat.le_of_sub_eq_zero hk)
  subst hin
  simp only[List.take_length]at hS
  refine codeAny_builtin F.entry_set_update_loop ?_
  refine tG (W.done s _ _ hst λ s' hm=>?_)
  exact tJ (hR s' (hm.mono hsub) (hS.at λ o e=>hm.heap S o hSw e))
 | succ k ih=>
  intro i s hk hi hst hS hR
  have hlt:i<ts.length:=Nat.lt_of_sub_pos (by rw[hk];exact Nat.succ_pos _)
  refine codeAny_builtin F.entry_set_update_loop ?_
  refine tG (W.item i s _ _ hlt hst λ v s' hP hst' hm=>?_)
  rcases _:hval i v hP with⟨key,t,hkey,rfl⟩
  have hS':=hS.at (h':=s'.heap) λ o e=>hm.heap S o hSw e
  refine tG (wpAny_holding ?_)
  refine j2l hS' (hz _ (List.mem_of_getElem? hkey)) (jJ (Nat.succ_le_succ (jH (q4e (ts.take i) kk) (Nat.add_le_add_left (by rw[List.length_take];exact Nat.min_le_right _ _) _))) hb) λ b h' hsb hS2=>?_
  have htk:ts.take (i+1)=ts.take i++[key]:=by rw[List.take_add_one,hkey];rfl
  rw[<-w4j,<-htk]at hS2
  refine tJ ⟨plainId_quiet F.plain_set_update_loop _,ih (i+1) _ (by rw[Nat.sub_succ,hk];rfl) hlt (W.frame _ s' _ _ hst' (Nat.le_succ _) λ b hb o e=>?_) hS2 λ s'' hm'' hS''=>?_⟩
  ·exact(hsb.2 b λ h=>hSf (h▸hb)).trans e
  ·refine hR s'' (Moved.trans W.gtrans ((hm.mono hsub).then_heap (Nat.le_succ _) λ b o hb e=>?_) hm'') hS''
   exact(hsb.2 b λ h=>hb (by simp only[h];exact zL)).trans e
theorem j7m {S:Addr} {k:Str} {m:Nat} {Q:Unit->Shared->Prop} (H:q2m cx s.heap S [k]) (hm:m<=3) (h:Q () s):tw (setRoomFor S m) Q E s:=by
 rcases _:H with⟨o,es,ep,t,ho,hex,hd,hel,hmem,hb,hf,hn,hnd,hkz,ht⟩
 refine tG (wpAny_setState_of ho hd hf ?_)
 have hsz:es.size=1:=hn
 obtain⟨t1,t2⟩:=ht.one hsz
 have hp:t.place.size=1:=by simp only[SetTable.fits,Bool.and_eq_true,beq_iff_eq]at hf;simp only[hf.1,hsz]
 have:t.roomFor m=none:=by
  dsimp only[SetTable.roomFor,SetTable.fill]
  simp only[t1,t2,hp]
  rw[if_neg (by simp;lia)]
 rw[this]
 exact tJ h
theorem k1x {es:Array DictEntry} {kvs:tV} (hk:KeysOf cx.sk es) (hp:Pairs cx.sk es.toList kvs) {i:Nat} {e:DictEntry} (he:es[i]? = some e) :
  ∃k w t,kvs[i]? = some (k,w)/\e.key = .str k t/\e.hash=cx.sk.hash k:=by
 have hi:=(Array.getElem?_eq_some_iff.mp he).1
 have hlen:=hp.length
 obtain⟨kv,hkv⟩:∃kv,kvs[i]? = some kv:=⟨kvs[i]'(by decreasing_trivial),List.getElem?_eq_getElem _⟩
 obtain⟨k,w⟩:=kv
 obtain⟨hkey,_⟩:=hp.get? (e:=e) (by rw[Array.getElem?_toList];exact he) hkv
 obtain⟨t,ht⟩:=q7r hkey
 rcases _:hk e (Array.mem_of_getElem? he)with⟨k',h1,h2⟩
 have:k'=k:=cx.sk.inj _ _ _ h1 hkey
 subst this
 exact⟨k',w,t,hkv,ht,h2⟩
theorem k8f {S d:Addr} {k:Str} {kvs:tV} {Q:Unit->Shared->Prop} (hA:A.handled=none) (H:q2m cx s.heap S [k]) (hd:s.heap.DictOf cx.sk d kvs) (hne:d≠S) (hm:(d==sysModules)=false) (h3:kvs.length<=3) (hz:∀kv∈kvs,kv.1.length<=sizeLine)
  (h:∀h' t,(∀b o,b≠S->s.heap.get? b=some o->h'.get? b=some o)->s.toks<=t->q2m cx h' S (q0o [k] (kvs.map (·.1)))->Q () { s with heap:=h',toks:=t }) :
  tw (setDisplayStar S (.ref d)) Q E s:=by
 have hT:=hd.typeIs
 refine tG (wpAny_isInstance hT z2w ?_)
 refine tG (wpAny_isInstance hT w0l ?_)
 refine tG (wpAny_askSetting ?_)
 rcases _:id hd with⟨o,es,ep,ho,hex,hdat,hkeys,hpairs,hnd⟩
 have hlen:kvs.length=es.size:=by have:=hpairs.length;simp only[Array.length_toList]at this;solve_by_elim (maxDepth:=4) only[jH,jK,jJ, *]
 generalize hbt:cx.w.params.followText "set-display-star-reads-storage" = zzy
 induction zzy with
 | false=>
  have hbt':(model cx.prog cx.w).w.params.followText "set-display-star-reads-storage" = false:=hbt
  dsimp only
  rw[if_neg (by rw[hbt'];exact Bool.false_ne_true)]
  refine tG (wpAny_typeOf hT ?_)
  refine tG (wpAny_rule ?_)
  rw[if_neg (by rw[hm];exact Bool.false_ne_true)]
  refine tG (wpAny_dictEpoch ho hdat ?_)
  refine tG (wpAny_dictEntries ho hdat ?_)
  refine tG (j7m H (by decreasing_trivial) ?_)
  refine tG ?_
  rw[Std.Legacy.Range.forIn_eq_forIn_range']
  simp only[Std.Legacy.Range.size,Nat.sub_zero,Nat.add_sub_cancel,Nat.div_one]
  refine wpAny_forIn_list _
   (λ rest J s'=>Ex2 λ h' i=>An6 (s'={ s with heap:=h' }) (rest=List.range' i (es.size - i)) (i<=es.size) (q2m cx h' S (q0o [k] ((kvs.map (·.1)).take i))) (h'.get? d=some o) (Heap.SameBut S s.heap h'))
   _ ?_ ?_ _ _ ⟨s.heap,0,rfl,by rfl,Nat.zero_le _,H,ho,Heap.SameBut.refl _ _⟩
  ·rintro x rest b s' ⟨h',i,rfl,hr,hi,hS,ho',hs'⟩
   have hlt:i<es.size:=by
    rcases _:Nat.lt_or_ge i es.size with h|h
    ·exact h
    ·rw[Nat.sub_eq_zero_of_le h]at hr;trivial
   obtain⟨rfl,hrest⟩:x=i/\rest=List.range' (i+1) (es.size - (i+1)):=by
    have e:es.size - i=(es.size - (i+1))+1:=(Nat.succ_pred_eq_of_pos (Nat.sub_pos_of_lt hlt)).symm
    rw[e,List.range'_succ]at hr
    injection hr with h1 h2
    exact⟨h1,h2⟩
   refine tG (wpAny_dictEntries ho' hdat ?_)
   rw[Array.getElem?_eq_getElem hlt]
   rcases _:k1x hkeys hpairs (Array.getElem?_eq_getElem hlt)with⟨k',w,t,hkv,hkey,hhash⟩
   simp only[hkey,hhash]
   have hmap:(kvs.map (·.1))[x]? = some k':=by rw[List.getElem?_map,hkv];rfl
   have hl:=q4e ((kvs.map (·.1)).take x) [k]
   have hsb:scanBound=4096:=rfl
   refine tG (wpAny_holding (tG (w2v hS (hz _ (List.mem_of_getElem? hkv)) (jJ (Nat.succ_le_succ (jH hl (Nat.add_le_add_left (jH (zA (List.length_take ..)) (jH (Nat.min_le_right _ _) (jH (zA (zH ..)) h3))) _))) (show 1+3+1<scanBound by rw[hsb];decide)) λ b h2 hsb2 hS2=>tJ ?_)))
   have htk:(kvs.map (·.1)).take (x+1)=(kvs.map (·.1)).take x++[k']:=by simp only[List.take_add_one,hmap];rfl
   rw[<-w4j,<-htk]at hS2
   have ho2:h2.get? d=some o:=(hsb2.2 d hne).trans ho'
   refine tG (wpAny_dictEpoch ho2 hdat ?_)
   simp only[bne_self_eq_false,Bool.false_eq_true,if_false]
   exact tJ ⟨h2,x+1,rfl,hrest,hlt,hS2,ho2,hs'.trans hsb2⟩
  ·rintro b s' ⟨h',i,rfl,hr,hi,hS,ho',hs'⟩
   have hie:i=es.size:=by
    rcases Nat.lt_or_ge i es.size with h|h
    ·have e:es.size - i=(es.size - (i+1))+1:=(Nat.succ_pred_eq_of_pos (Nat.sub_pos_of_lt h)).symm
     rw[e,List.range'_succ]at hr;contradiction
    ·exact Nat.le_antisymm ‹_› ‹_›
   rw[hie,List.take_of_length_le (by rw[zH];exact zA ‹_›)]at hS
   exact tJ (h h' s.toks (λ b o hb e=>(hs'.2 b hb).trans e) (jZ _) hS)
 | true=>
  have hbt':(model cx.prog cx.w).w.params.followText "set-display-star-reads-storage" = true:=hbt
  dsimp only
  rw[if_pos hbt']
  have hda:s.heap.DictAt cx.sk d kvs ep:=⟨o,es,ho,hex,hdat,hkeys,hpairs,hnd⟩
  refine tG (wpAny_pyIter_dict hm hda ?_)
  refine tG (wpAny_runValue ?_)
  have hdl:=Heap.lt_size ho
  have hSl:S<tH:=let ⟨oS,hS⟩:=H.there;Heap.lt_size hS
  have W:=(Walks.dictKeys (knd:=cx.sk) (A:=A.in1) (by exact hA) tH d (Nat.ne_of_lt hdl) kvs ep).toS
  have W':WalksS cx.prog cx.w A.in1 tH [s.heap.objs.size,d] [s.heap.objs.size] (λ a b=>b=a) (kvs.map (·.1)).length (λ i v=>∃k x,kvs[i]? = some (k,x)/\cx.sk.is k v=true) (λ i s'=>s'.heap.IsKeyIter tH d i kvs.length ep/\s'.heap.DictAt cx.sk d kvs ep):=by
   simp only[zH];exact W
  have hsb:scanBound=4096:=rfl
  have hval:∀i v,(∃k x,kvs[i]? = some (k,x)/\cx.sk.is k v=true)->∃k t,(kvs.map (·.1))[i]? = some k/\v = .str k t:=λ i v hv=>by
   rcases _:hv with⟨k',x,h1,h2⟩
   obtain⟨t,ht⟩:=q7r h2
   exact⟨k',t,by rw[List.getElem?_map,h1];rfl,ht⟩
  have hzz:∀k'∈kvs.map (·.1),k'.length<=sizeLine:=λ k' hk'=>by
   obtain⟨kv,hkv,rfl⟩:=List.mem_map.mp hk'
   exact hz kv hkv
  have hSf:S∉[s.heap.objs.size,d]:=by simp only[List.mem_cons,List.not_mem_nil,or_false,not_or];exact⟨Nat.ne_of_lt hSl,hne.symm⟩
  have hroom:[k].length+(kvs.map (·.1)).length+1<scanBound:=by rw[zH,hsb];exact jJ (Nat.succ_le_succ (Nat.add_le_add_left h3 _)) (show 1+3+1<4096 by decide)
  refine w7c W' S hSf hval hzz hroom _ 0 _ rfl (Nat.zero_le _) ⟨⟨_,Heap.get?_push_size _ rfl,rfl,rfl⟩,Heap.DictAt.at' hda λ o e=>Heap.get?_push_of_some _ e⟩
   (H.at λ o e=>Heap.get?_push_of_some _ e) λ s' hm' hS'=>?_
  ·show tw (pure ()) Q E s'
   obtain⟨h',g',d',tk',os'⟩:=s'
   have eg:g'=s.gens:=hm'.gens
   have ed:d'=s.drawn:=hm'.drawn
   have eo:os'=s.os:=hm'.os
   subst eg;subst ed;subst eo
   refine tJ (h h' tk' (λ b o hb e=>hm'.heap b o ?_ (Heap.get?_push_of_some _ e)) hm'.toks hS')
   simp only[List.mem_cons,List.not_mem_nil,or_false,not_or]
   exact⟨hb,Nat.ne_of_lt (Heap.lt_size e)⟩
variable {n:Nat} {r:Ev} {ks:Kinds} {ns:tL} {env:Env} {g g':G} {vs:Vs} {Z:Store} {s:Shared} {A:Around} {v:AV}
theorem j6v (i:tI) (E:ER cx ks ns env g vs s) {Q:Bool->Shared->Prop} {E':Value->Shared->Prop} (h:∀b,Q b s):tw (inMainModule env) Q E' s:=by
 rcases _:E.code.1 with⟨c,o,fs,e,ho,hd⟩
 have ho:=i.sub _ _ ho
 dsimp only[inMainModule]
 try skip
 rw[e]
 split
 ·exact tJ (h _)
 ·refine tG (wpAny_fieldsOf ho hd ?_)
  split
  ·exact tG (wpAny_askSetting (tJ (h _)))
  ·exact tJ (h _)
inductive v3y (cx:Cx) (h:Heap) (a:Addr) (kk:tL):Prop
 | mk (o:Obj) (e:h.get? a=some o) (d:o.SetObjOf cx.sk (λ k=>kk.contains k) kk.length) (l:z9j cx o) (z:kk.length<scanBound) (n:kk.Nodup) (y:∀k∈kk,k.length<=sizeLine)
theorem q2m.led {h:Heap} {a:Addr} {kk:tL} (H:q2m cx h a kk):v3y cx h a kk:=by
 rcases _:H with⟨o,es,ep,t,ho,hex,hd,hel,hmem,hb,hf,hn,hnd,hkz,ht⟩
 exact⟨o,ho,⟨hex,es,ep,t,hd,hel,hmem,hn,hf⟩,⟨es,ep,t,hd,ht.led,ht.plain,ht.one⟩,by decreasing_trivial,hnd,hkz⟩
theorem j5w {D:Addr} {mu:Bool} {b:tL} {Z1:Store} (a:Stp [] g s g' s') (i:Inv cx g' Z1 s') (H:q2m cx s'.heap D b) (h1:D∉g'.ρ) (h2:g'.I D=none) (h3:s.heap.get? D=none) (e:j0w mu b Z1=some (v,Z')) :
  PX cx g s Z' v (.ref D) s':=by
 rcases _:H.led with⟨o,ho,hso,hled,hb,hnd,hz⟩
 refine q0k e λ J e=>ifNo e λ J e=>?_
 rw[(q0h e).1,(q0h e).2]
 exact⟨g'.freeze D o,a.addFz h3 h2,i.add ho h1 h2,D,o,rfl,G.freeze_self _ _ _,hso,hb,hnd,hz,hled⟩
theorem k1w {e:Expr} {rest:List (Bool×Sem Value)} {y:Str} {Z1:Store} {p:Pos} {b:Bool} {road:DisplayRoad} (R:EOk cx n r.e) (hA:AOk n A) (i:tI) (E:ER cx ks ns env g vs s) (e1:r.e ks ns e vs Z=some (.str y,Z1)) {P:Value->Shared->Prop}
  (hroad:road = .oneByOne) (hrest:rest.length<=10) (hf:((false,(do let v <-eval e env;standAt p;pure v:Sem Value))::rest).findIdx? (·.1)=none/\rest=[]\/((false,(do let v <-eval e env;standAt p;pure v:Sem Value))::rest).findIdx? (·.1)=some 1)
  (h:∀g1 s₁,Stp [] g s g1 s₁->Inv cx g1 Z1 s₁->ER cx ks ns env g1 vs s₁->q2m cx s₁.heap tH [y]->tH∉g1.ρ->g1.I tH=none->
   wpAny cx.M A (forIn rest PUnit.unit λ(x:Bool×Sem Value) (_:PUnit)=>(do
    let v <-x.2
    if x.1=true then do
     holding [v] (setDisplayStar tH v)
     pure (ForInStep.yield PUnit.unit)
    else do
     let _ <-holding [v] (setAdd tH v)
     pure (ForInStep.yield PUnit.unit):Sem (ForInStep PUnit))) (λ J s'=>P (.ref tH) s') NoE s₁) :
  tw (setDisplay road b ((false,do let v <-eval e env;standAt p;pure v)::rest)) P NoE s:=by
 subst hroad
 have hn:=q0f s
 have hnf:(if((false,(do let v <-eval e env;standAt p;pure v:Sem Value))::rest).length > 30 then 0 else(((false,(do let v <-eval e env;standAt p;pure v:Sem Value))::rest).findIdx? (·.1)).getD ((false,(do let v <-eval e env;standAt p;pure v:Sem Value))::rest).length)=1:=by
  rw[if_neg (by simp;decreasing_trivial)]
  rcases hf with⟨hf,hr⟩|hf
  ·rw[hf,hr];rfl
  ·rw[hf];rfl
 dsimp only[setDisplay]
 try dsimp only
 refine tG (z4x λ led hl=>?_)
 rw[hnf]
 rw[show((false,(do let v <-eval e env;standAt p;pure v:Sem Value))::rest).take 1=[(false,(do let v <-eval e env;standAt p;pure v:Sem Value))]from rfl,show((false,(do let v <-eval e env;standAt p;pure v:Sem Value))::rest).drop 1=rest from rfl]
 have k:∀b o,s.heap.get? b=some o->(s.heap.push { cls:=.type "set",dict:=none,data:=.set #[] 0 (.fresh 0 0 led) }).get? b=some o:=λ b o e=>Heap.get?_push_of_some _ e
 have a0:Stp [] g s g { s with heap:=s.heap.push { cls:=.type "set",dict:=none,data:=.set #[] 0 (.fresh 0 0 led) } }:=.keeps (t:=s.toks) (jZ _) k
 have i0:Inv cx g Z { s with heap:=s.heap.push { cls:=.type "set",dict:=none,data:=.set #[] 0 (.fresh 0 0 led) } }:=i.keep (t:=s.toks) (jZ _) k
 have hD:(s.heap.push { cls:=.type "set",dict:=none,data:=.set #[] 0 (.fresh 0 0 led) }).get? tH=some { cls:=.type "set",dict:=none,data:=.set #[] 0 (.fresh 0 0 led) }:=Heap.get?_push_size _ rfl
 refine tG (wpAny_holding ?_)
 refine tG ?_
 refine wpAny_evalAll_cons (tG (q0r R hA i0 (E.go a0) e1 λ g1 s₁ u1 a1 i1 E1 r1=>tG (wpAny_standAt (tJ (wpAny_evalAll_nil ?_)))))
 obtain⟨t,rfl,tz⟩:=r1.of_str
 have n1:tH∉g1.ρ:=a1.new _ _ hD (i.fresh hn).2
 have n2:g1.I tH=none:=a1.newI _ _ hD (i.fresh hn).1
 have H0:q2m cx s₁.heap tH []:=(q2m.new hD hl).at λ o e=>a1.keep _ _ e (i.fresh hn).2 (by simp)
 refine tG (wpAny_holding ?_)
 rw[List.forIn_cons]
 refine tG (tG (tG (j2l H0 tz tA λ b h' hsb hS=>?_)))
 have a2:Stp [s.heap.objs.size] g1 s₁ g1 { s₁ with heap:=h',toks:=s₁.toks+1 }:=.write (t:=s₁.toks+1) (Nat.le_succ _) (by simp) hsb hS.there
 have i2:Inv cx g1 Z1 { s₁ with heap:=h',toks:=s₁.toks+1 }:=i1.write (t:=s₁.toks+1) (Nat.le_succ _) n1 n2 hsb
 have a3:Stp [] g s g1 { s₁ with heap:=h',toks:=s₁.toks+1 }:=((a0.trans a1).own.trans a2).fresh (by simp[hn])
 refine tJ (tJ ?_)
 refine tJ ?_
 refine tG (wpAny_mono (h g1 _ a3 i2 (E.go a3) hS n1 n2) (λ J s3 h3=>tJ (tJ h3)) λ J J x=>x)
theorem v0k (R:EOk cx n r.e) (hA:AOk n A) (i:tI) (E:ER cx ks ns env g vs s) {e d:Expr} {p q:Pos}
  (e0:v2x T r ks ns e d p vs Z=some (v,Z')):tw (eval (.Set [e,.Starred d q] 0 p) env) (PX cx g s Z' v) NoE s:=by
 refine ifNo e0 λ hst e0=>q0e e0 λ w Z1 e1 e2=>q0e e2 λ y Z2 e3 e4=>optE e4 λ st h0 e4=>optE e4 λ kvs hd e4=>q0k e4 λ h3 e9=>?_
 obtain rfl:=z0e h0
 ··skip
   simp only[arm_eval_Set]
   refine tG (wpAny_standAt (tG (j6v i E λ b=>?_)))
   rw[q0u (q8n hst)]
   refine k1w (rest:=[(true,do let v <-eval d env;standAt p;pure v)]) R hA i E e1 rfl (by simp) (.inr rfl) λ g1 s₁ a1 i1 E1 H n1 n2=>?_
   rw[List.forIn_cons]
   refine tG (tG (tG (q0r R hA i1 E1 e3 λ g2 s₂ u2 a2 i2 E2 r2=>tG (wpAny_standAt (tJ ?_)))))
   rcases _:q0v i2 hd r2 with⟨da,us,rfl,hda,qd,hm,hz,hkz⟩
   obtain⟨oS,hoS⟩:=H.there
   have hn:=q0f s
   have m1:tH∉g2.ρ:=a2.new _ _ hoS n1
   have m2:g2.I tH=none:=a2.newI _ _ hoS n2
   have H2:=H.at (h':=s₂.heap) λ o e=>a2.keep _ _ e n1 (by simp)
   have hlen:((kvs.map (·.1)).zip us).length=kvs.length:=by have:=qd.length;simp[List.length_zip]at this ⊢;simp +arith [*]
   have hne:da≠tH:=by
    rintro rfl
    obtain⟨o1,es1,ep1,ho1,hx1,hd1,_⟩:=hda
    obtain⟨o2,es2,ep2,t2,ho2,hx2,hd2,_⟩:=H2
    rw[ho1]at ho2;obtain rfl:=zE ho2
    rw[hd1]at hd2;contradiction
   have hkeys:((kvs.map (·.1)).zip us).map (·.1)=kvs.map (·.1):=z8g (by have:=qd.length;simpa using this)
   refine tG (wpAny_holding (k8f hA.handled H2 hda hne hm (by rw[hlen];exact h3) (λ kv hkv=>?_) λ h' t k ht H3=>tJ ?_))
   ·have:kv.1∈kvs.map (·.1):=by rw[<-hkeys];exact List.mem_map.mpr ⟨kv,hkv,rfl⟩
    obtain⟨kv',hk',e'⟩:=List.mem_map.mp this
    rw[<-e'];exact hkz kv' hk'
   ·skip
    simp only[hkeys]at H3
    have a3:Stp [s.heap.objs.size] g2 s₂ g2 { s₂ with heap:=h',toks:=t }:=⟨.refl _,ht,λ b o e J hb=>k b o (by simpa using hb) e,λ J J J h=>h,λ J J J h=>h,λ b o e=>by
     by_cases hb:b=tH
     ·rw[hb];exact H3.there
     ·exact⟨o,k b o hb e⟩,rfl,rfl⟩
    have i3:Inv cx g2 Z2 { s₂ with heap:=h',toks:=t }:=i2.writeI ht m1 m2 λ b o e hb=>k b o hb e
    exact tJ (j5w (((a1.trans a2).own.trans a3).fresh (by simp[hn])) i3 H3 m1 m2 hn e9)
end
theorem q2w:Slot "set_iterator" "__next__" "set_iterator.__next__":=
 .of (owner:="set_iterator") (n:="__next__") tK (by rfl) (by rfl) (by rfl)
  (by first|exact .inl (by rfl)|exact .inr (by decide +kernel)) tK
theorem q8m:Slot "set_iterator" "__iter__" "set_iterator.__iter__":=
 .of (owner:="set_iterator") (n:="__iter__") tK (by rfl) (by rfl) (by rfl)
  (by first|exact .inl (by rfl)|exact .inr (by decide +kernel)) tK
theorem w3q:entryFor table "set_iterator.__next__" = some Builtin.«set_iterator.__next__»:=entryFor_of_tree tK
theorem w4m (a:Value):argsOk "set_iterator.__next__" ⟨[a],[]⟩:=by unfold argsOk;kernel_rfl
theorem w4l (a:Value):argsOk "set_iterator.__iter__" ⟨[a],[]⟩:=by unfold argsOk;kernel_rfl
theorem w3p:entryFor table "set_iterator.__iter__" = some Builtin.«dict_keyiterator.__iter__»:=
 entryFor_alias (id':="dict_keyiterator.__iter__") tK (by first|rfl|decide +kernel|(unfold String.splitOn;simp +decide [String.splitOnAux])) (by decide +kernel) tK
theorem w4z:entryFor table "set.__iter__" = some Builtin.«frozenset.__iter__»:=
 entryFor_alias (id':="frozenset.__iter__") tK (by first|rfl|decide +kernel|(unfold String.splitOn;simp +decide [String.splitOnAux])) (by decide +kernel) tK
section
variable {A:Around} {E:Value->Shared->Prop} {s:Shared}
theorem z3b {src:Source} {n:Nat} {Q:Nat->Shared->Prop} (hn:n≠0) (h:∀k d,k<n->Q k { s with drawn:=d }):wpAny M A (choose src n) Q E s:=λ Γ p J=>
 ⟨hn,h _ _ (Nat.mod_lt _ (Nat.pos_of_ne_zero hn))⟩
theorem w9m {α:Type} (xs:List α) (i:Nat) (x:α) (h:xs[i]? = some x):(x::xs.eraseIdx i).Perm xs:=by
 induction xs generalizing i with
 | nil=>trivial
 | cons y ys ih=>
  induction i with
  | zero=>simp at h;subst h;rfl
  | succ j=>
   simp at h
   exact(List.Perm.swap y x _).trans ((ih j h).cons y)
theorem k4u {α:Type}:∀(n:Nat) (xs:List α) {s:Shared} {Q:List α->Shared->Prop},xs.length=n->(∀ys d,ys.Perm xs->Q ys { s with drawn:=d })->wpAny M A (drawOrder n xs) Q E s
 | 0,xs,s,Q,hl,h=>by
  rw[List.length_eq_zero_iff.mp hl]at h
  exact tJ (h [] s.drawn (.refl _))
 | n+1,[],s,Q,hl,h=>by trivial
 | n+1,x::xs,s,Q,hl,h=>by
  refine tG (z3b (by simp) λ k d hk=>?_)
  obtain⟨y,hy⟩:∃y,(x::xs)[k]? = some y:=⟨(x::xs)[k],List.getElem?_eq_getElem hk⟩
  rw[hy]
  have hle:((x::xs).eraseIdx k).length=n:=by rw[List.length_eraseIdx,if_pos hk,hl];rfl
  refine tG (k4u n _ hle λ ys d' hp=>tJ (h _ d' ((hp.cons y).trans (w9m _ _ _ hy))))
theorem z5f {α:Type} (next:Nat->Nat):∀(f k:Nat) (left:List α) (out:Array α),left.length=f->(pickOrder.go next f k left out).toList.Perm (out.toList++left)
 | 0,k,left,out,h=>by rw[List.length_eq_zero_iff.mp h];dsimp only[pickOrder.go];simp
 | f+1,k,left,out,h=>by
  dsimp only[pickOrder.go]
  have hpos:0<left.length:=by simp +arith [*]
  obtain⟨y,hy⟩:∃y,left[next k % left.length]? = some y:=⟨left[next k % left.length]'(Nat.mod_lt _ hpos),List.getElem?_eq_getElem _⟩
  rw[hy]
  have hle:(left.eraseIdx (next k % left.length)).length=f:=by rw[List.length_eraseIdx,if_pos (Nat.mod_lt _ hpos)];simp +arith [*]
  refine(z5f next f (k+1) _ _ hle).trans ?_
  simp only[Array.toList_push,List.append_assoc]
  exact(List.Perm.refl _).append (by exact w9m _ _ _ hy)
end
noncomputable abbrev q4a (f a:Value) (i n ep:Nat):Obj:={ cls:=.type "set_iterator",data:=.fields #[f,.int i 0,a,.int n 0,.int ep 0] }
section
variable {A:Around} {E:Value->Shared->Prop} {s:Shared} {I a:Addr} {oS:Obj} {es:Array (Int×Value)} {ep:Nat} {t:SetTable}
theorem w3c {f x:Value} {i n:Nat} {Q:Value->Shared->Prop} (hI:s.heap.get? I=some (q4a f x i n ep)) (h:Q (.ref I) s):tw (pyIter (.ref I)) Q E s:=by
 have hT:s.TypeIs (.ref I) "set_iterator":=⟨_,hI,rfl⟩
 refine wpAny_pyIter_slot hT q8m (wpAny_call_entry q8m hT w3p ?_ (w4l _))
 exact tJ ⟨_,rfl,"set_iterator",_,hT,q2w.lookup,h⟩
theorem w2a {f x:Value} {i n:Nat} {k:Nat} {v:Value} (h:Heap) (hI:h.get? I=some (q4a f x i n ep)) :
  (h.update I (Obj.mapFields (·.setIfInBounds k v))).get? I=some { cls:=.type "set_iterator",data:=.fields (#[f,.int i 0,x,.int n 0,.int ep 0].setIfInBounds k v) }:=Heap.get?_update_self _ hI rfl
def NxOk (cx:Cx) (A:Around) (a:Addr) (oS:Obj) (ep:Nat) (ord:tU) (sl:Nat->Nat):Prop:=
 ∀i (s:Shared) (E:Value->Shared->Prop) (Q:Option (Value×Nat)->Shared->Prop),i<=ord.length->s.heap.get? a=some oS->Q ((ord[i]?).map λ x=>(x,sl (i+1))) s->tw (setNext a (sl i) i ep) Q E s
theorem q8t {f:Value} {i n:Nat} {Q:Option Value->Shared->Prop} (hI:s.heap.get? I=some (q4a f (.ref a) i n ep)) (ha:s.heap.get? a=some oS) (hd:oS.data = .set es ep t) (hf:t.fits es.size=true) (hn:n=es.size)
  (h:wpAny cx.M A.in1 (if let .int slot _:=f then(do
    match <-setNext a slot.toNat i ep with
    | some (x,next)=>
     setField (.ref I) 0 (rawInt next)
     setField (.ref I) 1 (rawInt ((i:Int)+1))
     ret x
    | none=>setField (.ref I) 2 .none;raiseNew (<-newExc (.type "StopIteration") []):Sem PySem.Fin)
   else(do
    let some places <-seqItems? f|unsupported "internal:set_iterator"
    match places[i]? with
    | some (.int place _)=>
     let x <-setNextDrawn a place.toNat ep
     setField (.ref I) 1 (rawInt ((i:Int)+1))
     ret x
    | some _=>unsupported "internal:set_iterator"
    | none=>setField (.ref I) 0 (rawInt 0);setField (.ref I) 2 .none;raiseNew (<-newExc (.type "StopIteration") []))) (λ fin s'=>∃r,fin = .done (.ret r)/\Q (some r) s') (λ e s'=>tw (do if(<-isInstance e (.type "StopIteration"))then pure none else throw e) Q E s') s) :
  tw (pyNext (.ref I)) Q E s:=by
 have hT:s.TypeIs (.ref I) "set_iterator":=⟨_,hI,rfl⟩
 refine wpAny_bind (wpAny_attempt (wpAny_callSpecial?_slot (name:=tF "__next__") hT q2w
  (wpAny_call_entry q2w hT w3q ?_ (w4m _))))
 refine wpAny_bind (m:=slotArgs _ _ _) (tJ ?_)
 refine tG (wpAny_fieldsOf hI rfl ?_)
 refine tG (wpAny_setEntries_of ha hd hf ?_)
 rw[if_neg (by rw[hn];simp)]
 exact wpAny_mono h (λ fin s' ⟨r,e,q⟩=>⟨r,e,tJ q⟩) λ J J x=>x
theorem z6x {h1:Heap} {Q:Option Value->Shared->Prop} (hh:A.handled=none) (hQ:∀h',(∀b o,h1.get? b=some o->h'.get? b=some o)->Q none { s with heap:=h' }) :
  wpAny cx.M A.in1 (do raiseNew (<-newExc (.type "StopIteration") []):Sem PySem.Fin) (λ fin s'=>∃r,fin = .done (.ret r)/\Q (some r) s') (λ e s'=>tw (do if(<-isInstance e (.type "StopIteration"))then pure none else throw e) Q E s') { s with heap:=h1 }:=by
 refine tG ?_
 refine tG (wpAny_newObj_type ?_ (by size_fits))
 refine wpAny_bind (m:=firstArgMember _ _) (wpAny_of_eq (a:=Value.none) (by first|rfl|(simp only[firstArgMember];rfl)) ?_)
 refine wpAny_newObj_type ?_ (by size_fits)
 dsimp only[raiseNew]
 refine tG (wpAny_handled ?_)
 rw[show A.in1.handled=none from hh]
 refine tG (tJ (wpAny_throw ?_))
 refine tG (wpAny_isInstance (T:="StopIteration") (b:=true) ⟨_,Heap.get?_push_size _ rfl,rfl⟩ isSubtype_stop ?_)
 exact tJ (hQ _ λ b o e=>Heap.get?_push_of_some _ (Heap.get?_push_of_some _ e))
theorem q2f {h:Heap} {k:Nat} {v:Value} {b:Addr} {o:Obj} (hb:b≠I) (e:h.get? b=some o):(h.update I (Obj.mapFields (·.setIfInBounds k v))).get? b=some o:=((Heap.SameBut.update ..).2 b hb).trans e
theorem j2c {ord:tU} {sl:Nat->Nat} (hh:A.handled=none) (hne:a≠I) (hd:oS.data = .set es ep t) (hf:t.fits es.size=true) (hn:ord.length=es.size) (N:NxOk cx A.in1 a oS ep ord sl) :
  Walks cx.prog cx.w A I [I,a] [I] ord.length (λ i v=>ord[i]? = some v) (λ i h=>h.get? I=some (q4a (.int (sl i) 0) (.ref a) i ord.length ep)/\h.get? a=some oS) where
 sub:=λ b hb=>by simp at hb;simp[hb]
 frame:=λ J J J st hk=>⟨hk I (by simp) _ st.1,hk a (by simp) _ st.2⟩
 item:=λ i s Q E hi st hQ=>by
  refine q8t st.1 st.2 hd hf hn ?_
  obtain⟨x,hx⟩:∃x,ord[i]? = some x:=⟨ord[i],List.getElem?_eq_getElem hi⟩
  refine tG (N i s _ _ (zB hi) st.2 ?_)
  rw[hx]
  refine tG (wpAny_setField st.1 rfl (by simp) ?_)
  have g1:=w2a (k:=0) (v:=rawInt (sl (i+1))) s.heap st.1
  refine tG (wpAny_setField g1 rfl (by simp) ?_)
  refine tJ ⟨_,rfl,?_⟩
  refine hQ x _ s.toks hx ⟨?_,q2f hne (q2f hne st.2)⟩ λ b o hb e=>q2f (by simpa using hb) (q2f (by simpa using hb) e)
  rw[Heap.get?_update_self _ g1 rfl]
  rfl
 done:=λ s Q E st hQ=>by
  refine q8t st.1 st.2 hd hf hn ?_
  refine tG (N ord.length s _ _ (jZ _) st.2 ?_)
  rw[List.getElem?_eq_none (jZ _)]
  refine tG (wpAny_setField st.1 rfl (by simp) ?_)
  exact z6x (s:=s) hh λ h' k=>hQ h' s.toks λ b o hb e=>k b o (q2f (by simpa using hb) e)
 self:=λ i s Q E st hQ=>w3c st.1 hQ
theorem k3k {pl:List Nat} {tp:Addr} {m:Nat} (hh:A.handled=none) (hne:a≠I) (hnt:tp≠I) (hd:oS.data = .set es ep t) (hf:t.fits es.size=true) (hn:pl.length=es.size) (hp:∀j∈pl,j<es.size) :
  Walks cx.prog cx.w A I [I,a,tp] [I] pl.length (λ i v=>∃j e,pl[i]? = some j/\es[j]? = some e/\v=e.2) (λ i h=>h.get? I=some (q4a (.ref tp) (.ref a) i pl.length ep)/\h.get? a=some oS/\h.get? tp=some { cls:=.type "tuple",data:=.seq (pl.map λ(i:Nat)=>rawInt i).toArray m }) where
 sub:=λ b hb=>by simp at hb;simp[hb]
 frame:=λ J J J st hk=>⟨hk I (by simp) _ st.1,hk a (by simp) _ st.2.1,hk tp (by simp) _ st.2.2⟩
 item:=λ i s Q E hi st hQ=>by
  refine q8t st.1 st.2.1 hd hf hn ?_
  obtain⟨j,hj⟩:∃x,pl[i]? = some x:=⟨pl[i],List.getElem?_eq_getElem hi⟩
  have hjl:=hp j (List.mem_of_getElem? hj)
  have hje:es[j]? = some es[j]:=Array.getElem?_eq_getElem hjl
  refine tG (wpAny_seqItems st.2.2 rfl ?_)
  dsimp only
  rw[List.getElem?_toArray,List.getElem?_map,hj]
  show wpAny _ _ (setNextDrawn a (Int.toNat (j:Int)) ep >>= _) _ _ _
  simp only[Int.toNat_natCast]
  dsimp only[setNextDrawn]
  refine tG (tG (wpAny_setState_of st.2.1 hd hf ?_))
  simp only[bne_self_eq_false,Bool.false_eq_true,if_false]
  rw[hje]
  dsimp only
  refine tJ ?_
  refine tG (wpAny_setField st.1 rfl (by simp) ?_)
  refine tJ ⟨_,rfl,?_⟩
  refine hQ _ _ s.toks ⟨j,_,hj,hje,rfl⟩ ⟨?_,q2f hne st.2.1,q2f hnt st.2.2⟩ λ b o hb e=>q2f (by simpa using hb) e
  rw[w2a s.heap st.1]
  rfl
 done:=λ s Q E st hQ=>by
  refine q8t st.1 st.2.1 hd hf hn ?_
  refine tG (wpAny_seqItems st.2.2 rfl ?_)
  dsimp only
  rw[List.getElem?_toArray,List.getElem?_map,List.getElem?_eq_none (jZ _)]
  refine tG (wpAny_setField st.1 rfl (by simp) ?_)
  refine tG (wpAny_setField (w2a (k:=0) (v:=rawInt 0) s.heap st.1) rfl (by simp) ?_)
  exact z6x (s:=s) hh λ h' k=>hQ h' s.toks λ b o hb e=>k b o (q2f (by simpa using hb) (q2f (by simpa using hb) e))
 self:=λ i s Q E st hQ=>w3c st.1 hQ
end
inductive ItW (cx:Cx) (src:List Addr) (s:Shared) (n:Nat) (R:List Value->Prop) (I:Addr) (h:Heap):Prop
 | mk (fp:List Addr) (P:Nat->Value->Prop) (St:Nat->Heap->Prop) (ord:tU) (W:∀A:Around,A.handled=none->Walks cx.prog cx.w A I fp [I] n P St) (st:St 0 h) (f:∀b∈fp,s.heap.get? b=none\/b∈src) (m:I∈fp)
   (r:R ord) (l:ord.length=n) (o:∀i v,P i v->ord[i]? = some v) (tp:Addr) (q:∀b∈fp,b=I\/b∈src\/b=tp) (tq:tp=I\/(s.heap.get? tp=none/\∃o,h.get? tp=some o)) (ti:∀i h,St i h->∃o,h.get? I=some o/\o.cls = .type "set_iterator")
structure ItOk (cx:Cx) (src:List Addr) (s:Shared) (n:Nat) (R:List Value->Prop) (I:Addr) (s':Shared):Prop where
 keep:∀b o,s.heap.get? b=some o->s'.heap.get? b=some o
 new:s.heap.get? I=none
 toks:s.toks<=s'.toks
 gens:s'.gens=s.gens
 os:s'.os=s.os
 walk:ItW cx src s n R I s'.heap
theorem k3x (j k:Nat):SetTable.below #[j] k=if j<k then 1 else 0:=by
 unfold SetTable.below
 simp only[List.size_toArray,List.length_cons,List.length_nil]
 unfold SetTable.below.go
 simp only[Nat.zero_add,Nat.lt_one_iff,if_true]
 have:(#[j]:Array Nat).getD ((0+1) / 2) k=j:=rfl
 simp only[this]
 split<;>(rfl)
section
theorem j0e {ord vs:tU} (h:ItemsOf (λ i v=>ord[i]? = some v) vs.toArray ord.length):vs=ord:=by
 obtain⟨h1,h2⟩:=h
 rw[List.size_toArray]at h1
 refine List.ext_getElem? λ i=>?_
 by_cases hi:i<vs.length
 ·have:=h2 i vs[i] (by simp only[List.getElem?_toArray,List.getElem?_eq_getElem hi])
  simp only[List.getElem?_eq_getElem hi,this]
 ·rw[List.getElem?_eq_none (by exact Nat.le_of_not_lt ‹_›),List.getElem?_eq_none (by(simp_all +arith))]
set_option tactic.hygienic true in theorem k0o {S:Str->Bool} {n:Nat} {Q:Value->Shared->Prop} (ho:s.heap.get? a=some oS) (hs:oS.SetObjOf cx.sk S n) (hl:z9j cx oS) (hb:n<scanBound)
  (h:∀es ep t,oS.data = .set es ep t->∀I s',ItOk cx [a] s es.size (λ vs=>vs.Perm (es.toList.map (·.2))) I s'->s'.TypeIs (.ref I) "set_iterator"->Q (.ref I) s'):tw (pyIter (.ref a)) Q E s:=by
 rcases _:hs with⟨hex,es,ep,t,hd,hel,hmem,hn,hf⟩
 obtain⟨es',ep',t',hd',hled,hplain,_⟩:=hl
 rw[hd]at hd';rcases hd'
 have h:=h es ep t hd
 have hT:s.TypeIs (.ref a) "set":=⟨_,ho,hex.1⟩
 have hal:=Heap.lt_size ho
 have big:∀{b:Addr},s.heap.objs.size<=b->s.heap.get? b=none:=λ{b} hb=>by
  generalize q:s.heap.get? b=zzy
  induction zzy with
  | none=>rfl
  | some o=>exact absurd (Heap.lt_size q) (Nat.not_lt.mpr hb)
 refine wpAny_pyIter_slot hT F.slot_set_iter (wpAny_call_entry F.slot_set_iter hT w4z ?_ (F.args_set_iter_1 _))
 refine tG ?_
 refine wpAny_bind (m:=slotArgs _ _ _) (tJ ?_)
 refine tJ ?_
 refine tG ?_
 refine tG (wpAny_setEntries_of ho hd hf (tJ ?_))
 refine tG ?_
 refine tG (wpAny_setState_of ho hd hf ?_)
 dsimp only
 refine tG (tG (wpAny_askSetting (tJ (tJ ?_))))
 have fin:∀(first:Value) (s₁:Shared),(∀b o,s.heap.get? b=some o->s₁.heap.get? b=some o)->s₁.toks=s.toks->s₁.gens=s.gens->s₁.os=s.os->
   (∀h',(∀b o,s₁.heap.get? b=some o->h'.get? b=some o)->h'.get? s₁.heap.objs.size=some (q4a first (.ref a) 0 es.size ep)->ItW cx [a] s es.size (λ vs=>vs.Perm (es.toList.map (·.2))) s₁.heap.objs.size h')->
   wpAny cx.M A.in1 (do
    let __do_lift <-setEpoch a
    let __do_lift <-newFields "set_iterator" [first,rawInt 0,Value.ref a,rawInt ↑es.size,rawInt ↑__do_lift]
    ret __do_lift) (λ fin s'=>∃v,fin = .done (.ret v)/\∃T' r,s'.TypeIs v T'/\typeLookup (.type T') (tF "__next__")=pure (some r)/\Q v s') E s₁:=by
  intro first s₁ k1 k2 k3 k4 hw
  refine tG (wpAny_setEpoch_of (k1 _ _ ho) hd hf ?_)
  refine tG (wpAny_newObj_type ?_ (by size_fits))
  have hk:∀b o,s₁.heap.get? b=some o->(s₁.heap.push (q4a first (.ref a) 0 es.size ep)).get? b=some o:=λ b o e=>Heap.get?_push_of_some _ e
  have hI:(s₁.heap.push (q4a first (.ref a) 0 es.size ep)).get? s₁.heap.objs.size=some (q4a first (.ref a) 0 es.size ep):=Heap.get?_push_size _ rfl
  refine tJ ⟨_,rfl,"set_iterator",_,⟨_,hI,rfl⟩,q2w.lookup,?_⟩
  have hnew:s.heap.get? s₁.heap.objs.size=none:=by
   cases q:s.heap.get? s₁.heap.objs.size with
   | none=>rfl
   | some o=>exact absurd (Heap.lt_size (k1 _ _ q)) (Nat.lt_irrefl _)
  refine h _ _ ⟨λ b o e=>hk b o (k1 b o e),hnew,zA k2.symm,k3,k4,hw _ hk hI⟩ ⟨_,hI,rfl⟩
 split
 ·rename_i hc
  have hc':cx.w.params.followText "set-order" = false/\((!t.plain&&decide (es.size > 1))=true):=by
   simp only[Bool.and_eq_true]at hc
   exact⟨by have:=hc.1;simp only[Bool.not_eq_true']at this;exact this,hc.2⟩
  refine tG (k4u _ _ (by simp) λ ys d hp=>?_)
  refine tG ?_
  have hlen:ys.length=es.size:=by have:=hp.length_eq;simpa using this
  have hz:(List.map (λ(i:Nat)=>rawInt ↑i) ys).length<=sizeLine:=by
   simp only[zH,hlen,hn];exact fits_of_scanBound hb
  refine wpAny_newTuple ?_ hz
  refine fin _ _ (λ b o e=>Heap.get?_push_of_some _ e) rfl rfl rfl λ h' k hI=>?_
  have htp:h'.get? tH=some { cls:=.type "tuple",data:=.seq (ys.map λ(i:Nat)=>rawInt i).toArray 0 }:=k _ _ (Heap.get?_push_size _ rfl)
  have ha':h'.get? a=some oS:=k _ _ (Heap.get?_push_of_some _ ho)
  have hsz:(s.heap.push { cls:=.type "tuple",data:=.seq (ys.map λ(i:Nat)=>rawInt i).toArray 0 }).objs.size=tH+1:=Heap.size_push ..
  have hpl:∀j∈ys,j<es.size:=λ j hj=>by have:=hp.mem_iff.mp hj;simpa using this
  have hI':(s.heap.push { cls:=.type "tuple",data:=.seq (ys.map λ(i:Nat)=>rawInt i).toArray 0 }).objs.size≠a:=by rw[hsz];exact(Nat.ne_of_lt (Nat.lt_succ_of_lt hal)).symm
  have hI2:(s.heap.push { cls:=.type "tuple",data:=.seq (ys.map λ(i:Nat)=>rawInt i).toArray 0 }).objs.size≠tH:=by rw[hsz];exact(Nat.ne_of_lt (Nat.lt_succ_self _)).symm
  have W:=λ(A:Around) (hA:A.handled=none)=>k3k (A:=A) (pl:=ys) (m:=0) hA hI'.symm hI2.symm hd hf hlen hpl
  rw[hlen]at W
  refine⟨_,_,_,ys.map λ j=>((es[j]?).map (·.2)).getD .none,W,⟨hI,ha',htp⟩,λ b hb=>?_,by simp,?_,by rw[zH];exact hlen,λ i v hv=>?_,s.heap.objs.size,λ b hb=>?_,.inr ⟨q0f s,_,htp⟩,λ J J st=>⟨_,st.1,rfl⟩⟩
  ·simp only[List.mem_cons,List.not_mem_nil,or_false]at hb
   rcases hb with rfl|rfl|rfl
   ·exact .inl (big (by simp only[hsz];exact Nat.le_succ _))
   ·exact .inr (by simp)
   ·exact .inl (big (jZ _))
  ·show(ys.map λ j=>((es[j]?).map (·.2)).getD .none).Perm _
   refine(hp.map _).trans (List.Perm.of_eq ?_)
   refine List.ext_getElem? λ i=>?_
   simp only[List.getElem?_map,List.getElem?_map]
   by_cases hi:i<es.size
   ·rw[List.getElem?_range hi];simp[hi]
   ·rw[List.getElem?_eq_none (by simpa using Nat.le_of_not_lt hi),List.getElem?_eq_none (by simpa using Nat.le_of_not_lt hi)];rfl
  ·obtain⟨j,e,q1,q2,rfl⟩:=hv
   rw[List.getElem?_map,q1,Option.map_some,q2];rfl
  ·simp only[List.mem_cons,List.not_mem_nil,or_false]at hb
   rcases hb with rfl|rfl|rfl
   ·exact .inl rfl
   ·exact .inr (.inl (by simp))
   ·exact .inr (.inr rfl)
 ·rename_i hc
  refine tG (tJ ?_)
  refine fin _ _ (λ b o e=>e) rfl rfl rfl λ h' k hI=>?_
  have ha':h'.get? a=some oS:=k _ _ ho
  have hne:a≠tH:=Nat.ne_of_lt hal
  have byInt:∀(ord:tU) (sl:Nat->Nat),ord.length=es.size->sl 0=0->ord.Perm (es.toList.map (·.2))->(∀A,NxOk cx A a oS ep ord sl)->
    ItW cx [a] s es.size (λ vs=>vs.Perm (es.toList.map (·.2))) tH h':=by
   intro ord sl hlen h0 hperm N
   have W:=λ(A:Around) (hA:A.handled=none)=>j2c (A:=A) (I:=tH) hA hne hd hf hlen (N A.in1)
   rw[hlen]at W
   refine⟨_,_,_,ord,W,⟨by rw[h0];exact hI,ha'⟩,λ b hb=>?_,by simp,hperm,hlen,λ i v hv=>hv,s.heap.objs.size,λ b hb=>?_,.inl rfl,λ J J st=>⟨_,st.1,rfl⟩⟩<;>simp only[List.mem_cons,List.not_mem_nil,or_false]at hb<;>rcases hb with rfl|rfl
   ·exact .inl (big (jZ _))
   ·exact .inr (by simp)
   ·exact .inl rfl
   ·exact .inr (.inl (by simp))
  generalize hbt:cx.w.params.followText "set-order" = zzy
  induction zzy with
  | true=>
   have hbt':(model cx.prog cx.w).w.params.followText "set-order" = true:=hbt
   have hp:=z5f (cx.w.params.setOrder a ep) es.size 0 es.toList #[] (by dsimp)
   refine byInt ((pickOrder (cx.w.params.setOrder a ep) es).toList.map (·.2)) (λ J=>0) ?_ rfl ?_ λ A i s₁ E Q hi ha1 hq=>?_
   ·have:=hp.length_eq
    simp at this
    simp only[zH,Array.length_toList]
    exact this
   ·exact(by unfold pickOrder;simpa using hp:(pickOrder (cx.w.params.setOrder a ep) es).toList.Perm es.toList).map _
   ·skip
    refine tG (wpAny_setState_of ha1 hd hf ?_)
    refine tG (tG (wpAny_askSetting (tJ ?_)))
    rw[if_pos hbt']
    simp only[bne_self_eq_false,Bool.false_eq_true,if_false]
    refine tG (tG (wpAny_setState_of ha1 hd hf ?_))
    refine tG (tG (wpAny_askSetting (tJ ?_)))
    rw[if_pos hbt']
    refine tG (wpAny_askSetting (tJ (tJ ?_)))
    simp only[List.getElem?_map,Array.getElem?_toList]at hq
    rw[Option.map_map]at hq
    exact hq
  | false=>
   have hbt':(model cx.prog cx.w).w.params.followText "set-order" = false:=hbt
   have hnd:¬ ((!t.plain&&decide (es.size > 1))=true):=λ q=>hc (by simp only[Bool.and_eq_true];exact⟨by simp[hbt'],q⟩)
   have hsz:es.size<=1:=by
    rcases Nat.lt_or_ge 1 es.size with h|h
    ·exact absurd (by rw[hplain (by exact zB ‹_›)];simp[h]) hnd
    ·exact h
   have hps:t.place.size=es.size:=by simp only[SetTable.fits,Bool.and_eq_true,beq_iff_eq]at hf;exact hf.1
   refine byInt (es.toList.map (·.2)) (λ i=>if i=0 then 0 else t.place.getD 0 0+1) (by simp) rfl (.refl _) λ A i s₁ E Q hi ha1 hq=>?_
   refine tG (wpAny_setState_of ha1 hd hf ?_)
   refine tG (tG (wpAny_askSetting (tJ ?_)))
   rw[if_neg (by rw[hbt'];exact Bool.false_ne_true)]
   refine wpAny_ite_split (λ q=>absurd q hnd) λ J=>?_
   refine tG ?_
   show wpAny _ _ (if(!t.led&&!es.isEmpty)=true then unsupported _ else pure ()) _ _ _
   rw[if_neg (by rw[hled hbt];simp)]
   refine tJ (tJ ?_)
   rcases Nat.eq_zero_or_pos es.size with h0|h1
   ·have e0:es = #[]:=Array.size_eq_zero_iff.mp h0
    subst e0
    exact hq
   ·have h1:es.size=1:=by exact Nat.le_antisymm ‹_› ‹_›
    obtain⟨e0,he⟩:=Array.size_eq_one_iff.mp h1
    obtain⟨j,hj⟩:=Array.size_eq_one_iff.mp (hps.trans h1)
    subst he
    rw[hj]at hq ⊢
    rcases _:Nat.eq_zero_or_pos i with hi0|hi1
    ·subst hi0
     exact hq
    ·have hi1:i=1:=by exact Nat.le_antisymm ‹_› ‹_›
     subst hi1
     rw[k3x]
     simpa using hq
end
structure Kept (s s':Shared):Prop where
 heap:∀b o,s.heap.get? b=some o->s'.heap.get? b=some o
 toks:s.toks<=s'.toks
 gens:s'.gens=s.gens
 os:s'.os=s.os
theorem Kept.refl (s:Shared):Kept s s:=⟨λ J J e=>e,jZ _,rfl,rfl⟩
theorem Kept.trans {s s' s'':Shared} (a:Kept s s') (b:Kept s' s''):Kept s s'':=⟨λ x o e=>b.heap x o (a.heap x o e),jH a.toks b.toks,b.gens.trans a.gens,b.os.trans a.os⟩
theorem ItOk.kept {src:List Addr} {s s':Shared} {n:Nat} {R:List Value->Prop} {I:Addr} (h:ItOk cx src s n R I s'):Kept s s':=⟨h.keep,h.toks,h.gens,h.os⟩
section
theorem Kept.stp {g:G} {s s':Shared} (k:Kept s s') {own:List Addr}:Stp own g s g s':=⟨.refl g,k.toks,λ b o e J J=>k.heap b o e,λ J J J h=>h,λ J J J h=>h,λ b o e=>⟨o,k.heap b o e⟩,k.gens,k.os⟩
theorem Kept.inv {g:G} {Z:Store} {s s':Shared} (k:Kept s s') (h:tI):Inv cx g Z s':=
 ⟨λ a o e=>k.heap _ _ (h.sub a o e),h.base,h.len,h.nodup,h.apart,λ l o a e q=>(h.cells l o a e q).mono (.refl g) λ J e=>k.heap _ _ e,jH h.one k.toks,λ x y e=>jK (h.tok x y e) k.toks⟩
theorem k1v {T:String} {src:List Addr} {n:Nat} {R:List Value->Prop} {Q:List Value->Shared->Prop} (hA:A.handled=none) (hT:s.TypeIs (.ref a) T) (h1:(Value.type T==Value.type "list")=false) (h2:(Value.type T==Value.type "tuple")=false) (hn:n<=sizeLine) (hsrc:∀b∈src,∃o,s.heap.get? b=some o)
  (iter:∀(A:Around) (s₁:Shared) (Q:Value->Shared->Prop),A.handled=none->Kept s s₁->(∀I s',ItOk cx src s₁ n R I s'->Q (.ref I) s')->tw (pyIter (.ref a)) Q NoE s₁)
  (hint:∀(A:Around) (s₁:Shared) (Q:Bool->Shared->Prop),A.handled=none->Kept s s₁->(∀b s',Kept s₁ s'->Q b s')->tw (Builtin.List.listLengthHint (.ref a)) Q NoE s₁)
  (h:∀vs s',R vs->vs.length=n->Kept s s'->Q vs s'):tw (collect (.ref a)) Q NoE s:=by
 rcases _:hT with⟨oa,hoa,hca⟩
 have hal:=Heap.lt_size hoa
 refine tG (wpAny_runValue (codeAny_builtin F.entry_proto_collect ?_))
 dsimp only[Around.under_plainId F.plain_proto_collect _]
 refine tG (wpAny_newObj_type ?_)
 refine tJ ⟨plainId_quiet F.plain_list_iadd _,codeAny_builtin F.entry_list_iadd ?_⟩
 dsimp only[Around.under_plainId F.plain_list_iadd _]
 have hS1:(s.heap.push { cls:=.type "list",data:=.seq ([]:tU).toArray }).get? tH=some { cls:=.type "list",data:=.seq ([]:tU).toArray }:=Heap.get?_push_size _ rfl
 have hne:tH≠a:=Nat.ne_of_gt hal
 have hsr:Builtin.List.listSameRef (.ref tH) (.ref a)=false:=by simp[Builtin.List.listSameRef,hne]
 have k1:Kept s { s with heap:=s.heap.push { cls:=.type "list",data:=.seq ([]:tU).toArray } }:=⟨λ b o e=>Heap.get?_push_of_some _ e,jZ _,rfl,rfl⟩
 show wpAny _ A.in1 (Builtin.List.listExtendWith (.ref tH) (.ref a) (.ref tH)) _ _ _
 refine tG (wpAny_typeOf (T:=T) ⟨oa,k1.heap _ _ hoa,hca⟩ ?_)
 rw[if_neg (by simp only[hsr,h1,h2];trivial)]
 have hA1:A.in1.handled=none:=by exact hA
 refine tG (wpAny_mono (iter A.in1 _ _ hA1 k1 λ I s₂ ht=>?_) (λ J J x=>x) λ J J x=>x.elim)
 have hI:tH≠I:=λ e=>by simp only[<-e,]at ht;rw[ht.new]at hS1;contradiction
 refine tG (wpAny_holding (wpAny_mono (hint A.in1 s₂ _ hA1 (k1.trans ht.kept) λ room s3 k3=>?_) (λ J J x=>x) λ J J x=>x.elim))
 rcases _:ht.walk with⟨fp,P,St,ord,w1,w2,w3,w4,w5,w6,w7,_,_,_,_⟩
 have hSf:tH∉fp:=λ hm=>by
  rcases _:w3 _ hm with q|q
  ·rw[hS1]at q;contradiction
  ·obtain⟨o,ho⟩:=hsrc _ q
   exact absurd (Heap.lt_size ho) (Nat.lt_irrefl _)
 have W:=(w1 A.in1 hA1).toS
 have hS3:s3.heap.get? tH=some { cls:=.type "list",data:=.seq #[] }:=k3.heap _ _ (ht.kept.heap _ _ hS1)
 have hst3:St 0 s3.heap:=(w1 A hA).frame 0 s₂.heap s3.heap w2 λ b J o e=>k3.heap b o e
 have kk:Kept s s3:=(k1.trans ht.kept).trans k3
 have isn:s.heap.get? tH=none:=q0f s
 have loop:∀(h4:Heap) (c:Nat),(∀b o,b≠tH->s3.heap.get? b=some o->h4.get? b=some o)->h4.get? tH=some { cls:=.type "list",data:=.seq #[] c }->
   codeAny cx.M A (.builtin "list.extend.loop" ⟨[.ref tH,.ref I,.ref tH],[]⟩) (λ r s'=>match r with
    | .ok (.ret v)=>wpAny cx.M A (match v with
     | .ref a=>do
      let o <-load a
      match o.data with
      | .seq xs _=>pure xs.toList
      | _=>unsupported "internal:collect"
     | _=>unsupported "internal:collect") Q NoE s'
    | .ok _=>False
    | .error e=>NoE e s') { s3 with heap:=h4 }:=by
  intro h4 c hk4 hS4
  refine codeAny_extend_loopS W hn tH hSf _ n 0 _ _ _ rfl (Nat.zero_le _) ((w1 A hA).frame 0 s3.heap h4 hst3 λ b hb o e=>hk4 b o (λ z=>hSf (z▸hb)) e) hS4 (ItemsOf.nil P) λ s' acc' c' hm hS' hacc=>?_
  refine tG (wpAny_load hS' ?_)
  refine tJ (h _ _ (by rw[show acc'.toList=ord from j0e (by rw[w6];exact⟨hacc.1,λ j v q=>w7 j v (hacc.2 j v q)⟩)];exact w5) (by exact hacc.1) ⟨λ b o e=>?_,?_,?_,?_⟩)
  ·have hb:b≠tH:=λ z=>by rw[z,isn]at e;contradiction
   have hbI:b≠I:=λ z=>by rw[z]at e;have:=k1.heap _ _ e;rw[ht.new]at this;contradiction
   exact hm.heap b o (by simp only[List.mem_cons,List.not_mem_nil,or_false,not_or];exact⟨hb,hbI⟩) (hk4 b o hb (kk.heap b o e))
  ·exact jH kk.toks hm.toks
  ·exact(hm.gens:s'.gens=_).trans kk.gens
  ·exact hm.os.trans kk.os
 have lp:∀(h4:Heap) (c:Nat),(∀b o,b≠tH->s3.heap.get? b=some o->h4.get? b=some o)->h4.get? tH=some { cls:=.type "list",data:=.seq #[] c }->_:=λ h4 c x y=>And.intro (plainId_quiet F.plain_extend_loop ⟨[.ref tH,.ref I,.ref tH],[]⟩) (loop h4 c x y)
 dsimp only
 refine wpAny_ite_split (λ J=>?_) λ J=>?_
 ·refine tG (wpAny_rule (tG ?_))
  (refine Classical.byContradiction λ kk0=>?_;obtain⟨e1,g1⟩:∃e1,(s3.heap.update tH (Obj.mapSeq (·.push .none))).get? tH=some { cls:=.type "list",data:=.seq #[.none] e1 }:=⟨_,get?_update_seq hS3 (·.push .none)⟩<;>(refine kk0 ?_;clear kk0))
  refine tG (listUpdate_at hS3 rfl ?_ (Nat.zero_le _) (by trivial))
  obtain⟨e2,g2⟩:∃e2,((s3.heap.update tH (Obj.mapSeq (·.push .none))).update tH (Obj.mapSeq (·.pop))).get? tH=some { cls:=.type "list",data:=.seq #[] e2 }:=⟨_,get?_update_seq g1 (·.pop)⟩
  refine listUpdate_at g1 rfl ?_ (by trivial) (by trivial)
  refine tJ (lp _ e2 (λ b o hb e=>?_) g2)
  rw[Heap.get?_update_ne _ _ _ _ hb,Heap.get?_update_ne _ _ _ _ hb];exact e
 ·exact tJ (lp s3.heap _ (λ b o J e=>e) hS3)
end
theorem z7a:isSubtype (.type "set") (.type "set")=pure true:=by rw[isSubtype_type];kernel_rfl
section
theorem j6g {T id:String} {Q:Bool->Shared->Prop} (hT:s.TypeIs (.ref a) T) (hl:typeLookup (.type T) "__len__" = pure (some (.builtin id))) (hs:splitId id=some (T,"__len__")) (hsub:isSubtype (.type T) (.type T)=pure true)
  (hid:id = "set.__len__"\/id = "dict_items.__len__"\/id = "dict.__len__") (h:Q false s):tw (Builtin.List.listLengthHint (.ref a)) Q E s:=by
 refine tG (wpAny_specialOf hT hl ?_)
 dsimp only
 rw[hs]
 refine tG (wpAny_isInstance hT hsub ?_)
 rw[if_neg (by trivial)]
 refine wpAny_ite_split (λ J=>?_) λ q=>?_
 ·refine tG (wpAny_typeOf hT ?_)
  exact tJ h
 ·exfalso
  refine q ?_
  rcases hid with rfl|rfl|rfl<;>rfl
theorem z7n {S:Str->Bool} {n:Nat} {Q:List Value->Shared->Prop} (hA:A.handled=none) (ho:s.heap.get? a=some oS) (hs:oS.SetObjOf cx.sk S n) (hl:z9j cx oS) (hb:n<scanBound)
  (h:∀es ep t,oS.data = .set es ep t->∀vs s',vs.Perm (es.toList.map (·.2))->Kept s s'->Q vs s'):tw (collect (.ref a)) Q NoE s:=by
 rcases _:id hs with⟨hex,es,ep,t,hd,hel,hmem,hn,hf⟩
 have hT:s.TypeIs (.ref a) "set":=⟨_,ho,hex.1⟩
 refine k1v (src:=[a]) (n:=es.size) (R:=λ vs=>vs.Perm (es.toList.map (·.2))) hA hT (by rfl) (by rfl) (by rw[hn];exact fits_of_scanBound hb) (λ b hb=>by simp at hb;subst hb;exact⟨_,ho⟩)
  (λ A s₁ Q hA k hq=>?_) (λ A s₁ Q hA k hq=>?_) λ vs s' hp J k=>h es ep t hd vs s' hp k
 ·refine k0o (k.heap _ _ ho) hs hl hb λ es' ep' t' hd' I s' hi J=>hq I s' ?_
  rw[hd]at hd';rcases hd';exact hi
 ·exact j6g (T:="set") ⟨_,k.heap _ _ ho,hex.1⟩ F.slot_set_len.lookup (by rfl) z7a (.inl rfl) (hq _ _ (.refl _))
end
structure z7e (cx:Cx) (T:Tab):Prop where
 gA:cx.gA=mainGlobals
 bA:cx.bA=builtinsNs
 code:CodeHd cx.h₀ cx.lc cx.lP
 lp:cx.lp=T.lam
 bm:Ex2 λ bm o=>An7 (cx.mg "__builtins__" = some (.ref bm)) (bm≠builtinsNs) (bm≠mainGlobals) (cx.h₀.get? bm=some o) (o.cls = .type "module") (o.dict=some builtinsNs) (o.data = .plain)
 out:cx.h₀.get? cx.lP=none
noncomputable abbrev q4i (cx:Cx) (la:Arguments) (lb:Expr) (sc:Scope) (c':Addr) (ctv:Value):Obj:=kla_obj "<lambda>" (cx.lq++"<lambda>") la lb sc [] ((cx.mg "__name__").getD .none) c' ctv
section
variable {T:Tab}
theorem k2d (h:q2y Z=true):Z[0]? = some .code:=by
 unfold q2y at h
 split at h
 ·assumption
 ·exact Bool.noConfusion h
theorem w4u {sc:Scope} (h:∀p∈sc.names,p.2≠.free):closureFor sc env=pure []:=by
 unfold closureFor
 dsimp only
 rw[forIn_yield_id [] (λ x hx c=>by
  obtain⟨name,kind⟩:=x
  have:(kind==NameKind.free)=false:=by simpa using h _ hx
  simp only[this,Bool.false_eq_true,if_false])]
 rfl
inductive j4d (cx:Cx) (g:G) (s:Shared) (Z:Store) (la:Arguments) (lb:Expr) (sc:Scope) (u:Value) (s':Shared):Prop
 | mk (g':G) (f c':Addr) (ctv:Value) (oc:Obj) (fs:Array Value) (t:Tok) (e:u = .ref f) (a:Stp [] g s g' s') (i:Inv cx g' Z s') (hf:g'.I f=some (q4i cx la lb sc c' ctv)) (hc:g'.I c'=some oc) (hd:oc.data = .fields fs) (h1:fs[1]? = some (.str (cx.lq++"<lambda>") t))
theorem v1j (L:z7e cx T) (H:GlOk cx T) (i:tI) (E:ER cx ks ns env g vs s) {la:Arguments} {lb:Expr} {sc:Scope} {lp:Pos} (hd:la.kw_defaults=[]/\la.defaults=[]) (hfree:∀p∈sc.names,p.2≠.free) (hk:(ks.lookup ("resolved_names" : Str)).isSome=true) (hc:q2y Z=true) (hp:lp=T.lam) :
  tw (eval (.Lambda la lb sc lp) env) (j4d cx g s Z la lb sc) NoE s:=by
 rcases _:E.code.2 hk with⟨hcode,hqual⟩
 have h0:=k2d hc
 rcases _:i.cell h0 with⟨P,hP,rfl,ps,hps,htr,hor⟩
 have hgl:env.globals=mainGlobals:=E.gl.trans L.gA
 have hg:s.heap.Ns mainGlobals cx.mg:=by rw[<-L.gA];exact i.nsAt H.gns
 have hmem:cx.lP∈g.ρ:=List.mem_of_getElem? hP
 rcases _:L.bm with⟨bm,ob,b1,b2,b3,b4,b5,b6,b7⟩
 have nb:∀{b:Addr} {o:Obj},cx.h₀.get? b=some o->b≠cx.lP:=λ e z=>by rw[z,L.out]at e;contradiction
 have hgP:mainGlobals≠cx.lP:=by
  rcases _:H.gns with⟨o,es,ep,e,_⟩
  rw[<-L.gA];exact nb e
 have hdef:defaultsOf la env=([],[]):=by
  obtain⟨p1,p2,p3,p4,p5,p6,p7⟩:=la
  obtain⟨rfl,rfl⟩:=hd
  rfl
 have hB:s.heap.BuiltinsAt cx.mg cx.lP:=⟨bm,ob,b1,b2,b3,nb b4,i.keeps0 _ _ b4,b5,b6,b7⟩
 refine q5k (kla_eval hdef ?_)
 rw[hqual]
 rcases _:hor with hnf|⟨c',oc,fs,t,hhit,hI,hdat,hf1⟩
 ·refine kla_makeFunction (mg:=cx.mg) (w4u hfree) hgl hg hcode (L.code.keeps i.keeps0) hps htr (by rw[hp,<-L.lp];exact hnf) hgP hB λ c' ctv h' tk hx hge hlt hrec htab=>?_
  intro ht
  rcases _:hrec with⟨c2,oc,fs,t,e2,hoc,hdat,hf1⟩
  rcases e2
  have big:∀{b:Addr},s.heap.objs.size<=b->s.heap.get? b=none:=λ{b} hb=>by
   cases q:s.heap.get? b with
   | none=>rfl
   | some o=>exact absurd (Heap.lt_size q) (Nat.not_lt.mpr hb)
  have hcn:s.heap.get? c'=none:=big hge
  have hfn:s.heap.get? h'.objs.size=none:=big (zB (jJ hge hlt))
  have hfc:h'.objs.size≠c':=Nat.ne_of_gt hlt
  obtain⟨n1,n2⟩:=i.fresh hcn
  obtain⟨m1,m2⟩:=i.fresh hfn
  have hPl:s.heap.get? cx.lP=some (tabObj ps):=hps
  have hcP:c'≠cx.lP:=λ z=>by rw[z,hPl]at hcn;contradiction
  have hfP:h'.objs.size≠cx.lP:=λ z=>by rw[z,hPl]at hfn;contradiction
  have keep:∀b o,b≠cx.lP->s.heap.get? b=some o->(h'.push (q4i cx la lb sc c' ctv)).get? b=some o:=λ b o hb e=>Heap.get?_push_of_some _ (hx b o hb e)
  let g1:=g.freeze c' oc
  have m1':g1.I h'.objs.size=none:=by show(if _=c' then _ else g.I _)=none;rw[if_neg hfc];exact m1
  let g2:=g1.freeze h'.objs.size (q4i cx la lb sc c' ctv)
  have le:g.le g2:=(G.freeze_le n1).trans (G.freeze_le m1')
  have hI2:g2.I h'.objs.size=some (q4i cx la lb sc c' ctv):=G.freeze_self _ _ _
  have hIc:g2.I c'=some oc:=(G.freeze_le m1').I _ _ (G.freeze_self g c' oc)
  have other:∀b,b≠c'->b≠h'.objs.size->g2.I b=g.I b:=λ b h1 h2=>by
   show(if b=h'.objs.size then _ else if b=c' then _ else g.I b)=_
   rw[if_neg h2,if_neg h1]
  have getf:(h'.push (q4i cx la lb sc c' ctv)).get? h'.objs.size=some (q4i cx la lb sc c' ctv):=Heap.get?_push_size _ rfl
  have getc:(h'.push (q4i cx la lb sc c' ctv)).get? c'=some oc:=Heap.get?_push_of_some _ hoc
  have ne:∀{b:Addr} {o:Obj},s.heap.get? b=some o->b≠c'/\b≠h'.objs.size:=by
   intro b o e
   constructor
   ·intro z;rw[z,hcn]at e;contradiction
   ·intro z;rw[z,hfn]at e;contradiction
  have i2:Inv cx g2 Z { s with heap:=h'.push (q4i cx la lb sc c' ctv),toks:=tk }:=by
   refine⟨λ b o e=>?_,λ b o e=>le.I _ _ (i.base b o e),i.len,i.nodup,λ b hb=>?_,λ l o b e q=>?_,jH i.one ht,λ x y e=>jK (i.tok x y e) ht⟩
   ·by_cases h1:b=h'.objs.size
    ·subst h1;rw[hI2]at e;obtain rfl:=zE e;exact getf
    ·by_cases h2:b=c'
     ·cases h2;rw[hIc]at e;obtain rfl:=zE e;exact getc
     ·rw[other b h2 h1]at e
      exact keep b o (λ z=>i.notCell e (z▸hmem)) (i.sub b o e)
   ·have hb:b∈g.ρ:=hb
    obtain⟨l,hl,rfl⟩:=List.getElem_of_mem hb
    have hs:l<Z.length:=by simp only[<-i.len];exact hl
    obtain⟨ob',hob'⟩:=(i.cells l Z[l] g.ρ[l] (by simp[hs]) (by simp[hl])).there
    obtain⟨x1,x2⟩:=ne hob'
    rw[other _ x1 x2];exact i.apart _ hb
   ·by_cases hb:b=cx.lP
    ·subst hb
     have hl0:l=0:=((List.getElem?_inj (List.getElem?_eq_some_iff.mp hP).1 i.nodup).mp (hP.trans q.symm)).symm
     subst hl0
     rw[h0]at e;obtain rfl:=zE e
     refine⟨rfl,_,Heap.get?_push_of_some _ htab,?_,.inr ⟨c',oc,fs,t,?_,hIc,hdat,hf1⟩⟩
     ·have:(ps++#[rawInt lp.line,rawInt lp.col,.ref c']).toList=ps.toList++[rawInt lp.line,rawInt lp.col,.ref c']:=by simp
      simp only[this];exact TriplesOk_snoc _ _ _ _ htr
     ·have:(ps++#[rawInt lp.line,rawInt lp.col,.ref c']).toList=ps.toList++[rawInt lp.line,rawInt lp.col,.ref c']:=by simp
      rw[this,hp,<-L.lp]
      exact codeAmong_snoc _ htr hnf
    ·exact(i.cells l o b e q).mono le λ ob eo=>keep b ob hb eo
  have a2:Stp [] g s g2 { s with heap:=h'.push (q4i cx la lb sc c' ctv),toks:=tk }:=by
   refine⟨le,ht,λ b o e q J=>keep b o (λ z=>q (z▸hmem)) e,λ b o e q=>q,λ b o e q=>?_,λ b o e=>?_,rfl,rfl⟩
   ·obtain⟨x1,x2⟩:=ne e
    rw[other _ x1 x2];exact q
   ·by_cases hb:b=cx.lP
    ·subst hb;exact⟨_,Heap.get?_push_of_some _ htab⟩
    ·exact⟨o,keep b o hb e⟩
  exact⟨g2,_,c',ctv,oc,fs,t,rfl,a2,i2,hI2,hIc,hdat,hf1⟩
 ·refine kla_makeFunctionHit (mg:=cx.mg) (cv:=.ref c') (w4u hfree) hgl hg hcode (L.code.keeps i.keeps0) hps htr (by rw[hp,<-L.lp];exact hhit) hB λ ctv h' tk hk' hsz=>?_
  intro ht
  have ht:s.toks<=tk:=ht
  have hfn:s.heap.get? h'.objs.size=none:=by
   generalize q:s.heap.get? h'.objs.size=zzy
   induction zzy with
   | none=>rfl
   | some o=>exact absurd (Heap.lt_size (hk' _ _ q)) (Nat.lt_irrefl _)
  have k:∀b o,s.heap.get? b=some o->(h'.push (q4i cx la lb sc c' ctv)).get? b=some o:=λ b o e=>Heap.get?_push_of_some _ (hk' b o e)
  have a2:Stp [] g s (g.freeze h'.objs.size (q4i cx la lb sc c' ctv)) { s with heap:=h'.push (q4i cx la lb sc c' ctv),toks:=tk }:=.freeze i ht hfn k
  exact⟨_,_,c',ctv,oc,fs,t,rfl,a2,i.freeze ht hfn (Heap.get?_push_size _ rfl) k,G.freeze_self _ _ _,a2.le.I _ _ hI,hdat,hf1⟩
end
end Mine
end
noncomputable section
set_option tactic.hygienic false
namespace Mine
theorem k1z {l:List Nat} {c i:Nat} (h:l[i]? = some c) (hn:∀k,k<i->l[k]?≠some c):l.takeWhile (· !=c)=l.take i/\l.dropWhile (· !=c)=l.drop i:=by
 induction l generalizing i with
 | nil=>trivial
 | cons a l ih=>
  induction i with
  | zero=>simp at h;subst h;simp
  | succ j=>
   have ha:a≠c:=λ z=>hn 0 (by exact Nat.succ_pos _) (by simp[z])
   obtain⟨h1,h2⟩:=ih (i:=j) (by simpa using h) λ k hk=>by simpa using hn (k+1) (by exact Nat.lt_succ_of_le ‹_›)
   simp[ha,h1,h2]
theorem w6v (x:Str) (i j:Nat):(Builtin.Str.strSub x i j).cps.toList=(x.cps.toList.take j).drop i:=by
 unfold Builtin.Str.strSub
 rw[Array.toList_extract]
 simp only[List.extract_eq_take_drop]
 rw[List.drop_take]
theorem k6c (x:Str):limitOf x 1=1:=by
 unfold limitOf
 rfl
theorem w3m (x:Str) (c:Nat) (hc:c<256):(Txt.splitMax x ⟨#[c]⟩ 1).map (·.cps.toList) =
  if x.cps.toList.contains c then[x.cps.toList.takeWhile (· !=c),(x.cps.toList.dropWhile (· !=c)).drop 1]else[x.cps.toList]:=by
 have hk:Builtin.Str.strKind ⟨#[c]⟩=1:=by unfold Builtin.Str.strKind;simp[hc]
 have hk1:1<=Builtin.Str.strKind x:=by unfold Builtin.Str.strKind;split<;>(try split)<;>exact Nat.succ_pos _
 have hl1:(⟨#[c]⟩:Str).length=1:=rfl
 unfold Txt.splitMax
 rw[hk,k6c]
 rcases _:StrLaws.occ_head x ⟨#[c]⟩ 1 (Nat.le_refl _)with⟨h0,hn⟩|⟨i,r,h0,hi,hn⟩
 ·have hno:x.cps.toList.contains c=false:=by
   rw[<-Bool.not_eq_true,List.contains_iff_mem,List.mem_iff_getElem?]
   rintro⟨i,hi⟩
   exact hn i ((StrLaws.subAt_one x c i).mpr hi)
  rw[hno,h0]
  simp
 ·have hi':=(StrLaws.subAt_one x c i).mp hi
  have hyes:x.cps.toList.contains c=true:=by rw[List.contains_iff_mem];exact List.mem_of_getElem? hi'
  have hr:r=[]:=by
   have:=StrLaws.occ_length_le x ⟨#[c]⟩ 0 x.length 1
   rw[h0]at this
   simpa using this
  subst hr
  have hlen:1<=x.length:=by have:=(List.getElem?_eq_some_iff.mp hi').1;skip;decreasing_trivial
  rw[hyes,h0]
  rw[if_neg (by rw[hl1];simp;lia),if_neg (by simp)]
  obtain⟨f1,f2⟩:=k1z hi' λ k hk hx=>hn k hk ((StrLaws.subAt_one x c k).mpr hx)
  simp only[if_true,Builtin.Str.partsBetween,List.map_cons,List.map_nil,List.cons_append,List.nil_append,List.zip_cons_cons,List.zip_nil_left]
  simp only[w6v,w6v,f1,f2]
  rw[List.take_of_length_le (show x.cps.toList.length<=x.length by simp[Str.length])]
  simp[hl1]
end Mine
end
noncomputable section
set_option tactic.hygienic false
open PySem.SeqAt
namespace Mine
section
variable {T:Tab}
theorem z9f {p c:Str} {k:Int} {d:Value} (i:tI) (hc:c.length≠0) (hk:k.natAbs<2 ^ 30) (hz:(Txt.splitMax p c k).length<=sizeLine) (ra:VR cx g (.str p) a) (rb:VR cx g (.str c) b) (rd:VR cx g (.int k) d) :
  tw (call (.builtin "str.split") [a,b,d]) (PE cx g s Z (.fl ((Txt.splitMax p c k).map .str))) NoE s:=by
 obtain⟨t,rfl,z⟩:=ra.of_str
 obtain⟨u,rfl,_⟩:=rb.of_str
 obtain⟨w',rfl⟩:=rd.of_int
 have hy:(c.length==0)=false:=by simpa using hc
 have hk':(decide (k < -(2 ^ 63:Int))||decide (k≥2 ^ 63))=false:=z1e hk
 have zz:∀q∈Txt.splitMax p c k,q.length<=sizeLine:=λ q hq=>jH (partMax_short hq) z
 rcases h1:(decide (p.length<c.length)||decide (Builtin.Str.strKind p<Builtin.Str.strKind c))
 ·rcases hf:(Builtin.Str.occurrences p c 0 p.length (limitOf p k)).isEmpty
  ·have e:Txt.splitMax p c k=Builtin.Str.partsBetween p (Builtin.Str.occurrences p c 0 p.length (limitOf p k)) c.length:=by unfold Txt.splitMax;rw[if_neg (by rw[h1];simp),if_neg (by rw[hf];simp)]
   refine call_meets F.slot_str_split (typeIs_str _ _ _) F.entry_str_split (F.args_str_split_3 _ _ _) (meets_str_split_sep_max p c k t u w' hk' h1 hy hf z (by rw[<-e];exact hz)) ?_
   rw[strsFrom_eq]
   exact PE.texts i ((numbered_texts _ _).trans e.symm) zz hz
  ·have e:Txt.splitMax p c k=[p]:=by unfold Txt.splitMax;rw[if_neg (by rw[h1];simp),if_pos hf]
   exact call_meets F.slot_str_split (typeIs_str _ _ _) F.entry_str_split (F.args_str_split_3 _ _ _) (meets_str_split_max_not_found p c k t u w' hk' h1 hy hf) (PE.texts (l:=[(p,t)]) (t:=s.toks) i e.symm zz hz)
 ·have e:Txt.splitMax p c k=[p]:=by unfold Txt.splitMax;rw[if_pos h1]
  exact call_meets F.slot_str_split (typeIs_str _ _ _) F.entry_str_split (F.args_str_split_3 _ _ _) (meets_str_split_max_cannot_occur p c k t u w' hk' h1) (PE.texts (l:=[(p,t)]) (t:=s.toks) i e.symm zz hz)
structure w3w (la:Arguments) (lb:Expr) (sc:Scope) (y:Str):Prop where
 args:∃p,la=⟨[],[⟨y,none,p⟩],none,[],[],none,[]⟩
 body:Ex7 λ np ap cp k1 k2 q1 q2=>lb = .Call (.Attribute (.Name y np) "split" ap) [.Constant (.str "}") k1 q1,.Constant (.int 1) k2 q2] [] cp/\ap.endLine=cp.line
 sok:ScOk sc
 loc:sc.names.lookup y=some .local
 res:sc.names.lookup ("resolved_names" : Str)=none
 d1:(y==("__debug__" : Str))=false
 d2:(y==("__classdict__" : Str))=false
 nm:y = "n"
theorem anyE {α:Type} {o:Option α} {f:α->Bool} {P:Prop} (h:o.any f=true) (k:∀x,o=some x->f x=true->P):P:=match o,h with
 | some x,h=>k x rfl h
theorem q4h {a b:Bool} {P:Prop} (h:(a&&b)=true) (k:a=true->b=true->P):P:=match a,h with
 | true,h=>k rfl h
theorem j4o {la:Arguments} {a b:List Arg} {c:Option Arg} {d:List Arg} {e:List (Option Expr)} {f:Option Arg} {g:List Expr} (h1:la.posonlyargs=a) (h2:la.args=b) (h3:la.vararg=c) (h4:la.kwonlyargs=d) (h5:la.kw_defaults=e) (h6:la.kwarg=f) (h7:la.defaults=g):la=⟨a,b,c,d,e,f,g⟩:=by
 rcases la;subst h1 h2 h3 h4 h5 h6 h7;rfl
set_option backward.match.sparseCases false in
theorem j4m {as:List Arg} {y:Str} (h:(match as with | [a]=>if a.annotation.isNone then some a.arg else none|_=>none)=some y):∃p,as=[⟨y,none,p⟩]:=match as,h with
 | [⟨z,an,p⟩],h=>q0k h λ k h=>⟨p,by rw[show an=none from Option.isNone_iff_eq_none.mp k,show z=y from zE h]⟩
 | [],h=>nope h
 | _::_::_,h=>nope h
theorem j4n {la:Arguments} {y:Str} (h:argP la=some y):∃p,la=⟨[],[⟨y,none,p⟩],none,[],[],none,[]⟩:=
 q0k h λ q h=>q4h q λ q q7=>q4h q λ q q6=>q4h q λ q q5=>q4h q λ q q4=>q4h q λ q1 q2=>(j4m h).elim λ p e=>
  ⟨p,j4o (List.isEmpty_iff.mp q1) e (Option.isNone_iff_eq_none.mp q2) (List.isEmpty_iff.mp q4) (List.isEmpty_iff.mp q5) (Option.isNone_iff_eq_none.mp q6) (List.isEmpty_iff.mp q7)⟩
theorem j1n {la:Arguments} {lb:Expr} {sc:Scope} (h:w5f la lb sc=true):∃y,w3w la lb sc y:=by
 refine anyE h λ y hy h=>q4h h λ hb h=>?_
 simp only[Bool.and_eq_true,beq_iff_eq,Bool.not_eq_true',List.all_eq_true,Bool.or_eq_true,Option.isNone_iff_eq_none]at h
 rcases _:h with⟨⟨⟨⟨⟨⟨⟨⟨h5,h6⟩,h7⟩,h8⟩,h9⟩,h10⟩,h11⟩,h12⟩,h13⟩
 refine⟨y,j4n hy,?_,⟨h5,λ q hq=>by rcases h10 q hq with z|z<;>(rw[z];decide),h7,h6⟩,h8,h9,h11,h12,h13⟩
 refine anyE hb λ⟨f,as,kws,cp⟩ e1 hb=>q4h hb λ hb h=>q4h hb λ hk hb=>anyE hb λ⟨a,b⟩ e2 hb=>q4h hb λ e3 e4=>anyE h λ⟨o,sp,ap⟩ e5 h=>q4h h λ h e7=>q4h h λ e8 e9=>?_
 rcases _:w0w (beq_iff_eq.mp e7)with⟨np,rfl⟩
 rcases _:w0q (beq_iff_eq.mp e3)with⟨k1,q1,rfl⟩
 rcases _:w0q (beq_iff_eq.mp e4)with⟨k2,q2,rfl⟩
 obtain rfl:=beq_iff_eq.mp e8
 obtain rfl:=z0o e5
 obtain rfl:=k8o e2
 obtain rfl:=List.isEmpty_iff.mp hk
 exact⟨np,ap,cp,k1,k2,q1,q2,k9h e1,beq_iff_eq.mp e9⟩
theorem j9u {n q:Str} {y:Str} (hy:y = "n") {p:Pos} {lb:Expr} {sc:Scope} {m cv ct:Value}:bindArgs (kla_fn n q ⟨[],[⟨y,none,p⟩],none,[],[],none,[]⟩ lb sc [] m cv ct) ⟨[u],[]⟩=pure [(y,u)]:=by
 subst hy
 kernel_rfl
theorem j0p (L:z7e cx T) (hlim:cx.h₀.NoLimit) {f c':Addr} {ctv:Value} {oc:Obj} {fs:Array Value} {t:Tok} {la:Arguments} {lb:Expr} {sc:Scope} {y x:Str} (S:w3w la lb sc y) (hA:A.handled=none) (hd:A.depth+2<recursionLimit) (i:tI)
  (hf:g.I f=some (q4i cx la lb sc c' ctv)) (hc:g.I c'=some oc) (hdat:oc.data = .fields fs) (hf1:fs[1]? = some (.str (cx.lq++"<lambda>") t)) (rx:VR cx g (.str x) u) :
  tw (call (.ref f) [u]) (PX cx g s Z (.fl ((Txt.splitMax x "}" 1).map .str))) NoE s:=by
 rcases _:S.args with⟨p1,rfl⟩
 rcases _:S.body with⟨np,ap,cp,k1,k2,q1,q2,rfl,hl⟩
 have qw:VRs cx g [AV.str x] [u]:=.cons rx .nil
 refine q2i (kla_callFunE (by decreasing_trivial) (i.sub _ _ hf) rfl S.sok.co S.sok.gen rfl ⟨c',oc,fs,t,rfl,i.sub _ _ hc,hdat,hf1⟩ (BindsTo.of_eq (j9u (u:=u) S.nm) cx.M A.in1 NoE _ ?_))
 show wpAny cx.M A.in1 (newFunctionEnv sc mainGlobals [] _ _ _ _ none builtinsNs) _ _ _
 rw[<-L.gA,<-L.bA]
 have hst:∀p∈[(y,AV.str x)],q1x sc.names p.1=true:=λ p hp=>by simp at hp;subst hp;simp[q1x,S.loc]
 refine k0h S.sok ⟨⟨c',oc,fs,rfl,hc,hdat⟩,λ h=>by rw[S.res]at h;contradiction⟩ hst i qw λ env g1 s₁ hown a1 i1 E1=>⟨hlim.keeps i1.keeps0,kla_codeExpr ?_⟩
 have hmem:y∈q0d sc:=E1.mem y (.inl S.loc)
 have hlk:q6n (q0d sc) ([(y,AV.str x)].foldl (λ vs (x,v)=>putV (q0d sc) vs x v) ((q0d sc).map λ J=>none)) y=some (.str x):=q2p (by simp) hmem
 refine wpAny_mono (Q:=PX cx g1 s₁ Z (.fl ((Txt.splitMax x "}" 1).map .str))) (E:=NoE) ?_ (λ v s₂ ⟨g2,a2,i2,r2⟩=>⟨g2,(a1.trans a2.own).fresh hown,i2,r2⟩) λ J J x=>x.elim
 refine tG (z0q (by rfl) (PX.then (z7q E1 i1 (.inl S.loc) S.d1 S.d2 hlk) λ g2 s₂ u2 a2 i2 r2=>tG (wpAny_standAt ?_)))
 have hpos:methodCallPos true (Expr.Name y np) env ap cp=pure cp:=by dsimp only[methodCallPos];simp[hl]
 refine tG (wpAny_holding ?_)
 obtain⟨t2,rfl,tz⟩:=r2.of_str
 refine k2m ?_
 refine tG (wpAny_of_eq hpos ?_)
 refine callWith_of (P:=λ J=>True) (by rfl) (λ h J=>q2o h) ?_
 refine Calls.evalArgs_plain (w6u (a:=.Constant (.str "}") k1 q1) (b:=.Constant (.int 1) k2 q2) ?_)
 have hz1:("}" : Str).length<=sizeLine:=by trivial
 refine PX.then (z0y (v:=.str "}") (show z9v (.str (tF "}"))=some (.str (tF "}"))from if_pos (e:=none) hz1) i2) λ g3 s3 u3 a3 i3 r3=>PX.then (z0y (v:=.int 1) rfl i3) λ g4 s4 u4 a4 i4 r4=>⟨trivial,?_⟩
 have h2:(Txt.splitMax x "}" 1).length<=sizeLine:=by
  have:=congrArg List.length (w3m x 125 tA)
  rw[zH]at this
  have e125:(⟨#[125]⟩:Str)=("}" : Str):=by rfl
  rw[e125]at this
  simp only[this,sizeLine_eq];split<;>simp
 exact PE.up' ((a2.trans a3).trans a4) (z9f i4 (by trivial) tA h2 ((VR.str_ t2 tz)) (r3.mono a4.le) r4)
end
end Mine
end
noncomputable section
set_option tactic.hygienic false
open PySem.SeqAt PySem.MeetsSeq PySem.MeetsSeq3
namespace Mine
noncomputable def q8o:List Str->List Str->Bool
 | _,[]=>false
 | [],_::_=>true
 | x::xs,y::ys=>if x=y then q8o xs ys else decide (x.cps.toList<y.cps.toList)
theorem w1r {x y:Str} {xs ys:tL}:q8o (x::xs) (y::ys)=if x=y then q8o xs ys else decide (x.cps.toList<y.cps.toList):=rfl
theorem k1p (xs:tL):q8o xs []=false:=by cases xs<;>rfl
section
theorem q5i {vs:tU} {i:Nat} {xs:tL} (h:StrsAre (vs.drop i) xs):(vs.drop i=[]/\xs=[])\/∃x t rest,vs[i]? = some (.str x t)/\xs=x::rest/\StrsAre (vs.drop (i+1)) rest:=by
 generalize hd:vs.drop i=zzy
 induction zzy with
 | nil=>rw[hd]at h;cases h;exact .inl ⟨rfl,rfl⟩
 | cons v r=>
  rw[hd]at h
  have h1:vs[i]? = some v:=by have:=congrArg (·[0]?) hd;simpa using this
  have h2:vs.drop (i+1)=r:=by have:=congrArg (·.drop 1) hd;simpa using this
  cases h with
  | cons x t hr=>exact .inr ⟨x,t,_,h1,rfl,by rw[h2];exact hr⟩
theorem j6u (l b:Addr) (items items2:Array Value) (n n2:Nat) (k:Nat) :
  ∀(i:Nat) (xs ys:tL),items.size - i=k->(StrsAre (items.toList.drop i) xs)->(StrsAre (items2.toList.drop i) ys)->i<=items.size->i<=items2.size->
   Meets (Builtin.«list.__eq__.loop» ⟨[.ref l,.ref b,rawInt i,rawInt 0],[]⟩)
   (λ A R s=>s.heap.get? l=some { cls:=.type "list",data:=.seq items n }/\s.heap.get? b=some { cls:=.type "list",data:=.seq items2 n2 }/\
    R (.ok (.ret (.bool (q8o xs ys)))) s):=by
 induction k with
 | zero=>
  intro i xs ys hk h1 h2 hi1 hi2 prog w A R s h
  obtain⟨hp,g,d,tk,os⟩:=s;obtain⟨hl,hb,h⟩:=h
  have hie:i=items.size:=Nat.le_antisymm hi1 (Nat.le_of_sub_eq_zero hk)
  have hx:xs=[]:=by
   rcases q5i h1 with⟨_,e⟩|⟨x,t,r,e,_⟩
   ·exact e
   ·have:=(List.getElem?_eq_some_iff.mp e).1;rw[Array.length_toList,hie]at this;exact absurd this (Nat.lt_irrefl _)
  subst hx
  wp_walk using wpAny_loadPart' hl,wpAny_loadPart' hb
  have hi1:items[((i:Nat):Int).toNat]? = none:=Array.getElem?_eq_none (Nat.le_of_eq hie.symm)
  rw[hi1]
  dsimp only
  wp_walk using wpAny_loadPart' hl,wpAny_loadPart' hb
  show R (.ok (.ret (.bool (decide (items.size<items2.size))))) _
  have:q8o [] ys=decide (items.size<items2.size):=by
   rcases q5i h2 with⟨e1,e⟩|⟨x,t,r,e,e2,_⟩
   ·subst e
    have:=congrArg List.length e1
    rw[List.length_drop,Array.length_toList]at this
    rw[decide_eq_false (Nat.not_lt.mpr (by rw[<-hie];exact Nat.le_of_sub_eq_zero this))];rfl
   ·have:=(List.getElem?_eq_some_iff.mp e).1
    rw[Array.length_toList,hie]at this
    rw[e2,decide_eq_true this];rfl
  rw[<-this];exact h
 | succ k ih=>
  intro i xs ys hk h1 h2 hi1 hi2 prog w A R s h
  obtain⟨hp,g,d,tk,os⟩:=s;obtain⟨hl,hb,h⟩:=h
  wp_walk using wpAny_loadPart' hl,wpAny_loadPart' hb
  dsimp only[Int.toNat_natCast]
  rcases q5i h1 with⟨e1,_⟩|⟨x,tx,r1,e1,rfl,q1⟩
  ·exact absurd (congrArg List.length e1) (by rw[List.length_drop,Array.length_toList,hk];exact Nat.succ_ne_zero k)
  rw[Array.getElem?_toList]at e1
  rw[e1]
  rcases q5i h2 with⟨e2,rfl⟩|⟨y,ty,r2,e2,rfl,q2⟩
  ·have hlen:=congrArg List.length e2
   simp at hlen
   rw[Array.getElem?_eq_none (Nat.le_of_sub_eq_zero hlen)]
   dsimp only
   wp_walk using wpAny_loadPart' hl,wpAny_loadPart' hb
   show R (.ok (.ret (.bool (decide (items.size<items2.size))))) _
   have:decide (items.size<items2.size)=false:=decide_eq_false (Nat.not_lt.mpr (Nat.le_trans (Nat.le_of_sub_eq_zero hlen) hi1))
   rw[this]
   simpa [w1r,k1p]using h
  ·rw[Array.getElem?_toList]at e2
   rw[e2]
   dsimp only
   refine tG (EqAt.str_str x tx y ty prog w _ _ ?_)
   have hlt2:i<items2.size:=(Array.getElem?_eq_some_iff.mp e2).1
   by_cases hxy:x=y
   ·subst hxy
    rw[if_pos (by simp)]
    have hc:((i:Int)+1)=((i+1:Nat):Int):=by push_cast;rfl
    rw[hc]
    refine tJ ⟨plainId_quiet plain_eq_loop _,codeAny_builtin entry_eq_loop ?_⟩
    rw[Around.under_plainId plain_eq_loop _]
    exact ih (i+1) r1 r2 (by rw[Nat.sub_succ,hk];rfl) q1 q2 (Array.getElem?_eq_some_iff.mp e1).1 hlt2 prog w A R _ ⟨hl,hb,by simpa [w1r,k1p]using h⟩
   ·rw[if_neg (by simpa using hxy)]
    wp_walk using wpAny_loadPart' hl,wpAny_loadPart' hb
    rw[e1,e2]
    dsimp only
    refine tG ?_
    show wpAny _ _ (compareOp .Lt (.str x tx) (.str y ty)) _ _ _
    refine PyProof.Rows.lt_str (tJ ?_)
    simpa [w1r,hxy]using h
theorem z1l (l b:Addr) (items items2:Array Value) (n n2:Nat) (xs ys:tL) (h1:StrsAre items.toList xs) (h2:StrsAre items2.toList ys) :
  Meets (Builtin.«list.__lt__» ⟨[.ref l,.ref b],[]⟩)
   (λ A R s=>s.heap.get? l=some { cls:=.type "list",data:=.seq items n }/\s.heap.get? b=some { cls:=.type "list",data:=.seq items2 n2 }/\R (.ok (.ret (.bool (q8o xs ys)))) s):=by
 intro prog w A R s h
 obtain⟨hp,g,d,tk,os⟩:=s;obtain⟨hl,hb,h⟩:=h
 have f3:=AutoSeq1.sub_list_list
 wp_walk using wpAny_loadPart' hl,wpAny_loadPart' hb
 exact⟨plainId_quiet plain_eq_loop _,codeAny_builtin entry_eq_loop (by
  rw[Around.under_plainId plain_eq_loop _]
  exact j6u l b items items2 n n2 _ 0 xs ys rfl (by simpa using h1) (by simpa using h2) (Nat.zero_le _) (Nat.zero_le _) prog w A R _ ⟨hl,hb,h⟩)⟩
theorem k2n {l b:Addr} {items items2:Array Value} {n n2:Nat} {xs ys:tL} {Q:Bool->Shared->Prop} (hu:A.units<cLine) (hl:s.heap.get? l=some { cls:=.type "list",data:=.seq items n }) (hb:s.heap.get? b=some { cls:=.type "list",data:=.seq items2 n2 })
  (h1:StrsAre items.toList xs) (h2:StrsAre items2.toList ys) (h:Q (q8o xs ys) s):wpAny (model prog w) A (oneLt' true (.ref l) (.ref b)) Q E s:=by
 dsimp only[oneLt'_eq]
 refine tG (wpAny_cRoomFor hu ?_)
 refine tG (wpAny_callSpecialIfBound?_slot (T:="list") ⟨_,hl,rfl⟩ F.slot_list_lt (call_meets F.slot_list_lt ⟨_,hl,rfl⟩ F.entry_list_lt (F.args_list_lt_2 _ _) (z1l l b items items2 n n2 xs ys h1 h2) ⟨hl,hb,?_⟩))
 exact wpAny_truthy_bool h
end
noncomputable def lexB (O:KeyOrd):List O.α->List O.α->Bool
 | _,[]=>false
 | [],_::_=>true
 | x::xs,y::ys=>O.blt x y||(!O.blt y x&&lexB O xs ys)
section
variable {O:KeyOrd}
theorem q6k {x y:O.α} {xs ys:List O.α}:lexB O (x::xs) (y::ys)=(O.blt x y||(!O.blt y x&&lexB O xs ys)):=rfl
theorem v1m (a:List O.α):lexB O a []=false:=by cases a<;>rfl
theorem k3u {a b:O.α} (h:O.blt a b=true):O.blt b a=false:=by
 generalize q:O.blt b a=zzy
 induction zzy with
 | false=>rfl
 | true=>have:=O.trans a b a h q;rw[O.irrefl]at this;cases this
theorem w9s:∀a:List O.α,lexB O a a=false
 | []=>rfl
 | x::xs=>by rw[q6k,O.irrefl,w9s xs];rfl
theorem w5k:∀a b:List O.α,lexB O a b=false->lexB O b a=false->a=b
 | [],[],_,_=>rfl
 | [],_::_,h,_=>Bool.noConfusion h
 | _::_,[],_,h=>Bool.noConfusion h
 | x::xs,y::ys,h,k=>by
  simp only[q6k,Bool.or_eq_false_iff,Bool.and_eq_false_iff,Bool.not_eq_false']at h k
  have e:=O.total x y h.1 k.1
  subst e
  rcases h.2 with z|z
  ·rw[h.1]at z;contradiction
  ·rcases k.2 with q|q
   ·rw[h.1]at q;contradiction
   ·rw[w5k xs ys z q]
theorem w5h {x y:O.α} {xs ys:List O.α} (h:lexB O (x::xs) (y::ys)=true):O.blt x y=true\/(x=y/\lexB O xs ys=true):=by
 simp only[q6k,Bool.or_eq_true,Bool.and_eq_true,Bool.not_eq_true']at h
 rcases h with h|⟨h1,h2⟩
 ·exact .inl h
 ·generalize q:O.blt x y=zzy
  induction zzy with
  | true=>exact .inl rfl
  | false=>exact .inr ⟨O.total x y q h1,h2⟩
theorem w5j {x y:O.α} {xs ys:List O.α} (h:O.blt x y=true):lexB O (x::xs) (y::ys)=true:=by rw[q6k,h];rfl
theorem k6b {x:O.α} {xs ys:List O.α} (h:lexB O xs ys=true):lexB O (x::xs) (x::ys)=true:=by rw[q6k,h,O.irrefl];rfl
theorem w5l:∀a b c:List O.α,lexB O a b=true->lexB O b c=true->lexB O a c=true
 | _,_,[],_,h=>by cases ‹List O.α›<;>trivial
 | a,[],_::_,h,_=>nomatch (v1m a).symm.trans h
 | [],_::_,_::_,_,_=>rfl
 | x::xs,y::ys,z::zs,h,k=>by
  rcases w5h h with h1|⟨e1,h1⟩
  ·rcases _:w5h k with k1|⟨e2,k1⟩
   ·exact w5j (O.trans _ _ _ h1 k1)
   ·rw[<-e2];exact w5j h1
  ·rcases w5h k with k1|⟨e2,k1⟩
   ·rw[e1];exact w5j k1
   ·rw[e1,e2];exact k6b (w5l xs ys zs h1 k1)
theorem j6r (a b c:List O.α) (h:lexB O a c=true):lexB O a b=true\/lexB O b c=true:=by
 cases q:lexB O a b with
 | true=>exact .inl rfl
 | false=>
  right
  generalize p:lexB O b a=zzy
  induction zzy with
  | true=>exact w5l _ _ _ p h
  | false=>rw[<-w5k a b q p];exact h
end
noncomputable abbrev q4j (O:KeyOrd):KeyOrd:=⟨List O.α,lexB O,w9s,w5l,j6r,w5k⟩
noncomputable abbrev q0n:KeyOrd:=PyProof.Rows.strKind.toKeyOrd
noncomputable abbrev q1p (x:Str):q0n.α:=x.cps.toList
theorem k3h (x y:Str):q0n.blt (q1p x) (q1p y)=decide (x.cps.toList<y.cps.toList):=rfl
theorem q3j {x y:Str} (h:q1p x=q1p y):x=y:=by
 cases x;cases y
 simp only[q1p]at h
 congr
 exact Array.toList_inj.mp h
theorem z0h:∀xs ys:List Str,q8o xs ys=(q4j q0n).blt (xs.map q1p) (ys.map q1p)
 | _,[]=>by cases ‹List Str›<;>rfl
 | [],_::_=>rfl
 | x::xs,y::ys=>by
  have ih:q8o xs ys=lexB q0n (xs.map q1p) (ys.map q1p):=z0h xs ys
  show q8o (x::xs) (y::ys)=lexB q0n (q1p x::xs.map q1p) (q1p y::ys.map q1p)
  rw[w1r,q6k,<-ih]
  by_cases h:x=y
  ·subst h;rw[if_pos rfl,q0n.irrefl];rfl
  ·rw[if_neg h,<-k3h]
   cases q:q0n.blt (q1p x) (q1p y)with
   | true=>rfl
   | false=>
    generalize p:q0n.blt (q1p y) (q1p x)=zzy
    induction zzy with
    | true=>rfl
    | false=>exact absurd (q3j (q0n.total _ _ q p)) h
end Mine
end
noncomputable section
set_option tactic.hygienic false
open PySem.SeqAt
namespace Mine
noncomputable def w2c (t:Str):List Str:=Txt.splitMax t "}" 1
noncomputable def j0j (t:Str):AV:=.fl ((w2c t).map .str)
abbrev keyO (t:Str):(q4j q0n).α:=(w2c t).map q1p
section
variable {T:Tab}
theorem Stp.less {own own':List Addr} (a:Stp own g s g' s') (h:∀b∈own,b∈own'\/s.heap.get? b=none):Stp own' g s g' s':=
 ⟨a.le,a.toks,λ b o e p q=>a.keep b o e p λ z=>(h b z).elim q λ w=>(by rw[w]at e;contradiction),a.new,a.newI,a.stay,a.gens,a.os⟩
theorem w6w:∀{ts:tL} {us:tU},VRs cx g (ts.map .str) us->StrsAre us ts
 | [],us,q=>by rw[VRs.of_nil q];exact .nil
 | t::ts,us,q=>by
  obtain⟨u,us,rfl,h1,h2⟩:=VRs.uncons (show VRs cx g (AV.str t::ts.map .str) us from q)
  obtain⟨tk,rfl,_⟩:=h1.of_str
  exact .cons _ _ (w6w h2)
theorem k2g {t:Str} (i:tI) (q:VR cx g (j0j t) u):Ex3 λ p items k=>An4 (u = .ref p) (s.heap.get? p=some { cls:=.type "list",data:=.seq items k }) (StrsAre items.toList (w2c t)) (p∉g.ρ):=by
 unfold j0j at q
 rcases _:q with⟨p,o,us,rfl,hi,⟨k,rfl⟩,hq,_⟩
 exact⟨p,us.toArray,k,rfl,i.sub _ _ hi,w6w hq,i.notCell hi⟩
inductive KsI (cx:Cx) (g:G) (Z:Store) (s:Shared) (D K e1:Nat) (us:tU) (ts:tL) (rest:tU) (s':Shared):Prop
 | mk (done kk:tU) (g':G) (e:Nat) (_:us=done++rest) (_:done.length=kk.length) (_:s'.heap.get? K=some (seqObj "list" (List.toArray kk) e)) (_:s'.heap.get? D=some (seqObj "list" #[] e1)) (_:Stp [D,K] g s g' s') (_:Inv cx g' Z s') (_:VRs cx g' ((ts.take done.length).map j0j) kk) (_:D∉g'.ρ) (_:g'.I D=none) (_:K∉g'.ρ) (_:g'.I K=none)
theorem j0m (L:z7e cx T) (hlim:cx.h₀.NoLimit) {f c' D:Addr} {ctv:Value} {oc:Obj} {fs:Array Value} {t:Tok} {la:Arguments} {lb:Expr} {sc:Scope} {y:Str} (S:w3w la lb sc y) (hA:A.handled=none) (hd:A.depth+2<recursionLimit) (hu:A.units<cLine) (i:tI)
  (hf:g.I f=some (q4i cx la lb sc c' ctv)) (hc:g.I c'=some oc) (hdat:oc.data = .fields fs) (hf1:fs[1]? = some (.str (cx.lq++"<lambda>") t))
  {ts:tL} {us:tU} {n0:Nat} {P:PySem.Fin->Shared->Prop} (q:VRs cx g (ts.map .str) us) (h64:ts.length<5) (hD:s.heap.get? D=some (seqObj "list" us.toArray n0)) (hD1:D∉g.ρ) (hD2:g.I D=none)
  (h:∀(p:Array Nat) (g':G) (s':Shared) (c:Nat),q7m ts.length p->Up (O:=q4j q0n) (λ i=>keyO (ts.getD i Str.empty)) p ts.length->Stp [D] g s g' s'->Inv cx g' Z s'->D∉g'.ρ->g'.I D=none->s'.heap.get? D=some (seqObj "list" (p.toList.map λ i=>us.getD i Value.none).toArray c)->P (.done (.ret .none)) s') :
  tw (ksk_tree D (.ref f) false) P NoE s:=by
 have hlen:us.length=ts.length:=q.length.symm.trans (zH ..)
 have hz:us.length<=4:=by rw[hlen];exact Nat.le_of_lt_succ h64
 have hDl:D<tH:=Heap.lt_size hD
 have s1:=Heap.SameBut.update s.heap D (Obj.mapSeq λ J=>(#[]:Array Value))
 obtain⟨e1,ho1⟩:∃e1,(s.heap.update D (Obj.mapSeq λ J=>(#[]:Array Value))).get? D=some (seqObj "list" #[] e1):=⟨_,get?_update_seq hD λ J=>#[]⟩
 refine tG (listItems_at hD rfl ?_)
 refine tG (listUpdate_at hD rfl ?_ (by rw[List.size_toArray,sizeLine_eq];exact jH hz tA) (Nat.zero_le _))
 refine tG (seqEpoch_at ho1 rfl ?_)
 refine tG (wpAny_newTuple ?_ (by show us.length<=_;rw[sizeLine_eq];exact jH hz tA))
 refine tG (wpAny_newList ?_ (Nat.zero_le _))
 refine wpAny_holding ?_
 have hsz2:((s.heap.update D (Obj.mapSeq λ J=>(#[]:Array Value))).push (seqObj "tuple" us.toArray 0)).objs.size=tH+1:=by rw[size_push',Heap.size_update]
 show wpAny _ _ (ksk_rest D (.ref f) false us.toArray e1 (.ref ((s.heap.update D (Obj.mapSeq λ J=>(#[]:Array Value))).push (seqObj "tuple" us.toArray 0)).objs.size)) _ _ { s with heap:=((s.heap.update D (Obj.mapSeq λ J=>(#[]:Array Value))).push (seqObj "tuple" us.toArray 0)).push (seqObj "list" #[] 0) }
 rw[hsz2]
 generalize hK:tH+1=K at hsz2 ⊢
 generalize hH:(((s.heap.update D (Obj.mapSeq λ J=>(#[]:Array Value))).push (seqObj "tuple" us.toArray 0)).push (seqObj "list" #[] 0))=H
 have hkS:H.get? K=some (seqObj "list" #[] 0):=by rw[<-hH,<-hsz2];exact Heap.get?_push_size _ rfl
 have hDH:H.get? D=some (seqObj "list" #[] e1):=by rw[<-hH];exact Heap.get?_push_of_some _ (Heap.get?_push_of_some _ ho1)
 have kH:∀b o,s.heap.get? b=some o->b≠D->H.get? b=some o:=λ b o e hb=>by
  rw[<-hH];exact Heap.get?_push_of_some _ (Heap.get?_push_of_some _ ((s1.2 b hb).trans e))
 have nk:s.heap.get? K=none:=by
  rw[<-hK]
  generalize q:s.heap.get? (s.heap.objs.size+1)=zzy
  induction zzy with
  | none=>rfl
  | some o=>exact absurd (Heap.lt_size q) (Nat.not_lt.mpr (Nat.le_succ _))
 have aH:Stp [D] g s g { s with heap:=H }:=⟨.refl g,jZ _,λ b o e J hb=>kH b o e (by simpa using hb),λ J J J h=>h,λ J J J h=>h,λ b o e=>by
  by_cases hb:b=D
  ·rw[hb];exact⟨_,hDH⟩
  ·exact⟨o,kH b o e hb⟩,rfl,rfl⟩
 have iH:Inv cx g Z { s with heap:=H }:=i.writeI (t:=s.toks) (jZ _) hD1 hD2 kH
 have hDk:D≠K:=hK▸Nat.ne_of_lt (Nat.lt_succ_of_lt hDl)
 refine tG (wpAny_rule ?_)
 first
  | rw[List.forIn_toArray]
  | (rw[<-Array.forIn_toList];simp only[List.toList_toArray])
  | rw[<-Array.forIn_toList]
 refine wpAny_bind (wpAny_forIn_list _ (λ rest J s'=>KsI cx g Z s D K e1 us ts rest s') _ ?turn ?fin us _
   ⟨[],[],g,0,rfl,rfl,hkS,hDH,aH.wider (by simp),iH,.nil,hD1,hD2,(i.fresh nk).2,(i.fresh nk).1⟩)
 case turn=>
  rintro x rest _ s₁ ⟨done,kk,g1,e,hus,hdl,hk1,hd1,a1,i1,q1,n1,n2,n3,n4⟩
  have hx:us[done.length]? = some x:=by rw[hus];simp
  have hlt:done.length<ts.length:=by rw[<-hlen,hus,zI];exact Nat.lt_add_of_pos_right (Nat.succ_pos _)
  obtain⟨tt,htt⟩:∃tt,ts[done.length]? = some tt:=⟨ts[done.length],List.getElem?_eq_getElem hlt⟩
  rcases _:q.get (i:=done.length) (x:=.str tt) (by rw[List.getElem?_map,htt];rfl)with⟨x',hx',rx⟩
  rw[hx]at hx';obtain rfl:=zE hx'
  (refine tG (wpAny_attempt (wpAny_mono (j0p L hlim S hA hd i1 (a1.le.I _ _ hf) (a1.le.I _ _ hc) hdat hf1 (rx.mono a1.le)) (λ k s₂ zz0=>?_) λ J J x=>x.elim));rcases _:zz0 with⟨g2,a2,i2,r2⟩)
  dsimp only
  have hk2:s₂.heap.get? K=some (seqObj "list" (List.toArray kk) e):=a2.keep _ _ hk1 n3 (by simp)
  have hd2:s₂.heap.get? D=some (seqObj "list" #[] e1):=a2.keep _ _ hd1 n1 (by simp)
  have s2:=Heap.SameBut.update s₂.heap K (Obj.mapSeq (·.push k))
  have ea:(List.toArray kk).push k=List.toArray (kk++[k]):=by simp
  obtain⟨c2,hc2⟩:∃c2,(s₂.heap.update K (Obj.mapSeq (·.push k))).get? K=some (seqObj "list" (List.toArray (kk++[k])) c2):=⟨_,by rw[<-ea];exact get?_update_seq hk2 (·.push k)⟩
  have hkl:kk.length<64:=by rw[<-hdl];exact Nat.lt_trans hlt (Nat.lt_trans h64 tA)
  refine tG (listUpdate_at hk2 rfl ?_ (by rw[List.size_toArray,sizeLine_eq];exact jH (zB hkl) tA) (jH (zA (Array.size_push ..)) (by rw[List.size_toArray,sizeLine_eq];exact jH hkl tA)))
  have m1:D∉g2.ρ:=a2.new _ _ hd1 n1
  have m2:g2.I D=none:=a2.newI _ _ hd1 n2
  have m3:K∉g2.ρ:=a2.new _ _ hk1 n3
  have m4:g2.I K=none:=a2.newI _ _ hk1 n4
  have a3:Stp [D,K] g2 s₂ g2 { s₂ with heap:=s₂.heap.update K (Obj.mapSeq (·.push k)) }:=.write (t:=s₂.toks) (jZ _) (by simp) s2 ⟨_,hc2⟩
  have i3:Inv cx g2 Z { s₂ with heap:=s₂.heap.update K (Obj.mapSeq (·.push k)) }:=i2.write (t:=s₂.toks) (jZ _) m3 m4 s2
  refine tJ ⟨done++[x],kk++[k],g2,c2,by rw[hus];simp,by simp[hdl],hc2,(s2.2 D hDk).trans hd2,(a1.trans a2.own).trans a3,i3,?_,m1,m2,m3,m4⟩
  have htk:ts.take (done++[x]).length=ts.take done.length++[tt]:=by rw[zI,List.length_singleton,List.take_add_one,htt];rfl
  rw[htk,List.map_append]
  exact(q1.mono a2.le).append (.cons r2 .nil)
 case fin=>
  rintro _ s₁ ⟨done,kk,g1,e,hus,hdl,hk1,hd1,a1,i1,q1,n1,n2,n3,n4⟩
  rw[List.append_nil]at hus
  subst hus
  have hkl:kk.length=ts.length:=hdl.symm.trans hlen
  rw[List.take_of_length_le (zA hlen.symm)]at q1
  refine tG (listItems_at hk1 rfl ?_)
  unfold ksk_end
  dsimp only
  rw[if_neg Bool.false_ne_true]
  have tail:∀(st:SortSt) (p:Array Nat) (tk:Nat),s₁.toks<=tk->q7m ts.length p->Up (O:=q4j q0n) (λ i=>keyO (ts.getD i Str.empty)) p ts.length->(arrOf st).map (·.2)=List.toArray (p.toList.map λ i=>us.getD i Value.none)->failedOf st=none->
    tw (ksk_tail D false e1 (.ref K) st) P NoE { s₁ with toks:=tk }:=by
   intro st p tk htk hp hup hout hfail
   unfold ksk_tail
   dsimp only
   rw[hout]
   obtain⟨ck,hck⟩:∃ck,(s₁.heap.update K (Obj.mapSeq λ J=>(#[]:Array Value))).get? K=some (seqObj "list" #[] ck):=⟨_,get?_update_seq hk1 λ J=>#[]⟩
   have t1:=Heap.SameBut.update s₁.heap K (Obj.mapSeq λ J=>(#[]:Array Value))
   have hd2:=(t1.2 D hDk).trans hd1
   refine tG (listUpdate_at hk1 rfl ?_ (by rw[List.size_toArray,hkl,sizeLine_eq];exact jH (zB h64) tA) (Nat.zero_le _))
   refine tG (wpAny_letGo ?_)
   refine tG (seqEpoch_at hd2 rfl ?_)
   have hpz:(p.toList.map λ i=>us.getD i Value.none).length=ts.length:=by rw[zH,Array.length_toList,hp.size]
   rw[if_neg Bool.false_ne_true]
   refine tG (listUpdate_at hd2 rfl ?_ (Nat.zero_le _) (jH (zA (show _=ts.length from hpz)) (by rw[sizeLine_eq];exact jH (zB h64) tA)))
   rw[hfail]
   simp only[bne_self_eq_false,Bool.false_eq_true,if_false]
   (refine Classical.byContradiction λ kk0=>?_;obtain⟨cd,hcd⟩:∃cd,((s₁.heap.update K (Obj.mapSeq λ J=>(#[]:Array Value))).update D (Obj.mapSeq λ J=>List.toArray (p.toList.map λ i=>us.getD i Value.none))).get? D=some (seqObj "list" (List.toArray (p.toList.map λ i=>us.getD i Value.none)) cd):=⟨_,get?_update_seq hd2 λ J=>List.toArray (p.toList.map λ i=>us.getD i Value.none)⟩<;>(refine kk0 ?_;clear kk0))
   have t2:=Heap.SameBut.update (s₁.heap.update K (Obj.mapSeq λ J=>(#[]:Array Value))) D (Obj.mapSeq λ J=>List.toArray (p.toList.map λ i=>us.getD i Value.none))
   have kk2:∀b o,s₁.heap.get? b=some o->b≠D->b≠K->((s₁.heap.update K (Obj.mapSeq λ J=>(#[]:Array Value))).update D (Obj.mapSeq λ J=>List.toArray (p.toList.map λ i=>us.getD i Value.none))).get? b=some o:=λ b o eb h1 h2=>(t2.2 b h1).trans ((t1.2 b h2).trans eb)
   refine tJ (h p g1 _ cd hp hup (Stp.less (own:=[D,K]) ?_ λ b hb=>?_) ?_ n1 n2 hcd)
   ·refine a1.trans ⟨.refl _,htk,λ b o eb J hb=>kk2 b o eb (λ z=>hb (by simp[z])) (λ z=>hb (by simp[z])),λ J J J h=>h,λ J J J h=>h,λ b o eb=>?_,rfl,rfl⟩
    by_cases h1:b=D
    ·rw[h1];exact⟨_,hcd⟩
    ·by_cases h2:b=K
     ·rw[h2];exact⟨_,(t2.2 _ hDk.symm).trans hck⟩
     ·exact⟨o,kk2 b o eb h1 h2⟩
   ·simp only[List.mem_cons,List.not_mem_nil,or_false]at hb
    rcases hb with rfl|rfl
    ·exact .inl (by simp)
    ·exact .inr nk
   ·have i2:=i1.write (t:=tk) htk n3 n4 t1
    exact i2.write (t:=tk) (jZ _) n1 n2 t2
  by_cases h2:us.toArray.size<2
  ·rw[if_pos h2,if_pos h2]
   refine tG (tJ ?_)
   rw[StateT.run_pure]
   refine tG (tJ ?_)
   have hts:ts.length<2:=by rw[<-hlen];exact h2
   have hp0:q7m ts.length (List.range ts.length).toArray:=Array.Perm.refl _
   have hu0:Up (O:=q4j q0n) (λ i=>keyO (ts.getD i Str.empty)) (List.range ts.length).toArray ts.length:=k1q hts
   refine tail _ _ s₁.toks (jZ _) hp0 hu0 ?_ rfl
   show((kk.toArray.zip us.toArray).map (·.2))=_
   exact k7z hlen hkl
  ·rw[if_neg h2,if_neg h2]
   have h2':2<=us.length:=Nat.le_of_not_lt h2
   have hke:kk.length=us.length:=hkl.trans hlen.symm
   have keyAt:∀j,j<ts.length->Ex3 λ p items k=>An3 (kk.getD j Value.none = .ref p) (s₁.heap.get? p=some { cls:=.type "list",data:=.seq items k }) (StrsAre items.toList (w2c (ts.getD j Str.empty))):=λ j hj=>by
    rcases _:q1.get (i:=j) (x:=j0j ts[j]) (by rw[List.getElem?_map,List.getElem?_eq_getElem hj];rfl)with⟨k,hk,rk⟩
    rcases _:k2g i1 rk with⟨p,items,kz,rfl,hp,hs,_⟩
    refine⟨p,items,kz,by rw[List.getD_eq_getElem?_getD,hk];rfl,hp,?_⟩
    rw[List.getD_eq_getElem?_getD,List.getElem?_eq_getElem hj];exact hs
   refine tG (kas_kind (T:=.type "list") (by rw[hke];exact h2') (λ k hk=>?_) tA tA ?_)
   ·obtain⟨j,hj,rfl⟩:=List.getElem_of_mem hk
    obtain⟨p,items,kz,hp,hg,_⟩:=keyAt j (by rw[<-hkl];exact hj)
    rw[List.getD_eq_getElem?_getD,List.getElem?_eq_getElem hj]at hp
    rw[show kk[j] = .ref p from hp]
    exact(Looks.ld hg).andThen .now
   ·refine wpAny_bind (wpAny_mono (kat_run (ks:=kk) (vs:=us) (κ:=oneType') (Q:=λ st' s'=>Ex2 λ(p:Array Nat) (t:Nat)=>An6 (s'={ s₁ with toks:=t }) (s₁.toks<=t) (q7m ts.length p) (Up (O:=q4j q0n) (λ i=>keyO (ts.getD i Str.empty)) p ts.length) (arrOf st'=p.map (kas_item (kk.toArray.zip us.toArray))) (failedOf st'=none))
     (G:=λ p s'=>q7m ts.length p/\Up (O:=q4j q0n) (λ i=>keyO (ts.getD i Str.empty)) p ts.length/\∃t,s₁.toks<=t/\s'={ s₁ with toks:=t }) hke h2' (jJ hz tA) (λ p st' s' a1 a2 a3 a4=>⟨p,a4.2.2.choose,a4.2.2.choose_spec.2,a4.2.2.choose_spec.1,a4.1,a4.2.1,a2,a3⟩)
     ?run) ?_ λ J J e=>e)
    case run=>
     rw[hlen]
     refine z4f (O:=q4j q0n) (key:=λ i=>keyO (ts.getD i Str.empty)) (I:=λ s'=>∃t,s₁.toks<=t/\s'={ s₁ with toks:=t }) ?asks (by rw[<-hlen];exact h2') h64 ⟨s₁.toks,jZ _,rfl⟩ λ p s' is hp hu=>⟨hp,hu,is⟩
     rintro i j C _ hi hj ⟨tk,htk,rfl⟩ hC
     rcases _:keyAt i hi with⟨p,items,kz,hp,hgp,hsp⟩
     rcases _:keyAt j hj with⟨p2,items2,kz2,hp2,hgp2,hsp2⟩
     show tw (keyLt' oneType' (kk.getD i Value.none) (kk.getD j Value.none)) C _ { s₁ with toks:=tk }
     rw[hp,hp2,keyLt'_oneType]
     refine k2n (s:={ s₁ with toks:=tk }) hu hgp hgp2 hsp hsp2 ?_
     rw[z0h]
     exact hC _ ⟨tk,htk,rfl⟩
    ·rintro⟨⟨⟩,st'⟩ s' ⟨p,tk,rfl,htk,hp,hup,har,hfl⟩
     exact tail st' p tk htk hp hup (kat_snds hke har) hfl
end
theorem w2h:∀{xs l:tL},xs.Nodup->(∀x∈xs,x∈l)->l.length=xs.length->xs.Perm l
 | [],l,_,_,h=>by rw[List.length_eq_zero_iff.mp h]
 | x::xs,l,hn,hs,h=>by
  rw[List.nodup_cons]at hn
  have hx:x∈l:=hs x (by simp)
  have hp:=List.perm_cons_erase hx
  have hl:(l.erase x).length=xs.length:=by have:=hp.length_eq;simp at this h;simp +arith [*]
  refine((w2h hn.2 (λ y hy=>?_) hl).cons x).trans hp.symm
  have hne:y≠x:=λ e=>hn.1 (e▸hy)
  exact(List.mem_erase_of_ne hne).mpr (hs y (by simp[hy]))
theorem z6u {α:Type} {le:α->α->Prop} (anti:∀a b,le a b->le b a->a=b):∀{l1 l2:List α},l1.Perm l2->l1.Pairwise le->l2.Pairwise le->l1=l2
 | [],l2,hp,_,_=>(List.nil_perm.mp hp).symm
 | a::l1,[],hp,_,_=>by simpa using hp.length_eq
 | a::l1,b::l2,hp,h1,h2=>by
  rw[List.pairwise_cons]at h1 h2
  have hab:a=b:=by
   rcases List.mem_cons.mp (hp.mem_iff.mp (zL (a:=a) (l:=l1)))with e|ha
   ·exact e
   ·rcases _:List.mem_cons.mp (hp.mem_iff.mpr (zL (a:=b) (l:=l2)))with e|hb
    ·exact e.symm
    ·exact anti _ _ (h1.1 b hb) (h2.1 a ha)
  subst hab
  rw[z6u anti (List.Perm.cons_inv hp) h1.2 h2.2]
theorem w1q {l:List Nat} {p:Nat->Bool} (h:∀a∈l,p a=true):l.takeWhile p=l:=by
 induction l with
 | nil=>rfl
 | cons a l ih=>simp only[List.takeWhile_cons,h a (by simp)];simp only[if_true];rw[ih λ b hb=>h b (by simp[hb])]
theorem z0x {l:List Nat} {p:Nat->Bool} (h:l.dropWhile p=[]):∀a∈l,p a=true:=by
 induction l with
 | nil=>simp
 | cons a l ih=>
  rw[List.dropWhile_cons]at h
  split at h
  ·intro b hb
   rcases List.mem_cons.mp hb with rfl|hb
   ·assumption
   ·exact ih h b hb
  ·contradiction
theorem k9g:(⟨#[125]⟩:Str)=("}" : Str):=by decide +kernel
set_option tactic.hygienic true in theorem w4d (t:Str):keyO t=match w7i t with|(x,none)=>[x]|(x,some r)=>[x,r]:=by
 show((w2c t).map λ x=>x.cps.toList)=_
 delta w2c w7i
 rw[<-k9g,w3m t 125 tA]
 split
 ·rename_i h
  rfl
 ·rename_i h
  have:t.cps.toList.takeWhile (· !=125)=t.cps.toList:=by
   refine w1q λ a ha=>?_
   simp only[bne_iff_ne,ne_eq]
   rintro rfl
   exact h (List.contains_iff_mem.mpr ha)
  simp[this]
theorem q6l {O:KeyOrd} {x:O.α} {r1 r2:List O.α}:lexB O (x::r1) (x::r2)=lexB O r1 r2:=by rw[q6k,O.irrefl];rfl
theorem q4m (p q:List Nat):(!(decide (q<p)))=decide (p<=q):=by rw[Bool.eq_iff_iff];simp[List.not_lt]
theorem w5i {x y:List Nat} (h:¬ x=y) (r1 r2:List (List Nat)):(!lexB q0n (y::r1) (x::r2))=decide (x<=y):=by
 rw[q6k]
 cases h1:q0n.blt y x with
 | true=>
  simp only[decide_eq_true_eq]at h1
  simp[List.not_le.mpr h1]
 | false=>
  generalize h2:q0n.blt x y=zzy
  induction zzy with
  | true=>
   simp only[decide_eq_false_iff_not]at h1
   simp[List.not_lt.mp h1]
  | false=>exact absurd (q0n.total _ _ h2 h1) h
theorem z1k (p q:List Nat):(!lexB q0n [q] [p])=decide (p<=q):=by
 rw[q6k]
 have:lexB q0n [] []=false:=rfl
 simp only[this,Bool.and_false,Bool.or_false]
 exact q4m _ _
theorem k5w (a b:Str):j0k a b = !(q4j q0n).blt (keyO b) (keyO a):=by
 rw[w4d,w4d]
 unfold j0k
 rcases w7i a with⟨x,u⟩
 rcases w7i b with⟨y,v⟩
 dsimp only
 by_cases hxy:x=y
 ·subst hxy
  rw[if_pos rfl]
  cases u with
  | none=>induction v with
   | none=>show true = !lexB q0n [x] [x];rw[q6l];rfl
   | some q=>show true = !lexB q0n [x,q] [x];rw[q6l];rfl
  | some p=>induction v with
   | none=>show false = !lexB q0n [x] [x,p];rw[q6l];rfl
   | some q=>show decide (p<=q) = !lexB q0n [x,q] [x,p];rw[q6l,z1k]
 ·rw[if_neg hxy]
  rcases u<;>rcases v<;>exact(w5i hxy _ _).symm
abbrev w5q (p:Str×Str):(q4j q0n).α:=[q1p p.1,q1p p.2]
theorem w9z (a b:Str×Str):w3b a b = !(q4j q0n).blt (w5q b) (w5q a):=by
 unfold w3b
 by_cases h:a.1=b.1
 ·rw[if_pos h]
  exact(z1k _ _).symm.trans (congrArg not (show _=lexB q0n [q1p b.1,q1p b.2] [q1p a.1,q1p a.2]from by rw[h];exact q6l.symm))
 ·rw[if_neg h]
  exact(w5i (λ e=>h (q3j e)) _ _).symm
theorem z5c {a b:Str×Str} (h:w5q a=w5q b):a=b:=by
 obtain⟨h1,h2⟩:=List.cons.inj h
 exact Prod.ext (q3j h1) (q3j (List.cons.inj h2).1)
set_option tactic.hygienic true in theorem j0l {a b:Str} (h:keyO a=keyO b):a=b:=by
 simp only[w4d,w4d]at h
 have back:∀t:Str,t.cps.toList=match w7i t with|(x,none)=>x|(x,some r)=>x++125::r:=λ t=>by
  unfold w7i
  have e:=List.takeWhile_append_dropWhile (p:=(· !=125)) (l:=t.cps.toList)
  split
  ·rename_i x hx
   simp only[Prod.mk.injEq,ite_eq_right_iff,reduceCtorEq,imp_false]at hx
   obtain⟨rfl,hc⟩:=hx
   refine(w1q λ a ha=>?_).symm
   simp only[bne_iff_ne,ne_eq]
   rintro rfl
   exact hc (List.contains_iff_mem.mpr ha)
  ·rename_i x r hx
   simp only[Prod.mk.injEq]at hx
   obtain⟨rfl,hc⟩:=hx
   split at hc
   ·rename_i hm
    obtain rfl:=zE hc
    have hd:t.cps.toList.dropWhile (· !=125)=125::(t.cps.toList.dropWhile (· !=125)).drop 1:=by
     generalize hdw:t.cps.toList.dropWhile (· !=125)=zzy
     induction zzy with
     | nil=>
      exfalso
      have:=z0x hdw 125 (List.contains_iff_mem.mp hm)
      trivial
     | cons c r=>
      have:(c !=125)=false:=by
       have:=List.head_dropWhile_not (p:=(· !=125)) (l:=t.cps.toList) (by rw[hdw];simp)
       simpa [hdw]using this
      have hc:c=125:=by simpa using this
      rw[hc];rfl
    simp only[<-hd,e]
   ·contradiction
 have ha:=back a
 have hb:=back b
 refine q3j (show a.cps.toList=b.cps.toList from ?_)
 simp only[ha,hb]
 generalize w7i a=ca at h
 generalize w7i b=cb at h
 rcases ca with⟨x,_|u⟩<;>rcases cb with⟨y,_|v⟩<;>simp at h ⊢
 ·exact h
 ·simp only[h.1,h.2]
theorem w4f {α:Type} {O:KeyOrd} {ko:α->O.α} {le:α->α->Bool} (hle:∀a b,le a b = !O.blt (ko b) (ko a)) (inj:∀{a b},ko a=ko b->a=b) {xs rs:List α} (hp:rs.Perm xs) (hs:rs.Pairwise λ a b=>le a b=true):rs=xs.mergeSort le:=by
 have k:∀a b,le a b=true↔O.kle (ko a) (ko b):=λ a b=>by rw[hle,Bool.not_eq_true'];rfl
 refine z6u (le:=λ a b=>le a b=true) (λ a b h1 h2=>inj (KeyOrd.kle_antisymm ((k a b).mp h1) ((k b a).mp h2))) (hp.trans (List.mergeSort_perm xs le).symm) hs ?_
 refine List.pairwise_mergeSort (λ a b c h1 h2=>(k a c).mpr (KeyOrd.kle_trans ((k a b).mp h1) ((k b c).mp h2))) (λ a b=>?_) xs
 rw[hle,hle]
 cases q:O.blt (ko b) (ko a)with
 | false=>rfl
 | true=>rw[k3u (O:=O) q];rfl
theorem q7m.lt {n:Nat} {p:Array Nat} (h:q7m n p) {j:Nat} (hj:j∈p.toList):j<n:=by
 have hpl:p.toList.Perm (List.range n):=by simpa using Array.Perm.toList h
 have:=hpl.mem_iff.mp hj;simpa using this
theorem k0y {α:Type} {O:KeyOrd} {ko:α->O.α} {le:α->α->Bool} (hle:∀a b,le a b = !O.blt (ko b) (ko a)) (inj:∀{a b},ko a=ko b->a=b) {xs ys:List α} {d:α} {p:Array Nat} (hx:xs.Perm ys) (hp:q7m xs.length p) (hu:Up (O:=O) (λ i=>ko (xs.getD i d)) p xs.length) :
  (p.toList.map λ i=>xs.getD i d).Perm ys/\(p.toList.map λ i=>xs.getD i d)=ys.mergeSort le:=by
 have hpl:p.toList.Perm (List.range xs.length):=by simpa using Array.Perm.toList hp
 have h1:(p.toList.map λ i=>xs.getD i d).Perm ys:=by
  refine List.Perm.trans ?_ hx
  refine(hpl.map _).trans (List.Perm.of_eq (List.ext_getElem? λ j=>?_))
  rw[List.getElem?_map]
  by_cases hj:j<xs.length
  ·rw[List.getElem?_range hj,List.getElem?_eq_getElem hj];simp[hj]
  ·rw[List.getElem?_eq_none (by rw[List.length_range];exact Nat.le_of_not_lt hj),List.getElem?_eq_none (Nat.le_of_not_lt hj)];rfl
 refine⟨h1,w4f hle inj h1 ?_⟩
 rw[List.pairwise_map,List.pairwise_iff_getElem]
 intro j k hj hk hjk
 have hz:=hp.size
 have hk':k<p.size:=by simpa using hk
 have hj':j<p.size:=by simpa using hj
 have:=hu j k (zB hjk) (hz▸hk')
 rw[hle,Bool.not_eq_true']
 have e1:p.getD j 0=p.toList[j]:=by simp[Array.getD,hj']
 have e2:p.getD k 0=p.toList[k]:=by simp[Array.getD,hk']
 unfold Kp at this
 rw[e1,e2]at this
 exact this
theorem w4n (x q:Addr):argsOk "sorted" ⟨[.ref x],[(tF "key",.ref q)]⟩:=by unfold argsOk;kernel_rfl
theorem z0l (x q:Addr):argsOk "list.sort" ⟨[.ref x],[(tF "key",.ref q)]⟩:=by unfold argsOk;kernel_rfl
section
variable {T:Tab}
theorem q7g:∀{es:List (Int×Value)},ElemsOf cx.sk es->∃ts:List Str,StrsAre (es.map (·.2)) ts/\∀k,k∈ts↔∃e∈es,cx.sk.is k e.2=true
 | [],_=>⟨[],.nil,λ k=>by simp⟩
 | e::es,h=>by
  obtain⟨ts,h1,h2⟩:=q7g h.tail
  obtain⟨⟨k,hk,_⟩,_⟩:=h.head
  obtain⟨t,ht⟩:=q7r hk
  refine⟨k::ts,by rw[List.map_cons,ht];exact .cons _ _ h1,λ k'=>?_⟩
  rw[List.mem_cons,h2]
  constructor
  ·rintro(rfl|⟨e',he',q⟩)
   ·exact⟨e,by simp,hk⟩
   ·exact⟨e',by simp[he'],q⟩
  ·rintro⟨e',he',q⟩
   rcases List.mem_cons.mp he' with rfl|he'
   ·exact .inl (cx.sk.inj _ _ _ q hk)
   ·exact .inr ⟨e',he',q⟩
theorem w3n {us vs:tU} {ts:tL} (hp:vs.Perm us) (h:StrsAre us ts):∃ts',StrsAre vs ts'/\ts'.Perm ts:=by
 induction hp generalizing ts with
 | nil=>cases h;exact⟨[],.nil,.refl _⟩
 | cons x hp ih=>
  cases h with
  | cons y t hr=>obtain⟨ts',h1,h2⟩:=ih hr;exact⟨y::ts',.cons _ _ h1,h2.cons y⟩
 | swap x y l=>
  cases h with
  | cons a t hr=>cases hr with
   | cons b t' hr'=>exact⟨b::a::_,.cons _ _ (.cons _ _ hr'),.swap _ _ _⟩
 | trans _ _ ih1 ih2=>
  obtain⟨ts2,h1,h2⟩:=ih2 h
  obtain⟨ts1,h3,h4⟩:=ih1 h1
  exact⟨ts1,h3,h4.trans h2⟩
theorem z4a {us:tU} {ts:tL} (h:StrsAre us ts):∀{is:List Nat},(∀i∈is,i<ts.length)->StrsAre (is.map λ i=>us.getD i Value.none) (is.map λ i=>ts.getD i Str.empty)
 | [],_=>.nil
 | i::is,hi=>by
  have hl:us.length=ts.length:=by
   clear hi
   induction h with
   | nil=>rfl
   | cons _ _ _ ih=>simp[ih]
  have h1:=hi i (by simp)
  obtain⟨t,ht⟩:∃t,us.getD i Value.none = .str (ts.getD i Str.empty) t:=by
   clear hi
   induction h generalizing i with
   | nil=>simp at h1
   | cons y t hr ih=>
    induction i with
    | zero=>exact⟨t,rfl⟩
    | succ j=>exact ih j (by simp at hl;exact hl) (by simp at h1;exact h1)
  simp only[List.map_cons,List.map_cons,ht]
  exact .cons _ _ (z4a h λ j hj=>hi j (by simp[hj]))
theorem k3g (L:z7e cx T) (hlim:cx.h₀.NoLimit) {f c':Addr} {ctv:Value} {oc:Obj} {fs:Array Value} {t:Tok} {la:Arguments} {lb:Expr} {sc:Scope} {y:Str} (S:w3w la lb sc y) (hA:AOk n A) (i:tI)
  (hf:g.I f=some (q4i cx la lb sc c' ctv)) (hc:g.I c'=some oc) (hdat:oc.data = .fields fs) (hf1:fs[1]? = some (.str (cx.lq++"<lambda>") t)) {xs:tL} (rx:VR cx g (.ws xs) u) (h64:xs.length<5) :
  tw (call (.builtin "sorted") [u] [(tF "key",.ref f)]) (PX cx g s Z (.fl ((q4u xs).map .str))) NoE s:=by
 obtain⟨p,o,rfl,hi,hso,hb,hnd,hz,hled⟩:=rx
 have ho:=i.sub _ _ hi
 have hh:A.in1.handled=none:=by simpa using hA.handled
 refine call_function_entry_kw kind_sorted plain_sorted entry_sorted (w4n _ _) ?_
 unfold Builtin.«sorted»
 refine wpAny_bind (m:=checkCount "sorted" 1 1 _) (tJ ?_)
 refine tG (wpAny_mono (z7n hh ho hso hled hb λ es ep tb hd us s₁ hp k1=>?_) (λ J J x=>x) λ J J x=>x.elim)
 obtain⟨hex,es',ep',t',hd',hel,hmem,hn,hft⟩:=hso
 rw[hd]at hd';cases hd'
 obtain⟨te,hte1,hte2⟩:=q7g hel
 obtain⟨ts,hts1,hts2⟩:=w3n hp hte1
 have hel':te.length=es.size:=by have:=hte1.length;rw[zH,Array.length_toList]at this;exact this.symm
 have hperm:ts.Perm xs:=by
  refine hts2.trans (w2h hnd (λ x hx=>?_) (by rw[hel',hn])).symm
  exact(hte2 x).mpr ((hmem x).mp (List.contains_iff_mem.mpr hx))
 have hlen:ts.length=xs.length:=hperm.length_eq
 have hul:us.length=ts.length:=hts1.length
 have h4:us.length<=4:=by rw[hul,hlen];exact Nat.le_of_lt_succ h64
 have i1:=k1.inv i
 have q1:VRs cx g (ts.map .str) us:=VRs.strs hts1 λ x hx=>hz x (hperm.mem_iff.mp hx)
 refine tG (wpAny_newList ?_ (by rw[sizeLine_eq];exact jH h4 tA))
 have hD:(s₁.heap.push (seqObj "list" us.toArray 0)).get? s₁.heap.objs.size=some (seqObj "list" us.toArray 0):=Heap.get?_push_size _ rfl
 have hDn:=q0f s₁
 have kD:∀b o,s₁.heap.get? b=some o->(s₁.heap.push (seqObj "list" us.toArray 0)).get? b=some o:=λ b o e=>Heap.get?_push_of_some _ e
 have a2:Stp [] g s g { s₁ with heap:=s₁.heap.push (seqObj "list" us.toArray 0) }:=(k1.stp).trans (.keeps (t:=s₁.toks) (jZ _) kD)
 have i2:Inv cx g Z { s₁ with heap:=s₁.heap.push (seqObj "list" us.toArray 0) }:=i1.keep (t:=s₁.toks) (jZ _) kD
 refine tG (wpAny_holding (wpAny_call_entry_kw slot_list_sort ⟨_,hD,rfl⟩ entry_list_sort ?_ (z0l _ _)))
 rw[show Builtin.«list.sort» ⟨Value.ref s₁.heap.objs.size::[],[(tF "key",Value.ref f)]⟩=ksk_tree s₁.heap.objs.size (.ref f) false from ksk_t1 f s₁.heap.objs.size]
 refine j0m L hlim S (A:=A.in1.in1) (by simpa using hA.handled) (jJ (zD (zC A.depth (4 * n)) (by decide:2<=8)) hA.depth) (jJ (show A.units+2<=A.units+60 * n+100 from zD (zC A.units (60 * n)) tA) hA.units) i2 hf hc hdat hf1 q1 (by rw[hlen];exact h64) hD (i1.fresh hDn).2 (i1.fresh hDn).1 λ p g3 s3 c hpm hup a3 i3 n1 n2 hg3=>⟨_,rfl,tJ ⟨_,rfl,?_⟩⟩
 have hrs:=z4a hts1 λ j hj=>hpm.lt hj
 obtain⟨hrp,hso⟩:=k0y k5w j0l hperm hpm hup
 rw[show xs.mergeSort j0k=q4u xs from rfl]at hso
 rw[hso]at hrs
 have a3':Stp [] g s g3 s3:=(a2.own.trans a3).fresh λ b hb=>by
  simp at hb;subst hb
  cases q:s.heap.get? s₁.heap.objs.size with
  | none=>rfl
  | some o=>exact absurd (Heap.lt_size (k1.heap _ _ q)) (Nat.lt_irrefl _)
 have hDs:s.heap.get? s₁.heap.objs.size=none:=by
  generalize q:s.heap.get? s₁.heap.objs.size=zzy
  induction zzy with
  | none=>rfl
  | some o=>exact absurd (Heap.lt_size (k1.heap _ _ q)) (Nat.lt_irrefl _)
 have hlz:∀x∈q4u xs,x.length<=sizeLine:=λ x hx=>hz x (hrp.mem_iff.mp (by rw[hso];exact hx))
 have hll:(q4u xs).length=xs.length:=by rw[<-hso];exact hrp.length_eq
 refine⟨g3.freeze s₁.heap.objs.size _,a3'.addFz hDs n2,i3.add hg3 n1 n2,?_⟩
 exact RFl.mk _ _ _ rfl (G.freeze_self _ _ _) ⟨c,rfl⟩ ((VRs.strs hrs hlz).mono (G.freeze_le n2)) (by rw[zH,hll,sizeLine_eq];exact jH (zB h64) tA)
variable {n:Nat} {r:Ev} {ks:Kinds} {ns:tL} {env:Env} {g:G} {vs:Vs} {Z Z':Store} {s:Shared} {A:Around} {v:AV} {x:Str}
inductive j9b (w:AV) (Z1:Store) (v:AV) (Z':Store):Prop
 | mk (xs:tL) (h1:w = .ws xs) (h:xs.length<5/\q2y Z1=true) (h2:Z1=Z') (h3:v = .fl ((q4u xs).map .str))
theorem j1q {w:AV} {Z1:Store} (e:k3e w Z1=some (v,Z')):j9b w Z1 v Z':=by
 induction w using AV.casesOn with
 | ws xs=>exact q0k e λ h e=>⟨xs,rfl,h,congrArg (·.2) (zE e),(congrArg (·.1) (zE e)).symm⟩
 | _=>exact nope e
theorem k5b (H:GlOk cx T) (L:z7e cx T) (hlim:cx.h₀.NoLimit) (R:EOk cx n r.e) (hA:AOk n A) (i:tI) (E:ER cx ks ns env g vs s) {f kw:Str} {e lb:Expr} {la:Arguments} {lsc:Scope} {lp np cp kp:Pos}
  (e0:(if w4b (T.gl.lookup f)&&!w0t e&&ks.lookup f==some .globalImplicit&&kw==("key" : Str)&&w5f la lb lsc&&lp==T.lam&&(ks.lookup ("resolved_names" : Str)).isSome&&!(f==("__debug__" : Str))then do
    let (x,Z) <-r.e ks ns e vs Z
    k3e x Z
   else none)=some (v,Z')):tw (eval (.Call (.Name f np) [e] [⟨some kw,.Lambda la lb lsc lp,kp⟩] cp) env) (PX cx g s Z' v) NoE s:=by
 refine q0k e0 λ h e0=>q0e e0 λ w Z1 e1 e2=>q4h h λ h hdbg=>q4h h λ h hres=>q4h h λ h hlp=>q4h h λ h hsk=>q4h h λ h hkw=>q4h h λ h hk=>q4h h λ h hst=>?_
 have hgl':T.gl.lookup f=some (.bf .sorted):=by
  revert h
  cases T.gl.lookup f with
  | none=>exact nob
  | some w=>cases w with
   | bf b=>exact λ h=>congrArg (λ b=>some (AV.bf b)) (beq_iff_eq.mp h)
   | _=>exact nob
 have hst:¬ w0t e=true:=by simpa using hst
 have hk:ks.lookup f=some .globalImplicit:=by simpa using hk
 obtain rfl:=beq_iff_eq.mp hkw
 obtain rfl:=beq_iff_eq.mp hlp
 obtain⟨xs,rfl,h64,rfl,rfl⟩:=j1q e2
 obtain⟨y,S⟩:=j1n hsk
 refine tG (PX.then (z0z H E i hk (by simpa using hdbg) hgl') λ g1 s₁ u1 a1 i1 r1=>?_)
 subst r1
 have E1:=E.go a1
 have st:starEach [e] env=[(false,eval e env)]:=by rw[q0u (q8n hst)];rfl
 refine callWith_of (P:=λ J=>True) (by rw[st];rfl) (λ h J=>q2o h) ?_
 refine evalArgs_kw2 (by rfl) ?_ (q0u (q8n hst))
 simp only[st]
 refine Calls.spliced_cons (q0r R hA i1 E1 e1 λ g2 s₂ u2 a2 i2 E2 r2=>Calls.spliced_nil (kwAll_cons ?_))
 (refine wpAny_mono (v1j L H i2 E2 (la:=la) (lb:=lb) (sc:=lsc) (lp:=T.lam) (by obtain⟨p,rfl⟩:=S.args;exact⟨rfl,rfl⟩) S.sok.free hres h64.2 rfl) (λ u3 s3 zz0=>?_) λ J J x=>x;rcases _:zz0 with⟨g3,f3,c',ctv,oc,fs,t,hu3,a3,i3,hf,hc,hdat,hf1⟩)
 subst hu3
 refine kwAll_nil ⟨trivial,?_⟩
 exact PX.lift ((a1.trans a2).trans a3) (k3g L hlim S hA i3 hf hc hdat hf1 (r2.mono a3.le) h64.1)
end
theorem z0c:∀{l:tL} {p:Str},risingS p l=true->(p::l).Pairwise λ a b=>decide (a.cps.toList<=b.cps.toList)=true
 | [],p,_=>List.pairwise_singleton _ _
 | x::r,p,h=>by
  obtain⟨h1,h2⟩:=(Bool.and_eq_true ..).mp h
  have k:=z0c h2
  have hp:p.cps.toList<=x.cps.toList:=of_decide_eq_true ((q4m _ _).symm.trans (by rw[<-PyProof.Rows.ltCps_eq];exact h1))
  refine List.pairwise_cons.mpr ⟨λ y hy=>?_,k⟩
  rcases List.mem_cons.mp hy with rfl|hy
  ·exact decide_eq_true hp
  ·exact decide_eq_true (List.le_trans hp (of_decide_eq_true ((List.pairwise_cons.mp k).1 y hy)))
theorem k3f:∀{l:tL},sortedS l=true->l.Pairwise λ a b=>decide (a.cps.toList<=b.cps.toList)=true
 | [],_=>.nil
 | _::_,h=>z0c h
theorem j1r {rs ts:tL} (hp:rs.Perm ts) (h:sortedS rs=true):rs=q3r ts:=
 w4f (O:=q0n) (ko:=q1p) (λ a b=>(q4m _ _).symm) q3j hp (k3f h)
section
inductive Gath (cx:Cx) (g:G) (s:Shared) (Z:Store) (xs:tW) (vs:tU) (s₁:Shared):Prop
 | mk (g':G) (a:Stp [] g s g' s₁) (i:Inv cx g' Z s₁) (r:VRs cx g' xs vs)
def z0k (cx:Cx) (xs ys:tW):Prop:=ys.length=xs.length/\∀(g:G) (A:Around) (s:Shared) (D:Addr) (us:tU) (n:Nat) (Q:Value->Shared->Prop),VRs cx g xs us->(∀b o,g.I b=some o->s.heap.get? b=some o)->g.I D=none->s.heap.get? D=some (seqObj "list" us.toArray n)->
 (∀us' h' t c,VRs cx g ys us'->q3g D s.heap h'->h'.get? D=some (seqObj "list" us'.toArray c)->Q .none { s with heap:=h',toks:=t })->tw (call (.builtin "list.sort") [.ref D]) Q NoE s
theorem w2r (S:z0k cx xs ys) (hz:xs.length<=sizeLine) (hc:wpAny cx.M A.in1 (collect x) (Gath cx g s Z xs) NoE s):tw (call (.builtin "sorted") [x]) (PE cx g s Z (.fl ys)) NoE s:=by
 refine k8e (wpAny_mono hc (λ vs s₁ q=>?_) λ J J x=>x.elim)
 obtain⟨g',a,i,r⟩:=q
 refine⟨r.length▸hz,λ A'=>?_⟩
 have hn:=q0f s₁
 have kk:∀b o,s₁.heap.get? b=some o->(s₁.heap.push (seqObj "list" vs.toArray 0)).get? b=some o:=λ b o e=>Heap.get?_push_of_some _ e
 refine q5k (S.2 g' A' _ _ vs 0 _ r (λ b o e=>kk b o (i.sub b o e)) (i.fresh hn).1 (Heap.get?_push_size _ rfl) λ us' h' t c r' k1 k2 ht J=>?_)
 have k2':∀b o,s₁.heap.get? b=some o->h'.get? b=some o:=λ b o e=>k1 b o (λ z=>by rw[z,hn]at e;cases e) (kk b o e)
 refine(⟨_,.freeze i ht hn k2',i.freeze ht hn k2 k2',?_⟩:PX cx g' s₁ Z _ _ _).up a
 exact RFl.mk _ _ us' rfl (G.freeze_self _ _ _) ⟨c,rfl⟩ (r'.mono (G.freeze_le (i.fresh hn).1)) (S.1▸hz)
theorem j0s (S:z0k cx xs ys) {l:Nat} (i:tI) (e:Z[l]? = some (.list xs)) (r:VR cx g (.loc l) x):tw (call (.builtin "list.sort") [x]) (PE cx g s (Z.set l (.list ys)) .none) NoE s:=by
 obtain⟨p,rfl,hl⟩:=r.of_loc
 obtain⟨vs,⟨k,hv⟩,q,z⟩:=i.cells _ _ _ e hl
 exact S.2 g A s p vs k _ q i.sub (i.apart p (List.mem_of_getElem? hl)) hv λ us' h' t c r' k1 k2 ht=>
  ⟨g,.setCellK ht hl k1 ⟨_,k2⟩,i.setCellK ht hl ⟨us',⟨c,k2⟩,r',S.1▸z⟩ k1,.none_⟩
theorem z6w {ts:tL} (h:q0z xs=some ts) (h64:ts.length<64):z0k cx xs ((q3r ts).map .str):=by
 have hlen:∀{xs:tW} {ts:tL},q0z xs=some ts->ts.length=xs.length:=by
  intro xs
  induction xs with
  | nil=>intro ts h;obtain rfl:=zE h;rfl
  | cons x xs ih=>
   intro ts h
   induction x using AV.casesOn with
   | str t=>obtain⟨ts,he,rfl⟩:=Option.map_eq_some_iff.mp h;exact congrArg (· + 1) (ih he)
   | lit t=>obtain⟨ts,he,rfl⟩:=Option.map_eq_some_iff.mp h;exact congrArg (· + 1) (ih he)
   | _=>exact nope h
 have hp:=List.mergeSort_perm ts λ a b=>decide (a.cps.toList<=b.cps.toList)
 refine⟨by rw[zH];exact hp.length_eq.trans (hlen h),λ g A s D us n Q r J J ho k=>?_⟩
 obtain⟨hz,hS⟩:=q3t h r
 refine wpAny_call_entry slot_list_sort ⟨_,ho,rfl⟩ entry_list_sort (list_sort_treeK strKind_oneLt ho hS.keysOf (λ v1 v2 rest e=>keyKind_strs (by rw[<-e];exact hS)) (hS.length▸h64) λ st' hp' hs=>⟨_,rfl,?_⟩) (args_list_sort _)
 obtain⟨ss',h1,h2,h3⟩:=sorted_out_str hS hp' hs
 obtain rfl:=j1r h2 h3
 obtain⟨c,hc⟩:=sortedHeap_at (vs:=us) (out:=(arrOf st').map (·.2)) ho
 exact k _ _ _ c (VRs.strs h1 λ t ht=>hz t (hp.mem_iff.mp ht)) (λ b o hb e=>(sortedHeap_old hb (Heap.lt_size e)).trans e) hc
theorem VRs.pick {d:AV} (r:VRs cx g xs us):∀{p:List Nat},(∀j∈p,j<xs.length)->VRs cx g (p.map λ i=>xs.getD i d) (p.map λ i=>us.getD i Value.none)
 | [],_=>.nil
 | j::p,h=>by
  have hj:=h j (by simp)
  obtain⟨v,hv,q⟩:=r.get (List.getElem?_eq_getElem hj)
  simp only[List.map_cons,List.map_cons,List.getD_eq_getElem?_getD,List.getD_eq_getElem?_getD,List.getElem?_eq_getElem hj,hv]
  exact .cons q (VRs.pick r λ k hk=>h k (by simp[hk]))
theorem z8l {p:Str×Str} {h:Heap} {u:Value} (k:∀b o,g.I b=some o->h.get? b=some o) (r:VR cx g (q0a p) u):∃a t t' n,u = .ref a/\h.get? a=some { cls:=.type "tuple",data:=.seq #[.str p.1 t,.str p.2 t'] n }:=by
 obtain⟨a,o,us,rfl,hi,⟨n,rfl⟩,q,_⟩:=r
 refine q.e2 (P:=λ us=>g.I a=some { cls:=.type "tuple",data:=.seq us.toArray n }->_) (λ u w r1 r2 hi=>?_) hi
 obtain⟨t,rfl,_⟩:=r1.of_str
 obtain⟨t',rfl,_⟩:=r2.of_str
 exact⟨a,t,t',n,rfl,k _ _ hi⟩
theorem k8n {h:Heap} (k:∀b o,g.I b=some o->h.get? b=some o):∀{ps:tE} {us:tU},VRs cx g (ps.map q0a) us->∃fs,KatTups h us fs/\fs.length=ps.length/\∀f∈fs,∃x t,f=Value.str x t
 | [],us,r=>by rw[VRs.of_nil r];exact⟨[],.nil,rfl,λ J h=>nomatch h⟩
 | p::ps,us,r=>by
  obtain⟨u,us,rfl,r1,r2⟩:=VRs.uncons (show VRs cx g (q0a p::ps.map q0a) us from r)
  obtain⟨fs,h1,h2,h3⟩:=k8n k r2
  obtain⟨a,t,t',n,rfl,ha⟩:=z8l k r1
  exact⟨.str p.1 t::fs,.cons ha rfl rfl rfl h1,congrArg (· + 1) h2,λ f hf=>(List.mem_cons.mp hf).elim (λ e=>⟨_,_,e⟩) (h3 f)⟩
theorem j7i {p q:Str×Str} {u v:Value} {C:Bool->Shared->Prop} (k:∀b o,g.I b=some o->s.heap.get? b=some o) (r1:VR cx g (q0a p) u) (r2:VR cx g (q0a q) v) (h:C ((q4j q0n).blt (w5q p) (w5q q)) s) :
  tw (keyLt' (tuples' true) u v) C NoE s:=by
 obtain⟨a,t,t',n,rfl,ha⟩:=z8l k r1
 obtain⟨b,w,w',m,rfl,hb⟩:=z8l k r2
 refine kat_lt ha rfl hb rfl (kat_cons (wpAny_eqBool_str ?_))
 by_cases h1:p.1=q.1
 ·rw[decide_eq_true h1]
  refine kat_yes (kat_cons (wpAny_eqBool_str ?_))
  have e1:(q4j q0n).blt (w5q p) (w5q q)=lexB q0n [q1p p.2] [q1p q.2]:=by
   show lexB q0n [q1p p.1,q1p p.2] [q1p q.1,q1p q.2]=_
   rw[h1,q6l]
  rw[e1]at h
  by_cases h2:p.2=q.2
  ·rw[decide_eq_true h2]
   refine kat_yes (kat_nil ?_)
   rw[h2,q6l]at h
   exact h
  ·rw[decide_eq_false h2]
   refine kat_no (kat_one _ _ (PyProof.Rows.lt_str ?_))
   rw[show lexB q0n [q1p p.2] [q1p q.2]=decide (p.2.cps.toList<q.2.cps.toList)from Bool.not_inj ((z1k _ _).trans (q4m _ _).symm)]at h
   exact h
 ·rw[decide_eq_false h1]
  refine kat_no (oneLt_str ?_)
  rw[show(q4j q0n).blt (w5q p) (w5q q)=decide (p.1.cps.toList<q.1.cps.toList)from Bool.not_inj ((w5i (λ e=>h1 (q3j e.symm)) _ _).trans (q4m _ _).symm)]at h
  exact h
theorem z5d:∀{xs:tW} {ps:tE},z8k xs=some ps->xs=ps.map q0a
 | [],ps,h=>by obtain rfl:=zE h;rfl
 | x::xs,ps,h=>optE h λ p h1 h=>mapQ h λ r h2 e=>by simp only[<-e,j1f h1,z5d h2];rfl
theorem w5r:∀ps:List (Str×Str),z8k (ps.map q0a)=some ps
 | []=>rfl
 | p::ps=>by show(z8k (ps.map q0a)).map (p :: ·)=_;rw[w5r ps];rfl
theorem z6v {ps:tE} (h:z8k xs=some ps) (h5:ps.length<5):z0k cx xs ((q2d ps).map q0a):=by
 obtain rfl:=z5d h
 have hp:=List.mergeSort_perm ps w3b
 refine⟨by rw[zH,zH];exact hp.length_eq,λ g A s D us n Q r hk hD ho k=>?_⟩
 have hl:us.length=ps.length:=by have:=r.length;rw[zH]at this;exact this.symm
 have kb:∀h',q3g D s.heap h'->∀b o,g.I b=some o->h'.get? b=some o:=λ h' q b o e=>q b o (λ z=>by rw[z,hD]at e;cases e) (hk b o e)
 have at_:∀i,i<us.length->VR cx g (q0a (ps.getD i (Str.empty,Str.empty))) (us.getD i Value.none):=λ i hi=>by
  obtain⟨v,hv,q⟩:=r.get (i:=i) (x:=q0a (ps.getD i (Str.empty,Str.empty))) (by rw[List.getElem?_map,List.getD_eq_getElem?_getD,List.getElem?_eq_getElem (hl▸hi)];rfl)
  rw[show us.getD i Value.none=v from by rw[List.getD_eq_getElem?_getD,hv];rfl];exact q
 refine k8b (O:=q4j q0n) (key:=λ i=>w5q (ps.getD i (Str.empty,Str.empty))) (κ:=tuples' true) ho (hl▸h5) (λ h2 A' h' Q' kh hq=>?_) (λ A' h' t i j C hi hj kh hC=>?_) λ p h' t c hpm hup kh hg=>?_
 ·obtain⟨fs,f1,f2,f3⟩:=k8n (kb h' kh) r
  refine kat_kind (s:={ s with heap:=h' }) (T:=.type "str") f1 (by rw[f2,<-hl];exact jK tA h2) (λ f hf=>?_) tA hq
  obtain⟨x,t,rfl⟩:=f3 f hf
  exact Looks.of_pure rfl
 ·exact j7i (s:={ s with heap:=h',toks:=t }) (kb h' kh) (at_ i hi) (at_ j hj) (hC t)
 ·rw[hl]at hpm hup
  obtain⟨_,e⟩:=k0y w9z z5c (.refl ps) hpm hup
  refine k _ h' t c ?_ kh hg
  have q:=r.pick (d:=q0a (Str.empty,Str.empty)) (p:=p.toList) λ j hj=>by rw[zH];exact hpm.lt hj
  have e2:(p.toList.map λ i=>(ps.map q0a).getD i (q0a (Str.empty,Str.empty)))=(q2d ps).map q0a:=by
   simp only[q2d,<-e,List.map_map]
   exact List.map_congr_left λ i J=>by show(ps.map q0a).getD i _=q0a (ps.getD i _);simp only[List.getD_eq_getElem?_getD,List.getD_eq_getElem?_getD,List.getElem?_map];cases ps[i]?<;>rfl
  rw[e2]at q
  exact q
end
theorem w5s (is:List Int):∀k,k<=is.length->preSum (λ i=>is.getD i 0) k=(is.take k).sum
 | 0,_=>rfl
 | k+1,h=>by
  dsimp only[preSum]
  rw[w5s is k (by exact zB ‹_›)]
  have hk:k<is.length:=by assumption
  simp only[show is.take (k+1)=is.take k++[is[k]] by simp only[List.take_add_one,List.getElem?_eq_getElem hk];rfl,List.sum_append]
  simp[hk]
theorem k2o (is:List Int):preSum (λ i=>is.getD i 0) is.length=is.sum:=by rw[w5s is _ (jZ _),List.take_length]
section
variable {T:Tab}
theorem Kept.px (k:Kept s s') (i:tI) (r:VR cx g v u):PX cx g s Z v u s':=⟨g,k.stp,k.inv i,r⟩
theorem Kept.moved {wr:List Addr} {s₁:Shared} (k:Kept s s₁) (hm:Moved wr (λ a b=>b=a) s₁ s') (hw:∀b∈wr,s.heap.get? b=none):Kept s s':=
 ⟨λ b o e=>hm.heap b o (λ h=>by rw[hw b h]at e;contradiction) (k.heap b o e),jH k.toks hm.toks,(show s'.gens=s₁.gens from hm.gens).trans k.gens,hm.os.trans k.os⟩
theorem Kept.push (o:Obj):Kept s { s with heap:=s.heap.push o }:=⟨λ b o e=>Heap.get?_push_of_some _ e,jZ _,rfl,rfl⟩
theorem z4d:∀{xs:tW} {is:List Int} {vs:tU},q9f xs=some is->VRs cx g xs vs->is.length=vs.length/\∀(i:Nat) (v:Value),vs[i]? = some v->∃t,v=Value.int (is.getD i 0) t
 | [],is,vs,h,r=>by obtain rfl:=zE h;rw[r.of_nil];exact⟨rfl,λ i v e=>by trivial⟩
 | x::xs,is,vs,h,r=>by
  obtain⟨w,wr,rfl,hw,hr⟩:=r.uncons
  refine optE h λ k hk h=>mapQ h λ is' h' e0=>?_
  subst e0
  obtain⟨l,q⟩:=z4d h' hr
  obtain⟨t,rfl⟩:=hw.intV hk
  refine⟨congrArg (· + 1) l,λ i v e=>?_⟩
  induction i with
  | zero=>exact⟨t,(zE e).symm⟩
  | succ j=>exact q j v e
theorem v3m {xs:tW} {is:List Int} (hA:A.handled=none) (i:tI) (e:q0i Z v=some xs) (h:q9f xs=some is) (ra:VR cx g v a) :
  tw (call (.builtin "sum") [a]) (PX cx g s Z (.int is.sum)) NoE s:=by
 rcases _:q0q i e ra with⟨p,vs,rfl,hp,rp,zp⟩
 obtain⟨hl,hv⟩:=z4d h rp
 have hpl:p<tH:=let ⟨_,e⟩:=hp;Heap.lt_size e
 refine call_sum_walkAnyS (wpAny_pyIter_list hp.isList ⟨tH,[s.heap.objs.size,p],[s.heap.objs.size],_,vs.toArray.size,_,_,λ i=>is.getD i 0,rfl,(Walks.list (by exact hA) _ p (Nat.ne_of_lt hpl) vs.toArray).toS,⟨⟨_,Heap.get?_push_size _ rfl,rfl,rfl⟩,hp.isList.push _⟩,?_,?_,?_⟩)
 ·intro b hb
  simp only[List.mem_cons,List.not_mem_nil,or_false]at hb
  simp only[Heap.size_push]
  rcases hb with rfl|rfl
  ·exact Nat.lt_succ_self _
  ·exact Nat.lt_succ_of_lt hpl
 ·intro j v hj
  exact hv j v (by simpa using hj)
 ·intro s' t' hm
  have e2:preSum (λ i=>is.getD i 0) vs.toArray.size=is.sum:=by simp only[List.size_toArray,<-hl];exact k2o is
  rw[e2]
  exact((Kept.push _).moved hm λ b hb=>by simp at hb;rw[hb];exact q0f s).px i (.int_ _)
theorem k7j {k:Int} (i:tI) (ra:VR cx g (.int k) a):tw (call (.type "range") [a]) (PE cx g s Z (.rng 0 k)) NoE s:=by
 obtain⟨t,rfl⟩:=ra.of_int
 exact call_range_1 (PE.alloc i rfl (λ g' le hi=>by exact⟨_,_,rfl,hi,_,_,_,rfl⟩) _)
theorem k7k {k l:Int} (i:tI) (ra:VR cx g (.int k) a) (rb:VR cx g (.int l) b):tw (call (.type "range") [a,b]) (PE cx g s Z (.rng k l)) NoE s:=by
 obtain⟨t,rfl⟩:=ra.of_int
 obtain⟨t',rfl⟩:=rb.of_int
 exact call_range_2 (PE.alloc i rfl (λ g' le hi=>by exact⟨_,_,rfl,hi,_,_,_,rfl⟩) _)
theorem VRs.ofGet {xs:tW}:∀{vs:tU},xs.length=vs.length->(∀(j:Nat) (v:Value),vs[j]? = some v->∃x,xs[j]? = some x/\VR cx g x v)->VRs cx g xs vs:=by
 induction xs with
 | nil=>intro vs hl _;rw[List.length_eq_zero_iff.mp hl.symm];exact .nil
 | cons x xs ih=>
  intro vs hl h
  induction vs using List.casesOn with
  | nil=>exact nomatch hl
  | cons w ws=>
   obtain⟨y,hy,ry⟩:=h 0 w rfl
   exact .cons (zE hy▸ry) (ih (Nat.succ.inj hl) λ j v e=>h (j+1) v e)
theorem G.freeze_I {g:G} {a b:Addr} {o:Obj}:(g.freeze a o).I b=if b=a then some o else g.I b:=rfl
theorem w9o {s0:Shared}:∀(as:List Addr) {g0 g:G},Stp [] g0 s0 g s->Inv cx g Z s->as.Nodup->(∀a∈as,s0.heap.get? a=none/\a∉g.ρ/\g.I a=none/\∃o,s.heap.get? a=some o)->
  ∃g',An6 (Stp [] g0 s0 g' s) (Inv cx g' Z s) (g.le g') (∀a∈as,∀o,s.heap.get? a=some o->g'.I a=some o) (g'.ρ=g.ρ) (∀b,b∉as->g'.I b=g.I b)
 | [],g0,g,a,i,_,_=>⟨g,a,i,.refl _,by simp,rfl,λ J J=>rfl⟩
 | p::ps,g0,g,a,i,hn,h=>by
  rcases _:h p (by simp)with⟨h1,h2,h3,o,h4⟩
  obtain⟨hp,hn⟩:=List.nodup_cons.mp hn
  obtain⟨g',a',i',le,hq,hr,hb⟩:=w9o ps (a.addFz (o:=o) h1 h3) (i.add h4 h2 h3) hn λ b hb=>by
   rcases _:h b (by simp[hb])with⟨q1,q2,q3,q4⟩
   exact⟨q1,q2,by rw[G.freeze_I,if_neg (λ z:b=p=>hp (z▸hb))];exact q3,q4⟩
  refine⟨g',a',i',(G.freeze_le h3).trans le,λ b hb' o' e=>?_,hr,λ b hb'=>?_⟩
  ·rcases _:List.mem_cons.mp hb' with rfl|hb'
   ·rw[h4]at e;obtain rfl:=zE e
    rw[hb _ hp,G.freeze_I,if_pos rfl]
   ·exact hq b hb' o' e
  ·rw[hb b λ z=>hb' (by simp[z]),G.freeze_I,if_neg λ z=>hb' (by simp[z])]
theorem z0g {xs:tW} {us:tU} {ts:tL} (h:q0z xs=some ts) (r:VRs cx g xs us):VRs cx g (ts.map .str) us:=let ⟨z,q⟩:=q3t h r;.strs q z
theorem q6c:∀ts:List Str,q0z (ts.map .str)=some ts
 | []=>rfl
 | t::ts=>by show(q0z (ts.map .str)).map (t :: ·)=_;rw[q6c ts];rfl
theorem k1a {kts ts:tL} {us:tU} {h':Heap} {tk:Nat} {as:List Addr} (i:tI) (hk:∀b o,s.heap.get? b=some o->h'.get? b=some o) (ht:s.toks<=tk) (rq:VRs cx g (ts.map .str) us) (hkt:kts.length=ts.length) (hz:∀k∈kts,k.length<=sizeLine)
  (hl:as.length=kts.length) (hG:KdxG cx.sk (kts.zip us) tH h' as) :
  ∃g',An5 (Stp [] g s g' { s with heap:=h',toks:=tk }) (Inv cx g' Z { s with heap:=h',toks:=tk }) (VRs cx g' ((kts.zip ts).map q0a) (as.map Value.ref)) (g'.ρ=g.ρ) (∀b,b∉as->g'.I b=g.I b):=by
 have hfr:∀a∈as,s.heap.get? a=none:=λ a ha=>by
  generalize q:s.heap.get? a=zzy
  induction zzy with
  | none=>rfl
  | some o=>exact absurd (Heap.lt_size q) (Nat.not_lt_of_lt (hG.above a ha))
 obtain⟨g',a',i',le,hI,hr,hb⟩:=w9o (Z:=Z) (s:={ s with heap:=h',toks:=tk }) as (.keeps (t:=tk) ht hk:Stp [] g s g _) (i.keep ht hk) (hG.rise.imp λ h=>Nat.ne_of_lt h) λ a ha=>by
  refine⟨hfr a ha,(i.fresh (hfr a ha)).2,(i.fresh (hfr a ha)).1,?_⟩
  rcases _:List.mem_iff_getElem?.mp ha with⟨j,hj⟩
  rcases _:hG.pairs j a hj with⟨_,_,_,_,_,e⟩
  exact⟨_,e⟩
 refine⟨g',a',i',VRs.ofGet (by simp only[zH,zH,List.length_zip,hl,<-hkt,Nat.min_self]) λ j v e=>?_,hr,hb⟩
 rw[List.getElem?_map]at e
 obtain⟨p,hp,rfl⟩:=Option.map_eq_some_iff.mp e
 rcases _:hG.pairs j p hp with⟨key,k,x,hkx,hkey,ho⟩
 obtain⟨e1,e2⟩:=List.getElem?_zip_eq_some.mp hkx
 have hjt:j<ts.length:=hkt▸(List.getElem?_eq_some_iff.mp e1).1
 refine⟨q0a (k,ts[j]),by rw[List.getElem?_map,show(kts.zip ts)[j]? = some (k,ts[j])from List.getElem?_zip_eq_some.mpr ⟨e1,List.getElem?_eq_getElem hjt⟩];rfl,?_⟩
 obtain⟨w,hw,rw'⟩:=rq.get (i:=j) (x:=.str ts[j]) (by rw[List.getElem?_map,List.getElem?_eq_getElem hjt];rfl)
 rw[e2]at hw;obtain rfl:=zE hw
 obtain⟨t,rfl⟩:=q7r hkey
 exact RTup.mk p _ [.str k t,x] rfl (hI p (List.mem_of_getElem? hp) _ ho) ⟨0,rfl⟩ (.cons (.str_ _ (hz k (List.mem_of_getElem? e1))) (.cons (rw'.mono le) .nil)) (by simp only[sizeLine_eq];simp)
theorem k4n {xs:tW} (i:tI) (e:q0i Z v=some xs) (ra:VR cx g v a):tw (collect a) (Gath cx g s Z xs) NoE s:=by
 obtain⟨p,vs,rfl,hp,rp,zp⟩:=q0q i e ra
 refine collect_list hp.isList ?_ (rp.length▸zp)
 have k:∀b o,s.heap.get? b=some o->((s.heap.push (seqObj "list" #[] 0)).update tH (Obj.mapSeq (·++vs.toArray))).get? b=some o:=λ b o q=>by
  rw[Heap.get?_update_ne _ _ _ _ (Nat.ne_of_lt (Heap.lt_size q))];exact Heap.get?_push_of_some _ q
 exact⟨g,.keeps (t:=s.toks) (jZ _) k,i.keep (t:=s.toks) (jZ _) k,rp⟩
theorem w1s {kts:tL} {us:tU} (hl:us.length=kts.length):(kts.zip us).length=kts.length:=by rw[List.length_zip,hl,Nat.min_self]
theorem k0r {kts:tL} {us:tU} {acc:Array Value} (hl:us.length=kts.length) (hz:∀k∈kts,k.length<=sizeLine) (h:ItemsOf (λ i v=>∃k x,(kts.zip us)[i]? = some (k,x)/\cx.sk.is k v=true) acc (kts.zip us).length) :
  VRs cx g (kts.map .str) acc.toList:=by
 refine VRs.ofGet ((zH ..).trans ((h.1.trans (w1s hl)).symm.trans Array.length_toList.symm)) λ j v e=>?_
 obtain⟨k,x,q,hk⟩:=h.2 j v (by rw[<-Array.getElem?_toList];exact e)
 have e1:=(List.getElem?_zip_eq_some.mp q).1
 obtain⟨t,rfl⟩:=q7r hk
 exact⟨.str k,by rw[List.getElem?_map,e1];rfl,.str_ _ (hz k (List.mem_of_getElem? e1))⟩
theorem w0v {kvs:tC} (y:∀kv∈kvs,kv.1.length<=sizeLine):∀k∈kvs.map (·.1),k.length<=sizeLine:=λ k hk=>by
 obtain⟨kv,h,rfl⟩:=List.mem_map.mp hk
 exact y kv h
theorem k4m {kvs:tC} (hA:A.handled=none) (i:tI) (e:q0l Z v=some kvs) (ra:VR cx g v a):tw (collect a) (Gath cx g s Z ((kvs.map (·.1)).map .str)) NoE s:=by
 obtain⟨q,us,rfl,hq,rq,hsys,hz,hkz⟩:=q0v i e ra
 obtain⟨ep,hda⟩:=hq.dictAt
 have hl:us.length=(kvs.map (·.1)).length:=by have:=rq.length;rw[zH]at this ⊢;exact this.symm
 refine q5k (kdu_collect (kdl_dict hsys) hA hda (by rw[w1s hl,zH];exact hz) λ h' tk acc hk hacc ht=>?_)
 exact⟨g,.keeps (t:=tk) ht hk,i.keep ht hk,k0r hl (w0v hkz) hacc⟩
theorem z4k {kvs:tC} (hA:A.handled=none) (i:tI) (e:q0l Z v=some kvs) (ra:VR cx g v a):tw (call (.type "list") [a]) (PE cx g s Z (.fl (kvs.map λ kv=>.str kv.1))) NoE s:=by
 obtain⟨q,us,rfl,hq,rq,hsys,hz,hkz⟩:=q0v i e ra
 obtain⟨ep,hda⟩:=hq.dictAt
 have hl:us.length=(kvs.map (·.1)).length:=by have:=rq.length;rw[zH]at this ⊢;exact this.symm
 refine kdl_call (kdl_dict hsys) hA hda (by rw[w1s hl,zH];exact hz) λ h' tk acc c hk ho hacc=>?_
 refine PE.held (v:=.fl (kvs.map λ kv=>.str kv.1)) i (q0f s) ho hk (λ g' le hi=>RFl.mk _ _ acc.toList rfl hi ⟨c,by rfl⟩ ?_ (by rw[zH];exact hz)) tk
 have:=k0r (g:=g') hl (w0v hkz) hacc
 rw[List.map_map]at this
 exact this
theorem j5h {d:AV} {kvs:tC} {ts:tL} (hA:A.handled=none) (i:tI) (e:q0l Z d=some kvs) (h:q0z (kvs.map (·.2))=some ts) (ra:VR cx g (.iv d) a) :
  tw (collect a) (Gath cx g s Z (((kvs.map (·.1)).zip ts).map q0a)) NoE s:=by
 obtain⟨p,o,q,rfl,hi,hc,hf,rd⟩:=ra
 obtain⟨q',us,hq',hq,rq,hsys,hz,hkz⟩:=q0v i e rd
 rcases hq'
 obtain⟨ep,hda⟩:=hq.dictAt
 have hl:us.length=(kvs.map (·.1)).length:=by have:=rq.length;rw[zH]at this ⊢;exact this.symm
 have rt:=z0g h rq
 have hlt:(kvs.map (·.1)).length=ts.length:=by have:=rt.length;rw[zH]at this;rw[this,hl]
 exact q5k (kdx_collect hA ⟨o,i.sub _ _ hi,hc,hf⟩ hda (by rw[w1s hl,zH];exact hz) λ h' tk as hk hl' hG ht=>let ⟨g',a',i',q,_,_⟩:=k1a i hk ht rt hlt (w0v hkz) (by rw[hl',w1s hl]) hG;⟨g',a',i',q⟩)
theorem k2j {d:AV} {kvs:tC} {ts:tL} (hA:A.handled=none) (i:tI) (e:q0l Z d=some kvs) (h:q0z (kvs.map (·.2))=some ts) (ra:VR cx g (.iv d) a) :
  tw (call (.type "list") [a]) (PE cx g s Z (.fl (((kvs.map (·.1)).zip ts).map q0a))) NoE s:=by
 obtain⟨p,o,q,rfl,hi,hc,hf,rd⟩:=ra
 obtain⟨q',us,hq',hq,rq,hsys,hz,hkz⟩:=q0v i e rd
 rcases hq'
 obtain⟨ep,hda⟩:=hq.dictAt
 have hl:us.length=(kvs.map (·.1)).length:=by have:=rq.length;rw[zH]at this ⊢;exact this.symm
 have rt:=z0g h rq
 have hlt:(kvs.map (·.1)).length=ts.length:=by have:=rt.length;rw[zH]at this;rw[this,hl]
 refine kdx_call hA ⟨o,i.sub _ _ hi,hc,hf⟩ hda (by rw[w1s hl,zH];exact hz) λ h' tk acc c as hk hS hl' hG hacc ht=>?_
 obtain⟨g',a',i',rv,hr,hb⟩:=k1a i hk ht rt hlt (w0v hkz) (by rw[hl',w1s hl]) hG
 have hn:=q0f s
 have hnS:tH∉as:=λ hm=>Nat.lt_irrefl _ (hG.above _ hm)
 have h2:g'.I tH=none:=by rw[hb _ hnS];exact(i.fresh hn).1
 refine⟨g'.freeze tH _,a'.addFz hn h2,i'.add hS (by rw[hr];exact(i.fresh hn).2) h2,?_⟩
 exact RFl.mk _ _ (as.map Value.ref) rfl (G.freeze_self _ _ _) ⟨c,by rw[<-hacc]⟩ (rv.mono (G.freeze_le h2)) (by rw[zH,List.length_zip,<-hlt,Nat.min_self,zH];exact hz)
theorem v1e {x d:AV} (h:ivV x=some d):x = .iv d:=by rcases x<;>first|exact nope h|exact congrArg _ (zE h)
theorem k8d {w:AV} (hA:A.handled=none) (i:tI) (ra:VR cx g w a) (e:z2t w Z=some (v,Z')):tw (call (.builtin "sorted") [a]) (PX cx g s Z' v) NoE s:=by
 refine optM e (λ d h1 e=>optE e λ kvs h2 e=>optE e λ ps h3 e=>q0k e λ h4 e=>?_) λ J e=>optM e (λ kvs h2 e=>q0k e λ h3 e=>?_) λ J e=>optE e λ xs h2 e=>optE e λ ts h3 e=>q0k e λ h4 e=>?_
 ·refine mapQ h3 λ ts h5 h6=>?_
  subst h6
  rw[v1e h1]at ra
  exact pxE e (PE.x (w2r (z6v (w5r _) h4) (by rw[zH];exact jH (zB h4) tA) (j5h hA i h2 h5 ra)))
 ·exact pxE e (PE.x (w2r (z6w (q6c _) h3) (by rw[zH];exact jH (zB h3) tA) (k4m hA i h2 ra)))
 ·exact pxE e (PE.x (w2r (z6w h3 h4) (by obtain⟨_,_,_,_,_,z⟩:=q0q i h2 ra;exact z) (k4n i h2 ra)))
theorem j6s {w:AV} (hA:A.handled=none) (i:tI) (ra:VR cx g w a) (e:v1n w Z=some (v,Z')):tw (call (.type "list") [a]) (PX cx g s Z' v) NoE s:=by
 refine optM e (λ d h1 e=>optE e λ kvs h2 e=>optE e λ ps h3 e=>?_) λ J e=>optE e λ kvs h2 e=>?_
 ·refine mapQ h3 λ ts h5 h6=>?_
  subst h6
  rw[v1e h1]at ra
  exact pxE e (PE.x (k2j hA i h2 h5 ra))
 ·exact pxE e (PE.x (z4k hA i h2 ra))
theorem v3l {k:Int} (i:tI) (h:k.natAbs<10 ^ 6) (ra:VR cx g (.int k) a):tw (call (.type "str") [a]) (PE cx g s Z (.str (q6i k))) NoE s:=by
 obtain⟨t,rfl⟩:=ra.of_int
 have hz:(q6i k).length<=sizeLine:=by
  have:=len_str_of_int k
  unfold q6i
  exact Int.ofNat_le.mp (Int.le_trans this (Int.le_trans (Int.add_le_add_right (Int.ofNat_le.mpr (zB h)) 2) (by rw[sizeLine_eq];decide)))
 exact str_of_int_fit (N:=10 ^ 6) (Int.lt_of_lt_of_le (Int.lt_of_le_of_lt (by split;rw[Int.zero_sub,<-Int.natAbs_neg];exact Int.le_natAbs;exact Int.le_natAbs) (Int.ofNat_lt.mpr h)) tA) tA λ J=>PE.tok i (.str_ _ hz) _
theorem j5n {kvs:tC} (hm:∃b o,sysModules<=b/\cx.h₀.get? b=some o) (i:tI) (e:q0l Z v=some kvs) (ra:VR cx g v a):tw (call (.type "dict") [a]) (PE cx g s Z (.fd (kvs.map (·.1)) (kvs.map (·.2)))) NoE s:=by
 obtain⟨q,us,rfl,hq,rq,hsys,hz,hkz⟩:=q0v i e ra
 have hl:us.length=(kvs.map (·.1)).length:=by have:=rq.length;rw[zH]at this ⊢;exact this.symm
 refine kt_call_dict hsys hq (by rw[w1s hl,zH];exact hz) λ h' hd sb=>?_
 obtain⟨o,ho,hod⟩:=Heap.dictOf_iff.mp hd
 refine PE.held (v:=.fd (kvs.map (·.1)) (kvs.map (·.2))) i (q0f s) ho (λ b o e=>(sb.2 b (Nat.ne_of_lt (Heap.lt_size e))).trans (Heap.get?_push_of_some _ e)) (λ g' le hi=>RFd.mk _ o us rfl hi hod (by rw[zH,zH]) (rq.mono le) ?_ (by rw[zH];exact hz) (w0v hkz)) s.toks
 obtain⟨b,o,hb,ho⟩:=hm
 exact beq_false_of_ne (Nat.ne_of_gt (jJ hb (Heap.lt_size (i.keeps0 _ _ ho))))
theorem z4r:∀{us kvs:tC} {vs ws:tU},VRs cx g (kvs.map (·.2)) vs->VRs cx g (us.map (·.2)) ws->
  ∃vs',merged ((kvs.map (·.1)).zip vs) ((us.map (·.1)).zip ws)=((us.foldl (λ a kv=>q0x kv.1 kv.2 a) kvs).map (·.1)).zip vs'/\VRs cx g ((us.foldl (λ a kv=>q0x kv.1 kv.2 a) kvs).map (·.2)) vs'
 | [],kvs,vs,ws,q,r=>by rw[VRs.of_nil r];exact⟨vs,rfl,q⟩
 | (k,x)::us,kvs,vs,ws,q,r=>by
  obtain⟨w,ws,rfl,rw',r⟩:=VRs.uncons (show VRs cx g (x::us.map (·.2)) ws from r)
  obtain⟨vs1,e1,q1⟩:=w1o (k:=k) q rw'
  obtain⟨vs2,e2,q2⟩:=z4r q1 r
  exact⟨vs2,by show merged (stored ((kvs.map (·.1)).zip vs) k w) ((us.map (·.1)).zip ws)=_;rw[e1];exact e2,q2⟩
theorem z3y:∀(us kvs:tC),(us.foldl (λ a kv=>q0x kv.1 kv.2 a) kvs).length<=kvs.length+us.length
 | [],kvs=>jZ _
 | kv::us,kvs=>jH (z3y us (q0x kv.1 kv.2 kvs)) (jH (Nat.add_le_add_right (q3y kv.1 kvs) _) (zA (Nat.succ_add_eq_add_succ _ _)))
theorem k8q {l:Nat} {kvs us:tC} (i:tI) (hx:Z[l]? = some (.dict kvs)) (hy:fdV v=some us) (hz:kvs.length+us.length<=100) (ra:VR cx g (.loc l) a) (rb:VR cx g v b) :
  tw (call (.builtin "dict.update") [a,b]) (PE cx g s (Z.set l (.dict (us.foldl (λ a kv=>q0x kv.1 kv.2 a) kvs))) .none) NoE s:=by
 have hd:q0l Z v=some us:=by rcases v<;>first|exact nope hy|exact hy
 obtain⟨p,rfl,hl⟩:=ra.of_loc
 obtain⟨vs,hv,q,z1,z2,z3⟩:=i.cells _ _ _ hx hl
 obtain⟨q2,ws,rfl,hq,rq,hsys,hz2,hkz⟩:=q0v i hd rb
 have hne:p≠q2:=by
  rintro rfl
  rcases v<;>first|exact nope hy|skip
  obtain⟨a',o,vs',e',hI,_⟩:=rb
  rcases e'
  have:=i.notCell hI
  exact this (List.mem_of_getElem? hl)
 have l1:((kvs.map (·.1)).zip vs).length=kvs.length:=w7d q
 have l2:((us.map (·.1)).zip ws).length=us.length:=w7d rq
 obtain⟨vs',em,qm⟩:=z4r q rq
 refine call_meetsIn F.slot_dict_update hv.typeIs F.entry_dict_update (F.args_dict_update_2 _ _) (meets_dict_update cx.sk p q2 hne hsys) ⟨_,_,hv,hq,by rw[l1,l2,sizeLine_eq];exact jH hz tA,λ h' hd' J hs'=>?_⟩
 rw[em]at hd'
 exact PE.set (o:=.dict _) (t:=s.toks) i hl ⟨vs',hd',qm,z1,by rw[sizeLine_eq];exact jH (z3y us kvs) (jH hz tA),q3u z3 hkz⟩ hs' .none_
theorem z8d {kvs:tC} (i:tI) (e:q0l Z v=some kvs) (ra:VR cx g v a):tw (call (.builtin "len") [a]) (PE cx g s Z (.int kvs.length)) NoE s:=by
 obtain⟨q,us,rfl,hq,rq,hsys,hz,hkz⟩:=q0v i e ra
 have hl:us.length=(kvs.map (·.1)).length:=by have:=rq.length;rw[zH]at this ⊢;exact this.symm
 have e1:((kvs.map (·.1)).zip us).length=kvs.length:=by rw[w1s hl,zH]
 refine call_len_dict hsys hq (by rw[e1];exact w2f hz) ?_
 rw[e1]
 exact PE.tok i (.int_ _) _
theorem z9g (x y:Str):∀p∈Txt.split x y,p.length<=x.length:=by
 intro p hp
 unfold Txt.split at hp
 split at hp
 ·rw[zF hp];exact jZ _
 ·split at hp
  ·rw[zF hp];exact jZ _
  ·simp only[Builtin.Str.partsBetween,List.mem_map]at hp
   obtain⟨⟨i,j⟩,_,rfl⟩:=hp
   exact strSub_length_le ..
theorem j1t {p c:Str} (i:tI) (hc:c.length≠0) (hz:(Txt.split p c).length<=sizeLine) (ra:VR cx g (.str p) a) (rb:VR cx g (.str c) b) :
  tw (call (.builtin "str.split") [a,b]) (PE cx g s Z (.fl ((Txt.split p c).map .str))) NoE s:=by
 obtain⟨t,rfl,z⟩:=ra.of_str
 obtain⟨u,rfl,_⟩:=rb.of_str
 have hy:(c.length==0)=false:=by simpa using hc
 have zz:∀q∈Txt.split p c,q.length<=sizeLine:=λ q hq=>jH (z9g p c q hq) z
 rcases h1:(decide (p.length<c.length)||decide (Builtin.Str.strKind p<Builtin.Str.strKind c))
 ·rcases hf:(Builtin.Str.occurrences p c 0 p.length (p.length+1)).isEmpty
  ·have e:Txt.split p c=Builtin.Str.partsBetween p (Builtin.Str.occurrences p c 0 p.length (p.length+1)) c.length:=by unfold Txt.split;rw[if_neg (by rw[h1];simp),if_neg (by rw[hf];simp)]
   refine call_meets F.slot_str_split (typeIs_str _ _ _) F.entry_str_split (F.args_str_split_2 _ _) (meets_str_split_sep p c t u h1 hy hf z (by rw[<-e];exact hz)) ?_
   rw[strsFrom_eq]
   exact PE.texts i ((numbered_texts _ _).trans e.symm) zz hz
  ·have e:Txt.split p c=[p]:=by unfold Txt.split;rw[if_neg (by rw[h1];simp),if_pos hf]
   exact call_meets F.slot_str_split (typeIs_str _ _ _) F.entry_str_split (F.args_str_split_2 _ _) (meets_str_split_not_found p c t u h1 hy hf) (PE.texts (l:=[(p,t)]) (t:=s.toks) i e.symm zz hz)
 ·have e:Txt.split p c=[p]:=by unfold Txt.split;rw[if_pos h1]
  exact call_meets F.slot_str_split (typeIs_str _ _ _) F.entry_str_split (F.args_str_split_2 _ _) (meets_str_split_cannot_occur p c t u h1) (PE.texts (l:=[(p,t)]) (t:=s.toks) i e.symm zz hz)
theorem j7q (i:tI):tw (call (.type "set") []) (PE cx g s (Z++[.set []]) (.loc Z.length)) NoE s:=by
 refine call_set_0 λ led=>?_
 refine PE.cell (t:=s.toks) (o:=.set []) i (q0f s) ⟨?_,.nil⟩ λ b o e=>Heap.get?_push_of_some _ e
 exact SetOf_congr ((setObjOf_fresh (knd:=cx.sk) led).setOf (Heap.get?_push_size _ rfl) (by exact Nat.succ_pos _)) (λ J=>rfl) rfl
noncomputable abbrev q2q (led:Bool):Obj:={ cls:=.type "set",dict:=none,data:=.set #[] 0 (.fresh 0 0 led) }
theorem w3o (a:Value) {Q1:Value->Shared->Prop}
  (h:∀led:Bool,(cx.w.params.followText "set-order" = false->led=true)->Q1 (.ref tH) { s with heap:=s.heap.push (q2q led) }) :
  codeAny cx.M A (.call (.builtin "set.__new__") ⟨[.type "set",a],[]⟩) (wants Q1 E) s:=by
 refine codeAny_of_tree ?_
 show wpAny _ A.in1 (do checkBuiltinCall "set.__new__" ⟨[.type "set",a],[]⟩;again (.builtin "set.__new__" ⟨[.type "set",a],[]⟩)) _ _ s
 refine tG (wpAny_of_eq (F.newCall_set_1 a) (tJ ⟨plainId_quiet F.plain_set_new _,codeAny_builtin F.entry_set_new ?_⟩))
 rw[Around.under_plainId F.plain_set_new _]
 unfold Builtin.«set.__new__» Builtin.Frozenset.newClass
 have hsub:=sub_set_self
 obtain⟨hp,g,d,tk,os⟩:=s
 dsimp only
 generalize hNS:newSet=NS
 wp_walk
 subst hNS
 refine z4x λ led hl=>?_
 exact tJ (h led hl)
set_option maxHeartbeats 3200000 in
theorem k1t {x:Value} {Q:Value->Shared->Prop}
  (h:∀(A':Around) (led:Bool),A'.handled=A.handled->(cx.w.params.followText "set-order" = false->led=true)->
   wpAny cx.M A' (Builtin.Frozenset.updateFrom "set.__init__" tH x) (λ J s₂=>Q (.ref tH) s₂/\s₂.TypeIs (.ref tH) "set") E { s with heap:=s.heap.push (q2q led) }) :
  tw (call (.type "set") [x]) Q E s:=by
 obtain⟨c,tl,hmro⟩:=F.called_set.mro
 have hmade:=F.called_set.made
 have hsub:=F.called_set.sub
 refine wpAny_call (codeAny_of_tree ?_)
 show wpAny _ _ (callAny (.type "set") _) _ _ _
 refine tJ ⟨Code.quiet_builtin _ (by decide +kernel),codeAny_builtin F.entry_type_call ?_⟩
 rw[Around.under_plain (weight_type_call_type "set" [x] []) rfl]
 have h1:=F.called_set.notType
 have h2:=F.called_set.canCreate
 have hct:=F.typeCall_set_1 x
 repeat (any_goals (first|assumption|wp_step))
 refine codeAny_mono (w3o x (E:=E) (Q1:=λ obj s₁=>∃led:Bool,(cx.w.params.followText "set-order" = false->led=true)/\obj = .ref tH/\s₁={ s with heap:=s.heap.push (q2q led) }) λ led hl=>⟨led,hl,rfl,rfl⟩) λ r s₁ hr=>?_
 cases r with
 | error e=>exact hr
 | ok fl=>
  induction fl with
  | ret obj=>
   obtain⟨led,hled,rfl,rfl⟩:=hr
   have hS:(s.heap.push (q2q led)).get? tH=some (q2q led):=Heap.get?_push_size _ rfl
   have hT:Shared.TypeIs { s with heap:=s.heap.push (q2q led) } (.ref tH) "set":=⟨_,hS,rfl⟩
   have hli:=F.called_set.init.lookup
   have hbi:=F.called_set.init.bind (.ref tH)
   repeat (any_goals (first|assumption|wp_step))
   refine codeAny_mono (codeAny_call_builtin (R:=wants (λ r s₂=>r = .none/\Q (.ref tH) s₂/\s₂.TypeIs (.ref tH) "set") E) F.called_set.init.plain F.entry_set_init (check_set_init_1 hT ?_)) λ r2 s₂ hr2=>?_
   ·unfold Builtin.«set.__init__» noKeywords
    generalize hUF:Builtin.Frozenset.updateFrom=UF
    wp_walk
    subst hUF
    refine wpAny_mono (h _ led (by simp) hled) (λ J s₂ q=>tJ ⟨rfl,q⟩) λ J J x=>x
   ·cases r2 with
    | error e=>exact hr2
    | ok fl2=>
     induction fl2 with
     | ret r=>
      obtain⟨rfl,hQ,hT2⟩:=hr2
      repeat (any_goals (first|assumption|wp_step))
     | _=>exact hr2.elim
  | _=>exact hr.elim
end
theorem z0f {vs:tU} {ts:tL} (h:StrsAre vs ts):∀(i:Nat) (v:Value),vs[i]? = some v->∃k t,ts[i]? = some k/\v=Value.str k t:=by
 induction h with
 | nil=>intro i v e;simp at e
 | cons y t h ih=>
  intro i v e
  induction i with
  | zero=>simp at e;exact⟨y,t,rfl,e.symm⟩
  | succ j=>simp at e;simpa using ih j v e
section
variable {T:Tab}
theorem k1r {p:Addr} {T:String} {Q:Bool->Shared->Prop} (hT:s.TypeIs (.ref p) T) (h1:isSubtype (.type T) (.type "set")=pure false) (h2:isSubtype (.type T) (.type "frozenset")=pure false) (h:Q false s):tw (Builtin.Frozenset.isAnySet (.ref p)) Q E s:=by
 unfold Builtin.Frozenset.isAnySet
 refine tG (wpAny_isInstance hT h1 ?_)
 exact wpAny_isInstance hT h2 h
theorem j2e {k:tL} {s₁:Shared} (i:tI) (k1:Kept s s₁) (H:q2m cx s₁.heap tH k):PX cx g s Z (.ws k) (.ref tH) s₁:=by
 obtain⟨o,ho,hso,hled,hb,hnd,hz⟩:=H.led
 have hn:=q0f s
 refine⟨g.freeze tH o,(k1.stp).addFz hn (i.fresh hn).1,(k1.inv i).add ho (i.fresh hn).2 (i.fresh hn).1,?_⟩
 exact RWs.mk _ o rfl (G.freeze_self _ _ _) hso hb hnd hz hled
theorem q2m.type {h:Heap} {a:Addr} {k:tL} (H:q2m cx h a k) {s:Shared} (e:s.heap=h):s.TypeIs (.ref a) "set":=by
 obtain⟨o,es,ep,t,ho,hex,_⟩:=H
 exact⟨o,by rw[e];exact ho,hex.1⟩
theorem z8u {xs:tW} {ts:tL} (hA:A.handled=none) (i:tI) (e:q0i Z v=some xs) (h:q0z xs=some ts) (hz:ts.length<=100) (ra:VR cx g v a) :
  tw (call (.type "set") [a]) (PX cx g s Z (.ws (q0o [] ts))) NoE s:=by
 obtain⟨p,vs,rfl,⟨c,hp⟩,rv,_⟩:=q0q i e ra
 obtain⟨hkz,hst⟩:=q3t h rv
 have hpl:=Heap.lt_size hp
 refine k1t λ A' led hA' hled=>?_
 have hp1:(s.heap.push (q2q led)).get? p=some { cls:=.type "list",dict:=none,data:=.seq vs.toArray c,slots:=#[] }:=Heap.get?_push_of_some _ hp
 have hT:Shared.TypeIs { s with heap:=s.heap.push (q2q led) } (.ref p) "list":=⟨_,hp1,rfl⟩
 have hS:(s.heap.push (q2q led)).get? tH=some (q2q led):=Heap.get?_push_size _ rfl
 have hit:(s.heap.push (q2q led)).PlainList p vs.toArray:=⟨c,hp1⟩
 unfold Builtin.Frozenset.updateFrom
 refine tG (k1r hT F.sub_list_set F.sub_list_frozenset ?_)
 rw[if_neg Bool.false_ne_true]
 refine tG (wpAny_typeOf hT ?_)
 rw[if_neg tA]
 refine tG (wpAny_pyIter_list hit.isList (tG (wpAny_runValue ?_)))
 have hlen:vs.length=ts.length:=by have:=hst.length;omega
 have hne:p≠(s.heap.push (q2q led)).objs.size:=by rw[Heap.size_push];exact Nat.ne_of_lt (Nat.lt_succ_of_lt hpl)
 have hSf:tH∉[(s.heap.push (q2q led)).objs.size,p]:=by
  rw[Heap.size_push];simp only[List.mem_cons,List.not_mem_nil,or_false,not_or];exact⟨Nat.ne_of_lt (Nat.lt_succ_self _),Nat.ne_of_gt hpl⟩
 have W:=(Walks.list (prog:=cx.prog) (w:=cx.w) (A:=A'.in1) (by simpa [hA']using hA) _ p hne vs.toArray).toS
 rw[show vs.toArray.size=ts.length by simpa using hlen]at W
 refine w7c W tH hSf (λ j v hj=>z0f hst j v (by simpa using hj)) hkz (kk:=[]) (by unfold scanBound;simp;omega) _ 0 _ rfl (Nat.zero_le _) ⟨⟨_,Heap.get?_push_size _ rfl,rfl,rfl⟩,hit.isList.push _⟩
  ((q2m.new (Heap.get?_push_of_some _ hS) hled)) λ s' hm hS'=>?_
 show wpAny _ _ _ _ _ _
 refine tJ ?_
 refine⟨?_,hS'.type rfl⟩
 refine j2e i ?_ hS'
 have k1:Kept s { s with heap:=(s.heap.push (q2q led)).push { cls:=.type "list_iterator",data:=.fields #[.ref p,.int 0 0] } }:=⟨λ b o e=>Heap.get?_push_of_some _ (Heap.get?_push_of_some _ e),jZ _,rfl,rfl⟩
 refine k1.moved hm λ b hb=>?_
 simp only[List.mem_cons,List.not_mem_nil,or_false]at hb
 rcases hb with rfl|rfl
 ·exact q0f s
 ·rw[Heap.size_push]
  generalize q:s.heap.get? (s.heap.objs.size+1)=zzy
  induction zzy with
  | none=>rfl
  | some o=>exact absurd (Heap.lt_size q) (Nat.not_lt_of_lt (Nat.lt_succ_self _))
theorem v7j {xs:tL} (h:wsV w=some xs):w = .ws xs:=by rcases w<;>first|exact nope h|exact congrArg _ (zE h)
theorem j1u {f:Str} (h:w4b (T.gl.lookup f)=true):T.gl.lookup f=some (.bf .sorted):=by
 revert h
 cases T.gl.lookup f with
 | none=>exact nob
 | some w=>cases w with
  | bf b=>exact λ h=>congrArg (λ b=>some (AV.bf b)) (beq_iff_eq.mp h)
  | _=>exact nob
theorem v5g {a elt:Expr} {gg:Comprehension} {sc:Scope} (h:lcP a=some (elt,gg,sc)):∃p,a = .ListComp elt [gg] sc p:=by
 induction a using Expr.casesOn with
 | ListComp e gens s p=>
  rcases gens with _|⟨g1,_|⟨g2,gs⟩⟩
  ·exact nope h
  ·rcases h;exact⟨p,rfl⟩
  ·exact nope h
 | _=>exact nope h
inductive j9a (F:List AV->Option ((Vs×List AV)×Store)) (xs:tL) (Z:Store) (v:AV) (Z':Store):Prop
 | mk (wA:tL) (h:∀p:List Str,p.Perm xs->∃q zs,F (p.map .str)=some ((q,zs.map .str),Z)/\zs.length<64/\q3r zs=wA) (e:v = .fl (wA.map .str)) (e':Z'=Z)
set_option tactic.hygienic true in theorem j1j {F:List AV->Option ((Vs×List AV)×Store)} {xs:tL} (e:z8o F xs Z=some (v,Z')):j9a F xs Z v Z':=by
 unfold z8o at e
 split at e
 ·rename_i h
  rw[(q0h e).1,(q0h e).2]
  exact⟨_,h.choose_spec,rfl,rfl⟩
 ·exact nope e
theorem j1i {F:List AV->Option ((Vs×List AV)×Store)} {xs wA:tL} (h:∀p:List Str,p.Perm xs->∃q zs,F (p.map .str)=some ((q,zs.map .str),Z)/\zs.length<64/\q3r zs=wA):z8o F xs Z=some (.fl (wA.map .str),Z):=by
 have h':∃wA:List Str,∀p:List Str,p.Perm xs->∃q zs,F (p.map .str)=some ((q,zs.map .str),Z)/\zs.length<64/\q3r zs=wA:=⟨wA,h⟩
 unfold z8o
 rw[dif_pos h']
 obtain⟨q,zs,e1,_,e2⟩:=h xs (.refl _)
 obtain⟨q',zs',e1',_,e2'⟩:=h'.choose_spec xs (.refl _)
 rw[e1]at e1'
 have e3:=(Prod.mk.inj (Prod.mk.inj (zE e1')).1).2
 have e4:zs=zs':=by have:=congrArg q0z e3;rw[q6c,q6c]at this;exact zE this
 rw[<-e2',<-e4,e2]
theorem j1m (hA:AOk n A) {F:AV->Vs×List AV->Store->Option ((Vs×List AV)×Store)} {target:Expr} {b:Vs×List AV} {wA xs:tL}
  (hF:∀p:List Str,p.Perm xs->∃q zs,(if !goOk (.fl (p.map .str)) target then none else q0s (.fl (p.map .str)) F b Z)=some ((q,zs.map .str),Z)/\zs.length<64/\q3r zs=wA) (i:tI) (ra:VR cx g (.ws xs) u) :
  tw (pyIter u) (j8v cx A g Z s target F b λ b' Z'=>∃zs:List Str,b'=zs.map .str/\q3r zs=wA/\zs.length<64/\Z'=Z) NoE s:=by
 obtain⟨a,o,rfl,hi,hso,hb,hnd,hz,hled⟩:=ra
 refine k0o (i.sub _ _ hi) hso hled hb λ es ep t hd I s' ht J=>?_
 obtain⟨fp,P,St,ord,W,st,f,m,hperm,hlen,ho,tp,hq,htp,hti⟩:=ht.walk
 obtain⟨hex,es',ep',t',hd',hel,hmem,hn,hft⟩:=hso
 rw[hd]at hd'
 cases hd'
 obtain⟨te,hte1,hte2⟩:=q7g hel
 obtain⟨ts,hts1,hts2⟩:=w3n hperm hte1
 have hel':te.length=es.size:=by have:=hte1.length;rw[zH,Array.length_toList]at this;exact this.symm
 have hpx:ts.Perm xs:=by
  refine hts2.trans (w2h hnd (λ x hx=>?_) (by rw[hel',hn])).symm
  exact(hte2 x).mpr ((hmem x).mp (List.contains_iff_mem.mpr hx))
 obtain⟨q,zs,e1,hl64,hsz⟩:=hF ts hpx
 refine ifNo e1 λ hgo e1=>?_
 obtain⟨nx,k,hnx,hl⟩:=k8s e1
 obtain rfl:=zE hnx
 have hlt:ord.length=(ts.map AV.str).length:=by rw[zH];exact hts1.length
 have hP:∀(g':G) i v,i<es.size->P i v->∃x,(ts.map AV.str)[i]? = some x/\VR cx g' x v:=λ g' j v J hv=>by
  obtain⟨y,t,hy,rfl⟩:=z0f hts1 j v (ho j v hv)
  exact⟨.str y,by rw[List.getElem?_map,hy];rfl,.str_ _ (hz y (hpx.mem_iff.mp (List.mem_of_getElem? hy)))⟩
 have k0:=ht.kept
 have nI:=ht.new
 obtain⟨f1,f2⟩:=i.fresh nI
 have key:∃g',An5 (Stp [] g s g' s') (Inv cx g' Z s') (∀b∈fp,b=I\/∃o,g'.I b=some o) (I∉g'.ρ) (g'.I I=none):=by
  by_cases hI:tp=I
  ·refine⟨g,k0.stp,k0.inv i,λ b hb=>?_,f2,f1⟩
   rcases hq b hb with h|h|h
   ·exact .inl h
   ·rw[zF h];exact .inr ⟨_,hi⟩
   ·exact .inl (h.trans hI)
  ·obtain⟨h1,o',h2⟩:=htp.resolve_left hI
   obtain⟨f3,f4⟩:=i.fresh h1
   refine⟨g.freeze tp o',k0.stp.addFz h1 f3,(k0.inv i).add h2 f4 f3,λ b hb=>?_,f2,by rw[G.freeze_I,if_neg (Ne.symm hI)];exact f1⟩
   rcases hq b hb with h|h|h
   ·exact .inl h
   ·rw[zF h]
    by_cases hat:a=tp
    ·rw[hat];exact .inr ⟨_,G.freeze_self _ _ _⟩
    ·exact .inr ⟨_,by rw[G.freeze_I,if_neg hat];exact hi⟩
   ·rw[h];exact .inr ⟨_,G.freeze_self _ _ _⟩
 obtain⟨g',a1,i1,hfp,h1,h2⟩:=key
 refine⟨.fl (ts.map .str),_,k,q,zs.map .str,Z,g',I,_,_,rfl,nI,a1,i1,
  (WK.of_walks (g0:=g') (xs:=ts.map .str) (W A hA.handled) (hP g') (hlen.symm.trans hlt) hfp (λ j h q=>let ⟨o,ho,hc⟩:=hti j h q;⟨o,_,ho,hc,by rfl⟩)).tt λ J J=>rfl,⟨Nat.zero_le _,st,.refl _,h1,h2⟩,by simpa using hgo,hl,zs,rfl,hsz,hl64,rfl⟩
theorem k5a (H:GlOk cx T) (B:BiOk cx n) (R:EvOk cx n r) (hA:AOk n A) (i:tI) (E:ER cx ks ns env g vs s) {f:Expr} {elt:Expr} {gg:Comprehension} {sc:Scope} {p cp:Pos}
  (e:k1e T r ks ns f elt gg sc vs Z=some (v,Z')):tw (eval (.Call f [.ListComp elt [gg] sc p] [] cp) env) (PX cx g s Z' v) NoE s:=by
 refine optE e λ fn hf e=>q0k e λ h e=>q0e e λ w Z1 e1 e=>optE e λ xs hw e9=>q4h h λ h has=>q4h h λ h hK=>q4h h λ h hp=>q4h h λ h hdbg=>q4h h λ h hk=>?_
 obtain⟨np,rfl⟩:=w0w hf
 obtain rfl:=v7j hw
 obtain⟨wA,hZ,rfl,rfl⟩:=j1j e9
 have hgl:=j1u h
 have hk:ks.lookup fn=some .globalImplicit:=by simpa using hk
 obtain⟨target,iter,ifs,as⟩:=gg
 obtain rfl:as=0:=by simpa using has
 have K:=z3k hK
 refine tG (PX.then (z0z H E i hk (by simpa using hdbg) hgl) λ g1 s₁ u1 a1 i1 r1=>?_)
 subst r1
 have E1:=E.go a1
 have hst:∀z q,Expr.ListComp elt [⟨target,iter,ifs,0⟩] sc p≠.Starred z q:=λ z q h=>nomatch h
 have st:starEach [.ListComp elt [⟨target,iter,ifs,0⟩] sc p] env=[(false,eval (.ListComp elt [⟨target,iter,ifs,0⟩] sc p) env)]:=by rw[q0u hst];rfl
 have comp:tw (eval (.ListComp elt [⟨target,iter,ifs,0⟩] sc p) env) (λ u s₂=>∃zs:List Str,q3r zs=wA/\zs.length<64/\PX cx g1 s₁ Z' (.fl (zs.map .str)) u s₂) NoE s₁:=by
  refine w9i (Q:=w5m) (use:=none) (pos:=iter.pos) (good:=λ b' Z3=>∃zs:List Str,b'=zs.map .str/\q3r zs=wA/\zs.length<64/\Z3=Z') R hA k0n rfl (λ J h=>absurd h List.not_mem_nil) K hp e1 (λ{g2 s₂ u2} i2 r2=>j1m hA (λ p hp=>by have:=hZ p hp;simp only[z0v]at this;exact this) i2 r2)
   (newAcc:=newList []) (ao:={ cls:=.type "list",data:=.seq #[] }) (λ h=>wpAny_newObj_type h) rfl H.mods (λ g h D e J=>⟨[],⟨0,e⟩,.nil,Nat.zero_le _⟩) (λ cenv D=>z3r R.e hA) i1 E1 λ b' Z2 hg g' s' D C F h' hs=>?_
  obtain⟨zs,rfl,hz,hl,rfl⟩:=hg
  obtain⟨g'',le,a,i',rv,hc1,hc2⟩:=w9w (mu:=false) F.stp F.inv F.acc F.outD.1 F.outD.2.1 F.outD.2.2 (show q0w false (zs.map .str) Z2=some (.fl (zs.map .str),Z2)from rfl)
  have k':∀b o,s'.heap.get? b=some o->b≠C->h'.get? b=some o:=λ b o e q=>(hs.2 b q).trans e
  have c1:=hc1 C F.ne.symm F.outC.1
  have c2:=hc2 C F.ne.symm F.outC.2.1
  exact⟨zs,hz,hl,g'',a.thenI (.write (t:=s'.toks) (jZ _) k') F.outC.2.2,i'.writeI (t:=s'.toks) (jZ _) c1 c2 k',rv⟩
 refine callWith_of (P:=λ J=>True) (by rw[st];rfl) (λ h J=>q2o h) ?_
 refine evalArgs_kw2 (by rfl) ?_ (q0u hst)
 simp only[st]
 refine Calls.spliced_cons (wpAny_mono comp (λ u s₂ hu=>?_) λ J J x=>x)
 obtain⟨zs,hz,hl,g2,a2,i2,r2⟩:=hu
 refine Calls.spliced_nil (kwAll_nil ⟨trivial,?_⟩)
 exact PX.lift (a1.trans a2) (B (b:=.sorted) (args:=[.fl (zs.map .str)]) (show z2t (.fl (zs.map .str)) Z'=_ from by show((q0z (zs.map .str)).bind λ ts=>if ts.length<64 then some (AV.fl ((q3r ts).map .str),Z')else none)=_;rw[q6c];exact(if_pos hl).trans (by rw[hz])) hA i2 (.cons r2 .nil))
end
structure All (cx:Cx) (T:Tab):Prop where
 gl:GlOk cx T
 cls:q6d cx T
 make:w2u cx T
 fn:FnOk cx T
 lam:z7e cx T
 few:cx.an.length<=100
section
variable {T:Tab}
theorem v0l (R:EOk cx n r.e) (hA:AOk n A) (i:tI) (E:ER cx ks ns env g vs s) {o j:Expr} {p:Pos} (e:subE r ks ns o j vs Z=some (v,Z')):tw (eval (.Subscript o j p) env) (PX cx g s Z' v) NoE s:=
 optM e (λ q h e=>(z5e h).elim λ p' h'=>h'▸j5q R hA i E e) λ J e=>v4t R hA i E e
theorem v4s (R:EOk cx n r.e) (hA:AOk n A) (i:tI) (E:ER cx ks ns env g vs s) {es:List Expr} {k:Nat} {p:Pos} (e:setE T r ks ns es k p vs Z=some (v,Z')):tw (eval (.Set es k p) env) (PX cx g s Z' v) NoE s:=by
 refine q0k e λ hk e=>?_
 subst hk
 rcases es with _|⟨x,_|⟨y,_|_⟩⟩
 ·exact nope e
 ·exact nope e
 ·refine optE e λ d h e=>?_
  obtain⟨q,rfl⟩:=j1v h
  exact v0k (T:=T) R hA i E e
 ·exact nope e
theorem v0j (R:EOk cx n r.e) (hA:AOk n A) (i:tI) (E:ER cx ks ns env g vs s) {o:Expr} {args:List Expr} {kws:List Keyword} {ap cp:Pos} (h1:q6q o=true) (h2:ap.endLine=cp.line) (hx:x=("replace" : Str))
  (e:v2v r ks ns o args kws vs Z=some (v,Z')):tw (eval (.Call (.Attribute o x ap) args kws cp) env) (PX cx g s Z' v) NoE s:=by
 subst hx
 refine q0e e λ w Z1 e1 e=>optE e λ y h3 e=>optE e λ ab h4 e=>q0k e λ h5 e=>optE e λ p h6 e=>optE e λ q h7 e=>q0k e λ hc e9=>?_
 obtain⟨a,b⟩:=ab
 obtain rfl:=z0e h3
 obtain rfl:=k8o h4
 obtain rfl:=List.isEmpty_iff.mp h5
 cases e9
 exact k4z R hA i E h1 h2 e1 h6 h7 hc
theorem hc3 {p:Bool} {a b k m:Nat} (h:¬ (!p||a !=b||decide (k<=m))=true):p=true/\a=b/\m<k:=by
 simp only[Bool.or_eq_true,Bool.not_eq_true',bne_iff_ne,ne_eq,decide_eq_true_eq,not_or,Decidable.not_not,Nat.not_le,Bool.not_eq_false]at h
 exact⟨h.1.1,h.1.2,h.2⟩
theorem v4r (W:All cx T) (B:BiOk cx n) (Cf:CfOk cx n C) (R:EvOk cx n r) (hA:AOk n A) (i:tI) (E:ER cx ks ns env g vs s) {f:Expr} {args:List Expr} {kws:List Keyword} {cp:Pos}
  (e:j9h T C r ks ns f args kws cp vs Z=some (v,Z')):tw (eval (.Call f args kws cp) env) (PX cx g s Z' v) NoE s:=by
 refine optM e (λ q h e=>ifNo e λ hc e9=>?_) λ h e=>optM e (λ l h2 e=>optE h2 λ kw h3 h4=>optE e λ f' h5 e=>optE e λ a h6 e9=>?_) λ J e9=>?_
 ·have hk:=hc3 hc
  rw[z0o (o:=q.1) (x:=q.2.1) (p:=q.2.2) h]
  exact ifE e9 (λ hx e=>v0j R.e hA i E hk.1 hk.2.1 (beq_iff_eq.mp hx) e) λ J e=>k9n W.cls W.make B Cf W.few R.e hA i E hk.1 hk.2.1 hk.2.2 e
 ·obtain⟨np,e1⟩:=w0w h5
  rw[e1,w3a h6,w3a h3]
  clear h3 h6 h5 e1 h2 e h
  obtain⟨kn,kv,kp⟩:=kw
  induction kn using Option.casesOn with
  | none=>exact nope h4
  | some kn=>
   induction kv using Expr.casesOn with
   | Lambda la lb sc lp=>obtain rfl:=zE h4;exact k5b W.gl W.lam W.fn.lim R.e hA i E e9
   | _=>exact nope h4
 ·refine optM e9 (λ q h2 e0=>optE h2 λ a h3 h4=>optE h4 λ q' h5 h6=>q0k h6 λ h7 h8=>?_) λ J e9=>v0f W.cls W.make B Cf W.few R.e hA i E (λ a b c q=>by rw[q]at h;exact nope h.symm) e9
  obtain⟨p,e1⟩:=v5g h5
  rw[w3a h3,e1,List.isEmpty_iff.mp (Bool.and_eq_true_iff.mp h7).1]
  rw[<-zE h8]at e0
  exact k5a W.gl B R hA i E e0
set_option maxHeartbeats 2000000 in
theorem v0q (W:All cx T) (B:BiOk cx n) (Cf:CfOk cx n C) (R:EvOk cx n r):EOk cx n (evE T C r):=by
 intro ks ns ex vs Z v Z' e A env g s hA i E
 induction ex using Expr.casesOn with
 | Constant c k p=>exact mapQ e λ w h q=>by rcases q;exact z0y h i
 | Name x p=>exact v0i W.gl E i e
 | BoolOp op es p=>rw[arm_eval_BoolOp];exact k4w R.e hA i E e
 | BinOp a op b p=>exact j5o R.e hA i E e
 | UnaryOp op a p=>exact e_un R.e hA i E e
 | IfExp t a b p=>exact j5p R hA i E e
 | Compare a ops bs p=>exact optE e λ op h1 e=>optE e λ b h2 e=>w3a h1▸w3a h2▸k4x R.e hA i E e
 | List es p=>exact v0h R.e hA i E e
 | Tuple es k p=>exact j5r R.e hA i E e
 | ListComp elt gens sc p=>exact(w9t W.gl R hA i E e).1
 | DictComp k x gens sc p=>exact(w9k W.gl R hA i E e).1
 | Dict kk vv p=>exact v0g W.gl R.e hA i E e
 | Set es k p=>exact v4s R.e hA i E e
 | Subscript o j p=>exact v0l R.e hA i E e
 | Attribute o x p=>exact v0e W.cls R.e hA i E e
 | JoinedStr es p=>exact k9m R.e hA i E e
 | Call f args kws cp=>exact v4r W B Cf R hA i E e
 | _=>exact nope e
theorem j5u (W:All cx T) (R:EvOk cx n r):COk cx n (evE T C r):=by
 intro ks ns ex vs Z v Z' hc e A env g s use vs' Z'' hA i E hu
 induction ex using Expr.casesOn with
 | ListComp _ _ _ _=>exact(w9t W.gl R hA i E e).2 hu
 | SetComp _ _ _ _=>exact nope e
 | DictComp _ _ _ _ _=>exact(w9k W.gl R hA i E e).2 hu
 | _=>exact Bool.noConfusion hc
theorem k5k (W:All cx T) (B:BiOk cx n) (Cf:CfOk cx n C):∀k,EvOk cx n (evN T C k)
 | 0=>EvOk.mk (λ e=>nomatch e) (λ J e=>nomatch e) (λ e=>nomatch e) (λ e=>nomatch e) (λ e=>nomatch e)
 | k+1=>by
  have R:=k5k W B Cf k
  exact⟨v0q W B Cf R,j5u W R,v0u R,v0p W.cls R,v0s W.cls R⟩
theorem z7i (W:All cx T) (B:∀n,BiOk cx n) (n:Nat):CfOk cx n (w1w T n):=z9r W.fn (λ n Cf=>k5k W (B n) Cf 40) n
end
end Mine
end
noncomputable section
set_option tactic.hygienic false
set_option maxHeartbeats 8000000
namespace Mine
noncomputable def oAt (K:Frag) (a:Addr):Obj:=(K.lookup a).getD ⟨.none,none,.plain,#[]⟩
noncomputable def fdAt (K:Frag) (a:Addr):FuncData:=match (oAt K a).data with | .func fd=>fd|_=>default
noncomputable def csAt (K:Frag) (c:Addr):Array Value:=match (oAt K c).data with | .fields vs=>vs|_=>#[]
noncomputable def tkAt (K:Frag) (c:Addr):Tok:=match ((csAt K c)[1]? : Option Value)with|some (.str _ t)=>t|_=>0
theorem ME {α β:Type} {l:List α} {x:α} (m:x∈l) {f g:α->β} (h:l.map f=l.map g):f x=g x:=List.map_inj_left.mp h x m
theorem v3n (l:tU) {n:Nat} (h:l.length=n):∃φ,l=(List.range n).map φ:=⟨_,h▸j3v l⟩
end Mine
end
noncomputable section
set_option tactic.hygienic false
open PySem.SeqAt
namespace Mine
section
variable {T:Tab}
section
theorem v4z (i:tI) (R:VRs cx g xs us) (h:(getP xs).bind (λ(x,y,z)=>v0w x y z Z)=some (v,Z')):tw (call (.builtin "dict.get") us) (PX cx g s Z' v) NoE s:=match xs,R,h with
 | [],_,h=>nope h
 | [_],_,h=>nope h
 | [_,_],R,h=>R.e2 (P:=λ us=>tw (call _ us) _ _ _) λ u w r q=>z2v q h λ k q h=>pxM h λ kvs e1=>PE.x (v0x i e1 r q)
 | [_,_,_],R,h=>R.e3 (P:=λ us=>tw (call _ us) _ _ _) λ u w t r q q'=>z2v q h λ k q h=>pxM h λ kvs e1=>PE.x (j5z i e1 r q q')
 | _::_::_::_::_,_,h=>nope h
theorem j7l (i:tI) (R:VRs cx g xs us) (h:(rngP xs).bind (λ(x,y)=>(intV x).bind λ a=>(intV y).bind λ b=>some (AV.rng a b,Z))=some (v,Z')):tw (call (.type "range") us) (PX cx g s Z' v) NoE s:=match xs,R,h with
 | [],_,h=>nope h
 | [_],R,h=>R.e1 (P:=λ us=>tw (call _ us) _ _ _) λ u r=>k5t r h λ b r h=>pxE h (PE.x (k7j i r))
 | [_,_],R,h=>R.e2 (P:=λ us=>tw (call _ us) _ _ _) λ u w r q=>k5t r h λ a r h=>k5t q h λ b q h=>pxE h (PE.x (k7k i r q))
 | _::_::_::_,_,h=>nope h
theorem v5h (i:tI) (r:VR cx g x u) {n:Nat} (h:lenA x Z=some n):tw (call (.builtin "len") [u]) (PE cx g s Z (.int n)) NoE s:=by
 unfold lenA at h
 generalize hl:q0i Z x=o at h
 induction o with
 | some xs=>obtain rfl:=zE h;exact z8e i hl r
 | none=>exact mapQ (show(q0l Z x).map (·.length)=some n from h) λ kvs hd e=>e▸z8d i hd r
end
theorem j9t (G:GlOk cx T) (n:Nat):BiOk cx n:=λ{b args Z v Z'} e A g s us hA i R=>by
 have hh:=hA.handled
 clear hA
 exact match b,e with
 | .lAppend,e=>k8p (Q:=λ us=>tw (call (.builtin "list.append") us) _ _ _) R e λ x y u w r q e=>k2k r e λ l r e=>q7s e λ xs hx e=>q0k e λ hz e=>pxE e (PE.x (k3r i hx hz r q))
 | .lPop,e=>w7o (Q:=λ us=>tw (call (.builtin "list.pop") us) _ _ _) R e λ x u r e=>k2k r e λ l r e=>q7s e λ xs hx e=>pxM e λ p hp=>PE.x (v2l i hx hp r)
 | .sJoin,e=>k8p (Q:=λ us=>tw (call (.builtin "str.join") us) _ _ _) R e λ x y u w r q e=>z2v r e λ c r e=>optE e λ xs e1 e=>optE e λ ts e2 e=>q0k e λ hz e=>pxE e (PE.x (j6k i e1 e2 hz r q))
 | .lSort,e=>w7o (Q:=λ us=>tw (call (.builtin "list.sort") us) _ _ _) R e λ x u r e=>k2k r e λ l r e=>q7s e λ xs hx e=>optE e λ ps hp e=>q0k e λ hz e=>pxE e (PE.x (j0s (z6v hp hz) i hx r))
 | .sSplit,e=>k8p (Q:=λ us=>tw (call (.builtin "str.split") us) _ _ _) R e λ x y u w r q e=>z2v r e λ c r e=>z2v q e λ d q e=>q0k e λ hc e=>pxE e (PE.x (j1t i hc.1 hc.2 r q))
 | .str,e=>w7o (Q:=λ us=>tw (call (.type "str") us) _ _ _) R e λ x u r e=>k5t r e λ k r e=>q0k e λ hz e=>pxE e (PE.x (v3l i hz r))
 | .dict,e=>w7o (Q:=λ us=>tw (call (.type "dict") us) _ _ _) R e λ x u r e=>optE e λ kvs hd e=>q0k e λ J e=>pxE e (PE.x (j5n G.mods i hd r))
 | .sRsplit,e=>j8h (Q:=λ us=>tw (call (.builtin "str.rsplit") us) _ _ _) R e λ x y z u w t r q q' e=>z2v r e λ c r e=>z2v q e λ d q e=>k5t q' e λ k q' e=>q0k e λ hc e=>pxE e (PE.x (k7n i hc.1 hc.2.1 hc.2.2 r q q'))
 | .dItems,e=>w7o (Q:=λ us=>tw (call (.builtin "dict.items") us) _ _ _) R e λ x u r e=>pxM e λ kvs e1=>PE.x (j0g i e1 r)
 | .dGet,e=>v4z i R e
 | .eAdd,e=>k8p (Q:=λ us=>tw (call (.builtin "set.add") us) _ _ _) R e λ x y u w r q e=>k2k r e λ l r e=>z2v q e λ k q e=>v6e e λ xs hx e=>q0k e λ hz e=>pxE e (PE.x (j9g i hx hz r q))
 | .len,e=>w7o (Q:=λ us=>tw (call (.builtin "len") us) _ _ _) R e λ x u r e=>pxM e λ n e1=>PE.x (v5h i r e1)
 | .sum,e=>w7o (Q:=λ us=>tw (call (.builtin "sum") us) _ _ _) R e λ x u r e=>optE e λ xs e1 e=>optE e λ is e2 e=>pxE e (v3m hh i e1 e2 r)
 | .range,e=>j7l i R e
 | .list,e=>w7o (Q:=λ us=>tw (call (.type "list") us) _ _ _) R e λ x u r e=>j6s hh i r e
 | .sorted,e=>w7o (Q:=λ us=>tw (call (.builtin "sorted") us) _ _ _) R e λ x u r e=>k8d hh i r e
 | .dUpdate,e=>k8p (Q:=λ us=>tw (call (.builtin "dict.update") us) _ _ _) R e λ x y u w r q e=>k2k r e λ l r e=>optE e λ kvs hx e=>optE e λ us hy e=>q0k e λ hz e=>pxE e (PE.x (k8q i (z7p hx) hy hz r q))
 | .set,e=>ifE e (λ hz e=>by
  obtain rfl:=List.isEmpty_iff.mp hz
  rw[R.of_nil]
  exact pxE e (PE.x (j7q i))) λ J e=>w7o (Q:=λ us=>tw (call (.type "set") us) _ _ _) R e λ x u r e=>optE e λ xs e1 e=>optE e λ ts e2 e=>q0k e λ hz e=>pxE e (z8u hh i e1 e2 hz r)
theorem sound (W:All cx T) (n:Nat):CfOk cx n (w1w T n):=z7i W (j9t W.gl) n
theorem k8h {x:Str} {v:AV} {u:Value} {A:Around} {E':Value->Shared->Prop} {Q:Unit->Shared->Prop} (i:Inv cx g Z { s with toks:=s.toks+1 }) (E:ER cx ks ns env g vs s) (k:ks.lookup x=some .local) (r:VR cx g v u)
  (h:∀s',Stp (ownK ks env) g s g s'->Inv cx g Z s'->ER cx ks ns env g (putV ns vs x v) s'->Q () s'):tw (storeName env x u) Q E' s:=by
 have hx:x∈ns:=E.mem x (.inl k)
 have hp:(env.scope.kind==.class||(env.scope.kind==.module&&env.locals !=env.globals))=false:=by rw[E.fn];rfl
 obtain⟨m,hm,hv⟩:=E.loc
 refine wpAny_storeName_local (w2d E k) hm (λ h' hn hs=>h _ (.write (Nat.le_succ _) (zL ..) hs (q7h hn)) (i.write (jZ _) E.locA.1 E.locA.2 hs) ?_) hp
 refine⟨E.fn,E.gl,E.bl,E.code,by rw[q9r];exact E.len,E.kinds,E.mem,⟨_,hn,λ y w ky e=>?_⟩,E.locA,λ y ky=>?_,E.apart⟩
 ·by_cases q:y=x
  ·cases q;rw[q2p E.len hx]at e;obtain rfl:=zE e;exact⟨u,by simp,r⟩
  ·rw[q1z hx q]at e;rcases _:hv y w ky e with⟨u',p,q'⟩;exact⟨u',by simp[q,p],q'⟩
 ·obtain⟨c,hc,c1,c2,c3,o,co,cv⟩:=E.cel y ky
  have q:y≠x:=λ z=>by subst z;rcases ky with ky|ky<;>(rw[k]at ky;contradiction)
  exact⟨c,hc,c1,c2,c3,o,co.sameBut hs c3,λ w e=>by rw[q1z hx q]at e;exact cv w e⟩
theorem k4a {P:PUnit->Shared->Prop} (f:Str×Value->PUnit->Sem (ForInStep PUnit)) (hf:∀n v u,f (n,v) u=(do storeName env n v;pure (.yield ⟨⟩))) {y:Str} {w:AV} {u:Value} (hy:ks.lookup y=some .local)
  (i:Inv cx g Z { s with toks:=s.toks+1 }) (E:ER cx ks ns env g vs s) (q:VR cx g w u) (h:∀s',Stp (ownK ks env) g s g s'->Inv cx g Z s'->ER cx ks ns env g (putV ns vs y w) s'->P ⟨⟩ s'):tw (forIn [(y,u)] ⟨⟩ f) P NoE s:=by
 rw[List.forIn_cons,hf]
 exact tG (tG (k8h i E hy q λ s₁ a1 i1 E1=>tJ (tJ (h s₁ a1 i1 E1))))
theorem k5o {sc:Scope} (S:ScOk sc) {qual:Str} {func:Option Addr} {code:Value} (hcd:w9d g code/\((sc.names.lookup ("resolved_names" : Str)).isSome=true->code = .ref cx.lc/\qual=cx.lq)) {y:Str} {w:AV} {u:Value} {P:Env->Shared->Prop} (hy:sc.names.lookup y=some .local) (i:Inv cx g Z { s with toks:=s.toks+1 }) (q:VR cx g w u)
  (h:∀env s',(∀b∈ownK sc.names env,s.heap.get? b=none)->Stp (ownK sc.names env) g s g s'->Inv cx g Z s'->ER cx sc.names (q0d sc) env g (putV (q0d sc) ((q0d sc).map λ J=>none) y w) s'->P env s') :
  tw (newFunctionEnv sc cx.gA [] [(y,u)] qual func code none cx.bA) P NoE s:=by
 have hn:=q0f s
 simp only[newFunctionEnv,Option.isSome_none,Bool.false_eq_true,if_false]
 refine tG (wpAny_alloc ?_)
 refine tG (wpAny_layCells _ (λ name kind cells=>by rcases hkc:kind==NameKind.cell<;>dsimp[hkc]) _ _ _ _ ?_)
 have ok:=cellsFrom_ok sc.names (s.heap.push { cls:=.type "frame",data:=.dict #[] }) (s.heap.objs.size+1) [] ⟨λ J J hm=>(nomatch hm),List.Pairwise.nil⟩ (by simp only[Heap.size_push];exact jZ _)
 have k:∀b o,s.heap.get? b=some o->(pushCells (s.heap.push { cls:=.type "frame",data:=.dict #[] }) sc.names).get? b=some o:=λ b o e=>pushCells_keeps _ _ b o (Heap.get?_push_of_some _ e)
 have hns:(pushCells (s.heap.push { cls:=.type "frame",data:=.dict #[] }) sc.names).Ns tH (λ J=>none):=(Heap.Ns.new s.heap (.type "frame")).keeps (pushCells_keeps _ _)
 have hbig:∀{b:Addr},s.heap.objs.size<=b->s.heap.get? b=none:=λ{b} hb=>by
  generalize q:s.heap.get? b=zzy
  induction zzy with
  | none=>rfl
  | some o=>exact absurd (Heap.lt_size q) (Nat.not_lt.mpr hb)
 generalize hcs:cellsFrom (s.heap.push { cls:=.type "frame",data:=.dict #[] }).objs.size sc.names []=cs at ok
 generalize hh:pushCells (s.heap.push { cls:=.type "frame",data:=.dict #[] }) sc.names=hp at ok k hns
 have a0:Stp [] g s g { s with heap:=hp }:=.keeps (t:=s.toks) (jZ _) k
 have i0:Inv cx g Z { s with heap:=hp,toks:=s.toks+1 }:=i.keep (t:=s.toks+1) (jZ _) k
 let env:Env:={ scope:=sc,locals:=tH,globals:=cx.gA,cells:=cs,qual:=qual,func:=func,code:=code,frame:=some tH,builtins:=cx.bA }
 have E0:ER cx sc.names (q0d sc) env g ((q0d sc).map λ J=>none) { s with heap:=hp }:=by
  refine⟨S.kind,rfl,rfl,hcd,by simp,λ x=>.inl rfl,λ x hx=>?_,⟨_,hns,λ x v J e=>by rw[q8s]at e;contradiction⟩,⟨(i.fresh hn).2,(i.fresh hn).1⟩,λ x hx=>?_,λ x y c hx hy=>?_⟩
  ·skip
   rcases hx with hx|hx
   ·exact List.mem_map.mpr ⟨_,List.mem_filter.mpr ⟨mem_of_lookup hx,by rfl⟩,rfl⟩
   ·exact List.mem_map.mpr ⟨_,List.mem_filter.mpr ⟨mem_of_lookup hx,by rfl⟩,rfl⟩
  ·rcases hx with hx|hx
   ·obtain⟨c,hc⟩:=q2g sc.names (s.heap.push { cls:=.type "frame",data:=.dict #[] }).objs.size [] x (.inl (mem_of_lookup hx))
    rw[hcs]at hc
    obtain⟨o1,o2⟩:=ok.empty x c (mem_of_lookup hc)
    have hb:=hbig (b:=c) (zB o2)
    exact⟨c,hc,(i.fresh hb).2,(i.fresh hb).1,(Nat.ne_of_lt o2).symm,none,o1,λ v e=>by rw[q8s]at e;contradiction⟩
   ·exact absurd rfl (S.free _ (mem_of_lookup hx))
  ·exact name_of_addr ok.apart (mem_of_lookup hx) (mem_of_lookup hy)
 refine tG (k4a (env:=env) _ (λ J J J=>rfl) hy i0 E0 q λ s₁ a1 i1 E1=>tJ (h env s₁ (λ b hb=>?_) (a0.own.trans a1) i1 E1))
 rcases List.mem_cons.mp hb with rfl|hb
 ·exact hn
 ·rcases _:List.mem_filterMap.mp hb with⟨⟨y,kk⟩,_,e⟩
  split at e
  ·exact hbig (zB (ok.empty y b (mem_of_lookup e)).2)
  ·contradiction
theorem v3p (W:All cx T) (n:Nat) {a:Addr} {f:Fn} {y:Str} {w:AV} (e1:T.fn.lookup a=some f) (hf:f.pars=[y]) (hkw:f.kwd=[]) (hdf:f.dfl=[]) (hks:f.kws=[[]]) (hy:f.scope.names.lookup y=some .local)
  (e:w1w T (n+1) a [w] [] Z=some (v,Z')) (hA:z0i (n+1) A) (i:Inv cx g Z { s with toks:=s.toks+1 }) (q:VR cx g w u) :
  codeAny cx.M A (.call (.ref a) ⟨[u],[]⟩) (λ r s'=>match r with | .ok (.ret u)=>PX cx g s Z' v u s' | _=>False) s:=by
 have R:=k5k W (j9t W.gl n) (k0i (T:=T) (sound W n)) 40
 rcases _:bind_some e with⟨f',e1',e⟩
 rw[e1]at e1'
 obtain rfl:=zE e1'
 obtain⟨bs,e2,e⟩:=bind_some e
 rcases _:bind_some e with⟨⟨fl,vs',Z1⟩,e3,e⟩
 rcases _:W.fn.fn a f e1 with⟨o,fd,ho,hd,hb,hsc,S,hg,hbl,hcl,hcode,_,_,hlam,hst,B⟩
 have room:A.depth<recursionLimit:=hA.droom
 have hbs:bs=[(y,w)]:=by
  have:k3y f [w] []=some [(y,w)]:=by
   unfold k3y
   simp only[hf,hkw,hdf,hks]
   rfl
  rw[this]at e2
  exact(zE e2).symm
 subst hbs
 refine codeAny_call_function room (i.keeps0 _ _ ho) hd (by rw[hsc];exact S.co) (by rw[hsc];exact S.gen) hb (hcode.keeps i.keeps0) (k3z (s:=s) (A:=A.in1) (kws:=[]) (uk:=[]) B (show cx.K.In s.heap from W.fn.X.keeps i.keeps0) e2 i.base (.cons q .nil) .nil λ ws qw=>?_)
 rw[hsc,hg,hbl,hcl]
 rcases _:VRs.uncons (show VRs cx g (w::[]) ws from qw)with⟨w',r',rfl,q',qn⟩
 obtain rfl:=qn.of_nil
 refine k5o S ⟨let ⟨c,o,fs,_,h1,h2,h3,_⟩:=hcode;⟨c,o,fs,h1,i.base _ _ h2,h3⟩,hlam⟩ hy i q' λ env s₁ hown a1 i1 E1=>⟨W.fn.lim.keeps i1.keeps0,codeAny_func ?_⟩
 have hA':AOk n (A.deeper env):=hA.deep env
 (refine wpAny_mono (q6g R.s hA' i1 E1 e3) (λ ff s₂ zz0=>?_) λ J J x=>x.elim;obtain⟨g2,a2,i2,E2,r2⟩:=zz0)
 have a12:=(a1.trans a2).fresh hown
 induction fl with
 | next=>rw[(q0h e).1,(q0h e).2];subst r2;exact⟨g2,a12,i2,.none_⟩
 | ret w=>rw[(q0h e).1,(q0h e).2];obtain⟨u,rfl,r3⟩:=r2;exact⟨g2,a12,i2,r3⟩
end
end Mine
end
noncomputable section
set_option tactic.hygienic false
set_option maxHeartbeats 8000000
namespace Mine
theorem w1y (h:Heap) (a:Addr):(erase h a).get? a=none:=by
 dsimp only[erase,Heap.get?]
 by_cases q:a<h.objs.size<;>simp[q]
theorem w0r (h:Heap) {a b:Addr} (hb:a≠b):(erase h a).get? b=h.get? b:=by
 dsimp only[erase,Heap.get?]
 simp only[Array.getElem?_setIfInBounds_ne hb]
theorem z3u {h:Heap} {a b:Addr} {o:Obj} (e:(erase h a).get? b=some o):h.get? b=some o:=by
 by_cases q:a=b
 ·subst q;rw[w1y]at e;cases e
 ·rw[w0r h q]at e;exact e
section
variable {K:Frag} {h:Heap}
theorem q8p (KX:K.In h) (k:K.lookup 123=none):K.In (erase h 123):=λ a o e=>by
 have hne:(123:Addr)≠a:=λ q=>by rw[<-q,k]at e;cases e
 rw[w0r h hne]
 exact KX a o e
theorem z1p {a:Addr} {m:Str->Option Value} (hn:h.Ns a m) (ha:(123:Addr)≠a):(erase h 123).Ns a m:=by
 rcases _:hn with⟨o,es,ep,e,r⟩
 exact⟨o,es,ep,(w0r h ha).trans e,r⟩
theorem z4z (X:K.In h) {a:Addr} {m:Str->Option Value} (hn:h.Ns a m) (ho:K.lookup a=some (oAt K a)) {x:Str} {r:Option Value} (e:lookIn x (oAt K a)=some r):m x=r:=by
 rcases _:k6x hn with⟨o,e1,e2⟩
 rw[X _ _ ho]at e1
 obtain rfl:=zE e1
 rw[e2 x]at e
 exact zE e
end
noncomputable def kn:Nat->AV
 | 0=>.none
 | 1=>.bool false
 | _=>.bm .sJoin (.str "")
noncomputable def vn:Nat->Value
 | 0=>.none
 | 1=>.bool false
 | _=>.ref 98
noncomputable def dcs (a:Addr):List Nat:=(List.lookup a [(90,[0]),(106,[2]),(126,[0])]).getD []
noncomputable def kcs (a:Addr):List Nat:=(List.lookup a [(67,[1,1,1,0,0,0,0])]).getD []
theorem j4h {g:G} (h:∀n,VR cx g (kn n) (vn n)):∀l:List Nat,VRs cx g (l.map kn) (l.map vn)
 | []=>.nil
 | n::l=>.cons (h n) (j4h h l)
end Mine
end
noncomputable section
set_option tactic.hygienic false
set_option backward.match.sparseCases false
namespace Mine
noncomputable def bnd {α β:Type} (m:Option (α×Store)) (f:α->Store->Option β):Option β:=m.bind λ p=>f p.1 p.2
noncomputable def w2g (vs:Vs) (k:Nat):Option AV:=match vs[k]? with|some (some v)=>some v|_=>none
noncomputable def setI (vs:Vs) (k:Nat) (v:AV):Vs:=vs.set k (some v)
def nm (vs:Vs) (k:Nat) (Z:Store):Res:=(w2g vs k).map λ v=>(norm v,Z)
def andE (m:Res) (rest:Store->Res):Res:=bnd m λ v Z=>(q3x Z v).bind λ b=>match BoolOp.And,b with | .And,false=>some (v,Z) | .Or,true=>some (v,Z)|_,_=>rest Z
abbrev ResT:=Option (Bool×Store)
noncomputable def andT (m:ResT) (rest:Store->ResT):ResT:=bnd m λ b Z=>match BoolOp.And,b with | .And,false=>some (false,Z) | .Or,true=>some (true,Z)|_,_=>rest Z
noncomputable def orT (m:ResT) (rest:Store->ResT):ResT:=bnd m λ b Z=>match BoolOp.Or,b with | .And,false=>some (false,Z) | .Or,true=>some (true,Z)|_,_=>rest Z
def notE (m:Res):Res:=bnd m λ x Z=>(q3x Z x).bind λ b=>some (.bool (!b),Z)
def negE (m:Res):Res:=bnd m λ x Z=>(intV x).bind λ i=>some (.int (-i),Z)
noncomputable def notT (m:ResT):ResT:=bnd m λ b Z=>some (!b,Z)
def binR (Z:Store) (op:Operator) (x y:AV):Res:=(binA Z op x y).bind λ v=>some (v,Z)
def cmpR (Z:Store) (op:CmpOp) (x y:AV):Res:=(cmpA Z op x y).bind λ v=>some (.bool v,Z)
def cmpT (Z:Store) (op:CmpOp) (x y:AV):ResT:=(cmpA Z op x y).bind λ v=>some (v,Z)
def trT (Z:Store) (x:AV):ResT:=(q3x Z x).bind λ b=>some (b,Z)
noncomputable def evC (m:Res) (rest:Store->Option (List AV×Store)):Option (List AV×Store):=bnd m λ v Z=>bnd (rest Z) λ xs Z=>some (v::xs,Z)
noncomputable def kwC (n:Str) (m:Res) (rest:Store->Option (List (Str×AV)×Store)):Option (List (Str×AV)×Store):=bnd m λ v Z=>bnd (rest Z) λ xs Z=>some ((n,v)::xs,Z)
noncomputable def q2h (acc:tW) (m:Res):Option (List AV×Store):=bnd m λ v Z=>if acc.length<sizeLine then some (acc++[v],Z)else none
def z3q (acc:tC) (x y:AV) (Z:Store):Option (List (Str×AV)×Store):=(strV x).bind λ s=>if acc.length<sizeLine then some (q0x s y acc,Z)else none
def j5m (x y:AV) (Z:Store) (rest:Store->Option (List (Str×AV)×Store)):Option (List (Str×AV)×Store):=(strV x).bind λ s=>bnd (rest Z) λ r Z=>some ((s,y)::r,Z)
def set2 (mu:Bool) (x y:AV) (Z:Store):Res:=(strV x).bind λ s=>(q0l Z y).bind λ kvs=>if kvs.length<=3 then j0w mu (q0o [s] (kvs.map (·.1))) Z else none
def w3l (Z:Store) (x l h t:AV):Res:=(k7w Z x l h t).bind λ v=>some (v,Z)
def getR (Z:Store) (x y:AV):Res:=(getA Z x y).bind λ v=>some (norm v,Z)
noncomputable def q1m (acc:Str) (Z:Store):Option (Str×Store):=if acc.length<=sizeLine then some (acc,Z)else none
def q6j (acc:Str) (x:AV) (k:Str->Option (Str×Store)):Option (Str×Store):=(fmtV x).bind λ s=>(catA acc s).bind k
def q9s (x:AV) (p q:Str) (Z:Store):Res:=(strV x).bind λ s=>if p≠q/\s.length+(s.length+1) * q.length<=sizeLine then some (.str (PySem.Txt.replace s p q),Z)else none
def k7m (x:AV) (p q:Option Str) (Z:Store):Res:=(strV x).bind λ s=>p.bind λ p=>q.bind λ q=>if p≠q/\s.length+(s.length+1) * q.length<=sizeLine then some (.str (PySem.Txt.replace s p q),Z)else none
def putS (u y v:AV) (vs:Vs) (Z:Store):Option (Vs×Store):=(locV u).bind λ l=>(strV y).bind λ k=>(z0w Z l).bind λ kvs=>if kvs.length<sizeLine then some (vs,Z.set l (.dict (q0x k v kvs)))else none
def goT (x:AV):Bool:=goOk x (.Tuple [] 0 ⟨0,0,0,0⟩)
def goN (x:AV):Bool:=goOk x (.Name "" ⟨0,0,0,0⟩)
def delR (v:AV) (vs:Vs) (Z:Store):ResS:=(locV v).bind λ l=>(q1f Z l).bind λ J=>some (.next,vs,Z.set l (.list []))
noncomputable def sq (m:ResS) (k:Vs->Store->ResS):ResS:=m.bind λ p=>match p.1 with
 | .next=>k p.2.1 p.2.2
 | .ret v=>some (.ret v,p.2.1,p.2.2)
end Mine
end
noncomputable section
set_option tactic.hygienic false
set_option backward.match.sparseCases false
set_option maxHeartbeats 4000000
namespace Mine
abbrev Pf (α:Type):=q0b->Vs->Store->Option (α×Store)
abbrev Sx:=q0b->Vs->Store->ResS
section
variable {β:Type} (k j:Nat) (b:Bool) (n:Str) (o:CmpOp) (p:Operator) (a:AV) (E F G H:Pf AV) (P Q:Pf Bool) (L:Pf tW) (V:Pf Vs) (A B:Sx) (X Y:q0b->Vs->Store->Option β) (l:q0b->AV->Vs->Store->ResS) (C:q0b) (vs:Vs) (Z:Store) (f:Vs->Store->Option β)
def jA:ResS:=bnd (E C vs Z) λ z Z=>bnd (bnd (some (setI vs k z,Z)) λ vs Z=>some (vs,Z)) λ vs Z=>some (q1c.next,vs,Z)
def jB:ResS:=bnd (E C vs Z) λ z Z=>bnd (bnd (bnd (nm vs 0 Z) λ y Z=>((q3z T Z y n z).bind λ w=>some (vs,w))) λ vs Z=>some (vs,Z)) λ vs Z=>some (q1c.next,vs,Z)
def jO:ResS:=bnd (E C vs Z) λ z Z=>bnd (bnd ((q1g Z z).bind λ y=>asC y λ a b=>bnd (some (setI vs k a,Z)) λ vs Z=>asC b λ a b=>bnd (some (setI vs j a,Z)) λ vs Z=>asE b vs Z) λ vs Z=>some (vs,Z)) λ vs Z=>some (q1c.next,vs,Z)
def jD:ResS:=bnd (V C vs Z) λ vs Z=>some (q1c.next,vs,Z)
def jr:ResS:=bnd (E C vs Z) λ z Z=>some (q1c.ret z,vs,Z)
def jC:ResS:=bnd (E C vs Z) λ J Z=>some (q1c.next,vs,Z)
def jI:Option β:=bnd (P C vs Z) λ z Z=>if z=true then X C vs Z else Y C vs Z
noncomputable def jN (_:q0b) (vs:Vs) (Z:Store):ResS:=some (q1c.next,vs,Z)
def jE:ResS:=sq (A C vs Z) λ vs Z=>some (q1c.next,vs,Z)
def jS:ResS:=sq (A C vs Z) λ vs Z=>B C vs Z
def jM:Res:=bnd (E C vs Z) λ z Z=>(q7n T Z z n).bind λ y=>bnd (L C vs Z) λ z Z=>bnd (some ([],Z)) λ w Z=>w4k T C y z w Z
def jF:Res:=bnd (E C vs Z) λ z Z=>bnd (L C vs Z) λ y Z=>bnd (some ([],Z)) λ w Z=>q7i T C z y w Z
def j1:Option (List AV×Store):=evC (E C vs Z) λ Z=>some ([],Z)
def jc:Option (List AV×Store):=evC (E C vs Z) λ Z=>L C vs Z
def jG:Res:=bnd (E C vs Z) λ z Z=>j9k Z z n
def jT:ResT:=bnd (E C vs Z) λ z Z=>trT Z z
def jQ:ResT:=bnd (E C vs Z) λ z Z=>bnd (F C vs Z) λ y Z=>cmpT Z o z y
def jP:Res:=bnd (E C vs Z) λ z Z=>bnd (F C vs Z) λ y Z=>binR Z p z y
def jR:Res:=bnd (E C vs Z) λ z Z=>bnd (F C vs Z) λ y Z=>getR Z z y
def jU:Res:=bnd (E C vs Z) λ z Z=>bnd (F C vs Z) λ y Z=>bnd (G C vs Z) λ w Z=>bnd (H C vs Z) λ v Z=>w3l Z z y w v
def jL:Res:=bnd (L C vs Z) λ z Z=>if z.length<=sizeLine then q0w b z Z else none
def jV:Res:=bnd (L C vs Z) λ z Z=>if z.length<=sizeLine then some (.tup z,Z)else none
def jl:ResS:=bnd (E C vs Z) λ z Z=>if frozen z=true then(q5s Z z).bind λ y=>forA (l C) y vs Z else none
def jX:ResT:=andT (P C vs Z) λ Z=>Q C vs Z
def jY:ResT:=orT (P C vs Z) λ Z=>Q C vs Z
def jt:ResT:=notT (P C vs Z)
def jg:Res:=negE (E C vs Z)
def jW:Option β:=bnd (some (setI vs k a,Z)) f
end
noncomputable def jy (s:Str) (_:q0b) (_:Vs) (Z:Store):Res:=some (.str s,Z)
noncomputable def ji (k:Int) (_:q0b) (_:Vs) (Z:Store):Res:=some (.int k,Z)
def jn (k:Nat) (_:q0b) (vs:Vs) (Z:Store):Res:=nm vs k Z
noncomputable def jk {α:Type} (a:α) (_:q0b) (_:Vs) (Z:Store):Option (α×Store):=some (a,Z)
def w7w:Sx:=
 jO 2 3 (jI (jQ .Eq (jU (jn 1) (jk .none) (ji 1) (jk .none)) (jy "{")) (jM "rsplit" (jU (jn 1) (ji 1) (jk .none) (jk .none)) (jc (jy "}") (j1 (ji 1)))) (jV (jc (jy "") (j1 (jn 1)))))
def z5r:Sx:=
 jE w7w
def w7x:Sx:=
 jA 3 (jn 1)
noncomputable def z5s:Sx:=
 jE w7x
def q6s:Sx:=
 jI (jQ .Is (jn 2) (jk .none)) z5r z5s
noncomputable def w0z:Sx:=
 jA 4 (jF (jk (.bf .set)) (jk []))
def w7y:Sx:=
 jr (jV (jc (jI (jT (jn 6)) (λ J vs Z=>bnd (bnd (nm vs 6 Z) λ a Z=>q6j Str.empty a λ a=>(catA a ":").bind λ a=>bnd (nm vs 3 Z) λ b Z=>q6j a b λ a=>q1m a Z) λ a Z=>some (.str a,Z)) (jn 3)) (jc (jn 3) (j1 (jn 2)))))
def q7v:Sx:=
 jE w7y
def z9a:Sx:=
 jI (jX (jQ .Eq (jn 5) (jn 2)) (jX (jQ .NotIn (jn 6) (jn 4)) (jk true))) q7v jN
noncomputable def w0b:Sx:=
 jC (jM "add" (jn 4) (j1 (jn 6)))
def w1m (C:q0b) (x:AV) (vs:Vs) (Z:Store):ResS:=
 bnd ((q1g Z x).bind λ a=>asC a λ a b=>jW 5 a vs Z λ vs Z=>asC b λ a b=>jW 6 a vs Z λ vs Z=>asE b vs Z) λ vs Z=>jS z9a (jE w0b) C vs Z
def w1a:Sx:=
 jl (jM "_iter_namespaces" (jn 0) (j1 (jG "_declared_ns_stack" (jn 0)))) w1m
def w8c:Sx:=
 jA 6 (jR (jG "_prefix_map" (jn 0)) (jn 2))
def z5u:Sx:=
 jE w8c
def w8d:Sx:=
 λ C vs Z=>bnd (bnd ((catA Str.empty "n").bind λ a=>bnd (jF (jk (.bf .len)) (j1 (jG "_prefix_map" (jn 0))) C vs Z) λ b Z=>q6j a b λ a=>q1m a Z) λ a Z=>some (.str a,Z)) λ a Z=>jD (λ C vs Z=>jW 6 a vs Z λ vs Z=>bnd (bnd (jG "_prefix_map" (jn 0) C vs Z) λ b Z=>bnd (nm vs 2 Z) λ c Z=>putS b c a vs Z) λ vs Z=>some (vs,Z)) C vs Z
noncomputable def z5v:Sx:=
 jE w8d
def w7z:Sx:=
 jI (jQ .In (jn 2) (jG "_prefix_map" (jn 0))) z5u z5v
def w8a:Sx:=
 jC (jM "append" (jR (jG "_declared_ns_stack" (jn 0)) (jg (ji 1))) (j1 (jV (jc (jn 2) (j1 (jn 6))))))
def w8b:Sx:=
 jr (jV (jc (λ J vs Z=>bnd (bnd (nm vs 6 Z) λ a Z=>q6j Str.empty a λ a=>(catA a ":").bind λ a=>bnd (nm vs 3 Z) λ b Z=>q6j a b λ a=>q1m a Z) λ a Z=>some (.str a,Z)) (jc (jn 3) (j1 (jn 2)))))
def z5t:Sx:=
 jS w7z (jS w8a (jE w8b))
def z1z:Sx:=
 jI (jT (jG "_rewrite_prefixes" (jn 0))) z5t jN
def w8e:Sx:=
 jr (jV (jc (jn 3) (jc (jn 3) (j1 (jn 2)))))
noncomputable def q7w:Sx:=
 jE w8e
def z2a:Sx:=
 jI (jX (jt (jT (jn 2))) (jX (jQ .NotIn (jy "") (jn 4)) (jk true))) q7w jN
def w8f:Sx:=
 jC (jM "append" (jR (jG "_declared_ns_stack" (jn 0)) (jg (ji 1))) (j1 (jV (jc (jn 2) (j1 (jn 6))))))
def q5o:Sx:=
 jr (jV (jc (jI (jT (jn 6)) (λ J vs Z=>bnd (bnd (nm vs 6 Z) λ a Z=>q6j Str.empty a λ a=>(catA a ":").bind λ a=>bnd (nm vs 3 Z) λ b Z=>q6j a b λ a=>q1m a Z) λ a Z=>some (.str a,Z)) (jn 3)) (jc (jn 3) (j1 (jn 2)))))
noncomputable def q2k:Sx:=
 jS w8f (jE q5o)
def z9b:Sx:=
 jI (jQ .Eq (jn 5) (jn 2)) q2k jN
def w1n (C:q0b) (x:AV) (vs:Vs) (Z:Store):ResS:=
 bnd ((q1g Z x).bind λ a=>asC a λ a b=>jW 5 a vs Z λ vs Z=>asC b λ a b=>jW 6 a vs Z λ vs Z=>asE b vs Z) λ vs Z=>jE z9b C vs Z
def z2b:Sx:=
 jl (jM "_iter_namespaces" (jn 0) (j1 (jG "_ns_stack" (jn 0)))) w1n
def w8g:Sx:=
 jr (jV (jc (jn 3) (jc (jn 3) (j1 (jn 2)))))
def q7x:Sx:=
 jE w8g
def z2c:Sx:=
 jI (jt (jT (jn 2))) q7x jN
noncomputable def z2d:Sx:=
 λ J J J=>none
def w3f (C:q0b) (vs:Vs) (Z:Store):ResS:=
 sq (z2d C vs Z) λ vs Z=>some (q1c.next,vs,Z)
def q3k (C:q0b) (vs:Vs) (Z:Store):ResS:=
 sq (z2c C vs Z) λ vs Z=>w3f C vs Z
def q5a (C:q0b) (vs:Vs) (Z:Store):ResS:=
 sq (z2b C vs Z) λ vs Z=>q3k C vs Z
def q7y (C:q0b) (vs:Vs) (Z:Store):ResS:=
 sq (z2a C vs Z) λ vs Z=>q5a C vs Z
def q4z (C:q0b) (vs:Vs) (Z:Store):ResS:=
 sq (z1z C vs Z) λ vs Z=>q7y C vs Z
def z5y (C:q0b) (vs:Vs) (Z:Store):ResS:=
 sq (w1a C vs Z) λ vs Z=>q4z C vs Z
def w3e (C:q0b) (vs:Vs) (Z:Store):ResS:=
 sq (w0z C vs Z) λ vs Z=>z5y C vs Z
def z5x (C:q0b) (vs:Vs) (Z:Store):ResS:=
 sq (q6s C vs Z) λ vs Z=>w3e C vs Z
noncomputable def w5w:Sx:=
 z5x
theorem z5w (C:q0b) (vs:Vs) (Z:Store):q1b (evN T C 40) (fnOf 90).scope.names (q0d (fnOf 90).scope) (fnOf 90).body vs Z=w5w C vs Z:=by kernel_rfl
def z2k:Sx:=
 jE (jI (jt (jT (jG "_ignored_depth" (jn 0)))) (jE (jC (jM "append" (jG "_data" (jn 0)) (j1 (jn 1))))) jN)
theorem k2q (C:q0b) (vs:Vs) (Z:Store):q1b (evN T C 40) (fnOf 97).scope.names (q0d (fnOf 97).scope) (fnOf 97).body vs Z=z2k C vs Z:=by kernel_rfl
noncomputable def z1u:Sx:=
 jA 2 (jF (jn 1) (j1 (jG "_data" (jn 0))))
def z1v:Sx:=
 λ C vs Z=>bnd (jG "_data" (jn 0) C vs Z) λ a Z=>delR a vs Z
def w7p:Sx:=
 jA 2 (jM "strip" (jn 2) (jk []))
def z5j:Sx:=
 jE w7p
def z1w:Sx:=
 jI (jX (jT (jG "_strip_text" (jn 0))) (jX (jt (jT (jR (jG "_preserve_space" (jn 0)) (jg (ji 1))))) (jk true))) z5j jN
def w7q:Sx:=
 λ C vs Z=>bnd (jV (jc (jG "_pending_start" (jn 0)) (j1 (jk .none))) C vs Z) λ a Z=>jD (λ J vs Z=>bnd ((q1g Z a).bind λ a=>asC a λ a b=>jW 3 a vs Z λ vs Z=>asC b λ a b=>bnd (bnd (nm vs 0 Z) λ b Z=>(q3z T Z b "_pending_start" a).bind λ a=>some (vs,a)) λ vs Z=>asE b vs Z) λ vs Z=>some (vs,Z)) C vs Z
def w7r:Sx:=
 jA 4 (jI (jX (jT (jn 2)) (jX (jT (jF (λ J J J=>none) (j1 (jn 2)))) (jk true))) (jn 2) (jk .none))
noncomputable def w7s:Sx:=
 jC (jM "_start" (jn 0) (λ J J J=>none))
noncomputable def w7u:Sx:=
 λ J vs Z=>some (q1c.ret .none,vs,Z)
def z5l:Sx:=
 jE w7u
def w7t:Sx:=
 jI (jQ .IsNot (jn 4) (jk .none)) z5l jN
def z5k:Sx:=
 jS w7q (jS w7r (jS w7s (jE w7t)))
def z1x:Sx:=
 jI (jQ .IsNot (jG "_pending_start" (jn 0)) (jk .none)) z5k jN
noncomputable def w7v:Sx:=
 jC (jM "_write" (jn 0) (j1 (jF (jk (.fn 161)) (j1 (jn 2)))))
def w3d:Sx:=
 jE w7v
noncomputable def z1y:Sx:=
 jI (jX (jT (jn 2)) (jX (jT (jG "_root_seen" (jn 0))) (jk true))) w3d jN
def z5q (C:q0b) (vs:Vs) (Z:Store):ResS:=
 sq (z1y C vs Z) λ vs Z=>some (q1c.next,vs,Z)
def z5p (C:q0b) (vs:Vs) (Z:Store):ResS:=
 sq (z1x C vs Z) λ vs Z=>z5q C vs Z
def z5o (C:q0b) (vs:Vs) (Z:Store):ResS:=
 sq (z1w C vs Z) λ vs Z=>z5p C vs Z
def q7t (C:q0b) (vs:Vs) (Z:Store):ResS:=
 sq (z1v C vs Z) λ vs Z=>z5o C vs Z
def z5n (C:q0b) (vs:Vs) (Z:Store):ResS:=
 sq (z1u C vs Z) λ vs Z=>q7t C vs Z
noncomputable def w5u:Sx:=
 z5n
theorem z5m (C:q0b) (vs:Vs) (Z:Store):q1b (evN T C 40) (fnOf 106).scope.names (q0d (fnOf 106).scope) (fnOf 106).body vs Z=w5u C vs Z:=by kernel_rfl
noncomputable def w3t:Sx:=
 λ J vs Z=>some (q1c.ret .none,vs,Z)
def w8x:Sx:=
 jE w3t
def w6r:Sx:=
 jI (jT (jG "_ignored_depth" (jn 0))) w8x jN
noncomputable def w3u:Sx:=
 jC (jM "_flush" (jn 0) (jk []))
def q5p:Sx:=
 jE w3u
noncomputable def w6s:Sx:=
 jI (jT (jG "_data" (jn 0))) q5p jN
def w6t:Sx:=
 jC (jM "append" (jR (jG "_ns_stack" (jn 0)) (jg (ji 1))) (j1 (jV (jc (jn 2) (j1 (jn 1))))))
def q5q (C:q0b) (vs:Vs) (Z:Store):ResS:=
 sq (w6t C vs Z) λ vs Z=>some (q1c.next,vs,Z)
def w9a (C:q0b) (vs:Vs) (Z:Store):ResS:=
 sq (w6s C vs Z) λ vs Z=>q5q C vs Z
def w8z (C:q0b) (vs:Vs) (Z:Store):ResS:=
 sq (w6r C vs Z) λ vs Z=>w9a C vs Z
noncomputable def q7f:Sx:=
 w8z
theorem w8y (C:q0b) (vs:Vs) (Z:Store):q1b (evN T C 40) (fnOf 113).scope.names (q0d (fnOf 113).scope) (fnOf 113).body vs Z=q7f C vs Z:=by kernel_rfl
def z2l:Sx:=
 λ J vs Z=>bnd (nm vs 0 Z) λ a Z=>(q6h T Z a "_ignored_depth").bind λ b=>bnd (some (.int 1,Z)) λ c Z=>(augA .Add (norm b) c).bind λ b=>(q3z T Z a "_ignored_depth" b).bind λ a=>some (q1c.next,vs,a)
noncomputable def z2m:Sx:=
 λ J vs Z=>some (q1c.ret .none,vs,Z)
noncomputable def w0c:Sx:=
 jS z2l (jE z2m)
def z6o:Sx:=
 jI (jX (jQ .IsNot (jG "_exclude_tags" (jn 0)) (jk .none)) (jX (jY (jT (jG "_ignored_depth" (jn 0))) (jY (jQ .In (jn 1) (jG "_exclude_tags" (jn 0))) (jk false))) (jk true))) w0c jN
noncomputable def z2n:Sx:=
 jC (jM "_flush" (jn 0) (jk []))
def w0d:Sx:=
 jE z2n
noncomputable def z6p:Sx:=
 jI (jT (jG "_data" (jn 0))) w0d jN
noncomputable def z6q:Sx:=
 jA 3 (jL true (jk []))
def z6r:Sx:=
 jC (jM "append" (jG "_declared_ns_stack" (jn 0)) (j1 (jn 3)))
def z2o:Sx:=
 jB "_pending_start" (jV (jc (jn 1) (jc (jn 2) (j1 (jn 3)))))
noncomputable def z2p:Sx:=
 λ J vs Z=>some (q1c.ret .none,vs,Z)
def z9c:Sx:=
 jS z2o (jE z2p)
def z6s:Sx:=
 jI (jX (jQ .IsNot (jG "_qname_aware_tags" (jn 0)) (jk .none)) (jX (jQ .In (jn 1) (jG "_qname_aware_tags" (jn 0))) (jk true))) z9c jN
noncomputable def z6t:Sx:=
 jC (jM "_start" (jn 0) (jc (jn 1) (jc (jn 2) (j1 (jn 3)))))
def w0h (C:q0b) (vs:Vs) (Z:Store):ResS:=
 sq (z6t C vs Z) λ vs Z=>some (q1c.next,vs,Z)
def w0g (C:q0b) (vs:Vs) (Z:Store):ResS:=
 sq (z6s C vs Z) λ vs Z=>w0h C vs Z
def w0f (C:q0b) (vs:Vs) (Z:Store):ResS:=
 sq (z6r C vs Z) λ vs Z=>w0g C vs Z
def w0e (C:q0b) (vs:Vs) (Z:Store):ResS:=
 sq (z6q C vs Z) λ vs Z=>w0f C vs Z
def q4t (C:q0b) (vs:Vs) (Z:Store):ResS:=
 sq (z6p C vs Z) λ vs Z=>w0e C vs Z
def z9e (C:q0b) (vs:Vs) (Z:Store):ResS:=
 sq (z6o C vs Z) λ vs Z=>q4t C vs Z
def q9c:Sx:=
 z9e
theorem z9d (C:q0b) (vs:Vs) (Z:Store):q1b (evN T C 40) (fnOf 120).scope.names (q0d (fnOf 120).scope) (fnOf 120).body vs Z=q9c C vs Z:=by kernel_rfl
def q3l (C:q0b) (x:AV) (d:Vs×List (Str×AV)) (Z:Store):Option ((Vs×List (Str×AV))×Store):=
 bnd ((q1g Z x).bind λ a=>asC a λ a b=>bnd (some (setI d.1 1 a,Z)) λ vs Z=>asC b λ a b=>jW 2 a vs Z λ vs Z=>asE b vs Z) λ vs Z=>jI (jI (jQ .NotIn (jn 1) (jG "_exclude_attrs" (jn 3))) (jk true) (jk false)) (λ J vs Z=>bnd (bnd (nm vs 1 Z) λ a Z=>bnd (nm vs 2 Z) λ b Z=>z3q d.2 a b Z) λ a Z=>some ((vs,a),Z)) (jk (vs,d.2)) C vs Z
def w8h:Sx:=
 jA 2 (λ C vs Z=>bnd (bnd (jM "items" (jn 2) (jk []) C vs Z) λ a Z=>bnd (if(!(goT a))=true then none else q0s a (q3l C) (none::none::none::vs,[]) Z) λ a Z=>some (a.2,Z)) λ a Z=>q2j false a Z)
noncomputable def q8a:Sx:=
 jE w8h
def q4d:Sx:=
 jI (jX (jQ .IsNot (jG "_exclude_attrs" (jn 0)) (jk .none)) (jX (jT (jn 2)) (jk true))) q8a jN
def w1c:Sx:=
 jA 7 (λ J vs Z=>bnd (nm vs 1 Z) λ a Z=>bnd (nm vs 2 Z) λ b Z=>set2 false a b Z)
def w1d:Sx:=
 jA 8 (λ J J Z=>bnd (some ([],Z)) λ a Z=>q2j false (q3s a) Z)
def w8i:Sx:=
 λ C vs Z=>bnd (jM "_resolve_prefix_name" (jn 0) (j1 (jn 4)) C vs Z) λ a Z=>jD (λ J vs Z=>jW 9 a vs Z λ vs Z=>bnd (bnd (nm vs 8 Z) λ b Z=>bnd (nm vs 4 Z) λ c Z=>putS b c a vs Z) λ vs Z=>some (vs,Z)) C vs Z
def w8j:Sx:=
 jC (jM "add" (jn 7) (j1 (jn 9)))
noncomputable def z5z:Sx:=
 jS w8i (jE w8j)
def w1e:Sx:=
 jI (jQ .IsNot (jn 4) (jk .none)) z5z jN
def w8k:Sx:=
 jA 10 (jM "_find_qname_aware_attrs" (jn 0) (j1 (jn 2)))
def z6h:Sx:=
 jA 12 (jR (jn 2) (jn 11))
def w8n:Sx:=
 λ C vs Z=>bnd (jM "_resolve_prefix_name" (jn 0) (j1 (jn 12)) C vs Z) λ a Z=>jD (λ J vs Z=>jW 9 a vs Z λ vs Z=>bnd (bnd (nm vs 8 Z) λ b Z=>bnd (nm vs 12 Z) λ c Z=>putS b c a vs Z) λ vs Z=>some (vs,Z)) C vs Z
def w8o:Sx:=
 jC (jM "add" (jn 7) (j1 (jn 9)))
def z6c:Sx:=
 jS w8n (jE w8o)
def z6i:Sx:=
 jI (jT (jF (λ J J J=>none) (j1 (jn 12)))) z6c jN
noncomputable def k2z (C:q0b) (x:AV) (vs:Vs) (Z:Store):ResS:=
 jW 11 x vs Z λ vs Z=>jS z6h (jE z6i) C vs Z
def w8m:Sx:=
 jl (jn 10) k2z
def z6b:Sx:=
 jE w8m
def w8p:Sx:=
 jA 10 (jk .none)
def z6d:Sx:=
 jE w8p
def w8l:Sx:=
 jI (jT (jn 10)) z6b z6d
def z6a:Sx:=
 jS w8k (jE w8l)
noncomputable def w8q:Sx:=
 jA 10 (jk .none)
def z6e:Sx:=
 jE w8q
def w1f:Sx:=
 jI (jX (jQ .IsNot (jG "_find_qname_aware_attrs" (jn 0)) (jk .none)) (jX (jT (jn 2)) (jk true))) z6a z6e
noncomputable def w1g:Sx:=
 jA 13 (jG "_qname" (jn 0))
def q1s (C:q0b) (x:AV) (d:Vs×List (Str×AV)) (Z:Store):Option ((Vs×List (Str×AV))×Store):=
 bnd (some (setI d.1 1 x,Z)) λ vs Z=>jI (jk true) (λ C vs Z=>bnd (bnd (nm vs 1 Z) λ a Z=>bnd (jF (jn 15) (j1 (jn 1)) C vs Z) λ b Z=>z3q d.2 a b Z) λ a Z=>some ((vs,a),Z)) (jk (vs,d.2)) C vs Z
def z2g:Sx:=
 jA 14 (λ C vs Z=>bnd (bnd (bnd (nm vs 7 Z) λ a Z=>k3e a Z) λ a Z=>bnd (if(!(goN a))=true then none else q0s a (q1s C) (none::none::vs,[]) Z) λ a Z=>some (a.2,Z)) λ a Z=>q2j false a Z)
def q5b (C:q0b) (x:AV) (b:Vs×List AV) (Z:Store):Option ((Vs×List AV)×Store):=
 bnd ((q1g Z x).bind λ a=>asC a λ a c=>bnd (some (setI b.1 1 a,Z)) λ vs Z=>asC c λ a b=>jW 2 a vs Z λ vs Z=>asE b vs Z) λ vs Z=>jI (jk true) (λ C vs Z=>bnd (q2h b.2 (jV (jc (jI (jT (jn 2)) (jP .Add (jy "xmlns:") (jn 2)) (jy "xmlns")) (j1 (jn 1))) C vs Z)) λ a Z=>some ((vs,a),Z)) (jk (vs,b.2)) C vs Z
def w8r:Sx:=
 jA 16 (λ C vs Z=>bnd (bnd (nm vs 3 Z) λ a Z=>bnd (if(!(goT a))=true then none else q0s a (q5b C) (none::none::none::vs,[]) Z) λ a Z=>some (a.2,Z)) λ a Z=>q0w true a Z)
def q3i:Sx:=
 jC (jM "sort" (jn 16) (jk []))
def q8b:Sx:=
 jS w8r (jE q3i)
def w8s:Sx:=
 jA 16 (jL true (jk []))
def q8c:Sx:=
 jE w8s
noncomputable def z2h:Sx:=
 jI (jT (jn 3)) q8b q8c
def w5y:Sx:=
 jA 6 (jR (jR (jn 14) (jR (jn 8) (jn 6))) (ji 0))
def z2e:Sx:=
 jE w5y
def z6j:Sx:=
 jI (jX (jQ .IsNot (jn 10) (jk .none)) (jX (jQ .In (jn 5) (jn 10)) (jX (jQ .In (jn 6) (jn 8)) (jk true)))) z2e jN
def q8h:Sx:=
 λ C vs Z=>bnd (jR (jn 14) (jn 5) C vs Z) λ a Z=>jD (λ J vs Z=>bnd ((q1g Z a).bind λ a=>asC a λ a b=>jW 17 a vs Z λ vs Z=>asC b λ a b=>jW 11 a vs Z λ vs Z=>asC b λ a b=>jW 15 a vs Z λ vs Z=>asE b vs Z) λ vs Z=>some (vs,Z)) C vs Z
def q8i:Sx:=
 jC (jM "append" (jn 16) (j1 (jV (jc (jI (jT (jn 15)) (jn 17) (jn 11)) (j1 (jn 6))))))
def q5w (C:q0b) (x:AV) (vs:Vs) (Z:Store):ResS:=
 bnd ((q1g Z x).bind λ a=>asC a λ a b=>jW 5 a vs Z λ vs Z=>asC b λ a b=>jW 6 a vs Z λ vs Z=>asE b vs Z) λ vs Z=>jS z6j (jS q8h (jE q8i)) C vs Z
def w5x:Sx:=
 jl (jF (jk (.bf .sorted)) (j1 (jM "items" (jn 2) (jk [])))) q5w
def q6t:Sx:=
 jE w5x
noncomputable def z2i:Sx:=
 jI (jT (jn 2)) q6t jN
def z2j:Sx:=
 jA 18 (jM "get" (jn 2) (j1 (jy "{http://www.w3.org/XML/1998/namespace}space")))
def w8t:Sx:=
 jC (jM "append" (jG "_preserve_space" (jn 0)) (j1 (jI (jT (jn 18)) (λ J vs Z=>bnd (nm vs 18 Z) λ a Z=>bnd (some (.str "preserve",Z)) λ b Z=>cmpR Z .Eq a b) (jR (jG "_preserve_space" (jn 0)) (jg (ji 1))))))
noncomputable def q9g:Sx:=
 jA 19 (jG "_write" (jn 0))
def w8u:Sx:=
 jC (jF (jn 19) (j1 (jP .Add (jy "<") (jR (jR (jn 14) (jn 1)) (ji 0)))))
def q5c (C:q0b) (x:AV) (b:Vs×List AV) (Z:Store):Option ((Vs×List AV)×Store):=
 bnd ((q1g Z x).bind λ a=>asC a λ a c=>bnd (some (setI b.1 1 a,Z)) λ vs Z=>asC c λ a b=>jW 2 a vs Z λ vs Z=>asE b vs Z) λ vs Z=>jI (jk true) (λ C vs Z=>bnd (q2h b.2 (bnd ((catA Str.empty " ").bind λ a=>bnd (nm vs 1 Z) λ b Z=>q6j a b λ a=>(catA a "=\"").bind λ a=>bnd (jF (jk (.fn 168)) (j1 (jn 2)) C vs Z) λ b Z=>q6j a b λ a=>(catA a "\"").bind λ a=>q1m a Z) λ a Z=>some (.str a,Z))) λ a Z=>some ((vs,a),Z)) (jk (vs,b.2)) C vs Z
def w5z:Sx:=
 jC (jF (jn 19) (j1 (jM "join" (jy "") (j1 (λ C vs Z=>bnd (bnd (nm vs 16 Z) λ a Z=>bnd (if(!(goT a))=true then none else q0s a (q5c C) (none::none::none::vs,[]) Z) λ a Z=>some (a.2,Z)) λ a Z=>q0w false a Z)))))
noncomputable def q6u:Sx:=
 jE w5z
def w8v:Sx:=
 jI (jT (jn 16)) q6u jN
def w8w:Sx:=
 jC (jF (jn 19) (j1 (jy ">")))
def w6a:Sx:=
 jC (jF (jn 19) (j1 (jF (jk (.fn 161)) (j1 (jR (jR (jn 14) (jR (jn 8) (jn 4))) (ji 0))))))
def z2f:Sx:=
 jE w6a
def q9h:Sx:=
 jI (jQ .IsNot (jn 4) (jk .none)) z2f jN
noncomputable def q9i:Sx:=
 jB "_root_seen" (jk (.bool true))
noncomputable def q9j:Sx:=
 jC (jM "append" (jG "_ns_stack" (jn 0)) (j1 (jL true (jk []))))
def q4c (C:q0b) (vs:Vs) (Z:Store):ResS:=
 sq (q9j C vs Z) λ vs Z=>some (q1c.next,vs,Z)
def w1b (C:q0b) (vs:Vs) (Z:Store):ResS:=
 sq (q9i C vs Z) λ vs Z=>q4c C vs Z
def q6w (C:q0b) (vs:Vs) (Z:Store):ResS:=
 sq (q9h C vs Z) λ vs Z=>w1b C vs Z
def q2v (C:q0b) (vs:Vs) (Z:Store):ResS:=
 sq (w8w C vs Z) λ vs Z=>q6w C vs Z
def q2u (C:q0b) (vs:Vs) (Z:Store):ResS:=
 sq (w8v C vs Z) λ vs Z=>q2v C vs Z
def q2t (C:q0b) (vs:Vs) (Z:Store):ResS:=
 sq (w8u C vs Z) λ vs Z=>q2u C vs Z
def q6v (C:q0b) (vs:Vs) (Z:Store):ResS:=
 sq (q9g C vs Z) λ vs Z=>q2t C vs Z
def q4b (C:q0b) (vs:Vs) (Z:Store):ResS:=
 sq (w8t C vs Z) λ vs Z=>q6v C vs Z
def q3o (C:q0b) (vs:Vs) (Z:Store):ResS:=
 sq (z2j C vs Z) λ vs Z=>q4b C vs Z
def q3n (C:q0b) (vs:Vs) (Z:Store):ResS:=
 sq (z2i C vs Z) λ vs Z=>q3o C vs Z
def q3m (C:q0b) (vs:Vs) (Z:Store):ResS:=
 sq (z2h C vs Z) λ vs Z=>q3n C vs Z
def q8e (C:q0b) (vs:Vs) (Z:Store):ResS:=
 sq (z2g C vs Z) λ vs Z=>q3m C vs Z
def w3k (C:q0b) (vs:Vs) (Z:Store):ResS:=
 sq (w1g C vs Z) λ vs Z=>q8e C vs Z
def w3j (C:q0b) (vs:Vs) (Z:Store):ResS:=
 sq (w1f C vs Z) λ vs Z=>w3k C vs Z
def w3i (C:q0b) (vs:Vs) (Z:Store):ResS:=
 sq (w1e C vs Z) λ vs Z=>w3j C vs Z
def q8d (C:q0b) (vs:Vs) (Z:Store):ResS:=
 sq (w1d C vs Z) λ vs Z=>w3i C vs Z
def w3h (C:q0b) (vs:Vs) (Z:Store):ResS:=
 sq (w1c C vs Z) λ vs Z=>q8d C vs Z
def w3g (C:q0b) (vs:Vs) (Z:Store):ResS:=
 sq (q4d C vs Z) λ vs Z=>w3h C vs Z
noncomputable def q7z:Sx:=
 w3g
theorem z6f (C:q0b) (vs:Vs) (Z:Store):q1b (evN T C 40) (fnOf 126).scope.names (q0d (fnOf 126).scope) (fnOf 126).body vs Z=q7z C vs Z:=by kernel_rfl
def z8v:Sx:=
 λ J vs Z=>bnd (nm vs 0 Z) λ a Z=>(q6h T Z a "_ignored_depth").bind λ b=>bnd (some (.int 1,Z)) λ c Z=>(augA .Sub (norm b) c).bind λ b=>(q3z T Z a "_ignored_depth" b).bind λ a=>some (q1c.next,vs,a)
noncomputable def z8w:Sx:=
 λ J vs Z=>some (q1c.ret .none,vs,Z)
def k7r:Sx:=
 jS z8v (jE z8w)
def k2r:Sx:=
 jI (jT (jG "_ignored_depth" (jn 0))) k7r jN
def z8x:Sx:=
 jC (jM "_flush" (jn 0) (jk []))
def w6b:Sx:=
 jE z8x
noncomputable def k2s:Sx:=
 jI (jT (jG "_data" (jn 0))) w6b jN
def k2t:Sx:=
 jC (jM "_write" (jn 0) (j1 (λ C vs Z=>bnd ((catA Str.empty "</").bind λ a=>bnd (jR (jM "_qname" (jn 0) (j1 (jn 1))) (ji 0) C vs Z) λ b Z=>q6j a b λ a=>(catA a ">").bind λ a=>q1m a Z) λ a Z=>some (.str a,Z))))
noncomputable def k2u:Sx:=
 jC (jM "pop" (jG "_preserve_space" (jn 0)) (jk []))
def k2v:Sx:=
 jB "_root_done" (λ C vs Z=>bnd (jF (jk (.bf .len)) (j1 (jG "_preserve_space" (jn 0))) C vs Z) λ a Z=>bnd (some (.int 1,Z)) λ b Z=>cmpR Z .Eq a b)
def k2w:Sx:=
 jC (jM "pop" (jG "_declared_ns_stack" (jn 0)) (jk []))
def k2x:Sx:=
 jC (jM "pop" (jG "_ns_stack" (jn 0)) (jk []))
def w6h (C:q0b) (vs:Vs) (Z:Store):ResS:=
 sq (k2x C vs Z) λ vs Z=>some (q1c.next,vs,Z)
def w6g (C:q0b) (vs:Vs) (Z:Store):ResS:=
 sq (k2w C vs Z) λ vs Z=>w6h C vs Z
def w6f (C:q0b) (vs:Vs) (Z:Store):ResS:=
 sq (k2v C vs Z) λ vs Z=>w6g C vs Z
def w6e (C:q0b) (vs:Vs) (Z:Store):ResS:=
 sq (k2u C vs Z) λ vs Z=>w6f C vs Z
def w6d (C:q0b) (vs:Vs) (Z:Store):ResS:=
 sq (k2t C vs Z) λ vs Z=>w6e C vs Z
def w6c (C:q0b) (vs:Vs) (Z:Store):ResS:=
 sq (k2s C vs Z) λ vs Z=>w6d C vs Z
def k7t (C:q0b) (vs:Vs) (Z:Store):ResS:=
 sq (k2r C vs Z) λ vs Z=>w6c C vs Z
def k1h:Sx:=
 k7t
theorem k7s (C:q0b) (vs:Vs) (Z:Store):q1b (evN T C 40) (fnOf 133).scope.names (q0d (fnOf 133).scope) (fnOf 133).body vs Z=k1h C vs Z:=by kernel_rfl
def q1r:Sx:=
 jE (jS (jI (jQ .In (jy "&") (jn 0)) (jE (jA 0 (λ J vs Z=>bnd (nm vs 0 Z) λ a Z=>q9s a "&" "&amp;" Z))) jN) (jS (jI (jQ .In (jy "<") (jn 0)) (jE (jA 0 (λ J vs Z=>bnd (nm vs 0 Z) λ a Z=>q9s a "<" "&lt;" Z))) jN) (jS (jI (jQ .In (jy ">") (jn 0)) (jE (jA 0 (λ J vs Z=>bnd (nm vs 0 Z) λ a Z=>q9s a ">" "&gt;" Z))) jN) (jS (jI (jQ .In (jy "\r") (jn 0)) (jE (jA 0 (λ J vs Z=>bnd (nm vs 0 Z) λ a Z=>q9s a "\r" "&#xD;" Z))) jN) (jE (jr (jn 0)))))))
theorem q5u (C:q0b) (vs:Vs) (Z:Store):q1b (evN T C 40) (fnOf 161).scope.names (q0d (fnOf 161).scope) (fnOf 161).body vs Z=q1r C vs Z:=by kernel_rfl
def q1n:Sx:=
 jE (jS (jI (jQ .In (jy "&") (jn 0)) (jE (jA 0 (λ J vs Z=>bnd (nm vs 0 Z) λ a Z=>q9s a "&" "&amp;" Z))) jN) (jS (jI (jQ .In (jy "<") (jn 0)) (jE (jA 0 (λ J vs Z=>bnd (nm vs 0 Z) λ a Z=>q9s a "<" "&lt;" Z))) jN) (jS (jI (jQ .In (jy "\"") (jn 0)) (jE (jA 0 (λ J vs Z=>bnd (nm vs 0 Z) λ a Z=>q9s a "\"" "&quot;" Z))) jN) (jS (jI (jQ .In (jy "\t") (jn 0)) (jE (jA 0 (λ J vs Z=>bnd (nm vs 0 Z) λ a Z=>q9s a "\t" "&#x9;" Z))) jN) (jS (jI (jQ .In (jy "\n") (jn 0)) (jE (jA 0 (λ J vs Z=>bnd (nm vs 0 Z) λ a Z=>q9s a "\n" "&#xA;" Z))) jN) (jS (jI (jQ .In (jy "\r") (jn 0)) (jE (jA 0 (λ J vs Z=>bnd (nm vs 0 Z) λ a Z=>q9s a "\r" "&#xD;" Z))) jN) (jE (jr (jn 0)))))))))
theorem q5n (C:q0b) (vs:Vs) (Z:Store):q1b (evN T C 40) (fnOf 168).scope.names (q0d (fnOf 168).scope) (fnOf 168).body vs Z=q1n C vs Z:=by kernel_rfl
def q2r (C:q0b) (x:AV) (b:Vs×List AV) (Z:Store):Option ((Vs×List AV)×Store):=
 bnd (some (setI b.1 2 x,Z)) λ vs Z=>jI (jk true) (λ J vs Z=>bnd (q2h b.2 (nm vs 2 Z)) λ a Z=>some ((vs,a),Z)) (jk (vs,b.2)) C vs Z
def q2s (C:q0b) (x:AV) (b:Vs×List AV) (Z:Store):Option ((Vs×List AV)×Store):=
 bnd (some (setI b.1 1 x,Z)) λ vs Z=>jI (jk true) (λ C vs Z=>bnd (nm vs 1 Z) λ a Z=>if(!(goN a))=true then none else q0s a (q2r C) (vs,b.2) Z) (jk (vs,b.2)) C vs Z
def q7u:Sx:=
 jE (jr (λ C vs Z=>bnd (bnd (jU (jn 0) (jk .none) (jk .none) (jg (ji 1)) C vs Z) λ a Z=>bnd (if(!(goN a))=true then none else q0s a (q2s C) (none::none::none::vs,[]) Z) λ a Z=>some (a.2,Z)) λ a Z=>q0w false a Z))
theorem w5v (C:q0b) (vs:Vs) (Z:Store):q1b (evN T C 40) (fnOf 173).scope.names (q0d (fnOf 173).scope) (fnOf 173).body vs Z=q7u C vs Z:=by kernel_rfl
def q2z:Sx:=
 λ C vs Z=>bnd (jV (jc (jL true (jk [])) (jc (jy "") (jc (jy "") (j1 (jy ""))))) C vs Z) λ a Z=>jD (λ J vs Z=>bnd ((q1g Z a).bind λ a=>asC a λ a b=>jW 2 a vs Z λ vs Z=>asC b λ a b=>jW 3 a vs Z λ vs Z=>asC b λ a b=>jW 4 a vs Z λ vs Z=>asC b λ a b=>jW 5 a vs Z λ vs Z=>asE b vs Z) λ vs Z=>some (vs,Z)) C vs Z
def q3a:Sx:=
 jA 6 (jF (jk (.fn 150)) (j1 (jG "append" (jn 2))))
def q3b:Sx:=
 λ C vs Z=>bnd (some (.fn 173,Z)) λ a Z=>jD (λ J vs Z=>bnd (bnd (nm vs 6 Z) λ b Z=>(q3z T Z b "_iter_namespaces" a).bind λ a=>some (vs,a)) λ vs Z=>some (vs,Z)) C vs Z
def q3w (C:q0b) (x:AV) (b:Vs×List AV) (Z:Store):Option ((Vs×List AV)×Store):=
 bnd (some (setI b.1 1 x,Z)) λ vs Z=>jI (jk true) (λ C vs Z=>bnd (q2h b.2 (jF (jk (.fn 180)) (jc (jI (jQ .Eq (jP .Mod (jn 1) (ji 2)) (ji 1)) (jn 3) (jy "")) (j1 (jy "a"))) C vs Z)) λ a Z=>some ((vs,a),Z)) (jk (vs,b.2)) C vs Z
def q2a:Sx:=
 jA 7 (λ C vs Z=>bnd (bnd (jP .Add (jL false (jc (ji 0) (jc (ji 1) (jc (ji 0) (j1 (ji 1)))))) (jn 0) C vs Z) λ a Z=>bnd (if(!(goN a))=true then none else q0s a (q3w C) (none::none::vs,[]) Z) λ a Z=>some (a.2,Z)) λ a Z=>q0w false a Z)
def q8j:Sx:=
 jC (jM "start_ns" (jn 6) (jc (jy "") (j1 (jF (jk (.fn 187)) (j1 (jn 8))))))
def q5e:Sx:=
 jC (jM "start" (jn 6) (jc (jn 8) (j1 (λ J J Z=>bnd (some ([],Z)) λ a Z=>q2j false (q3s a) Z))))
def q3q:Sx:=
 λ C vs Z=>(w2g vs 3).bind λ a=>bnd (jI (jQ .Eq (jn 5) (jF (jk (.fn 187)) (j1 (jn 8)))) (jy "<a") (jP .Add (jP .Add (jy "<a xmlns=\"") (jF (jk (.fn 187)) (j1 (jn 8)))) (jy "\"")) C vs Z) λ b Z=>(augA .Add (norm a) b).bind λ a=>some (q1c.next,setI vs 3 a,Z)
def q1u:Sx:=
 λ C vs Z=>bnd (jV (jc (jP .Add (jn 3) (jy ">")) (j1 (jF (jk (.fn 187)) (j1 (jn 8))))) C vs Z) λ a Z=>jD (λ J vs Z=>(q1g Z a).bind λ a=>(asC a.reverse λ a b=>asC b λ b c=>putE c (setI (setI vs 5 a) 3 b)).map λ a=>(a,Z)) C vs Z
def q1v:Sx:=
 λ J vs Z=>(w2g vs 4).bind λ a=>bnd (some (.str "</a>",Z)) λ b Z=>(augA .Add (norm a) b).bind λ a=>some (q1c.next,setI vs 4 a,Z)
def q4f (C:q0b) (x:AV) (vs:Vs) (Z:Store):ResS:=
 jW 8 x vs Z λ vs Z=>jS q8j (jS q5e (jS q3q (jS q1u (jE q1v)))) C vs Z
def q3c:Sx:=
 jl (jn 7) q4f
def z6k:Sx:=
 jC (jM "end" (jn 6) (j1 (jn 8)))
def q5x (C:q0b) (x:AV) (vs:Vs) (Z:Store):ResS:=
 jW 8 x vs Z λ vs Z=>jE z6k C vs Z
def q3d:Sx:=
 jl (jU (jn 7) (jk .none) (jk .none) (jg (ji 1))) q5x
def q2b:Sx:=
 jr (λ C vs Z=>bnd (bnd (jM "join" (jy "") (j1 (jn 2)) C vs Z) λ a Z=>q9s a "v&amp;&quot;&lt;&#x9;" "v&\"<\t" Z) λ a Z=>bnd (jP .Add (jn 3) (jn 4) C vs Z) λ b Z=>cmpR Z .Eq a b)
def q6r:Sx:=
 jS q2z (jS q3a (jS q3b (jS q2a (jS q3c (jS q3d (jE q2b))))))
theorem w3s (C:q0b) (vs:Vs) (Z:Store):q1b (evN T C 40) (fnOf 199).scope.names (q0d (fnOf 199).scope) (fnOf 199).body vs Z=q6r C vs Z:=by kernel_rfl
def w2n:Sx:=
 jO 1 2 (jV (jc (jy "http://www.w3.org/XML/1998/namespace") (j1 (jy "http://www.w3.org/2001/XMLSchema"))))
def w2o:Sx:=
 jA 3 (jL false (jc (jk (.lit "u")) (jc (jk (.lit "u}1")) (jc (jk (.lit "v&\"<\t")) (j1 (jk (.lit "http://purl.org/dc/elements/1.1/")))))))
noncomputable def w2p:Sx:=
 jA 4 (jk (.lit "v&amp;&quot;&lt;&#x9;"))
def q8w:Sx:=
 jA 5 (jF (jk (.bf .sum)) (j1 (jU (jn 0) (jk .none) (ji 1) (jk .none))))
def q8x:Sx:=
 jA 6 (jL false (jc (jI (jQ .Eq (jP .Mod (jP .FloorDiv (jn 5) (ji 4)) (ji 2)) (ji 1)) (jy "") (jy "n")) (jc (jy "p") (jc (jy "b") (j1 (jy "a"))))))
def w1k (C:q0b) (x:AV) (d:Vs×List (Str×AV)) (Z:Store):Option ((Vs×List (Str×AV))×Store):=
 bnd (some (setI d.1 1 x,Z)) λ vs Z=>jI (jk true) (λ C vs Z=>bnd (bnd (jR (jn 5) (jn 1) C vs Z) λ a Z=>bnd (jR (jn 8) (jP .Mod (jP .Add (jn 1) (jn 7)) (ji 4)) C vs Z) λ b Z=>z3q d.2 a b Z) λ a Z=>some ((vs,a),Z)) (jk (vs,d.2)) C vs Z
def q8y:Sx:=
 jA 8 (λ C vs Z=>bnd (bnd (jF (jk (.bf .range)) (j1 (ji 4)) C vs Z) λ a Z=>bnd (if(!(goN a))=true then none else q0s a (w1k C) (none::none::vs,[]) Z) λ a Z=>some (a.2,Z)) λ a Z=>q2j true a Z)
def q8z:Sx:=
 jA 9 (jP .Add (jn 3) (jL false (jc (jn 2) (j1 (jI (jQ .In (jy "") (jn 6)) (jR (jn 3) (ji 0)) (jy ""))))))
def k7u (C:q0b) (x:AV) (b:Vs×List AV) (Z:Store):Option ((Vs×List AV)×Store):=
 bnd (some (setI b.1 1 x,Z)) λ vs Z=>jI (jI (jQ .NotEq (jR (jn 10) (jn 1)) (jy "")) (jk true) (jk false)) (λ J vs Z=>bnd (q2h b.2 (nm vs 1 Z)) λ a Z=>some ((vs,a),Z)) (jk (vs,b.2)) C vs Z
def q9a:Sx:=
 jA 11 (jP .Add (jL false (jc (jy "") (jc (jn 2) (j1 (jn 1))))) (λ C vs Z=>bnd (bnd (nm vs 3 Z) λ a Z=>bnd (if(!(goN a))=true then none else q0s a (k7u C) (none::none::vs,[]) Z) λ a Z=>some (a.2,Z)) λ a Z=>q0w false a Z))
def q9b:Sx:=
 jC (jM "update" (jn 8) (j1 (λ J vs Z=>bnd (bnd (some (.str "",Z)) λ a Z=>bnd (some (.str "",Z)) λ b Z=>j5m a b Z λ Z=>bnd (nm vs 2 Z) λ a Z=>bnd (some (.str "xs",Z)) λ b Z=>j5m a b Z λ Z=>bnd (nm vs 1 Z) λ a Z=>bnd (some (.str "xml",Z)) λ b Z=>j5m a b Z λ Z=>some ([],Z)) λ a Z=>q2j false (q3s a) Z)))
def w2q:Sx:=
 λ C vs Z=>bnd (jV (jc (jL true (jk [])) (jc (jL true (jk [])) (j1 (jy "")))) C vs Z) λ a Z=>jD (λ J vs Z=>(q1g Z a).bind λ a=>(asC a.reverse λ a b=>asC b λ b c=>asC c λ c d=>putE d (setI (setI (setI vs 14 a) 13 b) 12 c)).map λ a=>(a,Z)) C vs Z
def q9y:Sx:=
 jA 15 (λ C vs Z=>bnd (some (.fn 150,Z)) λ a Z=>bnd (j1 (jG "append" (jn 12)) C vs Z) λ b Z=>bnd (kwC "exclude_tags" (jL false (j1 (jy "{u}b")) C vs Z) λ Z=>kwC "exclude_attrs" (jL false (j1 (jy "{u}1}b")) C vs Z) λ Z=>some ([],Z)) λ c Z=>q7i T C a b c Z)
def q9z:Sx:=
 λ C vs Z=>bnd (some (.fn 173,Z)) λ a Z=>jD (λ J vs Z=>bnd (bnd (nm vs 15 Z) λ b Z=>(q3z T Z b "_iter_namespaces" a).bind λ a=>some (vs,a)) λ vs Z=>some (vs,Z)) C vs Z
def q5v (C:q0b) (x:AV) (b:Vs×List AV) (Z:Store):Option ((Vs×List AV)×Store):=
 bnd (some (setI b.1 1 x,Z)) λ vs Z=>jI (jk true) (λ C vs Z=>bnd (q2h b.2 (jV (jc (jP .Mod (jn 1) (ji 4)) (j1 (jP .FloorDiv (jn 1) (ji 4)))) C vs Z)) λ a Z=>some ((vs,a),Z)) (jk (vs,b.2)) C vs Z
def q7e:Sx:=
 jA 16 (jP .Add (jP .Add (jP .Add (jL false (j1 (jV (jc (ji 0) (j1 (jP .FloorDiv (jn 5) (ji 8))))))) (λ C vs Z=>bnd (bnd (jU (jn 0) (ji 1) (jk .none) (jk .none) C vs Z) λ a Z=>bnd (if(!(goN a))=true then none else q0s a (q5v C) (none::none::vs,[]) Z) λ a Z=>some (a.2,Z)) λ a Z=>q0w false a Z)) (jP .Mult (jL false (j1 (jV (jc (ji 2) (j1 (ji 0)))))) (jF (jk (.bf .len)) (j1 (jn 0))))) (jL false (j1 (jV (jc (ji 4) (j1 (ji 0)))))))
def w1l (C:q0b) (x:AV) (b:Vs×List AV) (Z:Store):Option ((Vs×List AV)×Store):=
 bnd ((q1g Z x).bind λ a=>asC a λ a c=>bnd (some (setI b.1 1 a,Z)) λ vs Z=>asC c λ a b=>jW 2 a vs Z λ vs Z=>asC b λ a b=>jW 3 a vs Z λ vs Z=>asE b vs Z) λ vs Z=>jI (jk true) (λ J vs Z=>bnd (q2h b.2 (nm vs 1 Z)) λ a Z=>some ((vs,a),Z)) (jk (vs,b.2)) C vs Z
def q5f:Sx:=
 jA 22 (λ C vs Z=>bnd (some (.str "{u}b",Z)) λ a Z=>bnd (bnd (bnd (nm vs 13 Z) λ a Z=>bnd (if(!(goT a))=true then none else q0s a (w1l C) (none::none::none::none::vs,[]) Z) λ a Z=>some (a.2,Z)) λ a Z=>q0w false a Z) λ b Z=>cmpR Z .In a b)
def w6i:Sx:=
 jA 19 (jF (jk (.fn 180)) (jc (jR (jn 9) (jP .Mod (jn 18) (ji 6))) (j1 (jI (jQ .NotEq (jn 13) (jL false (jk []))) (jR (jL false (jc (jy "a") (j1 (jy "b")))) (jP .Mod (jP .FloorDiv (jn 18) (ji 6)) (ji 2))) (jy "r")))))
def q9t:Sx:=
 jA 23 (λ J J Z=>bnd (some ([],Z)) λ a Z=>q2j true (q3s a) Z)
def z6l:Sx:=
 jA 24 (jP .Add (jP .FloorDiv (jn 18) (ji 768)) (jP .Mult (jR (jL false (jc (ji 5) (j1 (ji 7)))) (jP .Mod (jn 18) (ji 2))) (jn 7)))
def q8k:Sx:=
 λ C vs Z=>bnd (jP .Add (jR (jn 3) (ji 2)) (jF (jk (.bf .str)) (j1 (jn 7))) C vs Z) λ a Z=>jD (λ C vs Z=>bnd (bnd (nm vs 23 Z) λ b Z=>bnd (jF (jk (.fn 180)) (jc (jR (jn 11) (jP .Mod (jn 24) (jF (jk (.bf .len)) (j1 (jn 11))))) (j1 (jR (jL false (jc (jy "a") (j1 (jy "b")))) (jP .Mod (jP .FloorDiv (jn 24) (ji 7)) (ji 2))))) C vs Z) λ c Z=>putS b c a vs Z) λ vs Z=>some (vs,Z)) C vs Z
def q5y (C:q0b) (x:AV) (vs:Vs) (Z:Store):ResS:=
 jW 7 x vs Z λ vs Z=>jS z6l (jE q8k) C vs Z
def q4o:Sx:=
 jl (jF (jk (.bf .range)) (j1 (jP .Mod (jP .FloorDiv (jn 18) (ji 12)) (ji 4)))) q5y
def w6m (C:q0b) (x:AV) (b:Vs×List AV) (Z:Store):Option ((Vs×List AV)×Store):=
 bnd (some (setI b.1 1 x,Z)) λ vs Z=>jI (jk true) (λ C vs Z=>bnd (q2h b.2 (jF (jk (.fn 187)) (j1 (jn 1)) C vs Z)) λ a Z=>some ((vs,a),Z)) (jk (vs,b.2)) C vs Z
def q6x:Sx:=
 jA 26 (λ C vs Z=>bnd (bnd (jP .Add (jL false (j1 (jn 19))) (jF (jk (.bf .list)) (j1 (jn 23))) C vs Z) λ a Z=>bnd (if(!(goN a))=true then none else q0s a (w6m C) (none::none::vs,[]) Z) λ a Z=>some (a.2,Z)) λ a Z=>q0w false a Z)
def w6n (C:q0b) (x:AV) (b:Vs×List AV) (Z:Store):Option ((Vs×List AV)×Store):=
 bnd (some (setI b.1 4 x,Z)) λ vs Z=>jI (jk true) (λ J vs Z=>bnd (q2h b.2 (nm vs 4 Z)) λ a Z=>some ((vs,a),Z)) (jk (vs,b.2)) C vs Z
def w6o (C:q0b) (x:AV) (b:Vs×List AV) (Z:Store):Option ((Vs×List AV)×Store):=
 bnd ((q1g Z x).bind λ a=>asC a λ a c=>bnd (some (setI b.1 1 a,Z)) λ vs Z=>asC c λ a b=>jW 2 a vs Z λ vs Z=>asC b λ a b=>jW 3 a vs Z λ vs Z=>asE b vs Z) λ vs Z=>jI (jk true) (λ C vs Z=>bnd (nm vs 3 Z) λ a Z=>if(!(goN a))=true then none else q0s a (w6n C) (vs,b.2) Z) (jk (vs,b.2)) C vs Z
def q4p:Sx:=
 jA 27 (λ C vs Z=>bnd (bnd (nm vs 13 Z) λ a Z=>bnd (if(!(goT a))=true then none else q0s a (w6o C) (none::none::none::none::none::vs,[]) Z) λ a Z=>some (a.2,Z)) λ a Z=>q0w false a Z)
def q4q:Sx:=
 jA 21 (jL true (jk []))
def q7a:Sx:=
 jC (jM "append" (jn 21) (j1 (jR (jn 3) (jn 7))))
def q7b:Sx:=
 jC (jM "start_ns" (jn 15) (jc (jI (jT (jn 22)) (jy "z") (jR (jn 8) (jR (jn 3) (jn 7)))) (j1 (jR (jn 3) (jn 7)))))
def q8g:Sx:=
 jS q7a (jE q7b)
def z6m:Sx:=
 jI (jY (jQ .Eq (jP .Mod (jP .FloorDiv (jP .FloorDiv (jn 18) (ji 48)) (jP .Pow (ji 2) (jn 7))) (ji 2)) (ji 1)) (jY (jX (jQ .In (jR (jn 3) (jn 7)) (jn 26)) (jX (jQ .NotIn (jR (jn 3) (jn 7)) (jn 27)) (jk true))) (jk false))) q8g jN
def q5z (C:q0b) (x:AV) (vs:Vs) (Z:Store):ResS:=
 jW 7 x vs Z λ vs Z=>jE z6m C vs Z
def q1a:Sx:=
 jl (jF (jk (.bf .range)) (j1 (ji 4))) q5z
noncomputable def q6y:Sx:=
 jA 28 (jF (jk (.bf .dict)) (j1 (jn 23)))
def q6z:Sx:=
 jC (jM "start" (jn 15) (jc (jn 19) (j1 (jn 28))))
def z8y:Sx:=
 jr (jk (.bool false))
def z6g:Sx:=
 jE z8y
def q3e:Sx:=
 jI (jQ .NotEq (jn 28) (jn 23)) z6g jN
def w6p (C:q0b) (x:AV) (b:Vs×List AV) (Z:Store):Option ((Vs×List AV)×Store):=
 bnd (some (setI b.1 1 x,Z)) λ vs Z=>jI (jI (jQ .NotEq (jn 1) (jy "{u}1}b")) (jk true) (jk false)) (λ J vs Z=>bnd (q2h b.2 (nm vs 1 Z)) λ a Z=>some ((vs,a),Z)) (jk (vs,b.2)) C vs Z
def q5d:Sx:=
 jA 29 (λ C vs Z=>bnd (bnd (jF (jk (.bf .sorted)) (j1 (jn 23)) C vs Z) λ a Z=>bnd (if(!(goN a))=true then none else q0s a (w6p C) (none::none::vs,[]) Z) λ a Z=>some (a.2,Z)) λ a Z=>q0w false a Z)
def w6q (C:q0b) (x:AV) (b:Vs×List AV) (Z:Store):Option ((Vs×List AV)×Store):=
 bnd (some (setI b.1 1 x,Z)) λ vs Z=>jI (jk true) (λ C vs Z=>bnd (q2h b.2 (jF (jk (.fn 187)) (j1 (jn 1)) C vs Z)) λ a Z=>some ((vs,a),Z)) (jk (vs,b.2)) C vs Z
def w2k (C:q0b) (x:AV) (b:Vs×List AV) (Z:Store):Option ((Vs×List AV)×Store):=
 bnd (some (setI b.1 1 x,Z)) λ vs Z=>jI (jI (jQ .NotIn (jn 1) (jL false (jc (jy "") (j1 (jn 3))))) (jk true) (jk false)) (λ J vs Z=>bnd (q2h b.2 (nm vs 1 Z)) λ a Z=>some ((vs,a),Z)) (jk (vs,b.2)) C vs Z
def q3p:Sx:=
 jA 20 (λ C vs Z=>bnd (bnd (bnd (bnd (jP .Add (jL false (j1 (jn 19))) (jn 29) C vs Z) λ a Z=>bnd (if(!(goN a))=true then none else q0s a (w6q C) (none::none::vs,[]) Z) λ a Z=>some (a.2,Z)) λ a Z=>q0w false a Z) λ a Z=>bnd (if(!(goN a))=true then none else q0s a (w2k C) (none::none::vs,[]) Z) λ a Z=>some (a.2,Z)) λ a Z=>q0w false a Z)
def w2l (C:q0b) (x:AV) (b:Vs×List AV) (Z:Store):Option ((Vs×List AV)×Store):=
 bnd (some (setI b.1 4 x,Z)) λ vs Z=>jI (jk true) (λ J vs Z=>bnd (q2h b.2 (nm vs 4 Z)) λ a Z=>some ((vs,a),Z)) (jk (vs,b.2)) C vs Z
def w2m (C:q0b) (x:AV) (b:Vs×List AV) (Z:Store):Option ((Vs×List AV)×Store):=
 bnd ((q1g Z x).bind λ a=>asC a λ a c=>bnd (some (setI b.1 1 a,Z)) λ vs Z=>asC c λ a b=>jW 2 a vs Z λ vs Z=>asC b λ a b=>jW 3 a vs Z λ vs Z=>asE b vs Z) λ vs Z=>jI (jk true) (λ C vs Z=>bnd (nm vs 2 Z) λ a Z=>if(!(goN a))=true then none else q0s a (w2l C) (vs,b.2) Z) (jk (vs,b.2)) C vs Z
def q2l:Sx:=
 jA 30 (λ C vs Z=>bnd (bnd (nm vs 13 Z) λ a Z=>bnd (if(!(goT a))=true then none else q0s a (w2m C) (none::none::none::none::none::vs,[]) Z) λ a Z=>some (a.2,Z)) λ a Z=>q0w false a Z)
def q8v (C:q0b) (x:AV) (b:Vs×List AV) (Z:Store):Option ((Vs×List AV)×Store):=
 bnd (some (setI b.1 1 x,Z)) λ vs Z=>jI (jI (jQ .NotIn (jn 1) (jn 32)) (jk true) (jk false)) (λ C vs Z=>bnd (q2h b.2 (jR (jn 10) (jn 1) C vs Z)) λ a Z=>some ((vs,a),Z)) (jk (vs,b.2)) C vs Z
def q1t:Sx:=
 jA 31 (λ C vs Z=>bnd (jF (jk (.bf .set)) (j1 (jn 20)) C vs Z) λ a Z=>(wsV a).bind λ a=>z8o (λ a=>if(!(goN (.fl a)))=true then none else q0s (.fl a) (q8v C) (none::none::vs,[]) Z) a Z)
def q1k:Sx:=
 jC (jM "append" (jn 13) (j1 (jV (jc (jn 19) (jc (jn 20) (j1 (jn 21)))))))
def q9u:Sx:=
 λ C vs Z=>(w2g vs 14).bind λ a=>bnd (jP .Add (jy "<") (jF (jk (.fn 194)) (jc (jn 19) (j1 (jn 8)))) C vs Z) λ b Z=>(augA .Add (norm a) b).bind λ a=>some (q1c.next,setI vs 14 a,Z)
def k2y (C:q0b) (x:AV) (b:Vs×List AV) (Z:Store):Option ((Vs×List AV)×Store):=
 bnd (some (setI b.1 1 x,Z)) λ vs Z=>jI (jI (jQ .Eq (jR (jn 10) (jn 1)) (jn 34)) (jk true) (jk false)) (λ J vs Z=>bnd (q2h b.2 (nm vs 1 Z)) λ a Z=>some ((vs,a),Z)) (jk (vs,b.2)) C vs Z
def q5h:Sx:=
 jA 10 (jR (λ C vs Z=>bnd (bnd (jP .Add (jn 3) (jL false (j1 (jn 2))) C vs Z) λ a Z=>bnd (if(!(goN a))=true then none else q0s a (k2y C) (none::none::vs,[]) Z) λ a Z=>some (a.2,Z)) λ a Z=>q0w false a Z) (ji 0))
def q8l:Sx:=
 λ C vs Z=>(w2g vs 14).bind λ a=>bnd (jP .Add (jP .Add (jP .Add (jP .Add (jy " xmlns") (jI (jQ .NotEq (jn 32) (jy "")) (jP .Add (jy ":") (jn 32)) (jy ""))) (jy "=\"")) (λ J vs Z=>bnd (nm vs 10 Z) λ a Z=>k7m a ((w2g vs 3).bind λ a=>(getA Z a (.int 2)).bind litV) ((w2g vs 4).bind litV) Z)) (jy "\"") C vs Z) λ b Z=>(augA .Add (norm a) b).bind λ a=>some (q1c.next,setI vs 14 a,Z)
def q6a (C:q0b) (x:AV) (vs:Vs) (Z:Store):ResS:=
 jW 32 x vs Z λ vs Z=>jS q5h (jE q8l) C vs Z
def q9v:Sx:=
 jl (jn 31) q6a
def z6n:Sx:=
 λ C vs Z=>(w2g vs 14).bind λ a=>bnd (jP .Add (jP .Add (jP .Add (jP .Add (jy " ") (jF (jk (.fn 194)) (jc (jn 25) (j1 (jn 8))))) (jy "=\"")) (λ C vs Z=>bnd (jR (jn 23) (jn 25) C vs Z) λ a Z=>k7m a ((w2g vs 3).bind λ a=>(getA Z a (.int 2)).bind litV) ((w2g vs 4).bind litV) Z)) (jy "\"") C vs Z) λ b Z=>(augA .Add (norm a) b).bind λ a=>some (q1c.next,setI vs 14 a,Z)
def q6b (C:q0b) (x:AV) (vs:Vs) (Z:Store):ResS:=
 jW 25 x vs Z λ vs Z=>jE z6n C vs Z
def q7c:Sx:=
 jl (jn 29) q6b
def q4r:Sx:=
 λ J vs Z=>(w2g vs 14).bind λ a=>bnd (some (.str ">",Z)) λ b Z=>(augA .Add (norm a) b).bind λ a=>some (q1c.next,setI vs 14 a,Z)
def w6j:Sx:=
 jS q9u (jS q9v (jS q7c (jE q4r)))
def q1e:Sx:=
 jI (jX (jt (jT (jn 22))) (jX (jQ .NotEq (jn 19) (jy "{u}b")) (jk true))) w6j jN
def q8f:Sx:=
 jS w6i (jS q9t (jS q4o (jS q6x (jS q4p (jS q4q (jS q1a (jS q6y (jS q6z (jS q3e (jS q5d (jS q3p (jS q2l (jS q1t (jS q1k (jE q1e)))))))))))))))
def w6k:Sx:=
 jA 19 (jR (jM "pop" (jn 13) (jk [])) (ji 0))
noncomputable def q9w:Sx:=
 jC (jM "end" (jn 15) (j1 (jn 19)))
def q7d:Sx:=
 λ C vs Z=>(w2g vs 14).bind λ a=>bnd (jI (jT (jn 22)) (jy "") (jP .Add (jP .Add (jy "</") (jF (jk (.fn 194)) (jc (jn 19) (j1 (jn 8))))) (jy ">")) C vs Z) λ b Z=>(augA .Add (norm a) b).bind λ a=>some (q1c.next,setI vs 14 a,Z)
def w1i:Sx:=
 jS w6k (jS q9w (jE q7d))
def w6l:Sx:=
 jC (jM "data" (jn 15) (j1 (jy "t")))
def q9x:Sx:=
 λ C vs Z=>(w2g vs 14).bind λ a=>bnd (jI (jT (jn 22)) (jy "") (jy "t") C vs Z) λ b Z=>(augA .Add (norm a) b).bind λ a=>some (q1c.next,setI vs 14 a,Z)
def w1j:Sx:=
 jS w6l (jE q9x)
def z8z:Sx:=
 jI (jY (jQ .Eq (jn 17) (ji 4)) (jY (jX (jQ .Eq (jn 17) (ji 2)) (jX (jQ .Gt (jF (jk (.bf .len)) (j1 (jn 13))) (ji 1)) (jk true))) (jk false))) w1i w1j
def w1h:Sx:=
 jE z8z
def q5g:Sx:=
 jI (jQ .Lt (jn 17) (ji 2)) q8f w1h
def q2c (C:q0b) (x:AV) (vs:Vs) (Z:Store):ResS:=
 bnd ((q1g Z x).bind λ a=>asC a λ a b=>jW 17 a vs Z λ vs Z=>asC b λ a b=>jW 18 a vs Z λ vs Z=>asE b vs Z) λ vs Z=>jS q5f (jE q5g) C vs Z
def w0a:Sx:=
 jl (jn 16) q2c
def q4s:Sx:=
 jr (λ C vs Z=>andE (bnd (jM "join" (jy "") (j1 (jn 12)) C vs Z) λ a Z=>bnd (nm vs 14 Z) λ b Z=>cmpR Z .Eq a b) λ Z=>jF (jk (.fn 199)) (jc (jn 0) (j1 (jR (jn 3) (jP .Mod (jn 5) (ji 4))))) C vs Z)
def k1i:Sx:=
 jS w2n (jS w2o (jS w2p (jS q8w (jS q8x (jS q8y (jS q8z (jS q9a (jS q9b (jS w2q (jS q9y (jS q9z (jS q7e (jS w0a (jE q4s))))))))))))))
theorem k7v (C:q0b) (vs:Vs) (Z:Store):q1b (evN T C 40) (fnOf 204).scope.names (q0d (fnOf 204).scope) (fnOf 204).body vs Z=k1i C vs Z:=by kernel_rfl
noncomputable def fin (r:ResS):Res:=r.bind λ p=>match p.1 with | .next=>some (.none,p.2.2) | .ret v=>some (v,p.2.2)
abbrev Dn (n:Nat):q0b:=z3z T (w1w T n)
theorem q7j {m m1:ResS} {r:Res} (h:r=fin m) (e:m=m1):r=fin m1:=h.trans (congrArg fin e)
theorem q6e (n:Nat) (a0:AV) (Z:Store):Dn (n+1) 161 [a0] [] Z=fin (q1r (Dn n) [some a0] Z):=
 q7j (m:=q1b (evN T (Dn n) 40) (fnOf 161).scope.names (q0d (fnOf 161).scope) (fnOf 161).body [some a0] Z) tK (q5u _ _ _)
theorem q5r (n:Nat) (a0:AV) (Z:Store):Dn (n+1) 168 [a0] [] Z=fin (q1n (Dn n) [some a0] Z):=
 q7j (m:=q1b (evN T (Dn n) 40) (fnOf 168).scope.names (q0d (fnOf 168).scope) (fnOf 168).body [some a0] Z) tK (q5n _ _ _)
theorem w7f (n:Nat) (a0:AV) (Z:Store):Dn (n+1) 173 [a0] [] Z=fin (q7u (Dn n) [some a0] Z):=
 q7j (m:=q1b (evN T (Dn n) 40) (fnOf 173).scope.names (q0d (fnOf 173).scope) (fnOf 173).body [some a0] Z) tK (w5v _ _ _)
theorem w4s (n:Nat) (a0 a1:AV) (Z:Store):w1w T (n+1) 199 [a0,a1] [] Z=fin (q6r (Dn n) [some a0,some a1,none,none,none,none,none,none,none] Z):=
 q7j (m:=q1b (evN T (Dn n) 40) (fnOf 199).scope.names (q0d (fnOf 199).scope) (fnOf 199).body [some a0,some a1,none,none,none,none,none,none,none] Z) tK (w3s _ _ _)
theorem k9i (n:Nat) (a0:AV) (Z:Store):w1w T (n+1) 204 [a0] [] Z=fin (k1i (Dn n) [some a0,none,none,none,none,none,none,none,none,none,none,none,none,none,none,none,none,none,none,none,none,none,none,none,none,none,none,none,none,none,none,none,none] Z):=
 q7j (m:=q1b (evN T (Dn n) 40) (fnOf 204).scope.names (q0d (fnOf 204).scope) (fnOf 204).body [some a0,none,none,none,none,none,none,none,none,none,none,none,none,none,none,none,none,none,none,none,none,none,none,none,none,none,none,none,none,none,none,none,none] Z) tK (k7v _ _ _)
theorem q6f (n:Nat) (a0 a1:AV) (Z:Store):Dn (n+1) 90 [a0,a1] [] Z=fin (w5w (Dn n) [some a0,some a1,some .none,none,none,none,none] Z):=
 q7j (m:=q1b (evN T (Dn n) 40) (fnOf 90).scope.names (q0d (fnOf 90).scope) (fnOf 90).body [some a0,some a1,some .none,none,none,none,none] Z) tK (z5w _ _ _)
theorem z3j (n:Nat) (a0 a1:AV) (Z:Store):Dn (n+1) 97 [a0,a1] [] Z=fin (z2k (Dn n) [some a0,some a1] Z):=
 q7j (m:=q1b (evN T (Dn n) 40) (fnOf 97).scope.names (q0d (fnOf 97).scope) (fnOf 97).body [some a0,some a1] Z) tK (k2q _ _ _)
theorem z7j (n:Nat) (a0:AV) (Z:Store):Dn (n+1) 106 [a0] [] Z=fin (w5u (Dn n) [some a0,some (.bm .sJoin (.str (tF ""))),none,none,none] Z):=
 q7j (m:=q1b (evN T (Dn n) 40) (fnOf 106).scope.names (q0d (fnOf 106).scope) (fnOf 106).body [some a0,some (.bm .sJoin (.str (tF ""))),none,none,none] Z) tK (z5m _ _ _)
theorem w0p (n:Nat) (a0 a1 a2:AV) (Z:Store):Dn (n+1) 113 [a0,a1,a2] [] Z=fin (q7f (Dn n) [some a0,some a1,some a2] Z):=
 q7j (m:=q1b (evN T (Dn n) 40) (fnOf 113).scope.names (q0d (fnOf 113).scope) (fnOf 113).body [some a0,some a1,some a2] Z) tK (w8y _ _ _)
theorem w1x (n:Nat) (a0 a1 a2:AV) (Z:Store):Dn (n+1) 120 [a0,a1,a2] [] Z=fin (q9c (Dn n) [some a0,some a1,some a2,none] Z):=
 q7j (m:=q1b (evN T (Dn n) 40) (fnOf 120).scope.names (q0d (fnOf 120).scope) (fnOf 120).body [some a0,some a1,some a2,none] Z) tK (z9d _ _ _)
theorem z7k (n:Nat) (a0 a1 a2 a3:AV) (Z:Store):Dn (n+1) 126 [a0,a1,a2,a3] [] Z=fin (q7z (Dn n) [some a0,some a1,some a2,some a3,some .none,none,none,none,none,none,none,none,none,none,none,none,none,none,none,none] Z):=
 q7j (m:=q1b (evN T (Dn n) 40) (fnOf 126).scope.names (q0d (fnOf 126).scope) (fnOf 126).body [some a0,some a1,some a2,some a3,some .none,none,none,none,none,none,none,none,none,none,none,none,none,none,none,none] Z) tK (z6f _ _ _)
theorem z9s (n:Nat) (a0 a1:AV) (Z:Store):Dn (n+1) 133 [a0,a1] [] Z=fin (k1h (Dn n) [some a0,some a1] Z):=
 q7j (m:=q1b (evN T (Dn n) 40) (fnOf 133).scope.names (q0d (fnOf 133).scope) (fnOf 133).body [some a0,some a1] Z) tK (k7s _ _ _)
theorem nr {α:Sort _} {a b:α} (h:a=b):a=b:=h
theorem q0c {α β:Type} (a:α) (Z:Store) (f:α->Store->Option β):bnd (some (a,Z)) f=f a Z:=nr rfl
theorem q0p (vs:Vs) (Z:Store) (k:Vs->Store->ResS):sq (some (.next,vs,Z)) k=k vs Z:=nr rfl
theorem v3d (v:AV) (vs:Vs) (Z:Store) (k:Vs->Store->ResS):sq (some (.ret v,vs,Z)) k=some (.ret v,vs,Z):=nr rfl
theorem k3q (Z:Store) (rest:Store->ResT):andT (some (true,Z)) rest=rest Z:=nr rfl
theorem k9s (vs:Vs) (Z:Store):fin (some (.next,vs,Z))=some (.none,Z):=nr rfl
theorem j5v (v:AV) (vs:Vs) (Z:Store):fin (some (.ret v,vs,Z))=some (v,Z):=nr rfl
section
variable {α β:Type} {m:Option (α×Store)} {v:α} {Z:Store} {X:Option β}
theorem stk (h:m=some (v,Z)) (f:α->Store->Option β) (e:X=bnd m f):X=f v Z:=e.trans (by rw[h];rfl)
theorem stb {o:Option α} (h:o=some v) (f:α->Option β) (e:X=o.bind f):X=f v:=e.trans (by rw[h];rfl)
theorem stq {m:ResS} {V:Vs} {X:ResS} (h:m=some (.next,V,Z)) (k:Vs->Store->ResS) (e:X=sq m k):X=k V Z:=e.trans (by rw[h,q0p])
theorem strr {m:ResS} {V:Vs} {v:AV} {X:ResS} (h:m=some (.ret v,V,Z)) (k:Vs->Store->ResS) (e:X=sq m k):X=some (.ret v,V,Z):=e.trans (by rw[h,v3d])
theorem z7s {m:ResS} {V:Vs} {r:Res} (e:r=fin m) (h:m=some (.next,V,Z)):r=some (.none,Z):=e.trans (by rw[h,k9s])
theorem w5b {m:ResS} {V:Vs} {v:AV} {r:Res} (e:r=fin m) (h:m=some (.ret v,V,Z)):r=some (v,Z):=e.trans (by rw[h,j5v])
end
inductive Who where|t|c
structure W where
 out:List AV
 data:List AV
 dl:List AV
 nl:List AV
 n0:List AV
 pres:List AV
 seen:Bool
 done:Bool
 ign:Int
section
variable (w:W) (l:tW)
noncomputable def W.wo:W:=⟨l,w.data,w.dl,w.nl,w.n0,w.pres,w.seen,w.done,w.ign⟩
noncomputable def W.wd:W:=⟨w.out,l,w.dl,w.nl,w.n0,w.pres,w.seen,w.done,w.ign⟩
noncomputable def W.wl:W:=⟨w.out,w.data,l,w.nl,w.n0,w.pres,w.seen,w.done,w.ign⟩
noncomputable def W.wn:W:=⟨w.out,w.data,w.dl,l,w.n0,w.pres,w.seen,w.done,w.ign⟩
noncomputable def W.wz:W:=⟨w.out,w.data,w.dl,w.nl,l,w.pres,w.seen,w.done,w.ign⟩
noncomputable def W.wp:W:=⟨w.out,w.data,w.dl,w.nl,w.n0,l,w.seen,w.done,w.ign⟩
noncomputable def W.ws (s d:Bool):W:=⟨w.out,w.data,w.dl,w.nl,w.n0,w.pres,s,d,w.ign⟩
noncomputable def W.wi (g:Int):W:=⟨w.out,w.data,w.dl,w.nl,w.n0,w.pres,w.seen,w.done,g⟩
end
noncomputable def obA:Who->Nat | .t=>4 | .c=>2
noncomputable def ouA:Who->Nat | .t=>2 | .c=>1
noncomputable def daA:Who->Nat | .t=>5 | .c=>3
noncomputable def xmA:Who->Nat | .t=>6 | .c=>4
noncomputable def dlA:Who->Nat | .t=>7 | .c=>5
noncomputable def nlA:Who->Nat | .t=>8 | .c=>6
noncomputable def n0A:Who->Nat | .t=>9 | .c=>7
noncomputable def maA:Who->Nat | .t=>10 | .c=>8
noncomputable def prA:Who->Nat | .t=>11 | .c=>9
noncomputable def bA:Who->Nat | .t=>12 | .c=>10
noncomputable def exT:Who->AV | .t=>.ws [tF "{u}b"] | .c=>.none
noncomputable def exA:Who->AV | .t=>.ws [tF "{u}1}b"] | .c=>.none
noncomputable def xmlS:Str:=tF "http://www.w3.org/XML/1998/namespace"
noncomputable def xsS:Str:=tF "http://www.w3.org/2001/XMLSchema"
abbrev xmlP:AV:=q0a (xmlS,tF "xml")
def nsP:List (Str×Str):=[(xmlS,tF "xml"),(tF "http://www.w3.org/1999/xhtml",tF "html"),(tF "http://www.w3.org/1999/02/22-rdf-syntax-ns#",tF "rdf"),(tF "http://schemas.xmlsoap.org/wsdl/",tF "wsdl"),
 (xsS,tF "xs"),(tF "http://www.w3.org/2001/XMLSchema-instance",tF "xsi"),(tF "http://purl.org/dc/elements/1.1/",tF "dc")]
def nsV:AV:=.fl (nsP.map q0a)
def att (i:Who) (w:W):AObj:=
 .attrs [some (.bm .lAppend (.loc (ouA i))),some (.loc (daA i)),some (.bool false),some (.bool false),some (exA i),some (exT i),some (.bool false),some .none,some .none,
  some (.loc (dlA i)),some (.loc (nlA i)),some (.loc (maA i)),some (.loc (prA i)),some .none,some (.bool w.seen),some (.bool w.done),some (.int w.ign),some (.fn 173)]
def Bw (pr:tC) (pa:tW) (x:Store):Who->W->Store
 | .t,w=>.code :: .dict pr :: .list w.out :: .list pa::att .t w :: .list w.data :: .list [xmlP] :: .list w.dl :: .list (nsV::w.nl) :: .list w.n0 :: .dict [] :: .list w.pres::x
 | .c,w=>.code :: .list w.out::att .c w :: .list w.data :: .list [xmlP] :: .list w.dl :: .list (nsV::w.nl) :: .list w.n0 :: .dict [] :: .list w.pres::x
noncomputable def trip {β:Type} (L:Who->β):β×β:=(L .t,L .c)
theorem tri {β:Type} {L R:Who->β} (h:trip L=trip R):∀i,L i=R i:=by
 obtain⟨h1,h2⟩:=Prod.mk.inj h
 intro i
 cases i<;>assumption
theorem few {n:Nat} (h:n<100002):n<sizeLine:=Nat.lt_trans h tA
section
variable (pr:tC) (pa:tW) (x:Store) (a:W) (v:AV)
theorem j9i:∀i,biA .lAppend [.loc (ouA i),v] tB=if a.out.length<sizeLine then some (.none,Bw pr pa x i (a.wo (a.out++[v])))else none:=tri (nr tK)
theorem j4j:∀i,biA .lAppend [.loc (daA i),v] tB=if a.data.length<sizeLine then some (.none,Bw pr pa x i (a.wd (a.data++[v])))else none:=tri (nr tK)
theorem v4d:∀i,biA .lAppend [.loc (dlA i),v] tB=if a.dl.length<sizeLine then some (.none,Bw pr pa x i (a.wl (a.dl++[v])))else none:=tri (nr tK)
theorem v4e:∀i,biA .lAppend [.loc (nlA i),v] tB=if(nsV::a.nl).length<sizeLine then some (.none,Bw pr pa x i (a.wn (a.nl++[v])))else none:=tri (nr tK)
theorem j4k:∀i,biA .lAppend [.loc (prA i),v] tB=if a.pres.length<sizeLine then some (.none,Bw pr pa x i (a.wp (a.pres++[v])))else none:=tri (nr tK)
variable (i:Who)
theorem k7c (h:a.out.length<100000):biA .lAppend [.loc (ouA i),v] tB=some (.none,Bw pr pa x i (a.wo (a.out++[v]))):=(j9i ..).trans (if_pos (few (Nat.lt_trans h tA)))
theorem v0c (h:a.data.length<100000):biA .lAppend [.loc (daA i),v] tB=some (.none,Bw pr pa x i (a.wd (a.data++[v]))):=(j4j ..).trans (if_pos (few (Nat.lt_trans h tA)))
theorem dl_a (h:a.dl.length<100000):biA .lAppend [.loc (dlA i),v] tB=some (.none,Bw pr pa x i (a.wl (a.dl++[v]))):=(v4d ..).trans (if_pos (few (Nat.lt_trans h tA)))
theorem nl_a (h:a.nl.length<100000):biA .lAppend [.loc (nlA i),v] tB=some (.none,Bw pr pa x i (a.wn (a.nl++[v]))):=(v4e ..).trans (if_pos (few (Nat.lt_trans (Nat.succ_lt_succ h) tA)))
theorem v2m (h:a.pres.length<100000):biA .lAppend [.loc (prA i),v] tB=some (.none,Bw pr pa x i (a.wp (a.pres++[v]))):=(j4k ..).trans (if_pos (few (Nat.lt_trans h tA)))
end
end Mine
end
noncomputable section
set_option tactic.hygienic false
set_option maxHeartbeats 8000000
namespace Mine
theorem z4q {β:Type}:∀{l:List (Addr×β)} {a:Addr} {b:β},l.lookup a=some b->(a,b)∈l
 | (x,y)::l,a,b,h=>by
  dsimp only[List.lookup_cons]at h
  by_cases q:a==x
  ·rw[q]at h
   obtain rfl:=zE h
   rw[eq_of_beq q]
   simp
  ·simp only[Bool.not_eq_true]at q
   rw[q]at h
   exact zG _ (z4q h)
noncomputable def glA:List (Str×Addr):=[("C14NWriterTarget",150),("_law_walk",173),("_law_key",180),("_law_uri",187),("_law_name",194),("_law_chain",199),("_escape_cdata_c14n",161),("_escape_attrib_c14n",168)]
noncomputable def glB:List (Str×BI):=[("sum",.sum),("len",.len),("list",.list),("range",.range),("set",.set),("sorted",.sorted),("str",.str),("dict",.dict)]
abbrev DE:=Str×Tok×Str×Tok
noncomputable def deE (w:World) (p:DE):DictEntry:=⟨PyData.keyHash w.params p.1,.str p.1 p.2.1,.str p.2.2.1 p.2.2.2⟩
noncomputable def deX (e:DictEntry):DE:=match e.key,e.val with | .str k t,.str v u=>(k,t,v,u)|_,_=>(Str.empty,0,Str.empty,0)
def esAt (K:Frag) (a:Addr):List DictEntry:=match (oAt K a).data with | .dict es _=>es.toList|_=>[]
theorem z9w {prog:Program} {w:World}:∀l:List DE,Pairs (strKind prog w) (l.map (deE w)) (l.map λ p=>(p.1,.str p.2.2.1 p.2.2.2))
 | []=>.nil
 | p::l=>.cons (strKind_is prog w p.1 p.2.1) rfl (z9w l)
theorem j2t {g:G}:∀l:List DE,(∀p∈l,p.2.2.1.length<=sizeLine)->VRs cx g (l.map λ p=>.str p.2.2.1) (l.map λ p=>.str p.2.2.1 p.2.2.2)
 | [],_=>.nil
 | p::l,h=>.cons ⟨_,rfl,h p (zL ..)⟩ (j2t l λ q hq=>h q (zG _ hq))
theorem v4q {g:G} {a:Addr} {o:Obj} {es:Array DictEntry} {ep:Nat} {l:List DE} (i:g.I a=some o) (hx:o.ExactDict) (hd:o.data = .dict es ep) (he:es.toList=l.map (deE cx.w)) (hn:(l.map (·.1)).Nodup) (hs:(a==sysModules)=false) (hz:l.length<=sizeLine) (h1:∀p∈l,p.1.length<=sizeLine/\p.2.2.1.length<=sizeLine) :
  VR cx g (.fd (l.map (·.1)) (l.map λ p=>.str p.2.2.1)) (.ref a):=by
 refine RFd.mk a o (l.map λ p=>.str p.2.2.1 p.2.2.2) rfl i ⟨es,ep,hx,hd,λ e h=>?_,?_,?_⟩ (by rw[zH,zH]) (j2t l λ p hp=>(h1 p hp).2) hs (by rw[zH];exact hz) λ k hk=>?_
 ·obtain⟨p,_,rfl⟩:=List.mem_map.mp (he▸Array.mem_toList_iff.mpr h)
  exact⟨p.1,strKind_is _ _ _ _,rfl⟩
 ·rw[he,show(l.map (·.1)).zip (l.map λ p=>Value.str p.2.2.1 p.2.2.2)=l.map λ p=>(p.1,.str p.2.2.1 p.2.2.2)from List.zip_map' ..]
  exact z9w l
 ·rw[show(l.map (·.1)).zip (l.map λ p=>Value.str p.2.2.1 p.2.2.2)=l.map λ p=>(p.1,.str p.2.2.1 p.2.2.2)from List.zip_map' ..,List.map_map]
  exact hn
 ·obtain⟨p,hp,rfl⟩:=List.mem_map.mp hk
  exact(h1 p hp).1
def cAt (K:Frag) (a:Addr):Addr:=match (fdAt K a).code with | .ref c=>c|_=>0
section
def l44 (w:World):List DE:=(esAt (hd.heap_1 w.params) 44).map deX
def e44 (w:World):Nat:=match (oAt (hd.heap_1 w.params) 44).data with | .dict _ n=>n|_=>0
theorem ns44 {g:G} (i:g.I 44=some (oAt (hd.heap_1 cx.w.params) 44)):VR cx g nsM (.ref 44):=by
 have e:nsM = .fd ((l44 cx.w).map (·.1)) ((l44 cx.w).map λ p=>.str p.2.2.1):=by kernel_rfl
 have k1:(l44 cx.w).map (λ p=>(p.1,p.2.2.1))=nsP:=by kernel_rfl
 rw[e]
 refine v4q (es:=(esAt (hd.heap_1 cx.w.params) 44).toArray) (ep:=e44 cx.w) i ⟨by kernel_rfl,by kernel_rfl,by kernel_rfl⟩ tK tK ?_ tA ?_ λ p hp=>?_
 ·rw[show(l44 cx.w).map (·.1)=((l44 cx.w).map λ p=>(p.1,p.2.2.1)).map (·.1) by rw[List.map_map];rfl,k1]
  decide +kernel
 ·rw[<-zH (f:=λ p:DE=>(p.1,p.2.2.1)),k1]
  decide
 ·have m:(p.1,p.2.2.1)∈(l44 cx.w).map (λ p=>(p.1,p.2.2.1)):=List.mem_map_of_mem (f:=λ p:DE=>(p.1,p.2.2.1)) hp
  rw[k1]at m
  exact(by decide +kernel:∀q∈nsP,q.1.length<=sizeLine/\q.2.length<=sizeLine) _ m
theorem gl3 (ec:cx=cx3 (hd.heap_1 w.params) w h mg mb) (KX:(hd.heap_1 w.params).In h) (hg:h.Ns mainGlobals mg) (hb:h.Ns builtinsNs mb) (bi:∀x:Str,x≠"__name__"->mb x=bootBuiltins x):GlOk (cx3 (hd.heap_1 w.params) w h mg mb) T where
 mods:=⟨3,_,by decide,q8p KX tK 3 (oAt (hd.heap_1 w.params) 3) tK⟩
 gns:=z1p hg (by show(123:Addr)≠mainGlobals;decide)
 bns:=z1p hb (by show(123:Addr)≠builtinsNs;decide)
 names:=λ x v e=>by
  have X:=q8p KX tK
  have m:(x,v)∈T.gl:=mem_of_lookup e
  have k3:(hd.heap_1 w.params).lookup mainGlobals=some (oAt (hd.heap_1 w.params) mainGlobals):=by kernel_rfl
  have m:(x,v)∈(glA.map (λ p=>(p.1,AV.fn p.2))++glB.map (λ p=>(p.1,AV.bf p.2)))++[(tF "_namespace_map",nsM)]:=m
  rcases zK m with m|m
  ·rcases zK m with m|m<;>obtain⟨p,hp,q⟩:=List.mem_map.mp m<;>obtain⟨rfl,rfl⟩:=Prod.mk.inj q
   ·exact⟨.ref p.2,.inl (z4z KX hg k3 (ME hp (f:=λ p=>lookIn p.1 (oAt (hd.heap_1 w.params) mainGlobals)) (g:=λ p=>some (some (.ref p.2))) tK)),λ g J=>by rfl⟩
   ·exact⟨BI.val p.2,.inr ⟨z4z KX hg k3 (ME hp (f:=λ p=>lookIn p.1 (oAt (hd.heap_1 w.params) mainGlobals)) (g:=λ p=>some none) tK),
     (bi _ (of_decide_eq_false (ME hp (f:=λ p=>decide (p.1 = "__name__")) (g:=λ p=>false) tK))).trans (ME hp (f:=λ p=>bootBuiltins p.1) (g:=λ p=>some (BI.val p.2)) tK)⟩,λ g J=>by rfl⟩
  ·obtain⟨rfl,rfl⟩:=Prod.mk.inj (zF m)
   exact⟨.ref 44,.inl (z4z KX hg k3 tK),λ g hI=>by
    have q:=hI 44 _ (X 44 (oAt (hd.heap_1 w.params) 44) tK)
    rw[<-ec]
    exact ns44 (by rw[show cx.w=w from congrArg Cx.w ec];exact q)⟩
theorem cls3 (KX:(hd.heap_1 w.params).In h):q6d (cx3 (hd.heap_1 w.params) w h mg mb) T where
 X:=q8p KX tK
 C:=rfl
 an:=rfl
 ga:=by kernel_rfl
 gh:=by kernel_rfl
 sa:=by kernel_rfl
 over:=by kernel_rfl
 dict:=by kernel_rfl
 attr:=λ x hx=>by
  refine⟨ME hx (f:=λ x=>takerIn (hd.heap_1 w.params) 150 x) (g:=λ J=>some none) tK,?_⟩
  have m:x∈T.an.take 17++[("_iter_namespaces" : Str)]:=hx
  rcases zK m with m|m
  ·exact .inl (ME m (f:=λ x=>findIn (hd.heap_1 w.params) (.ref 150) x) (g:=λ J=>some none) tK)
  ·obtain rfl:=zF m
   exact .inr ⟨75,_,by kernel_rfl,by kernel_rfl,(by kernel_rfl:specialIn (hd.heap_1 w.params) (.ref 75) "__get__" = some (some (.builtin "function.__get__"))),by kernel_rfl⟩
 ms:=λ x f J e=>by
  have m:(x,f)∈T.ms:=mem_of_lookup e
  exact⟨ME m (f:=λ p=>findIn (hd.heap_1 w.params) (.ref 150) p.1) (g:=λ p=>some (some (.ref p.2))) tK,ME m (f:=λ p=>typeIn (hd.heap_1 w.params) (.ref p.2)) (g:=λ p=>some (.type "function")) tK,
   ME m (f:=λ p=>fnIn (hd.heap_1 w.params) p.2) (g:=λ p=>true) tK,ME m (f:=λ p=>specialIn (hd.heap_1 w.params) (.ref p.2) "__get__") (g:=λ p=>some (some (.builtin "function.__get__"))) tK,
   ME m (f:=λ p=>takesIn (hd.heap_1 w.params) (.ref p.2)) (g:=λ p=>some false) tK,ME m (f:=λ p=>copiedNames.contains p.1) (g:=λ p=>false) tK⟩
theorem v5k:w2u (cx3 (hd.heap_1 w.params) w h mg mb) T where
 makes:=by kernel_rfl
 ini:=by kernel_rfl
 iniFn:=by kernel_rfl
 keep:=by kernel_rfl
theorem lam3 (KX:(hd.heap_1 w.params).In h) (hg:h.Ns mainGlobals mg) (bm:∃bm ob,mg "__builtins__" = some (.ref bm)/\bm≠builtinsNs/\h.get? bm=some ob/\ob.cls = .type "module"/\ob.dict=some builtinsNs/\ob.data = .plain):z7e (cx3 (hd.heap_1 w.params) w h mg mb) T where
 gA:=rfl
 bA:=rfl
 code:=codeHd_of_K (q8p KX tK) tK
 lp:=rfl
 bm:=by
  rcases _:bm with⟨b,ob,e1,e2,e3,e4,e5,e6⟩
  have k3:(hd.heap_1 w.params).lookup mainGlobals=some (oAt (hd.heap_1 w.params) mainGlobals):=by kernel_rfl
  have e0:mg "__builtins__" = some (.ref 4):=z4z KX hg k3 tK
  rw[e0]at e1
  rcases e1
  exact⟨4,ob,e0,e2,by decide,(w0r h tA).trans e3,e4,e5,e6⟩
 out:=w1y h 123
theorem fn3 (ec:cx=cx3 (hd.heap_1 w.params) w h mg mb) (KX:(hd.heap_1 w.params).In h) (lim:h.NoLimit):FnOk (cx3 (hd.heap_1 w.params) w h mg mb) T where
 X:=q8p KX tK
 lim:=let ⟨mc,a,b⟩:=lim;⟨mc,z1p a tA,b⟩
 fn:=λ a f e=>by
  have X:=q8p KX tK
  have m:(a,f)∈T.fn:=z4q e
  have free:=ME m (f:=λ p=>p.2.scope.names.all (λ p=>match p.2 with | .free=>false|_=>true)) (g:=λ p=>true) tK
  have st:=ME m (f:=λ p=>(p.2.pars++p.2.kwd.map (·.1)).all (q1x p.2.scope.names)) (g:=λ p=>true) tK
  refine FnIs.mk (oAt (hd.heap_1 w.params) a) (fdAt (hd.heap_1 w.params) a) (X _ _ (ME m (f:=λ p=>(hd.heap_1 w.params).lookup p.1) (g:=λ p=>some (oAt (hd.heap_1 w.params) p.1)) tK)) (ME m (f:=λ p=>(oAt (hd.heap_1 w.params) p.1).data) (g:=λ p=>.func (fdAt (hd.heap_1 w.params) p.1)) tK)
   (ME m (f:=λ p=>(fdAt (hd.heap_1 w.params) p.1).body) (g:=λ p=>.stmts p.2.body) tK) (ME m (f:=λ p=>(fdAt (hd.heap_1 w.params) p.1).scope) (g:=λ p=>p.2.scope) tK)
   ⟨ME m (f:=λ p=>p.2.scope.kind) (g:=λ p=>.function) tK,λ p hp q=>?_,ME m (f:=λ p=>p.2.scope.isCoroutine) (g:=λ p=>false) tK,ME m (f:=λ p=>p.2.scope.isGenerator) (g:=λ p=>false) tK⟩
   (ME m (f:=λ p=>(fdAt (hd.heap_1 w.params) p.1).globals) (g:=λ p=>mainGlobals) tK) (ME m (f:=λ p=>(fdAt (hd.heap_1 w.params) p.1).builtins) (g:=λ p=>builtinsNs) tK) (ME m (f:=λ p=>(fdAt (hd.heap_1 w.params) p.1).closure) (g:=λ p=>[]) tK)
   ⟨cAt (hd.heap_1 w.params) a,_,_,_,ME m (f:=λ p=>(fdAt (hd.heap_1 w.params) p.1).code) (g:=λ p=>.ref (cAt (hd.heap_1 w.params) p.1)) tK,X _ _ (ME m (f:=λ p=>(hd.heap_1 w.params).lookup (cAt (hd.heap_1 w.params) p.1)) (g:=λ p=>some (oAt (hd.heap_1 w.params) (cAt (hd.heap_1 w.params) p.1))) tK),ME m (f:=λ p=>(oAt (hd.heap_1 w.params) (cAt (hd.heap_1 w.params) p.1)).data) (g:=λ p=>.fields (csAt (hd.heap_1 w.params) (cAt (hd.heap_1 w.params) p.1))) tK,
    ME m (f:=λ p=>(csAt (hd.heap_1 w.params) (cAt (hd.heap_1 w.params) p.1))[1]?) (g:=λ p=>some (.str (fdAt (hd.heap_1 w.params) p.1).qualname (tkAt (hd.heap_1 w.params) (cAt (hd.heap_1 w.params) p.1)))) tK⟩
   (ME m (f:=λ p=>keepIn (hd.heap_1 w.params) (.ref p.1)) (g:=λ p=>true) tK) (ME m (f:=λ p=>fnIn (hd.heap_1 w.params) p.1) (g:=λ p=>true) tK) (λ q=>?_) (λ p hp=>List.all_eq_true.mp st p hp)
   ⟨(dcs a).map vn,(kcs a).map vn,λ g hI=>?_,λ kn hkn us uk h1 h2 s Xs=>kp_binds Xs λ S=>?_⟩
  ·have:=List.all_eq_true.mp free p hp
   rw[q]at this
   exact Bool.noConfusion this
  ·have e:=ME m (f:=λ p=>if(p.2.scope.names.lookup ("resolved_names" : Str)).isSome then((fdAt (hd.heap_1 w.params) p.1).code,(fdAt (hd.heap_1 w.params) p.1).qualname++".<locals>.")else(.ref 125,tF "C14NWriterTarget._start"++".<locals>.")) (g:=λ p=>(.ref 125,tF "C14NWriterTarget._start"++".<locals>.")) tK
   dsimp only at e
   rw[if_pos q]at e
   exact Prod.mk.inj e
  ·have e1:=ME m (f:=λ p=>p.2.dfl) (g:=λ p=>(dcs p.1).map kn) tK
   have e2:=ME m (f:=λ p=>p.2.kwd.map (·.2)) (g:=λ p=>(kcs p.1).map kn) tK
   dsimp only at e1 e2
   rw[e1,e2]
   have b:∀n,VR cx g (kn n) (vn n)
    | 0=>.none_
    | 1=>.bool_
    | _+2=>⟨98,.str "" 437,rfl,hI 98 _ (X 98 _ tK),⟨_,rfl,Nat.zero_le _⟩⟩
   rw[<-ec]
   exact⟨j4h b _,j4h b _⟩
  ·obtain⟨φ,rfl⟩:=v3n us (Nat.eq_sub_of_add_eq h1)
   obtain⟨ψ,rfl⟩:=v3n uk h2
   have m':((a,f),kn)∈T.fn.flatMap λ p=>p.2.kws.map λ kn=>(p,kn):=List.mem_flatMap.mpr ⟨(a,f),m,List.mem_map.mpr ⟨kn,hkn,rfl⟩⟩
   exact ME m' (f:=λ q=>peek (hd.heap_1 w.params) S (bindArgs (fdAt (hd.heap_1 w.params) q.1.1) ⟨(List.range (q.1.2.pars.length - q.1.2.dfl.length)).map φ,q.2.zip ((List.range q.2.length).map ψ)⟩)) (g:=λ q=>some (q.1.2.pars.zip ((List.range (q.1.2.pars.length - q.1.2.dfl.length)).map φ++(dcs q.1.1).map vn)++pick (q.1.2.kwd.map (·.1)) ((kcs q.1.1).map vn) (q.2.zip ((List.range q.2.length).map ψ)))) tK
theorem all3 (ec:cx=cx3 (hd.heap_1 w.params) w h mg mb) (KX:(hd.heap_1 w.params).In h) (hg:h.Ns mainGlobals mg) (hb:h.Ns builtinsNs mb) (lim:h.NoLimit) (bi:∀x:Str,x≠"__name__"->mb x=bootBuiltins x)
  (bm:∃bm ob,mg "__builtins__" = some (.ref bm)/\bm≠builtinsNs/\h.get? bm=some ob/\ob.cls = .type "module"/\ob.dict=some builtinsNs/\ob.data = .plain):All (cx3 (hd.heap_1 w.params) w h mg mb) T:=
 ⟨gl3 ec KX hg hb bi,cls3 KX,v5k,fn3 ec KX lim,lam3 KX hg bm,by show T.an.length<=100;decide⟩
end
end Mine
end
noncomputable section
set_option tactic.hygienic false
namespace Mine
noncomputable abbrev lst (x:Str):List Nat:=x.cps.toList
theorem q6o {x y:Str} (h:lst x=lst y):x=y:=by
 cases x;cases y
 simp only[lst]at h
 congr
 exact Array.toList_inj.mp h
theorem q0t (x:Str):(lst x).length=x.length:=by simp[lst,Str.length]
theorem q0j (x y:Str):lst (x++y)=lst x++lst y:=by simp[lst,Str.cps_append]
noncomputable def sub1 (c:Nat) (z:List Nat) (l:List Nat):List Nat:=l.flatMap λ a=>if a=c then z else[a]
theorem w0k (c:Nat) (z a b:List Nat):sub1 c z (a++b)=sub1 c z a++sub1 c z b:=by simp[sub1]
theorem w1p (c:Nat) (z:List Nat):∀l:List Nat,c∉l->sub1 c z l=l
 | [],_=>rfl
 | k::r,h=>by
  have h1:¬ k=c:=λ e=>h (e▸zL ..)
  have ih:=w1p c z r λ m=>h (zG _ m)
  simp only[sub1,List.flatMap_cons,if_neg h1]at ih ⊢
  rw[ih];rfl
theorem j2b (c:Nat) (z:List Nat):sub1 c z [c]=z:=by simp[sub1]
theorem z6z (c:Nat) (z:Str):∀parts:List Str,(∀p∈parts,c∉p.cps.toList)->sub1 c (lst z) (lst (Str.join ⟨#[c]⟩ parts))=lst (Str.join z parts)
 | [],_=>rfl
 | [p],h=>w1p c _ _ (h p (List.mem_singleton.mpr rfl))
 | p::q::r,h=>by
  have ih:=z6z c z (q::r) λ a ha=>h a (zG _ ha)
  show sub1 c (lst z) (lst (p++⟨#[c]⟩++Str.join ⟨#[c]⟩ (q::r)))=lst (p++z++Str.join z (q::r))
  simp only[q0j,q0j,q0j,q0j,w0k,w0k,ih,w1p c _ _ (h p (zL ..))]
  rw[j2b]
theorem z8s (x z:Str) (c:Nat):lst (Txt.replace x ⟨#[c]⟩ z)=sub1 c (lst z) (lst x):=by
 rw[StrLaws.replace_one,<-z6z c z _ (StrLaws.split_free x c),StrLaws.join_split]
theorem z3o (x:Str) (c:Nat):Txt.contains x ⟨#[c]⟩=decide (c∈lst x):=StrLaws.found_one x c
noncomputable def esc1 (c:Nat) (z:Str) (t:Str):Str:=if Txt.contains t ⟨#[c]⟩=true then Txt.replace t ⟨#[c]⟩ z else t
set_option tactic.hygienic true in theorem k0c (c:Nat) (z t:Str):lst (esc1 c z t)=sub1 c (lst z) (lst t):=by
 unfold esc1
 split
 ·exact z8s _ _ _
 ·rename_i h
  rw[z3o,decide_eq_true_eq]at h
  exact(w1p c _ _ h).symm
theorem k1m (c:Nat) (z:List Nat) (m:Nat) (hz:z.length<=m) (hm:1<=m):∀l:List Nat,(sub1 c z l).length<=m * l.length
 | []=>by simp[sub1]
 | k::r=>by
  have ih:=k1m c z m hz hm r
  simp only[sub1,List.flatMap_cons,zI,List.length_cons]at ih ⊢
  have:(if k=c then z else[k]).length<=m:=by
   split
   ·exact hz
   ·exact hm
  lia
theorem k9p (c:Nat) (z t:Str) (h:z.length<=6):(esc1 c z t).length<=6 * t.length:=by
 simp only[<-q0t,k0c,<-q0t]
 exact k1m c _ 6 (by exact h) (by exact Nat.succ_pos _) _
theorem j0h:∀ts:List Str,lst (Txt.join ⟨#[]⟩ ts)=(ts.map lst).flatten:=by
 intro ts
 show lst (Builtin.Str.glued ⟨#[]⟩ ts)=_
 rw[StrLaws.glued_eq_join]
 induction ts with
 | nil=>rfl
 | cons p r ih=>
  cases r with
  | nil=>simp[Str.join,lst]
  | cons q r=>
   show lst (p++⟨#[]⟩++Str.join ⟨#[]⟩ (q::r))=_
   simp only[q0j,q0j,ih]
   simp[lst]
end Mine
end
noncomputable section
set_option tactic.hygienic false
set_option backward.match.sparseCases false
set_option maxHeartbeats 4000000
namespace Mine
def es (V:Vs) (m:Res):ResS:=bnd m λ J s=>some (.next,V,s)
def asg (V:Vs) (k:Nat) (m:Res):ResS:=bnd m λ x s=>some (.next,setI V k x,s)
def cal (C:q0b) (f:Callee) (m:Res):Res:=bnd (evC m λ s=>some ([],s)) λ xs s=>bnd (some ([],s)) λ kv s=>w4k T C f xs kv s
def calA (C:q0b) (f:AV) (m:Res):Res:=bnd (evC m λ s=>some ([],s)) λ xs s=>bnd (some ([],s)) λ kv s=>q7i T C f xs kv s
def iff (m:ResT) (a b:Store->ResS):ResS:=bnd m λ c s=>if c=true then a s else b s
def ifn (V:Vs) (m:ResT) (a:Store->ResS):ResS:=bnd m λ c s=>if c=true then a s else some (.next,V,s)
section
variable {C:q0b} {m:Res} {mt:ResT} {v u y:AV} {V:Vs} {k:Nat} {Z Z':Store} {b:BI} {a:Addr}
theorem es_n (h:m=some (v,Z)):es V m=some (.next,V,Z):=by rw[h];rfl
theorem q4v (h:m=some (v,Z)):asg V k m=some (.next,setI V k v,Z):=by rw[h];rfl
theorem q4x (h:m=some (v,Z)) (h2:biA b [u,v] Z=some (y,Z')):cal C (.bi b u) m=some (y,Z'):=by rw[h];exact h2
theorem j2r (h:m=some (v,Z)) (h2:biA .lAppend [u,v] Z=some (y,Z')):cal C (.val (.bm .lAppend u)) m=some (y,Z'):=by rw[h];exact h2
theorem k4f (h:m=some (v,Z)) (h2:biA .lAppend [u,v] Z=some (y,Z')):calA C (.bm .lAppend u) m=some (y,Z'):=by rw[h];exact h2
theorem z0r {a:Addr} (h:m=some (v,Z)) (ha:(a==T.C)=false:=by decide):calA C (.fn a) m=C a [v] [] Z:=by rw[h];exact if_neg (λ e=>absurd (beq_iff_eq.mpr e) (by rw[ha];exact Bool.false_ne_true))
theorem j0c {a b:Store->ResS} (h:mt=some (true,Z)):iff mt a b=a Z:=by rw[h];rfl
theorem j0b {a b:Store->ResS} (h:mt=some (false,Z)):iff mt a b=b Z:=by rw[h];rfl
theorem w5d {a:Store->ResS} (h:mt=some (true,Z)):ifn V mt a=a Z:=by rw[h];rfl
theorem w3r {a:Store->ResS} (h:mt=some (false,Z)):ifn V mt a=some (.next,V,Z):=by rw[h];rfl
end
theorem q3h {p z:Str} {c:Nat} (hp:p=⟨#[c]⟩) (hne:p≠z) (t:Str) (hz:t.length+(t.length+1) * z.length<=sizeLine) (Z:Store) (B:Sx) (C:q0b) :
  jS (jI (jQ .In (jy p) (jn 0)) (jE (jA 0 (λ J vs Z=>bnd (nm vs 0 Z) λ a Z=>q9s a p z Z))) jN) B C [some (.str t)] Z=B C [some (.str (esc1 c z t))] Z:=by
 subst hp
 have e:cmpT Z .In (.str ⟨#[c]⟩) (.str t)=some (Txt.contains t ⟨#[c]⟩,Z):=rfl
 have n0:∀s,nm [some (AV.str t)] 0 s=some (.str t,s):=λ J=>rfl
 unfold jS jI jQ jy jn
 simp only[q0c,n0,e]
 unfold esc1
 split
 ·have r:q9s (.str t) ⟨#[c]⟩ z Z=some (.str (Txt.replace t ⟨#[c]⟩ z),Z):=by
   exact if_pos ⟨hne,hz⟩
  unfold jE jA
  simp only[n0,r,q0c,q0p]
  rfl
 ·rfl
def escC (t:Str):Str:=esc1 13 (tF "&#xD;") (esc1 62 (tF "&gt;") (esc1 60 (tF "&lt;") (esc1 38 (tF "&amp;") t)))
def escA (t:Str):Str:=esc1 13 (tF "&#xD;") (esc1 10 (tF "&#xA;") (esc1 9 (tF "&#x9;") (esc1 34 (tF "&quot;") (esc1 60 (tF "&lt;") (esc1 38 (tF "&amp;") t)))))
theorem room {t z:Str} {m:Nat} (ht:t.length<=m) (hm:m+(m+1) * 6<=sizeLine) (hz:z.length<=6):t.length+(t.length+1) * z.length<=sizeLine:=
 jH (zD ht (Nat.mul_le_mul (Nat.succ_le_succ ht) hz)) hm
theorem q4y (c:Nat) {z t:Str} {m:Nat} (hz:z.length<=6) (h:t.length<=m):(esc1 c z t).length<=6 * m:=jH (k9p c z t hz) (zJ 6 h)
theorem j5t (n:Nat) (t:Str) (h:t.length<=5000) (Z:Store):Dn (n+1) 161 [.str t] [] Z=some (.str (escC t),Z):=by
 rw[q6e]
 unfold q1r
 rw[jE]
 have h1:=q4y 38 (z:=tF "&amp;") tA h
 have h2:=q4y 60 (z:=tF "&lt;") tA h1
 have h3:=q4y 62 (z:=tF "&gt;") tA h2
 rw[q3h (p:=tF "&") (c:=38) (by rfl) tA _ (room h tA tA),q3h (p:=tF "<") (c:=60) (by rfl) tA _ (room h1 tA tA),
  q3h (p:=tF ">") (c:=62) (by rfl) tA _ (room h2 tA tA),q3h (p:=tF "\r") (c:=13) (by rfl) tA _ (room h3 tA tA)]
 rfl
theorem k5j {t:Str} {m:Nat} (h:t.length<=m):(escA t).length<=46656 * m:=
 jH (q4y 13 tA (q4y 10 tA (q4y 9 tA (q4y 34 tA (q4y 60 tA (q4y 38 tA h)))))) (zA (by rw[<-Nat.mul_assoc,<-Nat.mul_assoc,<-Nat.mul_assoc,<-Nat.mul_assoc,<-Nat.mul_assoc]))
theorem j5s (n:Nat) (t:Str) (h:t.length<=50) (Z:Store):Dn (n+1) 168 [.str t] [] Z=some (.str (escA t),Z):=by
 rw[q5r]
 unfold q1n
 rw[jE]
 have h1:=q4y 38 (z:=tF "&amp;") tA h
 have h2:=q4y 60 (z:=tF "&lt;") tA h1
 have h3:=q4y 34 (z:=tF "&quot;") tA h2
 have h4:=q4y 9 (z:=tF "&#x9;") tA h3
 have h5:=q4y 10 (z:=tF "&#xA;") tA h4
 rw[q3h (p:=tF "&") (c:=38) (by rfl) tA _ (room h tA tA),q3h (p:=tF "<") (c:=60) (by rfl) tA _ (room h1 tA tA),
  q3h (p:=tF "\"") (c:=34) (by rfl) tA _ (room h2 tA tA),q3h (p:=tF "\t") (c:=9) (by rfl) tA _ (room h3 tA tA),
  q3h (p:=tF "\n") (c:=10) (by rfl) tA _ (room h4 tA tA),q3h (p:=tF "\r") (c:=13) (by rfl) tA _ (room h5 tA tA)]
 rfl
section
variable (C:q0b) (pr:tC) (pa:tW) (x:Store) (i:Who) (a:W)
theorem W.ign0 {a:W} {g:Int} (h:a.ign=g):a=a.wi g:=by cases a;cases h;rfl
theorem j5j (n:Nat) (d:Str) (hg:a.ign=0) (h:a.data.length<100000):Dn (n+1) 97 [.obj (obA i),.str d] [] tB=some (.none,Bw pr pa x i (a.wd (a.data++[.str d]))):=by
 rw[W.ign0 hg]
 have e:∀i,z2k (Dn n) [some (.obj (obA i)),some (.str d)] (Bw pr pa x i (a.wi 0))=sq (sq (es [some (.obj (obA i)),some (.str d)] (cal (Dn n) (.bi .lAppend (.loc (daA i))) (some (.str d,Bw pr pa x i (a.wi 0))))) λ v s=>some (.next,v,s)) λ v s=>some (.next,v,s):=tri (nr tK)
 exact z7s (z3j ..) (stq (stq (es_n (q4x rfl (v0c pr pa x (a.wi 0) _ i h))) _ rfl) _ (e i))
abbrev vF (i:Who) (y:Option AV):Vs:=[some (.obj (obA i)),some (.bm .sJoin (.str (tF ""))),y,none,none]
def fl4 (V:Vs) (i:Who) (b:Bool) (Z:Store):ResS:=sq (ifn V (andT (some (b,Z)) λ s0=>andT (bnd (j9k s0 (.obj (obA i)) (tF "_root_seen")) λ y s=>trT s y) λ s=>some (true,s)) (w3d C V)) λ v s=>some (.next,v,s)
theorem W.seen_eq {a:W} (h:a.seen=true):a=a.ws true a.done:=by cases a;cases h;rfl
theorem k9v (n:Nat) (ts:tL) (ht:q0z a.data=some ts) (hz:(ts.map (·.length)).sum<=5000) (y:Str) (hx:Txt.join (tF "") ts=y) (hl:y.length<=5000) (hn:(y.length !=0)=true) (hs:a.seen=true) (ho:a.out.length<100000) :
  Dn (n+2) 106 [.obj (obA i)] [] tB=some (.none,Bw pr pa x i ((a.wd []).wo (a.out++[.str (escC y)]))):=by
 have hh:=W.seen_eq hs
 generalize hq:Dn (n+1)=C
 have e0:∀i,(w5u C (vF i none) tB)=sq (asg (vF i none) 2 ((q0z a.data).bind λ ts=>if(ts.map (·.length)).sum+ts.length * (tF "").length<=sizeLine then some (.str (Txt.join (tF "") ts),Bw pr pa x i a)else none)) λ v s=>q7t C v s:=tri (nr tK)
 have e1:=stq (q4v (Z:=Bw pr pa x i a) (v:=.str y) (by rw[ht,<-hx];exact if_pos (jH hz tA))) _ (e0 i)
 have e2:∀i,q7t C (vF i (sS y)) tB=fl4 C (vF i (sS y)) i (y.length !=0) (Bw pr pa x i (a.wd [])):=tri (nr tK)
 have e3:∀i,fl4 C (vF i (sS y)) i true (Bw pr pa x i ((a.ws true a.done).wd []))=sq (sq (es (vF i (sS y)) (cal C (.val (.bm .lAppend (.loc (ouA i)))) (calA C (.fn 161) (some (.str y,Bw pr pa x i ((a.ws true a.done).wd [])))))) λ v s=>some (.next,v,s)) λ v s=>some (.next,v,s):=tri (nr tK)
 rw[<-hh]at e3
 have e2:=e2 i
 rw[hn]at e2
 refine z7s (V:=vF i (sS y)) (z7j ..) ?_
 rw[hq]
 refine(e1.trans e2).trans (stq (stq (es_n (j2r ?_ (k7c pr pa x (a.wd []) _ i ho))) _ rfl) _ (e3 i))
 rw[<-hq]
 exact(z0r rfl).trans (j5t n y hl _)
end
section
variable {α β:Type} {Z:Store} {f:AV->Vs×α->Store->Option ((Vs×α)×Store)} {e:β->AV} {ps:List β} {st:α->β->α} {a:α} {P:Vs->Prop}
inductive Got (P:Vs->Prop) (m:Option ((Vs×α)×Store)) (r:α) (Z:Store):Prop|mk (vs:Vs) (h:P vs) (e:m=some ((vs,r),Z))
def Turn (f:AV->Vs×α->Store->Option ((Vs×α)×Store)) (Z:Store) (e:β->AV) (st:α->β->α) (a:α) (P:Vs->Prop) (ps:List β):Prop:=
 ∀mq x mr vs,ps=mq++x::mr->P vs->Got P (f (e x) (vs,mq.foldl st a) Z) (st (mq.foldl st a) x) Z
theorem j6c (h:Turn f Z e st a P ps):∀(mr mq:List β) (vs:Vs),ps=mq++mr->P vs->Got P (z1m f (mr.map e) (vs,mq.foldl st a) Z) (ps.foldl st a) Z
 | [],mq,vs,q,hv=>⟨vs,hv,by rw[q,List.append_nil];rfl⟩
 | x::mr,mq,vs,q,hv=>by
  obtain⟨vs',hv',e'⟩:=h mq x mr vs q hv
  obtain⟨vs2,hv2,e2⟩:=j6c h mr (mq++[x]) vs' (by rw[q,List.append_assoc];rfl) hv'
  rw[List.foldl_append]at e2
  exact⟨vs2,hv2,(show(f (e x) (vs,mq.foldl st a) Z).bind _=_ from by rw[e'];exact e2)⟩
theorem v0y {l:Nat} (hl:q1f Z l=some (ps.map e)) (h:Turn f Z e st a P ps):∀(mr mq:List β) (vs:Vs),ps=mq++mr->P vs->Got P (k6i l (ps.map e).length f mr.length (vs,mq.foldl st a) Z) (ps.foldl st a) Z
 | [],mq,vs,q,hv=>⟨vs,hv,(show(q1f Z l).bind _=_ from by rw[hl];exact(if_pos rfl).trans (by rw[q,List.append_nil]))⟩
 | x::mr,mq,vs,q,hv=>by
  obtain⟨vs',hv',e'⟩:=h mq x mr vs q hv
  obtain⟨vs2,hv2,e2⟩:=v0y hl h mr (mq++[x]) vs' (by rw[q,List.append_assoc];rfl) hv'
  rw[List.foldl_append]at e2
  refine⟨vs2,hv2,(show(q1f Z l).bind _=_ from ?_)⟩
  rw[hl]
  refine(if_pos rfl).trans ?_
  have ei:(ps.map e)[(ps.map e).length - (mr.length+1)]? = some (e x):=by
   have:(ps.map e).length - (mr.length+1)=mq.length:=by rw[zH,q,zI,List.length_cons,Nat.add_sub_cancel]
   rw[this,q];simp
  rw[ei]
  exact(show(f (e x) (vs,mq.foldl st a) Z).bind _=_ from by rw[e'];exact e2)
theorem z1d {v:AV} (hv:q0i Z v=some (ps.map e)) (h:Turn f Z e st a P ps) {vs:Vs} (h0:P vs):Got P (q0s v f (vs,a) Z) (ps.foldl st a) Z:=by
 induction v using AV.casesOn with
 | fl ys=>obtain rfl:=zE hv;exact j6c h ps [] vs rfl h0
 | loc l=>
  have hl:q1f Z l=some (ps.map e):=hv
  obtain⟨vs',h',e'⟩:=v0y hl h ps [] vs rfl h0
  rw[zH]at e'
  exact⟨vs',h',(show(q1f Z l).bind _=_ from by rw[hl];show k6i l (ps.map e).length f (ps.map e).length _ _=_;rw[zH];exact e')⟩
 | _=>exact nope hv
end
noncomputable def app {β:Type} (g:β->List AV) (mx:tW) (x:β):List AV:=mx++g x
theorem q1d {β:Type} (g:β->List AV):∀(xs:List β) (a:tW),xs.foldl (app g) a=a++xs.flatMap g
 | [],a=>(List.append_nil a).symm
 | x::xs,a=>by show xs.foldl (app g) (a++g x)=_;simp only[q1d g xs,List.flatMap_cons,List.append_assoc]
theorem k7h {β:Type} {g:β->List AV} {mq mr xs:List β} {x:β} {n:Nat} (e:xs=mq++x::mr) (h:(xs.flatMap g).length<=n):(mq.flatMap g).length+(g x).length<=n:=by
 refine jH ?_ h
 rw[e,List.flatMap_append,List.flatMap_cons,zI,zI]
 exact Nat.add_le_add_left (zC ..) _
theorem em_n {mx:tW} {v:AV} {Z:Store} {m:Res} (h:m=some (v,Z)) (hz:mx.length<100000):q2h mx m=some (mx++[v],Z):=by
 rw[h];exact if_pos (few (Nat.lt_trans hz tA))
def w7m (Z:Store) (v:AV):List AV:=(q0i Z v).getD []
abbrev own3 (V:Vs) (vs:Vs):Prop:=∃a b c,vs=a::b::c::V
def k8t (L:tW):Prop:=∃ps:List (Str×Str),L=ps.map q0a
theorem k8t.norm {L:tW} (h:k8t L):(L.flatMap λ x=>[norm x])=L:=by
 obtain⟨ps,rfl⟩:=h
 induction ps with
 | nil=>rfl
 | cons p ps ih=>rw[List.map_cons,List.flatMap_cons,ih];rfl
theorem j8n (C:q0b) {Z:Store} {V:Vs} {L mx:tW} {v:AV} {vs:Vs} (hv:q0i Z v=some L) (hn:k8t L) (hz:mx.length+L.length<100000) (h0:own3 V vs):Got (own3 V) (q0s v (q2r C) (vs,mx) Z) (mx++L) Z:=by
 have e:L.foldl (app λ x=>[norm x]) mx=mx++L:=by rw[q1d,hn.norm]
 rw[<-e]
 refine z1d (e:=id) (by rw[List.map_id];exact hv) (λ mq x mr vs ex h=>?_) h0
 obtain⟨a,b,c,rfl⟩:=h
 have hp:=k7h (g:=λ x=>[norm x]) ex (zA (congrArg List.length hn.norm))
 have hl:(mq.foldl (app λ x=>[norm x]) mx).length<100000:=by
  rw[q1d,zI]
  exact jJ (Nat.add_le_add_left (jH (zC ..) hp) _) hz
 refine⟨a::b::some x::V,⟨a,b,_,rfl⟩,?_⟩
 exact(stk (em_n rfl hl) _ (nr tK:q2r C x (a::b::c::V,mq.foldl (app λ x=>[norm x]) mx) Z=bnd (q2h (mq.foldl (app λ x=>[norm x]) mx) (some (norm x,Z))) λ r s=>some ((a::b::some x::V,r),s)))
def w4i (Z:Store) (dl:tW):Prop:=∀v∈dl,(norm v=v/\goN v=true)/\∃L,q0i Z v=some L/\k8t L
noncomputable def q3v (Z:Store) (dl:tW):List AV:=dl.reverse.flatMap (w7m Z)
theorem j8m (C:q0b) {Z:Store} {V:Vs} (v:AV) (a b c:Option AV) (mx:tW):q2s C v (a::b::c::V,mx) Z=if(!goN (norm v))=true then none else q0s (norm v) (q2r C) (a::some v::c::V,mx) Z:=nr tK
theorem j8o (n:Nat) {Z:Store} {l:Nat} {dl:tW} (h:q1f Z l=some dl) (hl:w4i Z dl) (hz:(q3v Z dl).length<100000):Dn (n+1) 173 [.loc l] [] Z=some (.fl (q3v Z dl),Z):=by
 have ha:q0i Z (.loc l)=some dl:=h
 have e0:w3l Z (.loc l) .none .none (.int (-1))=some (.fl dl.reverse,Z):=by
  show(((q0i Z (.loc l)).map λ xs=>AV.fl xs.reverse).bind λ v=>some (v,Z))=_
  rw[ha];rfl
 have e1:q7u (Dn n) [some (.loc l)] Z=sq (bnd (bnd (bnd (w3l Z (.loc l) .none .none (.int (-1))) λ v s=>bnd (if(!goN v)=true then none else q0s v (q2s (Dn n)) ([none,none,none,some (.loc l)],[]) s) λ r s=>some (r.2,s)) λ mx s=>q0w false mx s) λ x s=>some (.ret x,[some (.loc l)],s)) λ v s=>some (.next,v,s):=nr tK
 have g:Got (own3 [some (.loc l)]) (q0s (.fl dl.reverse) (q2s (Dn n)) ([none,none,none,some (.loc l)],[]) Z) (dl.reverse.foldl (app (w7m Z)) []) Z:=by
  refine z1d (e:=id) (ps:=dl.reverse) (by rw[List.map_id];rfl) (λ mq v mr vs ex h=>?_) ⟨_,_,_,rfl⟩
  obtain⟨a,b,c,rfl⟩:=h
  have hv:v∈dl:=List.mem_reverse.mp (by rw[ex];simp)
  obtain⟨⟨g1,g2⟩,L,h1,h2⟩:=hl v hv
  have e2:w7m Z v=L:=by unfold w7m;rw[h1];rfl
  obtain⟨vs',h',e'⟩:=j8n (Dn n) (V:=[some (.loc l)]) (mx:=mq.foldl (app (w7m Z)) []) (vs:=[a,some v,c,some (.loc l)]) h1 h2 (by
   simp only[q1d,List.nil_append,<-e2];exact jJ (k7h ex (jZ _)) hz) ⟨_,_,_,rfl⟩
  refine⟨vs',h',(j8m ..).trans ?_⟩
  rw[show norm (id v)=v from g1,g2,if_neg (by exact Bool.false_ne_true)]
  simp only[app,e2,<-e']
  rfl
 obtain⟨vs',_,e'⟩:=g
 rw[q1d,List.nil_append]at e'
 refine w5b (w7f ..) (V:=[some (.loc l)]) ?_
 rw[e1,e0,q0c,show(!goN (.fl dl.reverse))=false from rfl,if_neg Bool.false_ne_true,e']
 rfl
theorem w5g (x y:Str):(x++y).length=x.length+y.length:=by rw[<-q0t,<-q0t,<-q0t,q0j,zI]
theorem catB {x y:Str} {m k:Nat} (hx:x.length<=m) (hy:y.length<=k):(x++y).length<=m+k:=by rw[w5g];exact zD hx hy
theorem l_co:(tF ":").length<=1:=jZ 1
theorem l_eq:(tF "=\"").length<=2:=jZ 2
theorem l_qu:(tF "\"").length<=1:=jZ 1
theorem l_bl:(tF " ").length<=1:=jZ 1
theorem k5f (x:Str):Str.empty++x=x:=q6o (by rw[q0j];rfl)
theorem z9t {x y:Str} (h:x.length+y.length<=10000000):catA x y=some (x++y):=if_pos (by rw[sizeLine_eq];exact jH h tA)
theorem catO {x y:Str} {m k:Nat} (hx:x.length<=m) (hy:y.length<=k) (h:m+k<=10000000):catA x y=some (x++y):=z9t (jH (zD hx hy) h)
def qtag (p t:Str) (Z:Store):Option (Str×Store):=q6j Str.empty (.str p) λ a=>(catA a (tF ":")).bind λ a=>bnd (some (AV.str t,Z)) λ x s=>q6j a x λ a=>q1m a s
noncomputable def tg (p t:Str):Str:=p++tF ":"++t
theorem v3o (p t:Str):(tg p t).length=p.length+1+t.length:=by rw[tg,w5g,w5g];rfl
theorem j7k {p t:Str} {Z:Store} (h:p.length+t.length<=1000):qtag p t Z=some (tg p t,Z):=by
 have hp:p.length<=1000:=jH (zC _ _) h
 have ht:t.length<=1000:=jH (Nat.le_add_left _ _) h
 have e1:q6j Str.empty (.str p) (λ a=>(catA a (tF ":")).bind λ a=>bnd (some (AV.str t,Z)) λ x s=>q6j a x λ a=>q1m a s)=(catA (Str.empty++p) (tF ":")).bind λ a=>bnd (some (AV.str t,Z)) λ x s=>q6j a x λ a=>q1m a s:=
  stb (catO (x:=Str.empty) (jZ 0) hp tA) _ rfl
 rw[k5f]at e1
 exact(stb (catO hp l_co tA) _ e1).trans (stb (catO (catB hp l_co) ht tA) (λ a=>q1m a Z) rfl |>.trans (if_pos (jH (catB (catB hp l_co) ht) (by rw[sizeLine_eq];decide))))
section
variable {C:q0b} {Z:Store} {l:Nat} {S:tL} (h:Z[l]? = some (.set S))
include h
theorem v2z:q1f Z l=none:=by unfold q1f;rw[h]
theorem j3t:setC Z l=some S:=by unfold setC;rw[h]
theorem v1s:q7n T Z (.loc l) (tF "add")=some (.bi .eAdd (.loc l)):=by
 show optC (q1f Z l) _ (optC (setC Z l) _ _)=_
 rw[v2z h,j3t h]
 kernel_rfl
theorem j9s {x:Str} (hz:S.length<4000):biA .eAdd [.loc l,.str x] Z=some (.none,Z.set l (.set (addK x S))):=
 stb (j3t h) (λ ks=>if ks.length+1<scanBound then some (AV.none,Z.set l (.set (addK x ks)))else none) rfl |>.trans (if_pos (jJ hz tA))
theorem j3o (x:Str):cmpT Z .NotIn (.str x) (.loc l)=some (!S.contains x,Z):=by
 have e1:q0i Z (.loc l)=none:=by show(match Z[l]? with|some (.list xs)=>some xs|_=>none)=_;rw[h]
 have e2:k3t Z (.loc l)=some S:=by show(match Z[l]? with|some (.set xs)=>some xs|_=>none)=_;rw[h]
 show(((((q0i Z (.loc l)).bind λ ys=>(q0z ys).map (·.contains x)).orElse λ J=>((k3t Z (.loc l)).map λ ks=>ks.contains x).orElse λ J=>(q0l Z (.loc l)).map λ kvs=>(kvs.map (·.1)).contains x).map (!·)).bind λ v=>some (v,Z))=_
 rw[e1,e2]
 rfl
end
noncomputable abbrev vQ (d:Nat) (q u t:Str) (ps p5 p6:Option AV:=none):Vs:=[some (.obj d),some (.str q),some (.str u),some (.str t),ps,p5,p6]
def pt (p t:Str):Str:=if p.length=0 then t else tg p t
theorem v2n (p t:Str):(pt p t).length<=p.length+1+t.length:=by
 unfold pt
 split
 ·exact Nat.le_add_left ..
 ·exact zA (v3o p t)
noncomputable abbrev qR (f t u:Str):AV:=.tup [.str f,.str t,.str u]
def ptE (p t:Str) (Z:Store):Res:=bnd (some (p.length !=0,Z)) λ c s=>if c=true then bnd (qtag p t s) λ r s=>some (.str r,s)else some (.str t,s)
theorem v2o {p t:Str} {Z:Store} (h:p.length+t.length<=1000):ptE p t Z=some (.str (pt p t),Z):=by
 unfold ptE pt
 rw[q0c]
 by_cases q:p.length=0
 ·rw[q];rfl
 ·rw[if_neg q,if_pos (bne_iff_ne.mpr q),j7k h];rfl
def tup3 (m:Res) (t u:Str) (V:Vs):ResS:=bnd (bnd (evC m λ s=>some ([.str t,.str u],s)) λ xs s=>if xs.length<=sizeLine then some (.tup xs,s)else none) λ x s=>some (.ret x,V,s)
theorem z3a {m:Res} {f t u:Str} {V:Vs} {Z:Store} (h:m=some (.str f,Z)):tup3 m t u V=some (.ret (qR f t u),V,Z):=by rw[h];exact nr tK
noncomputable def look (u:Str):List Str->List (Str×Str)->Option Str
 | _,[]=>none
 | S,(a,p)::r=>if(decide (a=u)&&!S.contains p)=true then some p else look u (addK p S) r
noncomputable def w0u (u:Str):List (Str×Str)->Option Str
 | []=>none
 | (a,p)::r=>if a=u then some p else w0u u r
noncomputable def lkR (t u:Str) (V:Vs) (o:Option Str) (F:Str->Store) (Z:Store):ResS:=match o with|some p=>some (.ret (qR (pt p t) t u),V,F p)|none=>some (.next,V,Z)
section
variable (C:q0b) {Z:Store} {d l:Nat} {S:tL} {q u t a p:Str} {o4 o5 o6:Option AV}
theorem q_eq:w1m C (q0a (a,p)) (vQ d q u t (some (.loc l)) o5 o6) Z=sq (ifn (vQ d q u t (some (.loc l)) (sS a) (sS p)) (andT (some (decide (a=u),Z)) λ s=>andT (cmpT s .NotIn (.str p) (.loc l)) λ s=>some (true,s)) (q7v C (vQ d q u t (some (.loc l)) (sS a) (sS p)))) λ v s=>sq (w0b C v s) λ v s=>some (.next,v,s):=nr tK
theorem v5v:w0b C (vQ d q u t (some (.loc l)) (sS a) (sS p)) Z=es (vQ d q u t (some (.loc l)) (sS a) (sS p)) ((q7n T Z (.loc l) (tF "add")).bind λ m=>cal C m (some (.str p,Z))):=nr tK
theorem q_b3:q7v C (vQ d q u t o4 o5 (sS p)) Z=sq (tup3 (ptE p t Z) t u (vQ d q u t o4 o5 (sS p))) λ v s=>some (.next,v,s):=nr tK
theorem j3p:∀(ps:tE) {Z:Store} {S:tL} {o5 o6:Option AV},Z[l]? = some (.set S)->(∀p∈ps,p.2.length+t.length<=1000)->S.length+ps.length<4000->
  Ex3 λ o5' o6' S'=>forA (w1m C) (ps.map q0a) (vQ d q u t (some (.loc l)) o5 o6) Z=lkR t u (vQ d q u t (some (.loc l)) o5' o6') (look u S ps) (λ J=>Z.set l (.set S')) (Z.set l (.set S'))/\(look u S ps=none->S'=q0o S (ps.map (·.2)))
 | [],Z,S,o5,o6,h,_,_=>⟨o5,o6,S,by
  have:Z.set l (.set S)=Z:=by
   obtain⟨h1,h2⟩:=List.getElem?_eq_some_iff.mp h
   rw[<-h2,List.set_getElem_self]
  exact congrArg (λ z=>some (q1c.next,vQ d q u t (some (.loc l)) o5 o6,z)) this.symm,λ J=>rfl⟩
 | (a,p)::ps,Z,S,o5,o6,h,hp,hz=>by
  have e:=q_eq C (Z:=Z) (d:=d) (l:=l) (q:=q) (u:=u) (t:=t) (a:=a) (p:=p) (o5:=o5) (o6:=o6)
  have hn:=j3o h p
  have el:look u S ((a,p)::ps)=if(decide (a=u)&&!S.contains p)=true then some p else look u (addK p S) ps:=rfl
  by_cases c:(decide (a=u)&&!S.contains p)=true
  ·obtain⟨c1,c2⟩:=(Bool.and_eq_true ..).mp c
   rw[el,if_pos c]
   rw[c1]at e
   rw[c2]at hn
   have:Z.set l (.set S)=Z:=by
    obtain⟨h1,h2⟩:=List.getElem?_eq_some_iff.mp h
    rw[<-h2,List.set_getElem_self]
   refine⟨some (.str a),some (.str p),S,?_,(λ z=>nomatch z)⟩
   have e2:=(q_b3 C (Z:=Z) (d:=d) (q:=q) (u:=u) (t:=t) (p:=p) (o4:=some (.loc l)) (o5:=some (.str a))).trans (strr (z3a (v2o (hp (a,p) (zL ..)))) _ rfl)
   have e3:=strr ((w5d (by rw[k3q,hn];exact k3q ..)).trans e2) _ e
   rw[this]
   exact strr e3 _ rfl
  ·have hl:l<Z.length:=(List.getElem?_eq_some_iff.mp h).1
   have hS:(addK p S).length<=S.length+1:=by unfold addK;split<;>simp
   rw[List.length_cons]at hz
   rcases _:j3p ps (Z:=Z.set l (.set (addK p S))) (S:=addK p S) (o5:=some (.str a)) (o6:=some (.str p)) (by rw[List.getElem?_set_self hl]) (λ z hz'=>hp z (zG _ hz')) (jJ (jH (Nat.add_le_add_right hS _) (zA (Nat.add_right_comm _ 1 _))) hz)with⟨x5,x6,S',e1,e2⟩
   rw[List.set_set]at e1
   rw[el,if_neg c]
   refine⟨x5,x6,S',(stq ((stq (w3r ?_) _ e).trans (stq ((v5v C).trans (es_n (stb (v1s h) (λ m=>cal C m (some (.str p,Z))) rfl |>.trans (q4x rfl (j9s h (jJ (zC _ _) (jK hz tA))))))) _ rfl)) _ rfl).trans e1,e2⟩
   cases h1:decide (a=u)with
   | false=>rfl
   | true=>
    rw[h1]at c
    rw[k3q,hn,show(!S.contains p)=false from Bool.eq_false_iff.mpr c]
    rfl
theorem v5u:w1n C (q0a (a,p)) (vQ d q u t o4 o5 o6) Z=sq (ifn (vQ d q u t o4 (sS a) (sS p)) (some (decide (a=u),Z)) (q2k C (vQ d q u t o4 (sS a) (sS p)))) λ v s=>some (.next,v,s):=nr tK
theorem k7i {F:Str->Store}:∀(ps:tE) {o5 o6:Option AV},(∀p,(u,p)∈ps->q2k C (vQ d q u t o4 (sS u) (sS p)) Z=some (.ret (qR (pt p t) t u),vQ d q u t o4 (sS u) (sS p),F p))->
  ∃o5' o6',forA (w1n C) (ps.map q0a) (vQ d q u t o4 o5 o6) Z=lkR t u (vQ d q u t o4 o5' o6') (w0u u ps) F Z
 | [],o5,o6,_=>⟨o5,o6,rfl⟩
 | (a,p)::ps,o5,o6,hb=>by
  have e:=v5u C (Z:=Z) (d:=d) (q:=q) (u:=u) (t:=t) (a:=a) (p:=p) (o4:=o4) (o5:=o5) (o6:=o6)
  have el:w0u u ((a,p)::ps)=if a=u then some p else w0u u ps:=rfl
  by_cases c:a=u
  ·subst c
   rw[decide_eq_true rfl]at e
   rw[el,if_pos rfl]
   have e3:=strr ((w5d rfl).trans (hb p (zL ..))) _ e
   exact⟨_,_,strr e3 _ rfl⟩
  ·rw[decide_eq_false c]at e
   obtain⟨x5,x6,e2⟩:=k7i ps (o5:=some (.str a)) (o6:=some (.str p)) λ z hz=>hb z (zG _ hz)
   rw[el,if_neg c]
   exact⟨x5,x6,(stq (stq (w3r rfl) _ e) _ rfl).trans e2⟩
end
theorem w4o {Z:Store} {v:AV} {L:tW} (c:Store) (h:q0i Z v=some L):q0i (Z++c) v=some L:=by
 induction v using AV.casesOn with
 | fl xs=>exact h
 | loc l=>
  refine k6d h λ xs hl e=>?_
  show(match (Z++c)[l]? with|some (.list xs)=>some xs|_=>none)=_
  rw[List.getElem?_append_left (List.getElem?_eq_some_iff.mp hl).1,hl]
  exact e
 | _=>exact nope h
theorem w4i.grow {Z:Store} {dl:tW} (h:w4i Z dl) (c:Store):w4i (Z++c) dl:=λ v hv=>let ⟨h1,L,h2,h3⟩:=h v hv;⟨h1,L,w4o c h2,h3⟩
theorem z8m {Z Z':Store} {dl:tW} (h:∀v∈dl,w7m Z' v=w7m Z v):q3v Z' dl=q3v Z dl:=by
 unfold q3v
 rw[List.flatMap_def,List.flatMap_def,List.map_congr_left λ v hv=>h v (List.mem_reverse.mp hv)]
theorem z0a {Z:Store} {dl:tW} (h:w4i Z dl) (c:Store):q3v (Z++c) dl=q3v Z dl:=z8m λ v hv=>by
 obtain⟨_,L,h2,_⟩:=h v hv
 unfold w7m
 rw[h2,w4o c h2]
def Nm (q u t:Str):Prop:=∀(C:q0b) (d:Nat) (Z:Store),q6s C [some (.obj d),some (.str q),some .none,none,none,none,none] Z=some (.next,vQ d q u t,Z)
inductive Qn (u t:Str) (dp np:tE):Str->List (Str×Str)->Prop
 | hit {p:Str} (h:look u [] dp=some p):Qn u t dp np (pt p t) []
 | bare (h:look u [] dp=none) (hu:u.length=0) (h2:w0u u np=none\/(q0o [] (dp.map (·.2))).contains (tF "")=false):Qn u t dp np t []
 | new {p:Str} (h:look u [] dp=none) (hu:u.length≠0\/(q0o [] (dp.map (·.2))).contains (tF "")=true) (h2:w0u u np=some p):Qn u t dp np (pt p t) [(u,p)]
theorem j0a (n:Nat):idxA (n+1) (-1)=some n:=(if_pos tA).trans (seqIndex?_neg_one (Nat.succ_pos n))
theorem z1c {Z:Store} {l:Nat} {D:tW} {v:AV} (h:q1f Z l=some (D++[v])):getR Z (.loc l) (.int (-1))=some (norm v,Z):=by
 show((q1f Z l).bind λ xs=>(idxA xs.length (-1)).bind (xs[·]?)).bind (λ v=>some (norm v,Z))=_
 rw[h]
 show((idxA (D++[v]).length (-1)).bind ((D++[v])[·]?)).bind _=_
 rw[zI,show D.length + [v].length=D.length+1 from rfl,j0a]
 show((D++[v])[D.length]?).bind _=_
 rw[List.getElem?_concat_length]
 rfl
theorem z9p {Z:Store} {l:Nat} {xs:tW} {v:AV} (h:Z[l]? = some (.list xs)) (hz:xs.length<100000):biA .lAppend [.loc l,v] Z=some (.none,Z.set l (.list (xs++[v]))):=
 stb (q1q h) (λ xs=>if xs.length<sizeLine then some (AV.none,Z.set l (.list (xs++[v])))else none) rfl |>.trans (if_pos (few (Nat.lt_trans hz tA)))
theorem k0v {Z:Store} {l:Nat} {xs:tW} (h:Z[l]? = some (.list xs)):q7n T Z (.loc l) (tF "append")=some (.bi .lAppend (.loc l)):=by
 show optC (q1f Z l) _ _=_
 rw[q1q h]
 kernel_rfl
theorem k1g {x:Store} {j:Nat} {o:AObj} (h:x[j]? = some o):x.set j o=x:=by
 obtain⟨h1,h2⟩:=List.getElem?_eq_some_iff.mp h
 rw[<-h2,List.set_getElem_self]
theorem q4w {x:Store} {j:Nat} {o:AObj} (y:Store) (h:x[j]? = some o):(x++y)[j]? = some o:=by rw[List.getElem?_append_left (List.getElem?_eq_some_iff.mp h).1];exact h
section
variable (pr:tC) (pa:tW) (x:Store) (a:W)
theorem x_at (j:Nat):∀i,(Bw pr pa x i a)[j+bA i]? = x[j]?:=tri (nr rfl)
theorem j2f (j:Nat) (o:AObj):∀i,(Bw pr pa x i a).set (j+bA i) o=Bw pr pa (x.set j o) i a:=tri (nr rfl)
theorem q_1 (C:q0b):∀i,w0z C (vQ (obA i) q u t) tB=some (.next,vQ (obA i) q u t (some (.loc (x.length+bA i))),Bw pr pa (x++[.set []]) i a):=tri (nr tK)
def wlk (C:q0b) (l:Nat) (lp:AV->Vs->Store->ResS) (V:Vs) (Z:Store):ResS:=bnd (C 173 [.loc l] [] Z) λ v s=>if frozen v=true then(q5s s v).bind λ xs=>forA lp xs V s else none
theorem q_2 (C:q0b) (l:AV):∀i,w1a C (vQ (obA i) q u t (some l)) tB=wlk C (dlA i) (w1m C) (vQ (obA i) q u t (some l)) tB:=tri (nr tK)
theorem q_3 (C:q0b) (l:AV) (o5 o6:Option AV):∀i,q4z C (vQ (obA i) q u t (some l) o5 o6) tB=q7y C (vQ (obA i) q u t (some l) o5 o6) tB:=tri (nr tK)
theorem q_4 (C:q0b) (d l:Nat) (o5 o6:Option AV) {Z:Store}:q7y C (vQ d q u t (some (.loc l)) o5 o6) Z=sq (ifn (vQ d q u t (some (.loc l)) o5 o6) (andT (some (!(u.length !=0),Z)) λ s=>andT (cmpT s .NotIn (.str (tF "")) (.loc l)) λ s=>some (true,s)) (q7w C (vQ d q u t (some (.loc l)) o5 o6))) λ v s=>q5a C v s:=nr tK
theorem q_b7 (C:q0b) (d:Nat) (o4 o5 o6:Option AV) {Z:Store}:q7w C (vQ d q u t o4 o5 o6) Z=sq (tup3 (some (.str t,Z)) t u (vQ d q u t o4 o5 o6)) λ v s=>some (.next,v,s):=nr tK
theorem q_5 (C:q0b) (l:AV) (o5 o6:Option AV):∀i,q5a C (vQ (obA i) q u t (some l) o5 o6) tB=sq (wlk C (nlA i) (w1n C) (vQ (obA i) q u t (some l) o5 o6) tB) λ v s=>q3k C v s:=tri (nr tK)
theorem q_6 (C:q0b) (d:Nat) (o4 o5 o6:Option AV) {Z:Store}:q3k C (vQ d q u t o4 o5 o6) Z=sq (ifn (vQ d q u t o4 o5 o6) (some (!(u.length !=0),Z)) (q7x C (vQ d q u t o4 o5 o6))) λ v s=>w3f C v s:=nr tK
theorem q_b9 (C:q0b) (d:Nat) (o4 o5 o6:Option AV) {Z:Store}:q7x C (vQ d q u t o4 o5 o6) Z=sq (tup3 (some (.str t,Z)) t u (vQ d q u t o4 o5 o6)) λ v s=>some (.next,v,s):=nr tK
theorem q_b8 (C:q0b) (o4 o5:Option AV):∀i,q2k C (vQ (obA i) q u t o4 o5 (sS p)) tB=sq (es (vQ (obA i) q u t o4 o5 (sS p)) (bnd (getR tB (.loc (dlA i)) (.int (-1))) λ v s=>(q7n T s v (tF "append")).bind λ m=>cal C m (some (q0a (u,p),s)))) λ v s=>sq (q5o C v s) λ v s=>some (.next,v,s):=tri (nr tK)
theorem v5w (C:q0b) (d:Nat) (o4 o5:Option AV) {Z:Store}:q5o C (vQ d q u t o4 o5 (sS p)) Z=tup3 (ptE p t Z) t u (vQ d q u t o4 o5 (sS p)):=nr tK
theorem q_dl:∀i,q1f tB (dlA i)=some a.dl:=tri (nr tK)
theorem q_nl:∀i,q1f tB (nlA i)=some (nsV::a.nl):=tri (nr tK)
variable (i:Who)
theorem w2e (o:AObj):(Bw pr pa (x++[o]) i a)[x.length+bA i]? = some o:=(x_at ..).trans (by simp)
theorem w4e (o o':AObj):(Bw pr pa (x++[o]) i a).set (x.length+bA i) o'=Bw pr pa (x++[o']) i a:=by rw[j2f];simp
theorem j3y {n:Nat} {C:q0b} (hC:Dn (n+1)=C) {l:Nat} {dl:tW} {Z:Store} {V:Vs} {lp:AV->Vs->Store->ResS} (hl:q1f Z l=some dl) (h:w4i Z dl) {ps:tE} (hp:q3v Z dl=ps.map q0a) (hz:ps.length<3000):wlk C l lp V Z=forA lp (ps.map q0a) V Z:=by
 subst hC
 unfold wlk
 rw[j8o n hl h (by rw[hp,zH];exact Nat.lt_trans hz tA),hp]
 rfl
theorem j9l (C:q0b) (o4 o5:Option AV) {D lv:tW} {j:Nat} (hD:a.dl=D++[.loc (j+bA i)]) (hj:x[j]? = some (.list lv)) (hlv:lv.length<1000) (hp:p.length+t.length<=1000) :
  q2k C (vQ (obA i) q u t o4 o5 (sS p)) tB=some (.ret (qR (pt p t) t u),vQ (obA i) q u t o4 o5 (sS p),Bw pr pa (x.set j (.list (lv++[q0a (u,p)]))) i a):=by
 have h1:=z1c ((q_dl pr pa x a i).trans (congrArg some hD))
 have h2:(Bw pr pa x i a)[j+bA i]? = some (.list lv):=(x_at ..).trans hj
 have h3:=z9p (v:=q0a (u,p)) h2 (Nat.lt_trans hlv tA)
 rw[j2f]at h3
 have h4:=k0v h2
 have e:=q_b8 pr pa x a C o4 o5 i (q:=q) (u:=u) (t:=t) (p:=p)
 have e1:es (vQ (obA i) q u t o4 o5 (sS p)) (bnd (getR tB (.loc (dlA i)) (.int (-1))) λ v s=>(q7n T s v (tF "append")).bind λ m=>cal C m (some (q0a (u,p),s)))=some (.next,vQ (obA i) q u t o4 o5 (sS p),Bw pr pa (x.set j (.list (lv++[q0a (u,p)]))) i a):=by
  rw[h1]
  exact es_n (stb h4 (λ m=>cal C m (some (q0a (u,p),Bw pr pa x i a))) rfl |>.trans (q4x rfl h3))
 have e2:=stq e1 _ e
 exact strr ((v5w ..).trans (z3a (v2o hp))) _ e2
theorem k1d (n:Nat) (hN:Nm q u t) {dp np:tE} (hd:w4i tB a.dl) (hn:w4i tB (nsV::a.nl)) (h1:q3v tB a.dl=dp.map q0a) (h2:q3v tB (nsV::a.nl)=np.map q0a)
  (z1:dp.length<3000) (z2:np.length<3000) (l1:∀p∈dp,p.2.length+t.length<=1000) (l2:∀p∈np,p.2.length+t.length<=1000) {f:Str} {add:tE} (H:Qn u t dp np f add)
  {D lv:tW} {j:Nat} (hD:a.dl=D++[.loc (j+bA i)]) (hj:x[j]? = some (.list lv)) (hlv:lv.length<1000) :
  ∃S,Dn (n+2) 90 [.obj (obA i),.str q] [] tB=some (qR f t u,Bw pr pa ((x++[AObj.set S]).set j (.list (lv++add.map q0a))) i a):=by
 have hj':∀S,(x++[AObj.set S])[j]? = some (.list lv):=λ S=>q4w _ hj
 have same:∀S,(x++[AObj.set S]).set j (.list (lv++([]:tE).map q0a))=x++[AObj.set S]:=λ S=>by rw[List.map_nil,List.append_nil];exact k1g (hj' S)
 generalize hC:Dn (n+1)=C
 rcases _:j3p C (d:=obA i) (q:=q) (t:=t) (u:=u) (l:=x.length+bA i) dp (S:=[]) (o5:=none) (o6:=none) (w2e pr pa x a i (AObj.set [])) l1 (jJ (zA (Nat.zero_add _)) (Nat.lt_trans z1 tA))with⟨x5,x6,S,e1,eS⟩
 rw[w4e]at e1
 have e0:w5w C [some (.obj (obA i)),some (.str q),some .none,none,none,none,none] tB=sq (lkR t u (vQ (obA i) q u t (some (.loc (x.length+bA i))) x5 x6) (look u [] dp) (λ J=>Bw pr pa (x++[AObj.set S]) i a) (Bw pr pa (x++[AObj.set S]) i a)) λ v s=>q4z C v s:=by
  refine(stq (q_1 pr pa x a C i) _ (stq (hN C (obA i) tB) (λ v s=>w3e C v s) rfl)).trans ?_
  refine congrArg (λ m=>sq m λ v s=>q4z C v s) ((q_2 pr pa (x++[.set []]) a C _ i).trans ?_)
  exact(j3y hC (q_dl pr pa (x++[.set []]) a i) (show w4i (Bw pr pa (x++[.set []]) i a) a.dl from by cases i<;>exact hd.grow [.set []]) (show q3v (Bw pr pa (x++[.set []]) i a) a.dl=dp.map q0a from by cases i<;>exact(z0a hd [.set []]).trans h1) z1).trans e1
 have hs:(Bw pr pa (x++[AObj.set S]) i a)[x.length+bA i]? = some (.set S):=w2e ..
 have e4:=q_4 C (obA i) (x.length+bA i) x5 x6 (q:=q) (u:=u) (t:=t) (Z:=Bw pr pa (x++[AObj.set S]) i a)
 have ec:∀b:Bool,(andT (some (b,Bw pr pa (x++[AObj.set S]) i a)) λ s=>andT (cmpT s .NotIn (.str (tF "")) (.loc (x.length+bA i))) λ s=>some (true,s))=some (b&&!S.contains (tF ""),Bw pr pa (x++[AObj.set S]) i a):=λ b=>by
  cases b with
  | false=>rfl
  | true=>rw[k3q,j3o hs];cases S.contains (tF "")<;>rfl
 rw[ec]at e4
 have e5:∀F,(∀p,(u,p)∈np->q2k C (vQ (obA i) q u t (some (.loc (x.length+bA i))) (sS u) (sS p)) (Bw pr pa (x++[AObj.set S]) i a)=some (.ret (qR (pt p t) t u),vQ (obA i) q u t (some (.loc (x.length+bA i))) (sS u) (sS p),F p))->
   ∃y5 y6,q5a C (vQ (obA i) q u t (some (.loc (x.length+bA i))) x5 x6) (Bw pr pa (x++[AObj.set S]) i a)=sq (lkR t u (vQ (obA i) q u t (some (.loc (x.length+bA i))) y5 y6) (w0u u np) F (Bw pr pa (x++[AObj.set S]) i a)) λ v s=>q3k C v s:=λ F hF=>by
  obtain⟨y5,y6,e6⟩:=k7i C (d:=obA i) (q:=q) (t:=t) (u:=u) (o4:=some (.loc (x.length+bA i))) (o5:=x5) (o6:=x6) np hF
  refine⟨y5,y6,(q_5 pr pa (x++[AObj.set S]) a C _ x5 x6 i).trans (congrArg (λ m=>sq m λ v s=>q3k C v s) ?_)⟩
  exact(j3y hC (q_nl pr pa (x++[AObj.set S]) a i) (show w4i (Bw pr pa (x++[AObj.set S]) i a) (nsV::a.nl)from by cases i<;>exact hn.grow [AObj.set S]) (show q3v (Bw pr pa (x++[AObj.set S]) i a) (nsV::a.nl)=np.map q0a from by cases i<;>exact(z0a hn [AObj.set S]).trans h2) z2).trans e6
 refine⟨S,?_⟩
 cases H with
 | hit h=>
  rw[h]at e0
  rw[same]
  exact w5b (q6f ..) (by rw[hC];exact strr rfl _ e0)
 | bare h hu hb=>
  rw[h]at e0
  have e3:=(stq rfl _ e0).trans (q_3 pr pa (x++[AObj.set S]) a C _ x5 x6 i)
  rw[hu]at e4
  rw[same]
  cases hc:S.contains (tF "")with
  | false=>
   rw[hc]at e4
   have e7:=strr ((w5d rfl).trans (strr (z3a rfl) _ (q_b7 C (obA i) _ x5 x6))) _ e4
   exact w5b (q6f ..) (by rw[hC];exact e3.trans e7)
  | true=>
   rw[hc]at e4
   have hb:w0u u np=none:=hb.resolve_right λ z=>by rw[<-eS h,hc]at z;exact absurd z tA
   obtain⟨y5,y6,e6⟩:=e5 _ λ p hp=>j9l pr pa (x++[AObj.set S]) a i C _ _ hD (hj' S) hlv (l2 (u,p) hp)
   rw[hb]at e6
   have e7:=stq rfl _ e6
   have e8:=q_6 C (obA i) (some (.loc (x.length+bA i))) y5 y6 (q:=q) (u:=u) (t:=t) (Z:=Bw pr pa (x++[AObj.set S]) i a)
   rw[hu]at e8
   have e9:=strr ((w5d rfl).trans (strr (z3a rfl) _ (q_b9 C (obA i) _ y5 y6))) _ e8
   have e10:=stq (w3r rfl) _ e4
   exact w5b (q6f ..) (by rw[hC];exact e3.trans (e10.trans (e7.trans e9)))
 | new h hu hb=>
  rw[h]at e0
  have e3:=(stq rfl _ e0).trans (q_3 pr pa (x++[AObj.set S]) a C _ x5 x6 i)
  obtain⟨y5,y6,e6⟩:=e5 _ λ p hp=>j9l pr pa (x++[AObj.set S]) a i C _ _ hD (hj' S) hlv (l2 (u,p) hp)
  rw[hb]at e6
  have e7:=strr rfl _ e6
  have ef:(!(u.length !=0)&&!S.contains (tF ""))=false:=by
   rcases hu with hu|hu
   ·rw[bne_iff_ne.mpr hu];rfl
   ·rw[<-eS h]at hu
    rw[hu]
    cases (u.length !=0)<;>rfl
  rw[ef]at e4
  have e10:=stq (w3r rfl) _ e4
  exact w5b (q6f ..) (by rw[hC];exact e3.trans (e10.trans e7))
end
def lvN (i:Who) (n0:tW) (x:Store) (a:Nat):Option tW:=if a=xmA i then some [xmlP]else if a=n0A i then some n0 else if bA i<=a then q1f x (a - bA i)else none
noncomputable def lvA (i:Who) (n0:tW) (x:Store):AV->Option tW | .loc a=>lvN i n0 x a | .fl L=>some L|_=>none
inductive Lv (i:Who) (n0:tW) (x:Store):List AV->List (Str×Str)->Prop
 | nil:Lv i n0 x [] []
 | cons {v:AV} {dl:tW} {L P:tE} (h:lvA i n0 x v=some (L.map q0a)) (r:Lv i n0 x dl P):Lv i n0 x (v::dl) (L++P)
theorem v1o (pr:tC) (pa:tW) (x:Store) (i:Who) (a:W) {v:AV} {L:tW} (h:lvA i a.n0 x v=some L):(norm v=v/\goN v=true)/\q0i tB v=some L:=by
 induction v using AV.casesOn with
 | fl xs=>exact⟨⟨rfl,rfl⟩,h⟩
 | loc l=>
  refine⟨⟨rfl,rfl⟩,?_⟩
  replace h:lvN i a.n0 x l=some L:=h
  unfold lvN at h
  by_cases q:l=xmA i
  ·rw[if_pos q]at h
   obtain rfl:=zE h
   subst q
   cases i<;>rfl
  ·rw[if_neg q]at h
   by_cases q:l=n0A i
   ·rw[if_pos q]at h
    obtain rfl:=zE h
    subst q
    cases i<;>rfl
   ·rw[if_neg q]at h
    refine q0k h λ q h=>?_
    obtain⟨j,rfl⟩:∃j,l=j+bA i:=⟨l - bA i,(Nat.sub_add_cancel q).symm⟩
    rw[Nat.add_sub_cancel]at h
    have e:=q6m h
    exact q1q ((x_at pr pa x a j i).trans e)
 | _=>exact nope h
set_option tactic.hygienic true in theorem k6m {i:Who} {n0:tW} {x:Store} {v:AV} {L:tW} (c:Store) (h:lvA i n0 x v=some L):lvA i n0 (x++c) v=some L:=by
 induction v using AV.casesOn with
 | fl xs=>exact h
 | loc l=>
  have h:lvN i n0 x l=some L:=h
  show lvN i n0 (x++c) l=some L
  unfold lvN at h ⊢
  split
  ·rename_i q;rw[if_pos q]at h;exact h
  ·rename_i q
   rw[if_neg q]at h
   split
   ·rename_i q;rw[if_pos q]at h;exact h
   ·rename_i q
    rw[if_neg q]at h
    refine q0k h λ q h=>?_
    rw[if_pos q]
    exact q1q (q4w c (q6m h))
 | _=>exact nope h
theorem Lv.grow {i:Who} {n0:tW} {x:Store} {d:tW} {P:tE} (h:Lv i n0 x d P) (c:Store):Lv i n0 (x++c) d P:=by
 induction h with
 | nil=>exact .nil
 | cons h _ ih=>exact .cons (k6m c h) ih
theorem Lv.walk {x:Store} {d:tW} {P:tE} (pr:tC) (pa:tW) (i:Who) (a:W) (h:Lv i a.n0 x d P) :
  w4i tB d/\d.flatMap (w7m tB)=P.map q0a:=by
 induction h with
 | nil=>exact⟨(λ J h=>nomatch h),rfl⟩
 | cons h _ ih=>
  obtain⟨h1,h2⟩:=v1o pr pa _ i a h
  refine⟨λ v hv=>?_,?_⟩
  ·rcases List.mem_cons.mp hv with rfl|hv
   ·exact⟨h1,_,h2,_,rfl⟩
   ·exact ih.1 v hv
  ·simp only[List.flatMap_cons,ih.2,List.map_append]
   congr 1
   unfold w7m
   rw[h2]
   rfl
theorem j3i (i:Who) (k:Nat):xmA i≠k+bA i/\n0A i≠k+bA i:=by
 have:xmA i<bA i/\n0A i<bA i:=by cases i<;>decide
 exact⟨Nat.ne_of_lt (jK this.1 (Nat.le_add_left ..)),Nat.ne_of_lt (jK this.2 (Nat.le_add_left ..))⟩
theorem lv_x (i:Who) (n0:tW) (x:Store) (k:Nat):lvA i n0 x (.loc (k+bA i))=q1f x k:=by
 show lvN _ _ _ _=_
 unfold lvN
 rw[if_neg (j3i i k).1.symm,if_neg (j3i i k).2.symm,if_pos (Nat.le_add_left ..),Nat.add_sub_cancel]
theorem z4p (i:Who) (n0:tW) (x0 y:Store) (L:tW):lvA i n0 (x0++AObj.list L::y) (.loc (x0.length+bA i))=some L:=(lv_x ..).trans (q1q (by simp))
structure Nst (i:Who) (n0:tW) (x0:Store) (D nl:tW) (P np:tE):Prop where
 lv:Lv i n0 x0 D.reverse P
 nv:Lv i n0 x0 (nsV::nl).reverse np
 pz:P.length<=900
 nz:np.length<=2900
 l:∀p∈P++np,p.2.length<=500
section
variable (pr:tC) (pa:tW) (x0 y:Store) (i:Who) (a:W)
abbrev Sn (N:tE) (y:Store):Store:=Bw pr pa (x0++.list (N.map q0a)::y) i a
theorem k6t (n:Nat) (hD:a.dl=D++[.loc (x0.length+bA i)]) (H:Nst i a.n0 x0 D a.nl P np) (hN:Nm q u t) (ht:t.length<=400) (hz:N.length<=100) (hs:∀p∈N,p.2.length<=500) (hq:Qn u t (N++P) np f add) :
    ∃S,Dn (n+2) 90 [.obj (obA i),.str q] [] (Sn pr pa x0 i a N y)=some (qR f t u,Sn pr pa x0 i a (N++add) (y++[AObj.set S])):=by
  have hl:Lv i a.n0 (x0++.list (N.map q0a)::y) a.dl.reverse (N++P):=by
    rw[hD,List.reverse_append]
    exact .cons (z4p ..) (H.lv.grow _)
  obtain⟨h1,h2⟩:=hl.walk pr pa i a
  obtain⟨h3,h4⟩:=(H.nv.grow (.list (N.map q0a)::y)).walk pr pa i a
  have k:∀{p:Str×Str},p.2.length<=500->p.2.length+t.length<=1000:=λ h=>jH (zD h ht) tA
  (refine Classical.byContradiction λ kk0=>?_;obtain⟨S,e⟩:=k1d pr pa (x0++.list (N.map q0a)::y) a i n hN (λ v hv=>h1 v (List.mem_reverse.mpr hv)) (λ v hv=>h3 v (List.mem_reverse.mpr hv)) h2 h4
    (by rw[zI];exact jJ (zD hz H.pz) tA) (jJ H.nz tA) (λ p hp=>k ((zK hp).elim (hs p) λ hp=>H.l p (List.mem_append_left _ hp))) (λ p hp=>k (H.l p (List.mem_append_right _ hp))) hq
    (D:=D) (lv:=N.map q0a) (j:=x0.length) hD (by simp) (by rw[zH];exact jJ hz tA)<;>(refine kk0 ?_;clear kk0))
  refine⟨S,e.trans ?_⟩
  simp only[List.append_assoc,List.set_append_right _ _ (jZ _),Nat.sub_self,Sn,List.map_append]
  rfl
end
inductive Runs (U Tt F:Str->Str) (P np:tE):List Str->List (Str×Str)->List (Str×Str)->Prop
 | nil (N:tE):Runs U Tt F P np [] N N
 | cons {q:Str} {qs:tL} {N N' add:tE} (h:Qn (U q) (Tt q) (N++P) np (F q) add) (r:Runs U Tt F P np qs (N++add) N'):Runs U Tt F P np (q::qs) N N'
theorem Runs.sub {U Tt F:Str->Str} {P np N N':tE} {qs:tL} (h:Runs U Tt F P np qs N N'):∃M,N'=N++M:=by
 induction h with
 | nil N=>exact⟨[],(List.append_nil N).symm⟩
 | cons _ _ ih=>obtain⟨M,e⟩:=ih;exact⟨_,e.trans (List.append_assoc ..)⟩
noncomputable abbrev vS (d:Nat) (q:Str) (av:AV) (nl:Nat) (ws:tL) (k v an pq uri al aq sb wr:Option AV):Vs:=
 [some (.obj d),some (.str q),some av,some (.loc nl),some .none,k,v,some (.ws ws),some (.fd [] []),none,some .none,an,none,some (.mt 90 (.obj d)),pq,uri,al,aq,sb,wr]
noncomputable abbrev vS0 (d:Nat) (q:Str) (av:AV) (nl:Nat) (ws:tL):Vs:=vS d q av nl ws none none none none none none none none none
def accO (U Tt F:Str->Str) (mq:tL):List (Str×AV):=mq.map λ q=>(q,qR (F q) (Tt q) (U q))
theorem w3y (U Tt F:Str->Str) (q:Str):∀mq:List Str,q1i q (accO U Tt F mq)=if q∈mq then some (qR (F q) (Tt q) (U q))else none
 | []=>rfl
 | a::mq=>by
  show(if a=q then some (qR (F a) (Tt a) (U a))else q1i q (accO U Tt F mq))=_
  by_cases h:a=q
  ·subst h;rw[if_pos rfl,if_pos (zL ..)]
  ·rw[if_neg h,w3y U Tt F q mq]
   by_cases hm:q∈mq
   ·rw[if_pos hm,if_pos (zG _ hm)]
   ·rw[if_neg hm,if_neg λ z=>hm ((List.mem_cons.mp z).resolve_left λ e=>h e.symm)]
theorem z7t (u:Str):∀kvs:List (Str×AV),(kvs.map (·.1)).contains u=(q1i u kvs).isSome
 | []=>rfl
 | (k,v)::r=>by
  simp only[List.map_cons,List.contains_cons,z7t u r]
  show _=(if k=u then some v else q1i u r).isSome
  by_cases h:k=u
  ·rw[if_pos h,h,beq_self_eq_true];rfl
  ·rw[if_neg h,beq_false_of_ne λ e=>h e.symm];rfl
theorem z6y {u:Str} {v:AV} {kvs:tC} (h:q1i u kvs=none):q0x u v kvs=kvs++[(u,v)]:=by
 have hc:=z7t u kvs
 rw[h]at hc
 refine if_neg λ q=>?_
 obtain⟨kv,h1,h2⟩:=List.any_eq_true.mp q
 rw[<-of_decide_eq_true h2]at hc
 exact absurd (List.contains_iff_mem.mpr (List.mem_map_of_mem (f:=(·.1)) h1)) (by rw[hc];exact Bool.false_ne_true)
section
variable (C:q0b) (pr:tC) (pa:tW) (x0:Store) (i:Who) (a:W) (U Tt F:Str->Str)
theorem v6w {d:Nat} {q tg:Str} {av:AV} {nl:Nat} {ws:tL} {o1 o2:Option AV} {mx:tC} {Z:Store} :
  q1s C (.str q) (o1::o2::vS0 d tg av nl ws,mx) Z=bnd (bnd (calA C (.mt 90 (.obj d)) (some (.str q,Z))) λ x s=>z3q mx (.str q) x s) λ r s=>some ((o1::some (.str q)::vS0 d tg av nl ws,r),s):=nr tK
theorem j0y (n:Nat) (hD:a.dl=D++[.loc (x0.length+bA i)]) {P np:tE} (tg:Str) (av:AV) (nl:Nat) (ws:tL) (H:Nst i a.n0 x0 D a.nl P np) {qs:tL} {N N':tE} (R:Runs U Tt F P np qs N N') (hz:N'.length<=100) (hs:∀p∈N',p.2.length<=500) :
  ∀(mq:tL) (y:Store) (o1 o2:Option AV),mq.length+qs.length<=100->(∀q∈qs,Nm q (U q) (Tt q)/\(Tt q).length<=400)->(mq++qs).Nodup->
  Ex3 λ o1' o2' y'=>z1m (q1s (Dn (n+2))) (qs.map .str) (o1::o2::vS0 (obA i) tg av nl ws,accO U Tt F mq) (Sn pr pa x0 i a N y)=some ((o1' :: o2' :: vS0 (obA i) tg av nl ws,accO U Tt F (mq++qs)),Sn pr pa x0 i a N' y'):=by
 induction R with
 | nil N=>exact λ mq y o1 o2 J J J=>⟨o1,o2,y,by rw[List.append_nil];rfl⟩
 | @cons q qs N N' add h r ih=>
  intro mq y o1 o2 h3 h4 h5
  obtain⟨hN,ht⟩:=h4 q (zL ..)
  rcases _:r.sub with⟨M,eM⟩
  have z1:N.length<=100:=jH (by rw[eM,List.append_assoc,zI];exact zC ..) hz
  obtain⟨S,e⟩:=k6t pr pa x0 y i a n hD H hN ht z1 (λ p hp=>hs p (by rw[eM,List.append_assoc];exact List.mem_append_left _ hp)) h
  rw[List.length_cons]at h3
  have hq:q∉mq:=λ hq=>(List.nodup_append.mp h5).2.2 q hq q (zL ..) rfl
  rcases _:ih hz hs (mq++[q]) (y++[AObj.set S]) o1 (sS q) (by rw[zI,List.length_singleton];exact jH (zA (Nat.add_right_comm _ 1 _)) h3) (λ r hr=>h4 r (zG _ hr)) (by rw[List.append_assoc];exact h5)with⟨o1',o2',y',e'⟩
  refine⟨o1',o2',y',?_⟩
  have e2:z3q (accO U Tt F mq) (.str q) (qR (F q) (Tt q) (U q)) (Sn pr pa x0 i a (N++add) (y++[AObj.set S]))=some (accO U Tt F (mq++[q]),Sn pr pa x0 i a (N++add) (y++[AObj.set S])):=by
   refine(if_pos (few (by rw[accO,zH];exact jJ (jH (zC _ _) h3) tA))).trans ?_
   rw[z6y (by rw[w3y,if_neg hq]),accO,accO,List.map_append]
   rfl
  have e3:q1s (Dn (n+2)) (.str q) (o1::o2::vS0 (obA i) tg av nl ws,accO U Tt F mq) (Sn pr pa x0 i a N y)=some ((o1::some (.str q)::vS0 (obA i) tg av nl ws,accO U Tt F (mq++[q])),Sn pr pa x0 i a (N++add) (y++[AObj.set S])):=by
   have e0:calA (Dn (n+2)) (.mt 90 (.obj (obA i))) (some (.str q,Sn pr pa x0 i a N y))=some (qR (F q) (Tt q) (U q),Sn pr pa x0 i a (N++add) (y++[AObj.set S])):=(nr rfl:calA (Dn (n+2)) (.mt 90 (.obj (obA i))) (some (.str q,Sn pr pa x0 i a N y))=Dn (n+2) 90 [.obj (obA i),.str q] [] (Sn pr pa x0 i a N y)).trans e
   rw[v6w,e0,q0c,e2,q0c]
  refine(congrArg (λ o=>Option.bind o λ p=>z1m (q1s (Dn (n+2))) (qs.map .str) p.1 p.2) e3).trans ?_
  rw[List.append_assoc]at e'
  exact e'
end
noncomputable abbrev vS1 (d:Nat) (q:Str) (av:AV) (nl:Nat):Vs:=[some (.obj d),some (.str q),some av,some (.loc nl),some .none,none,none,none,none,none,none,none,none,none,none,none,none,none,none,none]
noncomputable abbrev q0g (p:Str×Str):Str×AV:=(p.1,.str p.2)
def fdK (kvs:tE):AV:=.fd ((kvs.map q0g).map (·.1)) ((kvs.map q0g).map (·.2))
theorem z3c:∀mx:List (Str×AV),(mx.map (·.1)).zip (mx.map (·.2))=mx
 | []=>rfl
 | p::mx=>by rw[List.map_cons,List.map_cons,List.zip_cons_cons,z3c mx]
theorem fd_d (kvs:tE) (Z:Store):q0l Z (fdK kvs)=some (kvs.map q0g):=congrArg some (z3c _)
theorem fd_t (kvs:tE) (Z:Store):trT Z (fdK kvs)=some (!kvs.isEmpty,Z):=by cases kvs<;>rfl
theorem z3w {k:Str} {kvs:tC} (h:k∉kvs.map (·.1)):q1i k kvs=none:=by
 have e:=z7t k kvs
 rw[Bool.eq_false_iff.mpr λ q=>h (List.contains_iff_mem.mp q)]at e
 exact Option.isSome_eq_false_iff.mp e.symm |> Option.isNone_iff_eq_none.mp
def m0 (C:q0b) (Z:Store) (m:Option Callee):Res:=m.bind λ m=>bnd (some ([],Z)) λ xs s=>bnd (some ([],s)) λ kv s=>w4k T C m xs kv s
theorem v1p {C:q0b} {Z:Store} {m:Option Callee} {b:BI} {x:AV} {r:Res} (h:m=some (.bi b x)) (h2:biA b [x] Z=r):m0 C Z m=r:=by rw[h];exact h2
theorem add_str {x y:Str} {Z:Store} (h:x.length+y.length<=10000000):binR Z .Add (.str x) (.str y)=some (.str (x++y),Z):=
 (nr tK:binR Z .Add (.str x) (.str y)=((catA x y).map .str).bind λ v=>some (v,Z)).trans (by rw[z9t h];rfl)
noncomputable def exK:Str:=tF "{u}1}b"
noncomputable def kx (kvs:tE):List (Str×Str):=kvs.filter λ kv=>![exK].contains kv.1
def stE (mx:tC) (kv:Str×Str):List (Str×AV):=if(![exK].contains kv.1)=true then q0x kv.1 (.str kv.2) mx else mx
theorem k5l:∀(kvs mq:tE),((mq++kvs).map (·.1)).Nodup->kvs.foldl stE ((kx mq).map q0g)=(kx (mq++kvs)).map q0g
 | [],mq,_=>by rw[List.append_nil];rfl
 | kv::kvs,mq,h=>by
  have h':((mq++[kv]++kvs).map (·.1)).Nodup:=by rw[List.append_assoc];exact h
  have e:stE ((kx mq).map q0g) kv=(kx (mq++[kv])).map q0g:=by
   unfold stE kx
   rw[List.filter_append,List.filter_cons,List.filter_nil]
   by_cases q:(![exK].contains kv.1)=true
   ·rw[if_pos q,if_pos q,z6y (z3w λ hm=>?_),List.map_append];rfl
    obtain⟨z,hz,e⟩:=List.mem_map.mp hm
    obtain⟨y,hy,rfl⟩:=List.mem_map.mp hz
    rw[List.map_append]at h
    exact(List.nodup_append.mp h).2.2 y.1 (List.mem_map_of_mem (List.mem_filter.mp hy).1) kv.1 (zL ..) e
   ·rw[if_neg q,if_neg q,List.append_nil]
  rw[List.foldl_cons,e,k5l kvs (mq++[kv]) h',List.append_assoc];rfl
theorem j7u (mx:tC) (kv:Str×Str):(stE mx kv).length<=mx.length+1:=by
 unfold stE q0x
 split
 ·split
  ·rw[zH];exact Nat.le_succ _
  ·rw[zI];exact jZ _
 ·exact Nat.le_succ _
theorem k0f:∀(kvs:tE) (mx:tC),(kvs.foldl stE mx).length<=mx.length+kvs.length
 | [],mx=>jZ _
 | kv::kvs,mx=>jH (k0f kvs _) (jH (Nat.add_le_add_right (j7u mx kv) _) (zA (Nat.succ_add_eq_add_succ ..)))
theorem j0f (kvs:tE) (Z:Store):q5s Z (.iv (fdK kvs))=some (kvs.map q0a):=by
 show(q0l Z (fdK kvs)).map (λ kvs=>kvs.map λ kv=>AV.tup [.str kv.1,kv.2])=_
 rw[fd_d,Option.map_some,List.map_map];rfl
section
variable (C:q0b) (pr:tC) (pa:tW) (x:Store) (a:W)
theorem v6i:∀C,q4d C (vS1 (obA .c) q av nl) (Bw pr pa x .c a)=some (.next,vS1 (obA .c) q av nl,Bw pr pa x .c a):=λ C=>nr tK
theorem v6j:q4d C (vS1 (obA .t) q av nl) (Bw pr pa x .t a)=ifn (vS1 (obA .t) q av nl) (andT (trT (Bw pr pa x .t a) (norm av)) λ s=>some (true,s)) (q8a C (vS1 (obA .t) q av nl)):=nr tK
theorem v6s (Z:Store) (d:Nat) (ks:tL) (vs:tW):q8a C (vS1 d q (.fd ks vs) nl) Z=sq (asg (vS1 d q (.fd ks vs) nl) 2 (bnd (bnd ((q5s Z (.iv (.fd ks vs))).bind λ xs=>z1m (q3l C) xs (none::none::none::vS1 d q (.fd ks vs) nl,[]) Z) λ r s=>some (r.2,s)) λ mx s=>q2j false mx s)) λ v s=>some (.next,v,s):=nr tK
theorem v6v (k v:Str) (o0 o1 o2:Option AV) (mx:tC):q3l C (q0a (k,v)) (o0::o1::o2::vS1 (obA .t) q av nl,mx) (Bw pr pa x .t a)=if(![exK].contains k)=true then bnd (z3q mx (.str k) (.str v) (Bw pr pa x .t a)) λ r s=>some ((o0::some (.str k)::some (.str v)::vS1 (obA .t) q av nl,r),s)else some ((o0::some (.str k)::some (.str v)::vS1 (obA .t) q av nl,mx),Bw pr pa x .t a):=by
 have e:q3l C (q0a (k,v)) (o0::o1::o2::vS1 (obA .t) q av nl,mx) (Bw pr pa x .t a)=bnd (bnd (some (![exK].contains k,Bw pr pa x .t a)) λ b s=>if b=true then some (true,s)else some (false,s)) λ ok s=>if ok=true then bnd (z3q mx (.str k) (.str v) s) λ r s=>some ((o0::some (.str k)::some (.str v)::vS1 (obA .t) q av nl,r),s)else some ((o0::some (.str k)::some (.str v)::vS1 (obA .t) q av nl,mx),s):=nr tK
 rw[e]
 cases (![exK].contains k)<;>rfl
theorem st_0 (i:Who) (kvs:tE) (hi:i = .c->kvs=[]) (hn:(kvs.map (·.1)).Nodup) (hz:kvs.length<=1000):q4d C (vS1 (obA i) q (fdK kvs) nl) tB=some (.next,vS1 (obA i) q (fdK (kx kvs)) nl,Bw pr pa x i a):=by
 induction i using Who.casesOn with
 | c=>rw[hi rfl];exact v6i ..
 | t=>
  have e:=v6j C pr pa x a (q:=q) (av:=fdK kvs) (nl:=nl)
  rw[show norm (fdK kvs)=fdK kvs from rfl,fd_t]at e
  by_cases h:kvs=[]
  ·subst h;exact e.trans (w3r rfl)
  ·rw[List.isEmpty_eq_false_iff.mpr h]at e
   refine e.trans ((w5d rfl).trans ?_)
   have g:Got (own3 (vS1 (obA .t) q (fdK kvs) nl)) (z1m (q3l C) (kvs.map q0a) (none::none::none::vS1 (obA .t) q (fdK kvs) nl,[]) (Bw pr pa x .t a)) (kvs.foldl stE []) (Bw pr pa x .t a):=by
    refine j6c (P:=own3 (vS1 (obA .t) q (fdK kvs) nl)) (λ mq kv mr vs ex h=>?_) kvs [] _ rfl ⟨_,_,_,rfl⟩
    obtain⟨o0,o1,o2,rfl⟩:=h
    refine⟨_,⟨o0,some (.str kv.1),some (.str kv.2),rfl⟩,(v6v C pr pa x a kv.1 kv.2 o0 o1 o2 _).trans ?_⟩
    have hl:(mq.foldl stE []).length<100000:=jJ (jH (k0f mq []) (jH (zA (Nat.zero_add _)) (jH (by rw[ex,zI];exact zC ..) hz))) tA
    show(if(![exK].contains kv.1)=true then _ else _)=some ((_,if(![exK].contains kv.1)=true then _ else _),_)
    by_cases c:(![exK].contains kv.1)=true
    ·rw[if_pos c,if_pos c]
     exact stk (if_pos (few (Nat.lt_trans hl tA))) _ rfl
    ·rw[if_neg c,if_neg c]
   obtain⟨vs',_,eg⟩:=g
   have ef:kvs.foldl stE []=(kx kvs).map q0g:=k5l kvs [] hn
   rw[ef]at eg
   have eb:=v6s C (q:=q) (nl:=nl) (Bw pr pa x .t a) (obA .t) ((kvs.map q0g).map (·.1)) ((kvs.map q0g).map (·.2))
   have ei:=j0f kvs (Bw pr pa x .t a)
   rw[fdK]at ei
   rw[ei]at eb
   refine eb.trans (stq (V:=vS1 (obA .t) q (fdK (kx kvs)) nl) (q4v (v:=fdK (kx kvs)) ?_) _ rfl)
   exact stk (stk eg (λ r s=>some (r.2,s)) rfl) (λ mx s=>q2j false mx s) rfl
end
section
variable (C:q0b) (pr:tC) (pa:tW) (x:Store) (i:Who) (a:W)
theorem st_1 {Z:Store} (d:Nat):w1c C (vS1 d q av nl) Z=asg (vS1 d q av nl) 7 (set2 false (.str q) (norm av) Z):=nr tK
noncomputable abbrev vS3 (d:Nat) (q:Str) (av:AV) (nl:Nat) (ws:tL) (rn qa pn:Option AV):Vs:=[some (.obj d),some (.str q),some av,some (.loc nl),some .none,none,none,some (.ws ws),rn,none,qa,none,none,pn,none,none,none,none,none,none]
theorem st_2 {Z:Store} (d:Nat):w1d C (vS3 d q av nl ws none none none) Z=some (.next,vS3 d q av nl ws (some (.fd [] [])) none none,Z):=nr tK
theorem st_3 {Z:Store} (d:Nat) (rn:Option AV):w1e C (vS3 d q av nl ws rn none none) Z=some (.next,vS3 d q av nl ws rn none none,Z):=nr tK
theorem st_4 (rn:Option AV):∀i,w1f C (vS3 (obA i) q av nl ws rn none none) tB=some (.next,vS3 (obA i) q av nl ws rn (some .none) none,Bw pr pa x i a):=tri (nr tK)
theorem st_5 (rn qa:Option AV):∀i,w1g C (vS3 (obA i) q av nl ws rn qa none) tB=some (.next,vS3 (obA i) q av nl ws rn qa (some (.mt 90 (.obj (obA i)))),Bw pr pa x i a):=tri (nr tK)
theorem st_a {kvs:tE} (hi:i = .c->kvs=[]) (hn:(kvs.map (·.1)).Nodup) (hz:kvs.length<=1000) (h:set2 false (.str q) (fdK (kx kvs)) tB=some (.ws ws,Bw pr pa x i a)):q7z C (vS1 (obA i) q (fdK kvs) nl) tB=q8e C (vS0 (obA i) q (fdK (kx kvs)) nl ws) tB:=by
 delta q7z w3g
 rw[st_0 C pr pa x a i kvs hi hn hz,q0p]
 unfold w3h
 rw[st_1,show norm (fdK (kx kvs))=fdK (kx kvs)from rfl,q4v h,q0p]
 show q8d C (vS3 (obA i) q (fdK (kx kvs)) nl ws none none none) _=_
 unfold q8d
 rw[st_2,q0p]
 unfold w3i
 rw[st_3,q0p]
 unfold w3j
 rw[st_4,q0p]
 unfold w3k
 rw[st_5,q0p]
theorem st_6 {Z:Store} (d:Nat):q8e C (vS0 d q av nl ws) Z=sq (asg (vS0 d q av nl ws) 14 (bnd (bnd (k3e (.ws ws) Z) λ v s=>bnd (if(!goN v)=true then none else q0s v (q1s C) ((none::none::vS0 d q av nl ws),[]) s) λ r s=>some (r.2,s)) λ mx s=>q2j false mx s)) λ v s=>q3m C v s:=nr tK
theorem j7t (h:ws.length<5):k3e (.ws ws) tB=some (.fl ((q4u ws).map .str),Bw pr pa x i a):=if_pos ⟨h,by cases i<;>rfl⟩
abbrev vS2 (d:Nat) (q:Str) (av:AV) (nl:Nat) (ws:tL) (pq:AV) (k v an uri al aq sb wr:Option AV:=none):Vs:=vS d q av nl ws k v an (some pq) uri al aq sb wr
theorem st_7 {Z:Store} (d:Nat):q3m C (vS2 d q av nl ws pq) Z=sq (iff (trT Z (.loc nl)) (q8b C (vS2 d q av nl ws pq)) (q8c C (vS2 d q av nl ws pq))) λ v s=>q3n C v s:=nr tK
theorem v6u:∀i,q8c C (vS2 (obA i) q av nl ws pq) tB=some (.next,vS2 (obA i) q av nl ws pq none none none none (some (.loc (x.length+bA i))),Bw pr pa (x++[.list []]) i a):=tri (nr tK)
theorem v6t {Z:Store} (d:Nat):q8b C (vS2 d q av nl ws pq) Z=sq (asg (vS2 d q av nl ws pq) 16 (bnd (bnd (q0s (.loc nl) (q5b C) (none::none::none::vS2 d q av nl ws pq,[]) Z) λ r s=>some (r.2,s)) λ mx s=>q0w true mx s)) λ v s=>sq (q3i C v s) λ v s=>some (.next,v,s):=nr tK
theorem v5l (mx:tW):∀i,q0w true mx tB=some (.loc (x.length+bA i),Bw pr pa (x++[.list mx]) i a):=tri (nr tK)
theorem v3h {Z:Store} (d:Nat):q3i C (vS2 d q av nl ws pq none none none none (some (.loc al))) Z=es (vS2 d q av nl ws pq none none none none (some (.loc al))) (m0 C Z (q7n T Z (.loc al) (tF "sort"))):=nr tK
theorem v6x {Z:Store} {u p:Str} {d:Nat} {o0 o1 o2:Option AV} {mx:tW}:q5b C (q0a (u,p)) (o0::o1::o2::vS2 d q av nl ws pq,mx) Z=bnd (q2h mx (bnd (evC (bnd (some (p.length !=0,Z)) λ c s=>if c=true then binR s .Add (.str (tF "xmlns:")) (.str p)else some (.str (tF "xmlns"),s)) λ s=>evC (some (.str u,s)) λ s=>some ([],s)) λ xs s=>if xs.length<=sizeLine then some (.tup xs,s)else none)) λ r s=>some ((o0::some (.str u)::some (.str p)::vS2 d q av nl ws pq,r),s):=nr tK
end
theorem j6w {Z:Store} {l:Nat} {xs:tW} (h:Z[l]? = some (.list xs)):q7n T Z (.loc l) (tF "sort")=some (.bi .lSort (.loc l)):=by
 show optC (q1f Z l) _ _=_
 rw[q1q h]
 kernel_rfl
theorem j4z {Z:Store} {l:Nat} {ps:tE} (h:Z[l]? = some (.list (ps.map q0a))) (hz:ps.length<5):biA .lSort [.loc l] Z=some (.none,Z.set l (.list ((q2d ps).map q0a))):=
 stb (q1q h) (λ xs=>(z8k xs).bind λ ps=>if ps.length<5 then some (AV.none,Z.set l (.list ((q2d ps).map q0a)))else none) rfl |>.trans (stb (w5r ps) (λ ps=>if ps.length<5 then some (AV.none,Z.set l (.list ((q2d ps).map q0a)))else none) rfl |>.trans (if_pos hz))
abbrev bmw (i:Who):AV:=.bm .lAppend (.loc (ouA i))
section
variable (C:q0b) (pr:tC) (pa:tW) (x:Store) (i:Who) (a:W)
abbrev vT (d:Nat) (q:Str) (av:AV) (nl:Nat) (ws:tL) (pq:AV) (al:Nat) (k v an uri aq sb wr:Option AV:=none):Vs:=vS2 d q av nl ws pq k v an uri (some (.loc al)) aq sb wr
theorem st_8 {Z:Store} (d:Nat):q3n C (vT d q av nl ws pq al k v an uri aq sb wr) Z=sq (ifn (vT d q av nl ws pq al k v an uri aq sb wr) (trT Z (norm av)) (q6t C (vT d q av nl ws pq al k v an uri aq sb wr))) λ v s=>q3o C v s:=nr tK
theorem v3f {Z:Store} (d:Nat):q6t C (vT d q av nl ws pq al k v an uri aq sb wr) Z=sq (bnd (calA C (.bf .sorted) (m0 C Z (q7n T Z (norm av) (tF "items")))) λ y s=>if frozen y=true then(q5s s y).bind λ xs=>forA (q5w C) xs (vT d q av nl ws pq al k v an uri aq sb wr) s else none) λ v s=>some (.next,v,s):=nr tK
theorem v3e {Z:Store} (d:Nat) (mm val:Str):q5w C (q0a (mm,val)) (vT d q av nl ws pq al k v an uri aq sb wr) Z=sq (q8h C (vT d q av nl ws pq al (sS mm) (sS val) an uri aq sb wr) Z) λ v s=>sq (q8i C v s) λ v s=>some (.next,v,s):=nr tK
def unp (d:Nat) (q:Str) (av:AV) (nl:Nat) (ws:tL) (pq:AV) (al:Nat) (k v an uri aq sb wr:Option AV) (y:AV) (s:Store):ResS:=
 bnd (bnd ((q1g s y).bind λ xs=>(asC xs λ y r=>bnd (some (setI (vT d q av nl ws pq al k v an uri aq sb wr) 17 y,s)) λ vs s=>(asC r λ y r=>bnd (some (setI vs 11 y,s)) λ vs s=>(asC r λ y r=>bnd (some (setI vs 15 y,s)) λ vs s=>(asE r vs s))))) λ vs s=>some (vs,s)) λ vs s=>some (.next,vs,s)
theorem j7v {Z:Store} (d:Nat) (mm:Str):q8h C (vT d q av nl ws (norm pq) al (sS mm) v an uri aq sb wr) Z=bnd (getR Z (norm (norm pq)) (.str mm)) (unp d q av nl ws (norm pq) al (sS mm) v an uri aq sb wr):=nr tK
theorem v3i {Z:Store} (d:Nat) (f t u:Str):unp d q av nl ws pq al k v an uri aq sb wr (.tup [.str f,.str t,.str u]) Z=some (.next,vT d q av nl ws pq al k v (sS t) (sS u) (sS f) sb wr,Z):=nr tK
theorem j7w {Z:Store} (d:Nat) (f t u val:Str):q8i C (vT d q av nl ws pq al k (sS val) (sS t) (sS u) (sS f) sb wr) Z=es (vT d q av nl ws pq al k (sS val) (sS t) (sS u) (sS f) sb wr) ((q7n T Z (.loc al) (tF "append")).bind λ m=>cal C m (bnd (evC (bnd (some (u.length !=0,Z)) λ c s=>if c=true then some (.str f,s)else some (.str t,s)) λ s=>evC (some (.str val,s)) λ s=>some ([],s)) λ xs s=>if xs.length<=sizeLine then some (.tup xs,s)else none)):=nr tK
theorem st_9 {Z:Store} (d:Nat):q3o C (vT d q av nl ws pq al k v an uri aq sb wr) Z=sq (asg (vT d q av nl ws pq al k v an uri aq sb wr) 18 ((q7n T Z (norm av) (tF "get")).bind λ m=>cal C m (some (.str (tF "{http://www.w3.org/XML/1998/namespace}space"),Z)))) λ v s=>q4b C v s:=nr tK
theorem v6k:∀i,q4b C (vT (obA i) q av nl ws pq al k v an uri aq (some .none) wr) tB=sq (es (vT (obA i) q av nl ws pq al k v an uri aq (some .none) wr) (cal C (.bi .lAppend (.loc (prA i))) (getR tB (.loc (prA i)) (.int (-1))))) λ v s=>q6v C v s:=tri (nr tK)
theorem v6l:∀i,q9g C (vT (obA i) q av nl ws pq al k v an uri aq sb) tB=some (.next,vT (obA i) q av nl ws pq al k v an uri aq sb (some (bmw i)),Bw pr pa x i a):=tri (nr tK)
theorem v6m {Z:Store} (d:Nat) (i:Who):q2t C (vT d q av nl ws pq al k v an uri aq sb (some (bmw i))) Z=sq (es (vT d q av nl ws pq al k v an uri aq sb (some (bmw i))) (calA C (bmw i) (bnd (bnd (getR Z (norm pq) (.str q)) λ x s=>getR s x (.int 0)) λ y s=>binR s .Add (.str (tF "<")) y))) λ v s=>q2u C v s:=nr tK
theorem v6n {Z:Store} (d:Nat) (i:Who):q2u C (vT d q av nl ws pq al k v an uri aq sb (some (bmw i))) Z=sq (ifn (vT d q av nl ws pq al k v an uri aq sb (some (bmw i))) (trT Z (.loc al)) (q6u C (vT d q av nl ws pq al k v an uri aq sb (some (bmw i))))) λ v s=>q2v C v s:=nr tK
theorem v3g {Z:Store} (d:Nat) (i:Who):q6u C (vT d q av nl ws pq al k v an uri aq sb (some (bmw i))) Z=sq (es (vT d q av nl ws pq al k v an uri aq sb (some (bmw i))) (calA C (bmw i) (cal C (.bi .sJoin (.str (tF ""))) (bnd (bnd (q0s (.loc al) (q5c C) (none::none::none::vT d q av nl ws pq al k v an uri aq sb (some (bmw i)),[]) Z) λ r s=>some (r.2,s)) λ mx s=>q0w false mx s)))) λ v s=>some (.next,v,s):=nr tK
def attF (C:q0b) (k v:Str) (Z:Store):Option (Str×Store):=(catA Str.empty (tF " ")).bind λ a=>bnd (some (AV.str k,Z)) λ x s=>q6j a x λ a=>(catA a (tF "=\"")).bind λ a=>bnd (calA C (.fn 168) (some (.str v,s))) λ x s=>q6j a x λ a=>(catA a (tF "\"")).bind λ a=>q1m a s
theorem v6y {Z:Store} {ke va:Str} {o0 o1 o2:Option AV} {mx:tW} {V:Vs}:q5c C (q0a (ke,va)) (o0::o1::o2::V,mx) Z=bnd (q2h mx (bnd (attF C ke va Z) λ r s=>some (.str r,s))) λ r s=>some ((o0::some (.str ke)::some (.str va)::V,r),s):=nr tK
theorem v6o {Z:Store} (d:Nat) (i:Who):q2v C (vT d q av nl ws pq al k v an uri aq sb (some (bmw i))) Z=sq (es (vT d q av nl ws pq al k v an uri aq sb (some (bmw i))) (calA C (bmw i) (some (.str (tF ">"),Z)))) λ v s=>q6w C v s:=nr tK
theorem v6p {Z:Store} (d:Nat):q9h C (vT d q av nl ws pq al k v an uri aq sb wr) Z=some (.next,vT d q av nl ws pq al k v an uri aq sb wr,Z):=nr tK
theorem v6q:∀i,q9i C (vT (obA i) q av nl ws pq al k v an uri aq sb wr) tB=some (.next,vT (obA i) q av nl ws pq al k v an uri aq sb wr,Bw pr pa x i (a.ws true a.done)):=tri (nr tK)
theorem v6r:∀i,q9j C (vT (obA i) q av nl ws pq al k v an uri aq sb wr) tB=es (vT (obA i) q av nl ws pq al k v an uri aq sb wr) (cal C (.bi .lAppend (.loc (nlA i))) (some (.loc (x.length+bA i),Bw pr pa (x++[.list []]) i a))):=tri (nr tK)
end
theorem j7r {q:Str} {av:AV} {kvs:tE} {Z:Store} (hv:q0l Z av=some (kvs.map q0g)) (h3:kvs.length<=3):set2 false (.str q) av Z=some (.ws (q0o [q] (kvs.map (·.1))),Z):=by
 refine stb hv (λ kvs=>if kvs.length<=3 then j0w false (q0o [q] (kvs.map (·.1))) Z else none) rfl |>.trans ?_
 rw[if_pos (by rw[zH];exact h3),List.map_map]
 have h:=q4e (kvs.map (·.1)) [q]
 rw[zH,List.length_singleton]at h
 exact if_pos (jJ h (jJ (Nat.add_le_add_left h3 1) tA))
theorem v1t {Z:Store} (kvs:tE):q7n T Z (fdK kvs) (tF "items")=some (.bi .dItems (fdK kvs))/\q7n T Z (fdK kvs) (tF "get")=some (.bi .dGet (fdK kvs)):=⟨nr tK,nr tK⟩
theorem k8m {Z:Store} {l:Nat} {xs:tW} (h:Z[l]? = some (.list xs)):trT Z (.loc l)=some (!xs.isEmpty,Z):=by
 dsimp only[trT,q3x]
 rw[h]
 rfl
theorem q1y {β:Type} (f:β->AV):∀L:List β,(L.flatMap λ u=>[f u])=L.map f
 | []=>rfl
 | u::L=>by simp only[List.flatMap_cons,q1y f L];rfl
noncomputable def nsK (p:Str):Str:=if p.length=0 then tF "xmlns" else tF "xmlns:"++p
def xmlns (z:Str×Str):Str×Str:=(nsK z.2,z.1)
theorem j7e {p:Str} (h:p.length<=500):(nsK p).length<=506:=by
 unfold nsK
 split
 ·decide
 ·rw[w5g];exact Nat.add_le_add_left h 6
def nsE (p:Str) (Z:Store):Res:=bnd (some (p.length !=0,Z)) λ c s=>if c=true then binR s .Add (.str (tF "xmlns:")) (.str p)else some (.str (tF "xmlns"),s)
theorem v2e {p:Str} (h:p.length<=500) (Z:Store):nsE p Z=some (.str (nsK p),Z):=by
 unfold nsE nsK
 rw[q0c]
 by_cases q:p.length=0
 ·rw[q];rfl
 ·rw[if_neg q,if_pos (bne_iff_ne.mpr q)]
  exact add_str (jH (Nat.add_le_add_left h _) tA)
section
variable (C:q0b) (pr:tC) (pa:tW) (x0:Store) (i:Who) (a:W)
theorem j0q (y:Store) (N:tE) (hs:∀p∈N,p.2.length<=500) (h5:N.length<5) :
  q3m C (vS2 (obA i) q av (x0.length+bA i) ws pq) (Bw pr pa (x0++.list (N.map q0a)::y) i a)
   = q3n C (vT (obA i) q av (x0.length+bA i) ws pq (x0.length+1+y.length+bA i)) (Bw pr pa (x0++.list (N.map q0a)::y++[.list ((q2d (N.map xmlns)).map q0a)]) i a):=by
 have hlen:(x0++.list (N.map q0a)::y).length=x0.length+1+y.length:=by simp only[zI,List.length_cons];exact(Nat.succ_add _ _).symm
 have ha:q0i (Bw pr pa (x0++.list (N.map q0a)::y) i a) (.loc (x0.length+bA i))=some (N.map q0a):=(v1o pr pa _ i a (z4p i a.n0 x0 y _)).2
 generalize hx:x0++AObj.list (N.map q0a)::y=x at *
 rw[st_7]
 have ht:trT tB (.loc (x0.length+bA i))=some (!N.isEmpty,Bw pr pa x i a):=(k8m (q6m (show q1f tB (x0.length+bA i)=_ from ha))).trans (by rw[List.isEmpty_map])
 by_cases h0:N=[]
 ·subst h0
  rw[j0b ht,v6u,q0p,hlen,show q2d (([]:tE).map xmlns)=[]from List.mergeSort_nil]
  rfl
 ·simp only[j0c (ht.trans (by rw[List.isEmpty_eq_false_iff.mpr h0];rfl)),v6t]
  have g:Got (own3 (vS2 (obA i) q av (x0.length+bA i) ws pq)) (q0s (.loc (x0.length+bA i)) (q5b C) (none::none::none::vS2 (obA i) q av (x0.length+bA i) ws pq,[]) tB) (N.foldl (app λ z=>[q0a (xmlns z)]) []) tB:=by
   refine z1d (e:=q0a) ha (λ mq z mr vs ex h=>?_) ⟨_,_,_,rfl⟩
   obtain⟨o0,o1,o2,rfl⟩:=h
   have z2:=hs z (by rw[ex];simp)
   have hz:(mq.foldl (app λ z=>[q0a (xmlns z)]) []).length<100000:=by
    have:=congrArg List.length ex
    simp only[q1d,q1y,List.nil_append,zH]
    rw[zI,List.length_cons]at this
    exact jJ (jH (zC _ _) (zA this.symm)) (Nat.lt_trans h5 tA)
   refine⟨_,⟨o0,some (.str z.1),some (.str z.2),rfl⟩,(v6x ..).trans ?_⟩
   have ee:(bnd (evC (nsE z.2 tB) λ s=>evC (some (.str z.1,s)) λ s=>some ([],s)) λ xs s=>if xs.length<=sizeLine then some (AV.tup xs,s)else none)=some (q0a (xmlns z),Bw pr pa x i a):=by
    rw[v2e z2]
    exact nr tK
   exact stk (em_n ee hz) _ rfl
  obtain⟨vs',_,e⟩:=g
  simp only[q1d,q1y,List.nil_append,show N.map (λ z=>q0a (xmlns z))=(N.map xmlns).map q0a from by rw[List.map_map];rfl]at e
  have h4:(N.map xmlns).length<5:=by rw[zH];exact h5
  have hc:(Bw pr pa (x++[.list ((N.map xmlns).map q0a)]) i a)[x.length+bA i]? = some (.list ((N.map xmlns).map q0a)):=w2e ..
  have hb:=j4z hc h4
  rw[w4e]at hb
  simp only[e,q0c,q0c,q4v (v5l pr pa x a _ i),q0p]
  show sq (sq (q3i C (vS2 (obA i) q av (x0.length+bA i) ws pq none none none none (some (.loc (x.length+bA i)))) _) _) _=_
  rw[v3h,es_n (v1p (j6w hc) hb),q0p,q0p,hlen]
end
noncomputable abbrev pqV (mx:tC):AV:=.fd (mx.map (·.1)) (mx.map (·.2))
theorem q1w:∀ts:List Str,q0z (ts.map AV.str)=some ts
 | []=>rfl
 | t::r=>by
  show(q0z (r.map AV.str)).map (t :: ·)=_
  rw[q1w r]
  rfl
theorem j2x {mx:tC} {k f t u:Str} (h:q1i k mx=some (.tup [.str f,.str t,.str u])) (Z:Store):getR Z (pqV mx) (.str k)=some (.tup [.str f,.str t,.str u],Z):=by
 show(q1i k ((mx.map (·.1)).zip (mx.map (·.2)))).bind _=_
 rw[z3c,h]
 rfl
noncomputable def at1 (U Tt:Str->Str) (F:Str->Str) (kv:Str×Str):Str×Str:=(if(U kv.1).length=0 then Tt kv.1 else F kv.1,kv.2)
section
variable (C:q0b) (pr:tC) (pa:tW) (i:Who) (a:W) {q:Str} {av:AV} {nl j d:Nat} {ws:tL} {mx:tC} (U Tt:Str->Str) (F:Str->Str)
theorem j4p {x:Store} {B:tW} (hj:x[j]? = some (.list B)) (hB:B.length<1000) (kv:Str×Str) (hf:q1i kv.1 mx=some (qR (F kv.1) (Tt kv.1) (U kv.1))) (k v an uri aq sb wr:Option AV) :
  q5w C (q0a kv) (vT d q av nl ws (pqV mx) (j+bA i) k v an uri aq sb wr) tB=some (.next,vT d q av nl ws (pqV mx) (j+bA i) (sS kv.1) (sS kv.2) (some (.str (Tt kv.1))) (some (.str (U kv.1))) (some (.str (F kv.1))) sb wr,
   Bw pr pa (x.set j (.list (B++[q0a (at1 U Tt F kv)]))) i a):=by
 have h2:(Bw pr pa x i a)[j+bA i]? = some (.list B):=(x_at ..).trans hj
 have h3:=z9p (v:=q0a (at1 U Tt F kv)) h2 (Nat.lt_trans hB tA)
 rw[j2f]at h3
 have e1:=(j7v C (q:=q) (av:=av) (nl:=nl) (al:=j+bA i) (ws:=ws) (pq:=pqV mx) (v:=some (.str kv.2)) (an:=an) (uri:=uri) (aq:=aq) (sb:=sb) (wr:=wr) (Z:=Bw pr pa x i a) d kv.1).trans (stk (j2x hf _) _ rfl |>.trans (v3i ..))
 refine(v3e ..).trans (stq e1 _ rfl |>.trans (stq ?_ _ rfl))
 rw[show(norm (pqV mx))=pqV mx from rfl,j7w]
 refine es_n (v:=.none) (stb (k0v h2) _ rfl |>.trans (q4x (v:=q0a (at1 U Tt F kv)) (Z:=Bw pr pa x i a) ?_ h3))
 unfold at1
 by_cases h0:(U kv.1).length=0
 ·rw[if_pos h0,h0];exact nr tK
 ·rw[if_neg h0,show((U kv.1).length !=0)=true from bne_iff_ne.mpr h0];exact nr tK
theorem k3v:∀(kvs:tE) (x:Store) (B:tW),x[j]? = some (.list B)->B.length+kvs.length<1000->(∀kv∈kvs,q1i kv.1 mx=some (qR (F kv.1) (Tt kv.1) (U kv.1)))->∀(k v an uri aq sb wr:Option AV),
  Ex5 λ k' v' an' uri' aq'=>forA (q5w C) (kvs.map q0a) (vT d q av nl ws (pqV mx) (j+bA i) k v an uri aq sb wr) tB=some (.next,vT d q av nl ws (pqV mx) (j+bA i) k' v' an' uri' aq' sb wr,Bw pr pa (x.set j (.list (B++(kvs.map (at1 U Tt F)).map q0a))) i a)
 | [],x,B,hj,_,_,k,v,an,uri,aq,sb,wr=>⟨k,v,an,uri,aq,by
  obtain⟨h1,h2⟩:=List.getElem?_eq_some_iff.mp hj
  have:x.set j (.list (B++(([]:tE).map (at1 U Tt F)).map q0a))=x:=by simp only[List.map_nil,List.map_nil,List.append_nil,<-h2,List.set_getElem_self]
  rw[this];rfl⟩
 | kv::kvs,x,B,hj,hz,hf,k,v,an,uri,aq,sb,wr=>by
  have hl:=(List.getElem?_eq_some_iff.mp hj).1
  rw[List.length_cons]at hz
  rcases _:k3v kvs (x.set j (.list (B++[q0a (at1 U Tt F kv)]))) (B++[q0a (at1 U Tt F kv)]) (by rw[List.getElem?_set_self hl]) (by rw[zI,List.length_singleton,Nat.add_right_comm];exact hz) (λ z hz=>hf z (zG _ hz)) (sS kv.1) (sS kv.2) (some (.str (Tt kv.1))) (some (.str (U kv.1))) (some (.str (F kv.1))) sb wr with⟨k',v',an',uri',aq',e⟩
  simp only[List.set_set,List.append_assoc]at e
  exact⟨k',v',an',uri',aq',(stq (j4p C pr pa i a U Tt F hj (jJ (zC _ _) hz) kv (hf kv (zL ..)) k v an uri aq sb wr) _ rfl).trans e⟩
theorem k8c {Z:Store} {kvs:tE} (hd:q0l Z av=some (kvs.map q0g)) (h3:kvs.length<=3):z2t (.iv av) Z=some (.fl ((q2d kvs).map q0a),Z):=by
 have e:w9q (kvs.map q0g)=some kvs:=by
  unfold w9q
  rw[List.map_map,List.map_map,show(kvs.map ((·.2) ∘ q0g))=(kvs.map (·.2)).map .str by rw[List.map_map];rfl,q1w]
  show some ((kvs.map (·.1)).zip (kvs.map (·.2)))=_
  rw[<-List.unzip_fst,<-List.unzip_snd,List.zip_unzip]
 show((q0l Z av).bind λ kvs=>(w9q kvs).bind λ ps=>if ps.length<5 then some (AV.fl ((q2d ps).map q0a),Z)else none)=_
 rw[hd]
 show((w9q (kvs.map q0g)).bind _)=_
 rw[e]
 exact if_pos (jJ h3 tA)
end
theorem w1v {C:q0b} {b:BI} {m r:Res} {v:AV} {Z:Store} (h:m=some (v,Z)) (h2:biA b [v] Z=r):calA C (.bf b) m=r:=by rw[h];exact h2
noncomputable def lt1:Str:=tF "<"
noncomputable def gt1:Str:=tF ">"
def atS (kv:Str×Str):Str:=tF " "++kv.1++tF "=\""++escA kv.2++tF "\""
theorem j2m (kv:Str×Str) (h1:kv.1.length<=1000) (h2:kv.2.length<=50):(atS kv).length<=2334000:=by
 exact jH (catB (catB (catB (catB l_bl h1) l_eq) (k5j h2)) l_qu) tA
theorem j4q {C:q0b} {Z:Store} (k v:Str) (h1:k.length<=1000) (h2:v.length<=50) (hC:C 168 [.str v] [] Z=some (.str (escA v),Z)):attF C k v Z=some (atS (k,v),Z):=by
 have h3:=k5j h2
 have hA:calA C (.fn 168) (some (.str v,Z))=some (.str (escA v),Z):=(z0r rfl).trans hC
 have e0:attF C k v Z=(catA (tF " ") k).bind λ a=>(catA a (tF "=\"")).bind λ a=>bnd (calA C (.fn 168) (some (.str v,Z))) λ x s=>q6j a x λ a=>(catA a (tF "\"")).bind λ a=>q1m a s:=nr tK
 have e1:=stb (catO l_bl h1 tA) _ e0
 have e2:=stb (catO (catB l_bl h1) l_eq tA) _ e1
 have e3:=stk hA _ e2
 have e4:=stb (catO (x:=tF " "++k++tF "=\"") (y:=escA v) (catB (catB l_bl h1) l_eq) h3 tA) (λ a=>(catA a (tF "\"")).bind λ a=>q1m a Z) e3
 have e5:=stb (catO (catB (catB (catB l_bl h1) l_eq) h3) l_qu tA) _ e4
 exact e5.trans (if_pos (jH (j2m (k,v) h1 h2) (by rw[sizeLine_eq];decide)))
section
variable (C:q0b) (pr:tC) (pa:tW) (i:Who) (a:W) (U Tt:Str->Str) (F:Str->Str)
theorem k9d {x:Store} {B:tW} (hj:x[j]? = some (.list B)) (kvs:tE) (h3:kvs.length<=3) (hB:B.length<900)
  (hf:∀kv∈kvs,q1i kv.1 mx=some (qR (F kv.1) (Tt kv.1) (U kv.1))) :
  Ex5 λ k v an uri aq=>q3n C (vT (obA i) q (fdK kvs) nl ws (pqV mx) (j+bA i)) tB
   = q3o C (vT (obA i) q (fdK kvs) nl ws (pqV mx) (j+bA i) k v an uri aq) (Bw pr pa (x.set j (.list (B++((q2d kvs).map (at1 U Tt F)).map q0a))) i a):=by
 rw[st_8,show norm (fdK kvs)=fdK kvs from rfl,fd_t]
 by_cases h0:kvs=[]
 ·subst h0
  obtain⟨h1,h2⟩:=List.getElem?_eq_some_iff.mp hj
  refine⟨none,none,none,none,none,?_⟩
  simp only[show q2d ([]:tE)=[]from List.mergeSort_nil,List.map_nil,List.map_nil,List.append_nil,<-h2,List.set_getElem_self]
  exact stq (w3r rfl) _ rfl
 ·have hp:=List.mergeSort_perm kvs w3b
  rcases _:k3v C pr pa i a (q:=q) (av:=fdK kvs) (nl:=nl) (d:=obA i) (ws:=ws) (mx:=mx) U Tt F (q2d kvs) x B hj (by rw[show(q2d kvs).length=kvs.length from hp.length_eq];exact jK (Nat.add_lt_add_of_lt_of_le hB h3) tA) (λ kv hk=>hf kv (hp.mem_iff.mp hk)) none none none none none none none with⟨k,v,an,uri,aq,e⟩
  refine⟨k,v,an,uri,aq,stq (V:=vT (obA i) q (fdK kvs) nl ws (pqV mx) (j+bA i) k v an uri aq) (w5d (by rw[List.isEmpty_eq_false_iff.mpr h0];rfl) |>.trans ?_) _ rfl⟩
  simp only[v3f,show norm (fdK kvs)=fdK kvs from rfl,w1v (v1p (v1t kvs).1 (show biA .dItems [fdK kvs] tB=some (.iv (fdK kvs),Bw pr pa x i a)from nr rfl)) (show biA .sorted [.iv (fdK kvs)] tB=_ from k8c (fd_d kvs _) h3),q0c]
  exact stq e _ rfl
theorem v7g {x:Store} {k v an uri aq:Option AV} {al:Nat} {pq:AV} (kvs:tE) (hs:q1i (tF "{http://www.w3.org/XML/1998/namespace}space") (kvs.map q0g)=none) {p:tW} {b:Bool} (hp:a.pres=p++[.bool b]) (hz:a.pres.length<100000) :
  q3o C (vT (obA i) q (fdK kvs) nl ws pq al k v an uri aq) tB=q2t C (vT (obA i) q (fdK kvs) nl ws pq al k v an uri aq (some .none) (some (bmw i))) (Bw pr pa x i (a.wp (a.pres++[.bool b]))):=by
 have e1:(q7n T tB (fdK kvs) (tF "get")).bind (λ m=>cal C m (some (.str (tF "{http://www.w3.org/XML/1998/namespace}space"),Bw pr pa x i a)))=some (.none,Bw pr pa x i a):=
  stb (v1t kvs).2 _ rfl |>.trans (q4x rfl (show(q0l tB (fdK kvs)).map (λ kvs=>((q1i (tF "{http://www.w3.org/XML/1998/namespace}space") kvs).getD .none,Bw pr pa x i a))=_ from by simp only[fd_d,Option.map_some,hs];rfl))
 rw[st_9,show norm (fdK kvs)=fdK kvs from rfl,q4v e1,q0p]
 show q4b C (vT (obA i) q (fdK kvs) nl ws pq al k v an uri aq (some .none)) _=_
 have e2:getR tB (.loc (prA i)) (.int (-1))=some (.bool b,Bw pr pa x i a):=z1c ((tri (nr tK):∀i,q1f tB (prA i)=some a.pres) i |>.trans (congrArg some hp))
 rw[v6k,es_n (q4x e2 (v2m pr pa x a (.bool b) i hz)),q0p]
 unfold q6v
 rw[v6l,q0p]
end
noncomputable def jnT (ts:tL):Str:=Txt.join (tF "") ts
theorem z7g {Z:Store} {v:AV} {ts:tL} (h:q0i Z v=some (ts.map .str)) (hz:(ts.map (·.length)).sum<=16500000):biA .sJoin [.str (tF ""),v] Z=some (.str (jnT ts),Z):=
 stb h (λ xs=>(q0z xs).bind λ ts=>if(ts.map (·.length)).sum+ts.length * (tF "").length<=sizeLine then some (AV.str (Txt.join (tF "") ts),Z)else none) rfl |>.trans
  (stb (q1w ts) (λ ts=>if(ts.map (·.length)).sum+ts.length * (tF "").length<=sizeLine then some (AV.str (Txt.join (tF "") ts),Z)else none) rfl |>.trans (if_pos (by
   skip;exact jH hz tA)))
theorem k8k {α:Type} (f:α->Nat) (m:Nat):∀xs:List α,(∀x∈xs,f x<=m)->(xs.map f).sum<=xs.length * m
 | [],_=>Nat.zero_le _
 | x::xs,h=>by
  rw[List.map_cons,List.sum_cons,List.length_cons,Nat.add_mul,Nat.one_mul,Nat.add_comm]
  exact zD (k8k f m xs λ y hy=>h y (zG _ hy)) (h x (zL ..))
def opens (nm:Str) (AL:tE):List AV:=[.str (lt1++nm)]++(if AL=[]then[]else[.str (jnT (AL.map atS))])++[.str gt1]
section
variable (n:Nat) (pr:tC) (pa:tW) (i:Who) (a:W)
theorem v7h {x:Store} {k v an uri aq:Option AV} {AL:tE} {f t u:Str} (hq:q1i q mx=some (.tup [.str f,.str t,.str u])) (hf:f.length<=2000) (hj:x[j]? = some (.list (AL.map q0a))) (hA:AL.length<=7) (hl:∀kv∈AL,kv.1.length<=1000/\kv.2.length<=50) (ho:a.out.length<90000) (hnl:a.nl.length<100000) :
  q2t (Dn (n+2)) (vT (obA i) q av nl ws (pqV mx) (j+bA i) k v an uri aq (some .none) (some (bmw i))) tB
   = some (.next,vT (obA i) q av nl ws (pqV mx) (j+bA i) k v an uri aq (some .none) (some (bmw i)),Bw pr pa (x++[.list []]) i ⟨a.out++opens f AL,a.data,a.dl,a.nl++[.loc (x.length+bA i)],a.n0,a.pres,true,a.done,a.ign⟩):=by
 generalize hV:vT (obA i) q av nl ws (pqV mx) (j+bA i) k v an uri aq (some .none) (some (bmw i))=V
 have l1:lt1.length=1:=rfl
 have e1:bnd (bnd (getR tB (pqV mx) (.str q)) λ x s=>getR s x (.int 0)) (λ y s=>binR s .Add (.str lt1) y)=some (.str (lt1++f),Bw pr pa x i a):=by
  simp only[j2x hq,q0c,(nr tK:getR tB (.tup [.str f,.str t,.str u]) (.int 0)=some (.str f,Bw pr pa x i a)),q0c]
  exact add_str (by exact jH (Nat.add_le_add_left ‹_› _) tA)
 have s12:q2t (Dn (n+2)) V tB=q2u (Dn (n+2)) V (Bw pr pa x i (a.wo (a.out++[.str (lt1++f)]))):=by
  rw[<-hV]
  exact stq (es_n (k4f e1 (k7c pr pa x a _ i (Nat.lt_trans ho tA)))) _ (v6m ..)
 have hc:∀a,(Bw pr pa x i a)[j+bA i]? = some (.list (AL.map q0a)):=λ a=>(x_at ..).trans hj
 have s13:∀a:W,a.out.length<95000->q2u (Dn (n+2)) V tB=q2v (Dn (n+2)) V (Bw pr pa x i (a.wo (a.out++if AL=[]then[]else[.str (jnT (AL.map atS))]))):=by
  intro a ho
  have ht:=k8m (hc a)
  have h13:=v6n (Dn (n+2)) (q:=q) (av:=av) (nl:=nl) (al:=j+bA i) (ws:=ws) (pq:=pqV mx) (k:=k) (v:=v) (an:=an) (uri:=uri) (aq:=aq) (sb:=some .none) (Z:=Bw pr pa x i a) (obA i) i
  have hb:=v3g (Dn (n+2)) (q:=q) (av:=av) (nl:=nl) (al:=j+bA i) (ws:=ws) (pq:=pqV mx) (k:=k) (v:=v) (an:=an) (uri:=uri) (aq:=aq) (sb:=some .none) (Z:=Bw pr pa x i a) (obA i) i
  rw[hV]at h13 hb
  by_cases h0:AL=[]
  ·rw[if_pos h0,List.append_nil]
   refine(stq (w3r (ht.trans (by rw[h0];rfl))) _ h13).trans ?_
   cases a;rfl
  ·rw[if_neg h0]
   have g:Got (own3 V) (q0s (.loc (j+bA i)) (q5c (Dn (n+2))) (none::none::none::V,[]) tB) (AL.foldl (app λ kv=>[AV.str (atS kv)]) []) tB:=by
    refine z1d (e:=q0a) (show q0i tB (.loc (j+bA i))=_ from q1q (hc a)) (λ mq kv mr vs ex h=>?_) ⟨_,_,_,rfl⟩
    obtain⟨o0,o1,o2,rfl⟩:=h
    obtain⟨z1,z2⟩:=hl kv (by rw[ex];simp)
    refine⟨o0::some (.str kv.1)::some (.str kv.2)::V,⟨_,_,_,rfl⟩,(v6y ..).trans ?_⟩
    rw[j4q kv.1 kv.2 z1 z2 (j5s (n+1) kv.2 z2 _),q0c]
    refine stk (em_n rfl ?_) _ rfl
    have:=congrArg List.length ex
    simp only[q1d,q1y,List.nil_append,zH]
    rw[zI,List.length_cons]at this
    lia
   obtain⟨vs',_,e⟩:=g
   simp only[q1d,q1y,List.nil_append,show AL.map (λ kv=>AV.str (atS kv))=(AL.map atS).map .str by rw[List.map_map];rfl]at e
   have hj':=z7g (Z:=Bw pr pa x i a) (v:=.fl ((AL.map atS).map .str)) (ts:=AL.map atS) rfl (by
    rw[List.map_map]
    refine jH (k8k _ 2334000 AL λ kv hk=>j2m kv (hl kv hk).1 (hl kv hk).2) (jH (Nat.mul_le_mul_right _ hA) tA))
   refine(stq (w5d (ht.trans (by rw[List.isEmpty_map,List.isEmpty_eq_false_iff.mpr h0];rfl)) |>.trans (hb.trans ?_)) _ h13)
   rw[e,q0c,q0c]
   exact stq (es_n (k4f (q4x rfl hj') (k7c pr pa x a _ i (Nat.lt_trans ho tA)))) _ rfl
 have s14:∀a:W,a.out.length<99000->q2v (Dn (n+2)) V tB=q4c (Dn (n+2)) V (Bw pr pa x i ((a.wo (a.out++[.str gt1])).ws true a.done)):=by
  intro a ho
  rw[<-hV]
  refine(stq (es_n (k4f rfl (k7c pr pa x a (.str gt1) i (Nat.lt_trans ho tA)))) _ (v6o ..)).trans ?_
  unfold q6w
  rw[v6p,q0p]
  unfold w1b
  rw[v6q,q0p]
  rfl
 have s17:∀a:W,a.nl.length<100000->q4c (Dn (n+2)) V tB=some (.next,V,Bw pr pa (x++[.list []]) i (a.wn (a.nl++[.loc (x.length+bA i)]))):=by
  intro a hn
  rw[<-hV]
  unfold q4c
  rw[v6r,es_n (q4x rfl (nl_a pr pa (x++[AObj.list []]) a (.loc (x.length+bA i)) i hn)),q0p]
 have o2:∀b:List AV,b.length<=2->(a.out++b).length<95000:=λ b hb=>by rw[zI];exact jK (Nat.add_lt_add_of_lt_of_le ho hb) tA
 have hX:(if AL=[]then[]else[AV.str (jnT (AL.map atS))]).length<=1:=by split<;>simp
 rw[s12,s13 _ (o2 _ (by simp)),s14 _ (by
  have h1:=o2 [AV.str (lt1++f)] (by simp)
  show((a.out++[AV.str (lt1++f)])++(if AL=[]then[]else[AV.str (jnT (AL.map atS))])).length<_
  rw[zI];exact jK (Nat.add_lt_add_of_lt_of_le h1 hX) tA),s17 _ (by exact hnl)]
 unfold opens
 rw[<-List.append_assoc,<-List.append_assoc]
 rfl
end
set_option tactic.hygienic true in theorem q4g:∀(xs ks:tL),ks.Nodup->(q0o ks xs).Nodup/\∀r,r∈q0o ks xs↔r∈ks\/r∈xs
 | [],ks,h=>⟨h,λ r=>by simp[q0o]⟩
 | x::xs,ks,h=>by
  have e:∀r,r∈addK x ks↔r∈ks\/r=x:=λ r=>by unfold addK;split<;>rename_i q<;>simp_all
  have hn:(addK x ks).Nodup:=by
   unfold addK
   split
   ·exact h
   ·rename_i q
    refine List.nodup_append.mpr ⟨h,by simp,λ a ha b hb e=>q (List.contains_iff_mem.mpr ?_)⟩
    rw[zF hb]at e
    exact e▸ha
  obtain⟨h1,h2⟩:=q4g xs (addK x ks) hn
  refine⟨h1,λ r=>(h2 r).trans ?_⟩
  rw[e,List.mem_cons,or_assoc]
def lm (q:Str) (kvs:tE):List Str:=q4u (q0o [q] (kvs.map (·.1)))
theorem q5t {q r:Str} {kvs:tE}:r∈lm q kvs↔r=q\/r∈kvs.map (·.1):=by
 rw[lm,q4u,List.mem_mergeSort,(q4g _ _ (by simp)).2,List.mem_singleton]
theorem z8i (q:Str) (kvs:tE):(lm q kvs).Nodup:=(List.mergeSort_perm _ _).nodup_iff.mpr (q4g _ _ (by simp)).1
theorem j3n (q:Str) (kvs:tE):(q0o [q] (kvs.map (·.1))).length<=kvs.length+1:=by
 have:=q4e (kvs.map (·.1)) [q]
 rw[zH,List.length_singleton]at this
 exact jH this (zA (Nat.add_comm _ _))
theorem z4w (q:Str) (kvs:tE):(lm q kvs).length<=kvs.length+1:=by
 simp only[lm,q4u,List.length_mergeSort]
 exact j3n q kvs
def attL (U Tt F:Str->Str) (N kvs:tE):List (Str×Str):=q2d (N.map xmlns)++(q2d kvs).map (at1 U Tt F)
structure j4e (U Tt F:Str->Str) (q:Str) (kvs:tE):Prop where
 n:∀r,r=q\/r∈kvs.map (·.1)->Nm r (U r) (Tt r)/\(Tt r).length<=400/\(F r).length<=900
 v:∀kv∈kvs,kv.2.length<=50
 l:kvs.length<=3
 s:q1i (tF "{http://www.w3.org/XML/1998/namespace}space") (kvs.map q0g)=none
section
variable (n:Nat) (pr:tC) (pa:tW) (x0:Store) (i:Who) (a:W) (U Tt F:Str->Str)
theorem j1y (hD:a.dl=D++[.loc (x0.length+bA i)]) (H:Nst i a.n0 x0 D a.nl P np) (hi:i = .c->kvs0=[]) (hn0:(kvs0.map (·.1)).Nodup) (hz0:kvs0.length<=1000) (hN:j4e U Tt F q (kx kvs0)) (R:Runs U Tt F P np (lm q (kx kvs0)) [] N) (hL5:N.length<5) (hs:∀p∈N,p.1.length<=50/\p.2.length<=500)
  {p:tW} {b:Bool} (hp:a.pres=p++[.bool b]) (hpz:a.pres.length<100000) (ho:a.out.length<90000) (hnl:a.nl.length<100000) :
  ∃y,Dn (n+3) 126 [.obj (obA i),.str q,fdK kvs0,.loc (x0.length+bA i)] [] (Sn pr pa x0 i a [] [])=some (.none,Bw pr pa (x0++(.list (N.map q0a)::(y++[.list []]))) i
   ⟨a.out++opens (F q) (attL U Tt F N (kx kvs0)),a.data,a.dl,a.nl++[.loc (x0.length+1+y.length+bA i)],a.n0,a.pres++[.bool b],true,a.done,a.ign⟩):=by
 have e00:=λ C ws=>st_a C pr pa (x0++.list (([]:tE).map q0a)::[]) i a (q:=q) (nl:=x0.length+bA i) (ws:=ws) hi hn0 hz0
 generalize kx kvs0=kvs at *
 have hl:=z4w q kvs
 have h3:=hN.l
 have hl4:=jH hl (Nat.succ_le_succ h3)
 generalize hC:Dn (n+2)=C
 (refine Classical.byContradiction λ kk0=>?_;obtain⟨o1,o2,y,e6⟩:=j0y pr pa x0 i a U Tt F n hD q (fdK kvs) (x0.length+bA i) (q0o [q] (kvs.map (·.1))) H R (jH (zB hL5) tA) (λ p hp=>(hs p hp).2) [] [] none none (jH (zA (Nat.zero_add _)) (jH hl4 tA))
   (λ r hr=>⟨(hN.n r (q5t.mp hr)).1,(hN.n r (q5t.mp hr)).2.1⟩) (z8i q kvs)<;>(refine kk0 ?_;clear kk0))
 have e0:q7z C (vS1 (obA i) q (fdK kvs0) (x0.length+bA i)) (Sn pr pa x0 i a [] [])=q3m C (vS2 (obA i) q (fdK kvs) (x0.length+bA i) (q0o [q] (kvs.map (·.1))) (pqV (accO U Tt F (lm q kvs)))) (Sn pr pa x0 i a N y):=by
  rw[e00 C _ (j7r (fd_d ..) h3),st_6,j7t _ _ _ _ _ (Nat.lt_succ_of_le (jH (j3n q kvs) (Nat.succ_le_succ h3))),q0c,if_neg (by exact Bool.false_ne_true)]
  have e7:q0s (.fl ((lm q kvs).map .str)) (q1s C) (none::none::vS0 (obA i) q (fdK kvs) (x0.length+bA i) (q0o [q] (kvs.map (·.1))),[]) (Sn pr pa x0 i a [] [])=some ((o1::o2::vS0 (obA i) q (fdK kvs) (x0.length+bA i) (q0o [q] (kvs.map (·.1))),accO U Tt F (lm q kvs)),Sn pr pa x0 i a N y):=by
   rw[<-hC];exact e6
  simp only[show q4u (q0o [q] (kvs.map (·.1)))=lm q kvs from rfl,e7,q0c,q0c]
  exact stq (q4v (show q2j false (accO U Tt F (lm q kvs)) (Sn pr pa x0 i a N y)=some (pqV (accO U Tt F (lm q kvs)),Sn pr pa x0 i a N y)from rfl)) _ rfl
 have e1:=j0q C pr pa x0 i a (q:=q) (av:=fdK kvs) (ws:=q0o [q] (kvs.map (·.1))) (pq:=pqV (accO U Tt F (lm q kvs))) y N (λ p hp=>(hs p hp).2) hL5
 rw[List.append_assoc]at e1
 have hxl:(x0++AObj.list (N.map q0a)::y).length=x0.length+1+y.length:=by rw[zI,List.length_cons,Nat.add_assoc,Nat.add_comm 1]
 have hj:(x0++(AObj.list (N.map q0a)::y++[AObj.list ((q2d (N.map xmlns)).map q0a)]))[x0.length+1+y.length]? = some (.list ((q2d (N.map xmlns)).map q0a)):=by
  rw[<-List.append_assoc,List.getElem?_append_right (by rw[hxl];exact jZ _),hxl,Nat.sub_self]
  rfl
 have hset:∀o,(x0++(AObj.list (N.map q0a)::y++[AObj.list ((q2d (N.map xmlns)).map q0a)])).set (x0.length+1+y.length) o=x0++(AObj.list (N.map q0a)::(y++[o])):=λ o=>by
  rw[<-List.append_assoc,List.set_append_right _ _ (by rw[hxl];exact jZ _),hxl,Nat.sub_self,List.append_assoc]
  rfl
 have hpl:(q2d (N.map xmlns)).length=N.length:=by simp only[q2d,List.length_mergeSort,zH]
 have hkl:(q2d kvs).length=kvs.length:=by rw[q2d,List.length_mergeSort]
 obtain⟨k,v,an,uri,aq,e2⟩:=k9d C pr pa i a (q:=q) (nl:=x0.length+bA i) (ws:=q0o [q] (kvs.map (·.1))) U Tt F hj kvs h3 (by rw[zH,hpl];exact Nat.lt_trans hL5 tA) (mx:=accO U Tt F (lm q kvs)) λ kv hk=>by
  rw[w3y,if_pos (q5t.mpr (.inr (List.mem_map_of_mem (f:=(·.1)) hk)))]
 rw[hset,<-List.map_append,show q2d (N.map xmlns)++(q2d kvs).map (at1 U Tt F)=attL U Tt F N kvs from rfl]at e2
 have e3:=v7g C pr pa i a (x:=x0++(.list (N.map q0a)::(y++[.list ((attL U Tt F N kvs).map q0a)]))) (q:=q) (nl:=x0.length+bA i) (ws:=q0o [q] (kvs.map (·.1))) (k:=k) (v:=v) (an:=an) (uri:=uri) (aq:=aq) (al:=x0.length+1+y.length+bA i) (pq:=pqV (accO U Tt F (lm q kvs)))
  kvs hN.s hp hpz
 have hq:q∈lm q kvs:=q5t.mpr (.inl rfl)
 have hl2:∀kv∈attL U Tt F N kvs,kv.1.length<=1000/\kv.2.length<=50:=λ kv hk=>by
  rcases zK hk with hk|hk
  ·obtain⟨z,hz,rfl⟩:=List.mem_map.mp (List.mem_mergeSort.mp hk)
   exact⟨jH (j7e (hs z hz).2) tA,(hs z hz).1⟩
  ·obtain⟨kv,hk',rfl⟩:=List.mem_map.mp hk
   have hk:=List.mem_mergeSort.mp hk'
   have hr:=hN.n kv.1 (.inr (List.mem_map_of_mem (f:=(·.1)) hk))
   refine⟨?_,hN.v kv hk⟩
   show(if(U kv.1).length=0 then Tt kv.1 else F kv.1).length<=_
   split
   ·exact jH hr.2.1 tA
   ·exact jH hr.2.2 tA
 have hj2:(x0++(AObj.list (N.map q0a)::(y++[AObj.list ((attL U Tt F N kvs).map q0a)])))[x0.length+1+y.length]? = some (.list ((attL U Tt F N kvs).map q0a)):=by
  rw[<-hset,List.getElem?_set_self (List.getElem?_eq_some_iff.mp hj).1]
 have e4:=v7h n pr pa i (a.wp (a.pres++[.bool b])) (q:=q) (av:=fdK kvs) (nl:=x0.length+bA i) (ws:=q0o [q] (kvs.map (·.1))) (mx:=accO U Tt F (lm q kvs)) (j:=x0.length+1+y.length) (k:=k) (v:=v) (an:=an) (uri:=uri) (aq:=aq)
  (f:=F q) (t:=Tt q) (u:=U q) (by rw[w3y,if_pos hq]) (jH (hN.n q (.inl rfl)).2.2 tA) hj2 (by simp only[attL,zI,zH,hpl,hkl];exact zD (Nat.le_of_lt_succ hL5) h3) hl2 ho hnl
 rw[hC]at e4
 have e5:=e0.trans (e1.trans (e2.trans (e3.trans e4)))
 have hlen:(x0++(AObj.list (N.map q0a)::(y++[AObj.list ((attL U Tt F N kvs).map q0a)]))).length=x0.length+1+(y++[AObj.list ((attL U Tt F N kvs).map q0a)]).length:=by
  rw[zI,List.length_cons];exact(Nat.succ_add _ _).symm
 rw[hlen,List.append_assoc x0]at e5
 exact⟨y++[.list ((attL U Tt F N kvs).map q0a)],z7s (z7k ..) (by rw[hC];exact e5)⟩
end
inductive Fl (a:W):W->Prop
 | no (h:a.data=[]):Fl a a
 | yes (ts:tL) (h:q0z a.data=some ts) (h0:a.data≠[]) (hz:(ts.map (·.length)).sum<=5000) (hl:(jnT ts).length<=5000) (hn:((jnT ts).length !=0)=true) (hs:a.seen=true) (ho:a.out.length<80000):Fl a ((a.wd []).wo (a.out++[.str (escC (jnT ts))]))
section
variable (n:Nat) (C:q0b) (pr:tC) (pa:tW) (x:Store) (i:Who) (a:W)
theorem j8j:∀i,trT tB (.loc (daA i))=some (!a.data.isEmpty,Bw pr pa x i a):=tri (nr tK)
theorem j5y {a':W} {F:Store->ResS} (h:Fl a a') (hF:F tB=sq (es V (Dn (n+2) 106 [.obj (obA i)] [] tB)) λ v s=>some (.next,v,s)):ifn V (trT tB (.loc (daA i))) F=some (.next,V,Bw pr pa x i a'):=by
 rw[j8j]
 cases h with
 | no h=>rw[h];exact w3r rfl
 | yes ts h h0 hz hl hn hs ho=>
  refine(w5d (by rw[List.isEmpty_eq_false_iff.mpr h0];rfl)).trans (hF.trans ?_)
  exact stq (es_n (k9v pr pa x i a n ts h hz (jnT ts) rfl hl hn hs (Nat.lt_trans ho tA))) _ rfl
abbrev vB (i:Who) (q:Str) (av:AV) (nn:Option AV):Vs:=[some (.obj (obA i)),some (.str q),some av,nn]
theorem sa_c (q:Str) (av:AV):q9c C (vB .c q av none) (Bw pr pa x .c a)=q4t C (vB .c q av none) (Bw pr pa x .c a):=nr tK
theorem sa_t (q:Str) (av:AV):q9c C (vB .t q av none) (Bw pr pa x .t (a.wi 0))=sq (ifn (vB .t q av none) (andT (orT (some ([tF "{u}b"].contains q,Bw pr pa x .t (a.wi 0))) λ s=>some (false,s)) λ s=>some (true,s)) (w0c C (vB .t q av none))) λ v s=>q4t C v s:=nr tK
theorem v6c (q:Str) (av:AV) (k:Nat):q9c C (vB .t q av none) (Bw pr pa x .t (a.wi (k+1:Nat)))=some (.ret .none,vB .t q av none,Bw pr pa x .t (a.wi (((k+1:Nat):Int)+1))):=nr tK
theorem v5z (q:Str) (av:AV) (z:Int):w0c C (vB .t q av none) (Bw pr pa x .t (a.wi z))=some (.ret .none,vB .t q av none,Bw pr pa x .t (a.wi (z+1))):=nr tK
noncomputable def exS:Str:=tF "{u}b"
theorem v6b {q:Str} (hz:a.ign=0) (hq:i = .t->q≠exS) (av:AV):q9c C (vB i q av none) tB=q4t C (vB i q av none) tB:=by
 induction i using Who.casesOn with
 | c=>exact sa_c ..
 | t=>
  have e:=sa_t C pr pa x a q av
  have hc:[tF "{u}b"].contains q=false:=Bool.eq_false_iff.mpr λ h=>hq rfl (zF (List.contains_iff_mem.mp h))
  rw[hc,<-W.ign0 hz]at e
  exact stq (w3r rfl) _ e
theorem j1w (hz:a.ign=0) (av:AV):Dn (n+1) 120 [.obj (obA .t),.str exS,av] [] (Bw pr pa x .t a)=some (.none,Bw pr pa x .t (a.wi 1)):=by
 have e:=sa_t (Dn n) pr pa x a exS av
 have hc:[tF "{u}b"].contains exS=true:=by decide +kernel
 rw[hc]at e
 rw[W.ign0 hz]
 exact w5b (w1x ..) (strr ((w5d rfl).trans (v5z (Dn n) pr pa x a exS av 0)) _ e)
theorem j1x (q:Str) (av:AV) {k:Nat} (hz:a.ign=((k+1:Nat):Int)):Dn (n+1) 120 [.obj (obA .t),.str q,av] [] (Bw pr pa x .t a)=some (.none,Bw pr pa x .t (a.wi (((k+1:Nat):Int)+1))):=by
 rw[W.ign0 hz]
 exact w5b (w1x ..) (v6c (Dn n) pr pa x a q av k)
theorem sa_1 (q:Str) (av:AV):∀i,q4t C (vB i q av none) tB=sq (ifn (vB i q av none) (trT tB (.loc (daA i))) (w0d C (vB i q av none))) λ v s=>w0e C v s:=tri (nr tK)
theorem v6a (q:Str) (av:AV):∀i,w0d C (vB i q av none) tB=sq (es (vB i q av none) (C 106 [.obj (obA i)] [] tB)) λ v s=>some (.next,v,s):=tri (nr tK)
theorem sa_2 (q:Str) (av:AV):∀i,w0e C (vB i q av none) tB=w0f C (vB i q av (some (.loc (x.length+bA i)))) (Bw pr pa (x++[.list []]) i a):=tri (nr tK)
theorem sa_3 (q:Str) (av l:AV):∀i,w0f C (vB i q av (some (norm l))) tB=sq (es (vB i q av (some (norm l))) (cal C (.bi .lAppend (.loc (dlA i))) (some (norm (norm l),Bw pr pa x i a)))) λ v s=>w0g C v s:=tri (nr tK)
theorem sa_4 (q:Str) (av:AV) (l:Nat):∀i,w0g C (vB i q av (some (.loc l))) tB=w0h C (vB i q av (some (.loc l))) tB:=tri (nr tK)
theorem sa_5 (q:Str) (av:AV) (l:Nat):∀i,w0h C (vB i q av (some (.loc l))) tB=sq (es (vB i q av (some (.loc l))) (C 126 [.obj (obA i),.str q,norm av,.loc l] [] tB)) λ v s=>some (.next,v,s):=tri (nr tK)
end
section
variable (n:Nat) (pr:tC) (pa:tW) (x:Store) (i:Who) (a:W) (U Tt F:Str->Str)
theorem k5c {a1:W} (hf:Fl a a1) (hg:a.ign=0) (hq:i = .t->q≠exS) (H:Nst i a1.n0 x a1.dl a1.nl P np) (hi:i = .c->kvs0=[]) (hn0:(kvs0.map (·.1)).Nodup) (hz0:kvs0.length<=1000) (hN:j4e U Tt F q (kx kvs0)) (R:Runs U Tt F P np (lm q (kx kvs0)) [] N) (hL5:N.length<5) (hs:∀p∈N,p.1.length<=50/\p.2.length<=500)
  {p:tW} {b:Bool} (hp:a1.pres=p++[.bool b]) (hpz:a1.pres.length<100000) (ho:a1.out.length<90000) (hnl:a1.nl.length<100000) (hdl:a1.dl.length<100000) :
  ∃y,Dn (n+4) 120 [.obj (obA i),.str q,fdK kvs0] [] tB=some (.none,Bw pr pa (x++(.list (N.map q0a)::(y++[.list []]))) i
   ⟨a1.out++opens (F q) (attL U Tt F N (kx kvs0)),a1.data,a1.dl++[.loc (x.length+bA i)],a1.nl++[.loc (x.length+1+y.length+bA i)],a1.n0,a1.pres++[.bool b],true,a1.done,a1.ign⟩):=by
 obtain⟨y,e⟩:=j1y n pr pa x i (a1.wl (a1.dl++[.loc (x.length+bA i)])) U Tt F (q:=q) (kvs0:=kvs0) rfl H hi hn0 hz0 hN R hL5 hs hp hpz ho hnl
 refine⟨y,z7s (V:=vB i q (fdK kvs0) (some (.loc (x.length+bA i)))) (w1x ..) ?_⟩
 generalize hC:Dn (n+3)=C at e ⊢
 rw[v6b C pr pa x i a hg hq,sa_1,j5y (n+1) pr pa x i a hf (by rw[v6a,<-hC]),q0p,sa_2]
 have e1:=es_n (V:=vB i q (fdK kvs0) (some (.loc (x.length+bA i)))) (q4x (C:=C) rfl (dl_a pr pa (x++[.list []]) a1 (.loc (x.length+bA i)) i hdl))
 have e2:=sa_3 C pr pa (x++[.list []]) a1 q (fdK kvs0) (.loc (x.length+bA i)) i
 have e3:=stq e1 _ e2
 refine e3.trans ?_
 rw[sa_4,sa_5,show norm (fdK kvs0)=fdK kvs0 from rfl]
 exact stq (es_n e) _ rfl
end
section
variable (n:Nat) (C:q0b) (pr:tC) (pa:tW) (x:Store) (i:Who) (a:W)
abbrev vN (i:Who) (p u:Str):Vs:=[some (.obj (obA i)),some (.str p),some (.str u)]
theorem sn_0:∀i,q7f C (vN i p u) (Bw pr pa x i (a.wi 0))=sq (ifn (vN i p u) (trT (Bw pr pa x i (a.wi 0)) (.loc (daA i))) (q5p C (vN i p u))) λ v s=>q5q C v s:=tri (nr tK)
theorem v6g (k:Nat):q7f C (vN .t p u) (Bw pr pa x .t (a.wi (k+1:Nat)))=some (.ret .none,vN .t p u,Bw pr pa x .t (a.wi (k+1:Nat))):=nr tK
theorem v6f:∀i,q5p C (vN i p u) tB=sq (es (vN i p u) (C 106 [.obj (obA i)] [] tB)) λ v s=>some (.next,v,s):=tri (nr tK)
theorem sn_2:∀i,q5q C (vN i p u) tB=sq (es (vN i p u) (bnd (getR tB (.loc (nlA i)) (.int (-1))) λ l s=>(q7n T s l (tF "append")).bind λ m=>cal C m (some (q0a (u,p),s)))) λ v s=>some (.next,v,s):=tri (nr tK)
theorem j1e {a1:W} (hf:Fl a a1) (hg:a.ign=0) {N B:tW} {l:Nat} (hN:a1.nl=N++[.loc l]) (hl:(Bw pr pa x i a1)[l]? = some (.list B)) (hB:B.length<100000) :
  Dn (n+3) 113 [.obj (obA i),.str p,.str u] [] tB=some (.none,(Bw pr pa x i a1).set l (.list (B++[q0a (u,p)]))):=by
 refine z7s (V:=vN i p u) (w0p ..) ?_
 have e0:=sn_0 (Dn (n+2)) pr pa x a (u:=u) (p:=p) i
 rw[<-W.ign0 hg,j5y n pr pa x i a hf (v6f ..),q0p,sn_2,z1c (D:=nsV::N) ((q_nl ..).trans (congrArg (λ z=>some (nsV::z)) hN)),q0c]at e0
 exact stq (es_n (stb (k0v hl) (λ m=>cal (Dn (n+2)) m (some (q0a (u,p),Bw pr pa x i a1))) rfl |>.trans (q4x rfl (z9p hl hB)))) _ e0
theorem v5n {k:Nat} (hz:a.ign=((k+1:Nat):Int)):Dn (n+1) 113 [.obj (obA .t),.str p,.str u] [] (Bw pr pa x .t a)=some (.none,Bw pr pa x .t a):=by
 rw[W.ign0 hz]
 exact w5b (w0p ..) (v6g (Dn n) pr pa x a k)
theorem v4p (k:Nat) (d:Str):z2k C [some (.obj (obA .t)),some (.str d)] (Bw pr pa x .t (a.wi (k+1:Nat)))=some (.next,[some (.obj (obA .t)),some (.str d)],Bw pr pa x .t (a.wi (k+1:Nat))):=nr tK
theorem j5i (d:Str) {k:Nat} (hz:a.ign=((k+1:Nat):Int)):Dn (n+1) 97 [.obj (obA .t),.str d] [] (Bw pr pa x .t a)=some (.none,Bw pr pa x .t a):=by
 rw[W.ign0 hz]
 exact z7s (z3j ..) (v4p (Dn n) pr pa x a k d)
abbrev vE (i:Who) (q:Str):Vs:=[some (.obj (obA i)),some (.str q)]
theorem en_0:∀i,k1h C (vE i q) (Bw pr pa x i (a.wi 0))=w6c C (vE i q) (Bw pr pa x i (a.wi 0)):=tri (nr tK)
theorem v4v (k:Nat):k1h C (vE .t q) (Bw pr pa x .t (a.wi (k+1:Nat)))=some (.ret .none,vE .t q,Bw pr pa x .t (a.wi (((k+1:Nat):Int) - 1))):=nr tK
theorem v0n {k:Nat} (hz:a.ign=((k+1:Nat):Int)):Dn (n+1) 133 [.obj (obA .t),.str q] [] (Bw pr pa x .t a)=some (.none,Bw pr pa x .t (a.wi (((k+1:Nat):Int) - 1))):=by
 rw[W.ign0 hz]
 exact w5b (z9s ..) (v4v (Dn n) pr pa x a k)
theorem en_1:∀i,w6c C (vE i q) tB=sq (ifn (vE i q) (trT tB (.loc (daA i))) (w6b C (vE i q))) λ v s=>w6d C v s:=tri (nr tK)
theorem v4u:∀i,w6b C (vE i q) tB=sq (es (vE i q) (C 106 [.obj (obA i)] [] tB)) λ v s=>some (.next,v,s):=tri (nr tK)
def enF (m:Res):Res:=bnd ((catA Str.empty (tF "</")).bind λ a=>bnd (bnd m λ x s=>bnd (some (.int 0,s)) λ y s=>getR s x y) λ x s=>q6j a x λ a=>(catA a (tF ">")).bind λ a=>q1m a s) λ r s=>some (.str r,s)
theorem en_2:∀i,w6d C (vE i q) tB=sq (es (vE i q) (cal C (.val (bmw i)) (enF (C 90 [.obj (obA i),.str q] [] tB)))) λ v s=>w6e C v s:=tri (nr tK)
theorem en_3:∀i,w6e C (vE i q) tB=sq (es (vE i q) ((popA a.pres).map λ p=>(p.2,Bw pr pa x i (a.wp p.1)))) λ v s=>w6f C v s:=tri (nr tK)
theorem en_4:∀i,w6f C (vE i q) tB=w6g C (vE i q) (Bw pr pa x i (a.ws a.seen (decide ((a.pres.length:Int)=1)))):=tri (nr tK)
theorem en_5:∀i,w6g C (vE i q) tB=sq (es (vE i q) ((popA a.dl).map λ p=>(p.2,Bw pr pa x i (a.wl p.1)))) λ v s=>w6h C v s:=tri (nr tK)
theorem en_6:∀i,w6h C (vE i q) tB=sq (es (vE i q) ((popA (nsV::a.nl)).map λ p=>(p.2,(Bw pr pa x i a).set (nlA i) (.list p.1)))) λ v s=>some (.next,v,s):=tri (nr tK)
end
theorem w4g (xs:tW) (v:AV):popA (xs++[v])=some (xs,v):=by unfold popA;rw[List.getLast?_concat,List.dropLast_concat]
def closes (nm:Str):Str:=tF "</"++nm++gt1
theorem v0m {f t u:Str} {m:Res} {Z:Store} (h:m=some (.tup [.str f,.str t,.str u],Z)) (hf:f.length<=5000):enF m=some (.str (closes f),Z):=by
 have l1:(tF "</").length<=2:=jZ 2
 have l2:gt1.length<=1:=jZ 1
 have e0:enF (some (.tup [.str f,.str t,.str u],Z))=bnd ((catA (tF "</") f).bind λ a=>(catA a gt1).bind λ a=>q1m a Z) λ r s=>some (.str r,s):=nr tK
 have e1:((catA (tF "</") f).bind λ a=>(catA a gt1).bind λ a=>q1m a Z)=some (closes f,Z):=
  stb (catO l1 hf tA) (λ a=>(catA a gt1).bind λ a=>q1m a Z) rfl |>.trans (stb (catO (catB l1 hf) l2 tA) (λ a=>q1m a Z) rfl |>.trans (if_pos (jH (catB (catB l1 hf) l2) (by rw[sizeLine_eq];decide))))
 simp only[h,e0,e1,q0c]
section
variable (n:Nat) (pr:tC) (pa:tW) (x:Store) (i:Who) (a:W)
theorem j2v {a1:W} (hf:Fl a a1) (hg:a.ign=0) (hN:Nm q u t) (ht:t.length<=400) (hl:Lv i a1.n0 x a1.dl.reverse P) (hnv:Lv i a1.n0 x (nsV::a1.nl).reverse np) (hP:P.length<=2900) (hnp:np.length<=2900) (hs:∀p∈P++np,p.2.length<=500) (hq:Qn u t P np f []) (hfz:f.length<=5000) (ho:a1.out.length<90000)
  {pr' D N:tW} {b l:AV} {j:Nat} {lv:tW} (h1:a1.pres=pr'++[b]) (h2:a1.dl=D++[.loc (j+bA i)]) (hj:x[j]? = some (.list lv)) (hlv:lv.length<1000) (h3:a1.nl=N++[l]) :
  ∃S,Dn (n+3) 133 [.obj (obA i),.str q] [] tB=some (.none,Bw pr pa (x++[AObj.set S]) i ⟨a1.out++[.str (closes f)],a1.data,D,N,a1.n0,pr',a1.seen,decide ((pr'.length:Int)=1),a1.ign⟩):=by
 obtain⟨k1,k2⟩:=hl.walk pr pa i a1
 obtain⟨k3,k4⟩:=hnv.walk pr pa i a1
 have k:∀{p:Str×Str},p.2.length<=500->p.2.length+t.length<=1000:=λ h=>jH (zD h ht) tA
 rcases _:k1d pr pa x a1 i n hN (λ v hv=>k1 v (List.mem_reverse.mpr hv)) (λ v hv=>k3 v (List.mem_reverse.mpr hv)) k2 k4 (jJ hP tA) (jJ hnp tA) (λ p hp=>k (hs p (List.mem_append_left _ hp))) (λ p hp=>k (hs p (List.mem_append_right _ hp))) hq h2 hj hlv with⟨S,e⟩
 rw[List.map_nil,List.append_nil,k1g (q4w _ hj)]at e
 refine⟨S,z7s (V:=vE i q) (z9s ..) ?_⟩
 have e0:=en_0 (Dn (n+2)) pr pa x a (q:=q) i
 rw[<-W.ign0 hg]at e0
 rw[e0,en_1,j5y n pr pa x i a hf (v4u ..),q0p,en_2,es_n (j2r (v0m e hfz) (k7c pr pa (x++[AObj.set S]) a1 _ i (Nat.lt_trans ho tA))),q0p,en_3,
  es_n (show(popA (a1.wo (a1.out++[.str (closes f)])).pres).map _=some (b,Bw pr pa (x++[AObj.set S]) i ((a1.wo (a1.out++[.str (closes f)])).wp pr'))from by simp only[show(a1.wo (a1.out++[.str (closes f)])).pres=a1.pres from rfl,h1,w4g];rfl),q0p,en_4,en_5]
 refine stq (V:=vE i q) (es_n (v:=.loc (j+bA i)) (show(popA a1.dl).map _=_ from by simp only[h2,w4g];rfl)) _ rfl |>.trans ?_
 rw[en_6]
 exact(stq (V:=vE i q) (es_n (v:=l) (show(popA (nsV::a1.nl)).map _=_ from by rw[h3,<-List.cons_append,w4g];rfl)) _ rfl).trans (by cases i<;>rfl)
end
noncomputable def ownS:List Str:=[tF "u",tF "u}1",tF "v&\"<\t",tF "http://purl.org/dc/elements/1.1/"]
noncomputable def ow (k:Nat):Str:=ownS.getD k Str.empty
noncomputable def bad:Str:=tF "v&\"<\t"
noncomputable def q9k:Str:=tF "v&amp;&quot;&lt;&#x9;"
def q9e:List Str:=[tF "",xsS,xmlS]++ownS
noncomputable def uS (k:Nat):Str:=q9e.getD k Str.empty
noncomputable def lS (l:Nat):Str:=[tF "a",tF "b",tF "r"].getD l Str.empty
def kU (k:Nat):Str:=uS (k % 7)
def kL (k:Nat):Str:=lS (k / 7)
def kS (k:Nat):Str:=if(kU k).length=0 then kL k else tF "{"++kU k++tF "}"++kL k
def vS' (j:Nat):Str:=bad++q6i (j:Int)
noncomputable def rowS (c:Nat):List Str:=[if c / 4=1 then tF "" else tF "n",tF "p",tF "b",tF "a"]
def prO (c:Nat):List (Str×Str):=(List.range 4).map λ k=>(ow k,(rowS c).getD ((k+c % 4) % 4) Str.empty)
def prL (c:Nat):List (Str×Str):=prO c++[(tF "",tF ""),(xsS,tF "xs"),(xmlS,tF "xml")]
noncomputable def vOf (k:Str):List (Str×Str)->Str
 | []=>Str.empty
 | (a,v)::r=>if a=k then v else vOf k r
noncomputable def px (c:Nat) (u:Str):Str:=vOf u (prL c)
abbrev prD (c:Nat):List (Str×AV):=(prL c).map q0g
noncomputable def tagK (c m:Nat):Nat:=[3,4,5,6,1,if c / 4=1 then 3 else 0].getD m 0
def z1g (c:Nat):List Nat:=[0,1,2]++([3,4,5,6].filter λ k=>(px c (uS k)).length !=0)
noncomputable def ownL:List AV:=ownS.map .lit
def z7c (c:Nat):List AV:=ownL++[.str xsS,.str (uS (tagK c 5))]
def z1h (c:Nat):List AV:=(z1g c).map λ k=>.str (uS k)
theorem forN {α:Type} {f g:Nat->α} (n:Nat) (h:(List.range n).map f=(List.range n).map g) {k:Nat} (hk:k<n):f k=g k:=List.map_inj_left.mp h k (List.mem_range.mpr hk)
theorem k2b {α:Type} {f g:Nat->Nat->α} (n m:Nat) (h:(List.range n).map (λ c=>(List.range m).map (f c))=(List.range n).map λ c=>(List.range m).map (g c)) {c k:Nat} (hc:c<n) (hk:k<m):f c k=g c k:=forN m (forN (f:=λ c=>(List.range m).map (f c)) (g:=λ c=>(List.range m).map (g c)) n h hc) hk
def rp (s:Str):Str:=Txt.replace s bad q9k
section
variable (n:Nat) (C:q0b) (Z:Store) {k:Nat} (hk:k<21)
include hk
theorem v1h:Dn (n+1) 180 [.str (kU k),.str (kL k)] [] Z=some (.str (kS k),Z):=forN (f:=λ k=>Dn (n+1) 180 [.str (kU k),.str (kL k)] [] Z) (g:=λ k=>some (.str (kS k),Z)) 21 (nr tK) hk
theorem j3w:Dn (n+1) 187 [.str (kS k)] [] Z=some (.str (kU k),Z):=forN (f:=λ k=>Dn (n+1) 187 [.str (kS k)] [] Z) (g:=λ k=>some (.str (kU k),Z)) 21 (nr tK) hk
theorem j7d:Nm (kS k) (kU k) (kL k):=λ C d Z=>forN (f:=λ k=>q6s C [some (.obj d),some (.str (kS k)),some .none,none,none,none,none] Z) (g:=λ k=>some (.next,vQ d (kS k) (kU k) (kL k),Z)) 21 (nr tK) hk
theorem v2a (pa:tW) (x:Store) (a:W) {c:Nat} (hc:c<8):Dn (n+2) 194 [.str (kS k),.loc 1] [] (Bw (prD c) pa x .t a)=some (.str (pt (px c (kU k)) (kL k)),Bw (prD c) pa x .t a):=
 k2b (f:=λ c k=>Dn (n+2) 194 [.str (kS k),.loc 1] [] (Bw (prD c) pa x .t a)) (g:=λ c k=>some (.str (pt (px c (kU k)) (kL k)),Bw (prD c) pa x .t a)) 8 21 (nr tK) hc hk
end
theorem getO {k:Nat} (hk:k<4) (Z:Store):getR Z (.fl ownL) (.int (k:Int))=some (.str (ow k),Z):=forN (f:=λ(k:Nat)=>getR Z (.fl ownL) (.int (k:Int))) (g:=λ k=>some (.str (ow k),Z)) 4 (nr tK) hk
theorem rp_u:∀u<7,escA (uS u)=rp (uS u)/\(uS u).length<=50:=by decide +kernel
theorem rp_v:∀j<3,escA (vS' j)=rp (vS' j)/\(vS' j).length<=40:=by decide +kernel
theorem j6l:∀k<21,(kS k).length<=60/\(kL k).length=1/\(kU k).length<=50:=by decide +kernel
theorem v5f:((List.range 21).map kS).Nodup:=by decide +kernel
theorem u_inj:q9e.Nodup:=by decide +kernel
theorem px_len:∀c<8,∀u<7,(px c (uS u)).length<=3:=by decide +kernel
theorem px_nd:∀c<8,((q9e.drop 1).map (px c)).Nodup:=by decide +kernel
def w0 (i:Who):W:=⟨[],[],[.loc (xmA i)],[.loc (n0A i)],[],[.bool false],false,false,0⟩
noncomputable abbrev v5m:Vs:=[none,none,none,none,none,none,none,none,none,none,none,none,none,none,none,none]
abbrev vL (sc:AV) (xml xs own lj first row mq tags keys out path mj tg ml:Option AV:=none):Vs:=some sc::xml::xs::own::lj::first::row::none::mq::tags::none::keys::out::path::mj::tg::ml::v5m
def rowL (c:Nat):List AV:=(rowS c).map .str
def rowE (z:Int) (Z:Store):Res:=bnd (evC (bnd (cmpT Z .Eq (.int z) (.int 1)) λ c s=>if c=true then some (.str (tF ""),s)else some (.str (tF "n"),s)) λ s=>some ([.str (tF "p"),.str (tF "b"),.str (tF "a")],s)) λ xs s=>if xs.length<=sizeLine then q0w false xs s else none
def lawA (C:q0b) (vs:Vs) (s:Store):ResS:=sq (q8w C vs s) λ v s=>sq (q8x C v s) λ v s=>sq (q8y C v s) λ v s=>sq (q8z C v s) λ v s=>sq (q9a C v s) λ v s=>sq (q9b C v s) λ v s=>sq (w2q C v s) λ v s=>sq (q9y C v s) λ v s=>sq (q9z C v s) λ v s=>sq (q7e C v s) λ v s=>sq (w0a C v s) λ v s=>sq (q4s C v s) λ v s=>some (.next,v,s)
noncomputable abbrev o0:Option AV:=none
abbrev xmO:Option AV:=some (.str xmlS)
abbrev xsO:Option AV:=some (.str xsS)
abbrev owO:Option AV:=some (.fl ownL)
abbrev siO:Option AV:=some (.lit q9k)
section
variable (n:Nat) (C:q0b) (sc:AV) (F:Int)
theorem v6z:w2n C (vL sc) Z=some (.next,vL sc xmO xsO,Z):=nr tK
theorem v7a:w2o C (vL sc xmO xsO) Z=some (.next,vL sc xmO xsO owO,Z):=nr tK
theorem v7b:w2p C (vL sc xmO xsO owO) Z=some (.next,vL sc xmO xsO owO siO,Z):=nr tK
theorem su_0:k1i C (vL sc) Z=lawA C (vL sc xmO xsO owO siO) Z:=by
 have e:k1i C (vL sc) Z=sq (w2n C (vL sc) Z) λ v s=>sq (w2o C v s) λ v s=>sq (w2p C v s) λ v s=>lawA C v s:=nr tK
 rw[e,v6z,q0p,v7a,q0p,v7b,q0p]
theorem v7d (L:tW):q8w C (vL (.fl L) xmO xsO owO siO) Z=asg (vL (.fl L) xmO xsO owO siO) 5 (calA C (.bf .sum) (w3l Z (.fl L) .none (.int 1) .none)):=nr tK
theorem v7e:q8x C (vL sc xmO xsO owO siO (some (.int F))) Z=asg (vL sc xmO xsO owO siO (some (.int F))) 6 (rowE ((F.fdiv 4).fmod 2) Z):=nr tK
theorem v7f (c:Nat):q8y C (vL sc xmO xsO owO siO (some (.int F)) (some (.fl (rowL c)))) Z=asg (vL sc xmO xsO owO siO (some (.int F)) (some (.fl (rowL c)))) 8 (bnd (bnd (q0s (.fl ((List.range 4).map λ(k:Nat)=>AV.int (k:Int))) (w1k C) (none::none::vL sc xmO xsO owO siO (some (.int F)) (some (.fl (rowL c))),[]) Z) λ r s=>some (r.2,s)) λ mx s=>q2j true mx s):=nr tK
theorem v4n (c k:Nat) (q1 q2:Option AV) (mx:tC):w1k C (.int (k:Int)) (q1::q2::vL sc xmO xsO owO siO (some (.int F)) (some (.fl (rowL c))),mx) Z=bnd (bnd (getR Z (.fl ownL) (.int (k:Int))) λ y s=>bnd (getR s (.fl (rowL c)) (.int (((k:Int)+F).fmod 4))) λ z s=>z3q mx y z s) λ r s=>some ((q1::some (.int (k:Int))::vL sc xmO xsO owO siO (some (.int F)) (some (.fl (rowL c))),r),s):=nr tK
theorem su_6 {c:Nat} (hc:c<8):(sq (q8z C (vL sc xmO xsO owO siO (some (.int F)) (some (.fl (rowL c))) (some (.loc 1))) [.code,.dict ((prO c).map q0g)]) λ v s=>sq (q9a C v s) λ v s=>q9b C v s)=some (.next,vL sc xmO xsO owO siO (some (.int F)) (some (.fl (rowL c))) (some (.loc 1)) (some (.fl (z7c c))) (some (.fl (z1h c))),[.code,.dict (prD c)]):=
 forN (f:=λ c=>(sq (q8z C (vL sc xmO xsO owO siO (some (.int F)) (some (.fl (rowL c))) (some (.loc 1))) [.code,.dict ((prO c).map q0g)]) λ v s=>sq (q9a C v s) λ v s=>q9b C v s)) (g:=λ c=>some (.next,vL sc xmO xsO owO siO (some (.int F)) (some (.fl (rowL c))) (some (.loc 1)) (some (.fl (z7c c))) (some (.fl (z1h c))),[.code,.dict (prD c)])) 8 (nr tK) hc
theorem su_9 (row tags keys:Option AV) (pr:tC):(sq (w2q C (vL sc xmO xsO owO siO (some (.int F)) row (some (.loc 1)) tags keys) [.code,.dict pr]) λ v s=>sq (q9y (Dn (n+1)) v s) λ v s=>q9z C v s)=some (.next,vL sc xmO xsO owO siO (some (.int F)) row (some (.loc 1)) tags keys (some (.loc 2)) (some (.loc 3)) (some (.str (tF ""))) (some (.obj 4)),Bw pr [] [] .t (w0 .t)):=nr tK
end
theorem z3x (r:Int) {b:Int} (hb:0<b):∃m:Nat,r.fmod b=m/\m<b.toNat:=by
 have h1:=Int.fmod_nonneg_of_pos r hb
 have h2:=Int.fmod_lt_of_pos r hb
 exact⟨(r.fmod b).toNat,(Int.toNat_of_nonneg h1).symm,(Int.toNat_lt_toNat hb).mpr h2⟩
theorem fm4 {k f F:Int} (h:F.fmod 4=f):(k+F).fmod 4=(k+f).fmod 4:=by
 rw[Int.fmod_eq_emod_of_nonneg _ tA]at *
 rw[Int.fmod_eq_emod_of_nonneg _ tA,<-h,Int.add_emod_emod]
structure Cse (F:Int) (c:Nat):Prop where
 l:c<8
 b:(F.fdiv 4).fmod 2=((c / 4:Nat):Int)
 f:F.fmod 4=((c % 4:Nat):Int)
theorem cse (F:Int):∃c,Cse F c:=by
 obtain⟨f,h1,h2⟩:=z3x F (b:=4) tA
 obtain⟨b,h3,h4⟩:=z3x (F.fdiv 4) (b:=2) tA
 have h2:f<4:=h2
 have h4:b<2:=h4
 refine⟨f+4 * b,jK (Nat.add_lt_add_of_lt_of_le h2 (zJ 4 (Nat.le_of_lt_succ h4))) (jZ 8),?_,?_⟩
 ·rw[Nat.add_mul_div_left _ _ tA,Nat.div_eq_of_lt h2,Nat.zero_add];exact h3
 ·rw[Nat.add_mul_mod_self_left,Nat.mod_eq_of_lt h2];exact h1
theorem su_4 (C:q0b) (sc:AV) {F:Int} {c:Nat} (H:Cse F c) (Z:Store):q8x C (vL sc xmO xsO owO siO (some (.int F))) Z=some (.next,vL sc xmO xsO owO siO (some (.int F)) (some (.fl (rowL c))),Z):=by
 rw[v7e,H.b]
 exact q4v (forN (f:=λ c=>rowE ((c / 4:Nat):Int) Z) (g:=λ c=>some (.fl (rowL c),Z)) 8 (nr tK) H.l)
theorem k0g {β:Type} (g:β->Str×AV):∀(ks:List β) (mx:tC),(ks.foldl (λ mx k=>q0x (g k).1 (g k).2 mx) mx).length<=mx.length+ks.length
 | [],mx=>jZ _
 | k::ks,mx=>by
  refine jH (k0g g ks _) (jH (Nat.add_le_add_right (m:=mx.length+1) ?_ _) (zA (Nat.succ_add_eq_add_succ ..)))
  show(q0x (g k).1 (g k).2 mx).length<=_
  unfold q0x
  split
  ·rw[zH];exact Nat.le_succ _
  ·rw[zI];exact jZ _
theorem su_5 (C:q0b) (sc:AV) {F:Int} {c:Nat} (H:Cse F c):q8y C (vL sc xmO xsO owO siO (some (.int F)) (some (.fl (rowL c)))) [.code]=some (.next,vL sc xmO xsO owO siO (some (.int F)) (some (.fl (rowL c))) (some (.loc 1)),[.code,.dict ((prO c).map q0g)]):=by
 rw[v7f]
 have g:Got (λ V=>∃a b,V=a::b::vL sc xmO xsO owO siO (some (.int F)) (some (.fl (rowL c)))) (q0s (.fl ((List.range 4).map λ(k:Nat)=>AV.int (k:Int))) (w1k C) (none::none::vL sc xmO xsO owO siO (some (.int F)) (some (.fl (rowL c))),[]) [.code]) ((List.range 4).foldl (λ mx k=>q0x (ow k) (.str ((rowS c).getD ((k+c % 4) % 4) Str.empty)) mx) []) [.code]:=by
  refine z1d (e:=λ(k:Nat)=>AV.int (k:Int)) rfl (λ mq k mr vs ex h=>?_) ⟨_,_,rfl⟩
  obtain⟨a,b,rfl⟩:=h
  have hk:k<4:=List.mem_range.mp (by rw[ex];simp)
  refine⟨_,⟨a,some (.int (k:Int)),rfl⟩,(v4n ..).trans ?_⟩
  have e1:getR [.code] (.fl (rowL c)) (.int (((k:Int)+F).fmod 4))=some (.str ((rowS c).getD ((k+c % 4) % 4) Str.empty),[.code]):=by
   rw[fm4 H.f]
   exact k2b (f:=λ c k=>getR [.code] (.fl (rowL c)) (.int (((k:Int)+((c % 4:Nat):Int)).fmod 4))) (g:=λ c k=>some (.str ((rowS c).getD ((k+c % 4) % 4) Str.empty),[.code])) 8 4 (nr tK) H.l hk
  have hz:=k0g (λ k=>(ow k,AV.str ((rowS c).getD ((k+c % 4) % 4) Str.empty)))
  rw[getO hk,q0c,e1,q0c]
  refine stk (if_pos (few (jJ (jH (hz mq []) (jH (zA (Nat.zero_add _)) ?_)) (show 4<100002 by decide)))) _ rfl
  have:=congrArg List.length ex
  rw[zI,List.length_range]at this
  exact jH (zC ..) (zA this.symm)
 obtain⟨V',_,e⟩:=g
 rw[e,q0c,q0c,forN (f:=λ c=>(List.range 4).foldl (λ mx k=>q0x (ow k) (AV.str ((rowS c).getD ((k+c % 4) % 4) Str.empty)) mx) []) (g:=λ c=>(prO c).map q0g) 8 (nr tK) H.l]
 exact q4v rfl
noncomputable abbrev mv (m:Int×Int):AV:=.tup [.int m.1,.int m.2]
noncomputable def q6p (xs:List Int):List (Int×Int):=(0,(xs.take 1).sum.fdiv 8)::(xs.drop 1).map (λ x=>(x.fmod 4,x.fdiv 4))++List.replicate xs.length (2,0)++[(4,0)]
theorem w2b:∀xs:List Int,q9f (xs.map AV.int)=some xs
 | []=>rfl
 | x::xs=>by show(q9f (xs.map AV.int)).map (x :: ·)=_;rw[w2b xs];rfl
theorem k7l (x:AV):∀n,q4n [x] n=List.replicate n x
 | 0=>rfl
 | n+1=>by simp only[q4n,k7l x n];rfl
section
variable (C:q0b)
theorem w9g {xs ys:tW} (h:xs.length+ys.length<=10000):binR Z .Add (.fl xs) (.fl ys)=some (.fl (xs++ys),Z):=by
 show((k9u (xs++ys)).map AV.fl).bind (λ v=>some (v,Z))=_
 unfold k9u
 rw[if_pos (by rw[zI,sizeLine_eq];exact jH h tA)]
 rfl
theorem v1w {x:AV} {n:Nat} (h:n<=1000):binR Z .Mult (.fl [x]) (.int n)=some (.fl (List.replicate n x),Z):=by
 show(if 1 * n<=sizeLine/\n<2 ^ 30 then some (AV.fl (q4n [x] n))else none).bind (λ v=>some (v,Z))=_
 rw[if_pos ⟨by rw[Nat.one_mul,sizeLine_eq];exact jH h tA,jJ h tA⟩,k7l]
 rfl
theorem j5d (x:Int) (o0 o1:Option AV) (V:Vs) (mx:tW) (h:mx.length<100000):q5v C (.int x) (o0::o1::V,mx) Z=some ((o0::some (.int x)::V,mx++[mv (x.fmod 4,x.fdiv 4)]),Z):=
 stk (em_n rfl h) _ (nr tK:q5v C (.int x) (o0::o1::V,mx) Z=bnd (q2h mx (some (mv (x.fmod 4,x.fdiv 4),Z))) λ r s=>some ((o0::some (.int x)::V,r),s))
theorem j9z (L:tW):L.take (clipAt L.length (1:Nat))=L.take 1/\L.drop (clipAt L.length (1:Nat))=L.drop 1:=by
 rw[clipAt_nat]
 cases L with
 | nil=>exact⟨rfl,rfl⟩
 | cons a r=>rw[show min 1 (a::r).length=1 from Nat.min_eq_left (Nat.succ_le_succ (Nat.zero_le _))];exact⟨rfl,rfl⟩
theorem v3a (L:tW):w3l Z (.fl L) .none (.int 1) .none=some (.fl (L.take 1),Z):=by
 show some (AV.fl ((L.take (clipAt L.length (1:Nat))).drop 0),Z)=_
 rw[(j9z L).1];rfl
theorem v3b (L:tW):w3l Z (.fl L) (.int 1) .none .none=some (.fl (L.drop 1),Z):=by
 show some (AV.fl ((L.take L.length).drop (clipAt L.length (1:Nat))),Z)=_
 rw[List.take_length,(j9z L).2]
theorem su_3 (xs:List Int):q8w C (vL (.fl (xs.map .int)) xmO xsO owO siO) Z=some (.next,vL (.fl (xs.map .int)) xmO xsO owO siO (some (.int (xs.take 1).sum)),Z):=by
 have e:biA .sum [.fl ((xs.map AV.int).take 1)] Z=some (.int (xs.take 1).sum,Z):=by
  show(q9f ((xs.map AV.int).take 1)).bind (λ is=>some (AV.int is.sum,Z))=_
  rw[<-List.map_take,w2b];rfl
 rw[v7d,w1v (v3a _) e]
 exact q4v rfl
theorem v7c (xs:List Int) (hx:xs.length<=63) (row mq tags keys out path mj tg:Option AV):q7e C (vL (.fl (xs.map .int)) xmO xsO owO siO (some (.int (xs.take 1).sum)) row mq tags keys out path mj tg) Z=some (.next,vL (.fl (xs.map .int)) xmO xsO owO siO (some (.int (xs.take 1).sum)) row mq tags keys out path mj tg (some (.fl ((q6p xs).map mv))),Z):=by
 generalize hF:(xs.take 1).sum=F
 have e0:q7e C (vL (.fl (xs.map .int)) xmO xsO owO siO (some (.int F)) row mq tags keys out path mj tg) Z=asg (vL (.fl (xs.map .int)) xmO xsO owO siO (some (.int F)) row mq tags keys out path mj tg) 16 (bnd (bnd (bnd (bnd (bnd (w3l Z (.fl (xs.map .int)) (.int 1) .none .none) λ v z=>bnd (if(!goN v)=true then none else q0s v (q5v C) (none::none::vL (.fl (xs.map .int)) xmO xsO owO siO (some (.int F)) row mq tags keys out path mj tg,[]) z) λ r s=>some (r.2,s)) λ mx s=>q0w false mx s) λ y s=>binR s .Add (.fl [mv (0,F.fdiv 8)]) y) λ x s=>bnd (binR s .Mult (.fl [mv (2,0)]) (.int (xs.map AV.int).length)) λ y s=>binR s .Add x y) λ x s=>binR s .Add x (.fl [mv (4,0)])):=nr tK
 have g:Got (λ V'=>∃a b,V'=a::b::vL (.fl (xs.map .int)) xmO xsO owO siO (some (.int F)) row mq tags keys out path mj tg) (q0s (.fl ((xs.drop 1).map .int)) (q5v C) (none::none::vL (.fl (xs.map .int)) xmO xsO owO siO (some (.int F)) row mq tags keys out path mj tg,[]) Z) ((xs.drop 1).foldl (app λ x=>[mv (x.fmod 4,x.fdiv 4)]) []) Z:=by
  refine z1d (e:=AV.int) rfl (λ mq x mr vs ex h=>?_) ⟨_,_,rfl⟩
  obtain⟨a,b,rfl⟩:=h
  refine⟨_,⟨a,some (.int x),rfl⟩,j5d C x a b _ _ ?_⟩
  have:=congrArg List.length ex
  simp only[q1d,q1y,List.nil_append,zH]
  rw[zI,List.length_cons,List.length_drop]at this
  exact jJ (jH (zC _ _) (zA this.symm)) (jJ (jH (Nat.sub_le _ _) hx) tA)
 obtain⟨V',_,e1⟩:=g
 simp only[q1d,q1y,List.nil_append]at e1
 have hl:((xs.drop 1).map λ x=>mv (x.fmod 4,x.fdiv 4)).length<=63:=by rw[zH,List.length_drop];exact jH (Nat.sub_le _ _) hx
 have e2:(bnd (bnd (w3l Z (.fl (xs.map AV.int)) (.int 1) .none .none) λ v z=>bnd (if(!goN v)=true then none else q0s v (q5v C) (none::none::vL (.fl (xs.map .int)) xmO xsO owO siO (some (.int F)) row mq tags keys out path mj tg,[]) z) λ r s=>some (r.2,s)) λ mx s=>q0w false mx s)=some (.fl ((xs.drop 1).map λ x=>mv (x.fmod 4,x.fdiv 4)),Z):=by
  rw[v3b,q0c,<-List.map_drop,show(!goN (.fl ((xs.drop 1).map AV.int)))=false from rfl,if_neg Bool.false_ne_true,e1,q0c,q0c]
  rfl
 rw[e0,e2,q0c,w9g (by rw[List.length_singleton];exact jH (Nat.add_le_add_left hl _) tA),q0c,zH,v1w (by exact jH hx tA),q0c,w9g (by rw[zI,List.length_replicate];exact jH (zD (zD (jZ 1) hl) hx) tA),q0c,
  q4v (w9g (by rw[zI,zI,List.length_replicate];exact jH (zD (zD (zD (jZ 1) hl) hx) (jZ 1)) tA))]
 rw[show(q6p xs).map mv=[mv (0,(xs.take 1).sum.fdiv 8)]++(xs.drop 1).map (λ x=>mv (x.fmod 4,x.fdiv 4))++List.replicate xs.length (mv (2,0))++[mv (4,0)] by
  simp only[q6p,List.map_append,List.map_append,List.map_replicate,List.map_cons,List.map_map];rfl,hF]
 rfl
end
structure Fx where
 sc:AV
 ml:AV
 F:Int
 c:Nat
structure Lo where
 k:Option AV
 uri:Option AV
 mj:Option AV
 move:Option AV
 rest:Option AV
 mh:Option AV
 ly:Option AV
 told:Option AV
 hidden:Option AV
 attrs:Option AV
 lr:Option AV
 mm:Option AV
 needs:Option AV
 scope:Option AV
 lh:Option AV
 shown:Option AV
 lf:Option AV
 new:Option AV
 ll:Option AV
noncomputable def Lo.s_k (v:Lo) (o:Option AV):Lo:=⟨o,v.uri,v.mj,v.move,v.rest,v.mh,v.ly,v.told,v.hidden,v.attrs,v.lr,v.mm,v.needs,v.scope,v.lh,v.shown,v.lf,v.new,v.ll⟩
noncomputable def Lo.s_uri (v:Lo) (o:Option AV):Lo:=⟨v.k,o,v.mj,v.move,v.rest,v.mh,v.ly,v.told,v.hidden,v.attrs,v.lr,v.mm,v.needs,v.scope,v.lh,v.shown,v.lf,v.new,v.ll⟩
noncomputable def Lo.s_due (v:Lo) (o:Option AV):Lo:=⟨v.k,v.uri,o,v.move,v.rest,v.mh,v.ly,v.told,v.hidden,v.attrs,v.lr,v.mm,v.needs,v.scope,v.lh,v.shown,v.lf,v.new,v.ll⟩
noncomputable def Lo.s_move (v:Lo) (o:Option AV):Lo:=⟨v.k,v.uri,v.mj,o,v.rest,v.mh,v.ly,v.told,v.hidden,v.attrs,v.lr,v.mm,v.needs,v.scope,v.lh,v.shown,v.lf,v.new,v.ll⟩
noncomputable def Lo.s_rest (v:Lo) (o:Option AV):Lo:=⟨v.k,v.uri,v.mj,v.move,o,v.mh,v.ly,v.told,v.hidden,v.attrs,v.lr,v.mm,v.needs,v.scope,v.lh,v.shown,v.lf,v.new,v.ll⟩
noncomputable def Lo.s_tag (v:Lo) (o:Option AV):Lo:=⟨v.k,v.uri,v.mj,v.move,v.rest,o,v.ly,v.told,v.hidden,v.attrs,v.lr,v.mm,v.needs,v.scope,v.lh,v.shown,v.lf,v.new,v.ll⟩
noncomputable def Lo.s_used (v:Lo) (o:Option AV):Lo:=⟨v.k,v.uri,v.mj,v.move,v.rest,v.mh,o,v.told,v.hidden,v.attrs,v.lr,v.mm,v.needs,v.scope,v.lh,v.shown,v.lf,v.new,v.ll⟩
noncomputable def Lo.s_told (v:Lo) (o:Option AV):Lo:=⟨v.k,v.uri,v.mj,v.move,v.rest,v.mh,v.ly,o,v.hidden,v.attrs,v.lr,v.mm,v.needs,v.scope,v.lh,v.shown,v.lf,v.new,v.ll⟩
noncomputable def Lo.s_hidden (v:Lo) (o:Option AV):Lo:=⟨v.k,v.uri,v.mj,v.move,v.rest,v.mh,v.ly,v.told,o,v.attrs,v.lr,v.mm,v.needs,v.scope,v.lh,v.shown,v.lf,v.new,v.ll⟩
noncomputable def Lo.s_attrs (v:Lo) (o:Option AV):Lo:=⟨v.k,v.uri,v.mj,v.move,v.rest,v.mh,v.ly,v.told,v.hidden,o,v.lr,v.mm,v.needs,v.scope,v.lh,v.shown,v.lf,v.new,v.ll⟩
noncomputable def Lo.s_seed (v:Lo) (o:Option AV):Lo:=⟨v.k,v.uri,v.mj,v.move,v.rest,v.mh,v.ly,v.told,v.hidden,v.attrs,o,v.mm,v.needs,v.scope,v.lh,v.shown,v.lf,v.new,v.ll⟩
noncomputable def Lo.s_key (v:Lo) (o:Option AV):Lo:=⟨v.k,v.uri,v.mj,v.move,v.rest,v.mh,v.ly,v.told,v.hidden,v.attrs,v.lr,o,v.needs,v.scope,v.lh,v.shown,v.lf,v.new,v.ll⟩
noncomputable def Lo.s_needs (v:Lo) (o:Option AV):Lo:=⟨v.k,v.uri,v.mj,v.move,v.rest,v.mh,v.ly,v.told,v.hidden,v.attrs,v.lr,v.mm,o,v.scope,v.lh,v.shown,v.lf,v.new,v.ll⟩
noncomputable def Lo.s_scope (v:Lo) (o:Option AV):Lo:=⟨v.k,v.uri,v.mj,v.move,v.rest,v.mh,v.ly,v.told,v.hidden,v.attrs,v.lr,v.mm,v.needs,o,v.lh,v.shown,v.lf,v.new,v.ll⟩
noncomputable def Lo.s_given (v:Lo) (o:Option AV):Lo:=⟨v.k,v.uri,v.mj,v.move,v.rest,v.mh,v.ly,v.told,v.hidden,v.attrs,v.lr,v.mm,v.needs,v.scope,o,v.shown,v.lf,v.new,v.ll⟩
noncomputable def Lo.s_shown (v:Lo) (o:Option AV):Lo:=⟨v.k,v.uri,v.mj,v.move,v.rest,v.mh,v.ly,v.told,v.hidden,v.attrs,v.lr,v.mm,v.needs,v.scope,v.lh,o,v.lf,v.new,v.ll⟩
noncomputable def Lo.s_above (v:Lo) (o:Option AV):Lo:=⟨v.k,v.uri,v.mj,v.move,v.rest,v.mh,v.ly,v.told,v.hidden,v.attrs,v.lr,v.mm,v.needs,v.scope,v.lh,v.shown,o,v.new,v.ll⟩
noncomputable def Lo.s_new (v:Lo) (o:Option AV):Lo:=⟨v.k,v.uri,v.mj,v.move,v.rest,v.mh,v.ly,v.told,v.hidden,v.attrs,v.lr,v.mm,v.needs,v.scope,v.lh,v.shown,v.lf,o,v.ll⟩
noncomputable def Lo.s_prefi (v:Lo) (o:Option AV):Lo:=⟨v.k,v.uri,v.mj,v.move,v.rest,v.mh,v.ly,v.told,v.hidden,v.attrs,v.lr,v.mm,v.needs,v.scope,v.lh,v.shown,v.lf,v.new,o⟩
abbrev vM (G:Fx) (v:Lo):Vs:=
 [some G.sc,xmO,xsO,owO,siO,some (.int G.F),some (.fl (rowL G.c)),v.k,some (.loc 1),some (.fl (z7c G.c)),v.uri,some (.fl (z1h G.c)),some (.loc 2),some (.loc 3),v.mj,some (.obj 4),some G.ml,v.move,v.rest,v.mh,v.ly,v.told,v.hidden,v.attrs,v.lr,v.mm,v.needs,v.scope,v.lh,v.shown,v.lf,v.new,v.ll]
noncomputable abbrev abL:AV:=.fl [.str (tF "a"),.str (tF "b")]
def k4g (C:q0b) (m:Res) (k:Store->Res):Res:=bnd (evC m λ s=>evC (k s) λ s=>some ([],s)) λ xs s=>bnd (some ([],s)) λ kv s=>q7i T C (.fn 180) xs kv s
theorem w3x {n:Nat} {m:Res} {k:Store->Res} {Z:Store} {u l j:Nat} (hu:u<7) (hl:l<3) (h1:m=some (.str (uS u),Z)) (h2:k Z=some (.str (lS l),Z)) (hj:u+7 * l=j):k4g (Dn (n+1)) m k=some (.str (kS j),Z):=by
 have hk:j<21:=hj▸jK (Nat.add_lt_add_of_lt_of_le hu (zJ 7 (Nat.le_of_lt_succ hl))) (jZ 21)
 have e3:=v1h n Z hk
 rw[<-hj,show kU (u+7 * l)=uS u by unfold kU;rw[Nat.add_mul_mod_self_left,Nat.mod_eq_of_lt hu],show kL (u+7 * l)=lS l by unfold kL;rw[Nat.add_mul_div_left _ _ tA,Nat.div_eq_of_lt hu,Nat.zero_add]]at e3
 rw[h1]
 show bnd (bnd (evC (k Z) λ s=>some ([],s)) λ xs s=>some (AV.str (uS u)::xs,s)) _=_
 rw[h2,<-hj]
 exact e3
def j6y (C:q0b) (c:Nat) (r:Int) (Z:Store):Res:=k4g C (getR Z (.fl (z7c c)) (.int (r.fmod 6))) λ s=>bnd (cmpT s .NotEq (.loc 3) (.fl [])) λ c s=>if c=true then getR s abL (.int ((r.fdiv 6).fmod 2))else some (.str (tF "r"),s)
def j6x (C:q0b) (c:Nat) (r:Int) (Z:Store):Res:=k4g C (getR Z (.fl (z1h c)) (.int (r.fmod ((z1h c).length:Int)))) λ s=>getR s abL (.int ((r.fdiv 7).fmod 2))
theorem getL {l:Nat} (hl:l<2) (Z:Store):getR Z abL (.int (l:Int))=some (.str (lS l),Z):=forN (f:=λ(l:Nat)=>getR Z abL (.int (l:Int))) (g:=λ l=>some (.str (lS l),Z)) 2 (nr tK) hl
theorem j8f:∀c<8,∀m<6,tagK c m<7:=by decide +kernel
theorem j0n:∀c<8,(0<(z1g c).length/\(z1g c).length<=7)/\∀m<7,(z1g c).getD m 0<7:=by decide +kernel
theorem j0x (n:Nat) {c:Nat} (hc:c<8) (r:Int) (pr:tC) (pa:tW) (x:Store) (a:W):∃k,An3 (k<21) (j6y (Dn (n+1)) c r (Bw pr pa x .t a)=some (.str (kS k),Bw pr pa x .t a)) (pa=[]->14<=k):=by
 obtain⟨m,h1,h2⟩:=z3x r (b:=6) tA
 obtain⟨l,h3,h4⟩:=z3x (r.fdiv 6) (b:=2) tA
 have h2:m<6:=h2
 have h4:l<2:=h4
 have e1:getR (Bw pr pa x .t a) (.fl (z7c c)) (.int (m:Int))=some (.str (uS (tagK c m)),Bw pr pa x .t a):=k2b (f:=λ c (m:Nat)=>getR (Bw pr pa x .t a) (.fl (z7c c)) (.int (m:Int))) (g:=λ c m=>some (.str (uS (tagK c m)),Bw pr pa x .t a)) 8 6 (nr tK) hc h2
 have e2:cmpT (Bw pr pa x .t a) .NotEq (.loc 3) (.fl [])=some (!pa.isEmpty,Bw pr pa x .t a):=nr tK
 have ht:=j8f c hc m h2
 unfold j6y
 rw[h1,h3]
 by_cases q:pa=[]
 ·refine⟨tagK c m+7 * 2,jK (Nat.add_lt_add_right ht _) (jZ 21),w3x ht (l:=2) tA e1 ?_ rfl,λ J=>Nat.le_add_left ..⟩
  rw[e2,q];rfl
 ·refine⟨tagK c m+7 * l,jK (Nat.add_lt_add_of_lt_of_le ht (zJ 7 (Nat.le_of_lt_succ h4))) tA,w3x ht (Nat.lt_trans h4 tA) e1 ?_ rfl,λ z=>absurd z q⟩
  rw[e2,List.isEmpty_eq_false_iff.mpr q]
  exact getL h4 _
theorem j0v (n:Nat) {c:Nat} (hc:c<8) (r:Int) (Z:Store):∃k,k<21/\j6x (Dn (n+1)) c r Z=some (.str (kS k),Z):=by
 obtain⟨⟨k1,k2⟩,k3⟩:=j0n c hc
 have el:(z1h c).length=(z1g c).length:=zH ..
 obtain⟨m,h1,h2⟩:=z3x r (b:=((z1g c).length:Int)) (Int.natCast_pos.mpr k1)
 obtain⟨l,h3,h4⟩:=z3x (r.fdiv 7) (b:=2) tA
 have h2:m<(z1g c).length:=h2
 have h4:l<2:=h4
 have h7:=jK h2 k2
 have e1:=k2b (f:=λ c (m:Nat)=>getR Z (.fl (z1h c)) (.int (m:Int))) (g:=λ c m=>if m<(z1g c).length then some (.str (uS ((z1g c).getD m 0)),Z)else none) 8 7 (nr tK) hc h7
 have hu:=k3 m h7
 unfold j6x
 rw[el,h1,h3]
 exact⟨_,jK (Nat.add_lt_add_of_lt_of_le hu (zJ 7 (Nat.le_of_lt_succ h4))) tA,w3x hu (Nat.lt_trans h4 tA) (e1.trans (if_pos h2)) (getL h4 Z) rfl⟩
section
variable (C:q0b) (G:Fx) (v:Lo) (pr:tC) (pa:tW) (x:Store) (a:W) (r:Int)
def j7o (r:Int) (j:Nat) (Z:Store):Res:=bnd (bnd (getR Z (.fl [.int 5,.int 7]) (.int (r.fmod 2))) λ y s=>binR s .Mult y (.int (j:Int))) λ y s=>binR s .Add (.int (r.fdiv 768)) y
theorem b_0:w6i C (vM G (v.s_rest (some (.int r)))) Z=asg (vM G (v.s_rest (some (.int r)))) 19 (j6y C G.c r Z):=nr tK
theorem b_1:q9t C (vM G v) (Bw pr pa x .t a)=some (.next,vM G (v.s_attrs (some (.loc (x.length+12)))),Bw pr pa (x++[.dict []]) .t a):=nr tK
theorem b_2:q4o C (vM G (v.s_rest (some (.int r)))) Z=(q5s Z (.rng 0 ((r.fdiv 12).fmod 4))).bind λ xs=>forA (q5y C) xs (vM G (v.s_rest (some (.int r)))) Z:=nr tK
theorem b_20 (j:Nat):q5y C (.int (j:Int)) (vM G (v.s_rest (some (.int r)))) Z=sq (asg (vM G ((v.s_rest (some (.int r))).s_k (some (.int (j:Int))))) 24 (j7o r j Z)) λ v s=>sq (q8k C v s) λ v s=>some (.next,v,s):=nr tK
theorem b_21 (j l:Nat) (sd:Int):q8k C (vM G (((v.s_k (some (.int (j:Int)))).s_attrs (some (.loc l))).s_seed (some (.int sd)))) Z=bnd (bnd (if(j:Int).natAbs<10 ^ 6 then some (.str (q6i (j:Int)),Z)else none) λ y s=>binR s .Add (.str bad) y) λ w s=>bnd (bnd (bnd (j6x C G.c sd s) λ y s=>putS (.loc l) y w (vM G (((v.s_k (some (.int (j:Int)))).s_attrs (some (.loc l))).s_seed (some (.int sd)))) s) λ vs s=>some (vs,s)) λ vs s=>some (.next,vs,s):=nr tK
end
structure At (kvs:tE):Prop where
 l:kvs.length<=3
 n:(kvs.map (·.1)).Nodup
 k:∀kv∈kvs,∃k,k<21/\kv.1=kS k
 v:∀kv∈kvs,∃j,j<3/\kv.2=vS' j
noncomputable def sto (k v:Str) (kvs:tE):List (Str×Str):=if kvs.any (λ kv=>kv.1=k)then kvs.map (λ kv=>if kv.1=k then(kv.1,v)else kv)else kvs++[(k,v)]
theorem k8g (k v:Str) (kvs:tE):q0x k (.str v) (kvs.map q0g)=(sto k v kvs).map q0g:=by
 unfold q0x sto
 rw[show(kvs.map q0g).any (λ kv=>decide (kv.1=k))=kvs.any (λ kv=>decide (kv.1=k)) by rw[List.any_map];rfl]
 by_cases h:kvs.any (λ kv=>decide (kv.1=k))=true
 ·rw[if_pos h,if_pos h,List.map_map,List.map_map]
  refine List.map_congr_left λ kv J=>?_
  show(if kv.1=k then(kv.1,AV.str v)else q0g kv)=q0g (if kv.1=k then(kv.1,v)else kv)
  split<;>rfl
 ·rw[if_neg h,if_neg h,List.map_append];rfl
theorem v3k {mm v:Str} {kvs:tE} {j:Nat} (h:At kvs) (hl:kvs.length<=j) (hj:j<3) (hk:∃k,k<21/\mm=kS k) (hv:v=vS' j):At (sto mm v kvs)/\(sto mm v kvs).length<=j+1:=by
 unfold sto
 by_cases q:kvs.any (λ kv=>decide (kv.1=mm))=true
 ·rw[if_pos q]
  have e:(kvs.map λ kv=>if kv.1=mm then(kv.1,v)else kv).map (·.1)=kvs.map (·.1):=by
   rw[List.map_map]
   refine List.map_congr_left λ kv J=>?_
   show(if kv.1=mm then(kv.1,v)else kv).1=_
   split<;>rfl
  refine⟨⟨by rw[zH];exact h.l,by rw[e];exact h.n,λ kv hm=>?_,λ kv hm=>?_⟩,by rw[zH];exact Nat.le_succ_of_le hl⟩
  ·obtain⟨z,hz,rfl⟩:=List.mem_map.mp hm
   split<;>exact h.k z hz
  ·obtain⟨z,hz,rfl⟩:=List.mem_map.mp hm
   split
   ·exact⟨j,hj,hv⟩
   ·exact h.v z hz
 ·rw[if_neg q]
  refine⟨⟨by rw[zI];exact jH (Nat.add_le_add_right hl 1) hj,?_,λ kv hm=>?_,λ kv hm=>?_⟩,by rw[zI];exact Nat.add_le_add_right hl 1⟩
  ·rw[List.map_append]
   refine List.nodup_append.mpr ⟨h.n,by simp,λ a ha b hb e=>q ?_⟩
   obtain⟨z,hz,rfl⟩:=List.mem_map.mp ha
   rw[zF hb]at e
   exact List.any_eq_true.mpr ⟨z,hz,decide_eq_true e⟩
  ·rcases zK hm with hm|hm
   ·exact h.k kv hm
   ·rw[zF hm];exact hk
  ·rcases zK hm with hm|hm
   ·exact h.v kv hm
   ·rw[zF hm];exact⟨j,hj,hv⟩
theorem j7p (r:Int) (j:Nat) (hj:j<3) (Z:Store):∃sd,j7o r j Z=some (.int sd,Z):=by
 obtain⟨b,h3,h4⟩:=z3x r (b:=2) tA
 unfold j7o
 rw[h3,show(bnd (getR Z (.fl [.int 5,.int 7]) (.int (b:Int))) λ y s=>binR s .Mult y (.int (j:Int)))=some (.int ((if b=0 then 5 else 7) * (j:Int)),Z)from k2b (f:=λ b j:Nat=>bnd (getR Z (.fl [.int 5,.int 7]) (.int (b:Int))) λ y s=>binR s .Mult y (.int (j:Int))) (g:=λ b j:Nat=>some (.int ((if b=0 then 5 else 7) * (j:Int)),Z)) 2 3 (nr tK) h4 hj]
 exact⟨r.fdiv 768+(if b=0 then 5 else 7) * (j:Int),nr tK⟩
section
variable (n:Nat) (G:Fx) (v:Lo) (pr:tC) (pa:tW) (x:Store) (a:W) (r:Int)
theorem j9j (hc:G.c<8) {kvs:tE} {j:Nat} (h:At kvs) (hl:kvs.length<=j) (hj:j<3):∃kvs' sd,At kvs'/\kvs'.length<=j+1/\
  q5y (Dn (n+1)) (.int (j:Int)) (vM G ((v.s_rest (some (.int r))).s_attrs (some (.loc (x.length+12))))) (Bw pr pa (x++[.dict (kvs.map q0g)]) .t a)
   = some (.next,vM G ((((v.s_rest (some (.int r))).s_attrs (some (.loc (x.length+12)))).s_k (some (.int (j:Int)))).s_seed sd),Bw pr pa (x++[.dict (kvs'.map q0g)]) .t a):=by
 have hd:z0w (Bw pr pa (x++[AObj.dict (kvs.map q0g)]) .t a) (x.length+12)=some (kvs.map q0g):=by unfold z0w;rw[show(Bw pr pa (x++[AObj.dict (kvs.map q0g)]) .t a)[x.length+12]? = some (.dict (kvs.map q0g))from w2e pr pa x a .t _]
 have hs:∀o,(Bw pr pa (x++[AObj.dict (kvs.map q0g)]) .t a).set (x.length+12) o=Bw pr pa (x++[o]) .t a:=λ o=>w4e pr pa x a .t _ o
 obtain⟨sd,e0⟩:=j7p r j hj (Bw pr pa (x++[AObj.dict (kvs.map q0g)]) .t a)
 obtain⟨k,hk,e1⟩:=j0v n hc sd (Bw pr pa (x++[AObj.dict (kvs.map q0g)]) .t a)
 obtain⟨h1,h2⟩:=v3k h hl hj ⟨k,hk,rfl⟩ (rfl:vS' j=vS' j)
 refine⟨_,some (.int sd),h1,h2,?_⟩
 have hv:=(rp_v j hj).2
 have e4:=stq (q4v e0) _ (b_20 (Dn (n+1)) G (v.s_attrs (some (.loc (x.length+12)))) r j)
 refine e4.trans (stq (V:=vM G ((((v.s_rest (some (.int r))).s_attrs (some (.loc (x.length+12)))).s_k (some (.int (j:Int)))).s_seed (some (.int sd)))) ?_ _ rfl)
 refine(b_21 (Dn (n+1)) G (v.s_rest (some (.int r))) j (x.length+12) sd).trans ?_
 rw[if_pos (by exact jH hj tA),q0c,add_str (x:=bad) (y:=q6i (j:Int)) (by rw[<-w5g];exact jH hv tA),q0c,e1,q0c]
 refine stk (stk (v:=vM G ((((v.s_rest (some (.int r))).s_attrs (some (.loc (x.length+12)))).s_k (some (.int (j:Int)))).s_seed (some (.int sd)))) ?_ (λ vs s=>some (vs,s)) rfl) (λ vs s=>some (q1c.next,vs,s)) rfl
 refine stb hd (λ kvs'=>if kvs'.length<sizeLine then some (_,(Bw pr pa (x++[AObj.dict (kvs.map q0g)]) .t a).set (x.length+12) (.dict (q0x (kS k) (.str (bad++q6i (j:Int))) kvs')))else none) rfl |>.trans ?_
 rw[if_pos (few (by rw[zH];exact jJ h.l tA)),hs,k8g]
 rfl
theorem j2n (hc:G.c<8):∀(c j:Nat) (v:Lo) {kvs:tE},At kvs->kvs.length<=j->j+c<=3->∃kvs' k' seed',At kvs'/\
  forA (q5y (Dn (n+1))) ((List.range' j c).map λ(k:Nat)=>AV.int (0+(k:Int))) (vM G ((v.s_rest (some (.int r))).s_attrs (some (.loc (x.length+12))))) (Bw pr pa (x++[.dict (kvs.map q0g)]) .t a)
   = some (.next,vM G ((((v.s_rest (some (.int r))).s_attrs (some (.loc (x.length+12)))).s_k k').s_seed seed'),Bw pr pa (x++[.dict (kvs'.map q0g)]) .t a)
 | 0,j,v,kvs,h,_,_=>⟨kvs,v.k,v.lr,h,rfl⟩
 | c+1,j,v,kvs,h,hl,hj=>by
  obtain⟨kvs1,sd,h1,h2,e1⟩:=j9j n G v pr pa x a r hc h hl (jK (Nat.lt_add_of_pos_right (Nat.succ_pos c)) hj)
  rcases _:j2n hc c (j+1) ((v.s_k (some (.int (j:Int)))).s_seed sd) h1 h2 (jH (zA (Nat.add_right_comm j 1 c)) hj)with⟨kvs',k',seed',h3,e⟩
  refine⟨kvs',k',seed',h3,?_⟩
  rw[List.range'_succ,List.map_cons,Int.zero_add]
  exact(stq e1 _ rfl).trans e
theorem j9n (hc:G.c<8):Ex3 λ kvs k' seed'=>At kvs/\q4o (Dn (n+1)) (vM G ((v.s_rest (some (.int r))).s_attrs (some (.loc (x.length+12))))) (Bw pr pa (x++[.dict []]) .t a)
   = some (.next,vM G ((((v.s_rest (some (.int r))).s_attrs (some (.loc (x.length+12)))).s_k k').s_seed seed'),Bw pr pa (x++[.dict (kvs.map q0g)]) .t a):=by
 obtain⟨m,h1,h2⟩:=z3x (r.fdiv 12) (b:=4) tA
 have h2:m<4:=h2
 rcases _:j2n n G pr pa x a r hc m 0 v (kvs:=[]) ⟨Nat.zero_le _,List.nodup_nil,(λ J h=>nomatch h),(λ J h=>nomatch h)⟩ (jZ _) (jH (zA (Nat.zero_add _)) (Nat.le_of_lt_succ h2))with⟨kvs,k',seed',h3,e⟩
 refine⟨kvs,k',seed',h3,(b_2 (Dn (n+1)) G (v.s_attrs (some (.loc (x.length+12)))) r).trans ?_⟩
 rw[h1]
 have ei:q5s (Bw pr pa (x++[.dict []]) .t a) (.rng 0 (m:Int))=some ((List.range' 0 m).map λ(k:Nat)=>AV.int (0+(k:Int))):=(if_pos ⟨by decide,by exact jH h2 tA⟩).trans (by unfold z5h;rw[List.range_eq_range',show((m:Int) - 0).toNat=m by rfl])
 rw[ei]
 exact e
end
structure Ent where
 q:Str
 us:List Str
 j:Nat
 tl:List Str
noncomputable abbrev entV (e:Ent):AV:=.tup [.str e.q,.fl (e.us.map .str),.loc (e.j+12)]
def lc (m:Option ((Vs×List AV)×Store)):Res:=bnd (bnd m λ r s=>some (r.2,s)) λ mx s=>q0w false mx s
def wlc (m:Res) (f:AV->Vs×List AV->Store->Option ((Vs×List AV)×Store)) (V:Vs):Res:=bnd (bnd m λ v Z=>bnd (if(!goN v)=true then none else q0s v f (V,[]) Z) λ r s=>some (r.2,s)) λ mx s=>q0w false mx s
def adds (x:AV) (y:Str) (Z:Store):Res:=binR Z .Add x (.str y)
def cal2 (C:q0b) (f:Callee) (m:Res) (k:Store->Res):Res:=bnd (evC m λ s=>evC (k s) λ s=>some ([],s)) λ xs s=>bnd (some ([],s)) λ kv s=>w4k T C f xs kv s
def aug (V:Vs) (d:Str) (m:Res):ResS:=bnd m λ y s=>(augA .Add (.str d) y).bind λ z=>some (.next,setI V 14 z,s)
section
variable (C:q0b) (G:Fx) (v:Lo) (pr:tC) (pa:tW) (x:Store) (a:W) (q u p d:Str) (A l:Nat) (h:Bool) (L M:tW) (o0 o1 o2 o3 o4:Option AV) (mx:tW) (e:Ent)
theorem v_0 (m b:Int):q2c C (mv (m,b)) (vM G v) Z=sq (q5f C (vM G ((v.s_move (some (.int m))).s_rest (some (.int b)))) Z) λ v s=>sq (q5g C v s) λ v s=>some (.next,v,s):=nr tK
theorem h_0:q5f C (vM G v) Z=asg (vM G v) 22 (bnd (lc (q0s (.loc 3) (w1l C) (none::none::none::none::vM G v,[]) Z)) λ y s=>cmpR s .In (.str exS) y):=nr tK
theorem c_4:w1l C (entV e) (o0::o1::o2::o3::V,mx) Z=bnd (q2h mx (some (.str e.q,Z))) λ r s=>some ((o0::some (.str e.q)::some (.fl (e.us.map .str))::some (.loc (e.j+12))::V,r),s):=nr tK
theorem v_1 (m:Int):q5g C (vM G (v.s_move (some (.int m)))) Z=iff (some (decide (m<2),Z)) (q8f C (vM G (v.s_move (some (.int m))))) (w1h C (vM G (v.s_move (some (.int m))))):=nr tK
theorem b_3:q6x C (vM G ((v.s_tag (sS q)).s_attrs (some (.loc A)))) Z=asg (vM G ((v.s_tag (sS q)).s_attrs (some (.loc A)))) 26 (wlc (bnd (calA C (.bf .list) (some (.loc A,Z))) λ y s=>binR s .Add (.fl [.str q]) y) (w6m C) (none::none::vM G ((v.s_tag (sS q)).s_attrs (some (.loc A))))):=nr tK
theorem c_5:w6m C (.str u) (o0::o1::V,mx) Z=bnd (q2h mx (calA C (.fn 187) (some (.str u,Z)))) λ r s=>some ((o0::some (.str u)::V,r),s):=nr tK
theorem b_4:q4p C (vM G v) Z=asg (vM G v) 27 (lc (q0s (.loc 3) (w6o C) (none::none::none::none::none::vM G v,[]) Z)):=nr tK
theorem c_7:w6o C (entV e) (o0::o1::o2::o3::o4::V,mx) Z=q0s (.loc (e.j+12)) (w6n C) (o0::some (.str e.q)::some (.fl (e.us.map .str))::some (.loc (e.j+12))::o4::V,mx) Z:=nr tK
theorem c_6:w6n C (.str u) (o0::o1::o2::o3::o4::V,mx) Z=bnd (q2h mx (some (.str u,Z))) λ r s=>some ((o0::o1::o2::o3::some (.str u)::V,r),s):=nr tK
theorem b_5:q4q C (vM G v) (Bw pr pa x .t a)=some (.next,vM G (v.s_told (some (.loc (x.length+12)))),Bw pr pa (x++[.list []]) .t a):=nr tK
theorem b_6:q1a C (vM G v) Z=forA (q5z C) ((List.range 4).map λ(k:Nat)=>AV.int (k:Int)) (vM G v) Z:=nr tK
abbrev vT' (v:Lo) (r:Int) (j:Nat) (L M:tW):Lo:=((((v.s_rest (some (.int r))).s_k (some (.int (j:Int)))).s_needs (some (.fl L))).s_scope (some (.fl M)))
theorem v4i (r:Int) {j:Nat} (hj:j<4):q5z C (.int (j:Int)) (vM G (((v.s_rest (some (.int r))).s_needs (some (.fl L))).s_scope (some (.fl M)))) Z=sq (ifn (vM G (vT' v r j L M)) (orT (some (decide (((r.fdiv 48).fdiv ((2 ^ j:Nat):Int)).fmod 2=1),Z)) λ s=>orT (andT (cmpT s .In (.str (ow j)) (.fl L)) λ s=>andT (cmpT s .NotIn (.str (ow j)) (.fl M)) λ s=>some (true,s)) λ s=>some (false,s)) (q8g C (vM G (vT' v r j L M)))) λ v s=>some (.next,v,s):=
 forN (f:=λ j:Nat=>q5z C (.int (j:Int)) (vM G (((v.s_rest (some (.int r))).s_needs (some (.fl L))).s_scope (some (.fl M)))) Z) (g:=λ j:Nat=>sq (ifn (vM G (vT' v r j L M)) (orT (some (decide (((r.fdiv 48).fdiv ((2 ^ j:Nat):Int)).fmod 2=1),Z)) λ s=>orT (andT (cmpT s .In (.str (ow j)) (.fl L)) λ s=>andT (cmpT s .NotIn (.str (ow j)) (.fl M)) λ s=>some (true,s)) λ s=>some (false,s)) (q8g C (vM G (vT' v r j L M)))) λ v s=>some (.next,v,s)) 4 (nr tK) hj
theorem b2_0 (j:Nat):q7a C (vM G ((v.s_k (some (.int (j:Int)))).s_told (some (.loc l)))) Z=es (vM G ((v.s_k (some (.int (j:Int)))).s_told (some (.loc l)))) ((q7n T Z (.loc l) (tF "append")).bind λ m=>cal C m (getR Z (.fl ownL) (.int (j:Int)))):=nr tK
theorem b2_1 (j:Nat):q7b C (vM G ((v.s_k (some (.int (j:Int)))).s_hidden (some (.bool h)))) (Bw pr pa x .t a)=es (vM G ((v.s_k (some (.int (j:Int)))).s_hidden (some (.bool h)))) (cal2 C (.fn 113 (.obj 4)) (bnd (some (h,Bw pr pa x .t a)) λ c s=>if c=true then some (.str (tF "z"),s)else bnd (getR s (.fl ownL) (.int (j:Int))) λ y s=>getR s (.loc 1) y) λ s=>getR s (.fl ownL) (.int (j:Int))):=nr tK
theorem v4f:q8g C V Z=sq (q7a C V Z) λ v s=>sq (q7b C v s) λ v s=>some (.next,v,s):=rfl
theorem b_7:q6y C (vM G (v.s_attrs (some (.loc A)))) Z=asg (vM G (v.s_attrs (some (.loc A)))) 28 (calA C (.bf .dict) (some (.loc A,Z))):=nr tK
theorem b_8 (ks:tL):q6z C (vM G ((v.s_tag (sS q)).s_given (some (.fd ks L)))) (Bw pr pa x .t a)=es (vM G ((v.s_tag (sS q)).s_given (some (.fd ks L)))) (C 120 [.obj 4,.str q,.fd ks L] [] (Bw pr pa x .t a)):=nr tK
theorem b_9 (ks:tL):q3e C (vM G ((v.s_attrs (some (.loc A))).s_given (some (.fd ks L)))) Z=ifn (vM G ((v.s_attrs (some (.loc A))).s_given (some (.fd ks L)))) (cmpT Z .NotEq (.fd ks L) (.loc A)) (z6g C (vM G ((v.s_attrs (some (.loc A))).s_given (some (.fd ks L))))):=nr tK
theorem b_10:q5d C (vM G (v.s_attrs (some (.loc A)))) Z=asg (vM G (v.s_attrs (some (.loc A)))) 29 (wlc (calA C (.bf .sorted) (some (.loc A,Z))) (w6p C) (none::none::vM G (v.s_attrs (some (.loc A))))):=nr tK
theorem c_8:w6p C (.str u) (o0::o1::V,mx) Z=bnd (bnd (some (!decide (u=exK),Z)) λ b s=>if b=true then some (true,s)else some (false,s)) λ ok s=>if ok=true then bnd (q2h mx (some (.str u,s))) λ r' s=>some ((o0::some (.str u)::V,r'),s)else some ((o0::some (.str u)::V,mx),s):=nr tK
theorem b_11:q3p C (vM G ((v.s_tag (sS q)).s_shown (some (.fl L)))) Z=asg (vM G ((v.s_tag (sS q)).s_shown (some (.fl L)))) 20 (wlc (wlc (binR Z .Add (.fl [.str q]) (.fl L)) (w6q C) (none::none::vM G ((v.s_tag (sS q)).s_shown (some (.fl L))))) (w2k C) (none::none::vM G ((v.s_tag (sS q)).s_shown (some (.fl L))))):=nr tK
theorem c_9:w6q C (.str u) (o0::o1::V,mx) Z=bnd (q2h mx (calA C (.fn 187) (some (.str u,Z)))) λ r s=>some ((o0::some (.str u)::V,r),s):=nr tK
theorem c_10:w2k C (.str u) (o0::o1::vM G v,mx) Z=bnd (bnd (some (![tF "",xmlS].contains u,Z)) λ b s=>if b=true then some (true,s)else some (false,s)) λ ok s=>if ok=true then bnd (q2h mx (some (.str u,s))) λ r' s=>some ((o0::some (.str u)::vM G v,r'),s)else some ((o0::some (.str u)::vM G v,mx),s):=nr tK
theorem b_12:q2l C (vM G v) Z=asg (vM G v) 30 (lc (q0s (.loc 3) (w2m C) (none::none::none::none::none::vM G v,[]) Z)):=nr tK
theorem c_12:w2m C (entV e) (o0::o1::o2::o3::o4::V,mx) Z=q0s (.fl (e.us.map .str)) (w2l C) (o0::some (.str e.q)::some (.fl (e.us.map .str))::some (.loc (e.j+12))::o4::V,mx) Z:=nr tK
theorem c_11:w2l C (.str u) (o0::o1::o2::o3::o4::V,mx) Z=bnd (q2h mx (some (.str u,Z))) λ r s=>some ((o0::o1::o2::o3::some (.str u)::V,r),s):=nr tK
theorem b_13:q1t C (vM G (v.s_used (some (.fl L)))) Z=asg (vM G (v.s_used (some (.fl L)))) 31 (bnd (calA C (.bf .set) (some (.fl L,Z))) λ y s=>(wsV y).bind λ xs=>z8o (λ l=>if(!goN (.fl l))=true then none else q0s (.fl l) (q8v C) (none::none::vM G (v.s_used (some (.fl L))),[]) s) xs s):=nr tK
theorem c_13:q8v C (.str u) (o0::o1::vM G (v.s_above (some (.fl L))),mx) Z=bnd (bnd (cmpT Z .NotIn (.str u) (.fl L)) λ b s=>if b=true then some (true,s)else some (false,s)) λ ok s=>if ok=true then bnd (q2h mx (getR s (.loc 1) (.str u))) λ r' s=>some ((o0::some (.str u)::vM G (v.s_above (some (.fl L))),r'),s)else some ((o0::some (.str u)::vM G (v.s_above (some (.fl L))),mx),s):=nr tK
theorem b_14:q1k C (vM G (((v.s_tag (sS q)).s_used (some (.fl L))).s_told (some (.loc l)))) (Bw pr pa x .t a)=es (vM G (((v.s_tag (sS q)).s_used (some (.fl L))).s_told (some (.loc l)))) (cal C (.bi .lAppend (.loc 3)) (some (.tup [.str q,.fl L,.loc l],Bw pr pa x .t a))):=nr tK
theorem b_15:q1e C (vM G ((v.s_tag (sS q)).s_hidden (some (.bool h)))) Z=ifn (vM G ((v.s_tag (sS q)).s_hidden (some (.bool h)))) (andT (some (!h,Z)) λ s=>andT (some (!decide (q=exS),s)) λ s=>some (true,s)) (w6j C (vM G ((v.s_tag (sS q)).s_hidden (some (.bool h))))):=nr tK
theorem b4_0:q9u C (vM G ((v.s_due (sS d)).s_tag (sS q))) Z=aug (vM G ((v.s_due (sS d)).s_tag (sS q))) d (bnd (C 194 [.str q,.loc 1] [] Z) λ y s=>binR s .Add (.str lt1) y):=nr tK
theorem b4_1:q9v C (vM G (v.s_new (some (.fl L)))) Z=forA (q6a C) L (vM G (v.s_new (some (.fl L)))) Z:=nr tK
theorem v4j:q6a C (.str p) (vM G v) Z=sq (q5h C (vM G (v.s_prefi (sS p))) Z) λ v s=>sq (q8l C v s) λ v s=>some (.next,v,s):=nr tK
theorem j9m:q8l C (vM G (((v.s_due (sS d)).s_prefi (sS p)).s_uri (sS u))) Z=aug (vM G (((v.s_due (sS d)).s_prefi (sS p)).s_uri (sS u))) d (bnd (bnd (bnd (bnd (bnd (some (!decide (p=tF ""),Z)) λ c s=>if c=true then binR s .Add (.str (tF ":")) (.str p)else some (.str (tF ""),s)) λ y s=>binR s .Add (.str (tF " xmlns")) y) λ y s=>adds y (tF "=\"") s) λ y s=>bnd (k7m (.str u) (some bad) (some q9k) s) λ z s=>binR s .Add y z) λ y s=>adds y (tF "\"") s):=nr tK
theorem b4_2:q7c C (vM G (v.s_shown (some (.fl L)))) Z=forA (q6b C) L (vM G (v.s_shown (some (.fl L)))) Z:=nr tK
theorem v4k:q6b C (.str u) (vM G ((v.s_due (sS d)).s_attrs (some (.loc A)))) Z=sq (aug (vM G (((v.s_due (sS d)).s_attrs (some (.loc A))).s_key (sS u))) d (bnd (bnd (bnd (bnd (C 194 [.str u,.loc 1] [] Z) λ y s=>binR s .Add (.str (tF " ")) y) λ y s=>adds y (tF "=\"") s) λ y s=>bnd (bnd (getR s (.loc A) (.str u)) λ z s=>k7m z (some bad) (some q9k) s) λ z s=>binR s .Add y z) λ y s=>adds y (tF "\"") s)) λ v s=>some (.next,v,s):=nr tK
theorem b4_3:q4r C (vM G (v.s_due (sS d))) Z=aug (vM G (v.s_due (sS d))) d (some (.str gt1,Z)):=nr tK
theorem m_0 (P:List Ent):w6k C (vM G v) (Bw pr (P.map entV++[entV e]) x .t a)=asg (vM G v) 19 (bnd ((popA (P.map entV++[entV e])).map λ p=>(p.2,Bw pr p.1 x .t a)) λ y s=>getR s y (.int 0)):=nr tK
theorem m_1:q9w C (vM G (v.s_tag (sS q))) (Bw pr pa x .t a)=es (vM G (v.s_tag (sS q))) (C 133 [.obj 4,.str q] [] (Bw pr pa x .t a)):=nr tK
theorem m_2:q7d C (vM G (((v.s_due (sS d)).s_tag (sS q)).s_hidden (some (.bool h)))) Z=aug (vM G (((v.s_due (sS d)).s_tag (sS q)).s_hidden (some (.bool h)))) d (bnd (some (h,Z)) λ c s=>if c=true then some (.str (tF ""),s)else bnd (bnd (C 194 [.str q,.loc 1] [] s) λ y s=>binR s .Add (.str (tF "</")) y) λ y s=>adds y gt1 s):=nr tK
theorem t_0:w6l C (vM G v) (Bw pr pa x .t a)=es (vM G v) (C 97 [.obj 4,.str (tF "t")] [] (Bw pr pa x .t a)):=nr tK
theorem t_1:q9x C (vM G ((v.s_due (sS d)).s_hidden (some (.bool h)))) Z=aug (vM G ((v.s_due (sS d)).s_hidden (some (.bool h)))) d (bnd (some (h,Z)) λ c s=>if c=true then some (.str (tF ""),s)else some (.str (tF "t"),s)):=nr tK
theorem v_5 (m:Int):w1h C (vM G (v.s_move (some (.int m)))) Z=sq (iff (orT (some (decide (m=4),Z)) λ s=>orT (andT (some (decide (m=2),s)) λ s=>andT (bnd (calA C (.bf .len) (some (.loc 3,s))) λ y s=>cmpT s .Gt y (.int 1)) λ s=>some (true,s)) λ s=>some (false,s)) (w1i C (vM G (v.s_move (some (.int m))))) (w1j C (vM G (v.s_move (some (.int m)))))) λ v s=>some (.next,v,s):=nr tK
end
section
variable (C:q0b) (sc:AV) (F:Int) (c:Nat) (v:Lo) (L:tW) (d:Str)
theorem s_13:w0a C (vM ⟨sc,.fl L,F,c⟩ v) Z=forA (q2c C) L (vM ⟨sc,.fl L,F,c⟩ v) Z:=nr tK
theorem s_14 (G:Fx):q4s C (vM G (v.s_due (sS d))) Z=bnd (andE (bnd (cal C (.bi .sJoin (.str (tF ""))) (some (.loc 2,Z))) λ y s=>cmpR s .Eq y (.str d)) λ s=>bnd (evC (some (norm G.sc,s)) λ s=>evC (getR s (.fl ownL) (.int (G.F.fmod 4))) λ s=>some ([],s)) λ xs s=>bnd (some ([],s)) λ kv s=>q7i T C (.fn 199) xs kv s) λ y s=>some (.ret y,vM G (v.s_due (sS d)),s):=nr tK
end
def KS:List Str:=(List.range 21).map kS
def Uo (s:Str):Str:=kU (KS.idxOf s)
def To (s:Str):Str:=kL (KS.idxOf s)
theorem v1a {k:Nat} (hk:k<21):KS.idxOf (kS k)=k:=by
 have h2:=List.idxOf_lt_length_of_mem (show kS k∈KS from List.mem_map_of_mem (List.mem_range.mpr hk))
 have h3:KS[KS.idxOf (kS k)]? = some (kS k):=by rw[List.getElem?_eq_getElem h2,List.getElem_idxOf]
 have h4:KS[k]? = some (kS k):=by rw[KS,List.getElem?_map,List.getElem?_range hk];rfl
 exact(List.getElem?_inj h2 v5f).mp (h3.trans h4.symm)
theorem Uo_k {k:Nat} (hk:k<21):Uo (kS k)=kU k:=by rw[Uo,v1a hk]
theorem To_k {k:Nat} (hk:k<21):To (kS k)=kL k:=by rw[To,v1a hk]
def IsK (s:Str):Prop:=∃k,k<21/\s=kS k
def q1h (q:Str) (ks:tL):List Str:=(q::ks).map Uo
theorem kU_U:∀k,kU k∈q9e:=λ k=>(by decide +kernel:∀m<7,uS m∈q9e) (k % 7) (Nat.mod_lt _ tA)
theorem z7u {β:Type} (p:β->Bool) (g:β->AV):∀L:List β,(L.flatMap λ u=>if p u=true then[g u]else[])=(L.filter p).map g
 | []=>rfl
 | u::L=>by
  rw[List.flatMap_cons,z7u p g L]
  by_cases h:p u=true
  ·rw[if_pos h,List.filter_cons_of_pos h];rfl
  ·rw[if_neg h,List.filter_cons_of_neg h];rfl
theorem v5a (Z:Store) (us:tL) (u:Str):cmpT Z .In (.str u) (.fl (us.map .str))=some (us.contains u,Z):=by
 show(((q0z (us.map AV.str)).map (·.contains u)).orElse _).bind _=_
 rw[q1w];rfl
theorem j3m (Z:Store) (us:tL) (u:Str):cmpT Z .NotIn (.str u) (.fl (us.map .str))=some (!us.contains u,Z):=by
 show((((q0z (us.map AV.str)).map (·.contains u)).orElse _).map (!·)).bind _=_
 rw[q1w];rfl
theorem v1b (Z:Store) (us:tL) (u:Str):cmpR Z .In (.str u) (.fl (us.map .str))=some (.bool (us.contains u),Z):=by
 show(((q0z (us.map AV.str)).map (·.contains u)).orElse _).bind _=_
 rw[q1w];rfl
theorem j6q {P:Vs->Prop} {m:Option ((Vs×List AV)×Store)} {r:tW} {Z:Store} (h:Got P m r Z):lc m=some (.fl r,Z):=by
 obtain⟨vs,_,e⟩:=h
 rw[e];rfl
theorem z7d {P:Vs->Prop} {m:Res} {L r:tW} {f:AV->Vs×List AV->Store->Option ((Vs×List AV)×Store)} {V:Vs} {Z:Store} (h:m=some (.fl L,Z)) (g:Got P (q0s (.fl L) f (V,[]) Z) r Z):wlc m f V=some (.fl r,Z):=by
 obtain⟨vs,_,e⟩:=g
 unfold wlc
 rw[h,q0c,show(!goN (.fl L))=false from rfl,if_neg Bool.false_ne_true,e];rfl
abbrev own2 (V:Vs) (vs:Vs):Prop:=∃a b,vs=a::b::V
section
theorem z1b {v:AV} {us:tL} {p:Str->Bool} {g:Str->AV} (hv:q0i Z v=some (us.map .str)) (hz:us.length<10000)
  (hf:∀u mx o0 o1,u∈us->mx.length<10000->f (.str u) (o0::o1::V,mx) Z=some ((o0::some (.str u)::V,if p u=true then mx++[g u]else mx),Z)):Got (own2 V) (q0s v f (none::none::V,[]) Z) ((us.filter p).map g) Z:=by
 have e:us.foldl (app λ u=>if p u=true then[g u]else[]) []=(us.filter p).map g:=by rw[q1d,z7u,List.nil_append]
 rw[<-e]
 refine z1d (e:=AV.str) hv (λ mq u mr vs ex h=>?_) ⟨_,_,rfl⟩
 obtain⟨o0,o1,rfl⟩:=h
 refine⟨_,⟨o0,some (.str u),rfl⟩,(hf u _ o0 o1 (by rw[ex];exact List.mem_append_right _ (zL ..)) ?_).trans ?_⟩
 ·rw[q1d,z7u,List.nil_append,zH]
  exact jJ (List.length_filter_le ..) (jJ (by rw[ex,zI];exact zC ..) hz)
 ·show some ((_,if p u=true then _ else _),Z)=some ((_,_++if p u=true then _ else _),Z)
  by_cases h:p u=true
  ·rw[if_pos h,if_pos h]
  ·rw[if_neg h,if_neg h,List.append_nil]
theorem z8a {α:Type} {b:Bool} {mx:tW} {V0:α} {m:Store->Res} {v:AV} (hm:m Z=some (v,Z)) (hz:mx.length<10000):(bnd (bnd (some (b,Z)) λ b s=>if b=true then some (true,s)else some (false,s)) λ ok s=>if ok=true then bnd (q2h mx (m s)) λ r' s=>some ((V0,r'),s)else some ((V0,mx),s))=some ((V0,if b=true then mx++[v]else mx),Z):=by
 cases b with
 | false=>rfl
 | true=>exact stk (em_n hm (Nat.lt_trans hz tA)) (λ r' s=>some ((V0,r'),s)) rfl
theorem v1q {v:AV} {us:tL} {g:Str->AV} (hv:q0i Z v=some (us.map .str)) (hz:us.length<10000)
  (hf:∀u mx o0 o1,u∈us->mx.length<10000->f (.str u) (o0::o1::V,mx) Z=some ((o0::some (.str u)::V,mx++[g u]),Z)):Got (own2 V) (q0s v f (none::none::V,[]) Z) (us.map g) Z:=by
 have e:=z1b (p:=λ J=>true) hv hz hf
 rw[List.filter_eq_self.mpr λ J J=>rfl]at e
 exact e
end
theorem z1a {β:Type} {P:Vs->Prop} {Z:Store} {f:AV->Vs×List AV->Store->Option ((Vs×List AV)×Store)} {e:β->AV} {g:β->List AV} {v:AV} {ps:List β} {vs:Vs} (hv:q0i Z v=some (ps.map e)) (hz:(ps.flatMap g).length<=10000) (h0:P vs)
  (hf:∀b mx vs,b∈ps->P vs->mx.length+(g b).length<=10000->Got P (f (e b) (vs,mx) Z) (mx++g b) Z):Got P (q0s v f (vs,[]) Z) (ps.flatMap g) Z:=by
 have e0:ps.foldl (app g) []=ps.flatMap g:=by rw[q1d,List.nil_append]
 rw[<-e0]
 refine z1d hv (λ mq b mr vs ex h=>hf b _ vs (by rw[ex];exact List.mem_append_right _ (zL ..)) h ?_) h0
 have hp:=k7h (g:=g) ex hz
 rw[q1d,List.nil_append]
 exact hp
theorem k8i {P:Vs->Prop} {Z:Store} {f:AV->Vs×List AV->Store->Option ((Vs×List AV)×Store)} {v:AV} {us:tL} {vs:Vs} {mx:tW} (hv:q0i Z v=some (us.map .str)) (hz:mx.length+us.length<=10000) (h0:P vs)
  (hf:∀u mx vs,u∈us->P vs->mx.length<100000->Got P (f (.str u) (vs,mx) Z) (mx++[.str u]) Z):Got P (q0s v f (vs,mx) Z) (mx++us.map .str) Z:=by
 have e1:=q1d (λ u=>[AV.str u]) us mx
 rw[q1y]at e1
 rw[<-e1]
 refine z1d (e:=AV.str) hv (λ mq u mr vs ex h=>hf u _ vs (by rw[ex];exact List.mem_append_right _ (zL ..)) h ?_) h0
 have hq:=congrArg List.length ex
 rw[zI,List.length_cons]at hq
 rw[q1d,q1y,zI,zH]
 exact jJ (jH (Nat.add_le_add_left (jH (zC _ _) (zA hq.symm)) _) hz) tA
abbrev own5 (V vs:Vs):Prop:=∃a b c d e,vs=a::b::c::d::e::V
abbrev own4 (V vs:Vs):Prop:=∃a b c d,vs=a::b::c::d::V
theorem At.isK {kvs:tE} {q:Str} (h:At kvs) (hq:IsK q):∀r∈q::kvs.map (·.1),IsK r:=λ r hr=>(List.mem_cons.mp hr).elim (λ e=>e▸hq) λ hm=>by
 obtain⟨kv,h1,rfl⟩:=List.mem_map.mp hm
 exact h.k kv h1
def sks (kvs:tE):List Str:=(q3r (kvs.map (·.1))).filter λ u=>!decide (u=exK)
def nx (us:tL):List Str:=us.filter λ u=>![tF "",xmlS].contains u
noncomputable def tlD (ps:List Ent):List Str:=ps.flatMap (·.tl)
noncomputable def abv (ps:List Ent):List Str:=ps.flatMap (·.us)
def hid (ps:List Ent):Bool:=(ps.map (·.q)).contains exS
theorem q0y (xs:tL):(q3r xs).Perm xs:=List.mergeSort_perm ..
section
variable (n:Nat) (C:q0b) (G:Fx) (v:Lo) {Z:Store} {V:Vs} {q:Str} {A:Nat} {kvs:tE} {ps:List Ent} {L:tL}
theorem k8r {f:AV->Vs×List AV->Store->Option ((Vs×List AV)×Store)} (hf:∀u o0 o1 mx,f (.str u) (o0::o1::V,mx) Z=bnd (q2h mx (calA (Dn (n+1)) (.fn 187) (some (.str u,Z)))) λ r s=>some ((o0::some (.str u)::V,r),s)) (hk:∀r∈L,IsK r) (hz:L.length<10000) :
  Got (own2 V) (q0s (.fl (L.map .str)) f (none::none::V,[]) Z) ((L.map Uo).map .str) Z:=by
 have g:=v1q (Z:=Z) (V:=V) (f:=f) (v:=.fl (L.map .str)) (us:=L) (g:=λ u=>.str (Uo u)) rfl hz λ u mx o0 o1 hu hz=>by
  obtain⟨i,hi,rfl⟩:=hk u hu
  rw[hf,Uo_k hi]
  exact stk (em_n ((z0r rfl).trans (j3w n Z hi)) (Nat.lt_trans hz tA)) (λ r s=>some ((o0::some (.str (kS i))::V,r),s)) rfl
 rw[List.map_map]
 exact g
theorem j9o (hq:IsK q) (hA:At kvs) (hd:q0l Z (.loc A)=some (kvs.map q0g)) :
  q6x (Dn (n+1)) (vM G ((v.s_tag (sS q)).s_attrs (some (.loc A)))) Z=some (.next,vM G (((v.s_tag (sS q)).s_attrs (some (.loc A))).s_needs (some (.fl ((q1h q (kvs.map (·.1))).map .str)))),Z):=by
 have hl:biA .list [.loc A] Z=some (.fl ((kvs.map (·.1)).map .str),Z):=by
  show((q0l Z (.loc A)).bind λ kvs=>some (AV.fl (kvs.map λ kv=>.str kv.1),Z))=_
  rw[hd,List.map_map]
  show some (AV.fl ((kvs.map q0g).map _),Z)=_
  rw[List.map_map];rfl
 have h3:=hA.l
 rw[b_3]
 refine q4v (z7d (L:=(q::kvs.map (·.1)).map .str) ?_ (k8r n (λ J J J J=>c_5 ..) (hA.isK hq) (jJ (show _<=4 from Nat.succ_le_succ (by rw[zH];exact h3)) tA)))
 rw[w1v rfl hl,q0c]
 exact w9g (jH (Nat.add_le_add_left (by rw[zH,zH];exact h3) _) (show 1+3<=10000 by decide))
theorem v0z (hp:q0i Z (.loc 3)=some (ps.map entV)) (hz:ps.length<=1000):q5f C (vM G v) Z=some (.next,vM G (v.s_hidden (some (.bool (hid ps)))),Z):=by
 have g:Got (own4 (vM G v)) (q0s (.loc 3) (w1l C) (none::none::none::none::vM G v,[]) Z) (ps.flatMap λ e=>[.str e.q]) Z:=by
  refine z1a hp (jH (by rw[q1y,zH];exact hz) tA) ⟨_,_,_,_,rfl⟩ λ e mx vs J h hl=>?_
  obtain⟨o0,o1,o2,o3,rfl⟩:=h
  exact⟨_,⟨o0,_,_,_,rfl⟩,(c_4 C (o0:=o0) (o1:=o1) (o2:=o2) (o3:=o3) (V:=vM G v) (mx:=mx) (e:=e)).trans (stk (em_n rfl (jJ (jH (zC _ _) hl) tA)) (λ r s=>some ((o0::some (.str e.q)::some (.fl (e.us.map .str))::some (.loc (e.j+12))::vM G v,r),s)) rfl)⟩
 rw[h_0,j6q g,q0c,q1y,show ps.map (λ e=>AV.str e.q)=(ps.map (·.q)).map .str by rw[List.map_map];rfl]
 exact q4v (v1b ..)
theorem j9p (hp:q0i Z (.loc 3)=some (ps.map entV)) (hx:∀e∈ps,q0i Z (.loc (e.j+12))=some (e.tl.map .str)) (hz:(tlD ps).length<=10000):q4p C (vM G v) Z=some (.next,vM G (v.s_scope (some (.fl ((tlD ps).map .str)))),Z):=by
 have e0:ps.flatMap (λ e=>e.tl.map AV.str)=(tlD ps).map .str:=List.map_flatMap.symm
 rw[b_4,<-e0]
 refine q4v (j6q (P:=own5 (vM G v)) (z1a hp (by rw[e0,zH];exact hz) ⟨_,_,_,_,_,rfl⟩ λ e mx vs he h hl=>?_))
 obtain⟨o0,o1,o2,o3,o4,rfl⟩:=h
 rw[c_7]
 refine k8i (hx e he) (by rw[zH]at hl;exact hl) ⟨_,_,_,_,_,rfl⟩ λ u mx vs J h hl=>?_
 obtain⟨o0,o1,o2,o3,o4,rfl⟩:=h
 exact⟨_,⟨o0,o1,o2,o3,_,rfl⟩,(c_6 ..).trans (stk (em_n rfl hl) (λ r s=>some ((o0::o1::o2::o3::some (.str u)::vM G v,r),s)) rfl)⟩
theorem j4v (hp:q0i Z (.loc 3)=some (ps.map entV)) (hz:(abv ps).length<=10000):q2l C (vM G v) Z=some (.next,vM G (v.s_above (some (.fl ((abv ps).map .str)))),Z):=by
 have e0:ps.flatMap (λ e=>e.us.map AV.str)=(abv ps).map .str:=List.map_flatMap.symm
 rw[b_12,<-e0]
 refine q4v (j6q (P:=own5 (vM G v)) (z1a hp (by rw[e0,zH];exact hz) ⟨_,_,_,_,_,rfl⟩ λ e mx vs he h hl=>?_))
 obtain⟨o0,o1,o2,o3,o4,rfl⟩:=h
 rw[c_12]
 refine k8i rfl (by rw[zH]at hl;exact hl) ⟨_,_,_,_,_,rfl⟩ λ u mx vs J h hl=>?_
 obtain⟨o0,o1,o2,o3,o4,rfl⟩:=h
 exact⟨_,⟨o0,o1,o2,o3,_,rfl⟩,(c_11 ..).trans (stk (em_n rfl hl) (λ r s=>some ((o0::o1::o2::o3::some (.str u)::vM G v,r),s)) rfl)⟩
theorem j1s (hd:q0l Z (.loc A)=some (kvs.map q0g)) (h3:kvs.length<=3):calA C (.bf .sorted) (some (.loc A,Z))=some (.fl ((q3r (kvs.map (·.1))).map .str),Z):=by
 refine w1v rfl ?_
 show(optC (q0l Z (.loc A)) (λ kvs=>if(kvs.map (·.1)).length<64 then some (AV.fl ((q3r (kvs.map (·.1))).map .str),Z)else none) _)=_
 rw[hd]
 show(if((kvs.map q0g).map (·.1)).length<64 then some (AV.fl ((q3r ((kvs.map q0g).map (·.1))).map .str),Z)else none)=_
 rw[if_pos (by rw[zH,zH];exact jJ h3 tA),List.map_map];rfl
theorem j4t (hd:q0l Z (.loc A)=some (kvs.map q0g)) (h3:kvs.length<=3):q5d C (vM G (v.s_attrs (some (.loc A)))) Z=some (.next,vM G ((v.s_attrs (some (.loc A))).s_shown (some (.fl ((sks kvs).map .str)))),Z):=by
 rw[b_10]
 refine q4v (z7d (j1s C hd h3) (P:=own2 (vM G (v.s_attrs (some (.loc A))))) (z1b (g:=.str) rfl (by rw[(q0y _).length_eq,zH];exact jJ h3 tA) λ u mx o0 o1 J hz=>?_))
 rw[c_8]
 exact z8a (m:=λ s=>some (.str u,s)) rfl hz
theorem j4u (hq:IsK q) (hL:∀r∈L,IsK r) (hz:L.length<=3):q3p (Dn (n+1)) (vM G ((v.s_tag (sS q)).s_shown (some (.fl (L.map .str))))) Z=some (.next,vM G (((v.s_tag (sS q)).s_shown (some (.fl (L.map .str)))).s_used (some (.fl ((nx (q1h q L)).map .str)))),Z):=by
 rw[b_11]
 have h4:(q::L).length<=4:=Nat.succ_le_succ hz
 refine q4v (z7d (L:=(q1h q L).map .str) (z7d (L:=(q::L).map .str) (w9g (jH (Nat.add_le_add_left (by rw[zH];exact hz) _) (show 1+3<=10000 by decide))) (k8r n (λ J J J J=>c_9 ..) (λ r hr=>(List.mem_cons.mp hr).elim (λ e=>e▸hq) (hL r)) (jJ h4 tA))) (P:=own2 (vM G ((v.s_tag (sS q)).s_shown (some (.fl (L.map .str))))))
  (z1b (g:=.str) rfl (by rw[q1h,zH];exact jJ h4 tA) λ u mx o0 o1 J hz=>?_))
 rw[c_10]
 exact z8a (m:=λ s=>some (.str u,s)) rfl hz
end
theorem k0u {α β:Type} (f:α->β) (l:List α) (x:α):l.map f++[f x]=(l++[x]).map f:=by rw[List.map_append];rfl
def U6:List Str:=q9e.drop 1
abbrev prs (c:Nat) (L:tL):List (Str×Str):=L.map λ u=>(u,px c u)
def Fo (c:Nat) (q:Str):Str:=pt (px c (Uo q)) (To q)
theorem j9e:∀c<8,∀u∈U6,∀v∈U6,px c u=px c v->u=v:=by decide +kernel
theorem j2i:∀u∈U6,u.length≠0:=by decide +kernel
theorem px_e:∀c<8,px c Str.empty=Str.empty:=by decide +kernel
theorem v5q:∀c<8,w0u xsS nsP=some (px c xsS):=by decide +kernel
theorem v2r:∀c<8,px c xmlS=tF "xml":=by decide +kernel
theorem z5b:∀u∈ownS,u∈U6/\u≠xsS/\u≠xmlS:=by decide +kernel
theorem j2j:∀u∈U6,u=xsS\/u=xmlS\/u∈ownS:=by decide +kernel
theorem j4g:∀u∈U6,u.length<=50:=by decide +kernel
theorem j7j:∀c<8,∀u∈q9e,(px c u).length<=3:=by decide +kernel
theorem e_of {u:Str} (h:u.length=0):u=Str.empty:=q6o (List.length_eq_zero_iff.mp ((q0t u).trans h))
theorem Uo_U {q:Str} (h:IsK q):Uo q∈q9e:=by obtain⟨k,hk,rfl⟩:=h;rw[Uo_k hk];exact kU_U k
theorem U_of {u:Str} (h:u∈q9e) (h0:u.length≠0):u∈U6:=(List.mem_cons.mp (show u∈tF "" :: U6 from h)).resolve_left λ e=>h0 (by rw[e];rfl)
section
variable {c:Nat} (hc:c<8)
theorem w5o:∀{L S:tL},u∉L->look u S (prs c L)=none
 | [],_,_=>rfl
 | a::L,S,h=>by
  show(if(decide (a=u)&&!S.contains (px c a))=true then some (px c a)else look u (addK (px c a) S) (prs c L))=none
  rw[decide_eq_false λ(e:a=u)=>h (e▸zL ..)]
  exact w5o λ q=>h (zG _ q)
include hc in
theorem z4n (hu:u∈U6):∀{L S:tL},(∀v∈L,v∈U6)->px c u∉S->u∈L->look u S (prs c L)=some (px c u)
 | a::L,S,hL,hS,h=>by
  show(if(decide (a=u)&&!S.contains (px c a))=true then some (px c a)else look u (addK (px c a) S) (prs c L))=_
  by_cases e:a=u
  ·subst e
   rw[decide_eq_true rfl,Bool.eq_false_iff.mpr λ q=>hS (List.contains_iff_mem.mp q)];rfl
  ·rw[decide_eq_false e]
   refine z4n hu (λ v hv=>hL v (zG _ hv)) (λ q=>?_) ((List.mem_cons.mp h).resolve_left λ q=>e q.symm)
   unfold addK at q
   split at q
   ·exact hS q
   ·exact(zK q).elim hS λ q=>e (j9e c hc a (hL a (zL ..)) u hu (zF q).symm)
theorem k0s (np:tE):∀{P:tL},u∈P->w0u u (prs c P++np)=some (px c u)
 | a::P,h=>by
  show(if a=u then some (px c a)else w0u u (prs c P++np))=_
  by_cases e:a=u
  ·rw[if_pos e,e]
  ·rw[if_neg e];exact k0s np ((List.mem_cons.mp h).resolve_left λ q=>e q.symm)
theorem w5n (np:tE):∀{P:tL},u∉P->w0u u (prs c P++np)=w0u u np
 | [],_=>rfl
 | a::P,h=>(if_neg λ(e:a=u)=>h (e▸zL ..)).trans (w5n np λ q=>h (zG _ q))
end
noncomputable def n1 (D N:tL) (u:Str):List Str:=if u.length=0\/u∈N++D then N else N++[u]
def nU (D N qs:tL):List Str:=qs.foldl (λ N q=>n1 D N (Uo q)) N
theorem v1x (D N:tL) (u:Str):(n1 D N u).length<=N.length+1:=by
 unfold n1;split
 ·exact Nat.le_succ _
 ·rw[zI];exact jZ _
theorem j3k (D:tL):∀(qs N:tL),(nU D N qs).length<=N.length+qs.length
 | [],N=>jZ _
 | q::qs,N=>jH (j3k D qs _) (jH (Nat.add_le_add_right (v1x D N _) _) (zA (Nat.succ_add_eq_add_succ ..)))
theorem v1y {D N:tL} {u v:Str} (hd:∀u∈N,u∉D):v∈n1 D N u↔v∈N\/(v=u/\v.length≠0/\v∉D):=by
 unfold n1
 by_cases h:u.length=0\/u∈N++D
 ·rw[if_pos h]
  refine⟨.inl,λ q=>q.elim id λ q=>?_⟩
  obtain⟨rfl,q1,q2⟩:=q
  exact(zK (h.resolve_left q1)).resolve_right q2
 ·rw[if_neg h,List.mem_append,List.mem_singleton]
  exact⟨λ q=>q.imp id λ e=>⟨e,e▸λ q=>h (.inl q),e▸λ q=>h (.inr (List.mem_append_right _ q))⟩,λ q=>q.imp id λ q=>q.1⟩
theorem v1z {D:tL}:∀{qs N:tL},N.Nodup->(∀u∈N,u∉D)->(nU D N qs).Nodup/\∀u,u∈nU D N qs↔u∈N\/(u∈qs.map Uo/\u.length≠0/\u∉D)
 | [],N,hn,hd=>⟨hn,λ u=>⟨.inl,λ q=>q.resolve_right λ q=>absurd q.1 List.not_mem_nil⟩⟩
 | q::qs,N,hn,hd=>by
  have k:∀v,v∈n1 D N (Uo q)↔_:=λ v=>v1y hd
  have h1:(n1 D N (Uo q)).Nodup:=by
   unfold n1
   by_cases h:(Uo q).length=0\/Uo q∈N++D
   ·rw[if_pos h];exact hn
   ·rw[if_neg h]
    exact List.nodup_append.mpr ⟨hn,List.nodup_cons.mpr ⟨List.not_mem_nil,List.nodup_nil⟩,λ a ha b hb e=>h (.inr (List.mem_append_left _ (zF hb▸e▸ha)))⟩
  obtain⟨h2,h3⟩:=v1z (qs:=qs) h1 λ v hv=>((k v).mp hv).elim (hd v) λ z=>z.2.2
  refine⟨h2,λ u=>(h3 u).trans ?_⟩
  rw[k,List.map_cons,List.mem_cons]
  exact⟨λ z=>z.elim (λ z=>z.imp id λ⟨a,b⟩=>⟨.inl a,b⟩) λ⟨a,b⟩=>.inr ⟨.inr a,b⟩,λ z=>z.elim (λ z=>.inl (.inl z)) λ⟨a,b⟩=>a.elim (λ a=>.inl (.inr ⟨a,b⟩)) λ a=>.inr ⟨a,b⟩⟩
section
variable {c:Nat} (hc:c<8) {D Pu:tL} (hx:xmlS∈D) (hP:∀u∈Pu,u∈ownS)
include hc hx hP
theorem v2u {N:tL} {q:Str} (hN:∀v∈N++D,v∈U6) (hk:IsK q) (hd:Uo q∈N++D\/(Uo q∈ownS->Uo q∈Pu)):∃add,An3 (Qn (Uo q) (To q) (prs c N++prs c D) (prs c Pu++nsP) (Fo c q) add) (prs c N++add=prs c (n1 D N (Uo q))) ((Uo q).length=0\/Uo q∈N++D->add=[]):=by
 rw[<-List.map_append]
 unfold n1
 by_cases h0:(Uo q).length=0
 ·rw[if_pos (.inl h0),Fo,e_of h0,px_e c hc]
  have hn:∀L:List Str,(∀v∈L,v∈U6)->Str.empty∉L:=λ L h q=>j2i _ (h _ q) rfl
  exact⟨[],.bare (w5o (hn _ hN)) rfl (.inl ((w5n nsP (hn _ λ v hv=>(z5b v (hP v hv)).1)).trans (by decide +kernel))),List.append_nil _,λ J=>rfl⟩
 ·have hu:=U_of (Uo_U hk) h0
  by_cases h:Uo q∈N++D
  ·rw[if_pos (.inr h)]
   exact⟨[],.hit (z4n hc hu hN List.not_mem_nil h),List.append_nil _,λ J=>rfl⟩
  ·rw[if_neg λ z=>z.elim h0 h]
   refine⟨[(Uo q,px c (Uo q))],.new (w5o h) (.inl h0) ?_,k0u (λ u=>(u,px c u)) N (Uo q),λ z=>(z.elim h0 h).elim⟩
   rcases j2j _ hu with e|e|e
   ·rw[e];exact(w5n nsP λ z=>(z5b _ (hP _ z)).2.1 rfl).trans (v5q c hc)
   ·exact absurd (List.mem_append_right N (e▸hx)) h
   ·exact k0s nsP (hd.resolve_left h e)
set_option tactic.hygienic true in theorem k7o:∀{qs N:tL},(∀v∈N++D,v∈U6)->(∀q∈qs,IsK q/\(Uo q∈ownS->Uo q∈Pu))->Runs Uo To (Fo c) (prs c D) (prs c Pu++nsP) qs (prs c N) (prs c (nU D N qs))
 | [],N,_,_=>.nil _
 | q::qs,N,hN,h=>by
  obtain⟨h1,h2⟩:=h q (zL ..)
  obtain⟨add,h3,h4,_⟩:=v2u hc hx hP hN h1 (.inr h2)
  have k:∀v∈n1 D N (Uo q)++D,v∈U6:=λ v hv=>(zK hv).elim (λ hv=>by
   unfold n1 at hv
   split at hv
   ·exact hN v (List.mem_append_left _ hv)
   ·rename_i z
    refine(zK hv).elim (λ hv=>hN v (List.mem_append_left _ hv)) λ hv=>?_
    rw[zF hv];exact U_of (Uo_U h1) λ e=>z (.inl e)) λ hv=>hN v (List.mem_append_right _ hv)
  have r:=k7o k λ r hr=>h r (zG _ hr)
  rw[<-h4]at r
  exact .cons h3 r
end
theorem z8p (c:Nat) (L M:tL):prs c (L++M)=prs c L++prs c M:=List.map_append
inductive Lvs (c:Nat) (n0:tW) (x:Store):List AV->List Ent->List Str->Prop
 | nil {v:AV} (h:lvA .t n0 x v=some [xmlP]):Lvs c n0 x [v] [] [xmlS]
 | cons {j:Nat} {dl:tW} {e:Ent} {r:List Ent} {N D:tL} (h:lvA .t n0 x (.loc (j+12))=some ((prs c N).map q0a)) (hN:∀u,u∈N↔u∈e.us/\u∉D) (hn:N.Nodup) (t:Lvs c n0 x dl r D):Lvs c n0 x (.loc (j+12)::dl) (e::r) (N++D)
inductive Nvs (c:Nat) (n0:tW) (x:Store):List AV->List Ent->List Str->Prop
 | one {v:AV} {L:tL} (h:lvA .t n0 x v=some ((prs c L).map q0a)) (g:∀u∈L,u∈ownS):Nvs c n0 x [v] [] L
 | cons {v:AV} {ds:tW} {e:Ent} {r:List Ent} {L P:tL} (h:lvA .t n0 x v=some ((prs c L).map q0a)) (g:∀u∈L,u∈ownS) (t:Nvs c n0 x ds r P) (ht:∀u∈e.tl,u∈P):Nvs c n0 x (v::ds) (e::r) (L++P)
abbrev w7e (n0 n0':tW) (x x':Store) (d:tW):Prop:=∀v∈d,∀L,lvA .t n0 x v=some L->lvA .t n0' x' v=some L
theorem q8r (n0:tW) (x c:Store) (d:tW):w7e n0 n0 x (x++c) d:=λ J J J h=>k6m c h
section
theorem Lvs.mem {dl:tW} {r:List Ent} {D:tL} (h:Lvs c n0 x dl r D):∀u,u∈D↔u=xmlS\/u∈abv r:=by
 induction h with
 | nil _=>exact λ u=>⟨λ h=>.inl (zF h),λ h=>h.elim (λ e=>List.mem_singleton.mpr e) λ h=>absurd h List.not_mem_nil⟩
 | @cons j dl e r N D h hN hn t ih=>
  intro u
  show u∈N++D↔u=xmlS\/u∈e.us++abv r
  rw[List.mem_append,List.mem_append,hN,or_left_comm,<-ih u]
  exact⟨λ z=>z.imp (λ z=>z.1) id,λ z=>(Classical.em (u∈D)).elim .inr λ q=>z.imp (λ z=>⟨z,q⟩) id⟩
theorem Lvs.nodup {dl:tW} {r:List Ent} {D:tL} (h:Lvs c n0 x dl r D):D.Nodup:=by
 induction h with
 | nil _=>exact List.nodup_cons.mpr ⟨List.not_mem_nil,List.nodup_nil⟩
 | cons h hN hn t ih=>exact List.nodup_append.mpr ⟨hn,ih,λ a ha b hb e=>((hN a).mp ha).2 (e▸hb)⟩
theorem Lvs.len {dl:tW} {r:List Ent} {D:tL} (h:Lvs c n0 x dl r D):dl.length=r.length+1:=by
 induction h with
 | nil _=>rfl
 | cons _ _ _ _ ih=>exact congrArg Nat.succ ih
theorem Lvs.lv (hc:c<8) {dl:tW} {r:List Ent} {D:tL} (h:Lvs c n0 x dl r D):Lv .t n0 x dl (prs c D):=by
 induction h with
 | nil h=>
  have e:(prs c [xmlS]).map q0a=[xmlP]:=by
   show[q0a (xmlS,px c xmlS)]=_
   rw[v2r c hc]
  exact .cons (L:=prs c [xmlS]) (P:=[]) (h.trans (congrArg some e.symm)) .nil
 | cons h _ _ _ ih=>rw[z8p];exact .cons h ih
theorem Lvs.keep {dl:tW} {r:List Ent} {D:tL} (h:Lvs c n0 x dl r D):w7e n0 n0' x x' dl->Lvs c n0' x' dl r D:=by
 induction h with
 | nil h=>exact λ k=>.nil (k _ (zL ..) _ h)
 | cons h hN hn t ih=>exact λ k=>.cons (k _ (zL ..) _ h) hN hn (ih λ v hv=>k v (zG _ hv))
theorem Nvs.own {dl:tW} {r:List Ent} {P:tL} (h:Nvs c n0 x dl r P):∀u∈P,u∈ownS:=by
 induction h with
 | one _ g=>exact g
 | cons _ g _ _ ih=>exact λ u hu=>(zK hu).elim (g u) (ih u)
theorem Nvs.told {dl:tW} {r:List Ent} {P:tL} (h:Nvs c n0 x dl r P):∀u∈tlD r,u∈P:=by
 induction h with
 | one _ _=>exact λ u h=>absurd h List.not_mem_nil
 | cons _ _ _ ht ih=>exact λ u hu=>List.mem_append_right _ ((zK hu).elim (ht u) (ih u))
theorem Nvs.len {dl:tW} {r:List Ent} {P:tL} (h:Nvs c n0 x dl r P):dl.length=r.length+1:=by
 induction h with
 | one _ _=>rfl
 | cons _ _ _ _ ih=>exact congrArg Nat.succ ih
theorem Nvs.keep {dl:tW} {r:List Ent} {P:tL} (h:Nvs c n0 x dl r P):w7e n0 n0' x x' dl->Nvs c n0' x' dl r P:=by
 induction h with
 | one h g=>exact λ k=>.one (k _ (zL ..) _ h) g
 | cons h g t ht ih=>exact λ k=>.cons (k _ (zL ..) _ h) g (ih λ v hv=>k v (zG _ hv)) ht
theorem Nvs.lv {dl:tW} {r:List Ent} {P:tL} (h:Nvs c n0 x dl r P):Lv .t n0 x (dl++[nsV]) (prs c P++nsP):=by
 have e:Lv .t n0 x [nsV] nsP:=by
  have:=Lv.cons (i:=.t) (n0:=n0) (x:=x) (v:=nsV) (L:=nsP) (P:=[]) rfl .nil
  rw[List.append_nil]at this
  exact this
 induction h with
 | one h _=>exact .cons h e
 | cons h _ _ _ ih=>rw[z8p,List.append_assoc];exact .cons h ih
theorem Nvs.tell {v:AV} {ds:tW} {r:List Ent} {P:tL} (h:Nvs c n0 x (v::ds) r P) {u:Str} (hu:u∈ownS) (hk:w7e n0 n0' x x' ds) (hv:∀B,lvA .t n0 x v=some B->lvA .t n0' x' v=some (B++[q0a (u,px c u)])):∃P',Nvs c n0' x' (v::ds) r P'/\u∈P'/\(∀z∈P,z∈P')/\P'.length=P.length+1:=by
 have e:∀L:List Str,(prs c L).map q0a++[q0a (u,px c u)]=(prs c (L++[u])).map q0a:=λ L=>by rw[z8p,List.map_append];rfl
 have g':∀{L:tL},(∀u∈L,u∈ownS)->∀z∈L++[u],z∈ownS:=λ g z hz=>(zK hz).elim (g z) λ q=>zF q▸hu
 cases h with
 | one h g=>
  refine⟨_,.one ((hv _ h).trans (congrArg some (e _))) (g' g),List.mem_append_right _ (zL ..),λ z hz=>List.mem_append_left _ hz,zI⟩
 | cons h g t ht=>
  refine⟨_,.cons ((hv _ h).trans (congrArg some (e _))) (g' g) (t.keep hk) ht,List.mem_append_left _ (List.mem_append_right _ (zL ..)),λ z hz=>(zK hz).elim (λ q=>List.mem_append_left _ (List.mem_append_left _ q)) (List.mem_append_right _),?_⟩
  rw[zI,zI,zI]
  exact Nat.add_right_comm _ 1 _
end
theorem k0w:∀{l m:tL},l.Nodup->(∀x∈l,x∈m)->l.length<=m.length
 | [],_,_,_=>Nat.zero_le _
 | a::l,m,hn,h=>by
  obtain⟨n1,n2⟩:=List.nodup_cons.mp hn
  have ha:=h a (zL ..)
  have k:=k0w (m:=m.erase a) n2 λ x hx=>(List.mem_erase_of_ne λ(e:x=a)=>n1 (e▸hx)).mpr (h x (zG _ hx))
  rw[List.length_erase_of_mem ha]at k
  exact jJ k (Nat.sub_lt (List.length_pos_of_mem ha) Nat.one_pos)
structure q9d (x:Store) (e:Ent):Prop where
 k:IsK e.q
 u:∀u∈e.us,u∈U6/\u≠xmlS
 m:Uo e.q=xmlS\/(Uo e.q).length=0\/Uo e.q∈e.us
 t:x[e.j]? = some (.list (e.tl.map .str))
 l:e.us.length<=4/\e.tl.length<=4
theorem q9d.grow {x:Store} {e:Ent} (h:q9d x e) (y:Store):q9d (x++y) e:=⟨h.k,h.u,h.m,q4w y h.t,h.l⟩
theorem Lvs.U {c:Nat} {n0:tW} {x x':Store} {dl:tW} {r:List Ent} {D:tL} (h:Lvs c n0 x dl r D) (he:∀e∈r,q9d x' e):(∀u∈D,u∈U6)/\D.length<=6:=by
 have k:∀u∈D,u∈U6:=λ u hu=>((h.mem u).mp hu).elim (λ e=>e▸(by decide +kernel:xmlS∈U6)) λ q=>by
  obtain⟨e,h1,h2⟩:=List.mem_flatMap.mp q
  exact((he e h1).u u h2).1
 exact⟨k,k0w h.nodup k⟩
theorem w9v (ts:tL):lst (jnT ts)=(ts.map lst).flatten:=j0h ts
theorem k0p (ts:tL):(jnT ts).length=(ts.map (·.length)).sum:=by
 rw[<-q0t,w9v,List.length_flatten,List.map_map]
 exact congrArg List.sum (List.map_congr_left λ t J=>q0t t)
theorem q7k (a b:tL):jnT (a++b)=jnT a++jnT b:=q6o (by rw[q0j,w9v,w9v,w9v,List.map_append,List.flatten_append])
theorem q7l (t:Str):jnT [t]=t:=q6o (by rw[w9v];exact List.append_nil _)
theorem z4e:jnT []=Str.empty:=q6o (w9v [])
theorem q2n (x:Str):x++Str.empty=x:=q6o (by rw[q0j];exact List.append_nil _)
theorem q2e (x y z:Str):x++y++z=x++(y++z):=q6o (by rw[q0j,q0j,q0j,q0j,List.append_assoc])
theorem k9q (a b:Str):escC (a++b)=escC a++escC b:=q6o (by
 unfold escC
 simp only[k0c,q0j,w0k])
theorem w1z:escC (jnT [])=Str.empty:=by rw[z4e];decide +kernel
noncomputable def tS:Str:=tF "t"
theorem v0o:escC tS=tS:=by decide +kernel
inductive Tx (k m:Nat) (d:Str) (a:W):Prop
 | mk (ts ds:tL) (o:a.out=ts.map .str) (q:a.data=ds.map .str) (e:jnT ts++escC (jnT ds)=d) (lo:ts.length<=k) (ld:ds.length<=m) (h:∀t∈ds,t=tS) (sn:ds≠[]->a.seen=true)
theorem Tx.le {k m k' m':Nat} {d:Str} {a:W} (h:Tx k m d a) (hk:k<=k') (hm:m<=m'):Tx k' m' d a:=by
 obtain⟨ts,ds,o,q,e,lo,ld,h,sn⟩:=h
 exact⟨ts,ds,o,q,e,jH lo hk,jH ld hm,h,sn⟩
structure Wi (c k m:Nat) (x:Store) (r:List Ent) (d:Str) (P:tL) (a:W):Prop where
 lv:∃D,Lvs c a.n0 x a.dl.reverse r D
 nv:Nvs c a.n0 x a.nl.reverse r P
 pres:a.pres=List.replicate (r.length+1) (.bool false)
 sn:r≠[]->a.seen=true
 tx:Tx k m d a
inductive Dry (k:Nat) (d:Str) (a a1:W):Prop
 | mk (f:Fl a a1) (ts:tL) (o:a1=⟨ts.map .str,[],a.dl,a.nl,a.n0,a.pres,a.seen,a.done,a.ign⟩) (e:jnT ts=d) (l:ts.length<=k)
theorem W.same (a:W) (h:a.data=[]):a=⟨a.out,[],a.dl,a.nl,a.n0,a.pres,a.seen,a.done,a.ign⟩:=by rw[<-h]
theorem Tx.dry {k m:Nat} {d:Str} {a:W} (h:Tx k m d a) (hk:k<=2000) (hm:m<=2000):∃a1,Dry (k+1) d a a1:=by
 obtain⟨ts,ds,o,q,e,lo,ld,h,sn⟩:=h
 cases ds with
 | nil=>
  rw[w1z,q2n]at e
  refine⟨a,.no q,ts,?_,e,Nat.le_succ_of_le lo⟩
  rw[<-o]
  exact W.same a q
 | cons t ds=>
  have hs:((t::ds).map (·.length)).sum<=(t::ds).length * 1:=k8k (·.length) 1 (t::ds) λ t ht=>h t ht▸jZ 1
  have hb:(t::ds).length * 1<=5000:=jH (Nat.mul_le_mul_right 1 (jH ld hm)) tA
  have hp:((jnT (t::ds)).length !=0)=true:=by
   rw[k0p,List.map_cons,List.sum_cons,bne_iff_ne,h t (zL ..),show tS.length=1 from rfl,Nat.add_comm]
   exact Nat.succ_ne_zero _
  refine⟨(a.wd []).wo (a.out++[.str (escC (jnT (t::ds)))]),.yes (t::ds) (by rw[q];exact q1w _) (by rw[q];exact List.cons_ne_nil _ _) (jH hs hb) (by rw[k0p];exact jH hs hb) hp (sn (List.cons_ne_nil _ _)) (by rw[o,zH];exact jJ (jH lo hk) tA),ts++[escC (jnT (t::ds))],?_,?_,?_⟩
  ·rw[List.map_append,<-o];rfl
  ·rw[q7k,q7l,e]
  ·rw[zI];exact Nat.add_le_add_right lo 1
theorem Tx.new {k:Nat} {ts:tL} {d:Str} {a:W} (o:a.out=ts.map .str) (q:a.data=[]) (e:jnT ts=d) (l:ts.length<=k) (m:Nat):Tx k m d a:=
 ⟨ts,[],o,q,by rw[w1z,q2n,e],l,Nat.zero_le _,(λ J h=>absurd h List.not_mem_nil),λ h=>absurd rfl h⟩
theorem Wi.dry {c k m:Nat} {x:Store} {r:List Ent} {d:Str} {P:tL} {a a1:W} (h:Wi c k m x r d P a) (D:Dry (k+1) d a a1):Wi c (k+1) m x r d P a1:=by
 obtain⟨f,ts,o,e,l⟩:=D
 subst o
 exact⟨h.lv,h.nv,h.pres,h.sn,.new rfl rfl e l m⟩
theorem Wi.keep {c k m:Nat} {x x':Store} {r:List Ent} {d:Str} {P:tL} {a:W} (h:Wi c k m x r d P a) (k1:w7e a.n0 a.n0 x x' a.dl) (k2:w7e a.n0 a.n0 x x' a.nl):Wi c k m x' r d P a:=
 ⟨let ⟨D,hD⟩:=h.lv;⟨D,hD.keep λ v hv=>k1 v (List.mem_reverse.mp hv)⟩,h.nv.keep λ v hv=>k2 v (List.mem_reverse.mp hv),h.pres,h.sn,h.tx⟩
theorem Wi.grow {c k m:Nat} {x:Store} {r:List Ent} {d:Str} {P:tL} {a:W} (h:Wi c k m x r d P a) (y:Store):Wi c k m (x++y) r d P a:=h.keep (q8r _ _ _ _) (q8r _ _ _ _)
theorem Wi.le {c k m k' m':Nat} {x:Store} {r:List Ent} {d:Str} {P:tL} {a:W} (h:Wi c k m x r d P a) (hk:k<=k') (hm:m<=m'):Wi c k' m' x r d P a:=⟨h.lv,h.nv,h.pres,h.sn,h.tx.le hk hm⟩
theorem q4k {a b:Nat} (h:AV.loc a=AV.loc b):a=b:=by injection h
theorem v3t {a b:tW} (h:AObj.list a=AObj.list b):a=b:=by injection h
set_option tactic.hygienic true in theorem w4c {n0:tW} {x:Store} {j:Nat} {o:AObj} {d:tW} (h:AV.loc (j+12)∉d):w7e n0 n0 x (x.set j o) d:=λ v hv L e=>by
 induction v using AV.casesOn with
 | fl xs=>exact e
 | loc l=>
  have e:lvN .t n0 x l=some L:=e
  show lvN .t n0 (x.set j o) l=some L
  unfold lvN at e ⊢
  split
  ·rename_i q;rw[if_pos q]at e;exact e
  ·rename_i q
   rw[if_neg q]at e
   split
   ·rename_i q;rw[if_pos q]at e;exact e
   ·rename_i q
    rw[if_neg q]at e
    refine q0k e λ q e=>?_
    rw[if_pos q]
    have hne:j≠l - bA .t:=λ z=>h (by rw[z,show l - bA .t+12=l from Nat.sub_add_cancel q];exact hv)
    exact q1q (by rw[List.getElem?_set_ne hne];exact q6m e)
 | _=>exact nope e
theorem j3e {n0 n0':tW} {x:Store} {d:tW} (h:AV.loc 9∉d):w7e n0 n0' x x d:=λ v hv L e=>by
 induction v using AV.casesOn with
 | fl xs=>exact e
 | loc l=>
  have q:l≠n0A .t:=λ z=>h (show AV.loc 9∈d from(show l=9 from z)▸hv)
  have e:lvN .t n0 x l=some L:=e
  show lvN .t n0' x l=some L
  unfold lvN at e ⊢
  rw[if_neg q]at e ⊢
  exact e
 | _=>exact nope e
structure Sp (x:Store) (js:List Nat) (a:W):Prop where
 f:∀v∈a.nl,v∉a.dl
 n:a.nl.Nodup
 t:∀j∈js,AV.loc (j+12)∉a.nl
 s:∀v∈a.nl,v = .loc 9\/∃j,v = .loc (j+12)/\j<x.length
 d:∀v∈a.dl,∃b,v = .loc b/\b<x.length+12
structure Td (c k m:Nat) (x:Store) (r:List Ent) (d:Str) (P:tL) (a:W) (T:tL) (x':Store) (P':tL) (a':W):Prop where
 w:Wi c k m x' r d P' a'
 g:a'.ign=0
 dl:a'.dl=a.dl
 nl:a'.nl=a.nl
 xl:x'.length=x.length
 kp:∀j o,x[j]? = some o->AV.loc (j+12)∉a.nl->x'[j]? = some o
 ht:∀u∈T,u∈P'
 hs:∀u∈P,u∈P'
 hl:P'.length=P.length+T.length
inductive j9c (n c k m:Nat) (pr:tC) (pa:tW) (x:Store) (r:List Ent) (d:Str) (P:tL) (a:W) (u:Str):Prop
 | mk (x':Store) (P':tL) (a':W) (e:Dn (n+3) 113 [.obj 4,.str (px c u),.str u] [] (Bw pr pa x .t a)=some (.none,Bw pr pa x' .t a')) (h:Td c (k+1) m x r d P a [u] x' P' a')
theorem j7c {x:Store} {c:Nat} {r:List Ent} {P:tL} {n0:tW} {l:tW} (h:Nvs c n0 x l.reverse r P):∃N v,l=N++[v]/\l.reverse=v::N.reverse:=by
 have hl:=h.len
 rw[List.length_reverse]at hl
 have hne:l≠[]:=λ z=>by rw[z]at hl;exact absurd hl (Nat.succ_ne_zero _).symm
 refine⟨_,_,(List.dropLast_concat_getLast hne).symm,?_⟩
 have e:=congrArg List.reverse (List.dropLast_concat_getLast hne)
 rw[List.reverse_append]at e
 exact e.symm
theorem Nvs.top {c:Nat} {n0:tW} {x:Store} {v:AV} {ds:tW} {r:List Ent} {P:tL} (h:Nvs c n0 x (v::ds) r P):∃L,lvA .t n0 x v=some ((prs c L).map q0a)/\L.length<=P.length:=by
 cases h with
 | one h _=>exact⟨_,h,jZ _⟩
 | cons h _ _ _=>exact⟨_,h,by rw[zI];exact zC _ _⟩
section
variable (n:Nat) (pr:tC) (pa:tW) (x:Store) (a:W)
theorem j8g (H:Wi c k m x r d P a) (hg:a.ign=0) (S:Sp x js a) (hk:k<=2000) (hm:m<=2000) (hP:P.length<=3000) (hu:u∈ownS):j9c n c k m pr pa x r d P a u:=by
 obtain⟨a1,D0⟩:=H.tx.dry hk hm
 have H1:=H.dry D0
 obtain⟨f,ts,o,et,lt⟩:=D0
 have hn1:a1.nl=a.nl:=by rw[o]
 have hd1:a1.dl=a.dl:=by rw[o]
 have hz1:a1.n0=a.n0:=by rw[o]
 have hg1:a1.ign=0:=by rw[o];exact hg
 clear o
 have hnv:=H1.nv
 rw[hn1]at hnv
 obtain⟨N,v,en,er⟩:=j7c hnv
 rw[er]at hnv
 have hv:v∈a.nl:=en▸List.mem_append_right _ (zL ..)
 have hN:v∉N:=λ q=>(List.nodup_append.mp (en▸S.n)).2.2 v q v (zL ..) rfl
 have hf:=S.f v hv
 obtain⟨L,hB,hL⟩:=hnv.top
 have hBz:((prs c L).map q0a).length<100000:=by rw[zH,zH];exact jJ (jH hL hP) tA
 generalize (prs c L).map q0a=B at hB hBz
 have fin:∀(x':Store) (n0':tW),w7e a1.n0 n0' x x' a.dl->w7e a1.n0 n0' x x' N->lvA .t n0' x' v=some (B++[q0a (u,px c u)])->x'.length=x.length->(∀j o,x[j]? = some o->AV.loc (j+12)∉a.nl->x'[j]? = some o)->
   ∃P',Td c (k+1) m x r d P a [u] x' P' (a1.wz n0'):=λ x' n0' k1 k2 hb hl hkp=>by
  obtain⟨P',p1,p2,p3,p4⟩:=hnv.tell hu (λ z hz=>k2 z (List.mem_reverse.mp hz)) (λ B' hB'=>by rw[<-zE (hB.symm.trans hB')];exact hb)
  obtain⟨D,hD⟩:=H1.lv
  obtain⟨ts,ds,o,q,e,lo,ld,h,sn⟩:=H1.tx
  exact⟨P',⟨⟨D,hD.keep λ z hz=>k1 z (hd1▸List.mem_reverse.mp hz)⟩,by rw[show(a1.wz n0').nl=a.nl from hn1,er];exact p1,H1.pres,H1.sn,⟨ts,ds,o,q,e,lo,ld,h,sn⟩⟩,hg1,hd1,hn1,hl,hkp,λ z hz=>zF hz▸p2,p3,p4⟩
 rcases S.s v hv with e1|⟨j,e1,hj⟩
 ·subst e1
  have hb:B=a1.n0:=(zE (show some a1.n0=some B from hB)).symm
  have e:=j1e n pr pa x .t a (p:=px c u) (u:=u) f hg (N:=N) (l:=9) (B:=a1.n0) (hn1.trans en) rfl (hb▸hBz)
  obtain⟨P',t⟩:=fin x (a1.n0++[q0a (u,px c u)]) (j3e hf) (j3e hN) (by rw[hb];rfl) rfl λ J J h J=>h
  exact⟨x,P',a1.wz (a1.n0++[q0a (u,px c u)]),e,t⟩
 ·subst e1
  have hB':q1f x j=some B:=(lv_x ..).symm.trans hB
  have e:=j1e n pr pa x .t a (p:=px c u) (u:=u) f hg (N:=N) (l:=j+12) (B:=B) (hn1.trans en) ((x_at pr pa x a1 j .t).trans (q6m hB')) hBz
  obtain⟨P',t⟩:=fin (x.set j (.list (B++[q0a (u,px c u)]))) a1.n0 (w4c hf) (w4c hN) ((lv_x ..).trans (q1q (by rw[List.getElem?_set_self hj]))) (List.length_set ..) λ j' o h hne=>by
   rw[List.getElem?_set_ne λ(q:j=j')=>hne (q▸hv)];exact h
  exact⟨_,P',a1.wz a1.n0,e,t⟩
end
def hpx (h:Bool) (c j:Nat):Str:=if h=true then tF "z" else px c (ow j)
theorem k4e {C:q0b} {a:Addr} {o v w:AV} {m:Res} {k:Store->Res} {Z Z':Store} {y:AV} (h:m=some (v,Z)) (h2:k Z=some (w,Z)) (h3:C a [o,v,w] [] Z=some (y,Z')):cal2 C (.fn a o) m k=some (y,Z'):=by
 rw[h]
 show bnd (bnd (evC (k Z) λ s=>some ([],s)) λ xs s=>some (v::xs,s)) _=_
 rw[h2]
 exact h3
theorem j7b {Z:Store} (b:Bool) (u:Str) (L M:tL):(orT (some (b,Z)) λ s=>orT (andT (cmpT s .In (.str u) (.fl (L.map .str))) λ s=>andT (cmpT s .NotIn (.str u) (.fl (M.map .str))) λ s=>some (true,s)) λ s=>some (false,s))=some (b||(L.contains u&&!M.contains u),Z):=by
 cases b with
 | true=>rfl
 | false=>
  show(orT (andT (cmpT Z .In (.str u) (.fl (L.map .str))) λ s=>andT (cmpT s .NotIn (.str u) (.fl (M.map .str))) λ s=>some (true,s)) λ s=>some (false,s))=_
  rw[v5a]
  cases L.contains u with
  | false=>rfl
  | true=>rw[k3q,j3m];cases M.contains u<;>rfl
abbrev vW (v:Lo) (h:Bool) (l:Nat) (r:Int) (L M:tL):Lo:=((((v.s_hidden (some (.bool h))).s_told (some (.loc l))).s_rest (some (.int r))).s_needs (some (.fl (L.map .str)))).s_scope (some (.fl (M.map .str)))
section
variable (n:Nat) (G:Fx) (v:Lo) (pa:tW) {x x':Store} {a a':W} {c j j0:Nat} {h:Bool} {T:tL}
theorem v4g (hc:c<8) (hj:j<4) (ht:x[j0]? = some (.list (T.map .str))) (hz:T.length<=4) (hv:v=((v.s_k (some (.int (j:Int)))).s_told (some (.loc (j0+12)))).s_hidden (some (.bool h)))
  (e:Dn (n+3) 113 [.obj 4,.str (hpx h c j),.str (ow j)] [] (Bw (prD c) pa (x.set j0 (.list ((T++[ow j]).map .str))) .t a)=some (.none,Bw (prD c) pa x' .t a')) :
  q8g (Dn (n+3)) (vM G v) (Bw (prD c) pa x .t a)=some (.next,vM G v,Bw (prD c) pa x' .t a'):=by
 have h2:(Bw (prD c) pa x .t a)[j0+12]? = some (.list (T.map .str)):=(x_at (prD c) pa x a j0 .t).trans ht
 have h3:=z9p (v:=.str (ow j)) h2 (by rw[zH];exact jJ hz tA)
 have h4:∀o,(Bw (prD c) pa x .t a).set (j0+12) o=Bw (prD c) pa (x.set j0 o) .t a:=λ o=>j2f (prD c) pa x a j0 o .t
 rw[h4,show T.map AV.str++[.str (ow j)]=(T++[ow j]).map .str from k0u AV.str T (ow j)]at h3
 have e0:q7a (Dn (n+3)) (vM G v) (Bw (prD c) pa x .t a)=some (.next,vM G v,Bw (prD c) pa (x.set j0 (.list ((T++[ow j]).map .str))) .t a):=by
  rw[hv]
  exact(b2_0 (Dn (n+3)) G (v.s_hidden (some (.bool h))) (j0+12) j).trans (es_n (stb (k0v h2) (λ m=>cal (Dn (n+3)) m (getR (Bw (prD c) pa x .t a) (.fl ownL) (.int (j:Int)))) rfl |>.trans (q4x (getO hj _) h3)))
 rw[v4f,e0,q0p]
 have e1:(bnd (some (h,Bw (prD c) pa (x.set j0 (.list ((T++[ow j]).map .str))) .t a)) λ c s=>if c=true then some (.str (tF "z"),s)else bnd (getR s (.fl ownL) (.int (j:Int))) λ y s=>getR s (.loc 1) y)=some (.str (hpx h c j),Bw (prD c) pa (x.set j0 (.list ((T++[ow j]).map .str))) .t a):=by
  cases h with
  | true=>rfl
  | false=>exact k2b (f:=λ c (j:Nat)=>bnd (getR (Bw (prD c) pa (x.set j0 (.list ((T++[ow j]).map .str))) .t a) (.fl ownL) (.int (j:Int))) λ y s=>getR s (.loc 1) y) (g:=λ c j=>some (.str (px c (ow j)),Bw (prD c) pa (x.set j0 (.list ((T++[ow j]).map .str))) .t a)) 8 4 (nr tK) hc hj
 have e2:q7b (Dn (n+3)) (vM G v) (Bw (prD c) pa (x.set j0 (.list ((T++[ow j]).map .str))) .t a)=some (.next,vM G v,Bw (prD c) pa x' .t a'):=by
  rw[hv]
  exact(b2_1 (Dn (n+3)) G (v.s_told (some (.loc (j0+12)))) (prD c) pa (x.set j0 (.list ((T++[ow j]).map .str))) a h j).trans (es_n (k4e e1 (getO hj _) e))
 rw[e2,q0p]
end
section
variable {n:Nat} {G:Fx} {pa:tW} {c j0:Nat} {h:Bool} {r:Int} {L M:tL} {Q:Store->W->List Str->Prop}
inductive Tells (G:Fx) (v:Lo) (pa:tW) (c j0:Nat) (h:Bool) (r:Int) (L M:tL) (Q:Store->W->List Str->Prop) (j:Nat) (T:tL) (m:ResS):Prop
 | mk (k':Option AV) (x':Store) (a':W) (T':tL) (e:m=some (.next,vM G (vW (v.s_k k') h (j0+12) r L M),Bw (prD c) pa x' .t a')) (q:Q x' a' T') (hT:∀i,j<=i->i<4->ow i∈L->ow i∈M\/ow i∈T') (hl:T'.length<=4) (hs:∀u∈T,u∈T')
theorem tells (hc:c<8) (hQ:∀{x a T},Q x a T->x[j0]? = some (.list (T.map .str)))
  (hS:∀{x a T j},j<4->T.length<=4->Q x a T->Ex2 λ x' a'=>Dn (n+3) 113 [.obj 4,.str (hpx h c j),.str (ow j)] [] (Bw (prD c) pa (x.set j0 (.list ((T++[ow j]).map .str))) .t a)=some (.none,Bw (prD c) pa x' .t a')/\Q x' a' (T++[ow j])) :
  ∀(cnt j:Nat) (v:Lo) {x:Store} {a:W} {T:tL},Q x a T->T.length<=j->j+cnt=4->
  Tells G v pa c j0 h r L M Q j T (forA (q5z (Dn (n+3))) ((List.range' j cnt).map λ(k:Nat)=>AV.int (k:Int)) (vM G (vW v h (j0+12) r L M)) (Bw (prD c) pa x .t a))
 | 0,j,v,x,a,T,q,hl,hj=>⟨v.k,x,a,T,rfl,q,λ i h1 h2=>absurd (jK h2 (zA hj.symm)) (Nat.not_lt.mpr h1),jH hl (zA hj),λ J h=>h⟩
 | cnt+1,j,v,x,a,T,q,hl,hj=>by
  have hj4:j<4:=hj▸Nat.lt_add_of_pos_right (Nat.succ_pos cnt)
  have hj':j+1+cnt=4:=(Nat.add_right_comm j 1 cnt).trans hj
  have e0:=v4i (Dn (n+3)) G ((v.s_hidden (some (.bool h))).s_told (some (.loc (j0+12)))) (L.map .str) (M.map .str) (Z:=Bw (prD c) pa x .t a) r hj4
  rw[j7b]at e0
  rw[List.range'_succ,List.map_cons]
  generalize decide (((r.fdiv 48).fdiv ((2 ^ j:Nat):Int)).fmod 2=1)=b at e0
  by_cases z:(b||(L.contains (ow j)&&!M.contains (ow j)))=true
  ·obtain⟨x',a',e1,q'⟩:=hS hj4 (jH hl (zB hj4)) q
   have e2:=v4g n G (vT' ((v.s_hidden (some (.bool h))).s_told (some (.loc (j0+12)))) r j (L.map .str) (M.map .str)) pa hc hj4 (hQ q) (jH hl (zB hj4)) rfl e1
   obtain⟨k',x2,a2,T2,e3,q2,hT,hl2,hs⟩:=tells hc hQ hS cnt (j+1) (v.s_k (some (.int (j:Int)))) q' (by rw[zI];exact Nat.succ_le_succ hl) hj'
   refine⟨k',x2,a2,T2,(stq (stq ((w5d (by rw[z])).trans e2) _ e0) _ rfl).trans e3,q2,λ i h1 h2 h3=>?_,hl2,λ u hu=>hs u (List.mem_append_left _ hu)⟩
   rcases Nat.lt_or_eq_of_le h1 with h1|rfl
   ·exact hT i h1 h2 h3
   ·exact .inr (hs _ (List.mem_append_right _ (zL ..)))
  ·have z:=Bool.eq_false_iff.mpr z
   obtain⟨k',x2,a2,T2,e3,q2,hT,hl2,hs⟩:=tells hc hQ hS cnt (j+1) (v.s_k (some (.int (j:Int)))) q (Nat.le_succ_of_le hl) hj'
   refine⟨k',x2,a2,T2,(stq (stq (w3r (by rw[z])) _ e0) _ rfl).trans e3,q2,λ i h1 h2 h3=>?_,hl2,hs⟩
   rcases Nat.lt_or_eq_of_le h1 with h1|rfl
   ·exact hT i h1 h2 h3
   ·rw[List.contains_iff_mem.mpr h3]at z
    by_cases q:ow j∈M
    ·exact .inl q
    ·rw[Bool.eq_false_iff.mpr λ y=>q (List.contains_iff_mem.mp y)]at z
     exact absurd z (by cases b<;>decide)
end
theorem v5t {α:Type} {O:KeyOrd} {ko:α->O.α} {le:α->α->Bool} (hle:∀a b,le a b = !O.blt (ko b) (ko a)) (xs:List α):(xs.mergeSort le).Pairwise λ a b=>le a b=true:=by
 have k:∀a b,le a b=true↔O.kle (ko a) (ko b):=λ a b=>by rw[hle,Bool.not_eq_true'];rfl
 refine List.pairwise_mergeSort (λ a b c h1 h2=>(k a c).mpr (KeyOrd.kle_trans ((k a b).mp h1) ((k b c).mp h2))) (λ a b=>?_) xs
 rw[hle,hle]
 cases q:O.blt (ko b) (ko a)with
 | false=>rfl
 | true=>rw[k3u (O:=O) q];rfl
theorem z2s (xs:tL):(q3r xs).Pairwise λ a b=>decide (a.cps.toList<=b.cps.toList)=true:=v5t (O:=q0n) (ko:=q1p) (λ a b=>(q4m _ _).symm) xs
theorem k1l {xs ys:tL} (h:xs.Perm ys):q3r xs=q3r ys:=w4f (O:=q0n) (ko:=q1p) (λ a b=>(q4m _ _).symm) q3j ((q0y xs).trans h) (z2s xs)
theorem k1k {rs xs:tE} (hp:rs.Perm xs) (hs:rs.Pairwise λ a b=>w3b a b=true):rs=q2d xs:=w4f w9z z5c hp hs
theorem z9i:∀{kvs:tE},(kvs.map (·.1)).Nodup->∀kv∈kvs,vOf kv.1 kvs=kv.2
 | (a,v)::r,h,kv,hm=>by
  obtain⟨h1,h2⟩:=List.nodup_cons.mp h
  show(if a=kv.1 then v else vOf kv.1 r)=_
  rcases List.mem_cons.mp hm with rfl|hm
  ·exact if_pos rfl
  ·rw[if_neg λ e=>h1 (List.mem_map.mpr ⟨kv,hm,e.symm⟩)]
   exact z9i h2 kv hm
theorem w3z (k:Str):∀kvs:List (Str×Str),k∈kvs.map (·.1)->q1i k (kvs.map q0g)=some (.str (vOf k kvs))/\(k,vOf k kvs)∈kvs
 | (a,v)::r,h=>by
  show(if a=k then some (AV.str v)else q1i k (r.map q0g))=some (.str (if a=k then v else vOf k r))/\(k,if a=k then v else vOf k r)∈_
  by_cases e:a=k
  ·rw[if_pos e,if_pos e,e];exact⟨rfl,zL ..⟩
  ·obtain⟨h1,h2⟩:=w3z k r ((List.mem_cons.mp h).resolve_left λ q=>e q.symm)
   rw[if_neg e,if_neg e,h1];exact⟨rfl,zG _ h2⟩
def newP (c:Nat) (us ab:tL):List Str:=q3r (((q0o [] us).filter λ u=>!ab.contains u).map (px c))
theorem v2q {c:Nat} (hc:c<8) (pa:tW) (x:Store) (a:W) {u:Str} (hu:u∈q9e):getR (Bw (prD c) pa x .t a) (.loc 1) (.str u)=some (.str (px c u),Bw (prD c) pa x .t a):=
 List.map_inj_left.mp (forN (f:=λ c=>q9e.map λ u=>getR (Bw (prD c) pa x .t a) (.loc 1) (.str u)) (g:=λ c=>q9e.map λ u=>some (.str (px c u),Bw (prD c) pa x .t a)) 8 (nr tK) hc) u hu
theorem z3p {Z:Store} {A:Nat} {kvs:tC} (h:Z[A]? = some (.dict kvs)):q0l Z (.loc A)=some kvs/\q0i Z (.loc A)=none:=by
 constructor
 ·show(match Z[A]? with|some (.dict kvs)=>some kvs|_=>none)=_
  rw[h]
 ·show(match Z[A]? with|some (.list xs)=>some xs|_=>none)=_
  rw[h]
section
variable (n:Nat) (C:q0b) (G:Fx) (v:Lo) (pa:tW) (x:Store) (a:W) {Z:Store} {A:Nat} {kvs:tE}
theorem j9q (hd:q0l Z (.loc A)=some (kvs.map q0g)) (h3:kvs.length<=3):q6y C (vM G (v.s_attrs (some (.loc A)))) Z=some (.next,vM G ((v.s_attrs (some (.loc A))).s_given (some (fdK kvs))),Z):=by
 rw[b_7]
 refine q4v (w1v rfl ?_)
 show((q0l Z (.loc A)).bind λ kvs=>if kvs.length<=15 then some (AV.fd (kvs.map (·.1)) (kvs.map (·.2)),Z)else none)=_
 rw[hd]
 exact if_pos (by rw[zH];exact jH h3 tA)
theorem k5i:∀r:List (Str×Str),(∀kv∈r,q1i kv.1 (kvs.map q0g)=some (.str kv.2))->eqDs (kvs.map q0g) (r.map q0g)=some true
 | [],_=>rfl
 | kv::r,h=>by
  show optC (q1i kv.1 (kvs.map q0g)) (λ y=>(k0b (.str kv.2) y).bind λ a=>(eqDs (kvs.map q0g) (r.map q0g)).map λ b=>a&&b) (some false)=_
  rw[h kv (zL ..),k5i r λ z hz=>h z (zG _ hz)]
  show some (decide (kv.2=kv.2)&&true)=_
  rw[decide_eq_true rfl];rfl
theorem j9r (hA:At kvs) (hd:Z[A]? = some (.dict (kvs.map q0g))):q3e C (vM G ((v.s_attrs (some (.loc A))).s_given (some (fdK kvs)))) Z=some (.next,vM G ((v.s_attrs (some (.loc A))).s_given (some (fdK kvs))),Z):=by
 refine(b_9 C G v A ((kvs.map q0g).map (·.2)) ((kvs.map q0g).map (·.1))).trans (w3r ?_)
 have e:eqA Z (fdK kvs) (.loc A)=some true:=by
  show optC (q0i Z (.loc A)) _ ((q0l Z (fdK kvs)).bind λ ka=>(q0l Z (.loc A)).bind λ kb=>if ka.length=kb.length then eqDs kb ka else some false)=_
  rw[(z3p hd).1,(z3p hd).2,fd_d]
  refine(if_pos rfl).trans (k5i kvs λ kv hm=>?_)
  rw[(w3z kv.1 kvs (List.mem_map_of_mem hm)).1,z9i hA.n kv hm]
 show((eqA Z (fdK kvs) (.loc A)).map (!·)).bind _=_
 rw[e];rfl
theorem j4w (hc:c<8) (us ab:tL) (hus:∀u∈us,u∈q9e) (hz:us.length<=4):q1t C (vM G ((v.s_used (some (.fl (us.map .str)))).s_above (some (.fl (ab.map .str))))) (Bw (prD c) pa x .t a)
  = some (.next,vM G (((v.s_used (some (.fl (us.map .str)))).s_above (some (.fl (ab.map .str)))).s_new (some (.fl ((newP c us ab).map .str)))),Bw (prD c) pa x .t a):=by
 have e0:calA C (.bf .set) (some (.fl (us.map AV.str),Bw (prD c) pa x .t a))=some (.ws (q0o [] us),Bw (prD c) pa x .t a):=w1v rfl (by
  show((q0z (us.map AV.str)).bind λ ts=>if ts.length<=100 then some (AV.ws (q0o [] ts),Bw (prD c) pa x .t a)else none)=_
  rw[q1w]
  exact if_pos (jH hz tA))
 have hl:(q0o [] us).length<=4:=jH (jH (q4e us []) (zA (Nat.zero_add _))) hz
 have hm:=(q4g us [] List.nodup_nil).2
 have ep:=b_13 C G (v.s_above (some (.fl (ab.map .str)))) (L:=us.map .str) (Z:=Bw (prD c) pa x .t a)
 rw[e0,q0c]at ep
 refine ep.trans (q4v ?_)
 refine(stb (show wsV (AV.ws (q0o [] us))=some (q0o [] us)from rfl) _ rfl).trans ?_
 refine j1i λ p hp=>?_
 obtain⟨V',_,e⟩:=z1b (Z:=Bw (prD c) pa x .t a) (V:=vM G ((v.s_above (some (.fl (ab.map .str)))).s_used (some (.fl (us.map .str))))) (f:=q8v C) (v:=.fl (p.map .str)) (us:=p) (p:=λ u=>!ab.contains u) (g:=λ u=>.str (px c u)) rfl (by rw[hp.length_eq];exact jJ hl tA) λ u mx o0 o1 hu hz=>by
  have e1:=c_13 C G (v.s_used (some (.fl (us.map .str)))) u (ab.map .str) (Z:=Bw (prD c) pa x .t a) o0 o1 mx
  rw[j3m]at e1
  exact e1.trans (z8a (m:=λ s=>getR s (.loc 1) (.str u)) (v2q hc pa x a (hus u (((hm u).mp (hp.mem_iff.mp hu)).resolve_left List.not_mem_nil))) hz)
 refine⟨V',(p.filter λ u=>!ab.contains u).map (px c),?_,?_,k1l ((hp.filter _).map _)⟩
 ·show(if(!goN (.fl (p.map AV.str)))=true then none else _)=_
  rw[show(!goN (.fl (p.map AV.str)))=false from rfl,if_neg Bool.false_ne_true,List.map_map]
  exact e
 ·rw[zH]
  exact jJ (List.length_filter_le ..) (by rw[hp.length_eq];exact jJ hl tA)
theorem j4x {ps:List Ent} {us tl:tL} {j:Nat} (hz:ps.length<=1000):q1k C (vM G (((v.s_tag (sS q)).s_used (some (.fl (us.map .str)))).s_told (some (.loc (j+12))))) (Bw (prD c) (ps.map entV) x .t a)
  = some (.next,vM G (((v.s_tag (sS q)).s_used (some (.fl (us.map .str)))).s_told (some (.loc (j+12)))),Bw (prD c) ((ps++[(⟨q,us,j,tl⟩:Ent)]).map entV) x .t a):=by
 have e:∀v pa,biA .lAppend [.loc 3,v] (Bw (prD c) pa x .t a)=if pa.length<sizeLine then some (.none,Bw (prD c) (pa++[v]) x .t a)else none:=λ v pa=>nr tK
 rw[b_14,List.map_append]
 exact es_n (q4x rfl ((e (entV (⟨q,us,j,tl⟩:Ent)) (ps.map entV)).trans (if_pos (few (by rw[zH];exact jJ hz tA)))))
end
theorem addB {x y:Str} {m k:Nat} {Z:Store} (hx:x.length<=m) (hy:y.length<=k) (h:m+k<=10000000):binR Z .Add (.str x) (.str y)=some (.str (x++y),Z):=add_str (jH (zD hx hy) h)
theorem j3s:(∀u∈q9e,(rp u).length<=100/\u.length<=50/\escA u=rp u)/\∀j<3,(rp (vS' j)).length<=100:=by decide +kernel
theorem j3r {u:Str} {Z:Store} (h:u.length<=50):k7m (.str u) (some bad) (some q9k) Z=some (.str (rp u),Z):=if_pos ⟨by decide,by
 rw[sizeLine_eq,show q9k.length=21 from rfl];exact jH (zD h (Nat.mul_le_mul_right 21 (Nat.succ_le_succ h))) tA⟩
def L5:List Str:=ownS++[xsS]
def uP (c:Nat) (p:Str):Str:=(L5.filter λ u=>decide (px c u=p)).headD Str.empty
theorem k3j:∀c<8,∀u∈L5,uP c (px c u)=u:=by decide +kernel
theorem L5_U:∀u∈L5,u∈q9e:=by decide +kernel
theorem j9d {u:Str} (h:u∈U6) (h2:u≠xmlS):u∈L5:=(j2j u h).elim (λ e=>List.mem_append_right _ (List.mem_singleton.mpr e)) λ h=>h.elim (λ e=>absurd e h2) (List.mem_append_left _)
noncomputable def pc (p:Str):Str:=if(!decide (p=tF ""))=true then tF ":"++p else tF ""
def nsD (c:Nat) (p:Str):Str:=tF " xmlns"++pc p++tF "=\""++rp (uP c p)++tF "\""
def atD (c:Nat) (kvs:tE) (k:Str):Str:=tF " "++Fo c k++tF "=\""++rp (vOf k kvs)++tF "\""
def incD (c:Nat) (q:Str) (L ks:tL) (kvs:tE):Str:=lt1++Fo c q++jnT (L.map (nsD c))++jnT (ks.map (atD c kvs))++gt1
theorem l_lt:lt1.length<=1:=jZ 1
theorem l_ns:(tF " xmlns").length<=6:=jZ 6
theorem z3e {c:Nat} (hc:c<8) {q:Str} (h:IsK q):(Fo c q).length<=10:=by
 have h1:=j7j c hc _ (Uo_U h)
 obtain⟨k,hk,rfl⟩:=h
 have h2:=(j6l k hk).2.1
 rw[<-To_k hk]at h2
 exact jH (v2n _ _) (by rw[h2];exact jH (Nat.add_le_add_right (Nat.succ_le_succ h1) 1) tA)
theorem w1t {V:Vs} {d t:Str} {m:Res} {Z:Store} (h:m=some (.str t,Z)) (hz:d.length+t.length<=10000000):aug V d m=some (.next,setI V 14 (.str (d++t)),Z):=by
 rw[h]
 exact stb (show augA .Add (.str d) (.str t)=some (.str (d++t))from by show(catA d t).map AV.str=_;rw[z9t hz];rfl) (λ z=>some (q1c.next,setI V 14 z,Z)) rfl
theorem gath {α:Type} {f:AV->Vs->Store->ResS} {G:Fx} {Z:Store} {g:Str->Str} {S:α->Option AV->Lo} {m:Nat}:∀(L:tL) (i:α) (d:Str),d.length+m * L.length<=9000000->
  (∀p∈L,(g p).length<=m/\∀i d,d.length<=9000000->∃i',f (.str p) (vM G (S i (sS d))) Z=some (.next,vM G (S i' (some (.str (d++g p)))),Z))->
  ∃i',forA f (L.map .str) (vM G (S i (sS d))) Z=some (.next,vM G (S i' (some (.str (d++jnT (L.map g))))),Z)/\(jnT (L.map g)).length<=m * L.length
 | [],i,d,_,_=>⟨i,by rw[List.map_nil,List.map_nil,z4e,q2n];rfl,Nat.zero_le _⟩
 | p::L,i,d,hz,hf=>by
  obtain⟨h1,h2⟩:=hf p (zL ..)
  rw[List.length_cons,Nat.mul_succ,Nat.add_comm (m * L.length),<-Nat.add_assoc]at hz
  obtain⟨i1,e1⟩:=h2 i d (jH (jH (zC _ _) (zC _ _)) hz)
  obtain⟨i2,e2,l2⟩:=gath L i1 (d++g p) (jH (Nat.add_le_add_right (catB (jZ _) h1) _) hz) λ r hr=>hf r (zG _ hr)
  have ej:jnT ((p::L).map g)=g p++jnT (L.map g):=(q7k [g p] (L.map g)).trans (by rw[q7l])
  refine⟨i2,(stq e1 (λ v s=>forA f (L.map .str) v s) rfl).trans (e2.trans ?_),?_⟩
  ·rw[ej,q2e]
  ·rw[ej,List.length_cons,Nat.mul_succ,Nat.add_comm (m * L.length)];exact catB h1 l2
section
variable (n:Nat) (G:Fx) (v:Lo) (pa:tW) (x:Store) (a:W)
theorem j7a (hc:c<8) (h:IsK q):Dn (n+2) 194 [.str q,.loc 1] [] (Bw (prD c) pa x .t a)=some (.str (Fo c q),Bw (prD c) pa x .t a):=by
 obtain⟨k,hk,rfl⟩:=h
 rw[Fo,Uo_k hk,To_k hk]
 exact v2a n hk pa x a hc
theorem j8l (hc:c<8) {u:Str} (hu:u∈L5):q5h C (vM G (v.s_prefi (some (.str (px c u))))) (Bw (prD c) pa x .t a)=some (.next,vM G ((v.s_prefi (some (.str (px c u)))).s_uri (sS u)),Bw (prD c) pa x .t a):=
 List.map_inj_left.mp (forN (f:=λ c=>L5.map λ u=>q5h C (vM G (v.s_prefi (some (.str (px c u))))) (Bw (prD c) pa x .t a)) (g:=λ c=>L5.map λ u=>some (.next,vM G ((v.s_prefi (some (.str (px c u)))).s_uri (sS u)),Bw (prD c) pa x .t a)) 8 (nr tK) hc) u hu
theorem z9m (hc:c<8) {u:Str} (hu:u∈L5) (hd:d.length<=9000000):(nsD c (px c u)).length<=150/\q6a C (.str (px c u)) (vM G (v.s_due (sS d))) (Bw (prD c) pa x .t a)
  = some (.next,vM G (((v.s_prefi (some (.str (px c u)))).s_uri (sS u)).s_due (some (.str (d++nsD c (px c u))))),Bw (prD c) pa x .t a):=by
 have hU:=L5_U u hu
 obtain⟨h1,h2,_⟩:=j3s.1 u hU
 have hp:=j7j c hc u hU
 have hq:(pc (px c u)).length<=4:=by
  unfold pc
  split
  ·exact jH (catB l_co hp) tA
  ·exact Nat.zero_le _
 have e0:(nsD c (px c u)).length<=150:=by
  unfold nsD;rw[k3j c hc u hu];exact jH (catB (catB (catB (catB l_ns hq) l_eq) h1) l_qu) tA
 refine⟨e0,?_⟩
 rw[v4j,j8l G (v.s_due (sS d)) pa x a hc hu,q0p]
 have ep:∀p:Str,p.length<=3->(bnd (some (!decide (p=tF ""),Bw (prD c) pa x .t a)) λ c s=>if c=true then binR s .Add (.str (tF ":")) (.str p)else some (.str (tF ""),s))=some (.str (pc p),Bw (prD c) pa x .t a):=λ p hp=>by
  rw[q0c,pc]
  cases (!decide (p=tF ""))with
  | true=>exact addB l_co hp tA
  | false=>rfl
 refine stq (V:=vM G (((v.s_prefi (some (.str (px c u)))).s_uri (sS u)).s_due (some (.str (d++nsD c (px c u)))))) ((j9m C G v (px c u) d (u:=u)).trans (w1t ?_ (jH (zD hd e0) tA))) (λ v s=>some (.next,v,s)) rfl
 rw[ep _ hp,q0c,addB l_ns hq tA,q0c,adds,addB (catB l_ns hq) l_eq tA,q0c,j3r h2,q0c,addB (catB (catB l_ns hq) l_eq) h1 tA,q0c,adds,addB (catB (catB (catB l_ns hq) l_eq) h1) l_qu tA,nsD,k3j c hc u hu]
theorem At.at {kvs:tE} (h:At kvs) {k:Str} (hk:k∈kvs.map (·.1)):IsK k/\(vOf k kvs).length<=40/\(rp (vOf k kvs)).length<=100/\escA (vOf k kvs)=rp (vOf k kvs):=by
 have h2:=(w3z k kvs hk).2
 obtain⟨j,hj,e⟩:=h.v _ h2
 rw[show vOf k kvs=vS' j from e]
 exact⟨h.k _ h2,(rp_v j hj).2,j3s.2 j hj,(rp_v j hj).1⟩
theorem z9n (hc:c<8) (hA:At kvs) (hd:q0l (Bw (prD c) pa x .t a) (.loc A)=some (kvs.map q0g)) {k:Str} (hk:k∈kvs.map (·.1)) (hz:d.length<=9000000):(atD c kvs k).length<=150/\
  q6b (Dn (n+2)) (.str k) (vM G ((v.s_attrs (some (.loc A))).s_due (sS d))) (Bw (prD c) pa x .t a)=some (.next,vM G (((v.s_key (sS k)).s_attrs (some (.loc A))).s_due (some (.str (d++atD c kvs k)))),Bw (prD c) pa x .t a):=by
 obtain⟨hi,h2,h3,_⟩:=hA.at hk
 have hf:=z3e hc hi
 have e0:(atD c kvs k).length<=150:=jH (catB (catB (catB (catB l_bl hf) l_eq) h3) l_qu) tA
 have eg:getR (Bw (prD c) pa x .t a) (.loc A) (.str k)=some (.str (vOf k kvs),Bw (prD c) pa x .t a):=by
  show((q0l (Bw (prD c) pa x .t a) (.loc A)).bind λ kvs=>q1i k kvs).bind _=_
  rw[hd]
  show(q1i k (kvs.map q0g)).bind _=_
  rw[(w3z k kvs hk).1];rfl
 refine⟨e0,(v4k (Dn (n+2)) G v k d A).trans (stq (V:=vM G (((v.s_key (sS k)).s_attrs (some (.loc A))).s_due (some (.str (d++atD c kvs k))))) (w1t ?_ (jH (zD hz e0) tA)) (λ v s=>some (.next,v,s)) rfl)⟩
 rw[j7a n pa x a hc hi,q0c,addB l_bl hf tA,q0c,adds,addB (catB l_bl hf) l_eq tA,q0c,eg,q0c,j3r (jH h2 tA),q0c,addB (catB (catB l_bl hf) l_eq) h3 tA,q0c,adds,addB (catB (catB (catB l_bl hf) l_eq) h3) l_qu tA,atD]
end
section
variable (n:Nat) (G:Fx) (pa:tW) (x:Store) (a:W) (k uri move rest ly told hidden lr mm needs scope lh lf ll:Option AV)
theorem v4h (hc:c<8) (hq:IsK q) (hA:At kvs) (hd:q0l (Bw (prD c) pa x .t a) (.loc A)=some (kvs.map q0g)) (hL:∀p∈L,∃u∈L5,p=px c u) (hLz:L.length<=4) (hk:∀k∈ks,k∈kvs.map (·.1)) (hkz:ks.length<=3) (hz:d.length<=8000000) :
  Ex3 λ(uri':Option AV) (key':Option AV) (prefi':Option AV)=>w6j (Dn (n+2)) (vM G ⟨k,uri,some (.str d),move,rest,some (.str q),ly,told,hidden,some (.loc A),lr,mm,needs,scope,lh,some (.fl (ks.map .str)),lf,some (.fl (L.map .str)),ll⟩) (Bw (prD c) pa x .t a)
   = some (.next,vM G ⟨k,uri',some (.str (d++incD c q L ks kvs)),move,rest,some (.str q),ly,told,hidden,some (.loc A),lr,key',needs,scope,lh,some (.fl (ks.map .str)),lf,some (.fl (L.map .str)),prefi'⟩,Bw (prD c) pa x .t a)/\(incD c q L ks kvs).length<=2000:=by
 have hf:=z3e hc hq
 have h1:(lt1++Fo c q).length<=1+10:=catB l_lt hf
 have ea:(bnd (Dn (n+2) 194 [.str q,.loc 1] [] (Bw (prD c) pa x .t a)) λ y s=>binR s .Add (.str lt1) y)=some (.str (lt1++Fo c q),Bw (prD c) pa x .t a):=by
  rw[j7a n pa x a hc hq,q0c]
  exact addB l_lt hf tA
 have e0:q9u (Dn (n+2)) (vM G ⟨k,uri,some (.str d),move,rest,some (.str q),ly,told,hidden,some (.loc A),lr,mm,needs,scope,lh,some (.fl (ks.map .str)),lf,some (.fl (L.map .str)),ll⟩) (Bw (prD c) pa x .t a)=some (.next,vM G ⟨k,uri,some (.str (d++(lt1++Fo c q))),move,rest,some (.str q),ly,told,hidden,some (.loc A),lr,mm,needs,scope,lh,some (.fl (ks.map .str)),lf,some (.fl (L.map .str)),ll⟩,Bw (prD c) pa x .t a):=
  (b4_0 (Dn (n+2)) G ⟨k,uri,none,move,rest,none,ly,told,hidden,some (.loc A),lr,mm,needs,scope,lh,some (.fl (ks.map .str)),lf,some (.fl (L.map .str)),ll⟩ q d).trans (w1t ea (jH (zD hz h1) tA))
 obtain⟨i1,e1,l1⟩:=gath (α:=Option AV×Option AV) (Z:=Bw (prD c) pa x .t a) (G:=G) (f:=q6a (Dn (n+2))) (g:=nsD c) (S:=λ i d=>⟨k,i.1,d,move,rest,some (.str q),ly,told,hidden,some (.loc A),lr,mm,needs,scope,lh,some (.fl (ks.map .str)),lf,some (.fl (L.map .str)),i.2⟩) (m:=150) L
  (uri,ll) (d++(lt1++Fo c q)) (jH (zD (catB hz h1) (zJ 150 hLz)) tA) λ p hp=>by
   obtain⟨u,hu,rfl⟩:=hL p hp
   exact⟨(z9m (C:=Dn (n+2)) G ⟨k,none,none,move,rest,some (.str q),ly,told,hidden,some (.loc A),lr,mm,needs,scope,lh,some (.fl (ks.map .str)),lf,some (.fl (L.map .str)),none⟩ pa x a (d:=Str.empty) hc hu (Nat.zero_le _)).1,λ i d hz=>
    ⟨(some (.str u),some (.str (px c u))),(z9m (C:=Dn (n+2)) G ⟨k,i.1,none,move,rest,some (.str q),ly,told,hidden,some (.loc A),lr,mm,needs,scope,lh,some (.fl (ks.map .str)),lf,some (.fl (L.map .str)),i.2⟩ pa x a hc hu hz).2⟩⟩
 have l1:=jH l1 (zJ 150 hLz)
 have l2:(d++(lt1++Fo c q)++jnT (L.map (nsD c))).length<=8000000+(1+10)+150 * 4:=catB (catB hz h1) l1
 obtain⟨i2,e2,l3⟩:=gath (α:=Option AV) (Z:=Bw (prD c) pa x .t a) (G:=G) (f:=q6b (Dn (n+2))) (g:=atD c kvs) (S:=λ i d=>⟨k,i1.1,d,move,rest,some (.str q),ly,told,hidden,some (.loc A),lr,i,needs,scope,lh,some (.fl (ks.map .str)),lf,some (.fl (L.map .str)),i1.2⟩) (m:=150) ks
  mm (d++(lt1++Fo c q)++jnT (L.map (nsD c))) (jH (zD l2 (zJ 150 hkz)) tA) λ p hp=>by
   exact⟨(z9n n G ⟨k,none,none,move,rest,none,ly,told,hidden,none,lr,none,needs,scope,lh,none,lf,none,none⟩ pa x a (d:=Str.empty) hc hA hd (hk p hp) (Nat.zero_le _)).1,λ i d hz=>
    ⟨some (.str p),(z9n n G ⟨k,i1.1,none,move,rest,some (.str q),ly,told,hidden,none,lr,i,needs,scope,lh,some (.fl (ks.map .str)),lf,some (.fl (L.map .str)),i1.2⟩ pa x a hc hA hd (hk p hp) hz).2⟩⟩
 have l3:=jH l3 (zJ 150 hkz)
 have e3:d++incD c q L ks kvs=d++(lt1++Fo c q)++jnT (L.map (nsD c))++jnT (ks.map (atD c kvs))++gt1:=by
  simp only[incD,q2e]
 refine⟨i1.1,i2,i1.2,?_,jH (catB (catB (catB h1 l1) l3) (jZ gt1.length)) tA⟩
 have e5:=(b4_1 (Dn (n+2)) G ⟨k,uri,some (.str (d++(lt1++Fo c q))),move,rest,some (.str q),ly,told,hidden,some (.loc A),lr,mm,needs,scope,lh,some (.fl (ks.map .str)),lf,none,ll⟩ (L.map .str)).trans e1
 have e6:=(b4_2 (Dn (n+2)) G ⟨k,i1.1,some (.str (d++(lt1++Fo c q)++jnT (L.map (nsD c)))),move,rest,some (.str q),ly,told,hidden,some (.loc A),lr,mm,needs,scope,lh,none,lf,some (.fl (L.map .str)),i1.2⟩ (ks.map .str)).trans e2
 have e7:=(b4_3 (Dn (n+2)) G ⟨k,i1.1,none,move,rest,some (.str q),ly,told,hidden,some (.loc A),lr,i2,needs,scope,lh,some (.fl (ks.map .str)),lf,some (.fl (L.map .str)),i1.2⟩ (d++(lt1++Fo c q)++jnT (L.map (nsD c))++jnT (ks.map (atD c kvs))) (Z:=Bw (prD c) pa x .t a)).trans (w1t rfl (jH (zD (catB l2 l3) (show gt1.length<=1 from jZ 1)) tA))
 rw[e3]
 exact(stq e0 (λ v s=>sq (q9v (Dn (n+2)) v s) λ v s=>sq (q7c (Dn (n+2)) v s) λ v s=>sq (q4r (Dn (n+2)) v s) λ v s=>some (.next,v,s)) rfl).trans ((stq e5 (λ v s=>sq (q7c (Dn (n+2)) v s) λ v s=>sq (q4r (Dn (n+2)) v s) λ v s=>some (.next,v,s)) rfl).trans ((stq e6 (λ v s=>sq (q4r (Dn (n+2)) v s) λ v s=>some (.next,v,s)) rfl).trans (stq e7 (λ v s=>some (.next,v,s)) rfl)))
end
theorem v4w (k:Str):(![exK].contains k) = !decide (k=exK):=congrArg (!·) (by rw[Bool.eq_iff_iff,List.contains_iff_mem,List.mem_singleton,decide_eq_true_iff])
theorem k1j {kvs:tE} (h:(kvs.map (·.1)).Nodup):(sks kvs).map (λ k=>(k,vOf k kvs))=q2d (kx kvs):=by
 refine k1k ?_ ?_
 ·have e:((kvs.map (·.1)).filter λ u=>!decide (u=exK)).map (λ k=>(k,vOf k kvs))=kx kvs:=by
   rw[List.filter_map,List.map_map,show kx kvs=kvs.filter ((λ u=>!decide (u=exK)) ∘ (·.1))from List.filter_congr λ kv J=>v4w kv.1]
   exact(List.map_congr_left (g:=id) λ kv hm=>show(kv.1,vOf kv.1 kvs)=kv from by rw[z9i h kv (List.mem_filter.mp hm).1]).trans (List.map_id _)
  rw[<-e]
  exact((q0y _).filter _).map _
 ·refine List.pairwise_map.mpr (((z2s _).filter _).imp λ{a b} h=>?_)
  show(if a=b then decide ((vOf a kvs).cps.toList<=(vOf b kvs).cps.toList)else decide (a.cps.toList<=b.cps.toList))=true
  by_cases e:a=b
  ·rw[if_pos e,e];exact decide_eq_true (List.le_refl _)
  ·rw[if_neg e];exact h
theorem v5o:∀c<8,∀u∈L5,∀v∈L5,decide ((px c u).cps.toList<=(px c v).cps.toList)=true->w3b (nsK (px c u),u) (nsK (px c v),v)=true:=by decide +kernel
theorem v5p:∀c<8,∀u∈L5,atS (nsK (px c u),u)=nsD c (px c u):=by decide +kernel
section
variable {c:Nat} (hc:c<8)
include hc
theorem j1p (hN:∀u∈N,u∈L5):(q3r (N.map (px c))).map (λ p=>(nsK p,uP c p))=q2d ((prs c N).map xmlns):=by
 refine k1k ?_ ?_
 ·have e:(N.map (px c)).map (λ p=>(nsK p,uP c p))=(prs c N).map xmlns:=by
   rw[List.map_map,List.map_map]
   exact List.map_congr_left λ u hu=>show(nsK (px c u),uP c (px c u))=(nsK (px c u),u)from by rw[k3j c hc u (hN u hu)]
  rw[<-e]
  exact(q0y _).map _
 ·refine List.pairwise_map.mpr ((z2s _).imp_of_mem λ{a b} ha hb h=>?_)
  obtain⟨u,hu,rfl⟩:=List.mem_map.mp ((q0y _).mem_iff.mp ha)
  obtain⟨v,hv,rfl⟩:=List.mem_map.mp ((q0y _).mem_iff.mp hb)
  rw[k3j c hc u (hN u hu),k3j c hc v (hN v hv)]
  exact v5o c hc u (hN u hu) v (hN v hv) h
set_option tactic.hygienic true in theorem j4r (hA:At kvs) (hN:∀u∈N,u∈L5):(attL Uo To (Fo c) (prs c N) (kx kvs)).map atS=(q3r (N.map (px c))).map (nsD c)++(sks kvs).map (atD c kvs):=by
 unfold attL
 rw[<-j1p hc hN,<-k1j hA.n,List.map_append,List.map_map,List.map_map,List.map_map]
 refine congr (congrArg _ (List.map_congr_left λ p hp=>?_)) (List.map_congr_left λ k hk=>?_)
 ·obtain⟨u,hu,rfl⟩:=List.mem_map.mp ((q0y _).mem_iff.mp hp)
  show atS (nsK (px c u),uP c (px c u))=_
  rw[k3j c hc u (hN u hu)]
  exact v5p c hc u (hN u hu)
 ·obtain⟨hi,_,_,he⟩:=hA.at ((q0y _).mem_iff.mp (List.mem_filter.mp hk).1)
  show tF " "++(if(Uo k).length=0 then To k else Fo c k)++tF "=\""++escA (vOf k kvs)++tF "\"" = _
  have e:(if(Uo k).length=0 then To k else Fo c k)=Fo c k:=by
   split
   ·rename_i h0
    rw[Fo,e_of h0,px_e c hc];rfl
   ·rfl
  rw[e,he];rfl
theorem k7a (hA:At kvs) (hN:∀u∈N,u∈L5):∃(ts:tL),An3 (opens (Fo c q) (attL Uo To (Fo c) (prs c N) (kx kvs))=ts.map .str) (jnT ts=incD c q (q3r (N.map (px c))) (sks kvs) kvs) (ts.length<=3):=by
 have e2:=congrArg jnT (j4r hc hA hN)
 rw[q7k]at e2
 have k2:∀a b:Str,jnT [a,b]=a++b:=λ a b=>(q7k [a] [b]).trans (by rw[q7l,q7l])
 unfold opens incD
 by_cases z:attL Uo To (Fo c) (prs c N) (kx kvs)=[]
 ·rw[if_pos z]
  rw[z,List.map_nil,z4e]at e2
  exact⟨[lt1++Fo c q,gt1],rfl,by rw[k2,q2e (lt1++Fo c q),<-e2,q2n],Nat.le_succ 2⟩
 ·rw[if_neg z]
  exact⟨[lt1++Fo c q,jnT ((attL Uo To (Fo c) (prs c N) (kx kvs)).map atS),gt1],rfl,(q7k [lt1++Fo c q] [_,gt1]).trans (by rw[k2,q7l,e2,<-q2e,<-q2e]),jZ 3⟩
end
structure Lp (c k m:Nat) (x:Store) (r:List Ent) (d:Str) (P:tL) (a:W) (j0:Nat) (x':Store) (a':W) (T P':tL):Prop where
 w:Wi c (k+T.length) m x' r d P' a'
 g:a'.ign=0
 dl:a'.dl=a.dl
 nl:a'.nl=a.nl
 xl:x'.length=x.length
 kp:∀j o,j≠j0->x[j]? = some o->AV.loc (j+12)∉a.nl->x'[j]? = some o
 t:x'[j0]? = some (.list (T.map .str))
 ht:∀u∈T,u∈P'
 hs:∀u∈P,u∈P'
 hl:P'.length=P.length+T.length
theorem v5s:∀j<4,ow j∈ownS:=by decide +kernel
theorem v2j:∀u∈ownS,∃j,j<4/\u=ow j:=λ u hu=>by
 obtain⟨j,hj,e⟩:=List.mem_iff_getElem.mp hu
 refine⟨j,hj,?_⟩
 rw[ow,List.getD_eq_getElem?_getD,List.getElem?_eq_getElem hj,e];rfl
section
variable {c k m j0:Nat} {x x':Store} {r:List Ent} {js:List Nat} {d:Str} {P:tL} {a a':W} {T P':tL}
theorem Sp.lp (S:Sp x js a) (h:Lp c k m x r d P a j0 x' a' T P'):Sp x' js a':=by
 refine⟨?_,?_,?_,?_,?_⟩
 ·rw[h.nl,h.dl];exact S.f
 ·rw[h.nl];exact S.n
 ·rw[h.nl];exact S.t
 ·rw[h.nl,h.xl];exact S.s
 ·rw[h.dl,h.xl];exact S.d
theorem Lp.step (hc:c<8) (S:Sp x js a) (h1:AV.loc (j0+12)∉a.dl) (h2:AV.loc (j0+12)∉a.nl) (hk:k<=1900) (hm:m<=1900) (hP:P.length<=2000) {j:Nat} (hj:j<4) (hT:T.length<=4) (L:Lp c k m x r d P a j0 x' a' T P') :
  Ex2 λ x2 a2=>Dn (n+3) 113 [.obj 4,.str (hpx false c j),.str (ow j)] [] (Bw (prD c) pa (x'.set j0 (.list ((T++[ow j]).map .str))) .t a')=some (.none,Bw (prD c) pa x2 .t a2)/\∃P2,Lp c k m x r d P a j0 x2 a2 (T++[ow j]) P2:=by
 have hj0:j0<x'.length:=(List.getElem?_eq_some_iff.mp L.t).1
 have S1:=S.lp L
 have w1:=L.w.keep (w4c (j:=j0) (o:=.list ((T++[ow j]).map .str)) (L.dl▸h1)) (w4c (L.nl▸h2))
 have S2:Sp (x'.set j0 (.list ((T++[ow j]).map .str))) js a':=⟨S1.f,S1.n,S1.t,λ v hv=>by rw[List.length_set];exact S1.s v hv,λ v hv=>by rw[List.length_set];exact S1.d v hv⟩
 have lT:(T++[ow j]).length=T.length+1:=zI
 obtain⟨x2,P2,a2,e,D⟩:=j8g n (prD c) pa (x'.set j0 (.list ((T++[ow j]).map .str))) a' w1 L.g S2 (jH (zD hk hT) tA) (jH hm tA) (by rw[L.hl];exact jH (zD hP hT) tA) (v5s j hj)
 refine⟨x2,a2,e,P2,⟨by rw[lT];exact D.w,D.g,D.dl.trans L.dl,D.nl.trans L.nl,D.xl.trans ((List.length_set ..).trans L.xl),λ i o hi ho hn=>D.kp i o (by rw[List.getElem?_set_ne hi.symm];exact L.kp i o hi ho hn) (L.nl▸hn),D.kp j0 _ (by rw[List.getElem?_set_self hj0]) (L.nl▸h2),λ u hu=>?_,λ u hu=>D.hs u (L.hs u hu),?_⟩⟩
 ·exact(zK hu).elim (λ hu=>D.hs u (L.ht u hu)) (D.ht u)
 ·rw[D.hl,L.hl,lT];rfl
end
inductive Heard (n:Nat) (G:Fx) (v:Lo) (pa:tW) (h:Bool) (l:Nat) (r:Int) (L M:tL) (Z:Store) (Q:Store->W->List Str->Prop):Prop
 | mk (k':Option AV) (x':Store) (a':W) (T':tL) (e:q1a (Dn (n+3)) (vM G (vW v h l r L M)) Z=some (.next,vM G (vW (v.s_k k') h l r L M),Bw (prD G.c) pa x' .t a')) (q:Q x' a' T') (hT:∀u∈ownS,u∈L->u∈M\/u∈T') (hl:T'.length<=4)
section
variable (n:Nat) (G:Fx) (v:Lo) (pa:tW) (x:Store) (a:W) (r:Int) (L M:tL) {js:List Nat} {k m:Nat} {d:Str} {P:tL}
theorem k0l {h:Bool} {j0:Nat} {Q:Store->W->List Str->Prop} (hc:G.c<8) (hQ:∀{x a T},Q x a T->x[j0]? = some (.list (T.map .str)))
  (hS:∀{x a T j},j<4->T.length<=4->Q x a T->Ex2 λ x' a'=>Dn (n+3) 113 [.obj 4,.str (hpx h G.c j),.str (ow j)] [] (Bw (prD G.c) pa (x.set j0 (.list ((T++[ow j]).map .str))) .t a)=some (.none,Bw (prD G.c) pa x' .t a')/\Q x' a' (T++[ow j])) (q0:Q x a []) :
  Heard n G v pa h (j0+12) r L M (Bw (prD G.c) pa x .t a) Q:=by
 obtain⟨k',x',a',T',e,q,hT,hl,_⟩:=tells (G:=G) (r:=r) (L:=L) (M:=M) hc hQ hS 4 0 v q0 (jZ 0) rfl
 refine⟨k',x',a',T',?_,q,λ u hu hL=>?_,hl⟩
 ·rw[b_6,List.range_eq_range'];exact e
 ·obtain⟨j,hj,rfl⟩:=v2j u hu
  exact hT j (Nat.zero_le j) hj hL
theorem j6e (hc:G.c<8) (H:Wi G.c k m x rv d P a) (hg:a.ign=0) (S:Sp x js a) (hk:k<=1900) (hm:m<=1900) (hP:P.length<=2000) :
  Heard n G v pa false (x.length+12) r L M (Bw (prD G.c) pa (x++[.list []]) .t a) λ x' a' T=>∃P',Lp G.c k m (x++[.list []]) rv d P a x.length x' a' T P':=by
 have h1:AV.loc (x.length+12)∉a.dl:=λ q=>by
  obtain⟨b,e,hb⟩:=S.d _ q
  exact absurd hb (by rw[<-q4k e];exact Nat.lt_irrefl _)
 have h2:AV.loc (x.length+12)∉a.nl:=λ q=>by
  rcases S.s _ q with e|⟨j,e,hj⟩
  ·exact absurd (show 12<=9 from q4k e▸Nat.le_add_left 12 _) tA
  ·exact absurd hj (by rw[<-Nat.add_right_cancel (q4k e)];exact Nat.lt_irrefl _)
 have S':Sp (x++[.list []]) js a:=⟨S.f,S.n,S.t,λ v hv=>(S.s v hv).imp id λ⟨j,e,hj⟩=>⟨j,e,by rw[zI];exact Nat.lt_succ_of_lt hj⟩,λ v hv=>let ⟨b,e,hb⟩:=S.d v hv;⟨b,e,by rw[zI];exact jK hb (Nat.add_le_add_right (Nat.le_succ _) 12)⟩⟩
 refine k0l n G v pa _ a r L M hc (λ⟨P',q⟩=>q.t) (λ hj hT ⟨P',q⟩=>?_) ⟨P,H.grow _,hg,rfl,rfl,rfl,λ j o J h J=>h,List.getElem?_concat_length ..,(λ J h=>absurd h List.not_mem_nil),λ J h=>h,rfl⟩
 exact q.step hc S' h1 h2 hk hm hP hj hT
theorem j6d (hc:G.c<8) {z:Nat} (hg:a.ign=((z+1:Nat):Int)) :
  Heard n G v pa true (x.length+12) r L M (Bw (prD G.c) pa (x++[.list []]) .t a) λ x' a' T=>x'=x++[.list (T.map .str)]/\a'=a:=by
 refine k0l n G v pa _ a r L M hc (λ⟨e,_⟩=>e▸List.getElem?_concat_length ..) (λ{x' a' T j} hj hT ⟨e1,e2⟩=>?_) ⟨rfl,rfl⟩
 subst e1 e2
 refine⟨_,_,v5n (n+2) (prD G.c) pa _ a' hg,?_,rfl⟩
 rw[List.set_append_right _ _ (jZ _),Nat.sub_self];rfl
end
theorem k5z {kvs:tE} (h:(kvs.map (·.1)).Nodup) {k:Str}:k∈(kx kvs).map (·.1)↔k∈sks kvs:=by
 have e:(q2d (kx kvs)).map (·.1)=sks kvs:=by
  rw[<-k1j h,List.map_map]
  exact List.map_id _
 rw[<-e]
 exact((List.mergeSort_perm (kx kvs) w3b).map _).mem_iff.symm
theorem k6a {kvs:tE} {k:Str} (h:k∈(kx kvs).map (·.1)):k∈kvs.map (·.1):=by
 obtain⟨kv,h1,rfl⟩:=List.mem_map.mp h
 exact List.mem_map_of_mem (List.mem_filter.mp h1).1
theorem j1b:∀k<21,kS k≠tF "{http://www.w3.org/XML/1998/namespace}space":=by decide +kernel
theorem v2d {c:Nat} (hc:c<8) {kvs:tE} {q:Str} (h:At kvs) (hq:IsK q):j4e Uo To (Fo c) q (kx kvs) where
 n:=λ r hr=>by
  have hk:IsK r:=h.isK hq r (hr.elim (λ e=>e▸zL ..) λ hm=>zG _ (k6a hm))
  have hf:=z3e hc hk
  obtain⟨k,hk,rfl⟩:=hk
  rw[Uo_k hk,To_k hk]
  exact⟨j7d hk,by rw[(j6l k hk).2.1];decide,jH hf tA⟩
 v:=λ kv hm=>by obtain⟨j,hj,e⟩:=h.v kv (List.mem_filter.mp hm).1;rw[e];exact jH (rp_v j hj).2 tA
 l:=jH (List.length_filter_le ..) h.l
 s:=z3w λ hm=>by
  obtain⟨kv,h1,e⟩:=List.mem_map.mp hm
  obtain⟨z,h2,rfl⟩:=List.mem_map.mp h1
  obtain⟨k,hk,e2⟩:=h.k z (List.mem_filter.mp h2).1
  exact j1b k hk (e2.symm.trans e)
theorem j0z {q:Str} {kvs:tE} (hA:At kvs) {u:Str}:u∈(lm q (kx kvs)).map Uo↔u∈q1h q (sks kvs):=by
 have e:∀r,r∈lm q (kx kvs)↔r∈q::sks kvs:=λ r=>by rw[q5t,List.mem_cons,k5z hA.n]
 unfold q1h
 rw[List.mem_map,List.mem_map]
 exact⟨λ⟨r,h1,h2⟩=>⟨r,(e r).mp h1,h2⟩,λ⟨r,h1,h2⟩=>⟨r,(e r).mpr h1,h2⟩⟩
theorem w9y {us:tL} {u:Str}:u∈nx us↔u∈us/\u.length≠0/\u≠xmlS:=by
 unfold nx
 rw[List.mem_filter,Bool.not_eq_true',Bool.eq_false_iff,Ne,List.contains_iff_mem,List.mem_cons,List.mem_singleton]
 refine and_congr_right λ J=>⟨λ h=>⟨λ e=>h (.inl (e_of e)),λ e=>h (.inr e)⟩,λ h e=>e.elim (λ e=>h.1 (by rw[e];rfl)) h.2⟩
theorem j7f:∀p∈nsP,p.2.length<=500:=by decide +kernel
theorem z8q {c:Nat} (hc:c<8) {L:tL} (h:∀u∈L,u∈U6):∀p∈prs c L,p.1.length<=50/\p.2.length<=500:=λ p hp=>by
 obtain⟨u,hu,rfl⟩:=List.mem_map.mp hp
 exact⟨j4g u (h u hu),jH (j7j c hc u (zG _ (h u hu))) tA⟩
theorem q8u {α:Type} (n:Nat) (v:α):List.replicate (n+1) v=List.replicate n v++[v]:=List.replicate_succ'
section
theorem j3x (hc:c<8) {r:List Ent} (H:Wi c k m x r d P a) (he:∀e∈r,q9d x e) (hP:P.length<=2000):∃D,Lvs c a.n0 x a.dl.reverse r D/\Nst .t a.n0 x a.dl a.nl (prs c D) (prs c P++nsP):=by
 obtain⟨D,hD⟩:=H.lv
 obtain⟨hU,h6⟩:=hD.U he
 refine⟨D,hD,hD.lv hc,?_,?_,?_,λ p hp=>?_⟩
 ·rw[List.reverse_cons];exact H.nv.lv
 ·rw[zH];exact jH h6 tA
 ·rw[zI,zH];exact jH (Nat.add_le_add_right hP _) (show 2000+7<=2900 by decide)
 ·rcases zK hp with hp|hp
  ·exact(z8q hc hU p hp).2
  ·exact(zK hp).elim (λ hp=>(z8q hc (λ u hu=>(z5b u (H.nv.own u hu)).1) p hp).2) (j7f p)
theorem Sp.next {js:List Nat} (S:Sp x js a) (he:∀j∈js,j<x.length) (o:AObj) (y:Store) {a':W} (e1:a'.dl=a.dl++[.loc (x.length+12)]) (e2:a'.nl=a.nl++[.loc (x.length+1+y.length+12)]):Sp (x++(o::(y++[.list []]))) js a':=by
 have hz:(x++(o::(y++[.list []]))).length=x.length+1+y.length+1:=by
  rw[zI,List.length_cons,zI,Nat.add_assoc (x.length+1),Nat.add_assoc x.length,Nat.add_comm 1];rfl
 have hlt:x.length<x.length+1+y.length:=jK (Nat.lt_succ_self _) (zC _ _)
 have hold:∀v∈a.nl,∀j,x.length<=j->v≠.loc (j+12):=λ v hv j hj e=>by
  rcases S.s v hv with e1|⟨i,e1,hi⟩
  ·exact absurd (show 12<=9 from q4k (e1.symm.trans e)▸Nat.le_add_left 12 _) tA
  ·exact absurd hj (by rw[<-Nat.add_right_cancel (q4k (e1.symm.trans e))];exact Nat.not_le.mpr hi)
 refine⟨λ v hv hd=>?_,?_,λ e h hn=>?_,λ v hv=>?_,λ v hv=>?_⟩
 ·rw[e2]at hv
  rw[e1]at hd
  rcases zK hv with hv|hv
  ·exact(zK hd).elim (S.f v hv) λ q=>hold v hv _ (jZ _) (zF q)
  ·rw[zF hv]at hd
   rcases zK hd with hd|hd
   ·obtain⟨b,eb,hb⟩:=S.d _ hd
    rw[<-q4k eb]at hb
    exact absurd (Nat.lt_of_add_lt_add_right hb) (Nat.not_lt.mpr (zB hlt))
   ·exact Nat.ne_of_gt hlt (Nat.add_right_cancel (q4k (zF hd)))
 ·rw[e2]
  refine List.nodup_append.mpr ⟨S.n,List.nodup_cons.mpr ⟨List.not_mem_nil,List.nodup_nil⟩,λ v hv w hw e=>?_⟩
  exact hold v hv _ (zB hlt) (e.trans (zF hw))
 ·rw[e2]at hn
  rcases zK hn with hn|hn
  ·exact S.t e h hn
  ·have:=he e h
   rw[Nat.add_right_cancel (q4k (zF hn))]at this
   exact absurd this (Nat.not_lt.mpr (zB hlt))
 ·rw[e2]at hv
  rcases zK hv with hv|hv
  ·exact(S.s v hv).imp id λ⟨j,e,hj⟩=>⟨j,e,by rw[hz];exact Nat.lt_trans hj (Nat.lt_trans hlt (Nat.lt_succ_self _))⟩
  ·exact .inr ⟨_,zF hv,by rw[hz];exact Nat.lt_succ_self _⟩
 ·rw[e1]at hv
  rcases zK hv with hv|hv
  ·obtain⟨b,eb,hb⟩:=S.d v hv
   exact⟨b,eb,jK hb (Nat.add_le_add_right (by rw[hz];exact zB (Nat.lt_trans hlt (Nat.lt_succ_self _))) 12)⟩
  ·exact⟨_,zF hv,Nat.add_lt_add_right (by rw[hz];exact Nat.lt_trans hlt (Nat.lt_succ_self _)) 12⟩
end
inductive Began (n c k m:Nat) (pr:tC) (pa:tW) (x:Store) (ps:List Ent) (js:List Nat) (d:Str) (P:tL) (a:W) (q:Str) (kvs:tE) (e:Ent):Prop
 | mk (y:Store) (a':W) (ec:Dn (n+4) 120 [.obj 4,.str q,fdK kvs] [] (Bw pr pa x .t a)=some (.none,Bw pr pa (x++y) .t a'))
  (w:Wi c (k+4) m (x++y) (e::ps.reverse) (d++incD c q (newP c (nx (q1h q (sks kvs))) (abv ps)) (sks kvs) kvs) P a') (g:a'.ign=0) (s:Sp (x++y) js a')
section
variable (n:Nat) (pr:tC) (pa:tW)
theorem j2d (hc:c<8) (H:Wi c k m x ps.reverse d P a) (hg:a.ign=0) {js:List Nat} (S:Sp x js a) (hj:∀j∈js,j<x.length) (he:∀e∈ps,q9d x e) (hk:k<=1990) (hm:m<=1990) (hP:P.length<=2000) (hr:ps.length<=1000) (hq:IsK q) (hne:q≠exS) (hA:At kvs)
  (hneed:∀k∈q::kvs.map (·.1),Uo k∈ownS->Uo k∈P) (hus:e.us=nx (q1h q (sks kvs))) (htl:∀u∈e.tl,u∈P):Began n c k m pr pa x ps js d P a q kvs e:=by
 have her:∀e∈ps.reverse,q9d x e:=λ e h=>he e (List.mem_reverse.mp h)
 obtain⟨a1,D0⟩:=H.tx.dry (jH hk tA) (jH hm tA)
 have H1:=H.dry D0
 obtain⟨f,ts,o,et,lt⟩:=D0
 obtain⟨D,hD,hN⟩:=j3x hc H1 her hP
 obtain⟨hU,_⟩:=hD.U her
 have hl:=hD.len
 have hl2:=H1.nv.len
 rw[List.length_reverse,List.length_reverse]at hl hl2
 have hxD:xmlS∈D:=(hD.mem xmlS).mpr (.inl rfl)
 have h3:=jH (z4w q (kx kvs)) (Nat.succ_le_succ (jH (List.length_filter_le ..) hA.l))
 obtain⟨N,hNe⟩:∃N,N=nU D [] (lm q (kx kvs)):=⟨_,rfl⟩
 obtain⟨n1,n2⟩:=v1z (D:=D) (qs:=lm q (kx kvs)) List.nodup_nil λ J h=>absurd h List.not_mem_nil
 have hNl:=j3k D (lm q (kx kvs)) []
 have R:=k7o hc hxD H1.nv.own (qs:=lm q (kx kvs)) (N:=[]) hU λ r hr=>by
  have hm:r∈q::kvs.map (·.1):=(q5t.mp hr).elim (λ e=>e▸zL ..) λ hm=>zG _ (k6a hm)
  exact⟨hA.isK hq r hm,hneed r hm⟩
 rw[<-hNe]at n1 n2 hNl R
 have n2':∀u,u∈N↔u∈e.us/\u∉D:=λ u=>by
  rw[n2,j0z hA,hus,w9y]
  exact⟨λ h=>let ⟨h1,h2,h3⟩:=h.resolve_left List.not_mem_nil;⟨⟨h1,h2,λ e=>h3 (e▸hxD)⟩,h3⟩,λ⟨⟨h1,h2,_⟩,h3⟩=>.inr ⟨h1,h2,h3⟩⟩
 have hL5:∀u∈N,u∈L5:=λ u hu=>by
  obtain⟨h1,h2⟩:=(n2' u).mp hu
  rw[hus,w9y]at h1
  obtain⟨⟨r,hr,rfl⟩,h0,hx⟩:=(show _/\_/\_ from⟨List.mem_map.mp h1.1,h1.2⟩)
  have hk:IsK r:=(List.mem_cons.mp hr).elim (λ e=>e▸hq) λ hr=>hA.isK hq r (zG _ (k6a ((k5z hA.n).mpr hr)))
  exact j9d (U_of (Uo_U hk) h0) hx
 have hUN:∀u∈N,u∈U6:=λ u hu=>by
  rcases zK (hL5 u hu)with h|h
  ·exact(z5b u h).1
  ·rw[zF h];decide +kernel
 have ez:∀{z},z=ps.length+1->z<100000:=λ e=>e▸jJ (Nat.succ_le_succ hr) tA
 have hp1:a1.pres=List.replicate ps.length (.bool false)++[.bool false]:=by rw[H1.pres,List.length_reverse];exact q8u ..
 have ho:a1.out=ts.map .str:=by rw[o]
 have hg1:a1.ign=0:=by rw[o];exact hg
 have hd1:a1.dl=a.dl:=by rw[o]
 have hn1:a1.nl=a.nl:=by rw[o]
 have hq1:a1.data=[]:=by rw[o]
 obtain⟨y,ec⟩:=k5c n pr pa x .t a Uo To (Fo c) f hg (λ J=>hne) hN (λ h=>nomatch h) hA.n (jH hA.l tA) (v2d hc hA hq) R (by rw[zH];exact Nat.lt_succ_of_le (jH hNl (jH (zA (Nat.zero_add _)) h3))) (z8q hc hUN) hp1
  (ez (by rw[H1.pres,List.length_replicate,List.length_reverse])) (by rw[ho,zH];exact jJ (jH lt (Nat.succ_le_succ hk)) tA) (ez hl2) (ez hl)
 obtain⟨us,eo,ej,el⟩:=k7a (q:=q) hc hA hL5
 have eL:q3r (N.map (px c))=newP c (nx (q1h q (sks kvs))) (abv ps):=by
  obtain⟨u1,u2⟩:=q4g (nx (q1h q (sks kvs))) [] List.nodup_nil
  refine k1l (((List.perm_ext_iff_of_nodup n1 (u1.filter _)).mpr λ u=>?_).map _)
  rw[n2',hus,List.mem_filter,u2,hD.mem,Bool.not_eq_true',Bool.eq_false_iff,Ne,List.contains_iff_mem]
  have ea:u∈abv ps.reverse↔u∈abv ps:=by
   unfold abv
   rw[List.mem_flatMap,List.mem_flatMap]
   exact⟨λ⟨e,h,k⟩=>⟨e,List.mem_reverse.mp h,k⟩,λ⟨e,h,k⟩=>⟨e,List.mem_reverse.mpr h,k⟩⟩
  rw[ea]
  exact⟨λ⟨h1,h2⟩=>⟨.inr h1,λ z=>h2 (.inr z)⟩,λ⟨h1,h2⟩=>let h1:=h1.resolve_left List.not_mem_nil;⟨h1,λ z=>z.elim (w9y.mp h1).2.2 h2⟩⟩
 rw[eL]at ej
 refine⟨_,_,ec,⟨⟨N++D,?_⟩,?_,?_,λ J=>rfl,.new (ts:=ts++us) ?_ ?_ ?_ ?_ m⟩,hg1,S.next hj _ y (by rw[<-hd1];rfl) (by rw[<-hn1];rfl)⟩
 ·show Lvs c a1.n0 _ (a1.dl++_).reverse _ _
  rw[List.reverse_append]
  exact .cons (z4p ..) n2' n1 (hD.keep (q8r _ _ _ _))
 ·show Nvs c a1.n0 _ (a1.nl++_).reverse _ _
  rw[List.reverse_append]
  refine Nvs.cons (L:=[]) ((lv_x ..).trans (q1q ?_)) (λ J h=>absurd h List.not_mem_nil) (H1.nv.keep (q8r _ _ _ _)) htl
  rw[List.getElem?_append_right (jH (Nat.le_succ _) (zC _ _)),show x.length+1+y.length - x.length=y.length+1 from(by rw[Nat.add_assoc,Nat.add_sub_cancel_left,Nat.add_comm]),List.getElem?_cons_succ,List.getElem?_concat_length]
  rfl
 ·show a1.pres++_=_
  rw[H1.pres,List.length_cons]
  exact(q8u ..).symm
 ·show a1.out++_=_
  rw[ho,eo,List.map_append]
 ·exact hq1
 ·rw[q7k,et,ej]
 ·rw[zI];exact jH (zD lt el) (jZ (k+4))
end
theorem Sp.sub {x y:Store} {ps ps':List Nat} {a a':W} (S:Sp x ps a) (hp:∀e∈ps',e∈ps) (h1:a'.nl.Sublist a.nl) (h2:∀v∈a'.dl,v∈a.dl):Sp (x++y) ps' a' where
 f:=λ v hv hd=>S.f v (h1.subset hv) (h2 v hd)
 n:=S.n.sublist h1
 t:=λ e he hn=>S.t e (hp e he) (h1.subset hn)
 s:=λ v hv=>(S.s v (h1.subset hv)).imp id λ⟨j,e,hj⟩=>⟨j,e,by rw[zI];exact jK hj (zC _ _)⟩
 d:=λ v hv=>let ⟨b,e,hb⟩:=S.d v (h2 v hv);⟨b,e,by rw[zI];exact jK hb (Nat.add_le_add_right (zC _ _) 12)⟩
theorem z1t {α:Type} {l m:List α} {v:α} (h:l.reverse=v::m):l=m.reverse++[v]:=by rw[<-List.reverse_cons,<-h,List.reverse_reverse]
inductive Ended (n c k m:Nat) (pr:tC) (pa':tW) (x:Store) (ps:List Ent) (d:Str) (e:Ent) (P:tL) (a:W):Prop
 | mk (y:Store) (P':tL) (a':W) (ec:Dn (n+3) 133 [.obj 4,.str e.q] [] (Bw pr pa' x .t a)=some (.none,Bw pr pa' (x++y) .t a'))
  (w:Wi c (k+2) m (x++y) ps.reverse (d++closes (Fo c e.q)) P' a') (g:a'.ign=0) (s:Sp (x++y) (ps.map (·.j)) a') (l:P'.length<=P.length) (t:Tx (k+2) 0 (d++closes (Fo c e.q)) a')
section
variable (n:Nat) (pr:tC) (pa pa':tW)
theorem j8p {r:List Ent} (H:Wi c k m x r d P a) (hg:a.ign=0) (hr:r≠[]) (hm:m<=2000) :
  ∃a',An5 (Dn (n+1) 97 [.obj 4,.str tS] [] (Bw pr pa x .t a)=some (.none,Bw pr pa x .t a')) (Wi c k (m+1) x r (d++tS) P a') (a'.ign=0) (a'.dl=a.dl) (a'.nl=a.nl):=by
 obtain⟨ts,ds,o,q,et,lo,ld,h,sn⟩:=H.tx
 have ec:=j5j pr pa x .t a n tS hg (by rw[q,zH];exact jJ (jH ld hm) tA)
 refine⟨_,ec,⟨H.lv,H.nv,H.pres,H.sn,ts,ds++[tS],o,?_,?_,lo,?_,λ s hs=>(zK hs).elim (h s) zF,λ J=>H.sn hr⟩,hg,rfl,rfl⟩
 ·show a.data++_=_
  rw[q,List.map_append];rfl
 ·rw[q7k,q7l,k9q,v0o,<-q2e,et]
 ·rw[zI];exact Nat.succ_le_succ ld
set_option tactic.hygienic true in theorem v3s (hc:c<8) (H:Wi c k m x (ps++[e]).reverse d P a) (hg:a.ign=0) (S:Sp x ((ps++[e]).map (·.j)) a) (he:∀e'∈ps++[e],q9d x e') (hk:k<=1990) (hm:m<=1990) (hP:P.length<=2000):Ended n c k m pr pa' x ps d e P a:=by
 have hE:=he e (List.mem_append_right _ (zL ..))
 have her:∀e'∈(ps++[e]).reverse,q9d x e':=λ e' h=>he e' (List.mem_reverse.mp h)
 have er:(ps++[e]).reverse=e::ps.reverse:=by rw[List.reverse_append];rfl
 obtain⟨a1,D0⟩:=H.tx.dry (jH hk tA) (jH hm tA)
 have H1:=H.dry D0
 obtain⟨f,ts,o,et,lt⟩:=D0
 obtain⟨D,hD,hN⟩:=j3x hc H1 her hP
 obtain⟨hU,h6⟩:=hD.U her
 have hi:(Uo e.q).length=0\/Uo e.q∈D:=hE.m.elim (λ z=>.inr ((hD.mem _).mpr (.inl z))) λ z=>z.imp id λ z=>(hD.mem _).mpr (.inr (List.mem_flatMap.mpr ⟨e,List.mem_reverse.mpr (List.mem_append_right _ (zL ..)),z⟩))
 obtain⟨add,hQ,h7,hadd⟩:=v2u hc ((hD.mem xmlS).mpr (.inl rfl)) H1.nv.own (N:=[]) hU hE.k (hi.elim (λ z=>.inr λ w=>absurd z (j2i _ (z5b _ w).1)) .inl)
 obtain rfl:=hadd hi
 clear h7
 have hnv:=H1.nv
 have hp:=H1.pres
 have hf:=z3e hc hE.k
 rw[er]at hD hnv hp
 generalize gd:a1.dl.reverse=dr at hD
 generalize gn:a1.nl.reverse=nr' at hnv
 rcases hD with _|⟨hv,hN',hn,tD⟩
 rcases hnv with _|⟨hw,hg',tP,ht⟩
 rename_i j dl N1 D1 v nl L1 P1
 have ed:=z1t gd
 have en:=z1t gn
 have hn1:a1.nl=a.nl:=by rw[o]
 have hd1:a1.dl=a.dl:=by rw[o]
 have ho:a1.out=ts.map .str:=by rw[o]
 have hq1:a1.data=[]:=by rw[o]
 have hs1:a1.seen=true:=H1.sn (by rw[er];exact List.cons_ne_nil _ _)
 obtain⟨kq,hkq,ekq⟩:=hE.k
 obtain⟨T,ec⟩:=j2v n pr pa' x .t a (q:=e.q) (u:=Uo e.q) (t:=To e.q) f hg (by rw[ekq,Uo_k hkq,To_k hkq];exact j7d hkq) (by rw[ekq,To_k hkq,(j6l kq hkq).2.1];decide) hN.lv hN.nv (jH hN.pz tA) hN.nz hN.l hQ (jH hf tA)
  (by rw[ho,zH];exact jJ (jH lt (Nat.succ_le_succ hk)) tA) (hp.trans (q8u ..)) ed (q6m ((lv_x ..).symm.trans hv)) (by rw[zH,zH];rw[zI]at h6;exact jJ (jH (zC _ _) h6) tA) en
 have tx:Tx (k+2) 0 (d++closes (Fo c e.q)) ⟨a1.out++[.str (closes (Fo c e.q))],a1.data,dl.reverse,nl.reverse,a1.n0,List.replicate (e::ps.reverse).length (.bool false),a1.seen,decide (((List.replicate (e::ps.reverse).length (AV.bool false)).length:Int)=1),a1.ign⟩:=
  by
   refine .new (ts:=ts++[closes (Fo c e.q)]) ?_ ?_ ?_ ?_ 0
   ·show a1.out++_=_
    rw[ho,List.map_append];rfl
   ·exact hq1
   ·rw[q7k,q7l,et]
   ·rw[zI];exact Nat.succ_le_succ lt
 refine⟨[.set T],P1,_,ec,⟨⟨D1,?_⟩,?_,rfl,λ J=>hs1,Tx.le (k:=k+2) (m:=0) ?_ (jZ _) (Nat.zero_le m)⟩,?_,S.sub (λ e h=>by rw[List.map_append];exact List.mem_append_left _ h) ?_ λ v hv=>?_,by rw[zI];exact Nat.le_add_left _ _,?_⟩
 ·show Lvs c a1.n0 _ dl.reverse.reverse _ _
  rw[List.reverse_reverse]
  exact tD.keep (q8r _ _ _ _)
 ·show Nvs c a1.n0 _ nl.reverse.reverse _ _
  rw[List.reverse_reverse]
  exact tP.keep (q8r _ _ _ _)
 ·exact tx
 ·show a1.ign=0
  rw[o];exact hg
 ·rw[<-hn1,en];exact List.sublist_append_left _ _
 ·rw[<-hd1,ed];exact List.mem_append_left _ hv
 ·exact tx
end
end Mine
end
noncomputable section
set_option tactic.hygienic false
set_option backward.match.sparseCases false
set_option maxHeartbeats 1000000
namespace Mine
def b1D (C:q0b) (V:Vs) (s:Store):ResS:=sq (q5d C V s) λ v s=>sq (q3p C v s) λ v s=>sq (q2l C v s) λ v s=>sq (q1t C v s) λ v s=>sq (q1k C v s) λ v s=>sq (q1e C v s) λ v s=>some (.next,v,s)
def b1C (C:q0b) (V:Vs) (s:Store):ResS:=sq (q6y C V s) λ v s=>sq (q6z C v s) λ v s=>sq (q3e C v s) λ v s=>b1D C v s
def b1B (C:q0b) (V:Vs) (s:Store):ResS:=sq (q6x C V s) λ v s=>sq (q4p C v s) λ v s=>sq (q4q C v s) λ v s=>sq (q1a C v s) λ v s=>b1C C v s
theorem es_t {X:ResS} {V:Vs} {m:Res} {v:AV} {Z:Store} (e:X=es V m) (h:m=some (v,Z)):X=some (.next,V,Z):=e.trans (es_n h)
noncomputable abbrev sA (s:Str):Option AV:=some (.str s)
noncomputable abbrev lA (l:tL):Option AV:=some (.fl (l.map .str))
noncomputable abbrev cA (l:Nat):Option AV:=some (.loc l)
theorem j7n:∀k<21,14<=k->kS k≠exS:=by decide +kernel
def dueD (c:Nat) (h:Bool) (q d:Str) (ps:List Ent) (kvs:tE):Str:=if(!h&&!decide (q=exS))=true then d++incD c q (newP c (nx (q1h q (sks kvs))) (abv ps)) (sks kvs) kvs else d
section
variable (n:Nat) (G:Fx) (a:W) (k uri mj move rest mh ly told hidden attrs lr mm needs scope lh shown lf new ll:Option AV) (h:Bool) (r:Int)
theorem j7x (hc:G.c<8):Ex4 λ q kvs k' seed'=>An3 (IsK q/\(pa=[]->q≠exS)) (At kvs) (q8f (Dn (n+1)) (vM G ⟨k,uri,mj,move,some (.int r),mh,ly,told,hidden,attrs,lr,mm,needs,scope,lh,shown,lf,new,ll⟩) (Bw (prD G.c) pa x .t a)
  = b1B (Dn (n+1)) (vM G ⟨k',uri,mj,move,some (.int r),sA q,ly,told,hidden,cA (x.length+12),seed',mm,needs,scope,lh,shown,lf,new,ll⟩) (Bw (prD G.c) pa (x++[.dict (kvs.map q0g)]) .t a)):=by
 obtain⟨i,hi,e0,hr⟩:=j0x n hc r (prD G.c) pa x a
 obtain⟨kvs,k',seed',hA,e2⟩:=j9n n G ⟨k,uri,mj,move,some (.int r),sA (kS i),ly,told,hidden,cA (x.length+12),lr,mm,needs,scope,lh,shown,lf,new,ll⟩ (prD G.c) pa x a r hc
 refine⟨kS i,kvs,k',seed',⟨⟨i,hi,rfl⟩,λ e=>j7n i hi (hr e)⟩,hA,?_⟩
 have f0:=(b_0 (Dn (n+1)) G ⟨k,uri,mj,move,some (.int r),mh,ly,told,hidden,attrs,lr,mm,needs,scope,lh,shown,lf,new,ll⟩ r (Z:=Bw (prD G.c) pa x .t a)).trans (q4v e0)
 have f1:=b_1 (Dn (n+1)) G ⟨k,uri,mj,move,some (.int r),sA (kS i),ly,told,hidden,attrs,lr,mm,needs,scope,lh,shown,lf,new,ll⟩ (prD G.c) pa x a
 exact(stq f0 (λ v s=>sq (q9t (Dn (n+1)) v s) λ v s=>sq (q4o (Dn (n+1)) v s) λ v s=>b1B (Dn (n+1)) v s) rfl).trans ((stq f1 (λ v s=>sq (q4o (Dn (n+1)) v s) λ v s=>b1B (Dn (n+1)) v s) rfl).trans (stq e2 (λ v s=>b1B (Dn (n+1)) v s) rfl))
theorem j7y (hq:IsK q) (hA:At kvs) (he:∀e∈ps,q9d x e) (hz:(tlD ps).length<=10000) (hp:pa=ps.map entV) :
  b1B (Dn (n+1)) (vM G ⟨k,uri,mj,move,rest,sA q,ly,told,hidden,cA (x.length+12),lr,mm,needs,scope,lh,shown,lf,new,ll⟩) (Bw (prD G.c) pa (x++[.dict (kvs.map q0g)]) .t a)
   = sq (q1a (Dn (n+1)) (vM G ⟨k,uri,mj,move,rest,sA q,ly,cA ((x++[AObj.dict (kvs.map q0g)]).length+12),hidden,cA (x.length+12),lr,mm,lA (q1h q (kvs.map (·.1))),lA (tlD ps),lh,shown,lf,new,ll⟩) (Bw (prD G.c) pa (x++[.dict (kvs.map q0g)]++[.list []]) .t a)) λ v s=>b1C (Dn (n+1)) v s:=by
 subst hp
 have f3:=j9o n G ⟨k,uri,mj,move,rest,sA q,ly,told,hidden,cA (x.length+12),lr,mm,needs,scope,lh,shown,lf,new,ll⟩ (Z:=Bw (prD G.c) (ps.map entV) (x++[.dict (kvs.map q0g)]) .t a) hq hA (z3p (w2e ..)).1
 have f4:=j9p (Dn (n+1)) G ⟨k,uri,mj,move,rest,sA q,ly,told,hidden,cA (x.length+12),lr,mm,lA (q1h q (kvs.map (·.1))),scope,lh,shown,lf,new,ll⟩ (Z:=Bw (prD G.c) (ps.map entV) (x++[.dict (kvs.map q0g)]) .t a) (ps:=ps) rfl
  (λ e h=>q1q ((x_at (prD G.c) _ _ a e.j .t).trans (q4w _ (he e h).t))) hz
 have f5:=b_5 (Dn (n+1)) G ⟨k,uri,mj,move,rest,sA q,ly,told,hidden,cA (x.length+12),lr,mm,lA (q1h q (kvs.map (·.1))),lA (tlD ps),lh,shown,lf,new,ll⟩ (prD G.c) (ps.map entV) (x++[.dict (kvs.map q0g)]) a
 exact(stq f3 (λ v s=>sq (q4p (Dn (n+1)) v s) λ v s=>sq (q4q (Dn (n+1)) v s) λ v s=>sq (q1a (Dn (n+1)) v s) λ v s=>b1C (Dn (n+1)) v s) rfl).trans
  ((stq f4 (λ v s=>sq (q4q (Dn (n+1)) v s) λ v s=>sq (q1a (Dn (n+1)) v s) λ v s=>b1C (Dn (n+1)) v s) rfl).trans (stq f5 (λ v s=>sq (q1a (Dn (n+1)) v s) λ v s=>b1C (Dn (n+1)) v s) rfl))
theorem j7z {x':Store} {a':W} (hA:At kvs) (hd:x[A]? = some (.dict (kvs.map q0g))) (hd':x'[A]? = some (.dict (kvs.map q0g))) (ec:Dn (n+1) 120 [.obj 4,.str q,fdK kvs] [] (Bw (prD G.c) pa x .t a)=some (.none,Bw (prD G.c) pa x' .t a')) :
  b1C (Dn (n+1)) (vM G ⟨k,uri,mj,move,rest,sA q,ly,told,hidden,cA (A+12),lr,mm,needs,scope,lh,shown,lf,new,ll⟩) (Bw (prD G.c) pa x .t a)=b1D (Dn (n+1)) (vM G ⟨k,uri,mj,move,rest,sA q,ly,told,hidden,cA (A+12),lr,mm,needs,scope,some (fdK kvs),shown,lf,new,ll⟩) (Bw (prD G.c) pa x' .t a'):=by
 have f7:=j9q (Dn (n+1)) G ⟨k,uri,mj,move,rest,sA q,ly,told,hidden,cA (A+12),lr,mm,needs,scope,lh,shown,lf,new,ll⟩ (Z:=Bw (prD G.c) pa x .t a) (A:=A+12) (kvs:=kvs) (z3p ((x_at (prD G.c) pa x a A .t).trans hd)).1 hA.l
 have f8:=es_t (b_8 (Dn (n+1)) G ⟨k,uri,mj,move,rest,sA q,ly,told,hidden,cA (A+12),lr,mm,needs,scope,some (fdK kvs),shown,lf,new,ll⟩ (prD G.c) pa x a q ((kvs.map q0g).map (·.2)) ((kvs.map q0g).map (·.1)) :) ec
 have f9:=j9r (Dn (n+1)) G ⟨k,uri,mj,move,rest,sA q,ly,told,hidden,cA (A+12),lr,mm,needs,scope,some (fdK kvs),shown,lf,new,ll⟩ (Z:=Bw (prD G.c) pa x' .t a') (A:=A+12) hA ((x_at (prD G.c) pa x' a' A .t).trans hd')
 exact(stq f7 (λ v s=>sq (q6z (Dn (n+1)) v s) λ v s=>sq (q3e (Dn (n+1)) v s) λ v s=>b1D (Dn (n+1)) v s) rfl).trans ((stq f8 (λ v s=>sq (q3e (Dn (n+1)) v s) λ v s=>b1D (Dn (n+1)) v s) rfl).trans (stq f9 (λ v s=>b1D (Dn (n+1)) v s) rfl))
theorem j8a (hc:G.c<8) (hq:IsK q) (hA:At kvs) (hd:x[A]? = some (.dict (kvs.map q0g))) (hz:(abv ps).length<=10000) (hp:ps.length<=1000) (hdz:d.length<=8000000) (T:tL):∃v:Lo,(dueD G.c h q d ps kvs).length<=d.length+2000/\
  b1D (Dn (n+2)) (vM G ⟨k,uri,sA d,move,rest,sA q,ly,cA (j0+12),some (.bool h),cA (A+12),lr,mm,needs,scope,lh,shown,lf,new,ll⟩) (Bw (prD G.c) (ps.map entV) x .t a)=some (.next,vM G (v.s_due (sA (dueD G.c h q d ps kvs))),Bw (prD G.c) ((ps++[(⟨q,nx (q1h q (sks kvs)),j0,T⟩:Ent)]).map entV) x .t a):=by
 have hD:∀pa,q0l (Bw (prD G.c) pa x .t a) (.loc (A+12))=some (kvs.map q0g):=λ pa=>(z3p ((x_at (prD G.c) pa x a A .t).trans hd)).1
 have hks:∀k∈sks kvs,k∈kvs.map (·.1):=λ k hk=>(q0y _).mem_iff.mp (List.mem_filter.mp hk).1
 have hkz:(sks kvs).length<=3:=jH (List.length_filter_le ..) (by rw[(q0y _).length_eq,zH];exact hA.l)
 have hK:∀k∈q::sks kvs,IsK k:=λ k hk=>(List.mem_cons.mp hk).elim (λ e=>e▸hq) λ hk=>hA.isK hq k (zG _ (hks k hk))
 have hus:∀u∈nx (q1h q (sks kvs)),u∈q9e/\u∈L5:=λ u hu=>by
  obtain⟨h1,h2,h3⟩:=w9y.mp hu
  obtain⟨r,hr,rfl⟩:=List.mem_map.mp h1
  have:=Uo_U (hK r hr)
  exact⟨this,j9d (U_of this h2) h3⟩
 have huz:(nx (q1h q (sks kvs))).length<=4:=jH (List.length_filter_le ..) (by rw[q1h,zH];exact Nat.succ_le_succ hkz)
 have f10:=j4t (Dn (n+2)) G ⟨k,uri,sA d,move,rest,sA q,ly,cA (j0+12),some (.bool h),cA (A+12),lr,mm,needs,scope,lh,shown,lf,new,ll⟩ (hD (ps.map entV)) hA.l
 have f11:=j4u (n+1) G ⟨k,uri,sA d,move,rest,sA q,ly,cA (j0+12),some (.bool h),cA (A+12),lr,mm,needs,scope,lh,lA (sks kvs),lf,new,ll⟩ (Z:=Bw (prD G.c) (ps.map entV) x .t a) hq (λ r hr=>hK r (zG _ hr)) hkz
 have f12:=j4v (Dn (n+2)) G ⟨k,uri,sA d,move,rest,sA q,lA (nx (q1h q (sks kvs))),cA (j0+12),some (.bool h),cA (A+12),lr,mm,needs,scope,lh,lA (sks kvs),lf,new,ll⟩ (Z:=Bw (prD G.c) (ps.map entV) x .t a) (ps:=ps) rfl hz
 have f13:=j4w (Dn (n+2)) G ⟨k,uri,sA d,move,rest,sA q,lA (nx (q1h q (sks kvs))),cA (j0+12),some (.bool h),cA (A+12),lr,mm,needs,scope,lh,lA (sks kvs),lA (abv ps),new,ll⟩ (ps.map entV) x a hc (nx (q1h q (sks kvs))) (abv ps) (λ u hu=>(hus u hu).1) huz
 have f14:=j4x (Dn (n+2)) G ⟨k,uri,sA d,move,rest,sA q,lA (nx (q1h q (sks kvs))),cA (j0+12),some (.bool h),cA (A+12),lr,mm,needs,scope,lh,lA (sks kvs),lA (abv ps),lA (newP G.c (nx (q1h q (sks kvs))) (abv ps)),ll⟩ x a (c:=G.c) (q:=q) (us:=nx (q1h q (sks kvs))) (tl:=T) (j:=j0) hp
 generalize hpa:(ps++[(⟨q,nx (q1h q (sks kvs)),j0,T⟩:Ent)]).map entV=pa' at f14 ⊢
 have f15:=b_15 (Dn (n+2)) G ⟨k,uri,sA d,move,rest,sA q,lA (nx (q1h q (sks kvs))),cA (j0+12),some (.bool h),cA (A+12),lr,mm,needs,scope,lh,lA (sks kvs),lA (abv ps),lA (newP G.c (nx (q1h q (sks kvs))) (abv ps)),ll⟩ q h (Z:=Bw (prD G.c) pa' x .t a)
 have et:(andT (some (!h,Bw (prD G.c) pa' x .t a)) λ s=>andT (some (!decide (q=exS),s)) λ s=>some (true,s))=some (!h&&!decide (q=exS),Bw (prD G.c) pa' x .t a):=by
  cases h<;>cases decide (q=exS)<;>rfl
 rw[et]at f15
 have go:∀{V:Vs},q1e (Dn (n+2)) (vM G ⟨k,uri,sA d,move,rest,sA q,lA (nx (q1h q (sks kvs))),cA (j0+12),some (.bool h),cA (A+12),lr,mm,needs,scope,lh,lA (sks kvs),lA (abv ps),lA (newP G.c (nx (q1h q (sks kvs))) (abv ps)),ll⟩) (Bw (prD G.c) pa' x .t a)=some (.next,V,Bw (prD G.c) pa' x .t a)->
   b1D (Dn (n+2)) (vM G ⟨k,uri,sA d,move,rest,sA q,ly,cA (j0+12),some (.bool h),cA (A+12),lr,mm,needs,scope,lh,shown,lf,new,ll⟩) (Bw (prD G.c) (ps.map entV) x .t a)=some (.next,V,Bw (prD G.c) pa' x .t a):=λ f=>
  (stq f10 (λ v s=>sq (q3p (Dn (n+2)) v s) λ v s=>sq (q2l (Dn (n+2)) v s) λ v s=>sq (q1t (Dn (n+2)) v s) λ v s=>sq (q1k (Dn (n+2)) v s) λ v s=>sq (q1e (Dn (n+2)) v s) λ v s=>some (.next,v,s)) rfl).trans
  ((stq f11 (λ v s=>sq (q2l (Dn (n+2)) v s) λ v s=>sq (q1t (Dn (n+2)) v s) λ v s=>sq (q1k (Dn (n+2)) v s) λ v s=>sq (q1e (Dn (n+2)) v s) λ v s=>some (.next,v,s)) rfl).trans
  ((stq f12 (λ v s=>sq (q1t (Dn (n+2)) v s) λ v s=>sq (q1k (Dn (n+2)) v s) λ v s=>sq (q1e (Dn (n+2)) v s) λ v s=>some (.next,v,s)) rfl).trans
  ((stq f13 (λ v s=>sq (q1k (Dn (n+2)) v s) λ v s=>sq (q1e (Dn (n+2)) v s) λ v s=>some (.next,v,s)) rfl).trans
  ((stq f14 (λ v s=>sq (q1e (Dn (n+2)) v s) λ v s=>some (.next,v,s)) rfl).trans (stq f (λ v s=>some (.next,v,s)) rfl)))))
 unfold dueD
 by_cases z:(!h&&!decide (q=exS))=true
 ·rw[if_pos z]
  rw[z]at f15
  obtain⟨uri',key',prefi',e,l⟩:=v4h n G pa' x a (d:=d) (A:=A+12) (L:=newP G.c (nx (q1h q (sks kvs))) (abv ps)) (ks:=sks kvs) k uri move rest (lA (nx (q1h q (sks kvs)))) (cA (j0+12)) (some (.bool h)) lr mm needs scope lh (lA (abv ps)) ll hc hq hA (hD pa')
   (λ p hp=>by
    obtain⟨u,hu,rfl⟩:=List.mem_map.mp ((q0y _).mem_iff.mp hp)
    have hm:=(List.mem_filter.mp hu).1
    exact⟨u,(hus u ((((q4g _ _ List.nodup_nil).2 u).mp hm).resolve_left List.not_mem_nil)).2,rfl⟩)
   (by
    rw[newP,(q0y _).length_eq,zH]
    exact jH (List.length_filter_le ..) (jH (jH (q4e _ []) (zA (Nat.zero_add _))) huz)) hks hkz hdz
  exact⟨⟨k,uri',none,move,rest,sA q,lA (nx (q1h q (sks kvs))),cA (j0+12),some (.bool h),cA (A+12),lr,key',needs,scope,lh,lA (sks kvs),lA (abv ps),lA (newP G.c (nx (q1h q (sks kvs))) (abv ps)),prefi'⟩,catB (jZ _) l,go (f15.trans ((w5d rfl).trans e))⟩
 ·rw[if_neg z]
  rw[Bool.eq_false_iff.mpr z]at f15
  exact⟨⟨k,uri,none,move,rest,sA q,lA (nx (q1h q (sks kvs))),cA (j0+12),some (.bool h),cA (A+12),lr,mm,needs,scope,lh,lA (sks kvs),lA (abv ps),lA (newP G.c (nx (q1h q (sks kvs))) (abv ps)),ll⟩,zC _ _,go (f15.trans (w3r rfl))⟩
end
structure St (c k:Nat) (x:Store) (vs hs:List Ent) (d:Str) (P:tL) (a:W):Prop where
 w:Wi c (8 * k) k x vs.reverse d P a
 ig:a.ign=(hs.length:Int)
 v:∀e∈vs,e.q≠exS
 h:∀e t,hs=e::t->e.q=exS
 en:∀e∈vs++hs,q9d x e
 sp:Sp x ((vs++hs).map (·.j)) a
 pz:P.length<=4 * k
 pl:(vs++hs).length<=k
 dz:d.length<=7000 * k
inductive Inv3 (c k:Nat) (x:Store) (ps:List Ent) (d:Str) (a:W):Prop
 | mk (vs hs:List Ent) (P:tL) (e:ps=vs++hs) (s:St c k x vs hs d P a) (r:ps≠[]->vs≠[])
inductive Nxt (G:Fx) (Q:Store->List Ent->Str->W->Prop) (m:ResS):Prop
 | mk (v:Lo) (x:Store) (ps:List Ent) (d:Str) (a:W) (e:m=some (.next,vM G (v.s_due (sA d)),Bw (prD G.c) (ps.map entV) x .t a)) (h:Q x ps d a)
theorem q9d.mono {x x':Store} {e:Ent} (h:q9d x e) (k:∀o,x[e.j]? = some o->x'[e.j]? = some o):q9d x' e:=⟨h.k,h.u,h.m,k _ h.t,h.l⟩
theorem Wi.wi {c k m:Nat} {x:Store} {r:List Ent} {d:Str} {P:tL} {a:W} (h:Wi c k m x r d P a) (g:Int):Wi c k m x r d P (a.wi g):=by
 obtain⟨lv,nv,pres,sn,ts,ds,o,q,e,lo,ld,h,s⟩:=h
 exact⟨lv,nv,pres,sn,ts,ds,o,q,e,lo,ld,h,s⟩
theorem j6f {vs:List Ent} (h:∀e∈vs,e.q≠exS):hid (vs++[])=false:=by
 rw[List.append_nil]
 refine Bool.eq_false_iff.mpr λ q=>?_
 obtain⟨e,h1,h2⟩:=List.mem_map.mp (List.contains_iff_mem.mp q)
 exact h e h1 h2
theorem k9y {vs hs:List Ent} {z:Ent} (h:z.q=exS):hid (vs++z::hs)=true:=
 List.contains_iff_mem.mpr (List.mem_map.mpr ⟨z,List.mem_append_right _ (zL ..),h⟩)
theorem z1j {g:Ent->List Str} {k:Nat}:∀{ps:List Ent},(∀e∈ps,(g e).length<=k)->(ps.flatMap g).length<=k * ps.length
 | [],_=>Nat.zero_le _
 | e::ps,h=>by
  rw[List.flatMap_cons,zI,List.length_cons,Nat.mul_succ,Nat.add_comm]
  exact zD (z1j λ e he=>h e (zG _ he)) (h e (zL ..))
theorem j8i {ps:List Ent} {u:Str} (h:u∈tlD ps):u∈tlD ps.reverse:=by
 obtain⟨e,h1,h2⟩:=List.mem_flatMap.mp h
 exact List.mem_flatMap.mpr ⟨e,List.mem_reverse.mpr h1,h2⟩
def mkE (q:Str) (kvs:tE) (j:Nat) (T:tL):Ent:=⟨q,nx (q1h q (sks kvs)),j,T⟩
theorem j3j {x:Store} {q:Str} {kvs:tE} {j:Nat} {T:tL} (hq:IsK q) (hA:At kvs) (h:x[j]? = some (.list (T.map .str))) (hT:T.length<=4):q9d x (mkE q kvs j T) where
 k:=hq
 u:=λ u hu=>by
  obtain⟨h1,h2,h3⟩:=w9y.mp hu
  obtain⟨r,hr,rfl⟩:=List.mem_map.mp h1
  refine⟨U_of (Uo_U ((List.mem_cons.mp hr).elim (λ e=>e▸hq) λ hk=>hA.isK hq r (zG _ ?_))) h2,h3⟩
  exact(q0y _).mem_iff.mp (List.mem_filter.mp hk).1
 m:=by
  by_cases h1:Uo q=xmlS
  ·exact .inl h1
  ·by_cases h2:(Uo q).length=0
   ·exact .inr (.inl h2)
   ·exact .inr (.inr (w9y.mpr ⟨zL ..,h2,h1⟩))
 t:=h
 l:=⟨jH (List.length_filter_le ..) (by
  rw[q1h,zH]
  exact Nat.succ_le_succ (jH (List.length_filter_le ..) (by rw[(q0y _).length_eq,zH];exact hA.l))),hT⟩
section
theorem St.abv (H:St c k x vs hs d P a) (hk:k<=130):(abv (vs++hs)).length<=10000/\(tlD (vs++hs)).length<=10000:=
 ⟨jH (z1j λ e he=>(H.en e he).l.1) (jH (zJ 4 (jH H.pl hk)) tA),jH (z1j λ e he=>(H.en e he).l.2) (jH (zJ 4 (jH H.pl hk)) tA)⟩
theorem St.jlt (H:St c k x vs hs d P a):∀e∈vs++hs,e.j<x.length:=λ e he=>(List.getElem?_eq_some_iff.mp (H.en e he).t).1
theorem Sp.grow {js:List Nat} {y:Store} (S:Sp x js a):Sp (x++y) js a:=S.sub (λ J h=>h) (List.Sublist.refl _) λ J h=>h
theorem Sp.fresh {js:List Nat} (S:Sp x js a) {j:Nat} (hj:x.length<=j):AV.loc (j+12)∉a.nl:=λ q=>by
 rcases S.s _ q with e|⟨i,e,hi⟩
 ·exact absurd (show 12<=9 from q4k e▸Nat.le_add_left 12 _) tA
 ·exact absurd hi (by rw[<-Nat.add_right_cancel (q4k e)];exact Nat.not_lt.mpr hj)
theorem Sp.snoc {js:List Nat} (S:Sp x js a) {j:Nat} (h:AV.loc (j+12)∉a.nl):Sp x (js++[j]) a:=⟨S.f,S.n,λ i hi=>(zK hi).elim (S.t i) λ e=>zF e▸h,S.s,S.d⟩
theorem Sp.wi {js:List Nat} (S:Sp x js a) (g:Int):Sp x js (a.wi g):=⟨S.f,S.n,S.t,S.s,S.d⟩
end
section
variable (n:Nat) (G:Fx) (kf uri move ly lr mm lh shown lf new ll:Option AV) (r:Int)
theorem w2s {kvs:tE} {x0 x1 x2:Store} {a1 a2:W} {A j0:Nat} {h:Bool} {L M T:tL} {k2:Option AV} (hc:G.c<8) (hq:IsK q) (hA:At kvs) (hz:(abv ps).length<=10000) (hp:ps.length<=1000) (hdz:d.length<=8000000)
  (e6:q1a (Dn (n+4)) (vM G (vW ⟨kf,uri,sA d,move,none,sA q,ly,none,none,cA (A+12),lr,mm,none,none,lh,shown,lf,new,ll⟩ h (j0+12) r L M)) (Bw (prD G.c) (ps.map entV) x0 .t a)=some (.next,vM G (vW (Lo.s_k ⟨kf,uri,sA d,move,none,sA q,ly,none,none,cA (A+12),lr,mm,none,none,lh,shown,lf,new,ll⟩ k2) h (j0+12) r L M),Bw (prD G.c) (ps.map entV) x1 .t a1))
  (ec:Dn (n+4) 120 [.obj 4,.str q,fdK kvs] [] (Bw (prD G.c) (ps.map entV) x1 .t a1)=some (.none,Bw (prD G.c) (ps.map entV) x2 .t a2)) (h1:x1[A]? = some (.dict (kvs.map q0g))) (h2:x2[A]? = some (.dict (kvs.map q0g))) :
  ∃(v:Lo),(dueD G.c h q d ps kvs).length<=d.length+2000/\(sq (q1a (Dn (n+4)) (vM G ⟨kf,uri,sA d,move,some (.int r),sA q,ly,cA (j0+12),some (.bool h),cA (A+12),lr,mm,lA L,lA M,lh,shown,lf,new,ll⟩) (Bw (prD G.c) (ps.map entV) x0 .t a)) λ v s=>b1C (Dn (n+4)) v s)
   = some (.next,vM G (v.s_due (sA (dueD G.c h q d ps kvs))),Bw (prD G.c) ((ps++[mkE q kvs j0 T]).map entV) x2 .t a2):=by
 obtain⟨v,l,e4⟩:=j8a (n+2) G (x:=x2) a2 (j0:=j0) k2 uri move (some (.int r)) ly lr mm (lA L) (lA M) (some (fdK kvs)) shown lf new ll h hc hq hA h2 hz hp hdz T
 have e3:=j7z (n+3) G (pa:=ps.map entV) a1 (q:=q) k2 uri (sA d) move (some (.int r)) ly (cA (j0+12)) (some (.bool h)) lr mm (lA L) (lA M) lh shown lf new ll hA h1 h2 ec
 exact⟨v,l,(stq e6 (λ v s=>b1C (Dn (n+4)) v s) rfl).trans (e3.trans e4)⟩
end
theorem z2r {l:List Ent} {e:Ent}:l++[e]≠[]/\(l++[e]).length=l.length+1:=⟨λ h=>List.cons_ne_nil _ _ (List.append_eq_nil_iff.mp h).2,zI⟩
section
variable {T:tL}
theorem St.hide (H:St c k x vs hs d P a) (hq:IsK q) (hA:At kvs) (hx:hs=[]->q=exS) (hr:vs≠[]) (W2:Wi c (8 * (k+1)) (k+1) x2 vs.reverse d P2 a2) (hz:P2.length<=4 * (k+1)) (ig:a2.ign=((hs.length+1:Nat):Int)) (S2:Sp x2 ((vs++hs).map (·.j)++[j0]) a2) (kp:∀e∈vs++hs,∀o,x[e.j]? = some o->x2[e.j]? = some o) (ht:x2[j0]? = some (.list (T.map .str))) (hT:T.length<=4) :
  Inv3 c (k+1) x2 ((vs++hs)++[mkE q kvs j0 T]) d a2:=by
 refine⟨vs,hs++[mkE q kvs j0 T],P2,List.append_assoc ..,?_,λ J=>hr⟩
 have ea:=List.append_assoc vs hs [mkE q kvs j0 T]
 refine⟨W2,?_,H.v,λ e t he=>?_,ea▸λ e he=>(zK he).elim (λ he=>(H.en e he).mono (kp e he)) λ he=>zF he▸j3j hq hA ht hT,ea▸by rw[List.map_append];exact S2,hz,ea▸by rw[zI];exact Nat.succ_le_succ H.pl,jH H.dz (zJ 7000 (Nat.le_succ k))⟩
 ·rw[ig,zI];rfl
 ·cases hs with
  | nil=>rw[<-(List.cons.inj he).1];exact hx rfl
  | cons z t'=>rw[<-(List.cons.inj he).1];exact H.h z t' rfl
structure Aft (c k:Nat) (x:Store) (vs:List Ent) (d:Str) (q:Str) (kvs:tE) (T:tL) (x':Store) (P':tL) (a':W):Prop where
 w:Wi c (8 * k+4) k x' vs.reverse d P' a'
 s:Sp x' (vs.map (·.j)++[x.length+1]) a'
 g:a'.ign=0
 kp:∀e∈vs,∀o,x[e.j]? = some o->x'[e.j]? = some o
 t:x'[x.length+1]? = some (.list (T.map .str))
 lt:T.length<=4
 ht:∀u∈T,u∈P'
 at_:x'[x.length]? = some (.dict (kvs.map q0g))
 hp:P'.length<=4 * (k+1)
 nd:∀kk∈q::kvs.map (·.1),Uo kk∈ownS->Uo kk∈P'
end
structure Sv (c k:Nat) (x:Store) (vs:List Ent) (d:Str) (P:tL) (a:W):Prop where
 w:Wi c (8 * k) k x vs.reverse d P a
 ig:a.ign=0
 v:∀e∈vs,e.q≠exS
 en:∀e∈vs,q9d x e
 sp:Sp x (vs.map (·.j)) a
 pz:P.length<=4 * k
 pl:vs.length<=k
 dz:d.length<=7000 * k
theorem St.vis {c k:Nat} {x:Store} {vs:List Ent} {d:Str} {P:tL} {a:W} (s:St c k x vs [] d P a):Sv c k x vs d P a:=by
 obtain⟨w,ig,v,_,en,sp,pz,pl,dz⟩:=s
 rw[List.append_nil]at en sp pl
 exact⟨w,ig,v,en,sp,pz,pl,dz⟩
theorem Sv.st {c k:Nat} {x:Store} {vs:List Ent} {d:Str} {P:tL} {a:W} (s:Sv c k x vs d P a):St c k x vs [] d P a:=by
 obtain⟨w,ig,v,en,sp,pz,pl,dz⟩:=s
 have e:=List.append_nil vs
 exact⟨w,ig,v,(λ J J h=>nomatch h),e.symm▸en,e.symm▸sp,pz,e.symm▸pl,dz⟩
section
variable {T:tL}
theorem Sv.aft (s:Sv c k x vs d P a) (L:Lp c (8 * k) k (x++[.dict (kvs.map q0g)]++[.list []]) vs.reverse d P a (x.length+1) x' a' T P') (hT:∀u∈ownS,u∈q1h q (kvs.map (·.1))->u∈tlD vs\/u∈T) (lT:T.length<=4):Aft c k x vs d q kvs T x' P' a':=by
 have W2:=L.w.le (Nat.add_le_add_left lT _) (jZ k)
 have jl:∀e∈vs,e.j<x.length:=λ e he=>(List.getElem?_eq_some_iff.mp (s.en e he).t).1
 exact⟨W2,Sp.lp ((s.sp.snoc (s.sp.fresh (Nat.le_succ _))).grow.grow) L,L.g,λ e he o ho=>L.kp e.j o (Nat.ne_of_lt (Nat.lt_succ_of_lt (jl e he))) (q4w _ (q4w _ ho)) (s.sp.t _ (List.mem_map_of_mem he)),L.t,lT,L.ht,
  L.kp _ _ (Nat.ne_of_lt (Nat.lt_succ_self _)) (q4w _ (List.getElem?_concat_length ..)) (s.sp.fresh (jZ _)),by rw[L.hl];exact zD s.pz lT,λ kk hk ho=>(hT _ ho (List.mem_map_of_mem hk)).elim (λ h=>W2.nv.told _ (j8i h)) (L.ht _)⟩
theorem Aft.shut (A:Aft c k x vs d exS kvs T x' P' a') (s:Sv c k x vs d P a) (hq:IsK exS) (hA:At kvs) (hr:vs≠[]):Inv3 c (k+1) x' (vs++[mkE exS kvs (x.length+1) T]) d (a'.wi 1):=by
 have h:=s.st.hide (x2:=x') (P2:=P') (a2:=a'.wi 1) (j0:=x.length+1) (T:=T) hq hA (λ J=>rfl) hr ((A.w.wi 1).le (Nat.add_le_add_left (show 4<=8 by decide) (8 * k)) (Nat.le_succ k)) A.hp rfl
 rw[List.append_nil]at h
 exact h (A.s.wi 1) A.kp A.t A.lt
theorem Aft.open (n:Nat) (pr:tC) (pa:tW) (hc:c<8) (A:Aft c k x vs d q kvs T x' P' a') (s:Sv c k x vs d P a) (hk:k<=130) (hq:IsK q) (hx:q≠exS) (hA:At kvs):Began n c (8 * k+4) k pr pa x' vs (vs.map (·.j)++[x.length+1]) d P' a' q kvs (mkE q kvs (x.length+1) T):=by
 have hl:=(List.getElem?_eq_some_iff.mp A.t).1
 exact j2d n pr pa hc A.w A.g A.s (λ j hj=>(zK hj).elim (λ hj=>by
   obtain⟨e,he,rfl⟩:=List.mem_map.mp hj
   exact Nat.lt_trans (Nat.lt_succ_of_lt (List.getElem?_eq_some_iff.mp (s.en e he).t).1) hl) λ hj=>zF hj▸hl) (λ e he=>(s.en e he).mono (A.kp e he)) (jH (Nat.add_le_add_right (zJ 8 hk) 4) tA) (jH hk tA) (jH A.hp (jH (zJ 4 (Nat.succ_le_succ hk)) tA)) (jH s.pl (jH hk tA)) hq hx hA A.nd rfl A.ht
theorem Aft.opened {y:Store} {a2:W} {d2:Str} (A:Aft c k x vs d q kvs T x' P' a') (s:Sv c k x vs d P a) (hq:IsK q) (hx:q≠exS) (hA:At kvs) (W3:Wi c (8 * k+4+4) k (x'++y) (mkE q kvs (x.length+1) T::vs.reverse) d2 P' a2) (g:a2.ign=0) (S3:Sp (x'++y) (vs.map (·.j)++[x.length+1]) a2) (hd:d2.length<=d.length+2000) :
  Inv3 c (k+1) (x'++y) (vs++[mkE q kvs (x.length+1) T]) d2 a2:=
 ⟨_,[],P',(List.append_nil _).symm,Sv.st ⟨by rw[List.reverse_append];exact W3.le (jZ _) (Nat.le_succ k),g,λ e he=>(zK he).elim (s.v e) λ he=>zF he▸hx,λ e he=>(zK he).elim (λ he=>((s.en e he).mono (A.kp e he)).grow y) λ he=>zF he▸j3j hq hA (q4w _ A.t) A.lt,
  by rw[List.map_append];exact S3,A.hp,by rw[zI];exact Nat.succ_le_succ s.pl,jH hd (jH (Nat.add_le_add_right s.dz 2000) (Nat.add_le_add_left (show 2000<=7000 by decide) (7000 * k)))⟩,λ J=>z2r.1⟩
end
abbrev Gq (G:Fx) (k:Nat) (ps:List Ent) (m:ResS):Prop:=Nxt G (λ x ps' d a=>Inv3 G.c (k+1) x ps' d a/\ps'≠[]/\ps'.length=ps.length+1) m
section
variable (n:Nat) (G:Fx) {k:Nat} (kf uri move mh ly told attrs lr mm needs scope lh shown lf new ll:Option AV) (r:Int) (hc:G.c<8) (hk:k<=130)
include hc hk
theorem go_v {vs:List Ent} (s:Sv G.c k x vs d P a) (hq:IsK q) (hr:vs=[]->q≠exS) (hA:At kvs) (z1:(abv vs).length<=10000) (hdz:d.length<=8000000):Gq G k vs (sq (q1a (Dn (n+4)) (vM G ⟨kf,uri,sA d,move,some (.int r),sA q,ly,cA (x.length+1+12),some (.bool false),cA (x.length+12),lr,mm,lA (q1h q (kvs.map (·.1))),lA (tlD vs),lh,shown,lf,new,ll⟩) (Bw (prD G.c) (vs.map entV) (x++[.dict (kvs.map q0g)]++[.list []]) .t a)) λ v s=>b1C (Dn (n+4)) v s):=by
 have hl:(x++[AObj.dict (kvs.map q0g)]).length=x.length+1:=zI
 have hp:=jH s.pl (jH hk (show 130<=1000 by decide))
 have h1:=j6e (n+1) G ⟨kf,uri,sA d,move,none,sA q,ly,none,none,cA (x.length+12),lr,mm,none,none,lh,shown,lf,new,ll⟩ (vs.map entV) (x++[.dict (kvs.map q0g)]) a r (q1h q (kvs.map (·.1))) (tlD vs) hc (s.w.grow _) s.ig s.sp.grow (jH (zJ 8 hk) tA) (jH hk tA) (jH s.pz (jH (zJ 4 hk) tA))
 rw[hl]at h1
 obtain⟨k2,x',a',T,e6,⟨P',L⟩,hT,lT⟩:=h1
 have A:=s.aft L hT lT
 by_cases hx:q=exS
 ·subst hx
  obtain⟨v,l,e⟩:=w2s n G (ps:=vs) (A:=x.length) (j0:=x.length+1) (T:=T) kf uri move ly lr mm lh shown lf new ll r hc hq hA z1 hp hdz e6 (j1w (n+3) (prD G.c) (vs.map entV) x' a' A.g (fdK kvs)) A.at_ A.at_
  rw[show dueD G.c false exS d vs kvs=d from if_neg (by rw[decide_eq_true rfl];decide)]at e
  exact⟨v,_,_,_,_,e,A.shut s hq hA λ h=>hr h rfl,z2r⟩
 ·obtain⟨y,a2,ec,W3,g3,S3⟩:=A.open n (prD G.c) (vs.map entV) hc s hk hq hx hA
  obtain⟨v,l,e⟩:=w2s n G (ps:=vs) (A:=x.length) (j0:=x.length+1) (T:=T) kf uri move ly lr mm lh shown lf new ll r hc hq hA z1 hp hdz e6 ec A.at_ (q4w _ A.at_)
  have ed:dueD G.c false q d vs kvs=d++incD G.c q (newP G.c (nx (q1h q (sks kvs))) (abv vs)) (sks kvs) kvs:=if_pos (by rw[decide_eq_false hx];rfl)
  exact⟨v,_,_,_,_,e,A.opened s hq hx hA (ed▸W3) g3 S3 l,z2r⟩
theorem go_h {vs t:List Ent} {z:Ent} (s:St G.c k x vs (z::t) d P a) (hq:IsK q) (hr:vs≠[]) (hA:At kvs) (z1:(abv (vs++z::t)).length<=10000) (hdz:d.length<=8000000):Gq G k (vs++z::t) (sq (q1a (Dn (n+4)) (vM G ⟨kf,uri,sA d,move,some (.int r),sA q,ly,cA (x.length+1+12),some (.bool true),cA (x.length+12),lr,mm,lA (q1h q (kvs.map (·.1))),lA (tlD (vs++z::t)),lh,shown,lf,new,ll⟩) (Bw (prD G.c) ((vs++z::t).map entV) (x++[.dict (kvs.map q0g)]++[.list []]) .t a)) λ v s=>b1C (Dn (n+4)) v s):=by
 have hl:(x++[AObj.dict (kvs.map q0g)]).length=x.length+1:=zI
 have h1:=j6d (n+1) G ⟨kf,uri,sA d,move,none,sA q,ly,none,none,cA (x.length+12),lr,mm,none,none,lh,shown,lf,new,ll⟩ ((vs++z::t).map entV) (x++[.dict (kvs.map q0g)]) a r (q1h q (kvs.map (·.1))) (tlD (vs++z::t)) hc (z:=t.length) s.ig
 rw[hl]at h1
 obtain⟨k2,x',a',T,e6,⟨rfl,rfl⟩,hT,lT⟩:=h1
 have hd:∀y:Store,(x++[AObj.dict (kvs.map q0g)]++y)[x.length]? = some (.dict (kvs.map q0g)):=λ y=>q4w y (List.getElem?_concat_length ..)
 have ec:=j1x (n+3) (prD G.c) ((vs++z::t).map entV) (x++[.dict (kvs.map q0g)]++[.list (T.map .str)]) a' q (fdK kvs) (k:=t.length) s.ig
 obtain⟨v,l,e⟩:=w2s n G (ps:=vs++z::t) (A:=x.length) (j0:=x.length+1) (T:=T) kf uri move ly lr mm lh shown lf new ll r hc hq hA z1 (jH s.pl (jH hk tA)) hdz e6 ec (hd _) (hd _)
 refine⟨v,_,_,_,_,e,?_,z2r⟩
 exact s.hide hq hA (λ h=>nomatch h) hr (((s.w.grow _).grow _).wi _ |>.le (zJ 8 (Nat.le_succ k)) (Nat.le_succ k)) (jH s.pz (zJ 4 (Nat.le_succ k))) rfl (((s.sp.snoc (s.sp.fresh (Nat.le_succ _))).grow.grow).wi _) (λ e he o ho=>q4w _ (q4w _ ho)) (by rw[<-hl];exact List.getElem?_concat_length ..) lT
theorem k9x (H:Inv3 G.c k x ps d a):Gq G k ps (q8f (Dn (n+4)) (vM G ⟨kf,uri,sA d,move,some (.int r),mh,ly,told,some (.bool (hid ps)),attrs,lr,mm,needs,scope,lh,shown,lf,new,ll⟩) (Bw (prD G.c) (ps.map entV) x .t a)):=by
 obtain⟨q,kvs,k',seed',⟨hq,hroot⟩,hA,e1⟩:=j7x (n+3) G (pa:=ps.map entV) (x:=x) a kf uri (sA d) move mh ly told (some (.bool (hid ps))) attrs lr mm needs scope lh shown lf new ll r hc
 obtain⟨vs,hs,P,e,s,hrt⟩:=H
 obtain⟨z1,z2⟩:=s.abv hk
 have hdz:d.length<=8000000:=jH s.dz (jH (zJ 7000 hk) tA)
 have e2:=j7y (n+3) G (x:=x) a k' uri (sA d) move (some (.int r)) ly told (some (.bool (hid ps))) seed' mm needs scope lh shown lf new ll hq hA (e▸s.en) (e▸z2) rfl
 rw[show(x++[AObj.dict (kvs.map q0g)]).length=x.length+1 from zI]at e2
 rw[e1,e2]
 clear e1 e2
 cases hs with
 | nil=>
  have hh:=j6f s.v
  rw[<-e]at hh
  rw[List.append_nil]at e z1
  subst e
  rw[hh]
  exact go_v n G k' uri move ly seed' mm lh shown lf new ll r hc hk s.vis hq (λ h=>hroot (by rw[h];rfl)) hA z1 hdz
 | cons z t=>
  subst e
  rw[k9y (s.h z t rfl)]
  exact go_h n G k' uri move ly seed' mm lh shown lf new ll r hc hk s hq (hrt λ h=>List.cons_ne_nil _ _ (List.append_eq_nil_iff.mp h).2) hA z1 hdz
end
theorem j6o {vs hs ps:List Ent} {e:Ent} (h:ps++[e]=vs++hs):(hs=[]/\vs=ps++[e])\/∃h',hs=h'++[e]/\ps=vs++h':=by
 by_cases z:hs=[]
 ·subst z;rw[List.append_nil]at h;exact .inl ⟨rfl,h.symm⟩
 ·have e1:=(List.dropLast_concat_getLast z).symm
  rw[e1,<-List.append_assoc]at h
  obtain⟨h1,h2⟩:=List.append_inj' h rfl
  exact .inr ⟨hs.dropLast,by rw[(List.cons.inj h2).1];exact e1,h1⟩
theorem k9z {vs hs:List Ent} {e:Ent} (h:∀z t,hs++[e]=z::t->z.q=exS):hid (vs++(hs++[e]))=true:=by
 cases hs with
 | nil=>exact k9y (h e [] rfl)
 | cons z t=>exact k9y (h z _ rfl)
section
variable (n:Nat) (G:Fx) (kf uri move rest mh ly told attrs lr mm needs scope lh shown lf new ll:Option AV) (h:Bool)
theorem z9z {x':Store} {a':W} (hc:G.c<8) (hq:IsK e.q) (hz:d.length<=8000000) (ec:Dn (n+4) 133 [.obj 4,.str e.q] [] (Bw (prD G.c) (ps.map entV) x .t a)=some (.none,Bw (prD G.c) (ps.map entV) x' .t a')) :
  (closes (Fo G.c e.q)).length<=20/\w1i (Dn (n+4)) (vM G ⟨kf,uri,sA d,move,rest,mh,ly,told,some (.bool h),attrs,lr,mm,needs,scope,lh,shown,lf,new,ll⟩) (Bw (prD G.c) ((ps++[e]).map entV) x .t a)
   = some (.next,vM G ⟨kf,uri,sA (d++if h=true then tF "" else closes (Fo G.c e.q)),move,rest,sA e.q,ly,told,some (.bool h),attrs,lr,mm,needs,scope,lh,shown,lf,new,ll⟩,Bw (prD G.c) (ps.map entV) x' .t a'):=by
 have hf:=z3e hc hq
 have lb:(tF "</").length<=2:=jZ 2
 have lg:gt1.length<=1:=jZ 1
 have hl:(closes (Fo G.c e.q)).length<=20:=jH (catB (catB lb hf) lg) tA
 refine⟨hl,?_⟩
 have e0:=m_0 (Dn (n+4)) G ⟨kf,uri,sA d,move,rest,mh,ly,told,some (.bool h),attrs,lr,mm,needs,scope,lh,shown,lf,new,ll⟩ (prD G.c) x a e ps
 rw[w4g]at e0
 have f0:=e0.trans (q4v (v:=.str e.q) (Z:=Bw (prD G.c) (ps.map entV) x .t a) (nr tK))
 have f1:=es_t (m_1 (Dn (n+4)) G ⟨kf,uri,sA d,move,rest,sA e.q,ly,told,some (.bool h),attrs,lr,mm,needs,scope,lh,shown,lf,new,ll⟩ (prD G.c) (ps.map entV) x a e.q) ec
 have e2:=m_2 (Dn (n+4)) G ⟨kf,uri,sA d,move,rest,sA e.q,ly,told,some (.bool h),attrs,lr,mm,needs,scope,lh,shown,lf,new,ll⟩ e.q d h (Z:=Bw (prD G.c) (ps.map entV) x' .t a')
 have e3:(bnd (some (h,Bw (prD G.c) (ps.map entV) x' .t a')) λ c s=>if c=true then some (.str (tF ""),s)else bnd (bnd (Dn (n+4) 194 [.str e.q,.loc 1] [] s) λ y s=>binR s .Add (.str (tF "</")) y) λ y s=>adds y gt1 s)=some (.str (if h=true then tF "" else closes (Fo G.c e.q)),Bw (prD G.c) (ps.map entV) x' .t a'):=by
  cases h with
  | true=>rfl
  | false=>
   show bnd (bnd (Dn (n+4) 194 [.str e.q,.loc 1] [] (Bw (prD G.c) (ps.map entV) x' .t a')) λ y s=>binR s .Add (.str (tF "</")) y) (λ y s=>adds y gt1 s)=_
   rw[j7a (n+2) (ps.map entV) x' a' hc hq,q0c,addB lb hf tA,q0c,adds,addB (catB lb hf) lg tA];rfl
 have f2:=e2.trans (w1t e3 (jH (zD hz (show _<=20 by split;exact Nat.zero_le _;exact hl)) tA))
 rw[List.map_append]
 exact(stq f0 (λ v s=>sq (q9w (Dn (n+4)) v s) λ v s=>sq (q7d (Dn (n+4)) v s) λ v s=>some (.next,v,s)) rfl).trans ((stq f1 (λ v s=>sq (q7d (Dn (n+4)) v s) λ v s=>some (.next,v,s)) rfl).trans (stq f2 (λ v s=>some (.next,v,s)) rfl))
theorem j2y (H:Inv3 G.c k x (ps++[e]) d a) (hc:G.c<8) (hk:k<=130):Nxt G (λ x' ps' d' a'=>Inv3 G.c (k+1) x' ps' d' a'/\ps'=ps/\(ps=[]->Tx (8 * (k+1)) 0 d' a')) (w1i (Dn (n+4)) (vM G ⟨kf,uri,sA d,move,rest,mh,ly,told,some (.bool (hid (ps++[e]))),attrs,lr,mm,needs,scope,lh,shown,lf,new,ll⟩) (Bw (prD G.c) ((ps++[e]).map entV) x .t a)):=by
 obtain⟨vs,hs,P,he,s,hr⟩:=H
 have hdz:d.length<=8000000:=jH s.dz (jH (zJ 7000 hk) tA)
 have hq:=(s.en e (he▸List.mem_append_right _ (zL ..))).k
 have d1:7000 * k+20<=7000 * (k+1):=Nat.add_le_add_left (show 20<=7000 by decide) (7000 * k)
 have hpl:ps.length+1<=k:=by have:=s.pl;rw[<-he,zI]at this;exact this
 rcases j6o he with⟨rfl,rfl⟩|⟨h',rfl,rfl⟩
 ·have ig0:a.ign=0:=s.ig
  have sp:=s.sp
  rw[List.append_nil]at sp
  obtain⟨y,P',a',ec,w,g,sp',l,t⟩:=v3s (n+1) (prD G.c) (ps.map entV) hc s.w ig0 sp (λ e h=>s.en e (List.mem_append_left _ h)) (jH (zJ 8 hk) tA) (jH hk tA) (jH s.pz (jH (zJ 4 hk) tA))
  have hv:=j6f s.v
  rw[List.append_nil]at hv
  rw[hv]
  obtain⟨hl,e1⟩:=z9z n G kf uri move rest mh ly told attrs lr mm needs scope lh shown lf new ll false hc hq hdz ec
  have k2:8 * k+2<=8 * (k+1):=Nat.add_le_add_left (show 2<=8 by decide) (8 * k)
  refine⟨⟨kf,uri,none,move,rest,sA e.q,ly,told,some (.bool false),attrs,lr,mm,needs,scope,lh,shown,lf,new,ll⟩,_,ps,d++closes (Fo G.c e.q),a',e1,⟨ps,[],P',(List.append_nil _).symm,⟨w.le k2 (Nat.le_succ k),g,λ e h=>s.v e (List.mem_append_left _ h),(λ J J h=>nomatch h),λ e h=>?_,?_,?_,?_,?_⟩,id⟩,rfl,λ J=>t.le k2 (jZ 0)⟩
  ·rw[List.append_nil]at h
   exact(s.en e (List.mem_append_left _ (List.mem_append_left _ h))).grow y
  ·rw[List.append_nil];exact sp'
  ·exact jH l (jH s.pz (zJ 4 (Nat.le_succ k)))
  ·rw[List.append_nil];exact jH (Nat.le_succ _) (jH hpl (Nat.le_succ k))
  ·exact jH (catB s.dz hl) d1
 ·have hig:a.ign=((h'.length+1:Nat):Int):=by rw[s.ig,zI];rfl
  have ec:=v0n (n+3) (prD G.c) ((vs++h').map entV) x a (q:=e.q) hig
  rw[List.append_assoc,k9z s.h,<-List.append_assoc]
  obtain⟨hl,e1⟩:=z9z n G kf uri move rest mh ly told attrs lr mm needs scope lh shown lf new ll true hc hq hdz ec
  have er:vs≠[]:=hr λ z=>List.cons_ne_nil _ _ (List.append_eq_nil_iff.mp z).2
  refine⟨⟨kf,uri,none,move,rest,sA e.q,ly,told,some (.bool true),attrs,lr,mm,needs,scope,lh,shown,lf,new,ll⟩,_,vs++h',d,_,by rw[<-q2n d];exact e1,⟨vs,h',P,rfl,⟨(s.w.wi _).le (zJ 8 (Nat.le_succ k)) (Nat.le_succ k),?_,s.v,λ z t hz=>?_,λ e h=>?_,?_,jH s.pz (zJ 4 (Nat.le_succ k)),jH (Nat.le_succ _) (jH hpl (Nat.le_succ k)),jH s.dz (zJ 7000 (Nat.le_succ k))⟩,λ J=>er⟩,rfl,λ z=>absurd (List.append_eq_nil_iff.mp z).1 er⟩
  ·exact(Int.add_sub_cancel (h'.length:Int) 1:((h'.length:Int)+1) - 1=_)
  ·exact s.h z (t++[e]) (by rw[hz];rfl)
  ·refine s.en e ?_
   rw[<-List.append_assoc];exact List.mem_append_left _ h
  ·refine Sp.wi ?_ _
   have sp:=s.sp
   rw[<-List.append_assoc,List.map_append]at sp
   exact⟨sp.f,sp.n,λ j hj=>sp.t j (List.mem_append_left _ hj),sp.s,sp.d⟩
theorem j6b (H:Inv3 G.c k x ps d a) (hc:G.c<8) (hk:k<=130) (hp:ps≠[]):Nxt G (λ x' ps' d' a'=>Inv3 G.c (k+1) x' ps' d' a'/\ps'=ps) (w1j (Dn (n+4)) (vM G ⟨kf,uri,sA d,move,rest,mh,ly,told,some (.bool (hid ps)),attrs,lr,mm,needs,scope,lh,shown,lf,new,ll⟩) (Bw (prD G.c) (ps.map entV) x .t a)):=by
 obtain⟨vs,hs,P,rfl,s,hr⟩:=H
 have er:=hr hp
 have hdz:d.length<=8000000:=jH s.dz (jH (zJ 7000 hk) tA)
 have tail:∀{h:Bool} {a':W},Dn (n+4) 97 [.obj 4,.str tS] [] (Bw (prD G.c) ((vs++hs).map entV) x .t a)=some (.none,Bw (prD G.c) ((vs++hs).map entV) x .t a')->
   w1j (Dn (n+4)) (vM G ⟨kf,uri,sA d,move,rest,mh,ly,told,some (.bool h),attrs,lr,mm,needs,scope,lh,shown,lf,new,ll⟩) (Bw (prD G.c) ((vs++hs).map entV) x .t a)
    = some (.next,vM G ⟨kf,uri,sA (d++if h=true then tF "" else tS),move,rest,mh,ly,told,some (.bool h),attrs,lr,mm,needs,scope,lh,shown,lf,new,ll⟩,Bw (prD G.c) ((vs++hs).map entV) x .t a'):=λ{h a'} ec=>by
  have f0:=es_t (t_0 (Dn (n+4)) G ⟨kf,uri,sA d,move,rest,mh,ly,told,some (.bool h),attrs,lr,mm,needs,scope,lh,shown,lf,new,ll⟩ (prD G.c) ((vs++hs).map entV) x a) ec
  have e1:(bnd (some (h,Bw (prD G.c) ((vs++hs).map entV) x .t a')) λ c s=>if c=true then some (AV.str (tF ""),s)else some (AV.str (tF "t"),s))=some (AV.str (if h=true then tF "" else tS),Bw (prD G.c) ((vs++hs).map entV) x .t a'):=by cases h<;>rfl
  have f1:=(t_1 (Dn (n+4)) G ⟨kf,uri,sA d,move,rest,mh,ly,told,some (.bool h),attrs,lr,mm,needs,scope,lh,shown,lf,new,ll⟩ d h (Z:=Bw (prD G.c) ((vs++hs).map entV) x .t a')).trans (w1t e1 (jH (zD hdz (show _<=1 by split;exact Nat.zero_le _;exact jZ 1)) tA))
  exact(stq f0 (λ v s=>sq (q9x (Dn (n+4)) v s) λ v s=>some (.next,v,s)) rfl).trans (stq f1 (λ v s=>some (.next,v,s)) rfl)
 have k8:8 * k<=8 * (k+1):=zJ 8 (Nat.le_succ k)
 have k4:P.length<=4 * (k+1):=jH s.pz (zJ 4 (Nat.le_succ k))
 cases hs with
 | nil=>
  obtain⟨a',ec,w,g,dl,nl⟩:=j8p (n+3) (prD G.c) ((vs++[]).map entV) s.w s.ig (λ z=>er (List.reverse_eq_nil_iff.mp z)) (jH hk tA)
  rw[j6f s.v]
  exact⟨⟨kf,uri,none,move,rest,mh,ly,told,some (.bool false),attrs,lr,mm,needs,scope,lh,shown,lf,new,ll⟩,x,vs++[],d++tS,a',tail (h:=false) ec,⟨vs,[],P,rfl,⟨w.le k8 (jZ _),g,s.v,s.h,s.en,⟨by rw[nl,dl];exact s.sp.f,by rw[nl];exact s.sp.n,by rw[nl];exact s.sp.t,by rw[nl];exact s.sp.s,by rw[dl];exact s.sp.d⟩,k4,Nat.le_succ_of_le s.pl,jH (catB s.dz (jZ tS.length)) (Nat.add_le_add_left (show 1<=7000 by decide) (7000 * k))⟩,hr⟩,rfl⟩
 | cons z t=>
  have ec:=j5i (n+3) (prD G.c) ((vs++z::t).map entV) x a tS (k:=t.length) s.ig
  rw[k9y (s.h z t rfl)]
  exact⟨⟨kf,uri,none,move,rest,mh,ly,told,some (.bool true),attrs,lr,mm,needs,scope,lh,shown,lf,new,ll⟩,x,vs++z::t,d++Str.empty,a,tail (h:=true) ec,⟨vs,z::t,P,rfl,by rw[q2n];exact⟨s.w.le k8 (Nat.le_succ k),s.ig,s.v,s.h,s.en,s.sp,k4,Nat.le_succ_of_le s.pl,jH s.dz (zJ 7000 (Nat.le_succ k))⟩,hr⟩,rfl⟩
end
theorem v1l (C:q0b) (pr:tC) (pa:tW) (x:Store) (a:W):(bnd (calA C (.bf .len) (some (.loc 3,Bw pr pa x .t a))) λ y s=>cmpT s .Gt y (.int 1))=some (decide ((pa.length:Int) > 1),Bw pr pa x .t a):=nr tK
theorem Nxt.sq {G:Fx} {Q:Store->List Ent->Str->W->Prop} {m:ResS} (h:Nxt G Q m):Nxt G Q (sq m λ v s=>some (.next,v,s)):=by
 obtain⟨v,x,ps,d,a,e,h⟩:=h
 exact⟨v,x,ps,d,a,by rw[e];rfl,h⟩
abbrev Mv (G:Fx) (k:Nat) (ps:List Ent) (two:Prop) (m:ResS):Prop:=Nxt G (λ x ps' d a=>Inv3 G.c k x ps' d a/\ps'≠[]/\ps'.length<=ps.length+1/\(two->ps'.length<=1\/ps'.length+1=ps.length)) m
abbrev Done (G:Fx) (m:ResS):Prop:=Nxt G (λ x ps d a=>Tx 2000 0 d a/\d.length<=1000000) m
theorem k0a {ps:List Ent} (h:ps≠[]):∃qs e,ps=qs++[e]:=⟨_,_,(List.dropLast_concat_getLast h).symm⟩
theorem Inv3.pl {c k:Nat} {x:Store} {ps:List Ent} {d:Str} {a:W} (h:Inv3 c k x ps d a):ps.length<=k/\d.length<=7000 * k:=by
 obtain⟨vs,hs,P,rfl,s,_⟩:=h
 exact⟨s.pl,s.dz⟩
section
variable (n:Nat) (G:Fx) (v:Lo) (m b:Int)
theorem j2z (C:q0b) (hp:ps.length<=1000):∃w:Lo,q2c C (mv (m,b)) (vM G (v.s_due (sA d))) (Bw (prD G.c) (ps.map entV) x .t a)
  = sq (iff (some (decide (m<2),Bw (prD G.c) (ps.map entV) x .t a)) (q8f C (vM G ⟨w.k,w.uri,sA d,some (.int m),some (.int b),w.mh,w.ly,w.told,some (.bool (hid ps)),w.attrs,w.lr,w.mm,w.needs,w.scope,w.lh,w.shown,w.lf,w.new,w.ll⟩)) (w1h C (vM G ⟨w.k,w.uri,sA d,some (.int m),some (.int b),w.mh,w.ly,w.told,some (.bool (hid ps)),w.attrs,w.lr,w.mm,w.needs,w.scope,w.lh,w.shown,w.lf,w.new,w.ll⟩))) λ v s=>some (.next,v,s):=by
 obtain⟨kf,uri,mj,move,rest,mh,ly,told,hidden,attrs,lr,mm,needs,scope,lh,shown,lf,new,ll⟩:=v
 refine⟨⟨kf,uri,mj,move,rest,mh,ly,told,hidden,attrs,lr,mm,needs,scope,lh,shown,lf,new,ll⟩,?_⟩
 have e0:=v_0 C G ⟨kf,uri,sA d,move,rest,mh,ly,told,hidden,attrs,lr,mm,needs,scope,lh,shown,lf,new,ll⟩ m b (Z:=Bw (prD G.c) (ps.map entV) x .t a)
 have e1:=v0z C G ⟨kf,uri,sA d,some (.int m),some (.int b),mh,ly,told,hidden,attrs,lr,mm,needs,scope,lh,shown,lf,new,ll⟩ (Z:=Bw (prD G.c) (ps.map entV) x .t a) (ps:=ps) rfl hp
 have e2:=v_1 C G ⟨kf,uri,sA d,move,some (.int b),mh,ly,told,some (.bool (hid ps)),attrs,lr,mm,needs,scope,lh,shown,lf,new,ll⟩ m (Z:=Bw (prD G.c) (ps.map entV) x .t a)
 exact e0.trans ((stq e1 (λ v s=>Mine.sq (q5g C v s) λ v s=>some (.next,v,s)) rfl).trans (congrArg (λ m=>Mine.sq m λ v s=>some (q1c.next,v,s)) e2))
theorem z7v (ha:m≠4) (H:Inv3 G.c k x ps d a) (hc:G.c<8) (hk:k<=130) (hp:m<2\/ps≠[]):Mv G (k+1) ps (m=2) (q2c (Dn (n+4)) (mv (m,b)) (vM G (v.s_due (sA d))) (Bw (prD G.c) (ps.map entV) x .t a)):=by
 obtain⟨w,e⟩:=j2z G v m b (Dn (n+4)) (ps:=ps) (d:=d) (x:=x) (a:=a) (jH H.pl.1 (jH hk tA))
 rw[e]
 refine Nxt.sq ?_
 by_cases h:m<2
 ·rw[j0c (show _=some (true,_)from by rw[decide_eq_true h])]
  obtain⟨v2,x2,ps2,d2,a2,e2,h2,h3,h4⟩:=k9x n G w.k w.uri (some (.int m)) w.mh w.ly w.told w.attrs w.lr w.mm w.needs w.scope w.lh w.shown w.lf w.new w.ll b hc hk H
  exact⟨v2,x2,ps2,d2,a2,e2,h2,h3,zA h4,λ z=>absurd h (by rw[z];decide)⟩
 ·have hp:=hp.resolve_left h
  rw[j0b (show _=some (false,_)from by rw[decide_eq_false h])]
  have e5:=v_5 (Dn (n+4)) G ⟨w.k,w.uri,sA d,some (.int m),some (.int b),w.mh,w.ly,w.told,some (.bool (hid ps)),w.attrs,w.lr,w.mm,w.needs,w.scope,w.lh,w.shown,w.lf,w.new,w.ll⟩ m (Z:=Bw (prD G.c) (ps.map entV) x .t a)
  refine(show _=_ from e5)▸Nxt.sq ?_
  have et:(orT (some (decide (m=4),Bw (prD G.c) (ps.map entV) x .t a)) λ s=>orT (andT (some (decide (m=2),s)) λ s=>andT (bnd (calA (Dn (n+4)) (.bf .len) (some (.loc 3,s))) λ y s=>cmpT s .Gt y (.int 1)) λ s=>some (true,s)) λ s=>some (false,s))=some (decide (m=2)&&decide (((ps.map entV).length:Int) > 1),Bw (prD G.c) (ps.map entV) x .t a):=by
   rw[decide_eq_false ha]
   by_cases q:m=2
   ·rw[decide_eq_true q]
    show(orT (andT (bnd (calA (Dn (n+4)) (.bf .len) (some (.loc 3,Bw (prD G.c) (ps.map entV) x .t a))) λ y s=>cmpT s .Gt y (.int 1)) λ s=>some (true,s)) λ s=>some (false,s))=_
    rw[v1l]
    cases decide (((ps.map entV).length:Int) > 1)<;>rfl
   ·rw[decide_eq_false q];rfl
  by_cases q:(decide (m=2)&&decide (((ps.map entV).length:Int) > 1))=true
  ·rw[q]at et
   have ql:((ps.map entV).length:Int) > 1:=of_decide_eq_true ((Bool.and_eq_true ..).mp q).2
   obtain⟨qs,z,rfl⟩:=k0a hp
   obtain⟨v2,x2,ps2,d2,a2,e2,h2,rfl,_⟩:=j2y n G w.k w.uri (some (.int m)) (some (.int b)) w.mh w.ly w.told w.attrs w.lr w.mm w.needs w.scope w.lh w.shown w.lf w.new w.ll H hc hk
   have hl:(ps2++[z]).length=ps2.length+1:=zI
   refine⟨v2,x2,ps2,d2,a2,(j0c et).trans e2,h2,λ z=>?_,by rw[hl];exact jH (Nat.le_succ _) (Nat.le_succ _),λ J=>.inr hl.symm⟩
   rw[z]at ql
   exact absurd ql (by decide:¬ ((1:Nat):Int) > 1)
  ·rw[Bool.eq_false_iff.mpr q]at et
   obtain⟨v2,x2,ps2,d2,a2,e2,h2,rfl⟩:=j6b n G w.k w.uri (some (.int m)) (some (.int b)) w.mh w.ly w.told w.attrs w.lr w.mm w.needs w.scope w.lh w.shown w.lf w.new w.ll H hc hk hp
   refine⟨v2,x2,ps2,d2,a2,(j0b et).trans e2,h2,hp,Nat.le_succ _,λ z=>.inl ?_⟩
   rw[zH]at q
   exact Nat.le_of_not_lt λ y=>q ((Bool.and_eq_true ..).mpr ⟨decide_eq_true z,decide_eq_true (Int.ofNat_lt.mpr y)⟩)
theorem j6a (H:Inv3 G.c k x ps d a) (hc:G.c<8) (hk:k<=130) (hp:∃e,ps=[e]):Done G (q2c (Dn (n+4)) (mv (4,0)) (vM G (v.s_due (sA d))) (Bw (prD G.c) (ps.map entV) x .t a)):=by
 obtain⟨w,e⟩:=j2z G v 4 0 (Dn (n+4)) (ps:=ps) (d:=d) (x:=x) (a:=a) (jH H.pl.1 (jH hk tA))
 rw[e]
 refine Nxt.sq ?_
 rw[j0b (show _=some (false,_)from by rw[decide_eq_false tA])]
 have e5:=v_5 (Dn (n+4)) G ⟨w.k,w.uri,sA d,some (.int 4),some (.int 0),w.mh,w.ly,w.told,some (.bool (hid ps)),w.attrs,w.lr,w.mm,w.needs,w.scope,w.lh,w.shown,w.lf,w.new,w.ll⟩ 4 (Z:=Bw (prD G.c) (ps.map entV) x .t a)
 refine(show _=_ from e5)▸Nxt.sq ?_
 obtain⟨z,rfl⟩:=hp
 obtain⟨v2,x2,ps2,d2,a2,e2,h2,rfl,h3⟩:=j2y n G (ps:=[]) w.k w.uri (some (.int 4)) (some (.int 0)) w.mh w.ly w.told w.attrs w.lr w.mm w.needs w.scope w.lh w.shown w.lf w.new w.ll H hc hk
 exact⟨v2,x2,[],d2,a2,(j0c (by rw[decide_eq_true rfl];rfl)).trans e2,(h3 rfl).le (jH (zJ 8 (Nat.succ_le_succ hk)) tA) (jZ 0),jH h2.pl.2 (jH (zJ 7000 (Nat.succ_le_succ hk)) tA)⟩
theorem Nxt.step {Q Q':Store->List Ent->Str->W->Prop} {f:AV->Vs->Store->ResS} {y:AV} {L:tW} {V:Vs} {Z:Store} (h:Nxt G Q (f y V Z))
  (k:∀(v:Lo) (x:Store) (ps:List Ent) (d:Str) (a:W),Q x ps d a->Nxt G Q' (forA f L (vM G (v.s_due (sA d))) (Bw (prD G.c) (ps.map entV) x .t a))):Nxt G Q' (forA f (y::L) V Z):=by
 obtain⟨v,x,ps,d,a,e,h⟩:=h
 rw[show forA f (y::L) V Z=forA f L (vM G (v.s_due (sA d))) (Bw (prD G.c) (ps.map entV) x .t a)from stq e (λ v s=>forA f L v s) rfl]
 exact k v x ps d a h
end
theorem v2i {ps:List Ent} (h:ps≠[]) (hl:ps.length<=1):∃e,ps=[e]:=by
 obtain⟨qs,e,rfl⟩:=k0a h
 rw[zI]at hl
 exact⟨e,by rw[List.length_eq_zero_iff.mp (Nat.le_zero.mp (Nat.le_of_succ_le_succ hl))];rfl⟩
theorem k5s (n:Nat) (G:Fx) (hc:G.c<8):∀(j k:Nat) (v:Lo) (x:Store) (ps:List Ent) (d:Str) (a:W),Inv3 G.c k x ps d a->ps≠[]->ps.length<=j+1->k+j<=130->
  Done G (forA (q2c (Dn (n+4))) (List.replicate j (mv (2,0))++[mv (4,0)]) (vM G (v.s_due (sA d))) (Bw (prD G.c) (ps.map entV) x .t a))
 | 0,k,v,x,ps,d,a,H,hp,hl,hk=>(j6a n G v H hc hk (v2i hp hl)).step G λ v x ps d a h=>⟨v,x,ps,d,a,rfl,h⟩
 | j+1,k,v,x,ps,d,a,H,hp,hl,hk=>by
  rw[List.replicate_succ,List.cons_append]
  refine(z7v n G v 2 0 tA H hc (jH (zC _ _) hk) (.inr hp)).step G λ v x ps' d a ⟨h1,h2,_,h4⟩=>k5s n G hc j (k+1) v x ps' d a h1 h2 ?_ (jH (zA (Nat.add_right_comm ..)) hk)
  rcases h4 rfl with h|h
  ·exact jH h (Nat.le_add_left _ _)
  ·exact Nat.le_of_succ_le_succ (jH (zA h) hl)
theorem k0j (n:Nat) (G:Fx) (hc:G.c<8) (j:Nat):∀(L:List (Int×Int)) (k:Nat) (v:Lo) (x:Store) (ps:List Ent) (d:Str) (a:W),(∀l∈L,l.1≠4)->Inv3 G.c k x ps d a->ps≠[]->ps.length+L.length<=j+1->k+L.length+j<=130->
  Done G (forA (q2c (Dn (n+4))) (L.map mv++(List.replicate j (mv (2,0))++[mv (4,0)])) (vM G (v.s_due (sA d))) (Bw (prD G.c) (ps.map entV) x .t a))
 | [],k,v,x,ps,d,a,_,H,hp,hl,hk=>k5s n G hc j k v x ps d a H hp hl hk
 | l::L,k,v,x,ps,d,a,h4,H,hp,hl,hk=>by
  rw[List.length_cons]at hl hk
  refine(z7v n G v l.1 l.2 (h4 l (zL ..)) H hc (jH (jH (zC _ _) (zC _ _)) hk) (.inr hp)).step G λ v x ps' d a ⟨h1,h2,h3,_⟩=>k0j n G hc j L (k+1) v x ps' d a (λ z hz=>h4 z (zG _ hz)) h1 h2 (jH (Nat.add_le_add_right h3 _) ?_) (jH (Nat.add_le_add_right (zA (Nat.add_right_comm ..)) j) hk)
  rw[Nat.add_right_comm];exact hl
end Mine
end
noncomputable section
set_option tactic.hygienic false
namespace Mine
inductive Rp (v:Nat) (y z:List Nat):List Nat->List Nat->Prop
 | nil:Rp v y z [] []
 | ch {c:Nat} {l m:List Nat} (h:c≠v) (r:Rp v y z l m):Rp v y z (c::l) (c::m)
 | pat {l m:List Nat} (r:Rp v y z l m):Rp v y z (v::(y++l)) (z++m)
section
theorem Rp.app {l m l' m':List Nat} (h:Rp v y z l m) (h':Rp v y z l' m'):Rp v y z (l++l') (m++m'):=by
 induction h with
 | nil=>exact h'
 | ch h _ ih=>exact .ch h ih
 | pat _ ih=>
  rw[List.cons_append,List.append_assoc,List.append_assoc]
  exact .pat ih
theorem Rp.free:∀{l:List Nat},v∉l->Rp v y z l l
 | [],_=>.nil
 | c::l,h=>.ch (λ e=>h (e▸zL ..)) (Rp.free λ m=>h (zG _ m))
noncomputable def pcs (w:List Nat) (ps:List (List Nat)):List Nat:=ps.flatMap (w++·)
theorem w0x (w p:List Nat) (ps:List (List Nat)):pcs w (p::ps)=w++(p++pcs w ps):=by
 unfold pcs;rw[List.flatMap_cons,List.append_assoc]
theorem Rp.parts {l m:List Nat} (h:Rp v y z l m):∃p ps,l=p++pcs (v::y) ps/\m=p++pcs z ps/\∀q∈p::ps,v∉q:=by
 induction h with
 | nil=>exact⟨[],[],rfl,rfl,λ q hq=>zF hq▸List.not_mem_nil⟩
 | @ch c l m h _ ih=>
  obtain⟨p,ps,rfl,rfl,hf⟩:=ih
  refine⟨c::p,ps,rfl,rfl,λ q hq=>?_⟩
  rcases List.mem_cons.mp hq with rfl|hq
  ·exact λ k=>(List.mem_cons.mp k).elim (λ e=>h e.symm) (hf p (zL ..))
  ·exact hf q (zG _ hq)
 | pat _ ih=>
  obtain⟨p,ps,rfl,rfl,hf⟩:=ih
  refine⟨[],p::ps,?_,?_,λ q hq=>(List.mem_cons.mp hq).elim (λ e=>e▸List.not_mem_nil) (hf q)⟩
  ·exact(w0x (v::y) p ps).symm
  ·exact(w0x ..).symm
end
section
open Builtin Builtin.Str StrLaws
variable {Y:Str} {v:Nat} {y:List Nat} (hY:lst Y=v::y)
include hY
theorem j2o {k:Nat}:StrLaws.At x Y x.length k↔∃r,(lst x).drop k=v::y++r:=by
 have hl:Y.length=(v::y).length:=by rw[<-hY,q0t]
 unfold StrLaws.At
 rw[subAt_eq,hl]
 refine⟨λ⟨h1,h2⟩=>?_,λ⟨r,h⟩=>?_⟩
 ·have e:((lst x).drop k).take (v::y).length=v::y:=(eq_of_beq h2).trans hY
  exact⟨((lst x).drop k).drop (v::y).length,by rw[<-e,List.length_take,Nat.min_eq_left (by rw[List.length_drop,q0t];exact Nat.le_sub_of_add_le (Nat.add_comm k _▸h1)),List.take_append_drop]⟩
 ·have e:=congrArg List.length h
  rw[List.length_drop,q0t,zI]at e
  refine⟨?_,beq_iff_eq.mpr ?_⟩
  ·have:k<x.length:=Nat.lt_of_sub_pos (by rw[e];exact jK (Nat.succ_pos _) (zC _ _))
   rw[Nat.add_comm]
   exact Nat.add_le_of_le_sub (zB this) (by rw[e];exact zC _ _)
  ·show((lst x).drop k).take (v::y).length=lst Y
   rw[h,hY,List.take_left]
theorem at_v {k:Nat} (h:StrLaws.At x Y x.length k):(lst x)[k]? = some v:=by
 obtain⟨r,e⟩:=(j2o hY).mp h
 have:=congrArg (·[0]?) e
 rw[List.getElem?_drop]at this
 exact this
theorem j1h:∀(ps:List (List Nat)) (p:List Nat) (a:Nat) (cuts:List Nat) (f:Nat),ChainG x Y x.length a cuts f->(∀k,f<=k->¬ StrLaws.At x Y x.length k)->a<=x.length->(lst x).drop a=p++pcs (v::y) ps->(∀q∈p::ps,v∉q)->(partsFrom x Y.length a cuts).map lst=p::ps:=by
 have hl:Y.length=(v::y).length:=by rw[<-hY,q0t]
 have inp:∀{p r:List Nat} {a k:Nat},(lst x).drop a=p++r->v∉p->a<=k->StrLaws.At x Y x.length k->a+p.length<=k:=λ{p r a k} e hp hk hA=>by
  refine Nat.le_of_not_lt λ hlt=>hp ?_
  have h1:=at_v hY hA
  have h2:k - a<p.length:=Nat.sub_lt_left_of_lt_add hk hlt
  have h3:(p++r)[k - a]? = some v:=by rw[<-e,List.getElem?_drop,Nat.add_sub_cancel' hk];exact h1
  rw[List.getElem?_append_left h2]at h3
  exact List.mem_of_getElem? h3
 intro ps
 induction ps with
 | nil=>
  intro p a cuts f hc hn ha e hf
  rw[show pcs (v::y) []=[]from rfl,List.append_nil]at e
  cases cuts with
  | nil=>
   show[lst (strSub x a x.length)]=_
   rw[lst,strSub_toList,show(x.cps.toList.drop a)=p from e,List.take_of_length_le]
   rw[<-e,List.length_drop,q0t];exact jZ _
  | cons c r=>
   have h1:=inp (r:=[]) (by rw[List.append_nil];exact e) (hf p (zL ..)) hc.1 hc.2.1
   have h2:a+p.length=x.length:=by rw[<-e,List.length_drop,q0t,Nat.add_sub_cancel' ha]
   have h3:=hc.2.1.1
   exact absurd (jH h3 (h2▸h1)) (Nat.not_le.mpr (by rw[hl];exact Nat.lt_add_of_pos_right (Nat.succ_pos _)))
 | cons p' ps ih=>
  intro p a cuts f hc hn ha e hf
  have hp:=hf p (zL ..)
  have hA:StrLaws.At x Y x.length (a+p.length):=(j2o hY).mpr ⟨p'++pcs (v::y) ps,by
   rw[<-List.drop_drop,e,List.drop_left,w0x]⟩
  cases cuts with
  | nil=>exact absurd hA (hn _ (jH (zA (show f=a from hc)) (zC _ _)))
  | cons c r=>
   obtain⟨h1,h2,h3,h4⟩:=hc
   have hce:c=a+p.length:=Nat.le_antisymm (Nat.le_of_not_lt λ q=>h3 _ (zC _ _) q hA) (inp e hp h1 h2)
   have ed:(lst x).drop (c+Y.length)=p'++pcs (v::y) ps:=by
    rw[hce,<-List.drop_drop,<-List.drop_drop,e,List.drop_left,w0x,hl]
    exact List.drop_left ..
   have k:=ih p' (c+Y.length) r f h4 hn h2.1 ed λ q hq=>hf q (zG _ hq)
   show lst (strSub x a c)::(partsFrom x Y.length (c+Y.length) r).map lst=_
   rw[k,lst,strSub_toList,hce,Nat.add_sub_cancel_left,show(x.cps.toList.drop a)=_ from e,List.take_left]
omit hY in
theorem k0q (z:Str):∀(ts:tL) (t:Str),lst (Str.join z (t::ts))=lst t++pcs (lst z) (ts.map lst)
 | [],t=>(List.append_nil _).symm
 | s::ts,t=>by
  show lst (t++z++Str.join z (s::ts))=_
  rw[q0j,q0j,k0q z ts s,List.map_cons,w0x,List.append_assoc]
theorem k2p {z:Str} {m:List Nat} (h:Rp v y (lst z) (lst x) m):lst (Txt.replace x Y z)=m:=by
 obtain⟨p,ps,e,rfl,hf⟩:=h.parts
 have hl:Y.length=(v::y).length:=by rw[<-hY,q0t]
 obtain⟨f,hG,hn⟩:=occ_tight x Y (by rw[hl];exact Nat.succ_le_succ (Nat.zero_le _))
 have k:=j1h hY ps p 0 _ f hG hn (Nat.zero_le _) e hf
 unfold Txt.replace
 rw[show(Y.length==0)=false from beq_false_of_ne (by rw[hl];exact Nat.succ_ne_zero _),Bool.false_and,Bool.or_false]
 generalize occurrences x Y 0 x.length (x.length+1)=cuts at k
 cases cuts with
 | nil=>
  rw[if_pos (show([]:List Nat).isEmpty=true from rfl)]
  have k2:[lst (strSub x 0 x.length)]=p::ps:=k
  obtain⟨k3,rfl⟩:=List.cons.inj k2
  rw[e,<-k3];rfl
 | cons c r=>
  rw[if_neg (show ¬ (c::r).isEmpty=true from Bool.false_ne_true),glued_eq_join,partsBetween_eq]
  obtain⟨t,ts,et⟩:=partsFrom_ne x Y.length 0 (c::r)
  rw[et]at k ⊢
  obtain⟨k1,k2⟩:=List.cons.inj k
  rw[k0q z ts t,k1,k2]
end
end Mine
end
noncomputable section
set_option tactic.hygienic false
set_option backward.match.sparseCases false
set_option maxHeartbeats 4000000
namespace Mine
noncomputable abbrev vC (sc u:AV) (mj ends near mm keys:Option AV):Vs:=[some sc,some u,some (.loc 1),mj,ends,near,some (.obj 2),keys,mm]
def aug3 (j:Nat) (V:Vs) (d:Str) (m:Res):ResS:=bnd m λ y s=>(augA .Add (.str d) y).bind λ z=>some (.next,setI V j z,s)
theorem k3w {j:Nat} {V:Vs} {d t:Str} {m:Res} {Z:Store} (h:m=some (.str t,Z)) (hz:d.length+t.length<=10000000):aug3 j V d m=some (.next,setI V j (.str (d++t)),Z):=by
 rw[h]
 exact stb (show augA .Add (.str d) (.str t)=some (.str (d++t))from by show(catA d t).map AV.str=_;rw[z9t hz];rfl) (λ z=>some (q1c.next,setI V j z,Z)) rfl
def unp3 (V:Vs) (x:AV) (s:Store):ResS:=bnd ((q1g s x).bind λ xs=>((asC xs.reverse λ y r=>(asC r λ z r=>(putE r (setI (setI V 5 y) 3 z))))).map λ z=>(z,s)) λ vs s=>some (.next,vs,s)
section
variable (n:Nat) (C:q0b) (sc:AV) (u q d e t:Str) (mj ends near mm keys:Option AV) (L:tW)
theorem k_0:(sq (q2z (Dn (n+1)) [some sc,some (.str u),none,none,none,none,none,none,none] [.code]) λ v s=>sq (q3a (Dn (n+1)) v s) λ v s=>q3b (Dn (n+1)) v s)=some (.next,vC sc (.str u) (sA (tF "")) (sA (tF "")) (sA (tF "")) none none,Bw [] [] [] .c (w0 .c)):=nr tK
theorem k_3:q2a C (vC (.fl L) (.str u) mj ends near none none) Z=asg (vC (.fl L) (.str u) mj ends near none none) 7 (wlc (binR Z .Add (.fl [.int 0,.int 1,.int 0,.int 1]) (.fl L)) (q3w C) (none::none::vC (.fl L) (.str u) mj ends near none none)):=nr tK
theorem k_c1 (x:Int) (o0 o1:Option AV) (mx:tW):q3w C (.int x) (o0::o1::vC sc (.str u) mj ends near mm keys,mx) Z=bnd (q2h mx (k4g C (bnd (some (decide (x.fmod 2=1),Z)) λ c s=>if c=true then some (.str u,s)else some (.str (tF ""),s)) λ s=>some (.str (tF "a"),s))) λ r s=>some ((o0::some (.int x)::vC sc (.str u) mj ends near mm keys,r),s):=nr tK
theorem k_4:q3c C (vC sc (.str u) mj ends near mm (some (.fl L))) Z=forA (q4f C) L (vC sc (.str u) mj ends near mm (some (.fl L))) Z:=nr tK
theorem v5d:q4f C (.str q) (vC sc (.str u) mj ends near mm keys) Z=sq (q8j C (vC sc (.str u) mj ends near (sA q) keys) Z) λ v s=>sq (q5e C v s) λ v s=>sq (q3q C v s) λ v s=>sq (q1u C v s) λ v s=>sq (q1v C v s) λ v s=>some (.next,v,s):=nr tK
theorem k_l0 (x:Store) (a:W):q8j C (vC sc (.str u) mj ends near (sA q) keys) (Bw [] [] x .c a)=es (vC sc (.str u) mj ends near (sA q) keys) (cal2 C (.fn 113 (.obj 2)) (some (.str (tF ""),Bw [] [] x .c a)) λ s=>calA C (.fn 187) (some (.str q,s))):=nr tK
theorem k_l1 (x:Store) (a:W):q5e C (vC sc (.str u) mj ends near (sA q) keys) (Bw [] [] x .c a)=es (vC sc (.str u) mj ends near (sA q) keys) (C 120 [.obj 2,.str q,.fd [] []] [] (Bw [] [] x .c a)):=nr tK
theorem k_l2:q3q C (vC sc (.str u) (sA d) ends (sA t) (sA q) keys) Z=aug3 3 (vC sc (.str u) (sA d) ends (sA t) (sA q) keys) d (bnd (bnd (calA C (.fn 187) (some (.str q,Z))) λ y s=>cmpT s .Eq (.str t) y) λ c s=>if c=true then some (.str (tF "<a"),s)else bnd (bnd (calA C (.fn 187) (some (.str q,s))) λ y s=>binR s .Add (.str (tF "<a xmlns=\"")) y) λ y s=>adds y (tF "\"") s):=nr tK
theorem k_l3:q1u C (vC sc (.str u) (sA d) ends near (sA q) keys) Z=bnd (bnd (evC (binR Z .Add (.str d) (.str gt1)) λ s=>evC (calA C (.fn 187) (some (.str q,s))) λ s=>some ([],s)) λ xs s=>if xs.length<=sizeLine then some (.tup xs,s)else none) (unp3 (vC sc (.str u) (sA d) ends near (sA q) keys)):=nr tK
theorem k_u3:unp3 (vC sc (.str u) mj ends near mm keys) (.tup [.str d,.str t]) Z=some (.next,vC sc (.str u) (sA d) ends (sA t) mm keys,Z):=nr tK
theorem k_l4:q1v C (vC sc (.str u) mj (sA e) near mm keys) Z=aug3 4 (vC sc (.str u) mj (sA e) near mm keys) e (some (.str (tF "</a>"),Z)):=nr tK
theorem k_5:q3d C (vC sc (.str u) mj ends near mm (some (.fl L))) Z=forA (q5x C) L.reverse (vC sc (.str u) mj ends near mm (some (.fl L))) Z:=nr tK
theorem v5e (x:Store) (a:W):q5x C (.str q) (vC sc (.str u) mj ends near mm keys) (Bw [] [] x .c a)=sq (es (vC sc (.str u) mj ends near (sA q) keys) (C 133 [.obj 2,.str q] [] (Bw [] [] x .c a))) λ v s=>some (.next,v,s):=nr tK
theorem k_6:q2b C (vC sc (.str u) (sA d) (sA e) near mm keys) Z=bnd (bnd (bnd (cal C (.bi .sJoin (.str (tF ""))) (some (.loc 1,Z))) λ y s=>q9s y q9k bad s) λ y s=>bnd (binR s .Add (.str d) (.str e)) λ z s=>cmpR s .Eq y z) λ v s=>some (.ret v,vC sc (.str u) (sA d) (sA e) near mm keys,s):=nr tK
end
noncomputable def kb (f:Nat) (b:Bool):Nat:=if b=true then 3+f else 0
abbrev Ub (f:Nat) (b:Bool):Str:=uS (kb f b)
noncomputable def aS:Str:=tF "a"
theorem k2e:∀f<4,∀b∈[false,true],kb f b<7/\kU (kb f b)=Ub f b/\kL (kb f b)=aS/\Ub f b≠xmlS/\(Ub f b).length<=50/\((Ub f b).length=0↔b=false):=by decide +kernel
theorem j2k:∀f<4,∀b∈[false,true],∀c∈[false,true],Ub f b=Ub f c->b=c:=by decide +kernel
theorem bm (b:Bool):b∈[false,true]:=by cases b<;>decide
noncomputable def nb:List Bool->Bool
 | []=>false
 | b::_=>b
noncomputable def Nc (f:Nat) (b:Bool) (r:List Bool):List (Str×Str):=if b=nb r then[]else[(Ub f b,Str.empty)]
noncomputable def Pc (f:Nat):List Bool->List (Str×Str)
 | []=>[(xmlS,tF "xml")]
 | b::r=>Nc f b r++Pc f r
abbrev Dfl (p:Str×Str):Prop:=p.2=Str.empty\/p=(xmlS,tF "xml")
theorem k3o (f:Nat):∀r,∀p∈Pc f r,Dfl p
 | [],p,h=>.inr (zF h)
 | b::r,p,h=>(zK h).elim (λ h=>by
   unfold Nc at h
   split at h
   ·exact absurd h List.not_mem_nil
   ·rw[zF h];exact .inl rfl) (k3o f r p)
theorem k3p (f:Nat):∀r,(Pc f r).length<=r.length+1
 | []=>jZ _
 | b::r=>by
  rw[Pc,zI,List.length_cons,Nat.add_comm]
  refine zD (k3p f r) ?_
  unfold Nc
  split
  ·exact Nat.zero_le _
  ·exact jZ _
inductive Sh (f:Nat) (r:List Bool):Prop
 | z (e:Pc f r=[(xmlS,tF "xml")]) (h:nb r=false)
 | s (R:tE) (e:Pc f r=(Ub f (nb r),Str.empty)::R) (h:∀p∈R,Dfl p)
theorem j4f (f:Nat):∀r,Sh f r
 | []=>.z rfl rfl
 | b::r=>by
  by_cases h:b=nb r
  ·have e:Pc f (b::r)=Pc f r:=by rw[Pc,Nc,if_pos h];rfl
   cases j4f f r with
   | z e1 h1=>exact .z (e.trans e1) (h.trans h1)
   | s R e1 h1=>exact .s R (e.trans (e1.trans (by rw[<-h];rfl))) h1
  ·exact .s (Pc f r) (by rw[Pc,Nc,if_neg h];rfl) (k3o f r)
theorem k0t {u:Str} (hu:u≠xmlS):∀{L:tE} {S:tL},(∀p∈L,Dfl p)->Str.empty∈S->look u S L=none
 | [],_,_,_=>rfl
 | (a,p)::L,S,h,hS=>by
  have hA:Str.empty∈addK p S:=by
   unfold addK
   split
   ·exact hS
   ·exact List.mem_append_left _ hS
  have hc:(decide (a=u)&&!S.contains p)=false:=by
   rcases h (a,p) (zL ..)with e|e
   ·rw[show p=Str.empty from e,List.contains_iff_mem.mpr hS];cases decide (a=u)<;>rfl
   ·obtain⟨rfl,_⟩:=Prod.mk.inj e
    rw[decide_eq_false λ q=>hu q.symm];rfl
  show(if(decide (a=u)&&!S.contains p)=true then some p else look u (addK p S) L)=none
  rw[hc]
  exact k0t hu (λ p hp=>h p (zG _ hp)) hA
theorem pt_e:pt Str.empty aS=aS:=rfl
section
variable {f:Nat} (hf:f<4)
include hf
theorem v2t:Qn (Ub f b) aS (Pc f r) ((Ub f b,Str.empty)::np) aS (Nc f b r):=by
 obtain⟨_,_,_,hx,_,h0⟩:=k2e f hf b (bm b)
 have h2:w0u (Ub f b) ((Ub f b,Str.empty)::np)=some Str.empty:=if_pos rfl
 have new:∀{P:tE},look (Ub f b) [] P=none->(Ub f b).length≠0\/(q0o [] (P.map (·.2))).contains (tF "")=true->Qn (Ub f b) aS P ((Ub f b,Str.empty)::np) aS [(Ub f b,Str.empty)]:=λ h hu=>by
  have:=Qn.new (t:=aS) h hu h2
  rw[pt_e]at this
  exact this
 unfold Nc
 cases j4f f r with
 | z e h=>
  have hl:look (Ub f b) [] (Pc f r)=none:=by
   rw[e]
   exact(if_neg (by rw[decide_eq_false λ q=>hx q.symm];exact Bool.false_ne_true)).trans rfl
  by_cases q:b=nb r
  ·rw[if_pos q]
   exact .bare hl (h0.mpr (q.trans h)) (.inr (by rw[e];decide +kernel))
  ·rw[if_neg q]
   exact new hl (.inl λ z=>q ((h0.mp z).trans h.symm))
 | s R e h=>
  by_cases q:b=nb r
  ·rw[if_pos q,e,q]
   have:=Qn.hit (u:=Ub f (nb r)) (t:=aS) (dp:=(Ub f (nb r),Str.empty)::R) (np:=(Ub f (nb r),Str.empty)::np) (p:=Str.empty) (if_pos (by rw[decide_eq_true rfl];rfl))
   rw[pt_e]at this
   exact this
  ·rw[if_neg q,e]
   refine new ?_ (.inr (List.contains_iff_mem.mpr (((q4g _ [] List.nodup_nil).2 _).mpr (.inr (zL ..)))))
   refine(if_neg (by rw[decide_eq_false λ z=>q (j2k f hf _ (bm _) _ (bm _) z).symm];exact Bool.false_ne_true)).trans (k0t hx h (zL ..))
theorem v2s:Qn (Ub f b) aS (Pc f (b::r)) np aS []:=by
 obtain⟨_,_,_,hx,_,h0⟩:=k2e f hf b (bm b)
 cases j4f f (b::r)with
 | z e h=>
  exact .bare (by
   rw[e]
   exact(if_neg (by rw[decide_eq_false λ q=>hx q.symm];exact Bool.false_ne_true)).trans rfl) (h0.mpr h) (.inr (by rw[e];decide +kernel))
 | s R e h=>
  rw[e]
  have:=Qn.hit (u:=Ub f b) (t:=aS) (dp:=(Ub f b,Str.empty)::R) (np:=np) (p:=Str.empty) (if_pos (by rw[decide_eq_true rfl];rfl))
  rw[pt_e]at this
  exact this
end
inductive Lc (f:Nat) (x:Store):List AV->List Bool->Prop
 | nil:Lc f x [.loc 4] []
 | cons {j:Nat} {dl:tW} {b:Bool} {r:List Bool} (h:q1f x j=some ((Nc f b r).map q0a)) (t:Lc f x dl r):Lc f x (.loc (j+10)::dl) (b::r)
theorem Lc.lv {f:Nat} {x:Store} {dl:tW} {r:List Bool} (n0:tW) (h:Lc f x dl r):Lv .c n0 x dl (Pc f r):=by
 induction h with
 | nil=>exact .cons (L:=[(xmlS,tF "xml")]) (P:=[]) rfl .nil
 | cons h _ ih=>exact .cons ((lv_x ..).trans h) ih
theorem Lc.grow {f:Nat} {x:Store} {dl:tW} {r:List Bool} (h:Lc f x dl r) (y:Store):Lc f (x++y) dl r:=by
 induction h with
 | nil=>exact .nil
 | cons h _ ih=>exact .cons (q1q (q4w y (q6m h))) ih
theorem Lc.len {f:Nat} {x:Store} {dl:tW} {r:List Bool} (h:Lc f x dl r):dl.length=r.length+1:=by
 induction h with
 | nil=>rfl
 | cons _ _ ih=>exact congrArg Nat.succ ih
def oP (f:Nat) (n b:Bool):Str:=lt1++aS++(if b=n then Str.empty else atS (tF "xmlns",Ub f b))++gt1
def dP (f:Nat) (n b:Bool):Str:=(if n=b then tF "<a" else tF "<a xmlns=\""++Ub f b++tF "\"")++gt1
noncomputable def oT (f:Nat):List Bool->Str
 | []=>Str.empty
 | b::r=>oT f r++oP f (nb r) b
noncomputable def dT (f:Nat):List Bool->Str
 | []=>Str.empty
 | b::r=>dT f r++dP f (nb r) b
noncomputable def eT:Nat->Str
 | 0=>Str.empty
 | k+1=>eT k++tF "</a>"
def yS:List Nat:=(lst q9k).drop 1
set_option synthInstance.maxHeartbeats 400000 in
set_option synthInstance.maxSize 1024 in
theorem v5r:∀f<4,∀n∈[false,true],∀b∈[false,true],(oP f n b=dP f n b/\118∉lst (oP f n b))\/(lst (oP f n b)=lst (tF "<a xmlns=\"")++(118::(yS++lst (tF "\">")))/\lst (dP f n b)=lst (tF "<a xmlns=\"")++(lst bad++lst (tF "\">"))):=by decide +kernel
theorem v2f:∀f<4,∀n∈[false,true],∀b∈[false,true],(oP f n b).length<=60/\(dP f n b).length<=60:=by decide +kernel
theorem fr_v:118∉lst (tF "<a xmlns=\"")/\118∉lst (tF "\">")/\118∉lst (tF "</a>"):=by decide +kernel
theorem v2g {f:Nat} (hf:f<4):∀r,Rp 118 yS (lst bad) (lst (oT f r)) (lst (dT f r))
 | []=>.nil
 | b::r=>by
  show Rp _ _ _ (lst (_++_)) (lst (_++_))
  rw[q0j,q0j]
  refine(v2g hf r).app ?_
  rcases v5r f hf _ (bm (nb r)) b (bm b)with⟨h1,h2⟩|⟨h1,h2⟩
  ·rw[<-h1];exact .free h2
  ·rw[h1,h2];exact(Rp.free fr_v.1).app (.pat (.free fr_v.2.1))
theorem v0d:∀k,Rp 118 yS (lst bad) (lst (eT k)) (lst (eT k))
 | 0=>.nil
 | k+1=>by
  show Rp _ _ _ (lst (_++_)) (lst (_++_))
  rw[q0j]
  exact(v0d k).app (.free fr_v.2.2)
theorem k6y {f:Nat} (hf:f<4):∀r,(oT f r).length<=60 * r.length/\(dT f r).length<=60 * r.length
 | []=>⟨Nat.zero_le _,Nat.zero_le _⟩
 | b::r=>by
  obtain⟨h1,h2⟩:=k6y hf r
  obtain⟨h3,h4⟩:=v2f f hf _ (bm (nb r)) b (bm b)
  exact⟨catB h1 h3,catB h2 h4⟩
theorem k4v:∀k,(eT k).length<=4 * k
 | 0=>Nat.zero_le _
 | k+1=>catB (k4v k) (jZ 4)
theorem k9j {f:Nat} (hf:f<4) (r:List Bool):Txt.replace (oT f r++eT r.length) q9k bad=dT f r++eT r.length:=by
 refine q6o (k2p (v:=118) (y:=yS) (by decide +kernel) ?_)
 rw[q0j,q0j]
 exact(v2g hf r).app (v0d _)
end Mine
end
noncomputable section
set_option tactic.hygienic false
set_option backward.match.sparseCases false
set_option maxHeartbeats 1000000
namespace Mine
structure NpOk (k:Nat) (np:tE):Prop where
 l:np.length<=k+7
 s:∀p∈np,p.2.length<=500
inductive Ot (t:Str) (k:Nat) (a:W):Prop
 | mk (ts:tL) (o:a.out=ts.map .str) (e:jnT ts=t) (l:ts.length<=k)
structure Ck (t:Str) (k:Nat) (r:List Bool) (a:W):Prop where
 ig:a.ign=0
 da:a.data=[]
 pr:a.pres=List.replicate (r.length+1) (.bool false)
 nl:a.nl.length=r.length+1
 ot:Ot t k a
inductive Tp (f:Nat) (r:List Bool):Store->W->Prop
 | z {a:W} (h:r=[]) (n:a.nl=[.loc 7]) (z:a.n0=[]) (l:a.dl=[.loc 4]):Tp f r [] a
 | s {x0:Store} {a:W} {N:tW} {np:tE} (n:a.nl=N++[.loc (x0.length+10)]) (l:Lc f x0 a.dl.reverse r) (v:Lv .c a.n0 x0 (nsV::N).reverse np) (ok:NpOk r.length np):Tp f r (x0++[.list []]) a
theorem k0x:nsP.length=7/\∀p∈nsP,p.2.length<=500:=by decide +kernel
section
variable (n:Nat) {f:Nat} (hf:f<4) (b:Bool)
inductive Told (n f:Nat) (x:Store) (a:W) (r:List Bool) (b:Bool):Prop
 | mk (x1:Store) (n0:tW) (np:tE) (e:Dn (n+3) 113 [.obj 2,.str (tF ""),.str (Ub f b)] [] (Bw [] [] x .c a)=some (.none,Bw [] [] x1 .c (a.wz n0))) (l:Lc f x1 a.dl.reverse r) (v:Lv .c n0 x1 (nsV::a.nl).reverse ((Ub f b,Str.empty)::np)) (ok:NpOk r.length np)
theorem j9w (H:Ck t k r a) (h:Tp f r x a):Told n f x a r b:=by
 cases h with
 | z h1 h2 h3 h4=>
  have e:=j1e n [] [] [] .c a (p:=tF "") (u:=Ub f b) (.no H.da) H.ig (N:=[]) (l:=7) (B:=a.n0) h2 rfl (by rw[h3];decide)
  refine⟨[],a.n0++[q0a (Ub f b,tF "")],nsP,e,by rw[h4,h1];exact .nil,?_,by rw[k0x.1];exact Nat.le_add_left _ _,k0x.2⟩
  rw[h2,h3]
  exact .cons (L:=[(Ub f b,Str.empty)]) (P:=nsP) rfl (by
   have:=Lv.cons (i:=.c) (n0:=[]++[q0a (Ub f b,tF "")]) (x:=[]) (v:=nsV) (L:=nsP) (P:=[]) rfl .nil
   rw[List.append_nil]at this
   exact this)
 | @s x0 a N np h2 l v ok=>
  have e:=j1e n [] [] (x0++[.list []]) .c a (p:=tF "") (u:=Ub f b) (.no H.da) H.ig (N:=N) (l:=x0.length+10) (B:=[]) h2 (w2e ..) tA
  rw[show(Bw [] [] (x0++[.list []]) .c a).set (x0.length+10) (.list ([]++[q0a (Ub f b,tF "")]))=Bw [] [] (x0++[.list [q0a (Ub f b,tF "")]]) .c (a.wz a.n0)from w4e ..]at e
  refine⟨_,a.n0,np,e,l.grow _,?_,ok⟩
  rw[h2,<-List.cons_append,List.reverse_append]
  exact .cons (L:=[(Ub f b,Str.empty)]) (z4p ..) (v.grow _)
theorem j2h (f:Nat) (b:Bool) (r:List Bool):(Nc f b r).length<=1/\∀p∈Nc f b r,p=(Ub f b,Str.empty):=by
 unfold Nc
 split
 ·exact⟨Nat.zero_le _,λ J h=>absurd h List.not_mem_nil⟩
 ·exact⟨jZ _,λ p h=>zF h⟩
theorem j7h (U Tt F:Str->Str):∃(us:tL),An3 (opens aS (attL U Tt F (Nc f b r) [])=us.map .str) (jnT us=oP f (nb r) b) (us.length<=3):=by
 have k2:∀a b:Str,jnT [a,b]=a++b:=λ a b=>(q7k [a] [b]).trans (by rw[q7l,q7l])
 have s0:q2d []=[]:=List.mergeSort_nil
 unfold attL Nc oP
 by_cases q:b=nb r
 ·rw[if_pos q,if_pos q,List.map_nil,s0,q2n]
  exact⟨[lt1++aS,gt1],rfl,k2 _ _,Nat.le_succ 2⟩
 ·rw[if_neg q,if_neg q,show([(Ub f b,Str.empty)]:tE).map xmlns=[(tF "xmlns",Ub f b)]from rfl,show q2d [(tF "xmlns",Ub f b)]=[(tF "xmlns",Ub f b)]from List.mergeSort_singleton _,s0]
  exact⟨[lt1++aS,jnT [atS (tF "xmlns",Ub f b)],gt1],rfl,(q7k [lt1++aS] [_,gt1]).trans (by rw[k2,q7l,q7l,<-q2e]),jZ 3⟩
include hf in
theorem v1g:IsK (kS (kb f b))/\Uo (kS (kb f b))=Ub f b/\To (kS (kb f b))=aS/\Nm (kS (kb f b)) (Ub f b) aS:=by
 obtain⟨h7,hU,hT,_⟩:=k2e f hf b (bm b)
 have h21:kb f b<21:=Nat.lt_trans h7 tA
 have:=j7d h21
 rw[hU,hT]at this
 exact⟨⟨_,h21,rfl⟩,(Uo_k h21).trans hU,(To_k h21).trans hT,this⟩
theorem k4s (f:Nat) (r:List Bool):∀p∈Pc f r,p.2.length<=500:=λ p hp=>(k3o f r p hp).elim (λ e=>e▸Nat.zero_le _) λ e=>e▸(by decide:(tF "xml").length<=500)
inductive Begun (n f:Nat) (x:Store) (a:W) (r:List Bool) (b:Bool) (t:Str) (k:Nat):Prop
 | mk (x2:Store) (a2:W) (e:Dn (n+4) 120 [.obj 2,.str (kS (kb f b)),.fd [] []] [] (Bw [] [] x .c a)=some (.none,Bw [] [] x2 .c a2)) (c:Ck (t++oP f (nb r) b) (k+3) (b::r) a2) (h:Tp f (b::r) x2 a2)
include hf in
theorem j5e {np:tE} (H:Ck t k r a) (l:Lc f x a.dl.reverse r) (v:Lv .c a.n0 x (nsV::a.nl).reverse ((Ub f b,Str.empty)::np)) (ok:NpOk r.length np) (hr:r.length<=100) (hk:k<=1000):Begun n f x a r b t k:=by
 obtain⟨hK,eU,eT,hNm⟩:=v1g hf b
 obtain⟨_,_,_,_,h50,_⟩:=k2e f hf b (bm b)
 obtain⟨ts,o,et,lt⟩:=H.ot
 have hp:=H.pr
 have hl:=l.len
 rw[List.length_reverse]at hl
 have hz:∀{z},z=r.length+1->z<100000:=λ e=>e▸jJ (Nat.succ_le_succ hr) tA
 have hN:Nst .c a.n0 x a.dl a.nl (Pc f r) ((Ub f b,Str.empty)::np):=⟨l.lv a.n0,v,jH (k3p f r) (jH (Nat.succ_le_succ hr) tA),jH (Nat.succ_le_succ ok.l) (jH (Nat.add_le_add_right hr 8) tA),λ p hp=>(zK hp).elim (k4s f r p) λ hp=>(List.mem_cons.mp hp).elim (λ e=>e▸Nat.zero_le _) (ok.s p)⟩
 have en:lm (kS (kb f b)) (kx [])=[kS (kb f b)]:=List.mergeSort_singleton _
 have R:Runs Uo To (λ J=>aS) (Pc f r) ((Ub f b,Str.empty)::np) (lm (kS (kb f b)) (kx [])) [] (Nc f b r):=by
  rw[en]
  exact .cons (N:=[]) (add:=Nc f b r) (by rw[eU,eT];exact v2t hf) (.nil _)
 obtain⟨nc1,nc2⟩:=j2h f b r
 obtain⟨y,ec⟩:=k5c n [] [] x .c a Uo To (λ J=>aS) (q:=kS (kb f b)) (kvs0:=[]) (.no H.da) H.ig (λ h=>nomatch h) hN (λ J=>rfl) List.nodup_nil (Nat.zero_le _)
  ⟨λ r hr=>by
   rcases hr with rfl|hr
   ·rw[eU,eT];exact⟨hNm,by decide,by decide⟩
   ·exact absurd hr List.not_mem_nil,λ J h=>absurd h List.not_mem_nil,Nat.zero_le _,rfl⟩ R (jJ nc1 tA) (λ p hp=>by rw[nc2 p hp];exact⟨h50,Nat.zero_le _⟩) (p:=List.replicate r.length (.bool false)) (b:=false) (by rw[hp];exact q8u ..) (hz (by rw[hp,List.length_replicate]))
  (by rw[o,zH];exact jJ (jH lt hk) tA) (hz H.nl) (hz hl)
 obtain⟨us,eo,ej,el⟩:=j7h (f:=f) (r:=r) b Uo To (λ J=>aS)
 have hx:(x++.list ((Nc f b r).map q0a)::y).length=x.length+1+y.length:=by rw[zI,List.length_cons,Nat.add_assoc,Nat.add_comm 1]
 rw[show x++(AObj.list ((Nc f b r).map q0a)::(y++[.list []]))=(x++.list ((Nc f b r).map q0a)::y)++[.list []] by rw[List.append_assoc];rfl]at ec
 refine⟨_,_,ec,⟨H.ig,H.da,?_,?_,⟨ts++us,?_,by rw[q7k,et,ej],by rw[zI];exact zD lt el⟩⟩,.s (N:=a.nl) (np:=(Ub f b,Str.empty)::np) ?_ ?_ (v.grow _) ⟨jH (Nat.succ_le_succ ok.l) (zA (Nat.succ_add r.length 7).symm),λ p hp=>(List.mem_cons.mp hp).elim (λ e=>e▸Nat.zero_le _) (ok.s p)⟩⟩
 ·show a.pres++_=_
  rw[hp];exact(q8u ..).symm
 ·show(a.nl++_).length=_
  rw[zI,H.nl];rfl
 ·show a.out++_=_
  rw[o,List.map_append,<-eo];rfl
 ·rw[hx];rfl
 ·show Lc f _ (a.dl++_).reverse _
  rw[List.reverse_append]
  exact .cons (q1q (by rw[List.getElem?_append_right (jZ _),Nat.sub_self];rfl)) (l.grow _)
end
structure Ce (f k:Nat) (t:Str) (r:List Bool) (x:Store) (a:W):Prop where
 c:Ck t k r a
 l:Lc f x a.dl.reverse r
 v:∃np,Lv .c a.n0 x (nsV::a.nl).reverse np/\NpOk 80 np
theorem Lv.tail {i:Who} {n0:tW} {x:Store} {v:AV} {dl:tW} {P:tE} (h:Lv i n0 x (v::dl) P):∃L P',P=L++P'/\Lv i n0 x dl P':=by
 rcases h with _|⟨h,t⟩
 exact⟨_,_,rfl,t⟩
section
variable (n:Nat) {f:Nat} (hf:f<4)
include hf
theorem v4o (H:Ce f k t (b::r) x a) (hr:r.length<=100) (hk:k<=1000):Ex2 λ x2 a2=>Dn (n+3) 133 [.obj 2,.str (kS (kb f b))] [] (Bw [] [] x .c a)=some (.none,Bw [] [] x2 .c a2)/\Ce f (k+1) (t++tF "</a>") r x2 a2:=by
 obtain⟨⟨ig,da,pr,nl,ts,o,et,lt⟩,l,np,v,ok⟩:=H
 obtain⟨_,_,_,hNm⟩:=v1g hf b
 have hL:=l.lv a.n0
 generalize gd:a.dl.reverse=dr at l
 cases l with
 | @cons j dl b r h tl=>
  obtain⟨N,z,en⟩:∃N z,a.nl=N++[z]:=⟨_,_,(List.dropLast_concat_getLast (λ z=>by rw[z]at nl;exact absurd nl (Nat.succ_ne_zero _).symm)).symm⟩
  have ev:(nsV::a.nl).reverse=z::(nsV::N).reverse:=by rw[en,<-List.cons_append,List.reverse_append];rfl
  have v':=v
  rw[ev]at v'
  obtain⟨L,P',ep,v'⟩:=v'.tail
  have ok':NpOk 80 P':=⟨jH (by rw[ep,zI];exact Nat.le_add_left _ _) ok.l,λ p hp=>ok.s p (by rw[ep];exact List.mem_append_right _ hp)⟩
  obtain⟨T,ec⟩:=j2v n [] [] x .c a (q:=kS (kb f b)) (.no da) ig hNm tA (gd▸hL) v (jH (k3p f _) (jH (Nat.succ_le_succ (Nat.succ_le_succ hr)) tA)) (jH ok.l tA) (λ p hp=>(zK hp).elim (k4s f _ p) (ok.s p)) (v2s hf) tA
   (by rw[o,zH];exact jJ (jH lt hk) tA) (pr.trans (q8u ..)) (z1t gd) (q6m h) (by rw[zH];exact jJ (j2h f b r).1 tA) en
  refine⟨_,_,ec,⟨ig,da,rfl,?_,ts++[closes aS],?_,?_,by rw[zI];exact Nat.succ_le_succ lt⟩,?_,P',v'.grow _,ok'⟩
  ·rw[en,zI]at nl
   exact Nat.succ.inj nl
  ·show a.out++_=_
   rw[o,List.map_append];rfl
  ·rw[q7k,q7l,et];rfl
  ·show Lc f _ dl.reverse.reverse r
   rw[List.reverse_reverse]
   exact tl.grow _
variable (sc:AV)
theorem j9v (mm:Option AV) (H:Ck (oT f r) k r a) (h:Tp f r x a) (hr:r.length<=70) (hk:k<=1000):Ex2 λ x2 a2=>Ck (oT f (b::r)) (k+3) (b::r) a2/\Tp f (b::r) x2 a2/\
  q4f (Dn (n+4)) (.str (kS (kb f b))) (vC sc (.str (ow f)) (sA (dT f r)) (sA (eT r.length)) (sA (Ub f (nb r))) mm keys) (Bw [] [] x .c a)
   = some (.next,vC sc (.str (ow f)) (sA (dT f (b::r))) (sA (eT (b::r).length)) (sA (Ub f b)) (sA (kS (kb f b))) keys,Bw [] [] x2 .c a2):=by
 obtain⟨h7,hU,_,_,h50,_⟩:=k2e f hf b (bm b)
 have h21:kb f b<21:=Nat.lt_trans h7 tA
 obtain⟨x1,n0,np,e1,l1,v1,ok⟩:=j9w (n+1) b H h
 have H1:Ck (oT f r) k r (a.wz n0):=⟨H.ig,H.da,H.pr,H.nl,let ⟨ts,o,e,l⟩:=H.ot;⟨ts,o,e,l⟩⟩
 obtain⟨x2,a2,e2,c2,t2⟩:=j5e n hf b H1 l1 v1 ok (jH hr tA) hk
 refine⟨x2,a2,c2,t2,?_⟩
 have eu:∀Z,calA (Dn (n+4)) (.fn 187) (some (.str (kS (kb f b)),Z))=some (.str (Ub f b),Z):=λ Z=>(z0r rfl).trans ((j3w (n+3) Z h21).trans (by rw[hU]))
 obtain⟨o1,d1⟩:=k6y hf r
 have d2:(dT f r).length<=5000:=jH d1 (jH (zJ 60 hr) tA)
 have f0:=es_t (k_l0 (Dn (n+4)) sc (ow f) (kS (kb f b)) (sA (dT f r)) (sA (eT r.length)) (sA (Ub f (nb r))) keys x a) (k4e rfl (eu _) e1)
 have f1:=es_t (k_l1 (Dn (n+4)) sc (ow f) (kS (kb f b)) (sA (dT f r)) (sA (eT r.length)) (sA (Ub f (nb r))) keys x1 (a.wz n0)) e2
 have la:(tF "<a xmlns=\"").length<=10:=jZ 10
 have lg:gt1.length<=1:=jZ 1
 have hp:((if nb r=b then tF "<a" else tF "<a xmlns=\""++Ub f b++tF "\"")).length<=61:=by
  split
  ·decide
  ·exact catB (catB la h50) l_qu
 have g2:(bnd (bnd (calA (Dn (n+4)) (.fn 187) (some (.str (kS (kb f b)),Bw [] [] x2 .c a2))) λ y s=>cmpT s .Eq (.str (Ub f (nb r))) y) λ c s=>if c=true then some (.str (tF "<a"),s)else bnd (bnd (calA (Dn (n+4)) (.fn 187) (some (.str (kS (kb f b)),s))) λ y s=>binR s .Add (.str (tF "<a xmlns=\"")) y) λ y s=>adds y (tF "\"") s)
   = some (.str (if nb r=b then tF "<a" else tF "<a xmlns=\""++Ub f b++tF "\""),Bw [] [] x2 .c a2):=by
  rw[eu,q0c,show cmpT (Bw [] [] x2 .c a2) .Eq (.str (Ub f (nb r))) (.str (Ub f b))=some (decide (Ub f (nb r)=Ub f b),Bw [] [] x2 .c a2)from rfl,q0c]
  by_cases q:nb r=b
  ·rw[if_pos q,if_pos (decide_eq_true (by rw[q]))]
  ·rw[if_neg q,if_neg (by rw[decide_eq_false λ z=>q (j2k f hf _ (bm _) _ (bm _) z)];exact Bool.false_ne_true),eu,q0c,addB la h50 tA,q0c,adds,addB (catB la h50) l_qu tA]
 have f2:=(k_l2 (Dn (n+4)) sc (ow f) (kS (kb f b)) (dT f r) (Ub f (nb r)) (sA (eT r.length)) keys (Z:=Bw [] [] x2 .c a2)).trans (k3w g2 (jH (zD d2 hp) tA))
 have f3:q1u (Dn (n+4)) (vC sc (.str (ow f)) (sA (dT f r++(if nb r=b then tF "<a" else tF "<a xmlns=\""++Ub f b++tF "\""))) (sA (eT r.length)) (sA (Ub f (nb r))) (sA (kS (kb f b))) keys) (Bw [] [] x2 .c a2)=some (.next,vC sc (.str (ow f)) (sA (dT f (b::r))) (sA (eT r.length)) (sA (Ub f b)) (sA (kS (kb f b))) keys,Bw [] [] x2 .c a2):=by
  rw[k_l3,addB (catB d2 hp) lg tA]
  show bnd (bnd (bnd (evC (calA (Dn (n+4)) (.fn 187) (some (.str (kS (kb f b)),Bw [] [] x2 .c a2))) λ s=>some ([],s)) λ xs s=>some (_::xs,s)) _) _=_
  rw[eu]
  refine(k_u3 sc (ow f) _ (Ub f b) ..).trans ?_
  rw[dT,dP,q2e]
 have f4:=(k_l4 (Dn (n+4)) sc (ow f) (eT r.length) (sA (dT f (b::r))) (sA (Ub f b)) (sA (kS (kb f b))) keys (Z:=Bw [] [] x2 .c a2)).trans (k3w (t:=tF "</a>") rfl (jH (zD (jH (k4v _) (zJ 4 hr)) (jZ 4)) tA))
 rw[v5d]
 exact(stq f0 (λ v s=>sq (q5e (Dn (n+4)) v s) λ v s=>sq (q3q (Dn (n+4)) v s) λ v s=>sq (q1u (Dn (n+4)) v s) λ v s=>sq (q1v (Dn (n+4)) v s) λ v s=>some (.next,v,s)) rfl).trans
  ((stq f1 (λ v s=>sq (q3q (Dn (n+4)) v s) λ v s=>sq (q1u (Dn (n+4)) v s) λ v s=>sq (q1v (Dn (n+4)) v s) λ v s=>some (.next,v,s)) rfl).trans
  ((stq f2 (λ v s=>sq (q1u (Dn (n+4)) v s) λ v s=>sq (q1v (Dn (n+4)) v s) λ v s=>some (.next,v,s)) rfl).trans
  ((stq f3 (λ v s=>sq (q1v (Dn (n+4)) v s) λ v s=>some (.next,v,s)) rfl).trans (stq f4 (λ v s=>some (.next,v,s)) rfl))))
theorem k4c:∀(bs r:List Bool) (x:Store) (a:W) (mm:Option AV),Ck (oT f r) (3 * r.length) r a->Tp f r x a->bs.length+r.length<=70->Ex3 λ x2 a2 key2=>Ck (oT f (bs.reverse++r)) (3 * (bs.reverse++r).length) (bs.reverse++r) a2/\Tp f (bs.reverse++r) x2 a2/\
  forA (q4f (Dn (n+4))) (bs.map λ b=>.str (kS (kb f b))) (vC sc (.str (ow f)) (sA (dT f r)) (sA (eT r.length)) (sA (Ub f (nb r))) mm keys) (Bw [] [] x .c a)
   = some (.next,vC sc (.str (ow f)) (sA (dT f (bs.reverse++r))) (sA (eT (bs.reverse++r).length)) (sA (Ub f (nb (bs.reverse++r)))) key2 keys,Bw [] [] x2 .c a2)
 | [],r,x,a,mm,H,h,_=>⟨x,a,mm,H,h,rfl⟩
 | b::bs,r,x,a,mm,H,h,hz=>by
  rw[List.length_cons,Nat.add_right_comm]at hz
  have hr:r.length<=70:=jH (Nat.le_add_left _ _) (jH (Nat.le_succ _) hz)
  obtain⟨x1,a1,H1,h1,e1⟩:=j9v n hf (b:=b) sc (keys:=keys) mm H h hr (jH (zJ 3 hr) tA)
  obtain⟨x2,a2,key2,H2,h2,e2⟩:=k4c bs (b::r) x1 a1 (sA (kS (kb f b))) H1 h1 hz
  rw[List.reverse_cons,List.append_assoc]
  exact⟨x2,a2,key2,H2,h2,(stq e1 (λ v s=>forA (q4f (Dn (n+4))) (bs.map λ b=>.str (kS (kb f b))) v s) rfl).trans e2⟩
theorem k4d:∀(r:List Bool) (x:Store) (a:W) (mm:Option AV) (k:Nat) (t:Str),Ce f k t r x a->r.length<=100->k+r.length<=1000->∃x2 a2 key2,Ck (t++eT r.length) (k+r.length) [] a2/\
  forA (q5x (Dn (n+3))) (r.map λ b=>.str (kS (kb f b))) (vC sc (.str (ow f)) mj (sA e) near mm keys) (Bw [] [] x .c a)=some (.next,vC sc (.str (ow f)) mj (sA e) near key2 keys,Bw [] [] x2 .c a2)
 | [],x,a,mm,k,t,H,_,_=>⟨x,a,mm,by rw[show eT ([]:List Bool).length=Str.empty from rfl,q2n];exact H.c,rfl⟩
 | b::r,x,a,mm,k,t,H,hr,hk=>by
  rw[List.length_cons]at hr hk
  obtain⟨x1,a1,e1,H1⟩:=v4o n hf H (jH (Nat.le_succ _) hr) (jH (zC _ _) hk)
  obtain⟨x2,a2,key2,H2,e2⟩:=k4d r x1 a1 (sA (kS (kb f b))) (k+1) (t++tF "</a>") H1 (jH (Nat.le_succ _) hr) (jH (zA (Nat.add_right_comm ..)) hk)
  have er:∀k,tF "</a>"++eT k=eT k++tF "</a>":=λ k=>by
   induction k with
   | zero=>rfl
   | succ k ih=>rw[eT,<-q2e,ih]
  rw[q2e,er]at H2
  refine⟨x2,a2,key2,by rw[List.length_cons,<-Nat.add_assoc,Nat.add_right_comm];exact H2,?_⟩
  exact(stq ((v5e (Dn (n+3)) sc (ow f) (kS (kb f b)) mj (sA e) near mm keys x a).trans (stq (es_n e1) (λ v s=>some (.next,v,s)) rfl)) (λ v s=>forA (q5x (Dn (n+3))) (r.map λ b=>.str (kS (kb f b))) v s) rfl).trans e2
end
theorem as3 (m:ResS) (g h K:Vs->Store->ResS):(sq m λ v s=>sq (g v s) λ v s=>sq (h v s) K)=sq (sq m λ v s=>sq (g v s) λ v s=>h v s) K:=by
 rcases m with _|⟨fl,V,Z⟩
 ·rfl
 ·cases fl with
  | ret v=>rfl
  | next=>
   show(sq (g V Z) λ v s=>sq (h v s) K)=sq (sq (g V Z) λ v s=>h v s) K
   rcases g V Z with _|⟨fl,V,Z⟩
   ·rfl
   ·cases fl<;>rfl
noncomputable def bsOf (xs:List Int):List Bool:=([0,1,0,1]++xs).map λ x:Int=>decide (x.fmod 2=1)
abbrev keysOf (f:Nat) (bs:List Bool):List AV:=bs.map λ b=>.str (kS (kb f b))
section
variable (n:Nat) {f:Nat} (hf:f<4) (xs:List Int) (hx:xs.length<=63)
include hf
theorem ow_u:ow f=uS (3+f):=(by decide +kernel:∀f<4,ow f=uS (3+f)) f hf
theorem v1f {u:AV} {mj ends near:Option AV} {Z:Store} (hx:xs.length<=63):q2a (Dn (n+1)) (vC (.fl (xs.map .int)) (.str (ow f)) mj ends near none none) Z=some (.next,vC (.fl (xs.map .int)) (.str (ow f)) mj ends near none (some (.fl (keysOf f (bsOf xs)))),Z):=by
 rw[k_3]
 have e0:(([0,1,0,1]++xs).flatMap λ x:Int=>[AV.str (kS (kb f (decide (x.fmod 2=1))))])=keysOf f (bsOf xs):=by
  rw[q1y,keysOf,bsOf,List.map_map];rfl
 have hl:([0,1,0,1]++xs).length<=67:=by rw[zI];exact Nat.add_le_add_left hx 4
 refine q4v (z7d (L:=([0,1,0,1]++xs).map .int) ?_ (P:=own2 (vC (.fl (xs.map .int)) (.str (ow f)) mj ends near none none)) (e0▸z1a (e:=AV.int) rfl (by rw[q1y,zH];exact jH hl tA) ⟨_,_,rfl⟩ λ x mx vs J h hz=>?_))
 ·rw[List.map_append]
  exact w9g (by rw[zH];exact jH (Nat.add_le_add_left hx 4) tA)
 ·obtain⟨o0,o1,rfl⟩:=h
  refine⟨_,⟨o0,some (.int x),rfl⟩,(k_c1 ..).trans ?_⟩
  have ec:k4g (Dn (n+1)) (bnd (some (decide (x.fmod 2=1),Z)) λ c s=>if c=true then some (.str (ow f),s)else some (.str (tF ""),s)) (λ s=>some (.str (tF "a"),s))=some (.str (kS (kb f (decide (x.fmod 2=1)))),Z):=by
   have h7:=(k2e f hf _ (bm (decide (x.fmod 2=1)))).1
   refine w3x (u:=kb f (decide (x.fmod 2=1))) (l:=0) h7 tA ?_ rfl rfl
   cases decide (x.fmod 2=1)with
   | true=>rw[ow_u hf];rfl
   | false=>rfl
  exact stk (em_n ec (jJ (jH (zC _ _) hz) tA)) (λ r s=>some ((o0::some (.int x)::vC (.fl (xs.map .int)) (.str (ow f)) mj ends near none none,r),s)) rfl
theorem k4i (hx:xs.length<=63):∃Z',w1w T (n+6) 199 [.fl (xs.map .int),.str (ow f)] [] [.code]=some (.bool true,Z')/\q2y Z'=true:=by
 have hb:(bsOf xs).length<=67:=by rw[bsOf,zH,zI];exact Nat.add_le_add_left hx 4
 obtain⟨x1,a1,key1,H1,h1,e4⟩:=k4c (n+1) hf (.fl (xs.map .int)) (keys:=some (.fl (keysOf f (bsOf xs)))) (bsOf xs) [] [] (w0 .c) none ⟨rfl,rfl,rfl,rfl,[],rfl,z4e,jZ _⟩ (.z rfl rfl rfl rfl) (jH hb tA)
 rw[List.append_nil]at H1 h1 e4
 have hr:(bsOf xs).reverse.length<=67:=by rw[List.length_reverse];exact hb
 generalize hrr:(bsOf xs).reverse=r at H1 h1 e4 hr
 have hC:Lc f x1 a1.dl.reverse r/\∃np,Lv .c a1.n0 x1 (nsV::a1.nl).reverse np/\NpOk 80 np:=by
  cases h1 with
  | z h h2 h3 h4=>
   subst h
   refine⟨by rw[h4];exact .nil,nsP,?_,by rw[k0x.1];decide,k0x.2⟩
   rw[h2]
   exact .cons (L:=[]) (congrArg some h3) (by
    have:=Lv.cons (i:=.c) (n0:=a1.n0) (x:=[]) (v:=nsV) (L:=nsP) (P:=[]) rfl .nil
    rw[List.append_nil]at this
    exact this)
  | @s x0 a N np h2 l v ok=>
   refine⟨l.grow _,np,?_,jH ok.l (Nat.add_le_add_right (jH hr tA) 7),ok.s⟩
   rw[h2,<-List.cons_append,List.reverse_append]
   exact .cons (L:=[]) (z4p ..) (v.grow _)
 obtain⟨x2,a2,key2,H2,e5⟩:=k4d (n+2) hf (.fl (xs.map .int)) (e:=eT r.length) (mj:=sA (dT f r)) (near:=sA (Ub f (nb r))) (keys:=some (.fl (keysOf f (bsOf xs)))) r x1 a1 key1 (3 * r.length) (oT f r) ⟨H1,hC.1,hC.2⟩ (jH hr tA) (jH (zD (zJ 3 hr) hr) tA)
 obtain⟨ts,o,et,lt⟩:=H2.ot
 obtain⟨o1,d1⟩:=k6y hf r
 have l1:=k4v r.length
 have lo:(oT f r++eT r.length).length<=5000:=jH (catB (jH o1 (zJ 60 hr)) (jH l1 (zJ 4 hr))) tA
 have hb2:∀Z,q1f Z 1=some (ts.map .str)->q2b (Dn (n+5)) (vC (.fl (xs.map .int)) (.str (ow f)) (sA (dT f r)) (sA (eT r.length)) (sA (Ub f (nb r))) key2 (some (.fl (keysOf f (bsOf xs))))) Z=some (.ret (.bool true),vC (.fl (xs.map .int)) (.str (ow f)) (sA (dT f r)) (sA (eT r.length)) (sA (Ub f (nb r))) key2 (some (.fl (keysOf f (bsOf xs)))),Z):=λ Z hσ=>by
  have ej:=z7g (Z:=Z) (v:=.loc 1) (ts:=ts) hσ (by rw[<-k0p,et];exact jH lo tA)
  rw[et]at ej
  have er:q9s (.str (oT f r++eT r.length)) q9k bad Z=some (.str (dT f r++eT r.length),Z):=by
   rw[<-k9j hf r]
   exact if_pos ⟨by decide,by rw[sizeLine_eq,show bad.length=5 from rfl];exact jH (zD lo (Nat.mul_le_mul_right 5 (Nat.succ_le_succ lo))) tA⟩
  rw[k_6,q4x (v:=.loc 1) rfl ej,q0c,er,q0c,addB (jH d1 (zJ 60 hr)) (jH l1 (zJ 4 hr)) tA,q0c]
  show bnd (some (AV.bool (decide (dT f r++eT r.length=dT f r++eT r.length)),Z)) _=_
  rw[decide_eq_true rfl];rfl
 have e3:=v1f (n+4) hf xs (u:=.none) (mj:=sA (tF "")) (ends:=sA (tF "")) (near:=sA (tF "")) (Z:=Bw [] [] [] .c (w0 .c)) hx
 have e0:=k_0 (n+4) (.fl (xs.map .int)) (ow f)
 have e4':=(k_4 (Dn (n+5)) (.fl (xs.map .int)) (ow f) (sA (tF "")) (sA (tF "")) (sA (tF "")) none (keysOf f (bsOf xs)) (Z:=Bw [] [] [] .c (w0 .c))).trans e4
 have e5':=k_5 (Dn (n+5)) (.fl (xs.map .int)) (ow f) (sA (dT f r)) (sA (eT r.length)) (sA (Ub f (nb r))) key1 (keysOf f (bsOf xs)) (Z:=Bw [] [] x1 .c a1)
 rw[show(keysOf f (bsOf xs)).reverse=r.map λ b=>.str (kS (kb f b)) by rw[<-hrr,List.map_reverse]]at e5'
 refine⟨_,w5b (w4s ..) (V:=vC (.fl (xs.map .int)) (.str (ow f)) (sA (dT f r)) (sA (eT r.length)) (sA (Ub f (nb r))) key2 (some (.fl (keysOf f (bsOf xs))))) ?_,(rfl:q2y (Bw [] [] x2 .c a2)=true)⟩
 have tail:∀{m:ResS} {V:Vs} {Z:Store},m=some (.next,V,Z)->∀(K:Vs->Store->ResS),sq m K=K V Z:=λ h K=>stq h K rfl
 have eq:∀V Z,q6r (Dn (n+5)) V Z=sq (q2z (Dn (n+5)) V Z) λ v s=>sq (q3a (Dn (n+5)) v s) λ v s=>sq (q3b (Dn (n+5)) v s) λ v s=>sq (q2a (Dn (n+5)) v s) λ v s=>sq (q3c (Dn (n+5)) v s) λ v s=>sq (q3d (Dn (n+5)) v s) λ v s=>sq (q2b (Dn (n+5)) v s) λ v s=>some (.next,v,s):=λ V Z=>nr tK
 refine(eq _ _).trans ?_
 rw[as3,tail e0,tail e3,tail e4',tail (e5'.trans e5),hb2 _ (by rw[<-o];rfl)]
 rfl
end
theorem j8k {K:Nat} {d:Str} {a:W} {Z:Store} {v:AV} (h:Tx K 0 d a) (hv:q0i Z v=some a.out) (hd:d.length<=1000000) (C:q0b):cal C (.bi .sJoin (.str (tF ""))) (some (v,Z))=some (.str d,Z):=by
 obtain⟨ts,ds,o,q,e,lo,ld,_,_⟩:=h
 obtain rfl:ds=[]:=List.length_eq_zero_iff.mp (Nat.le_zero.mp ld)
 rw[w1z,q2n]at e
 subst e
 rw[o]at hv
 exact q4x rfl (z7g hv (by rw[<-k0p];exact jH hd tA))
theorem k5p (n:Nat) {f:Nat} (hf:f<4) (xs:List Int) (hx:xs.length<=63) (pr:tC) (pa:tW) (x:Store) (a:W):Dn (n+6) 199 [.fl (xs.map .int),.str (ow f)] [] (Bw pr pa x .t a)=some (.bool true,Bw pr pa x .t a):=by
 obtain⟨Z',e,h⟩:=k4i n hf xs hx
 have hb:([AV.fl (xs.map .int),.str (ow f)].all k9e)=true:=by
  show((q9f (xs.map AV.int)).isSome&&true)=true
  rw[w2b];rfl
 refine(if_pos (show(199:Nat)=T.fr from rfl)).trans ?_
 rw[hb,e]
 show(if(q2y (Bw pr pa x .t a)&&true&&true)=true then(if q2y Z'=true then some (AV.bool true,Bw pr pa x .t a)else none)else none)=_
 rw[h];rfl
theorem v5b (c:Nat):Inv3 c 0 [] [] (tF "") (w0 .t):=
 ⟨[],[],[],rfl,⟨⟨⟨[xmlS],.nil rfl⟩,.one (L:=[]) rfl λ J h=>absurd h List.not_mem_nil,rfl,λ h=>absurd rfl h,.new (ts:=[]) rfl rfl z4e (jZ 0) 0⟩,rfl,λ J h=>absurd h List.not_mem_nil,(λ J J h=>nomatch h),λ J h=>absurd h List.not_mem_nil,
  ⟨λ v hv hd=>by
   rw[zF (show v∈[AV.loc 9]from hv)]at hd
   exact absurd (q4k (zF (show AV.loc 9∈[AV.loc 6]from hd))) tA,List.nodup_cons.mpr ⟨List.not_mem_nil,List.nodup_nil⟩,λ J h=>absurd h List.not_mem_nil,λ v hv=>.inl (zF hv),λ v hv=>⟨6,zF hv,by decide⟩⟩,jZ 0,jZ 0,jZ 0⟩,λ h=>absurd rfl h⟩
theorem j4l (C:q0b) (ys:tW) (Z:Store):q7i T C (.fn 199) ys [] Z=C 199 ys [] Z:=nr tK
noncomputable abbrev noLo:Lo:=⟨none,none,none,none,none,none,none,none,none,none,none,none,none,none,none,none,none,none,none⟩
theorem j6p (n:Nat) (xs:List Int) (hx:xs.length<=63):∃Z',w1w T (n+7) 204 [.fl (xs.map .int)] [] [.code]=some (.bool true,Z')/\Z'[0]? = some .code:=by
 obtain⟨c,hC⟩:=cse (xs.take 1).sum
 have hc:=hC.l
 obtain⟨G,hG⟩:∃G:Fx,G=⟨.fl (xs.map .int),.fl ((q6p xs).map mv),(xs.take 1).sum,c⟩:=⟨_,rfl⟩
 have hGc:G.c<8:=by rw[hG];exact hc
 have hm:∃(L:List (Int×Int)),An3 ((q6p xs).map mv=mv (0,(xs.take 1).sum.fdiv 8)::(L.map mv++(List.replicate xs.length (mv (2,0))++[mv (4,0)]))) (L.length=xs.length - 1) (∀l∈L,l.1≠4):=by
  refine⟨(xs.drop 1).map (λ x=>(x.fmod 4,x.fdiv 4)),?_,?_,λ l hl=>?_⟩
  ·unfold q6p
   rw[List.map_append,List.map_append,List.map_cons,List.map_replicate,List.append_assoc];rfl
  ·rw[zH,List.length_drop]
  ·obtain⟨x,_,rfl⟩:=List.mem_map.mp hl
   exact λ e=>absurd (Int.fmod_lt_of_pos x (show(0:Int)<4 by decide)) (by rw[show x.fmod 4=4 from e];decide)
 obtain⟨L,eL,hL,h4⟩:=hm
 have hL63:L.length<=63:=by rw[hL];exact jH (Nat.sub_le _ _) hx
 have g:Done G (forA (q2c (Dn (n+6))) ((q6p xs).map mv) (vM G (noLo.s_due (sA (tF "")))) (Bw (prD G.c) (([]:List Ent).map entV) [] .t (w0 .t))):=by
  rw[eL]
  refine(z7v (n+2) G noLo 0 ((xs.take 1).sum.fdiv 8) tA (v5b G.c) hGc tA (.inl tA)).step G λ v x ps d a ⟨h1,h2,h3,_⟩=>k0j (n+2) G hGc xs.length L 1 v x ps d a h4 h1 h2 ?_ ?_
  ·refine jH (Nat.add_le_add_right h3 _) ?_
   rw[hL,Nat.add_comm]
   exact Nat.succ_le_succ (Nat.sub_le _ _)
  ·exact jH (zD (Nat.add_le_add_left hL63 1) hx) tA
 obtain⟨v,x,ps,d,a,e13,ht,hd⟩:=g
 have e14:q4s (Dn (n+6)) (vM G (v.s_due (sA d))) (Bw (prD G.c) (ps.map entV) x .t a)=some (.ret (.bool true),vM G (v.s_due (sA d)),Bw (prD G.c) (ps.map entV) x .t a):=by
  rw[s_14,j8k ht rfl hd,q0c,show cmpR (Bw (prD G.c) (ps.map entV) x .t a) .Eq (.str d) (.str d)=some (.bool true,Bw (prD G.c) (ps.map entV) x .t a)from by
   show some (AV.bool (decide (d=d)),_)=_
   rw[decide_eq_true rfl]]
  show bnd (bnd (evC (some (norm G.sc,Bw (prD G.c) (ps.map entV) x .t a)) λ s=>evC (getR s (.fl ownL) (.int (G.F.fmod 4))) λ s=>some ([],s)) λ xs s=>bnd (some ([],s)) λ kv s=>q7i T (Dn (n+6)) (.fn 199) xs kv s) _=_
  have hf:c % 4<4:=Nat.mod_lt _ tA
  have hF:G.F.fmod 4=((c % 4:Nat):Int):=by rw[hG];exact hC.f
  rw[hF,show norm G.sc = .fl (xs.map .int) by rw[hG];rfl]
  show bnd (bnd (bnd (evC (getR (Bw (prD G.c) (ps.map entV) x .t a) (.fl ownL) (.int ((c % 4:Nat):Int))) λ s=>some ([],s)) λ ys s=>some (AV.fl (xs.map .int)::ys,s)) _) _=_
  rw[getO hf]
  show bnd (q7i T (Dn (n+6)) (.fn 199) [.fl (xs.map .int),.str (ow (c % 4))] [] (Bw (prD G.c) (ps.map entV) x .t a)) _=_
  rw[j4l,k5p n hf xs hx,q0c]
 subst hG
 have e13':=(s_13 (Dn (n+6)) (.fl (xs.map .int)) (xs.take 1).sum c (noLo.s_due (sA (tF ""))) ((q6p xs).map mv) (Z:=Bw (prD c) [] [] .t (w0 .t))).trans e13
 have f3:=su_3 (Dn (n+6)) xs (Z:=[.code])
 have f4:=su_4 (Dn (n+6)) (.fl (xs.map .int)) hC [.code]
 have f5:=su_5 (Dn (n+6)) (.fl (xs.map .int)) hC
 have f6:=su_6 (Dn (n+6)) (.fl (xs.map .int)) (xs.take 1).sum hc
 have f9:=su_9 (n+5) (Dn (n+6)) (.fl (xs.map .int)) (xs.take 1).sum (some (.fl (rowL c))) (some (.fl (z7c c))) (some (.fl (z1h c))) (prD c)
 have f12:=v7c (Dn (n+6)) xs hx (some (.fl (rowL c))) (some (.loc 1)) (some (.fl (z7c c))) (some (.fl (z1h c))) (some (.loc 2)) (some (.loc 3)) (some (.str (tF ""))) (some (.obj 4)) (Z:=Bw (prD c) [] [] .t (w0 .t))
 have tail:∀{m:ResS} {V:Vs} {Z:Store},m=some (.next,V,Z)->∀(K:Vs->Store->ResS),sq m K=K V Z:=λ h K=>stq h K rfl
 refine⟨_,w5b (k9i ..) (V:=vM ⟨.fl (xs.map .int),.fl ((q6p xs).map mv),(xs.take 1).sum,c⟩ (v.s_due (sA d))) ?_,(rfl:(Bw (prD c) (ps.map entV) x .t a)[0]? = some .code)⟩
 refine(su_0 (Dn (n+6)) (.fl (xs.map .int))).trans ?_
 unfold lawA
 rw[tail f3,tail f4,tail f5,as3,tail f6,as3,tail f9,tail f12]
 refine(stq e13' (λ v s=>sq (q4s (Dn (n+6)) v s) λ v s=>some (.next,v,s)) rfl).trans ?_
 rw[e14]
 rfl
end Mine
end
noncomputable section
set_option tactic.hygienic false
set_option maxHeartbeats 400000
namespace Mine
theorem k5u {g:G}:∀{vs:tU} {xs:List Int},IntsAre vs xs->VRs cx g (xs.map AV.int) vs
 | _,_,.nil=>.nil
 | _,_,.cons n t h=>.cons (by exact⟨t,rfl⟩) (k5u h)
theorem v1k (w:World) (s:Shared) (mg mb:Str->Option Value):j8w w s mg mb:=by
 refine Classical.byContradiction λ n=>?_
 obtain⟨w,s,mg,mb,e,n⟩:=v0a (.mk w s mg mb rfl n)
 refine n ⟨λ KX KT hg hb lim bi bm fa l hfa vs xs m hl hI hx=>?_⟩
 have ec:=e
 clear e n
 have W:All cx T:=by rw[ec];exact all3 ec KX hg hb lim bi bm
 have k3:(hd.heap_1 w.params).lookup mainGlobals=some (oAt (hd.heap_1 w.params) mainGlobals):=by kernel_rfl
 have e0:mg (tF "law")=some (.ref 204):=z4z KX hg k3 tK
 rw[e0]at hfa
 rcases hfa
 obtain⟨Z',e,c0⟩:=j6p 0 xs hx
 have hl123:(123:Addr)≠l:=λ q=>by
  simp only[<-q,KT]at hl
  exact absurd (show Value.none=Value.type "list" from congrArg Obj.cls (zE hl)) (λ z=>nomatch z)
 obtain⟨g0,hg0⟩:∃g0:G,g0=⟨(erase s.heap 123).get?,[123],λ J=>none⟩:=⟨_,rfl⟩
 have i0:Inv cx g0 [.code] { s with toks:=s.toks+1 }:=by
  subst hg0
  rw[ec]
  refine⟨λ a o e=>z3u e,λ a o e=>e,rfl,by simp,λ a ha=>?_,λ j o a ej ea=>?_,Nat.succ_le_succ (Nat.zero_le _),λ J J h=>nomatch h⟩
  ·rw[zF ha];exact w1y _ _
  ·induction j with
   | zero=>
    obtain rfl:=zE ej
    obtain rfl:=zE ea
    exact⟨rfl,#[],KT,by trivial,.inl rfl⟩
   | succ j=>exact absurd (show(none:Option AObj)=some o from ej) (λ h=>nomatch h)
 have q0:VR cx g0 (.fl (xs.map AV.int)) (.ref l):=by
  refine⟨l,_,vs,rfl,by subst hg0;exact(w0r _ hl123).trans hl,⟨m,rfl⟩,k5u hI,by rw[zH,sizeLine_eq];exact jH hx tA⟩
 have hA:z0i 7 callerA:=⟨rfl,by trivial,by trivial⟩
 have e2:w1w T (6+1) 204 [.fl (xs.map .int)] [] [.code]=some (.bool true,Z'):=e
 have hA2:z0i (6+1) callerA:=hA
 clear e
 have run:=v3p (a:=204) (w:=.fl (xs.map .int)) (v:=.bool true) (Z:=[.code]) (Z':=Z') (f:=top "law") (y:=tF "script") W 6 tK tK tK tK tK tK e2 hA2 i0 q0
 rw[show model PySem.Challenge.rw_dr0133_03.row.prog w=cx.M by rw[ec];rfl]
 (refine wpAny_mono (q2i run) (λ v s' zz0=>?_) λ J J x=>x.elim;obtain⟨g',a,i,r⟩:=zz0)
 refine⟨r,⟨λ b o eb=>?_,λ b o eb=>a.stay b o eb⟩,a.os,a.gens⟩
 by_cases hb:b=123
 ·subst hb
  rw[KT]at eb
  obtain rfl:=zE eb
  obtain⟨ρ',hρ⟩:=a.le.ρ
  have h0:g'.ρ[0]? = some 123:=by rw[hρ,hg0];rfl
  obtain⟨_,ps,hps,_⟩:=i.cells 0 .code 123 c0 h0
  rcases _:(show CodeHd _ _ _ from ec▸W.lam.code)with⟨oc,fs,_,_,_,_,_,_,_,h1,h2,h3,h4,_⟩
  exact .inr (.inl ⟨⟨125,oc,fs,z3u h1,h2,h3,h4⟩,rfl,#[],ps,rfl,by rw[Array.empty_append];exact hps⟩)
 ·exact .inl (a.keep b o eb (by rw[hg0];simpa using hb) (by simp))
end Mine
end
noncomputable section
set_option maxHeartbeats 8000000
theorem PySem.Challenge.cw_dr0133_03_holds : PySem.Challenge.rw_dr0133_03.Holds :=
 ⟨Mine.said, hd (by
 intro w s0 s₁ mg mb G Y fa o pm cd doc dV kV ho hdd hcd hD hmg hg args vals as hpre hlay hrd hwl hlo
 clear hD hcd hdd ho
 have KX := km_in_of Y
 have KT := km_tabs_of Y 123 (by decide)
 have Tp := G.T
 have hmg' : mg (Str.ofString "law") = some (.ref fa) := hmg
 clear hmg G Y
 wrow_args hpre hlay hrd hwl hlo
 rename_i xs _ _ _ _ _ _ _ l vs _ hL _ w1 _ hI _ hlen _
 obtain ⟨m, hl⟩ : ∃ m, s₁.heap.get? l = some { cls := .type "list", data := .seq vs.toArray m } := by
  rcases _ : hL with ⟨o, e1, e2, n, e3⟩
  have w2 : Well w.params s₁.heap (Value.ref l) (.list (ofPys (xs.map PyData.int))) := w1
  cases w2 with
  | list e4 _ =>
   rw [e1] at e4
   obtain rfl := Option.some.inj e4
   refine ⟨n, ?_⟩
   rw [e1]
   exact congrArg (λ d => some ({ cls := .type "list", data := d } : Obj)) e3
 obtain ⟨run⟩ := Mine.v1k w s₁ mg mb
 refine wpAny_mono (run KX KT Tp.g Tp.b Tp.nolimit Tp.builtins Tp.bmain hmg' hl hI (by lia)) (λ v s' ⟨e, k, os, gs⟩ => ?_) λ _ _ x => x.elim
 subst e
 exact ⟨.inl ⟨.bool true, .bool true, [], rfl, raisesW_false (by wrow_none_raised), .bool true, by wrow_post, λ _ => ⟨List.nodup_nil, λ _ h => nomatch h⟩⟩, k, os, .of_eq (gs.trans hg)⟩)⟩
end
