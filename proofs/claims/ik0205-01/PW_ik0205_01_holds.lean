import PyProof.Rows.All
import KE.KIntText
import Open.Boot
import Open.Tree
import OpenK.AllK
import Wide.All
import PySem.Challenge.RW_ik0205_01
set_option autoImplicit false
set_option maxRecDepth 100000
set_option linter.all false
set_option Elab.async false
namespace Mine
open PySem
noncomputable section
noncomputable abbrev JX := @PySem.wpAny_bind
noncomputable abbrev JZ := @PySem.wpAny_pure
noncomputable abbrev JY := @PySem.wpAny_holding
noncomputable abbrev Kq := @PySem.wpAny_mono
noncomputable abbrev Kx := @PySem.Heap.get?_push_of_some
noncomputable abbrev Kj := @PySem.Heap.get?_push_size
noncomputable abbrev Kk := @List.forall_mem_cons
noncomputable abbrev Kz := @PySem.Around.under_plainId
noncomputable abbrev Kw := @PySem.Heap.lt_size
noncomputable abbrev Kv := @Nat.le_trans
noncomputable abbrev Ky := @List.getElem?_eq_getElem
noncomputable abbrev KQ := @Nat.lt_of_le_of_lt
noncomputable abbrev KX := @Nat.le_refl
noncomputable abbrev KJ := @List.mem_cons
noncomputable abbrev KK := @List.getElem?_eq_some_iff
noncomputable abbrev KZ := @Nat.lt_of_lt_of_le
noncomputable abbrev KW := @Nat.le_of_lt
noncomputable abbrev KV := @List.mem_of_getElem?
noncomputable abbrev KY := @Option.some.inj
noncomputable abbrev Ka := @List.mem_cons_self
noncomputable abbrev Kb := @Nat.add_right_comm
noncomputable abbrev Kc := @List.all_eq_true
noncomputable abbrev Kd := @Nat.lt_trans
noncomputable abbrev Ke := @List.mem_singleton
noncomputable abbrev Kf := @Nat.le_add_right
noncomputable abbrev Kg := @List.mem_map
noncomputable abbrev Kh := @Nat.le_of_eq
noncomputable abbrev Lq := @Nat.ne_of_lt
noncomputable abbrev Lx := @Array.getElem?_eq_getElem
noncomputable abbrev Lj := @Nat.le_of_ble_eq_true
@[elab_as_elim] theorem rT {α:Sort _} {a b:α} {P:α→Prop} (h:a=b) (p:P b):P a:=h▸p
@[elab_as_elim] theorem rB {α:Sort _} {a b:α} {P:α→Prop} (h:a=b) (p:P a):P b:=h▸p
@[elab_as_elim] theorem rP {a b:Prop} {P:Prop→Prop} (h:a↔b) (p:P b):P a:=propext h▸p
@[elab_as_elim] theorem rQ {a b:Prop} {P:Prop→Prop} (h:a↔b) (p:P a):P b:=propext h▸p
theorem nn {α:Type _} {o:Option α} {a:α} (h:o=some a):o≠none:=fun e=>nomatch h.symm.trans e
inductive AV where
 |none|bool (b:Bool)|int (i:Int)|str (x:Str)|bytes (b:Array UInt8)
 |tup (l:List AV)|lst (l:List AV)|set (l:List AV)|fset (l:List Nat)
 |ref (i:Nat)|fn (k:Nat)|ty (n:String)
 deriving Inhabited
inductive AO where
 |list (l:List AV)|dict (l:List (Str×AV))
 deriving Inhabited
noncomputable abbrev AH:=List AO
noncomputable abbrev VM:=List (Option AV)
set_option genInjectivity false
set_option genSizeOf false
inductive BI where
 |len|sum|min|max|all|sorted|set|isinstance|issubclass|type|ord|chr|int16
 deriving DecidableEq
inductive ME where
 |index|encode|sjoin|startswith|endswith|rfind|rstrip|split|bjoin|isdisjoint|issuperset|append|pop
 deriving DecidableEq
inductive Tgt where
 |name (i:Nat)|tup (l:List Nat)
mutual
inductive X' where
 |c (k:Const)|v (i:Nat)|g (a:AV)
 |bin (op:Operator) (a b:X')|un (op:UnaryOp) (a:X')|bool (op:BoolOp) (l:XL)
 |cmp (a:X') (l:CL)|ife (t a b:X')
 |lst (l:XL)|tup (l:XL)|set1 (a:X')|dict0
 |sub (a i:X')|sl (a:X') (lo hi st:gZ )
 |call (f:Nat) (args:XL) (kws:KL)
 |bi (b:BI) (args:XL)|meth (m:ME) (a:X') (args:XL)
 |tupleMap (f:Nat) (a:X')|listRange (args:XL)
 |lc (dB:List (Option Nat)) (t:Tgt) (it:IT) (ifs:XL) (elt:X')
 |sc (dB:List (Option Nat)) (t:Tgt) (it:IT) (elt:X')
inductive gZ where
 |no|yes (x:X')
inductive XL where
 |nil|cons (x:X') (r:XL)
inductive CL where
 |nil|cons (op:CmpOp) (x:X') (r:CL)
inductive KL where
 |nil|cons (n:Str) (x:X') (r:KL)
inductive IT where
 |val (x:X')|range (args:XL)|enum (x:X')|zip (a b:X')
end
mutual
inductive S where
 |asg (t:Tgt) (x:X')|asgSub (o i x:X')|aug (i:Nat) (op:Operator) (x:X')
 |ite (t:X') (a b:SL)|while (t:X') (b:SL)|for (t:Tgt) (it:IT) (b:SL)
 |ret (x:X')|expr (x:X')|try (b:SL)|brk|cont|pass|bad
inductive SL where
 |nil|cons (s:S) (r:SL)
end
inductive Fl where
 |next|brk|cont|ret (v:AV)
 deriving Inhabited
noncomputable def noRef:AV→Bool
 |.ref _=>false
 |.tup l=>all l
 |.lst l=>all l
 |_=>true
where all:List AV→Bool
 |[]=>true
 |a::r=>noRef a&&all r
noncomputable def aK (x:AV):Option {i:Int // x = .int i}:=match x with
 |.int i=>some ⟨i,rfl⟩
 |_=>none
noncomputable def bu (x:AV):Option {i:Str // x = .str i}:=match x with
 |.str i=>some ⟨i,rfl⟩
 |_=>none
noncomputable def bL (x:AV):Option {i:Array UInt8 // x = .bytes i}:=match x with
 |.bytes i=>some ⟨i,rfl⟩
 |_=>none
noncomputable def zt (x:AV):Option {i:List Nat // x = .fset i}:=match x with
 |.fset i=>some ⟨i,rfl⟩
 |_=>none
noncomputable def mi (x:AV):Option {i:List AV // x = .set i}:=match x with
 |.set i=>some ⟨i,rfl⟩
 |_=>none
noncomputable def lg (x:AV):Option {l:List AV // x = .lst l}:=match x with
 |.lst l=>some ⟨l,rfl⟩
 |_=>none
noncomputable def rS (x:AV):Option {l:List AV // x = .tup l}:=match x with
 |.tup l=>some ⟨l,rfl⟩
 |_=>none
noncomputable def GQ (x:AV):Option {l:List AV // x = .lst l∨x = .tup l}:=match x with
 |.lst l=>some ⟨l,.inl rfl⟩
 |.tup l=>some ⟨l,.inr rfl⟩
 |_=>none
noncomputable def lh (x:AV):Option {i:Nat // x = .ref i}:=match x with
 |.ref i=>some ⟨i,rfl⟩
 |_=>none
noncomputable def CO (x:AV):Option {i:String // x = .ty i}:=match x with
 |.ty i=>some ⟨i,rfl⟩
 |_=>none
noncomputable def zu (x:AV):Option {c:Nat // x = .str ⟨#[c]⟩}:=match x with
 |.str ⟨⟨[c]⟩⟩=>some ⟨c,rfl⟩
 |_=>none
noncomputable def pB (x:AV):Option {c:UInt8 // x = .bytes #[c]}:=match x with
 |.bytes ⟨[c]⟩=>some ⟨c,rfl⟩
 |_=>none
noncomputable def GR (l:List AV):Option (PLift (l=[])):=match l with
 |[]=>some ⟨rfl⟩
 |_=>none
noncomputable def dJ (l:List AV):Option {a:AV // l=[a]}:=match l with
 |[a]=>some ⟨a,rfl⟩
 |_=>none
noncomputable def rU (l:List AV):Option {p:AV×AV // l=[p.1,p.2]}:=match l with
 |[a,b]=>some ⟨(a,b),rfl⟩
 |_=>none
noncomputable def j7 (H:AH) (i:Nat):Option {l:List AV // H[i]?=some (.list l)}:=match h:H[i]? with
 |some (.list l)=>some ⟨l,rfl⟩
 |_=>none
noncomputable def qy (H:AH) (i:Nat):Option {l:List (Str×AV) // H[i]?=some (.dict l)}:=match h:H[i]? with
 |some (.dict l)=>some ⟨l,rfl⟩
 |_=>none
noncomputable def bE:List AV→Option (List Int)
 |[]=>some []
 |a::r=>(aK a).bind fun i=>(bE r).bind fun l=>some (i.1::l)
noncomputable def E2 (x:AV):Option {i:Bool // x = .bool i}:=match x with
 |.bool i=>some ⟨i,rfl⟩
 |_=>none
noncomputable def mj:List AV→Option (List Bool)
 |[]=>some []
 |a::r=>(E2 a).bind fun i=>(mj r).bind fun l=>some (i.1::l)
noncomputable def aY (H:AH) (a:AV):Option (List AV):=(lg a).elim ((lh a).bind fun i=>(j7 H i.1).bind fun l=>some l.1) fun l=>some l.1
noncomputable def fE (H:AH) (a:AV):Option (List AV):=(rS a).elim (aY H a) fun l=>some l.1
noncomputable def jt (H:AH) (x:AV):Option (List AV):=(aY H x).bind fun l=>if l.length≤1000 then some l else none
noncomputable def small (n:Nat):Option Bool:=if n<1000000 then some (n != 0) else none
noncomputable def cG (H:AH):AV→Option Bool
 |.none=>some false
 |.bool b=>some b
 |.int i=>some (i != 0)
 |.str x=>small x.cps.size
 |.bytes b=>small b.size
 |x=>(fE H x).bind fun l=>small l.length
noncomputable def v7 (Ft Fl:List AV→List AV→Option Bool) (fi:Int→Int→Bool) (fs:Str→Str→Bool) (fb:Array UInt8→Array UInt8→Bool) (x y:AV):Option Bool :=
 (aK x).elim ((bu x).elim ((bL x).elim ((rS x).elim ((lg x).bind fun l=>(lg y).bind fun r=>Fl l.1 r.1)
  fun l=>(rS y).bind fun r=>Ft l.1 r.1) fun a=>(bL y).bind fun b=>some (fb a.1 b.1)) fun a=>(bu y).bind fun b=>some (fs a.1 b.1)) fun a=>(aK y).bind fun b=>some (fi a.1 b.1)
noncomputable def eqL (f:AV→AV→Option Bool):List AV→List AV→Option Bool
 |[],[]=>some true
 |a::l,b::r=>(f a b).bind fun p=>(eqL f l r).bind fun q=>some (p&&q)
 |_,_=>some false
noncomputable def fc:Nat→AV→AV→Option Bool
 |0=>fun _ _=>none
 |n+1=>v7 (eqL (fc n)) (eqL (fc n)) (·==·) (·==·) (·==·)
noncomputable abbrev eqv:AV→AV→Option Bool:=fc 4
noncomputable def bx:List Nat→List Nat→Bool
 |[],[]=>false
 |[],_::_=>true
 |_::_,[]=>false
 |a::l,b::r=>if a=b then bx l r else decide (a<b)
noncomputable def pC (a b:Str):Bool:=bx a.cps.toList b.cps.toList
noncomputable def eD (a b:Array UInt8):Bool:=bx (a.toList.map (·.toNat)) (b.toList.map (·.toNat))
noncomputable def uu (nc cn:Bool) (e f:AV→AV→Option Bool):List AV→List AV→Option Bool
 |[],[]=>some false
 |[],_::_=>some nc
 |_::_,[]=>some cn
 |a::l,b::r=>(e a b).bind fun p=>cond p (uu nc cn e f l r) (f a b)
noncomputable abbrev ltL:=uu true false
noncomputable def w5:Nat→AV→AV→Option Bool
 |0=>fun _ _=>none
 |n+1=>v7 (ltL (fc n) (w5 n)) (ltL (fc n) (w5 n)) (fun a b=>decide (a<b)) pC eD
noncomputable abbrev ltv:AV→AV→Option Bool:=w5 4
noncomputable def E3:Nat→AV→AV→Option Bool
 |0=>fun _ _=>none
 |n+1=>v7 (fun _ _=>none) (uu false true (fc n) (E3 n)) (fun a b=>decide (b<a)) (fun a b=>pC b a) (fun a b=>eD b a)
noncomputable abbrev gtv:AV→AV→Option Bool:=E3 4
noncomputable def cH (l:List Int):List AV:=(l.foldl (fun acc i=>if acc.contains i then acc else acc++[i]) []).map .int
noncomputable def fF (H:AH) (op:Operator) (a b:AV):Option AV:=match op with
 |.Add=>(aK a).elim ((bu a).elim ((bL a).elim ((aY H a).bind fun x=>(aY H b).bind fun y=>if x.length+y.length≤1000000 then some (.lst (x++y)) else none)
   fun x=>(bL b).bind fun y=>if x.1.size+y.1.size≤1000000 then some (.bytes (x.1++y.1)) else none)
   fun x=>(bu b).bind fun y=>if x.1.cps.size+y.1.cps.size≤1000000 then some (.str ⟨x.1.cps++y.1.cps⟩) else none)
   fun x=>(aK b).bind fun y=>some (.int (x.1+y.1))
 |.Sub=>(aK a).bind fun x=>(aK b).bind fun y=>some (.int (x.1-y.1))
 |.Mult=>(aK b).bind fun y=>(aK a).elim ((bL a).bind fun x=>if x.1.size=1&&0≤y.1&&y.1≤1000000 then some (.bytes (Array.replicate y.1.toNat (x.1.getD 0 0))) else none)
   fun x=>if x.1.natAbs<2 ^ 62&&y.1.natAbs<2 ^ 62 then some (.int (x.1*y.1)) else none
 |.Mod=>(aK a).bind fun x=>(aK b).bind fun y=>if 0<y.1 then some (.int (x.1 % y.1)) else none
 |.FloorDiv=>(aK a).bind fun x=>(aK b).bind fun y=>if 0<y.1&&y.1<1000000 then some (.int (x.1 / y.1)) else none
 |.RShift=>(aK a).bind fun x=>(aK b).bind fun y=>if y.1=1 then some (.int (x.1 / 2)) else none
 |.BitOr=>(mi a).bind fun x=>(mi b).bind fun y=>(bE x.1).bind fun l=>(bE y.1).bind fun r=>if (l≠[]∧l.length≤30)∧r.length≤30 then some (.set (cH (l++r))) else none
 |.BitXor=>(mi a).bind fun x=>(mi b).bind fun y=>(bE x.1).bind fun l=>(bE y.1).bind fun r=>if l.length≤30∧r.length≤30 then some (.set ((l.filter (!r.contains ·)++r.filter (!l.contains ·)).map .int)) else none
 |_=>none
noncomputable def CP (op:Operator) (a b:AV):Option AV:=match op with
 |.Add=>(aK a).elim ((bL a).bind fun x=>(bL b).bind fun y=>if x.1.size+y.1.size≤1000000 then some (.bytes (x.1++y.1)) else none) fun x=>(aK b).bind fun y=>some (.int (x.1+y.1))
 |_=>none
noncomputable def aun (op:UnaryOp) (H:AH) (a:AV):Option AV:=match op with
 |.USub=>(aK a).bind fun x=>some (.int (-x.1))
 |.Not=>(cG H a).bind fun b=>some (.bool !b)
 |_=>none
noncomputable def f9 (H:AH) (op:CmpOp) (a b:AV):Option Bool:=match op with
 |.Eq=>eqv a b
 |.NotEq=>(eqv a b).bind fun b=>some !b
 |.Lt=>ltv a b
 |.LtE=>(aK a).bind fun x=>(aK b).bind fun y=>some (decide (x.1≤y.1))
 |.Gt=>(aK a).bind fun x=>(aK b).bind fun y=>some (decide (y.1<x.1))
 |.GtE=>(aK a).bind fun x=>(aK b).bind fun y=>some (decide (y.1≤x.1))
 |.NotIn=>(aK a).bind fun i=>(fE H b).bind fun l=>(bE l).bind fun l=>some (!l.contains i.1)
 |_=>none
noncomputable def dX (n:Nat) (i:Int):Option Nat :=
 if n<1000000 then (if 0≤i then (if i<n then some i.toNat else none) else if 0≤i+n then some (i+n).toNat else none) else none
noncomputable def fG (H:AH) (a i:AV):Option AV:=(aK i).elim ((lh a).bind fun r=>(bu i).bind fun x=>(qy H r.1).bind fun l=>(l.1.find? (·.1==x.1)).bind fun p=>some p.2) fun k =>
 (bu a).elim ((rS a).elim ((aY H a).bind fun l=>(dX l.length k.1).bind (l[·]?)) fun l=>(dX l.1.length k.1).bind (l.1[·]?))
  fun x=>(dX x.1.cps.size k.1).bind fun j=>(x.1.cps[j]?).bind fun c=>some (.str ⟨#[c]⟩)
noncomputable def lM {α:Type} (l:List α) (lo hi:Option Int):Option (List α) :=
 match lo,hi with
 |none,none=>some l
 |some a,none=>if 0≤a then some (l.drop a.toNat) else none
 |none,some b=>if 0≤b then some (l.take b.toNat) else none
 |some a,some b=>if 0≤a&&0≤b then some ((l.take b.toNat).drop a.toNat) else none
noncomputable def b4 (n:Nat):Nat→List AV→List AV
 |_,[]=>[]
 |0,a::r=>a::b4 n (n-1) r
 |k+1,_::r=>b4 n k r
noncomputable def j8:Option AV→Option (Option Int)
 |none=>some none
 |some a=>(aK a).bind fun i=>some (some i.1)
noncomputable def cg (a:AV) (lo hi st:Option AV):Option AV:=(j8 lo).bind fun lo=>(j8 hi).bind fun hi=>(j8 st).bind fun st=>match st with
 |none=>(bu a).elim ((bL a).elim ((lg a).bind fun l=>if l.1.length≤1000000 then (lM l.1 lo hi).bind fun l=>some (.lst l) else none)
   fun b=>if b.1.size≤1000000 then (lM b.1.toList lo hi).bind fun l=>some (.bytes l.toArray) else none)
   fun x=>if x.1.cps.size≤1000000 then (lM x.1.cps.toList lo hi).bind fun l=>some (.str ⟨l.toArray⟩) else none
 |some i=>if i=7∧hi=none then (lg a).bind fun l=>lo.bind fun k=>if 0≤k∧l.1.length≤1000000 then some (.lst (b4 7 k.toNat l.1)) else none else none
noncomputable def lj (lt:AV→AV→Option Bool) (m x:AV):Option AV:=(lt x m).bind fun b=>some (cond b x m)
noncomputable def CQ (lt:AV→AV→Option Bool):List AV→Option AV
 |[]=>none
 |a::r=>r.foldlM (lj lt) a
noncomputable def j9 (i:Int):List Int→List Int
 |[]=>[i]
 |j::r=>if i≤j then i::j::r else j::j9 i r
noncomputable def dY (l:List Int):List Int:=l.foldr j9 []
noncomputable def E4 (x:Str):Option Nat:=(List.range 7).find? fun k=>x==⟨#[48,48,48,48+k]⟩
noncomputable def uv (n:Nat):Option AV:=if n<1000000 then some (.int n) else none
noncomputable def abi (H:AH) (b:BI) (args:List AV):Option AV:=match b with
 |.len=>(dJ args).bind fun a=>(bu a.1).elim ((bL a.1).elim ((mi a.1).elim ((fE H a.1).bind fun l=>uv l.length) fun l=>some (.int l.1.length)) fun b=>uv b.1.size) fun x=>uv x.1.cps.size
 |.sum=>(dJ args).bind fun a=>(aY H a.1).bind fun l=>(bE l).bind fun l=>some (.int l.sum)
 |.min=>(dJ args).bind fun a=>(aY H a.1).bind (CQ ltv)
 |.max=>(dJ args).bind fun a=>(aY H a.1).bind (CQ gtv)
 |.all=>(dJ args).bind fun a=>(aY H a.1).bind fun l=>(mj l).bind fun l=>some (.bool (l.all id))
 |.set=>(dJ args).bind fun a=>(aY H a.1).bind fun l=>(bE l).bind fun l=>if l.length<500 then some (.set (cH l)) else none
 |.sorted=>(dJ args).bind fun a=>(mi a.1).bind fun l=>(bE l.1).bind fun l=>if l.length<60 then some (.lst ((dY l).map .int)) else none
 |.isinstance=>(rU args).bind fun p=>(CO p.1.2).bind fun n=>(bu p.1.1).elim ((bL p.1.1).bind fun _=>if n.1 = "bytes" then some (.bool true) else none) fun _=>if n.1 = "str" then some (.bool true) else if n.1 = "bytes" then some (.bool false) else none
 |.issubclass=>(rU args).bind fun p=>(CO p.1.1).bind fun n=>(rS p.1.2).bind fun l=>(rU l.1).bind fun q=>(CO q.1.1).bind fun a=>(CO q.1.2).bind fun b=>if (a.1 = "str" ∧ b.1 = "bytes")∧(n.1 = "str" ∨ n.1 = "bytes") then some (.bool true) else none
 |.type=>(dJ args).bind fun a=>(bu a.1).elim ((bL a.1).bind fun _=>some (.ty "bytes")) fun _=>some (.ty "str")
 |.ord=>(dJ args).bind fun a=>(zu a.1).bind fun c=>some (.int c.1)
 |.chr=>(dJ args).bind fun a=>(aK a.1).bind fun i=>if 0≤i.1&&i.1<128 then some (.str ⟨#[i.1.toNat]⟩) else none
 |.int16=>(rU args).bind fun p=>(bu p.1.1).bind fun x=>(aK p.1.2).bind fun b=>if b.1=16 then (E4 x.1).bind fun n=>some (.int n) else none
noncomputable def aV (c:Nat):Nat→List Nat→Option Nat
 |_,[]=>none
 |0,a::r=>if a=c then some 0 else (aV c 0 r).map (·+1)
 |k+1,_::r=>(aV c k r).map (·+1)
noncomputable def ao {α:Type} [BEq α] (c:α):List α→List (List α)
 |[]=>[[]]
 |a::r=>if a==c then []::ao c r else (match ao c r with
  |w::ws=>(a::w)::ws
  |[]=>[[a]])
noncomputable def bk {α:Type} (c:List α):List (List α)→List α
 |[]=>[]
 |[w]=>w
 |w::r=>w++c++bk c r
noncomputable def bytesOf:List AV→Option (List (List UInt8))
 |[]=>some []
 |a::r=>(bL a).bind fun b=>(bytesOf r).bind fun l=>some (b.1.toList::l)
noncomputable def ml:List AV→Option (List (List Nat))
 |[]=>some []
 |a::r=>(bu a).bind fun b=>(ml r).bind fun l=>some (b.1.cps.toList::l)
noncomputable def EI (H:AH) (m:ME) (a:AV) (args:List AV):Option AV:=match m with
 |.index=>(bu a).bind fun x=>(rU args).bind fun y=>(zu y.1.1).bind fun c=>(aK y.1.2).bind fun p=>if 0≤p.1 then (aV c.1 p.1.toNat x.1.cps.toList).bind fun (i:Nat)=>some (AV.int (Int.ofNat i)) else none
 |.encode=>(bu a).bind fun x=>(GR args).bind fun _=>if x.1.cps.all (·<128)&&x.1.cps.size≤1000000 then some (.bytes (x.1.cps.map (·.toUInt8))) else none
 |.sjoin=>(bu a).bind fun x=>(dJ args).bind fun y=>if x.1.cps.size=0 then (aY H y.1).bind fun l=>(ml l).bind fun l=>if (l.map (·.length)).sum≤1000000 then some (.str ⟨(bk x.1.cps.toList l).toArray⟩) else none else none
 |.startswith=>(bL a).bind fun b=>(dJ args).bind fun y=>(pB y.1).bind fun c=>some (.bool (b.1.toList.head?==some c.1))
 |.endswith=>(bL a).bind fun b=>(dJ args).bind fun y=>(pB y.1).bind fun c=>some (.bool (b.1.toList.getLast?==some c.1))
 |.rfind=>(bL a).bind fun b=>(dJ args).bind fun y=>(pB y.1).bind fun c=>some (.int ((b.1.size:Int)-1-((b.1.toList.reverse.findIdx (·==c.1):Nat):Int)))
 |.rstrip=>(bL a).bind fun b=>(dJ args).bind fun y=>(pB y.1).bind fun c=>if b.1.size≤1000000 then some (.bytes (b.1.toList.reverse.dropWhile (·==c.1)).reverse.toArray) else none
 |.split=>(bL a).bind fun b=>(dJ args).bind fun y=>(pB y.1).bind fun c=>if b.1.size≤1000000 then some (.lst ((ao c.1 b.1.toList).map fun l => .bytes l.toArray)) else none
 |.bjoin=>(bL a).bind fun b=>(dJ args).bind fun y=>(aY H y.1).bind fun l=>(bytesOf l).bind fun l=>if b.1.size=1∧(l.map (·.length)).sum+l.length≤1000000 then some (.bytes (bk b.1.toList l).toArray) else none
 |.isdisjoint=>(zt a).bind fun l=>(dJ args).bind fun y=>(bu y.1).bind fun x=>if x.1.cps.all (·<128) then some (.bool (x.1.cps.toList.all fun c=>!l.1.contains c)) else none
 |.issuperset=>(zt a).bind fun l=>(dJ args).bind fun y=>(bu y.1).bind fun x=>if x.1.cps.all (·<128) then some (.bool (x.1.cps.toList.all fun c=>l.1.contains c)) else none
 |_=>none
noncomputable def fH (m:ME) (H:AH) (a:AV) (args:List AV):Option (AV×AH):=match m with
 |.append=>(lh a).bind fun i=>(dJ args).bind fun x=>(j7 H i.1).bind fun l=>if l.1.length<1000000∧noRef x.1=true then some (.none,H.set i.1 (.list (l.1++[x.1]))) else none
 |.pop=>(lh a).bind fun i=>(GR args).bind fun _=>(j7 H i.1).bind fun l=>(l.1.getLast?).bind fun x=>if l.1.length≤1000000 then some (x,H.set i.1 (.list l.1.dropLast)) else none
 |m=>(EI H m a args).bind fun r=>some (r,H)
noncomputable def dm (x:Str) (v:AV):List (Str×AV)→List (Str×AV)
 |[]=>[(x,v)]
 |(y,w)::r=>if y=x then (y,v)::r else (y,w)::dm x v r
noncomputable def w6 (H:AH) (o i x:AV):Option AH:=(lh o).bind fun r=>(aK i).elim ((bu i).bind fun y=>(qy H r.1).bind fun l=>if l.1.length<100∧noRef x=true then some (H.set r.1 (.dict (dm y.1 x l.1))) else none)
 fun k=>(j7 H r.1).bind fun l=>if ((0≤k.1∧k.1<l.1.length)∧l.1.length≤1000000)∧noRef x=true then some (H.set r.1 (.list (l.1.set k.1.toNat x))) else none
noncomputable def E5 (a:AV):Option {l:List AV // a = .tup l∨∃ b,a = .set [b]∧l=[b]}:=match a with
 |.tup l=>some ⟨l,.inl rfl⟩
 |.set [b]=>some ⟨[b],.inr ⟨b,rfl,rfl⟩⟩
 |_=>none
noncomputable def gg (V:VM) (t:Tgt) (a:AV):Option VM:=match t with
 |.name i=>some (V.set i (some a))
 |.tup is=>(E5 a).bind fun l=>if is.length=l.1.length then some ((is.zip l.1).foldl (fun V p=>V.set p.1 (some p.2)) V) else none
noncomputable def fU (H:AH):AV→Bool
 |.ref i=>(match H[i]? with
  |some (.list _)=>true
  |_=>false)
 |_=>true
noncomputable def avK:AV→Nat
 |.str _=>1 | .bytes _=>2 | .fset _=>3 | .ref _=>4|_=>0
noncomputable def meK:ME→Nat
 |.index=>1 | .encode=>1 | .sjoin=>1 | .isdisjoint=>3 | .issuperset=>3 | .append=>4 | .pop=>4|_=>2
noncomputable def uw:AV→Bool
 |.bool b=>b
 |_=>false
noncomputable abbrev ae:=Nat→List AV→List (Str×AV)→AH→Option (AV×AH)
noncomputable def az (a b:Int):List AV:=(List.range (b-a).toNat).map fun (i:Nat)=>AV.int (a+i)
noncomputable def dZ (l:List AV):Option (List AV) :=
 (dJ l).elim ((rU l).bind fun p=>(aK p.1.1).bind fun a=>(aK p.1.2).bind fun b=>if (-1000≤a.1∧a.1≤1000) ∧ -1000≤b.1∧b.1≤1000 then some (az a.1 b.1) else none)
  fun x=>(aK x.1).bind fun n=>if -1000≤n.1∧n.1≤1000 then some (az 0 n.1) else none
noncomputable def mn:Nat→List AV→List AV
 |_,[]=>[]
 |n,a::r => .tup [.int n,a]::mn (n+1) r
noncomputable def dB (V:VM) (l:List (Option Nat)):VM:=l.map fun
 |some j=>(V[j]?).join
 |none=>none
noncomputable def qz (C:ae) (f:Nat):List AV→AH→Option (List AV×AH)
 |[],H=>some ([],H)
 |a::l,H=>(C f [a] [] H).bind fun p=>(qz C f l p.2).bind fun q=>some (p.1::q.1,q.2)
noncomputable def compLoop (f:AV→VM→AH→Option (Option AV×VM×AH)):List AV→VM→AH→Option (List AV×AH)
 |[],_,H=>some ([],H)
 |a::r,V,H=>(f a V H).bind fun q=>(compLoop f r q.2.1 q.2.2).bind fun p=>some (q.1.toList++p.1,p.2)
noncomputable def gh (ifs:VM→AH→Option (Bool×AH)) (elt:VM→AH→Option (AV×AH)) (t:Tgt) (okB:AV→Bool) (a:AV) (V:VM) (H:AH):Option (Option AV×VM×AH) :=
 (gg V t a).bind fun V=>(ifs V H).bind fun k=>cond k.1 ((elt V k.2).bind fun q=>cond (okB q.1) (some (some q.1,V,q.2)) none) (some (none,V,k.2))
noncomputable def zv:BoolOp→Bool→Bool
 |.And,b=>b
 |.Or,b=>!b
mutual
noncomputable def ev (C:ae):X'→VM→AH→Option (AV×AH)
 |.c k,_,H=>(match k with
  |.none=>some (.none,H) | .bool b=>some (.bool b,H) | .int i=>some (.int i,H) | .str x=>some (.str x,H) | .bytes b=>some (.bytes b.toArray,H)
  |_=>none)
 |.v i,V,H=>((V[i]?).join).bind fun v=>some (v,H)
 |.g a,_,H=>some (a,H)
 |.bin op a b,V,H=>(ev C a V H).bind fun p=>(ev C b V p.2).bind fun q=>(fF q.2 op p.1 q.1).bind fun r=>some (r,q.2)
 |.un op a,V,H=>(ev C a V H).bind fun p=>(aun op p.2 p.1).bind fun r=>some (r,p.2)
 |.bool op l,V,H=>mo C op l V H
 |.cmp a l,V,H=>(ev C a V H).bind fun p=>(g9 C p.1 l V p.2).bind fun q=>some (.bool q.1,q.2)
 |.ife t a b,V,H=>(tv C t (ev C t V H) V H).bind fun p=>cond p.1 (ev C a V p.2) (ev C b V p.2)
 |.lst l,V,H=>(evL C l V H).bind fun p=>if p.1.length≤1000∧noRef.all p.1=true then some (.ref p.2.length,p.2++[.list p.1]) else none
 |.tup l,V,H=>(evL C l V H).bind fun p=>if p.1.length≤1000 then some (.tup p.1,p.2) else none
 |.set1 a,V,H=>(ev C a V H).bind fun p=>(aK p.1).bind fun i=>some (.set [.int i.1],p.2)
 |.dict0,_,H=>some (.ref H.length,H++[.dict []])
 |.sub a i,V,H=>(ev C a V H).bind fun p=>(ev C i V p.2).bind fun q=>(fG q.2 p.1 q.1).bind fun r=>some (r,q.2)
 |.sl a lo hi st,V,H=>(ev C a V H).bind fun p=>(evO C lo V p.2).bind fun l=>(evO C hi V l.2).bind fun h=>(evO C st V h.2).bind fun t=>(cg p.1 l.1 h.1 t.1).bind fun r=>some (r,t.2)
 |.call f args kws,V,H=>(evL C args V H).bind fun p=>(evK C kws V p.2).bind fun q=>C f p.1 q.1 q.2
 |.bi b args,V,H=>(evL C args V H).bind fun p=>(abi p.2 b p.1).bind fun r=>some (r,p.2)
 |.meth m a args,V,H=>(ev C a V H).bind fun p=>cond (Nat.beq (avK p.1) (meK m)) (cond (fU p.2 p.1) ((evL C args V p.2).bind fun q=>fH m q.2 p.1 q.1) none) none
 |.tupleMap f a,V,H=>(ev C a V H).bind fun p=>(jt p.2 p.1).bind fun l=>(qz C f l p.2).bind fun q=>some (.tup q.1,q.2)
 |.listRange args,V,H=>(evL C args V H).bind fun p=>(dZ p.1).bind fun l=>some (.lst l,p.2)
 |.lc cp t it ifs elt,V,H=>(evI C it V H).bind fun p=>cond (Nat.ble p.1.length 1000) ((compLoop (gh (bU C ifs) (ev C elt) t fun _=>true) p.1 (dB V cp) p.2).bind fun q=>some (.lst q.1,q.2)) none
 |.sc cp t it elt,V,H=>(evI C it V H).bind fun p=>cond (Nat.ble p.1.length 1000) ((compLoop (gh (fun _ H=>some (true,H)) (ev C elt) t uw) p.1 (dB V cp) p.2).bind fun q=>cond q.1.isEmpty none (some (.set [.bool true],q.2))) none
noncomputable def evO (C:ae):gZ→VM→AH→Option (Option AV×AH)
 |.no,_,H=>some (none,H)
 |.yes x,V,H=>(ev C x V H).bind fun p=>some (some p.1,p.2)
noncomputable def evL (C:ae):XL→VM→AH→Option (List AV×AH)
 |.nil,_,H=>some ([],H)
 |.cons x r,V,H=>(ev C x V H).bind fun p=>(evL C r V p.2).bind fun q=>some (p.1::q.1,q.2)
noncomputable def evK (C:ae):KL→VM→AH→Option (List (Str×AV)×AH)
 |.nil,_,H=>some ([],H)
 |.cons n x r,V,H=>(ev C x V H).bind fun p=>(evK C r V p.2).bind fun q=>some ((n,p.1)::q.1,q.2)
noncomputable def mo (C:ae) (op:BoolOp):XL→VM→AH→Option (AV×AH)
 |.nil,_,_=>none
 |.cons x r,V,H=>(match r with
  |.nil=>ev C x V H
  |r=>(ev C x V H).bind fun p=>(cG p.2 p.1).bind fun b=>cond (zv op b) (mo C op r V p.2) (some p))
noncomputable def g9 (C:ae) (x:AV):CL→VM→AH→Option (Bool×AH)
 |.nil,_,_=>none
 |.cons op y r,V,H=>(ev C y V H).bind fun p=>(f9 p.2 op x p.1).bind fun b=>(match r with
  |.nil=>some (b,p.2)
  |r=>cond b (g9 C p.1 r V p.2) (some (false,p.2)))
noncomputable def evI (C:ae):IT→VM→AH→Option (List AV×AH)
 |.val x,V,H=>(ev C x V H).bind fun p=>(GQ p.1).bind fun l=>some (l.1,p.2)
 |.range args,V,H=>(evL C args V H).bind fun p=>(dZ p.1).bind fun l=>some (l,p.2)
 |.enum x,V,H=>(ev C x V H).bind fun p=>(lg p.1).bind fun l=>some (mn 0 l.1,p.2)
 |.zip a b,V,H=>(ev C a V H).bind fun p=>(ev C b V p.2).bind fun q=>(lg p.1).bind fun l=>(lg q.1).bind fun r=>if l.1.length=r.1.length then some ((l.1.zip r.1).map fun p => .tup [p.1,p.2],q.2) else none
noncomputable def tv (C:ae):X'→Option (AV×AH)→VM→AH→Option (Bool×AH)
 |.un .Not a,_,V,H=>(tv C a (ev C a V H) V H).bind fun p=>some (!p.1,p.2)
 |.bool op l,_,V,H=>fV C op l V H
 |.ife t a b,_,V,H=>(tv C t (ev C t V H) V H).bind fun p=>cond p.1 (tv C a (ev C a V p.2) V p.2) (tv C b (ev C b V p.2) V p.2)
 |.cmp a l,_,V,H=>(ev C a V H).bind fun p=>g9 C p.1 l V p.2
 |_,whole,_,_=>whole.bind fun p=>(cG p.2 p.1).bind fun b=>some (b,p.2)
noncomputable def fV (C:ae) (op:BoolOp):XL→VM→AH→Option (Bool×AH)
 |.nil,_,H=>some (op == .And,H)
 |.cons x r,V,H=>(tv C x (ev C x V H) V H).bind fun p=>cond (zv op p.1) (fV C op r V p.2) (some p)
noncomputable def bU (C:ae):XL→VM→AH→Option (Bool×AH)
 |.nil,_,H=>some (true,H)
 |.cons x r,V,H=>(tv C x (ev C x V H) V H).bind fun p=>cond p.1 (bU C r V p.2) (some (false,p.2))
end
noncomputable def rV (go:VM→AH→Option (Fl×VM×AH)) (r:Fl×VM×AH):Option (Fl×VM×AH):=match r.1 with
 |.next=>go r.2.1 r.2.2
 |.cont=>go r.2.1 r.2.2
 |.brk=>some (.next,r.2)
 |.ret v=>some (.ret v,r.2)
noncomputable def E6 (go:VM→AH→Option (Fl×VM×AH)) (r:Fl×VM×AH):Option (Fl×VM×AH):=match r.1 with
 |.next=>go r.2.1 r.2.2
 |.cont=>some r
 |.brk=>some r
 |.ret _=>some r
noncomputable def bZ (t:VM→AH→Option (Bool×AH)) (b:VM→AH→Option (Fl×VM×AH)):Nat→VM→AH→Option (Fl×VM×AH)
 |0,_,_=>none
 |n+1,V,H=>(t V H).bind fun q=>cond q.1 ((b V q.2).bind (rV (bZ t b n))) (some (.next,V,q.2))
noncomputable def ju (tg:Tgt) (b:VM→AH→Option (Fl×VM×AH)):List AV→VM→AH→Option (Fl×VM×AH)
 |[],V,H=>some (.next,V,H)
 |a::l,V,H=>(gg V tg a).bind fun V=>(b V H).bind (rV (ju tg b l))
mutual
noncomputable def ex (C:ae) (N:Nat):S→VM→AH→Option (Fl×VM×AH)
 |.asg t x,V,H=>(ev C x V H).bind fun p=>(gg V t p.1).bind fun V=>some (.next,V,p.2)
 |.asgSub o i x,V,H=>(ev C x V H).bind fun p=>(ev C o V p.2).bind fun q=>(ev C i V q.2).bind fun r=>(w6 r.2 q.1 r.1 p.1).bind fun H=>some (.next,V,H)
 |.aug i op x,V,H=>((V[i]?).join).bind fun old=>(ev C x V H).bind fun p=>(CP op old p.1).bind fun v=>some (.next,V.set i (some v),p.2)
 |.ite t a b,V,H=>(tv C t (ev C t V H) V H).bind fun p=>cond p.1 (exs C N a V p.2) (exs C N b V p.2)
 |.while t b,V,H=>bZ (fun V H=>tv C t (ev C t V H) V H) (exs C N b) N V H
 |.for t it b,V,H=>(evI C it V H).bind fun p=>ju t (exs C N b) p.1 V p.2
 |.ret x,V,H=>(ev C x V H).bind fun p=>some (.ret p.1,V,p.2)
 |.expr x,V,H=>(ev C x V H).bind fun p=>some (.next,V,p.2)
 |.try b,V,H=>exs C N b V H
 |.brk,V,H=>some (.brk,V,H)
 |.cont,V,H=>some (.cont,V,H)
 |.pass,V,H=>some (.next,V,H)
 |.bad,_,_=>none
noncomputable def exs (C:ae) (N:Nat):SL→VM→AH→Option (Fl×VM×AH)
 |.nil,V,H=>some (.next,V,H)
 |.cons s r,V,H=>(ex C N s V H).bind (E6 (exs C N r))
end
noncomputable def freeze (n:Nat) (H:AH) (v:AV):Option AV:=match lh v with
 |some i=>if i.1<n then some v else (match H[i.1]? with
  |some (.list l)=>if noRef.all l then some (.lst l) else none
  |_=>none)
 |none=>if noRef v then some v else none
noncomputable def ah (C:ae) (N:Nat) (b:SL) (V:VM) (H:AH):Option (AV×AH) :=
 (exs C N b V H).bind fun q=>(match q.1 with
  |.ret v=>(freeze H.length q.2.2 v).map (·,q.2.2.take H.length)
  |.next=>some (.none,q.2.2.take H.length)
  |_=>none)
inductive GV where
 |fn (k:Nat)|set (l:List Nat)|ty (n:String)|bi (b:BI)
structure Sc where
 slots:List Str
 kinds:List (Str×NameKind)
 glob:List (Str×GV)
noncomputable def CR (n:Str):List Str→Option Nat
 |[]=>none
 |m::r=>if m=n then some 0 else (CR n r).map (·+1)
noncomputable def Sc.slot (s:Sc) (n:Str):Option Nat:=CR n s.slots
noncomputable def Sc.g (s:Sc) (n:Str):Option GV :=
 if s.slot n=none∧s.kinds.lookup n=some .globalImplicit then s.glob.lookup n else none
noncomputable def fI (e:Expr):Option {x:Str×Pos // e = .Name x.1 x.2}:=match e with
 |.Name n p=>some ⟨(n,p),rfl⟩
 |_=>none
noncomputable def fJ (e:Expr):Option {x:List Expr×Nat×Pos // e = .Tuple x.1 x.2.1 x.2.2}:=match e with
 |.Tuple es k p=>some ⟨(es,k,p),rfl⟩
 |_=>none
noncomputable def gi (s:Sc):List Expr→Option (List Nat)
 |[]=>some []
 |e::r=>(fI e).bind fun n=>(s.slot n.1.1).bind fun i=>(gi s r).bind fun l=>some (i::l)
noncomputable def cT (s:Sc) (e:Expr):Option Tgt:=match fI e with
 |some n=>(s.slot n.1.1).bind fun i=>some (.name i)
 |none=>(fJ e).bind fun es=>(gi s es.1.1).bind fun l=>some (.tup l)
noncomputable def b9 (names:List (Str×NameKind)):List Str:=(names.filter fun p=>p.2 == .local||p.2 == .cell||p.2 == .free).map (·.1)
noncomputable def cJ (s:Sc) (names:List (Str×NameKind)):List (Option Nat):=(names.filter fun p=>p.2 == .local||p.2 == .cell||p.2 == .free).map fun p=>if p.2 == .free then s.slot p.1 else none
noncomputable def mq (s:Sc) (sc:Scope):Bool:=sc.kind == .function&&decide ((sc.names.map (·.1)).Nodup)&&sc.names.all fun p=>p.2 != .free||((s.slot p.1).isSome&&(s.kinds.lookup p.1==some .cell||s.kinds.lookup p.1==some .free))
noncomputable def aW:Expr→Bool
 |.Starred ..=>false
 |_=>true
noncomputable def gj:Expr→Bool
 |.Set ..=>false
 |_=>true
noncomputable def ka:Expr→Bool
 |.Call (.Name _ _) [] [] _=>false
 |_=>true
noncomputable def aM (s:Sc) (sc:Scope):Sc:=⟨b9 sc.names,sc.names,s.glob⟩
noncomputable def mr:ME→Str
 |.index => "index" | .encode => "encode" | .sjoin => "join" | .startswith => "startswith" | .endswith => "endswith" | .rfind => "rfind" | .rstrip => "rstrip" | .split => "split" | .bjoin => "join" | .isdisjoint => "isdisjoint" | .issuperset => "issuperset" | .append => "append" | .pop => "pop"
noncomputable def zw:Expr→Bool
 |.Constant (.str _) _ _=>true
 |_=>false
noncomputable def zx (o:Expr):ME→Bool
 |.sjoin=>zw o
 |.bjoin=>!zw o
 |_=>true
noncomputable def E7 (o:Expr) (m:Str):Option ME:=[ME.index,.encode,.sjoin,.startswith,.endswith,.rfind,.rstrip,.split,.bjoin,.isdisjoint,.issuperset,.append,.pop].find? fun me=>mr me==m&&zx o me
noncomputable def l8 (sc:Scope) (n:Str):Bool:=sc.names.lookup n==some .local||sc.names.lookup n==some .cell
noncomputable def tOk (sc:Scope) (e:Expr):Bool:=match fI e with
 |some n=>l8 sc n.1.1
 |none=>(fJ e).elim false fun es=>es.1.1.all fun e=>(fI e).elim false fun n=>l8 sc n.1.1
noncomputable def kj:Expr→Bool
 |.ListComp .. | .SetComp .. | .DictComp ..=>false
 |_=>true
end
end Mine
namespace Mine
open PySem PySem.W PySem.Calls PyProof.Rows
noncomputable section
theorem bP {α:Type} [DecidableEq α] {l:List α}:∀ {m:List α},l.Nodup→(∀ x∈l,x∈m)→l.length≤m.length:=by
 induction l with
 |nil=>exact fun _ _=>Nat.zero_le _
 |cons a l ih =>
  intro m h hs
  obtain⟨h1,h2⟩:=List.nodup_cons.mp h
  have hm:=hs a (.head _)
  have:=ih (m:=m.erase a) h2 fun x hx=>(List.mem_erase_of_ne (fun e=>by subst e;exact h1 hx)).mpr (hs x (.tail _ hx))
  rw [List.length_erase_of_mem hm] at this
  exact Nat.add_le_of_le_sub (List.length_pos_of_mem hm) this
noncomputable abbrev aj (c:String) (es:Array (Int×Value)) (ep:Nat) (t:SetTable):Obj:={ cls := .type c,data := .set es ep t }
noncomputable def br {K:Type} [DecidableEq K] (ns:List K) (k:K):List K:=if k∈ns then ns else ns++[k]
theorem dU {K:Type} [DecidableEq K] {ns:List K} {k k':K}:k'∈br ns k↔k'∈ns∨k'=k:=by
 unfold br
 split
 ·rename_i h
  exact⟨.inl,fun q=>q.elim id fun e=>e▸h⟩
 ·simp
theorem lk {K:Type} [DecidableEq K] {ns:List K} {k:K} (h:ns.Nodup):(br ns k).Nodup:=by
 unfold br
 split
 ·exact h
 ·rename_i q
  refine rP List.nodup_append ?_
  exact⟨h,by simp,fun a ha b hb e=>by rw [List.mem_singleton] at hb;subst hb;subst e;exact q ha⟩
theorem pD {K:Type} [DecidableEq K] (ns:List K) (k:K):(br ns k).length≤ns.length+1:=by
 unfold br;split<;>simp
theorem dK (h:Heap) (a:Addr) (f g:Obj→Obj):(h.update a f).update a g=h.update a fun o=>g (f o):=by
 obtain⟨objs,l⟩:=h
 simp only [Heap.update]
 congr 1
 apply Array.ext
 ·simp
 ·intro i h1 h2
  simp only [Array.getElem_modify]
  split<;>rfl
theorem d0 {h:Heap} {a:Addr} {o:Obj} (e:h.get? a=some o):h.update a (fun _=>o)=h:=by
 have e':=((Heap.get?_eq_some h a o).mp e).1
 obtain⟨objs,l⟩:=h
 refine congrArg (Heap.mk · l) (Array.ext_getElem? fun i => ?_)
 refine rT Array.getElem?_modify ?_
 by_cases q:a=i
 ·subst q;exact (if_pos rfl).trans ((congrArg (Option.map fun _=>o) e').trans e'.symm)
 ·exact if_neg q
theorem cb {h:Heap} {a:Addr} {o o':Obj} (e:h.get? a=some o) (hf:o'.isFreed=false):(h.update a fun _=>o').get? a=some o':=Heap.get?_update_self (fun _=>o') e hf
theorem w8 {h:Heap} {a:Addr} {o:Obj} {f:Obj→Obj} (e:h.get? a=some o):h.update a f=h.update a fun _=>f o:=by
 have:=dK h a (fun _=>o) f
 rw [d0 e] at this
 exact this
theorem aA {h:Heap} {a b:Addr} {f:Obj→Obj} (hb:b≠a):(h.update a f).get? b=h.get? b:=Heap.get?_update_other _ _ (Ne.symm hb)
noncomputable def de (xs:Array Nat):Prop:=xs.toList.Pairwise (·<·)
theorem de.lt {xs:Array Nat} (h:de xs) {i j a b:Nat} (hi:xs[i]?=some a) (hj:xs[j]?=some b) (hij:i<j):a<b:=by
 rw [← Array.getElem?_toList] at hi hj
 obtain⟨h1,e1⟩:=KK.mp hi
 obtain⟨h2,e2⟩:=KK.mp hj
 have:=List.pairwise_iff_getElem.mp h i j h1 h2 hij
 rw [e1,e2] at this;exact this
theorem E8 {lo hi:Nat} (h:lo<hi):lo≤(lo+hi) / 2∧(lo+hi) / 2<hi :=
 ⟨(Nat.le_div_iff_mul_le (by decide)).mpr (Nat.mul_two lo▸Nat.add_le_add_left (KW h) lo),(Nat.div_lt_iff_lt_mul (by decide)).mpr (Nat.mul_two hi▸Nat.add_lt_add_right h hi)⟩
theorem GS {lo hi m fuel:Nat} (h:hi-lo≤fuel+1) (a:lo≤m):hi-(m+1)≤fuel:=Kv (Nat.sub_le_sub_left (Nat.succ_le_succ a) hi) (Nat.pred_le_pred h)
theorem GT {lo hi m fuel:Nat} (h:hi-lo≤fuel+1) (b:m<hi) (a:lo≤m):m-lo≤fuel:=Nat.le_of_succ_le_succ (Nat.succ_sub a▸Kv (Nat.sub_le_sub_right b lo) h)
theorem zy {xs:Array Nat} (h:de xs) (j fuel:Nat):∀ (lo hi:Nat),hi-lo≤fuel→lo≤hi→hi≤xs.size→(∀ i a,i<lo→xs[i]?=some a→a<j)→(∀ i a,hi≤i→xs[i]?=some a→j≤a) →
  (∀ i a,i<SetTable.below.go xs j fuel lo hi→xs[i]?=some a→a<j)∧(∀ i a,SetTable.below.go xs j fuel lo hi≤i→xs[i]?=some a→j≤a)∧SetTable.below.go xs j fuel lo hi≤xs.size:=by
 induction fuel with
 |zero =>
  intro lo hi h1 h2 h3 h4 h5
  have e:lo=hi:=Nat.le_antisymm h2 (Nat.sub_eq_zero_iff_le.mp (Nat.le_zero.mp h1))
  subst e
  exact⟨h4,h5,h3⟩
 |succ fuel ih =>
  intro lo hi h1 h2 h3 h4 h5
  unfold SetTable.below.go
  split
  ·rename_i hlt
   obtain⟨a,b⟩:=E8 hlt
   dsimp only
   generalize (lo+hi) / 2=m at a b ⊢
   have hm:=KZ b h3
   have hg:xs[m]?=some xs[m]:=Lx hm
   have hd:xs.getD m j=xs[m]:=Array.getD_eq_getD_getElem?.trans (congrArg (Option.getD · j) hg)
   refine rT hd ?_
   split
   ·rename_i q
    refine ih _ _ (GS h1 a) b h3 (fun i c hi e => ?_) h5
    rcases Nat.lt_or_ge i m with k|k
    ·exact Kd (h.lt e hg k) q
    ·have:i=m:=Nat.le_antisymm (Nat.le_of_lt_succ hi) k
     subst this;exact KY (hg.symm.trans e)▸q
   ·rename_i q
    refine ih _ _ (GT h1 b a) a (KW hm) h4 fun i c hi e => ?_
    rcases Nat.lt_or_ge m i with k|k
    ·exact KW (KQ (Nat.le_of_not_lt q) (h.lt hg e k))
    ·have:i=m:=Nat.le_antisymm k hi
     subst this;exact KY (hg.symm.trans e)▸Nat.le_of_not_lt q
  ·have e:lo=hi:=Nat.le_antisymm h2 (Nat.le_of_not_lt ‹_›)
   subst e
   exact⟨h4,h5,h3⟩
theorem mt {xs:Array Nat} (h:de xs) (j:Nat):(∀ i a,i<SetTable.below xs j→xs[i]?=some a→a<j)∧(∀ i a,SetTable.below xs j≤i→xs[i]?=some a→j≤a)∧SetTable.below xs j≤xs.size:=by
 exact zy h j xs.size 0 xs.size (by exact Nat.le.refl) (Nat.zero_le _) (KX _) (fun i a hi=>absurd hi (Nat.not_lt_zero _)) fun i a hi e=>by
  exact absurd (Array.getElem?_eq_some_iff.mp e).1 (Nat.not_lt.mpr hi)
theorem rW {xs:Array Nat} (h:de xs) {j:Nat} (hn:xs[SetTable.below xs j]?≠some j):de (SetTable.insertAt xs (SetTable.below xs j) j):=by
 obtain⟨h1,h2,h3⟩:=mt h j
 unfold de
 refine rT (SetTable.toList_insertAt ..) ?_;refine rP List.pairwise_append ?_
 refine⟨List.Pairwise.sublist (List.take_sublist _ _) h,List.pairwise_cons.mpr ⟨fun a ha => ?_,List.Pairwise.sublist (List.drop_sublist _ _) h⟩,fun a ha b hb => ?_⟩
 ·obtain⟨i,hi⟩:=List.mem_iff_getElem?.mp ha
  rw [List.getElem?_drop,Array.getElem?_toList] at hi
  have hle:=h2 _ _ (Kf _ i) hi
  rcases Nat.lt_or_ge j a with q|q
  ·exact q
  ·have e:a=j:=Nat.le_antisymm q hle
   subst e
   cases i with
   |zero=>exact absurd hi hn
   |succ i =>
    have hlt:SetTable.below xs a<xs.size:=KQ (Kf _ _) (Array.getElem?_eq_some_iff.mp hi).1
    have h0:=Lx hlt
    have q1:=h2 _ _ (KX _) h0
    exact absurd (h.lt h0 hi (Nat.lt_add_of_pos_right (Nat.succ_pos i))) (Nat.not_lt.mpr q1)
 ·have haj:a<j:=by
   obtain⟨i,hi⟩:=List.mem_iff_getElem?.mp ha
   rw [List.getElem?_take] at hi
   split at hi
   ·rename_i q
    rw [Array.getElem?_toList] at hi
    exact h1 _ _ q hi
   ·cases hi
  rcases KJ.mp hb with rfl|hb
  ·exact haj
  ·obtain⟨i,hi⟩:=List.mem_iff_getElem?.mp hb
   rw [List.getElem?_drop,Array.getElem?_toList] at hi
   exact KZ haj (h2 _ _ (Kf _ i) hi)
theorem fK (n:Nat):de (Array.range n):=by
 unfold de
 refine rT Array.toList_range ?_
 exact List.pairwise_lt_range
theorem rX {t:SetTable} {j:Nat} (h:∀ i,t.slot j ≠ .live i):t.place[SetTable.below t.place j]?≠some j:=fun e=>by
 refine h (SetTable.below t.place j) ?_
 unfold SetTable.slot
 exact rT (if_pos (by rw [e];simp)) rfl
theorem zA {t:SetTable} {f:Nat→Int} {h:Int} (fuel:Nat):∀ (p:SetTable.Probe) (j:Nat) (d:Option Nat),(∀ d,p.dummy=some d→∀ i,t.slot d ≠ .live i)→SetTable.probe.go t f h fuel p=some (.empty j d)→(∀ i,t.slot j ≠ .live i)∧∀ d',d=some d'→∀ i,t.slot d' ≠ .live i:=by
 induction fuel with
 |zero=>intro p j d _ e;simp [SetTable.probe.go] at e
 |succ fuel ih =>
  intro p j d hp e
  have adv:∀ p:SetTable.Probe,(t.advance p).dummy=p.dummy:=fun p=>by unfold SetTable.advance;split<;>rfl
  unfold SetTable.probe.go at e
  split at e
  ·rename_i q
   simp only [Option.some.injEq,SetTable.Met.empty.injEq] at e
   obtain⟨rfl,rfl⟩:=e
   exact⟨fun i=>by refine rT q ?_;exact fun z=>(by cases z),hp⟩
  ·rename_i q
   refine ih _ j d (fun d' hd i => ?_) e
   rw [adv] at hd
   simp only [Option.some.injEq] at hd
   subst hd
   refine rT q ?_;exact fun z=>by cases z
  ·split at e
   ·cases e
   ·exact ih _ j d (fun d' hd=>by rw [adv] at hd;exact hp d' hd) e
theorem zB {t:SetTable} {h:Int} {slot:Nat} {b:Bool} (e:t.freeSlot h=some (slot,b)):t.place[SetTable.below t.place slot]?≠some slot:=by
 unfold SetTable.freeSlot SetTable.probe at e
 split at e
 ·rename_i j d q
  obtain⟨q1,q2⟩:=zA _ _ j d (fun d hd=>by cases hd) q
  simp only [Option.some.injEq,Prod.mk.injEq] at e
  obtain⟨rfl,_⟩:=e
  cases d with
  |none=>exact rX q1
  |some d=>exact rX (q2 d rfl)
 ·cases e
theorem rY {t:SetTable} (ht:de t.place) (es:Array (Int×Value)) (h:Int) (x:Value):de (layNew t es h x).2.1.place:=by
 unfold layNew
 split
 ·rename_i slot wasDummy q
  refine (?_:de (SetTable.orStandIn _ _).place)
  unfold SetTable.orStandIn
  split
  ·exact rW ht (zB q)
  ·exact fK _
 ·exact fK _
theorem pE {mask finger moves:Nat} {led plain:Bool} {hs:Array Int} {t:SetTable} {order:Array Nat} (h:SetTable.laid mask finger moves led plain hs=some (t,order)):de t.place:=by
 unfold SetTable.laid at h
 simp only [bind,Option.bind_eq_some_iff,pure,Option.some.injEq,Prod.mk.injEq] at h
 obtain⟨owner,_,rfl,_⟩:=h
 have:∀ (l:List Nat),l.Pairwise (·<·)→((l.filterMap fun j=>(owner.getD j none).map (j,·)).map (·.1)).Pairwise (·<·):=fun l hl=>by
  refine List.Pairwise.sublist ?_ hl
  clear hl
  induction l with
  |nil=>exact List.Sublist.refl _
  |cons a l ih =>
   refine rT List.filterMap_cons ?_
   cases owner.getD a none with
   |none=>exact ih.cons _
   |some o=>exact ih.cons_cons _
 exact this _ List.pairwise_lt_range
theorem oJ {t:SetTable} (ht:de t.place) (es:Array (Int×Value)) (n:Nat):de (relayAll t es n).2.1.place:=by
 unfold relayAll
 split
 ·rename_i q
  dsimp only
  split
  ·exact pE q
  ·exact fK _
 ·exact fK _
section
variable {prog:Program} {w:World} {K:Type} [DecidableEq K] {knd:KeyKind prog w K}
variable {A:Around} {E:Value→Shared→Prop} {s:Shared}
structure au (knd:KeyKind prog w K) (es:Array (Int×Value)) (t:SetTable) (ns:List K):Prop where
 el:ElemsOf knd es.toList
 mem:∀ k,k∈ns↔∃ e∈es.toList,knd.is k e.2=true
 nd:ns.Nodup
 sz:es.size=ns.length
 b:es.size<scanBound
 fit:t.fits es.size=true
 led:w.params.followText "set-order" = true∨t.led=true
 rise:de t.place
theorem ux (t:SetTable) (es:Array (Int×Value)) (h:Int) (x:Value):(layNew t es h x).2.1.led=t.led:=by
 unfold layNew
 split
 ·refine (?_:(SetTable.orStandIn _ _).led=_)
  unfold SetTable.orStandIn
  split<;>rfl
 ·rfl
theorem uy {t t':SetTable} {hs:Array Int} {n:Nat} {order:Array Nat} (h:t.relaid hs n=some (t',order)):t'.led=t.led:=by
 unfold SetTable.relaid SetTable.laid at h
 simp only [bind,Option.bind_eq_some_iff,pure,Option.some.injEq,Prod.mk.injEq] at h
 obtain⟨_,_,rfl,_⟩:=h
 rfl
theorem qA (t:SetTable) (es:Array (Int×Value)) (n:Nat):(relayAll t es n).2.1.led=t.led:=by
 unfold relayAll
 split
 ·rename_i q
  dsimp only
  split
  ·exact uy q
  ·rfl
 ·rfl
theorem au.congr {es:Array (Int×Value)} {t:SetTable} {ns ms:List K} (h:au knd es t ns) (nd:ms.Nodup) (hm:∀ k,k∈ms↔k∈ns):au knd es t ms :=
 ⟨h.el,fun k=>(hm k).trans (h.mem k),nd,h.sz.trans (Nat.le_antisymm (bP h.nd fun k hk=>(hm k).mpr hk) (bP nd fun k hk=>(hm k).mp hk)),h.b,h.fit,h.led,h.rise⟩
theorem au.perm {es es':Array (Int×Value)} {t t':SetTable} {ns:List K} (h:au knd es t ns) (p:List.Perm es'.toList es.toList) (hf:t'.fits es'.size=true) (hl:w.params.followText "set-order" = true∨t'.led=true) (hr:de t'.place):au knd es' t' ns:=by
 have hs:es'.size=es.size:=by refine rB Array.length_toList ?_;refine rT p.length_eq ?_;exact rT Array.length_toList rfl
 exact⟨h.el.perm p,fun k=>(h.mem k).trans ⟨fun z0=>by obtain⟨e,he,q⟩:=z0;exact⟨e,p.mem_iff.mpr he,q⟩,fun z0=>by obtain⟨e,he,q⟩:=z0;exact⟨e,p.mem_iff.mp he,q⟩⟩,h.nd,hs.trans h.sz,hs▸h.b,hf,hl,hr⟩
noncomputable def v8 (knd:KeyKind prog w K) (e:Int×Value):Option K:=open Classical in if h:∃ k,knd.is k e.2=true then some h.choose else none
theorem rZ {e:Int×Value} {k:K} (h:knd.is k e.2=true):v8 knd e=some k:=by
 unfold v8
 refine rT (dif_pos ⟨k,h⟩) ?_
 exact congrArg some (knd.inj _ _ _ (Exists.choose_spec (⟨k,h⟩:∃ k,knd.is k e.2=true)) h)
theorem au.once {es:Array (Int×Value)} {t:SetTable} {ns:List K} (h:au knd es t ns) {i:Nat} {e e':Int×Value} {k:K} (hi:es.toList[i]?=some e) (hk:knd.is k e.2=true) (he:e'∈es.toList.eraseIdx i) (hk':knd.is k e'.2=true):False:=by
 have hsub:∀ x∈ns,x∈(es.toList.eraseIdx i).filterMap (v8 knd):=fun x hx=>by
  obtain⟨y,hy,hyk⟩:=(h.mem x).mp hx
  refine rP List.mem_filterMap ?_
  by_cases hxk:x=k
  ·subst hxk;exact⟨e',he,rZ hk'⟩
  ·refine⟨y,?_,rZ hyk⟩
   refine rP List.mem_eraseIdx_iff_getElem? ?_
   obtain⟨j,hj,ej⟩:=List.getElem_of_mem hy
   refine⟨j,fun q => ?_,by refine rT (Ky hj) ?_;exact rT ej rfl⟩
   subst q
   rw [List.getElem?_eq_getElem hj,ej] at hi
   cases hi
   exact hxk (knd.inj _ _ _ hyk hk)
 have h1:=bP h.nd hsub
 have h2:=List.length_filterMap_le (v8 knd) (es.toList.eraseIdx i)
 have hlt:i<es.toList.length:=(KK.mp hi).1
 rw [List.length_eraseIdx_of_lt hlt] at h2
 exact Nat.lt_irrefl _ (KQ (Kv h1 h2) (Nat.lt_of_lt_of_eq (Nat.sub_one_lt_of_lt hlt) h.sz))
theorem zC {a:Addr} {c:String} {es:Array (Int×Value)} {ep:Nat} {t:SetTable} {ns:List K} {k:K} {x:Value} {Q:Option Nat→Shared→Prop} (ho:s.heap.get? a=some (aj c es ep t)) (D:au knd es t ns) (hkey:knd.is k x=true) (hsc:x.scannable=true)
  (h:∀ r:Option Nat,(r=none→k∉ns)→(∀ i,r=some i→k∈ns∧∃ e,es.toList[i]?=some e∧knd.is k e.2=true)→Q r s):wpAny (model prog w) A (setFind a x (knd.hash k)) Q E s:=by
 refine JX (wpAny_setState_of ho rfl D.fit ?_)
 dsimp only
 refine rT (byScan_of hsc D.b D.el) ?_
 refine JX (wpAny_rule ?_)
 refine JX (wpAny_setScan_of hkey ho rfl D.fit D.el ?_)
 cases hr:List.findIdx? (fun e=>knd.is k e.2) es.toList with
 |none =>
  refine JZ (h none (fun _ hk => ?_) fun i q=>by cases q)
  obtain⟨e,he,hp⟩:=(D.mem k).mp hk
  have:=List.findIdx?_eq_none_iff.mp hr e he
  rw [hp] at this;cases this
 |some j =>
  obtain⟨hj,hpj,_⟩:=List.findIdx?_eq_some_iff_getElem.mp hr
  refine JZ (h (some (0+j)) (fun q=>by cases q) fun i q => ?_)
  cases q
  refine rT (Nat.zero_add ..) ?_
  exact⟨(D.mem k).mpr ⟨_,List.getElem_mem hj,hpj⟩,_,Ky hj,hpj⟩
theorem dj {a:Addr} {c:String} {es es':Array (Int×Value)} {ep:Nat} {t t':SetTable} {Q:Unit→Shared→Prop} (ho:s.heap.get? a=some (aj c es ep t)) (hb:es'.size<scanBound) (h:Q () { s with heap:=s.heap.update a fun _=>aj c es' (ep+1) t' }):wpAny (model prog w) A (storeSet a es' t') Q E s:=by
 refine wpAny_storeSet_of ho rfl ?_ (fits_of_scanBound hb)
 refine rT (w8 ho) ?_
 exact h
theorem hU {a:Addr} {c:String} {es:Array (Int×Value)} {ep:Nat} {t:SetTable} {ns:List K} {k:K} {x:Value} {Q:Bool→Shared→Prop} (ho:s.heap.get? a=some (aj c es ep t)) (D:au knd es t ns) (hkey:knd.is k x=true) (hsc:x.scannable=true) (hroom:ns.length+1<scanBound)
  (h:∀ es' ep' t',au knd es' t' (br ns k)→Q (!decide (k∈ns)) { s with heap:=s.heap.update a fun _=>aj c es' ep' t' }):wpAny (model prog w) A (setAddHashed a x (knd.hash k)) Q E s:=by
 refine JY (JX (wpAny_setState_of ho rfl D.fit ?_))
 dsimp only
 refine rT (byScan_of hsc D.b D.el) ?_
 refine JX ?_
 refine JX (wpAny_rule ?_)
 refine JX (wpAny_setScan_of hkey ho rfl D.fit D.el ?_)
 cases hr:List.findIdx? (fun e=>knd.is k e.2) es.toList with
 |some j =>
  obtain⟨hj,hpj,_⟩:=List.findIdx?_eq_some_iff_getElem.mp hr
  have hk:k∈ns:=(D.mem k).mpr ⟨_,List.getElem_mem hj,hpj⟩
  refine JZ (JZ ?_)
  have hadd:br ns k=ns:=by unfold br;exact rT (if_pos hk) rfl
  have:=h es ep t (by refine rT hadd ?_;exact D)
  rw [d0 ho,decide_eq_true hk] at this
  exact this
 |none =>
  have hk:k∉ns:=fun hk=>by
   obtain⟨e,he,hp⟩:=(D.mem k).mp hk
   have:=List.findIdx?_eq_none_iff.mp hr e he
   rw [hp] at this;cases this
  have hadd:br ns k=ns++[k]:=by unfold br;exact rT (if_neg hk) rfl
  rw [decide_eq_false hk,Bool.not_false] at h
  have gw:∀ (b:Bool) {s₁:Shared} {Q':Unit→Shared→Prop},Q' () s₁→wpAny (model prog w) A (match b with|true=>rule "set.scan.the-table-gave-way"|false=>pure ()) Q' E s₁ :=
   fun b s₁ Q' hq=>by cases b<;>first|exact JZ hq|exact wpAny_rule hq
  have hperm:=layNew_perm t es (knd.hash k) x
  have hfits:=layNew_fits t es (knd.hash k) x
  have hled:=ux t es (knd.hash k) x
  have hrise:=rY D.rise es (knd.hash k) x
  generalize layNew t es (knd.hash k) x=L at hperm hfits hled hrise ⊢
  obtain⟨es1,t1,wasDummy,gave⟩:=L
  rw [Array.toList_push] at hperm
  have hsz:es1.size=ns.length+1:=by refine rB Array.length_toList ?_;refine rT hperm.length_eq ?_;refine rT List.length_append ?_;refine rT Array.length_toList ?_;refine rT D.sz ?_;rfl
  have D1:∀ t2:SetTable,t2.fits es1.size=true→t2.led=t.led→de t2.place→au knd es1 t2 (br ns k):=fun t2 hf hl hr=>by
   refine⟨(D.el.push hkey hsc).perm hperm,fun k' => ?_,lk D.nd,by refine rT hadd ?_;refine rT hsz ?_;simp,by refine rT hsz ?_;exact hroom,hf,by refine rT hl ?_;exact D.led,hr⟩
   refine rP dU ?_;refine rP (D.mem k') ?_
   constructor
   ·rintro (⟨e,he,hp⟩|rfl)
    ·exact⟨e,hperm.mem_iff.mpr (List.mem_append_left _ he),hp⟩
    ·exact⟨_,hperm.mem_iff.mpr (List.mem_append_right _ (List.mem_singleton.mpr rfl)),hkey⟩
   ·rintro⟨e,he,hp⟩
    rcases List.mem_append.mp (hperm.mem_iff.mp he) with he|he
    ·exact .inl ⟨e,he,hp⟩
    ·rw [List.mem_singleton] at he;subst he;exact .inr (knd.inj _ _ _ hp hkey)
  have tail:∀ (t2:SetTable),t2.fits es1.size=true→t2.led=t.led→de t2.place→wpAny (model prog w) A (do
    storeSet a es1 t2
    if (!wasDummy&&t2.tooFull)=true then do
      (match (relayAll t2 es1 (SetTable.grown es1.size)).2.2 with|true=>rule "set.scan.the-table-gave-way"|false=>pure ())
      storeSet a (relayAll t2 es1 (SetTable.grown es1.size)).1 (relayAll t2 es1 (SetTable.grown es1.size)).2.1
      pure (some true)
     else pure (some true)) (fun (r:Option Bool) s'=>∃ b,r=some b∧Q b s') E s:=by
   intro t2 hf hl hr
   refine JX (dj ho (by refine rT hsz ?_;exact hroom) ?_)
   split
   ·have hp:=relayAll_perm t2 es1 (SetTable.grown es1.size)
    have hfr:=relayAll_fits t2 es1 (SetTable.grown es1.size)
    have hlr:=qA t2 es1 (SetTable.grown es1.size)
    have hrr:=oJ hr es1 (SetTable.grown es1.size)
    generalize relayAll t2 es1 (SetTable.grown es1.size)=Rl at hp hfr hlr hrr ⊢
    obtain⟨es2,t3,gave2⟩:=Rl
    refine JX (gw _ ?_)
    have hs2:es2.size=es1.size:=by refine rB Array.length_toList ?_;refine rT hp.length_eq ?_;exact rT Array.length_toList rfl
    refine JX (dj (c:=c) (cb ho rfl) (by refine rT hs2 ?_;refine rT hsz ?_;exact hroom) ?_)
    refine JZ ⟨true,rfl,?_⟩
    refine rT (dK ..) ?_
    exact h es2 _ t3 ((D1 t2 hf hl hr).perm hp hfr (by refine rT hlr ?_;refine rT hl ?_;exact D.led) hrr)
   ·exact JZ ⟨true,rfl,h es1 _ t2 (D1 t2 hf hl hr)⟩
  have fin:∀ {m:Sem (Option Bool)},wpAny (model prog w) A m (fun (r:Option Bool) s'=>∃ b,r=some b∧Q b s') E s→wpAny (model prog w) A m (fun r s'=>wpAny (model prog w) A (match r with|some added=>pure added|none=>setAddHashedIn a x (knd.hash k) 99999) Q E s') E s:=fun hm =>
   Kq hm (fun r s' z0=>by obtain⟨b,e,q⟩:=z0;subst e;exact JZ q) fun _ _ e=>e
  refine JX (gw _ ?_)
  split
  ·refine JX ?_
   refine rT (hashByValue_scannable 8 hsc) ?_
   refine JZ ?_
   have:=tail (if plainKind x then t1 else { t1 with plain:=false }) (by split;exact hfits;exact SetTable.fits_plain_off hfits) (by split<;>exact hled) (by split<;>exact hrise)
   exact fin this
  ·refine JX (JZ ?_)
   exact fin (tail t1 hfits hled hrise)
theorem jv {c:String} {Q:Value→Shared→Prop} (h:∀ led:Bool,(w.params.followText "set-order" = true∨led=true)→Q (.ref s.heap.objs.size) { s with heap:=s.heap.push (aj c #[] 0 (.fresh 0 0 led)) }):wpAny (model prog w) A (newSet (.type c)) Q E s:=by
 refine JX (JX (wpAny_askSetting (JZ ?_)))
 refine JX (wpAny_alloc (JZ (h _ ?_)))
 refine (?_:w.params.followText "set-order" = true∨(!w.params.followText "set-order")=true)
 cases w.params.followText "set-order" <;> simp
theorem au.fresh {led:Bool} (h:w.params.followText "set-order" = true∨led=true):au knd #[] (SetTable.fresh 0 0 led) []:=⟨fun e he=>by simp at he,fun k=>by simp,.nil,rfl,by decide,rfl,h,List.Pairwise.nil⟩
theorem qB {a:Addr} {es:Array (Int×Value)} {ep:Nat} {t:SetTable} {ns:List K} {k:K} {x:Value} {Q:Value→Shared→Prop} (ho:s.heap.get? a=some (aj "set" es ep t)) (D:au knd es t ns) (hkey:knd.is k x=true) (hsc:x.scannable=true) (hroom:ns.length+1<scanBound)
  (h:∀ es' ep' t',au knd es' t' (br ns k)→Q .none { s with heap:=s.heap.update a (fun _=>aj "set" es' ep' t'),toks:=s.toks+1 }):wpAny (model prog w) A (call (.builtin "set.add") [.ref a,x]) Q E s:=by
 refine wpAny_call_entry F.slot_set_add ⟨_,ho,rfl⟩ F.entry_set_add ?_ (F.args_set_add_2 _ _)
 unfold Builtin.«set.add» Builtin.Frozenset.oneOther
 simp only [List.isEmpty_nil,bind_assoc]
 refine JX (JZ ?_)
 refine JX (JZ ?_)
 refine JX (JY (JX (knd.pyHash hkey ?_)))
 refine hU (s:={ s with toks:=s.toks+1 }) ho D hkey hsc hroom fun es' ep' t' D' => ?_
 exact JZ ⟨_,rfl,h es' ep' t' D'⟩
end
noncomputable abbrev cD (h h':Heap):Prop:=∀ b o,h.get? b=some o→h'.get? b=some o
structure Cx where
 prog:Program
 w:World
 F:Nat→Addr
 hB:Heap
noncomputable abbrev Cx.M (X:Cx):Model:=model X.prog X.w
noncomputable def eE (X:Cx) (l:List Nat) (o:Obj):Prop :=
 ∃ es ep t,o={ cls := .type "frozenset",data := .set es ep t }∧ElemsOf (strKind X.prog X.w) es.toList∧es.size<scanBound∧t.fits es.size=true ∧
  ∀ c:Nat,c∈l↔∃ e∈es.toList,(strKind X.prog X.w).is ⟨#[c]⟩ e.2=true
noncomputable def NoE:Value→Shared→Prop:=fun _ _=>False
noncomputable def oK:BI→Value
 |.len => .builtin "len" | .sum => .builtin "sum" | .min => .builtin "min" | .max => .builtin "max" | .all => .builtin "all" | .sorted => .builtin "sorted"
 |.set => .type "set" | .isinstance => .builtin "isinstance" | .issubclass => .builtin "issubclass" | .type => .type "type" | .ord => .builtin "ord" | .chr => .builtin "chr" | .int16 => .type "int"
noncomputable def w9 (X:Cx):GV→Value→Prop
 |.fn k,v=>v = .ref (X.F k)
 |.set l,v=>∃ a o,v = .ref a∧X.hB.get? a=some o∧eE X l o
 |.ty n,v=>v = .type n
 |.bi b,v=>v=oK b
structure E9 (env:Env):Prop where
 kind:env.scope.kind = .function
 glob:env.globals=mainGlobals
 blt:env.builtins=builtinsNs
structure GOk (X:Cx) (gl:List (Str×GV)):Prop where
 load:∀ (n:Str) (gv:GV) (env:Env) (A:Around) (s:Shared) (Q:Value→Shared→Prop),gl.lookup n=some gv→E9 env→env.kindOf n=some .globalImplicit →
  (cD X.hB s.heap)→(∀ v,w9 X gv v→Q v s)→wpAny X.M A (loadName env n) Q NoE s
 loadB:∀ (n:Str) (v:Value) (env:Env) (A:Around) (s:Shared) (Q:Value→Shared→Prop),(n,v)∈[(("range" : Str),Value.type "range"),("map",.type "map"),("enumerate",.type "enumerate"),("zip",.type "zip")]→E9 env→env.kindOf n=some .globalImplicit →
  (cD X.hB s.heap)→Q v s→wpAny X.M A (loadName env n) Q NoE s
 fn:∀ (n:Str) (k:Nat),gl.lookup n=some (.fn k)→∃ o fd,X.hB.get? (X.F k)=some o∧o.data = .func fd
structure Fa (X:Cx) (k:Nat) (name:Str) (params:Arguments) (body:List Stmt) (scope:Scope):Prop where
 at':∃ o pm cd doc,X.hB.get? (X.F k)=some o∧o.data = .func (Calls.docDef name params body scope pm cd doc)∧X.hB.CodeRec cd name
noncomputable def aP (i:Nat):Arguments×List Stmt×Scope:=match PySem.Challenge.pw_ik0205_01.main.body[i]? with
 |some (.FunctionDef _ a b _ _ _ sc _ _ _)=>(a,b,sc)
 |_=>default
noncomputable def ill:List Nat:=((List.range 32).filter (· != 9))++[127]
noncomputable def iv:List Nat:=[48,49,50,51,52,53,54,55,56,57,97,98,99,100,101,102,65,66,67,68,69,70]
noncomputable def ga:List (Str×GV):=[
 (Str.ofString "skip_until",.fn 0),
 (Str.ofString "skip_comment",.fn 1),
 (Str.ofString "parse_hex_char",.fn 2),
 (Str.ofString "parse_literal_str",.fn 3),
 (Str.ofString "is_unicode_scalar_value",.fn 4),
 (Str.ofString "heappush",.fn 5),
 (Str.ofString "heappop",.fn 6),
 (Str.ofString "_siftdown",.fn 7),
 (Str.ofString "_siftup",.fn 8),
 (Str.ofString "fspath",.fn 9),
 (Str.ofString "_get_sep",.fn 10),
 (Str.ofString "join",.fn 11),
 (Str.ofString "splitroot",.fn 12),
 (Str.ofString "dirname",.fn 13),
 (Str.ofString "normpath",.fn 14),
 (Str.ofString "commonpath",.fn 15),
 (Str.ofString "_law_numbers",.fn 16),
 (Str.ofString "_law_above",.fn 17),
 (Str.ofString "_law_strings",.fn 18),
 (Str.ofString "_law_figures",.fn 19),
 (Str.ofString "_law_read",.fn 20),
 (Str.ofString "_law_depth",.fn 21),
 (Str.ofString "_law_top",.fn 22),
 (Str.ofString "_law_steps",.fn 23),
 (Str.ofString "_law_coloured",.fn 24),
 (Str.ofString "_law_ways",.fn 25),
 (Str.ofString "law",.fn 26),
 (Str.ofString "ILLEGAL_COMMENT_CHARS",.set ill),
 (Str.ofString "ILLEGAL_LITERAL_STR_CHARS",.set ill),
 (Str.ofString "HEXDIGIT_CHARS",.set iv),
 (Str.ofString "str",.ty "str"),
 (Str.ofString "bytes",.ty "bytes"),
 (Str.ofString "list",.ty "list"),
 (Str.ofString "tuple",.ty "tuple"),
 (Str.ofString "int",.ty "int"),
 (Str.ofString "set",.ty "set"),
 (Str.ofString "type",.ty "type"),
 (Str.ofString "len",.bi .len),
 (Str.ofString "sum",.bi .sum),
 (Str.ofString "min",.bi .min),
 (Str.ofString "max",.bi .max),
 (Str.ofString "all",.bi .all),
 (Str.ofString "sorted",.bi .sorted),
 (Str.ofString "isinstance",.bi .isinstance),
 (Str.ofString "issubclass",.bi .issubclass),
 (Str.ofString "ord",.bi .ord),
 (Str.ofString "chr",.bi .chr)]
noncomputable def dL:List (Nat×Str×Nat):=[(0, "skip_until",10),(1, "skip_comment",11),(2, "parse_hex_char",12),(3, "parse_literal_str",13),(4, "is_unicode_scalar_value",15),(5, "heappush",17),(6, "heappop",18),(7, "_siftdown",19),(8, "_siftup",20),(9, "fspath",29),(10, "_get_sep",33),(11, "join",34),(12, "splitroot",35),(13, "dirname",36),(14, "normpath",37),(15, "commonpath",38),(16, "_law_numbers",40),(17, "_law_above",41),(18, "_law_strings",42),(19, "_law_figures",43),(20, "_law_read",44),(21, "_law_depth",45),(22, "_law_top",46),(23, "_law_steps",47),(24, "_law_coloured",48),(25, "_law_ways",49),(26, "law",50)]
structure lN (X:Cx):Prop where
 fn:∀ k name i,(k,name,i)∈dL→Fa X k name (aP i).1 (aP i).2.1 (aP i).2.2
 lim:X.hB.NoLimit
 gk:GOk X ga
noncomputable def zD (X:Cx):Prop:=lN X→∀ (s:Shared) (xs:List Int) (a:Addr) (vs:List Value),(cD X.hB s.heap)→xs.length≤63→s.heap.get? a=some { cls := .type "list",data := .seq vs.toArray }→IntsAre vs xs →
 wpAny X.M callerA (PySem.call (.ref (X.F 26)) [.ref a]) (fun v s'=>v = .bool true∧(cD s.heap s'.heap)∧s'.os=s.os∧s'.gens=s.gens) NoE s
@[irreducible] noncomputable def X:Cx:=@Classical.epsilon Cx ⟨⟨PySem.Challenge.pw_ik0205_01,⟨fun _ _=>0,{ strHash:=fun _=>0,shareClass:=fun _=>0,mergeTok:=fun t=>t,idOf:=fun _=>0,idOfShared:=fun _ _=>0,followText:=fun _=>false,idOfImm:=fun _=>0 }⟩,fun _=>0,⟨#[],{}⟩⟩⟩ fun X=>¬ zD X
theorem zE (h:zD X) (Y:Cx):zD Y:=Classical.byContradiction fun n=>by
 unfold X at h
 exact @Classical.epsilon_spec Cx (fun X=>¬ zD X) ⟨Y,n⟩ h
noncomputable abbrev RM:=Addr→Option Obj
noncomputable abbrev mu (R R':RM):Prop:=∀ a o,R a=some o→R' a=some o
noncomputable abbrev oL (ρ ρ':List Addr):Prop:=∀ (i:Nat) (a:Addr),ρ[i]?=some a→ρ'[i]?=some a
noncomputable abbrev fL (vs:List Value) (n:Nat):Obj:={ cls := .type "tuple",data := .seq vs.toArray n }
noncomputable abbrev aN (vs:List Value) (n:Nat):Obj:={ cls := .type "list",data := .seq vs.toArray n }
noncomputable def qC (l:List AV) (o:Obj):Prop :=
 (∃ (ns:List Int) (es:Array (Int×Value)) (ep:Nat) (t:SetTable),l=ns.map .int∧ns.length<1000∧o=aj "set" es ep t∧au (intKind X.prog X.w) es t ns) ∨
 (l=[.bool true]∧∃ h ep t,o=aj "set" #[(h,.bool true)] ep t∧t.fits 1=true∧(X.w.params.followText "set-order" = true∨t.led=true))
inductive Fb (R:RM) (o:List Value→Nat→Obj) (P:List Value→Prop) (v:Value):Prop
 |mk (a:Addr) (vs:List Value) (n:Nat):v = .ref a→R a=some (o vs n)→P vs→Fb R o P v
inductive zF (R:RM) (P:Obj→Prop) (v:Value):Prop
 |mk (a:Addr) (o:Obj):v = .ref a→R a=some o→P o→zF R P v
theorem zF.elim {R:RM} {P:Obj→Prop} {v:Value} {G:Prop}:zF R P v→(∀ a o,v = .ref a→R a=some o→P o→G)→G
 |.mk a o h1 h2 h3,k=>k a o h1 h2 h3
inductive EJ (P:Value→Prop) (Q:List Value→Prop) (vs:List Value):Prop
 |mk (v:Value) (r:List Value):vs=v::r→P v→Q r→EJ P Q vs
mutual
noncomputable def Rel (R:RM) (ρ:List Addr):AV→Value→Prop
 |.none,v=>v = .none
 |.bool b,v=>v = .bool b
 |.int i,v=>∃ t,v = .int i t
 |.str x,v=>∃ t,v = .str x t
 |.bytes b,v=>∃ t,v = .bytes b t
 |.tup l,v=>Fb R fL (ai R ρ l) v
 |.lst l,v=>Fb R aN (ai R ρ l) v
 |.set l,v=>zF R (qC l) v
 |.fset l,v=>zF R (eE X l) v
 |.ref i,v=>∃ a,v = .ref a∧ρ[i]?=some a
 |.fn k,v=>v = .ref (X.F k)
 |.ty n,v=>v = .type n
noncomputable def ai (R:RM) (ρ:List Addr):List AV→List Value→Prop
 |[],vs=>vs=[]
 |a::l,vs=>EJ (Rel R ρ a) (ai R ρ l) vs
end
section
variable {R R':RM} {ρ ρ':List Addr}
mutual
theorem Rel.mono (hr:mu R R') (hp:oL ρ ρ'):∀ (x:AV) (v:Value),Rel R ρ x v→Rel R' ρ' x v
 |.none,_,h=>h
 |.bool _,_,h=>h
 |.int _,_,h=>h
 |.str _,_,h=>h
 |.bytes _,_,h=>h
 |.tup l,_,⟨a,vs,n,e,h,k⟩=>⟨a,vs,n,e,hr _ _ h,ai.mono hr hp l vs k⟩
 |.lst l,_,⟨a,vs,n,e,h,k⟩=>⟨a,vs,n,e,hr _ _ h,ai.mono hr hp l vs k⟩
 |.set _,_,⟨a,o,e,h,k⟩=>⟨a,o,e,hr _ _ h,k⟩
 |.fset _,_,⟨a,o,e,h,k⟩=>⟨a,o,e,hr _ _ h,k⟩
 |.ref _,_,⟨a,e,h⟩=>⟨a,e,hp _ _ h⟩
 |.fn _,_,h=>h
 |.ty _,_,h=>h
theorem ai.mono (hr:mu R R') (hp:oL ρ ρ'):∀ (l:List AV) (vs:List Value),ai R ρ l vs→ai R' ρ' l vs
 |[],_,h=>h
 |a::l,_,⟨v,r,e,h,k⟩=>⟨v,r,e,Rel.mono hr hp a v h,ai.mono hr hp l r k⟩
end
theorem ai.length:∀ {l:List AV} {vs:List Value},ai R ρ l vs→vs.length=l.length
 |[],_,h=>by refine rT (show _=[] from h) ?_;rfl
 |a::l,_,⟨v,r,e,_,k⟩=>by refine rT e ?_;refine rT List.length_cons ?_;refine rT List.length_cons ?_;exact rT k.length rfl
theorem ai.nil:ai R ρ [] []:=rfl
theorem ai.cons {a:AV} {l:List AV} {v:Value} {r:List Value} (h:Rel R ρ a v) (k:ai R ρ l r):ai R ρ (a::l) (v::r):=⟨v,r,rfl,h,k⟩
theorem ai.one {a:AV} {v:Value} (h:Rel R ρ a v):ai R ρ [a] [v] := .cons h .nil
theorem ai.append:∀ {l l':List AV} {vs ws:List Value},ai R ρ l vs→ai R ρ l' ws→ai R ρ (l++l') (vs++ws)
 |[],_,_,_,h,k=>by refine rT (show _=[] from h) ?_;exact k
 |a::l,_,_,_,⟨v,r,e,h,k⟩,j=>by subst e;exact .cons h (k.append j)
theorem ai.get:∀ {l:List AV} {vs:List Value} {i:Nat} {a:AV},ai R ρ l vs→l[i]?=some a→∃ v,vs[i]?=some v∧Rel R ρ a v
 |[],_,i,a,_,e=>by simp at e
 |b::l,_,i,a,⟨v,r,e',h,k⟩,e=>by
  subst e'
  cases i with
  |zero=>exact⟨v,rfl,by simp at e;subst e;exact h⟩
  |succ i=>exact k.get (by simpa using e)
theorem ai.set:∀ {l:List AV} {vs:List Value} {i:Nat} {a:AV} {v:Value},ai R ρ l vs→Rel R ρ a v→ai R ρ (l.set i a) (vs.set i v)
 |[],_,i,_,_,h,_=>by refine rT (show _=[] from h) ?_;exact .nil
 |b::l,_,i,a,v,⟨u,r,e,h,k⟩,h'=>by
  subst e
  cases i with
  |zero=>exact .cons h' k
  |succ i=>exact .cons h (k.set h')
theorem Rel.noRefAll {ρ':List Addr}:(∀ (x:AV) (v:Value),noRef x=true→Rel R ρ x v→Rel R ρ' x v)∧∀ (l:List AV) (vs:List Value),noRef.all l=true→ai R ρ l vs→ai R ρ' l vs:=by
 have main:∀ n,(∀ (x:AV) (v:Value),sizeOf x≤n→noRef x=true→Rel R ρ x v→Rel R ρ' x v)∧∀ (l:List AV) (vs:List Value),sizeOf l≤n→noRef.all l=true→ai R ρ l vs→ai R ρ' l vs:=by
  intro n
  induction n with
  |zero =>
   refine⟨fun x v hs => ?_,fun l vs hs => ?_⟩
   ·cases x<;>simp at hs
   ·cases l<;>simp at hs
  |succ n ih =>
   refine⟨fun x v hs hn h => ?_,fun l vs hs hn h => ?_⟩
   ·cases x with
    |tup l=>obtain⟨a,vs,m,e,h1,k⟩:=h;exact⟨a,vs,m,e,h1,ih.2 l vs (by simp at hs;lia) (by simpa [noRef] using hn) k⟩
    |lst l=>obtain⟨a,vs,m,e,h1,k⟩:=h;exact⟨a,vs,m,e,h1,ih.2 l vs (by simp at hs;lia) (by simpa [noRef] using hn) k⟩
    |ref i=>simp [noRef] at hn
    |_=>exact h
   ·cases l with
    |nil=>exact h
    |cons a l =>
     obtain⟨v,r,e,h1,k⟩:=h
     simp only [noRef.all,Bool.and_eq_true] at hn
     exact⟨v,r,e,ih.1 a v (by simp at hs;lia) hn.1 h1,ih.2 l r (by simp at hs;lia) hn.2 k⟩
 exact⟨fun x v=>(main _).1 x v (KX _),fun l vs=>(main _).2 l vs (KX _)⟩
end
noncomputable def bb (R:RM) (ρ:List Addr):List (Str×AV)→List (Str×Value)→Prop
 |[],vs=>vs=[]
 |(n,a)::l,vs=>∃ v r,vs=(n,v)::r∧Rel R ρ a v∧bb R ρ l r
theorem bb.mono {R R':RM} {ρ ρ':List Addr} (hr:mu R R') (hp:oL ρ ρ'):∀ (l:List (Str×AV)) (vs:List (Str×Value)),bb R ρ l vs→bb R' ρ' l vs
 |[],_,h=>h
 |(n,a)::l,_,⟨v,r,e,h,k⟩=>⟨v,r,e,Rel.mono hr hp a v h,bb.mono hr hp l r k⟩
theorem bb.noRef {R:RM} {ρ ρ':List Addr}:∀ (l:List (Str×AV)) (vs:List (Str×Value)),(l.all fun p=>Mine.noRef p.2)=true→bb R ρ l vs→bb R ρ' l vs
 |[],_,_,h=>h
 |(n,a)::l,_,hn,⟨v,r,e,h,k⟩=>by
  simp only [List.all_cons,Bool.and_eq_true] at hn
  exact⟨v,r,e,(Rel.noRefAll).1 a v hn.1 h,bb.noRef l r hn.2 k⟩
noncomputable def r7 (R:RM) (ρ:List Addr) (h:Heap) (a:Addr):AO→Prop
 |.list l=>noRef.all l=true∧∃ vs n,h.get? a=some (aN vs n)∧ai R ρ l vs
 |.dict l=>(l.all fun p=>noRef p.2)=true∧∃ kvs,h.DictOf (strKind X.prog X.w) a kvs∧bb R ρ l kvs
structure ag (R:RM) (ρ:List Addr) (H:AH) (h:Heap):Prop where
 base:∀ b o,X.hB.get? b=some o→R b=some o
 froz:∀ b o,R b=some o→h.get? b=some o
 nd:ρ.Nodup
 off:∀ a∈ρ,R a=none
 len:ρ.length=H.length
 objs:∀ (i:Nat) (o:AO) (a:Addr),H[i]?=some o→ρ[i]?=some a→r7 R ρ h a o
noncomputable def No:Addr→Prop:=fun _=>False
structure Mv (O:Addr→Prop) (R:RM) (ρ:List Addr) (s:Shared) (R':RM) (ρ':List Addr) (s':Shared):Prop where
 r:mu R R'
 rn:∀ a o,R' a=some o→R a=some o∨s.heap.get? a=none
 p:∃ ρx,ρ'=ρ++ρx∧∀ a∈ρx,s.heap.get? a=none
 keep:∀ b o,s.heap.get? b=some o→b∉ρ→¬ O b→s'.heap.get? b=some o
 live:∀ b,s.heap.get? b≠none→s'.heap.get? b≠none
 gens:s'.gens=s.gens
 os:s'.os=s.os
theorem lv {h h':Heap} {b:Addr} (k:∀ o,h.get? b=some o→h'.get? b=some o) (e:h.get? b≠none):h'.get? b≠none:=by
 cases q:h.get? b with
 |none=>exact absurd q e
 |some o=>exact nn (k o q)
structure MvS (O:Addr→Prop) (ρ:List Addr) (s s':Shared):Prop where
 keep:∀ b o,s.heap.get? b=some o→b∉ρ→¬ O b→s'.heap.get? b=some o
 live:∀ b,s.heap.get? b≠none→s'.heap.get? b≠none
 gens:s'.gens=s.gens
 os:s'.os=s.os
theorem MvS.mv {O:Addr→Prop} {R:RM} {ρ:List Addr} {s s':Shared} (m:MvS O ρ s s'):Mv O R ρ s R ρ s':=⟨fun _ _ h=>h,fun _ _ h => .inl h,⟨[],(List.append_nil ρ).symm,fun _ h=>nomatch h⟩,m.keep,m.live,m.gens,m.os⟩
section
variable {O:Addr→Prop} {R R' R'':RM} {ρ ρ' ρ'':List Addr} {s s' s'':Shared} {H:AH} {h:Heap}
theorem Mv.refl (s:Shared):Mv O R ρ s R ρ s:=(MvS.mv ⟨fun _ _ h _ _=>h,fun _ h=>h,rfl,rfl⟩)
theorem Mv.pre (m:Mv O R ρ s R' ρ' s'):oL ρ ρ':=by
 obtain⟨x,rfl,_⟩:=m.p
 intro i a e
 refine rT (List.getElem?_append_left (by have:=KK.mp e;exact this.1)) ?_;exact e
theorem Mv.sub (m:Mv O R ρ s R' ρ' s') {a:Addr} (h:a∈ρ'):a∈ρ∨s.heap.get? a=none:=by
 obtain⟨x,rfl,hx⟩:=m.p
 exact (List.mem_append.mp h).imp id (hx a)
theorem Mv.rel (m:Mv O R ρ s R' ρ' s') {x:AV} {v:Value} (h:Rel R ρ x v):Rel R' ρ' x v:=Rel.mono m.r m.pre x v h
theorem Mv.relL (m:Mv O R ρ s R' ρ' s') {x:List AV} {v:List Value} (h:ai R ρ x v):ai R' ρ' x v:=ai.mono m.r m.pre x v h
theorem Mv.trans (m:Mv O R ρ s R' ρ' s') (k:Mv O R' ρ' s' R'' ρ'' s''):Mv O R ρ s R'' ρ'' s'':=by
 have nn:∀ a,s'.heap.get? a=none→s.heap.get? a=none:=fun a e=>by
  cases e':s.heap.get? a with
  |none=>rfl
  |some o=>exact absurd e (m.live a (nn e'))
 refine⟨fun a o h=>k.r a o (m.r a o h),fun a o h => ?_,?_,fun b o h hb hO => ?_,fun b h=>k.live b (m.live b h),k.gens.trans m.gens,k.os.trans m.os⟩
 ·rcases k.rn a o h with h|h
  ·exact m.rn a o h
  ·exact .inr (nn a h)
 ·obtain⟨x,rfl,hx⟩:=m.p
  obtain⟨y,rfl,hy⟩:=k.p
  exact⟨x++y,by simp,fun a ha=>(List.mem_append.mp ha).elim (hx a) fun h=>nn a (hy a h)⟩
 ·refine k.keep b o (m.keep b o h hb hO) (fun hb' => ?_) hO
  rcases m.sub hb' with q|q
  ·exact hb q
  ·rw [q] at h;cases h
theorem Mv.weak {O':Addr→Prop} (m:Mv O R ρ s R' ρ' s') (h:∀ a,O a→O' a):Mv O' R ρ s R' ρ' s':=⟨m.r,m.rn,m.p,fun b o e hb hO=>m.keep b o e hb fun q=>hO (h b q),m.live,m.gens,m.os⟩
theorem Mv.up (m:Mv No R ρ s R' ρ' s'):Mv O R ρ s R' ρ' s':=m.weak fun _ h=>h.elim
theorem r7.live {a:Addr} {o:AO} (k:r7 R ρ h a o):h.get? a≠none:=by
 cases o with
 |list l=>obtain⟨_,vs,n,e,_⟩:=k;exact nn e
 |dict l=>obtain⟨_,kvs,⟨o,es,ep,e,_⟩,_⟩:=k;exact nn e
theorem ag.live (g:ag R ρ H h) {a:Addr} (ha:a∈ρ):h.get? a≠none:=by
 obtain⟨i,hi,rfl⟩:=List.getElem_of_mem ha
 have hi':i<H.length:=by refine rB g.len ?_;exact hi
 exact (g.objs i H[i] _ (Ky hi') (Ky hi)).live
theorem r7.mono {h':Heap} {a:Addr} {o:AO} (k:r7 R ρ h a o) (hr:mu R R') (hp:oL ρ ρ') (e:∀ ob,h.get? a=some ob→h'.get? a=some ob):r7 R' ρ' h' a o:=by
 cases o with
 |list l=>obtain⟨h0,vs,n,h1,h2⟩:=k;exact⟨h0,vs,n,e _ h1,ai.mono hr hp l vs h2⟩
 |dict l =>
  obtain⟨h0,kvs,⟨o,es,ep,h1,h2⟩,h3⟩:=k
  exact⟨h0,kvs,⟨o,es,ep,e _ h1,h2⟩,bb.mono hr hp _ _ h3⟩
theorem Mv.drop (m:Mv O R ρ s R' ρ' s') (h:∀ a,O a→s.heap.get? a=none):Mv No R ρ s R' ρ' s' :=
 ⟨m.r,m.rn,m.p,fun b o e hb _=>m.keep b o e hb fun q=>(by rw [h b q] at e;cases e),m.live,m.gens,m.os⟩
theorem Mv.tail {C:Addr} {h':Heap} (m:Mv O R ρ s R' ρ' s') (hC:s.heap.get? C=none) (hs:∀ b,b≠C→h'.get? b=s'.heap.get? b):Mv O R ρ s R' ρ' { s' with heap:=h' } :=
 ⟨m.r,m.rn,m.p,fun b o e hb hO=>by
  have:b≠C:=fun q=>by rw [q,hC] at e;cases e
  refine (?_:h'.get? b=some o)
  refine rT (hs b this) ?_;exact m.keep b o e hb hO,fun b e=>by
  have:b≠C:=fun q=>e (by refine rT q ?_;exact rT hC rfl)
  refine (?_:h'.get? b≠none)
  refine rT (hs b this) ?_;exact m.live b e,m.gens,m.os⟩
theorem ag.tail {C:Addr} {h':Heap} (g:ag R ρ H h) (hR:R C=none) (hp:C∉ρ) (hs:∀ b,b≠C→h'.get? b=h.get? b):ag R ρ H h' :=
 ⟨g.base,fun b o e=>by refine rT (hs b fun q=>(by rw [q,hR] at e;cases e)) ?_;exact g.froz b o e,g.nd,g.off,g.len,fun i o a e1 e2=>by
  have ha:a≠C:=fun q=>hp (q▸KV e2)
  exact (g.objs i o a e1 e2).mono (fun _ _ h=>h) (fun _ _ h=>h) fun ob e=>by refine rT (hs a ha) ?_;exact e⟩
theorem pF {ρ:List Addr} (nd:ρ.Nodup) {i j:Nat} {a:Addr} (hi:ρ[i]?=some a) (hj:ρ[j]?=some a):i=j:=by
 obtain⟨h1,e1⟩:=KK.mp hi
 obtain⟨h2,e2⟩:=KK.mp hj
 have hp:=List.pairwise_iff_getElem.mp nd
 rcases Nat.lt_trichotomy i j with h|h|h
 ·exact absurd (e1.trans e2.symm) (hp i j h1 h2 h)
 ·exact h
 ·exact absurd (e2.trans e1.symm) (hp j i h2 h1 h)
theorem ag.grow {h':Heap} (g:ag R ρ H h) (k:cD h h'):ag R ρ H h' :=
 ⟨g.base,fun b o e=>k b o (g.froz b o e),g.nd,g.off,g.len,fun i o a e1 e2=>(g.objs i o a e1 e2).mono (fun _ _ h=>h) (fun _ _ h=>h) fun ob=>k a ob⟩
theorem Mv.grow {h':Heap} {tk:Nat} (k:cD s.heap h'):Mv O R ρ s R ρ { s with heap:=h',toks:=tk } :=
 (MvS.mv ⟨fun b o e _ _=>k b o e,fun b=>lv (k b),rfl,rfl⟩)
noncomputable def RM.add (R:RM) (a:Addr) (o:Obj):RM:=fun b=>if b=a then some o else R b
theorem RM.add_self {a:Addr} {o:Obj}:R.add a o a=some o:=by simp [RM.add]
theorem RM.add_old {a b:Addr} {o o':Obj} (h:R b=some o') (hn:R a=none):R.add a o b=some o':=by
 unfold RM.add
 split
 ·subst b;rw [hn] at h;cases h
 ·exact h
theorem ag.none_of_new (g:ag R ρ H h) {a:Addr} (ha:h.get? a=none):R a=none:=by
 cases e:R a with
 |none=>rfl
 |some o=>rw [g.froz a o e] at ha;cases ha
theorem ag.not_mem_new (g:ag R ρ H h) {a:Addr} (ha:h.get? a=none):a∉ρ:=fun hm=>g.live hm ha
theorem dk {h':Heap} {a:Addr} {o:Obj} {tk:Nat} (g:ag R ρ H s.heap) (ha:s.heap.get? a=none) (ho:h'.get? a=some o) (k:cD s.heap h') :
  ag (R.add a o) ρ H h'∧Mv O R ρ s (R.add a o) ρ { s with heap:=h',toks:=tk }:=by
 have hR:=g.none_of_new ha
 have hr:∀ b o',R b=some o'→R.add a o b=some o':=fun b o' e=>RM.add_old e hR
 refine⟨⟨fun b o' e=>hr b o' (g.base b o' e),fun b o' e => ?_,g.nd,fun b hb => ?_,g.len,fun i ob b e1 e2=>(g.objs i ob b e1 e2).mono hr (fun _ _ h=>h) fun ob=>k b ob⟩,?_⟩
 ·unfold RM.add at e
  split at e
  ·cases e;subst b;exact ho
  ·exact k b o' (g.froz b o' e)
 ·unfold RM.add
  split
  ·subst b;exact absurd ha (g.live hb)
  ·exact g.off b hb
 ·have m:Mv O R ρ s R ρ { s with heap:=h',toks:=tk }:=Mv.grow k
  refine⟨hr,fun b o' e => ?_,m.p,m.keep,m.live,rfl,rfl⟩
  unfold RM.add at e
  split at e
  ·subst b;exact .inr ha
  ·exact .inl e
theorem ll {h':Heap} {a:Addr} {ob:AO} {tk:Nat} (g:ag R ρ H s.heap) (ha:s.heap.get? a=none) (ho:r7 R (ρ++[a]) h' a ob) (k:cD s.heap h') :
  ag R (ρ++[a]) (H++[ob]) h'∧Mv O R ρ s R (ρ++[a]) { s with heap:=h',toks:=tk }:=by
 have hR:=g.none_of_new ha
 have hm:=g.not_mem_new ha
 have pre:∀ (i:Nat) (b:Addr),ρ[i]?=some b→(ρ++[a])[i]?=some b:=fun i b e=>by
  refine rT (List.getElem?_append_left (KK.mp e).1) ?_;exact e
 refine⟨⟨g.base,fun b o' e=>k b o' (g.froz b o' e),?_,fun b hb => ?_,by simp [g.len],fun i o b e1 e2 => ?_⟩,?_⟩
 ·refine rP List.nodup_append ?_;exact⟨g.nd,by simp,fun x hx y hy e=>by rw [List.mem_singleton] at hy;subst hy;subst e;exact hm hx⟩
 ·rcases List.mem_append.mp hb with hb|hb
  ·exact g.off b hb
  ·rw [List.mem_singleton] at hb;subst hb;exact hR
 ·by_cases hi:i<H.length
  ·rw [List.getElem?_append_left hi] at e1
   rw [List.getElem?_append_left (by refine rT g.len ?_;exact hi)] at e2
   exact (g.objs i o b e1 e2).mono (fun _ _ h=>h) pre fun ob=>k b ob
  ·have hi':H.length≤i:=Nat.le_of_not_lt hi
   rw [List.getElem?_append_right hi'] at e1
   rw [List.getElem?_append_right (by refine rT g.len ?_;exact hi'),g.len] at e2
   cases q:i-H.length with
   |succ n=>rw [q] at e1;simp at e1
   |zero=>rw [q] at e1 e2;simp at e1 e2;subst e1;subst e2;exact ho
 ·have m:Mv O R ρ s R ρ { s with heap:=h',toks:=tk }:=Mv.grow k
  exact⟨m.r,m.rn,⟨[a],rfl,fun b hb=>by rw [List.mem_singleton] at hb;subst hb;exact ha⟩,m.keep,m.live,rfl,rfl⟩
theorem eF {h':Heap} {i:Nat} {a:Addr} {ob:AO} {tk:Nat} (g:ag R ρ H s.heap) (hi:ρ[i]?=some a) (ho:r7 R ρ h' a ob) (k:∀ b o,b≠a→s.heap.get? b=some o→h'.get? b=some o) :
  ag R ρ (H.set i ob) h'∧Mv O R ρ s R ρ { s with heap:=h',toks:=tk }:=by
 have hm:a∈ρ:=KV hi
 refine⟨⟨g.base,fun b o' e=>k b o' (fun q=>by subst q;rw [g.off _ hm] at e;cases e) (g.froz b o' e),g.nd,g.off,by simp [g.len],fun j o b e1 e2 => ?_⟩,(MvS.mv ⟨fun b o e hb _=>k b o (fun q=>by subst q;exact hb hm) e,fun b e => ?_,rfl,rfl⟩)⟩
 ·by_cases hj:j=i
  ·subst hj
   rw [hi] at e2;cases e2
   have hl:j<H.length:=by refine rB g.len ?_;exact (KK.mp hi).1
   rw [List.getElem?_set_self hl] at e1;cases e1;exact ho
  ·rw [List.getElem?_set_ne (Ne.symm hj)] at e1
   have hb:b≠a:=fun q=>by subst q;exact hj (pF g.nd e2 hi)
   exact (g.objs j o b e1 e2).mono (fun _ _ h=>h) (fun _ _ h=>h) fun ob=>k b ob hb
 ·by_cases hb:b=a
  ·subst hb;exact ho.live
  ·exact lv (fun o=>k b o hb) ‹_›
end
structure aI (A:Around) (d:Nat):Prop where
 h:A.handled=none
 depth:A.depth+10*d+10≤recursionLimit
 units:A.units+100*d+100≤cLine
theorem aI.in1 {A:Around} {d:Nat} (r:aI A (d+1)):aI A.in1 d :=
 ⟨r.h,Kv (Nat.add_le_add_right (Nat.add_le_add_left (Nat.mul_le_mul_left 10 (Nat.le_succ d)) _) 10) r.depth,
  Kv (Nat.add_le_add_right (Kv (Kh (Nat.add_assoc _ 1 _)) (Nat.add_le_add_left (Kv (Kh (Nat.add_comm 1 _)) (Nat.add_le_add_left (by decide:1≤100) (100*d))) _)) 100) r.units⟩
theorem aI.le {A:Around} {d d':Nat} (r:aI A d) (h:d'≤d):aI A d' :=
 ⟨r.h,Kv (Nat.add_le_add_right (Nat.add_le_add_left (Nat.mul_le_mul_left 10 h) _) 10) r.depth,Kv (Nat.add_le_add_right (Nat.add_le_add_left (Nat.mul_le_mul_left 100 h) _) 100) r.units⟩
theorem GU {a b c k:Nat} (h:a+b+(k+1)≤c):a<c:=KZ (Nat.lt_succ_of_le (Kv (Kf a b) (Kf _ k))) h
theorem aI.lt {A:Around} {d:Nat} (r:aI A d):A.depth<recursionLimit:=GU (k:=9) r.depth
inductive b5 (R:RM) (ρ:List Addr) (s:Shared) (v:AV) (H':AH) (cv:Value) (s':Shared):Prop
 |mk (R':RM) (ρ':List Addr) (m:Mv No R ρ s R' ρ' s') (g:ag R' ρ' H' s'.heap) (r:Rel R' ρ' v cv)
noncomputable def EvT (A:Around) (t:Sem Value) (R:RM) (ρ:List Addr) (s:Shared) (v:AV) (H':AH):Prop :=
 wpAny X.M A t (b5 R ρ s v H') NoE s
inductive CS (R:RM) (ρ:List Addr) (m:Option Value) (av:AV):Prop
 |mk (v:Value):m=some v→Rel R ρ av v→CS R ρ m av
inductive Fc (ns:List Str) (env:Env) (V:VM) (R:RM) (ρ:List Addr) (h:Heap):Prop
 |mk (m:Str→Option Value):h.Ns env.locals m→(∀ (i:Nat) x av,ns[i]?=some x→V[i]?=some (some av)→env.kindOf x=some .local→CS R ρ (m x) av)→Fc ns env V R ρ h
inductive zG (ns:List Str) (env:Env) (V:VM) (R:RM) (ρ:List Addr) (h:Heap) (x:Str):Prop
 |mk (c:Addr) (cv:Option Value):env.cells.lookup x=some c→h.IsCell c cv→c≠env.locals→c∉ρ→(∀ (i:Nat) av,ns[i]?=some x→V[i]?=some (some av)→CS R ρ cv av)→zG ns env V R ρ h x
structure dM (O:Addr→Prop) (ns:List Str) (env:Env) (V:VM) (R:RM) (ρ:List Addr) (h:Heap):Prop where
 kind:env.scope.kind = .function
 glob:env.globals=mainGlobals
 blt:env.builtins=builtinsNs
 code:∃ c o vs,env.code = .ref c∧X.hB.get? c=some o∧o.data = .fields vs
 vlen:V.length=ns.length
 nd:ns.Nodup
 known:∀ x∈ns,env.kindOf x=some .local∨env.kindOf x=some .cell
 own:O env.locals
 offR:∀ a,O a→R a=none
 offP:∀ a,O a→a∉ρ
 live:∀ a,O a→h.get? a≠none
 loc:Fc ns env V R ρ h
 cell:∀ x∈ns,env.kindOf x=some .cell→zG ns env V R ρ h x
 dist:∀ x y c,x∈ns→y∈ns→env.kindOf x=some .cell→env.kindOf y=some .cell→env.cells.lookup x=some c→env.cells.lookup y=some c→x=y
section
variable {O:Addr→Prop} {ns:List Str} {env:Env} {V:VM} {R R':RM} {ρ ρ':List Addr} {s s':Shared} {H H':AH} {A:Around}
noncomputable def jw (ns:List Str) (env:Env) (O P:Addr→Prop):Prop:=∀ a,P a→¬ O a∧∀ x∈ns,env.kindOf x=some .cell→env.cells.lookup x≠some a
theorem dM.mvO {P:Addr→Prop} (e:dM O ns env V R ρ s.heap) (m:Mv P R ρ s R' ρ' s') (hP:jw ns env O P):dM O ns env V R' ρ' s'.heap where
 kind:=e.kind
 glob:=e.glob
 blt:=e.blt
 code:=e.code
 vlen:=e.vlen
 nd:=e.nd
 known:=e.known
 own:=e.own
 offR:=fun a ha=>by
  cases q:R' a with
  |none=>rfl
  |some o =>
   rcases m.rn a o q with h|h
   ·rw [e.offR a ha] at h;cases h
   ·exact absurd h (e.live a ha)
 offP:=fun a ha hm=>by
  rcases m.sub hm with h|h
  ·exact e.offP a ha h
  ·exact e.live a ha h
 live:=fun a ha=>m.live a (e.live a ha)
 loc:=by
  obtain⟨mm,hn,hv⟩:=e.loc
  refine⟨mm,hn.at' fun o ho=>m.keep _ o ho (e.offP _ e.own) (fun h=>(hP _ h).1 e.own),fun i x av h1 h2 h3 => ?_⟩
  obtain⟨v,a,b⟩:=hv i x av h1 h2 h3
  exact⟨v,a,m.rel b⟩
 cell:=fun x hx hk=>by
  obtain⟨c,cv,h1,⟨o,h2,h2'⟩,h3,h4,h5⟩:=e.cell x hx hk
  refine⟨c,cv,h1,⟨o,m.keep c o h2 h4 (fun h=>(hP c h).2 x hx hk h1),h2'⟩,h3,fun hm => ?_,fun i av a b => ?_⟩
  ·rcases m.sub hm with h|h
   ·exact h4 h
   ·rw [h] at h2;cases h2
  ·obtain⟨v,p,q⟩:=h5 i av a b
   exact⟨v,p,m.rel q⟩
 dist:=e.dist
theorem dM.mv (e:dM O ns env V R ρ s.heap) (m:Mv No R ρ s R' ρ' s'):dM O ns env V R' ρ' s'.heap:=e.mvO m fun _ h=>h.elim
theorem dM.load (e:dM O ns env V R ρ s.heap) {i:Nat} {x:Str} {av:AV} {Q:Value→Shared→Prop} {E:Value→Shared→Prop} (hx:ns[i]?=some x) (hv:V[i]?=some (some av))
  (h:∀ v,Rel R ρ av v→Q v s):wpAny X.M A (loadName env x) Q E s:=by
 have hm:x∈ns:=KV hx
 rcases e.known x hm with k|k
 ·obtain⟨m,hn,hl⟩:=e.loc
  obtain⟨v,a,b⟩:=hl i x av hx hv k
  exact wpAny_loadName_local e.kind k hn a (h v b)
 ·obtain⟨c,cv,h1,h2,_,_,h5⟩:=e.cell x hm k
  obtain⟨v,rfl,b⟩:=h5 i av hx hv
  exact wpAny_loadName_cell e.kind k h1 h2 (h v b)
noncomputable def eS (O:Addr→Prop) (env:Env) (x:Str):Prop:=env.kindOf x=some .local∨(env.kindOf x=some .cell∧∀ c,env.cells.lookup x=some c→O c)
theorem dM.store (e:dM O ns env V R ρ s.heap) (g:ag R ρ H s.heap) {i:Nat} {x:Str} {av:AV} {v:Value} {Q:Unit→Shared→Prop} {E:Value→Shared→Prop} (hx:ns[i]?=some x) (hs:eS O env x) (hr:Rel R ρ av v)
  (h:∀ s',Mv O R ρ s R ρ s'→ag R ρ H s'.heap→dM O ns env (V.set i (some av)) R ρ s'.heap→Q () s'):wpAny X.M A (storeName env x v) Q E s:=by
 have hm:x∈ns:=KV hx
 have hi:i<V.length:=by refine rT e.vlen ?_;exact (KK.mp hx).1
 have slot:∀ (j:Nat) y,ns[j]?=some y→y=x→j=i:=fun j y h1 h2=>by
  subst h2
  obtain⟨a1,b1⟩:=KK.mp h1
  obtain⟨a2,b2⟩:=KK.mp hx
  have hp:=List.pairwise_iff_getElem.mp e.nd
  rcases Nat.lt_trichotomy j i with h|h|h
  ·exact absurd (b1.trans b2.symm) (hp j i a1 a2 h)
  ·exact h
  ·exact absurd (b2.trans b1.symm) (hp i j a2 a1 h)
 have rest:∀ (a:Addr) (h':Heap) (tk:Nat),O a→Heap.SameBut a s.heap h'→h'.get? a≠none →
   Fc ns env (V.set i (some av)) R ρ h'→(∀ y∈ns,env.kindOf y=some .cell→zG ns env (V.set i (some av)) R ρ h' y) →
   Q () { s with heap:=h',toks:=tk }:=by
  intro a h' tk hO hsb hla hloc hcell
  have old:∀ b o,b≠a→s.heap.get? b=some o→h'.get? b=some o:=fun b o hb eo=>hsb.extBut b o hb eo
  have hRa:=e.offR a hO
  have hPa:=e.offP a hO
  refine h _ (MvS.mv ⟨fun b o eo hb hOb=>old b o (fun q=>hOb (q▸hO)) eo,fun b hb => ?_,rfl,rfl⟩) ⟨g.base,fun b o eo=>old b o (fun q=>by rw [q,hRa] at eo;cases eo) (g.froz b o eo),g.nd,g.off,g.len,fun j o b e1 e2 => ?_⟩ ⟨e.kind,e.glob,e.blt,e.code,by simpa using e.vlen,e.nd,e.known,e.own,e.offR,e.offP,fun b hb => ?_,hloc,hcell,e.dist⟩
  ·by_cases q:b=a
   ·subst q;exact hla
   ·exact lv (fun o=>old b o q) hb
  ·have hb:b≠a:=fun q=>hPa (q▸KV e2)
   exact (g.objs j o b e1 e2).mono (fun _ _ h=>h) (fun _ _ h=>h) fun ob=>old b ob hb
  ·by_cases q:b=a
   ·subst q;exact hla
   ·exact lv (fun o=>old b o q) (e.live b hb)
 have vset:∀ (j:Nat) y aw,ns[j]?=some y→(V.set i (some av))[j]?=some (some aw)→(y=x∧aw=av)∨(y≠x∧V[j]?=some (some aw)):=fun j y aw h1 h2=>by
  by_cases q:y=x
  ·have:=slot j y h1 q
   subst this
   rw [List.getElem?_set_self hi] at h2
   cases h2
   exact .inl ⟨q,rfl⟩
  ·have hji:i≠j:=fun z=>by subst z;rw [h1] at hx;cases hx;exact q rfl
   rw [List.getElem?_set_ne hji] at h2
   exact .inr ⟨q,h2⟩
 rcases hs with k|⟨k,hO⟩
 ·obtain⟨m,hn,hl⟩:=e.loc
  refine wpAny_storeName_local k hn (fun h' hn' hsb=>rest env.locals h' _ e.own hsb ?_ ⟨_,hn',fun j y aw h1 h2 h3 => ?_⟩ fun y hy hk => ?_) (by refine rT e.kind ?_;rfl)
  ·obtain⟨o,_,_,ho,_⟩:=hn';exact nn ho
  ·rcases vset j y aw h1 h2 with ⟨rfl,rfl⟩|⟨q,h2⟩
   ·exact⟨v,if_pos rfl,hr⟩
   ·obtain⟨w,a,b⟩:=hl j y aw h1 h2 h3
    exact⟨w,(if_neg q).trans a,b⟩
  ·obtain⟨c,cv,h1,h2,h3,h4,h5⟩:=e.cell y hy hk
   refine⟨c,cv,h1,h2.sameBut hsb h3,h3,h4,fun j aw a b => ?_⟩
   rcases vset j y aw a b with ⟨rfl,_⟩|⟨q,b⟩
   ·rw [k] at hk;cases hk
   ·exact h5 j aw a b
 ·obtain⟨c,cv,h1,h2,h3,h4,h5⟩:=e.cell x hm k
  refine wpAny_storeName_cell e.kind k h1 h2 fun h' hc' hsb => ?_
  refine rest c h' s.toks (hO c h1) hsb ?_ ?_ fun y hy hk => ?_
  ·obtain⟨o,ho,_⟩:=hc';exact nn ho
  ·obtain⟨m,hn,hl⟩:=e.loc
   refine⟨m,hn.sameBut hsb (Ne.symm h3),fun j y aw a b hk => ?_⟩
   rcases vset j y aw a b with ⟨rfl,_⟩|⟨q,b⟩
   ·rw [k] at hk;cases hk
   ·exact hl j y aw a b hk
  ·by_cases q:y=x
   ·subst q
    refine⟨c,some v,h1,hc',h3,h4,fun j aw a b => ?_⟩
    rcases vset j y aw a b with ⟨_,rfl⟩|⟨q,_⟩
    ·exact⟨v,rfl,hr⟩
    ·exact absurd rfl q
   ·obtain⟨c',cv',g1,g2,g3,g4,g5⟩:=e.cell y hy hk
    have hcc:c'≠c:=fun z=>q (e.dist y x c' hy hm hk k g1 (z▸h1))
    refine⟨c',cv',g1,g2.sameBut hsb hcc,g3,g4,fun j aw a b => ?_⟩
    rcases vset j y aw a b with ⟨z,_⟩|⟨_,b⟩
    ·exact absurd z q
    ·exact g5 j aw a b
end
structure ScR (s:Sc) (env:Env):Prop where
 g:∀ n,s.kinds.lookup n=some .globalImplicit→env.kindOf n=some .globalImplicit
 c:∀ n,(s.kinds.lookup n=some .cell∨s.kinds.lookup n=some .free)→env.kindOf n=some .cell
noncomputable def mw (C:ae) (d:Nat):Prop :=
 ∀ (f:Nat) (args:List AV) (kws:List (Str×AV)) (H:AH) (r:AV) (H':AH) (A:Around) (R:RM) (ρ:List Addr) (s:Shared) (vs:List Value) (ks:List (Str×Value)),
  C f args kws H=some (r,H')→aI A d→ag R ρ H s.heap→ai R ρ args vs→bb R ρ kws ks→EvT A (call (.ref (X.F f)) vs ks) R ρ s r H'
inductive r8 {α β:Type} (R:RM) (ρ:List Addr) (s:Shared) (v:α) (Rl:RM→List Addr→α→β→Prop) (H':AH) (cv:β) (s':Shared):Prop
 |mk (R':RM) (ρ':List Addr) (m:Mv No R ρ s R' ρ' s') (g:ag R' ρ' H' s'.heap) (r:Rl R' ρ' v cv)
noncomputable def EvP {α β:Type} (A:Around) (t:Sem β) (R:RM) (ρ:List Addr) (s:Shared) (v:α) (Rl:RM→List Addr→α→β→Prop) (H':AH):Prop :=
 wpAny X.M A t (r8 R ρ s v Rl H') NoE s
section
variable {A:Around} {R R':RM} {ρ ρ':List Addr} {s s':Shared} {H H' H₁:AH} {v:AV}
theorem EvT.wp {t:Sem Value} {Q:Value→Shared→Prop} (h:EvT A t R ρ s v H₁)
  (g:∀ R' ρ' cv s',Mv No R ρ s R' ρ' s'→ag R' ρ' H₁ s'.heap→Rel R' ρ' v cv→Q cv s'):wpAny X.M A t Q NoE s :=
 Kq h (fun cv s' z0=>by obtain⟨R',ρ',m,gd,r⟩:=z0;exact g R' ρ' cv s' m gd r) fun _ _ e=>e
theorem EvT.of {t:Sem Value} (h:EvT A t R ρ s v H₁) (m:Mv No R' ρ' s' R ρ s):wpAny X.M A t (b5 R' ρ' s' v H₁) NoE s :=
 h.wp fun R'' ρ'' cv s'' m' g r=>⟨R'',ρ'',m.trans m',g,r⟩
end
noncomputable def zH:ME→String
 |.index => "str.index" | .encode => "str.encode" | .sjoin => "str.join" | .startswith => "bytes.startswith" | .endswith => "bytes.endswith" | .rfind => "bytes.rfind" | .rstrip => "bytes.rstrip" | .split => "bytes.split" | .bjoin => "bytes.join" | .isdisjoint => "frozenset.isdisjoint" | .issuperset => "frozenset.issuperset" | .append => "list.append" | .pop => "list.pop"
structure dD:Prop where
 bin:∀ {A:Around} {d:Nat} {R:RM} {ρ:List Addr} {s:Shared} {H:AH} {op:Operator} {x y v:AV} {cx cy:Value},aI A d→ag R ρ H s.heap→Rel R ρ x cx→Rel R ρ y cy→fF H op x y=some v→EvT A (binaryOp op cx cy) R ρ s v H
 inpl:∀ {A:Around} {d:Nat} {R:RM} {ρ:List Addr} {s:Shared} {H:AH} {op:Operator} {x y v:AV} {cx cy:Value},aI A d→ag R ρ H s.heap→Rel R ρ x cx→Rel R ρ y cy→CP op x y=some v→EvT A (inplaceOp op cx cy) R ρ s v H
 un:∀ {A:Around} {d:Nat} {R:RM} {ρ:List Addr} {s:Shared} {H:AH} {op:UnaryOp} {x v:AV} {cx:Value},aI A d→ag R ρ H s.heap→Rel R ρ x cx→aun op H x=some v→EvT A (unaryOp op cx) R ρ s v H
 tru:∀ {A:Around} {d:Nat} {R:RM} {ρ:List Addr} {s:Shared} {H:AH} {x:AV} {b:Bool} {cx:Value},aI A d→ag R ρ H s.heap→Rel R ρ x cx→cG H x=some b→EvP A (truthy cx) R ρ s b (fun _ _ a c=>c=a) H
 cmp:∀ {A:Around} {d:Nat} {R:RM} {ρ:List Addr} {s:Shared} {H:AH} {op:CmpOp} {x y:AV} {b:Bool} {cx cy:Value},aI A d→ag R ρ H s.heap→Rel R ρ x cx→Rel R ρ y cy→f9 H op x y=some b→EvT A (compareOp op cx cy) R ρ s (.bool b) H
 sub:∀ {A:Around} {d:Nat} {R:RM} {ρ:List Addr} {s:Shared} {H:AH} {x y v:AV} {cx cy:Value} (base slice:Expr),aI A d→ag R ρ H s.heap→Rel R ρ x cx→Rel R ρ y cy→fG H x y=some v→EvT A (subscriptTail base slice cx cy) R ρ s v H
 sli:∀ {A:Around} {d:Nat} {R:RM} {ρ:List Addr} {s:Shared} {H:AH} {x v:AV} {lo hi st:Option AV} {cx cl ch cs:Value} (base slice:Expr),aI A d→ag R ρ H s.heap→Rel R ρ x cx →
  Rel R ρ (lo.getD .none) cl→Rel R ρ (hi.getD .none) ch→Rel R ρ (st.getD .none) cs→cg x lo hi st=some v →
  wpAny X.M A (newFields "slice" [cl,ch,cs]) (fun i s'=>wpAny X.M A (subscriptTail base slice cx i) (b5 R ρ s v H) NoE s') NoE s
 bi:∀ {A:Around} {d:Nat} {R:RM} {ρ:List Addr} {s:Shared} {H:AH} {b:BI} {args:List AV} {v:AV} {vs:List Value},aI A d→ag R ρ H s.heap→ai R ρ args vs→abi H b args=some v→EvT A (call (oK b) vs) R ρ s v H
 set1:∀ {A:Around} {d:Nat} {R:RM} {ρ:List Addr} {s:Shared} {H H':AH} {i:Int} {t:Sem Value} {b:Bool},aI A d→ag R ρ H s.heap →
  (∀ s₁,Mv No R ρ s R ρ s₁→ag R ρ H s₁.heap→EvT A t R ρ s₁ (.int i) H')→EvT A (setDisplay .oneByOne b [(false,t)]) R ρ s (.set [.int i]) H'
 getm:∀ {A:Around} {d:Nat} {R:RM} {ρ:List Addr} {s:Shared} {H:AH} {m:ME} {x:AV} {cx:Value} {pl:Sem Bool},aI A d→ag R ρ H s.heap→Rel R ρ x cx→fU H x=true→Nat.beq (avK x) (meK m)=true →
  wpAny X.M A (getMethod cx (mr m) pl) (fun r s'=>r=(.builtin (zH m),[cx])∧s'=s) NoE s
 meth:∀ {A:Around} {d:Nat} {R:RM} {ρ:List Addr} {s:Shared} {H:AH} {m:ME} {x:AV} {args:List AV} {r:AV×AH} {cx:Value} {vs:List Value},aI A d→ag R ρ H s.heap→Rel R ρ x cx→ai R ρ args vs→Nat.beq (avK x) (meK m)=true →
  fH m H x args=some r→EvT A (call (.builtin (zH m)) (cx::vs)) R ρ s r.1 r.2
structure At (d:Nat) (s:Sc) (A:Around) (O:Addr→Prop) (env:Env) (V:VM) (R:RM) (ρ:List Addr) (H:AH) (st:Shared):Prop where
 room:aI A (d+4)
 sc:ScR s env
 e:dM O s.slots env V R ρ st.heap
 g:ag R ρ H st.heap
theorem At.mv {d:Nat} {s:Sc} {A:Around} {O:Addr→Prop} {env:Env} {V:VM} {R R':RM} {ρ ρ':List Addr} {H H':AH} {st st':Shared} (a:At d s A O env V R ρ H st) (m:Mv No R ρ st R' ρ' st') (g:ag R' ρ' H' st'.heap):At d s A O env V R' ρ' H' st' :=
 ⟨a.room,a.sc,a.e.mv m,g⟩
theorem At.genv {d:Nat} {s:Sc} {A:Around} {O:Addr→Prop} {env:Env} {V:VM} {R:RM} {ρ:List Addr} {H:AH} {st:Shared} (a:At d s A O env V R ρ H st):E9 env:=⟨a.e.kind,a.e.glob,a.e.blt⟩
theorem ag.hB {R:RM} {ρ:List Addr} {H:AH} {h:Heap} (g:ag R ρ H h):cD X.hB h:=fun b o e=>g.froz b o (g.base b o e)
noncomputable def aJ (C:ae) (d:Nat) (s:Sc) (e:Expr) (x:X'):Prop :=
 ∀ A O env V R ρ H st r,At d s A O env V R ρ H st→ev C x V H=some r→EvT A (eval e env) R ρ st r.1 r.2
noncomputable def iZ (C:ae) (d:Nat) (s:Sc) (e:Expr) (x:X'):Prop :=
 ∀ A O env V R ρ H st r,At d s A O env V R ρ H st→tv C x (ev C x V H) V H=some r→EvP A (isTrue e env (eval e env)) R ρ st r.1 (fun _ _ a c=>c=a) r.2
noncomputable def km (C:ae) (d:Nat) (s:Sc) (l:List Expr) (x:XL):Prop :=
 ∀ A O env V R ρ H st r pos,At d s A O env V R ρ H st→evL C x V H=some r→l.all aW=true→EvP A (spliced (backTo pos (starEach l env))) R ρ st r.1 ai r.2
noncomputable def xc (C:ae) (d:Nat) (s:Sc) (l:Option Expr) (x:gZ):Prop :=
 ∀ A O env V R ρ H st r,At d s A O env V R ρ H st→evO C x V H=some r→EvT A (valueOrNone (evalOpt l env)) R ρ st (r.1.getD .none) r.2
theorem ob {α β:Type} {o:Option α} {f:α→Option β} {r:β} {G:Prop} (h:o.bind f=some r) (k:∀ a,o=some a→f a=some r→G):G:=by
 cases o with
 |none=>cases h
 |some a=>exact k a rfl h
theorem oi {α:Type} {c:Prop} [i:Decidable c] {a:Option α} {r:α} {G:Prop} (h:ite c a none=some r) (k:c→a=some r→G):G:=by
 cases i with
 |isTrue h'=>exact k h' h
 |isFalse h'=>cases h
theorem oc {α:Type} {c:Bool} {a:Option α} {r:α} {G:Prop} (h:cond c a none=some r) (k:c=true→a=some r→G):G:=by
 cases c with
 |true=>exact k rfl h
 |false=>cases h
theorem oe {α β:Type} {o:Option α} {f:α→Option β} {g:Option β} {r:β} {G:Prop} (h:o.elim g f=some r) (k1:∀ a,f a=some r→G) (k2:g=some r→G):G:=by
 cases o with
 |none=>exact k2 h
 |some a=>exact k1 a h
@[elab_as_elim] theorem oj {α:Type} {a r:α} {P:α→Prop} (h:some a=some r) (p:P a):P r:=KY h▸p
section
variable {C:ae} {d:Nat} {s:Sc} {A:Around} {R R':RM} {ρ ρ':List Addr} {st st':Shared} {H H' H₁:AH}
theorem EvP.wp {α β:Type} {t:Sem β} {v:α} {Rl:RM→List Addr→α→β→Prop} {Q:β→Shared→Prop} (h:EvP A t R ρ st v Rl H₁)
  (g:∀ R' ρ' cv s',Mv No R ρ st R' ρ' s'→ag R' ρ' H₁ s'.heap→Rl R' ρ' v cv→Q cv s'):wpAny X.M A t Q NoE st :=
 Kq h (fun cv s' z0=>by obtain⟨R',ρ',m,gd,r⟩:=z0;exact g R' ρ' cv s' m gd r) fun _ _ e=>e
theorem Mv.evT {t:Sem Value} {v:AV} (m:Mv No R ρ st R' ρ' st') (h:EvT A t R' ρ' st' v H₁):wpAny X.M A t (b5 R ρ st v H₁) NoE st':=h.of m
theorem Mv.evP {α β:Type} {t:Sem β} {v:α} {Rl:RM→List Addr→α→β→Prop} (m:Mv No R ρ st R' ρ' st') (h:EvP A t R' ρ' st' v Rl H₁):wpAny X.M A t (r8 R ρ st v Rl H₁) NoE st' :=
 h.wp fun R'' ρ'' cv s'' m' g r=>⟨R'',ρ'',m.trans m',g,r⟩
theorem EvP.mk {α β:Type} {v:α} {cv:β} {Rl:RM→List Addr→α→β→Prop} (g:ag R ρ H st.heap) (r:Rl R ρ v cv):r8 R ρ st v Rl H cv st:=⟨R,ρ,Mv.refl st,g,r⟩
theorem aC {v:AV} {cv:Value} {tk:Nat} (g:ag R ρ H st.heap) (r:Rel R ρ v cv):b5 R ρ st v H cv { st with toks:=tk } :=
 ⟨R,ρ,Mv.grow fun _ _ e=>e,g,r⟩
theorem aD {v:AV} {cv:Value} (g:ag R ρ H st.heap) (r:Rel R ρ v cv):b5 R ρ st v H cv st:=⟨R,ρ,Mv.refl st,g,r⟩
theorem xd {k:Const} {kd:Nat} {pos:Pos}:aJ C d s (.Constant k kd pos) (.c k):=fun _ _ _ _ _ _ _ _ _ a h=>by
 cases k with
 |none=>exact oj h (JZ (aD a.g rfl))
 |bool b=>exact oj h (JZ (aD a.g rfl))
 |int i=>exact oj h (wpAny_mkInt (aC a.g ⟨_,rfl⟩))
 |str x=>exact oj h (wpAny_Constant_str (aC a.g ⟨_,rfl⟩))
 |bytes b=>exact oj h (JX (m:=fresh) (wpAny_fresh (JZ (aC a.g ⟨_,rfl⟩))))
 |_=>cases h
theorem pG {V:VM} {i:Nat} {v:AV} (h:(V[i]?).join=some v):V[i]?=some (some v):=Option.join_eq_some_iff.mp h
theorem zI {i:Nat} {x:Str} {pos:Pos} (hi:s.slots[i]?=some x) (hd:(x==("__debug__" : Str))=false):aJ C d s (.Name x pos) (.v i):=fun _ _ _ _ _ _ _ _ _ a h =>
 ob h fun _ hv h=>oj h (wpAny_Name (a.e.load hi (pG hv) fun _ r=>aD a.g r) hd)
theorem CT (pr:dD) {a b:Expr} {op:Operator} {pos:Pos} {xa xb:X'} (ha:aJ C d s a xa) (hb:aJ C d s b xb):aJ C d s (.BinOp a op b pos) (.bin op xa xb):=fun _ _ _ _ _ _ _ _ _ a0 h =>
 ob h fun _ h1 h=>ob h fun _ h2 h=>ob h fun _ h3 h=>oj h (wpAny_BinOp ((ha _ _ _ _ _ _ _ _ _ a0 h1).wp fun _ _ _ _ m1 g1 r1 =>
  (hb _ _ _ _ _ _ _ _ _ (a0.mv m1 g1) h2).wp fun _ _ _ _ m2 g2 r2=>(m1.trans m2).evT (pr.bin a0.room g2 (m2.rel r1) r2 h3)))
theorem zJ (pr:dD) {a:Expr} {op:UnaryOp} {pos:Pos} {xa:X'} (ha:aJ C d s a xa):aJ C d s (.UnaryOp op a pos) (.un op xa):=fun _ _ _ _ _ _ _ _ _ a0 h =>
 ob h fun _ h1 h=>ob h fun _ h3 h=>oj h (wpAny_UnaryOp ((ha _ _ _ _ _ _ _ _ _ a0 h1).wp fun _ _ _ _ m1 g1 r1=>m1.evT (pr.un a0.room g1 r1 h3)))
theorem CU {t a b:Expr} {pos:Pos} {xt xa xb:X'} (ht:iZ C d s t xt) (ha:aJ C d s a xa) (hb:aJ C d s b xb):aJ C d s (.IfExp t a b pos) (.ife xt xa xb):=fun _ _ _ _ _ _ _ _ _ a0 h =>
 ob h fun p h1 h2=>wpAny_IfExp ((ht _ _ _ _ _ _ _ _ _ a0 h1).wp fun R1 ρ1 c s1 m1 g1 r1=>by
  obtain⟨b,H1⟩:=p
  cases (show c=b from r1)
  cases c with
  |false=>exact m1.evT (hb _ _ _ _ _ _ _ _ _ (a0.mv m1 g1) h2)
  |true=>exact m1.evT (ha _ _ _ _ _ _ _ _ _ (a0.mv m1 g1) h2))
theorem CV (pr:dD) {a i:Expr} {pos:Pos} {xa xi:X'} (ha:aJ C d s a xa) (hi:aJ C d s i xi):aJ C d s (.Subscript a i pos) (.sub xa xi):=fun _ _ _ _ _ _ _ _ _ a0 h =>
 ob h fun _ h1 h=>ob h fun _ h2 h=>ob h fun _ h3 h=>oj h (Subscript_ ((ha _ _ _ _ _ _ _ _ _ a0 h1).wp fun _ _ _ _ m1 g1 r1 =>
  (hi _ _ _ _ _ _ _ _ _ (a0.mv m1 g1) h2).wp fun _ _ _ _ m2 g2 r2=>(m1.trans m2).evT (pr.sub a i a0.room g2 (m2.rel r1) r2 h3)))
theorem Fd:xc C d s none .no:=fun _ _ _ _ _ _ _ _ _ a0 h=>oj h (JZ (aD a0.g rfl))
theorem CW {a:Expr} {xa:X'} (ha:aJ C d s a xa):xc C d s (some a) (.yes xa):=fun _ _ _ _ _ _ _ _ _ a0 h =>
 ob h fun _ h1 h=>oj h (ha _ _ _ _ _ _ _ _ _ a0 h1)
theorem Fe (pr:dD) {a:Expr} {lo hi sp:Option Expr} {p pos:Pos} {xa:X'} {xl xh xs:gZ} (ha:aJ C d s a xa) (hl:xc C d s lo xl) (hh:xc C d s hi xh) (hs:xc C d s sp xs) :
  aJ C d s (.Subscript a (.Slice lo hi sp p) pos) (.sl xa xl xh xs):=fun _ _ _ _ _ _ _ _ _ a0 h =>
 ob h fun _ h1 h=>ob h fun _ h2 h=>ob h fun _ h3 h=>ob h fun _ h4 h=>ob h fun _ h5 h=>oj h (Subscript_ ((ha _ _ _ _ _ _ _ _ _ a0 h1).wp fun _ _ _ _ m1 g1 r1 =>
  have a1:=a0.mv m1 g1
  JX ((hl _ _ _ _ _ _ _ _ _ a1 h2).wp fun _ _ _ _ m2 g2 r2 =>
  have a2:=a1.mv m2 g2
  JX (JY ((hh _ _ _ _ _ _ _ _ _ a2 h3).wp fun _ _ _ _ m3 g3 r3 =>
  JX (JY ((hs _ _ _ _ _ _ _ _ _ (a2.mv m3 g3) h4).wp fun _ _ _ _ m4 g4 r4 =>
  Kq (pr.sli a (.Slice lo hi sp p) a0.room g4 (m4.rel (m3.rel (m2.rel r1))) (m4.rel (m3.rel r2)) (m4.rel r3) r4 h5)
   (fun _ _ q=>Kq q (fun _ _ z0=>by obtain⟨R6,ρ6,m6,g6,r6⟩:=z0;exact⟨R6,ρ6,(((m1.trans m2).trans m3).trans m4).trans m6,g6,r6⟩) fun _ _ e=>e) fun _ _ e=>e)))))))
end
structure xg (C:ae) (d:Nat) (s:Sc) (l:List Keyword) (x:KL):Prop where
 nm:∀ (pos:Pos) (env:Env),(backToKw pos (keywordEach l env)).all (·.1.isSome)=true
 ev:∀ A O env V R ρ H st r pos,At d s A O env V R ρ H st→evK C x V H=some r →
  EvP A (evalAll ((backToKw pos (keywordEach l env)).map (·.2))) R ρ st r.1 (fun R' ρ' v cv=>bb R' ρ' v (((backToKw pos (keywordEach l env)).filterMap (·.1)).zip cv)) r.2
noncomputable def r9 (C:ae) (d:Nat) (s:Sc) (ops:List CmpOp) (l:List Expr) (x:CL):Prop :=
 ∀ A O env V R ρ H st pos a ca r,At d s A O env V R ρ H st→Rel R ρ a ca→g9 C a x V H=some r →
  EvT A (compareChain pos ca ops (evalEach l env)) R ρ st (.bool r.1) r.2∧EvP A (testChain pos ca ops (evalEach l env)) R ρ st r.1 (fun _ _ a c=>c=a) r.2
section
variable {C:ae} {d:Nat} {s:Sc} {A:Around} {R R':RM} {ρ ρ':List Addr} {st st':Shared} {H H' H₁:AH}
theorem fM {M:Model} {A:Around} {E:Value→Shared→Prop} {s:Shared} {b:Bool} {Q:Bool→Shared→Prop} (h:Q b s):wpAny M A (truthy (.bool b)) Q E s:=JZ h
theorem sd:km C d s [] .nil:=fun _ _ _ _ _ _ _ _ _ _ a0 h _=>oj h (spliced_nil (EvP.mk a0.g rfl))
theorem i3 {e:Expr} {r:List Expr} {env:Env} (h:aW e=true):starEach (e::r) env=(false,eval e env)::starEach r env:=by
 cases e<;>first|rfl|cases h
theorem bq {a b:Bool} {G:Prop} (h:(a&&b)=true) (k:a=true→b=true→G):G:=by
 cases a with
 |true=>exact k rfl h
 |false=>cases h
theorem ia {e:Expr} {r:List Expr} {xe:X'} {xr:XL} (he:aJ C d s e xe) (hr:km C d s r xr):km C d s (e::r) (.cons xe xr):=fun _ _ _ _ _ _ _ _ _ pos a0 h hn =>
 bq hn fun n1 n2=>ob h fun _ h1 h=>ob h fun _ h2 h=>oj h (spliced_more ((he _ _ _ _ _ _ _ _ _ a0 h1).wp fun _ _ _ _ m1 g1 r1 =>
  (hr _ _ _ _ _ _ _ _ _ pos (a0.mv m1 g1) h2 n2).wp fun R2 ρ2 _ _ m2 g2 r2=>⟨R2,ρ2,m1.trans m2,g2,.cons (m2.rel r1) r2⟩) (i3 n1))
theorem zK:xg C d s [] .nil:=⟨fun _ _=>rfl,fun _ _ _ _ _ _ _ _ _ _ a0 h=>oj h (JZ (EvP.mk a0.g rfl))⟩
theorem xj {e:Expr} {k:Str} {p:Pos} {r:List Keyword} {xe:X'} {xr:KL} (he:aJ C d s e xe) (hr:xg C d s r xr):xg C d s (⟨some k,e,p⟩::r) (.cons k xe xr) :=
 ⟨fun pos env=>hr.nm pos env,fun _ _ _ _ _ _ _ _ _ pos a0 h=>ob h fun _ h1 h=>ob h fun _ h2 h=>oj h
  (JX (JX ((he _ _ _ _ _ _ _ _ _ a0 h1).wp fun _ _ cx _ m1 g1 r1=>JX (wpAny_standAt (JZ (JX (JY
   ((hr.ev _ _ _ _ _ _ _ _ _ pos (a0.mv m1 g1) h2).wp fun R2 ρ2 _ _ m2 g2 r2=>JZ ⟨R2,ρ2,m1.trans m2,g2,cx,_,rfl,m2.rel r1,r2⟩))))))))⟩
theorem zL (pr:dD) {op:CmpOp} {e:Expr} {xe:X'} (he:aJ C d s e xe):r9 C d s [op] [e] (.cons op xe .nil):=fun _ _ _ _ _ _ _ _ _ _ _ _ a0 ra h =>
 ob h fun _ h1 h=>ob h fun _ h2 h=>oj h ⟨
  JX (JY ((he _ _ _ _ _ _ _ _ _ a0 h1).wp fun _ _ _ _ m1 g1 r1=>JX (wpAny_standAt (wpAny_operateT (m1.evT (pr.cmp a0.room g1 (m1.rel ra) r1 h2)))))),
  JX (JY ((he _ _ _ _ _ _ _ _ _ a0 h1).wp fun _ _ _ _ m1 g1 r1=>JX (wpAny_standAt (JX (wpAny_operateT
   ((pr.cmp a0.room g1 (m1.rel ra) r1 h2).wp fun R2 ρ2 c _ m2 g2 r2=>(show c = .bool _ from r2)▸JY (fM ⟨R2,ρ2,m1.trans m2,g2,rfl⟩)))))))⟩
theorem oN {M:Model} {A:Around} {E:Value→Shared→Prop} {s:Shared} {vs ks:List Value} {Q:Unit→Shared→Prop} (h:Q () s):wpAny M A (release vs ks) Q E s:=by
 unfold release
 generalize (vs.filter _)=l
 induction l with
 |nil=>exact JZ h
 |cons a l ih =>
  cases l with
  |nil=>exact JZ h
  |cons b l=>exact JX (JY (wpAny_point ih))
theorem se (pr:dD) {op:CmpOp} {e:Expr} {xe:X'} {env:Env} {O:Addr→Prop} {V:VM} {r:AV×AH} {b:Bool} {x:AV} {cx:Value} {pos:Pos} {β:Type} {k:Value→Value→Bool→Sem β} {Q:β→Shared→Prop} (he:aJ C d s e xe) (a0:At d s A O env V R ρ H st) (ra:Rel R ρ x cx) (h1:ev C xe V H=some r) (h2:f9 r.2 op x r.1=some b)
  (h:∀ R2 ρ2 cy s2,Mv No R ρ st R2 ρ2 s2→ag R2 ρ2 r.2 s2.heap→Rel R2 ρ2 r.1 cy→wpAny X.M A (k cy (.bool b) b) Q NoE s2) :
  wpAny X.M A (do
   let y ← holding [cx] (eval e env)
   standAt pos
   let c ← holding [cx,y] (compareOp op cx y)
   release [cx,y] [c]
   let t ← holding [c,y] (truthy c)
   k y c t) Q NoE st :=
 JX (JY ((he _ _ _ _ _ _ _ _ _ a0 h1).wp fun _ _ cy _ m1 g1 r1=>JX (wpAny_standAt (JX (JY
   ((pr.cmp a0.room g1 (m1.rel ra) r1 h2).wp fun R2 ρ2 c _ m2 g2 r2=>(show c = .bool _ from r2)▸JX (oN (JX (JY (fM (h R2 ρ2 cy _ (m1.trans m2) g2 (m2.rel r1))))))))))))
theorem xm (pr:dD) {op op' op'':CmpOp} {e e':Expr} {ops:List CmpOp} {es:List Expr} {xe xe':X'} {xr xs:CL} (he:aJ C d s e xe) (hr:r9 C d s (op'::ops) (e'::es) xs) (hx:xs = .cons op'' xe' xr):r9 C d s (op::op'::ops) (e::e'::es) (.cons op xe xs):=fun _ _ env _ _ _ _ _ pos _ _ _ a0 ra h=>by
 subst hx
 exact ob h fun p h1 h=>ob h fun b h2 h=>⟨
  se pr he a0 ra h1 h2 (k:=fun y c t=>if t then compareChain pos y (op'::ops) (evalEach (e'::es) env) else pure c) fun R2 ρ2 _ _ m g r=>by
   cases b with
   |false=>exact oj h (JZ ⟨R2,ρ2,m,g,rfl⟩)
   |true=>exact m.evT (hr _ _ _ _ _ _ _ _ pos _ _ _ (a0.mv m g) r h).1,
  se pr he a0 ra h1 h2 (k:=fun y c t=>if t then testChain pos y (op'::ops) (evalEach (e'::es) env) else pure false) fun R2 ρ2 _ _ m g r=>by
   cases b with
   |false=>exact oj h (JZ ⟨R2,ρ2,m,g,rfl⟩)
   |true=>exact m.evP (hr _ _ _ _ _ _ _ _ pos _ _ _ (a0.mv m g) r h).2⟩
theorem gm:∀ (ops:List CmpOp) (es:List Expr) (ts:List (Sem Value)),lastMarks ops es=false→markedEach ops es ts=ts
 |[],_,_,_=>rfl
 |[_],[],[],_=>rfl
 |[_],[],_::_,_=>rfl
 |[_],[_],[],_=>rfl
 |[op],[e],[t],h=>by
  refine (?_:[markedBehindIn op e t]=[t])
  unfold markedBehindIn
  exact rT (show behindInMarks op e=false from h) rfl
 |[_],[_],_::_::_,_=>rfl
 |[_],_::_::_,[],_=>rfl
 |[_],_::_::_,_::_,_=>rfl
 |_::_::_,[],[],_=>rfl
 |_::_::_,[],_::_,_=>rfl
 |_::_::_,_::_,[],_=>rfl
 |_::op::ops,_::es,t::ts,h=>congrArg (t::·) (gm (op::ops) es ts h)
theorem CX {a:Expr} {ops:List CmpOp} {l:List Expr} {pos:Pos} {xa:X'} {xl:CL} (hm:lastMarks ops l=false) (ha:aJ C d s a xa) (hl:r9 C d s ops l xl):aJ C d s (.Compare a ops l pos) (.cmp xa xl):=fun A _ env _ _ _ _ _ _ a0 h =>
 ob h fun _ h1 h=>ob h fun _ h2 h=>oj h (by
 refine (?_:wpAny _ _ (do compareChain pos (← eval a env) ops (markedEach ops l (evalEach l env))) _ _ _)
 refine rT (gm ops l _ hm) ?_
 exact JX ((ha _ _ _ _ _ _ _ _ _ a0 h1).wp fun _ _ _ _ m1 g1 r1=>m1.evT (hl _ _ _ _ _ _ _ _ pos _ _ _ (a0.mv m1 g1) r1 h2).1))
theorem zM {a:Expr} {ops:List CmpOp} {l:List Expr} {pos:Pos} {xa:X'} {xl:CL} (hm:lastMarks ops l=false) (ha:aJ C d s a xa) (hl:r9 C d s ops l xl):iZ C d s (.Compare a ops l pos) (.cmp xa xl):=fun A _ env _ _ _ _ _ _ a0 h =>
 ob h fun _ h1 h2=>by
 refine (?_:wpAny _ _ (do testChain pos (← eval a env) ops (markedEach ops l (evalEach l env))) _ _ _)
 refine rT (gm ops l _ hm) ?_
 exact JX ((ha _ _ _ _ _ _ _ _ _ a0 h1).wp fun _ _ _ _ m1 g1 r1=>m1.evP (hl _ _ _ _ _ _ _ _ pos _ _ _ (a0.mv m1 g1) r1 h2).2)
end
section
variable {C:ae} {d:Nat} {s:Sc} {A:Around} {R R':RM} {ρ ρ':List Addr} {st st':Shared} {H H' H₁:AH}
structure xn (C:ae) (d:Nat) (s:Sc) (op:BoolOp) (l:List Expr) (x:XL):Prop where
 v:∀ A O env V R ρ H st r pos,At d s A O env V R ρ H st→mo C op x V H=some r→EvT A (boolOp pos op (evalEach l env)) R ρ st r.1 r.2
 t:∀ A O env V R ρ H st r,At d s A O env V R ρ H st→fV C op x V H=some r→EvP A (allTrue op l env) R ρ st r.1 (fun _ _ a c=>c=a) r.2
theorem zN {op:BoolOp}:xn C d s op [] .nil :=
 ⟨fun _ _ _ _ _ _ _ _ _ _ _ h=>(by cases h),fun _ _ _ _ _ _ _ _ _ a0 h=>oj h (by cases op<;>exact JZ (EvP.mk a0.g rfl))⟩
theorem xp (pr:dD) {op:BoolOp} {e:Expr} {r:List Expr} {xe:X'} {xr:XL} (he:aJ C d s e xe) (ht:iZ C d s e xe) (hr:xn C d s op r xr) (hl:(r=[]∧xr = .nil)∨(∃ a b c f,r=a::b∧xr = .cons c f)):xn C d s op (e::r) (.cons xe xr) :=
 ⟨fun A O env V R ρ H st q pos a0 h=>by
  rcases hl with ⟨rfl,rfl⟩|⟨e',r',xe',xr',rfl,rfl⟩
  ·exact he _ _ _ _ _ _ _ _ _ a0 h
  ·refine ob h fun p h1 h=>ob h fun b h2 h=>JX ((he _ _ _ _ _ _ _ _ _ a0 h1).wp fun R1 ρ1 cx s1 m1 g1 r1=>JX (wpAny_standAt (JX (JY
    ((pr.tru a0.room g1 r1 h2).wp fun R2 ρ2 c s2 m2 g2 r2 => ?_)))))
   cases (show c=b from r2)
   have stop:some p=some q→wpAny X.M A (pure cx) (b5 R ρ st q.1 q.2) NoE s2:=fun h=>oj h (JZ ⟨R2,ρ2,m1.trans m2,g2,m2.rel r1⟩)
   have go:=fun h=>(m1.trans m2).evT (hr.v _ _ _ _ _ _ _ _ q pos (a0.mv (m1.trans m2) g2) h)
   cases op<;>cases b<;>first|exact stop h|exact go h,
  fun A O env V R ρ H st q a0 h=>ob h fun p h1 h=>by
   refine JX ((ht _ _ _ _ _ _ _ _ _ a0 h1).wp fun R1 ρ1 c s1 m1 g1 r1 => ?_)
   obtain⟨b,H1⟩:=p
   cases (show c=b from r1)
   have go:=fun h=>m1.evP (hr.t _ _ _ _ _ _ _ _ q (a0.mv m1 g1) h)
   cases op<;>cases c<;>first|exact go h|(exact oj h (JZ ⟨R1,ρ1,m1,g1,rfl⟩))⟩
theorem zO {op:BoolOp} {l:List Expr} {pos:Pos} {xl:XL} (hl:xn C d s op l xl):aJ C d s (.BoolOp op l pos) (.bool op xl):=fun _ _ _ _ _ _ _ _ _ a0 h=>hl.v _ _ _ _ _ _ _ _ _ pos a0 h
theorem xq {op:BoolOp} {l:List Expr} {pos:Pos} {xl:XL} (hl:xn C d s op l xl):iZ C d s (.BoolOp op l pos) (.bool op xl):=fun _ _ _ _ _ _ _ _ _ a0 h=>hl.t _ _ _ _ _ _ _ _ _ a0 h
theorem zP {a:Expr} {pos:Pos} {xa:X'} (ha:iZ C d s a xa):iZ C d s (.UnaryOp .Not a pos) (.un .Not xa):=fun _ _ _ _ _ _ _ _ _ a0 h =>
 ob h fun _ h1 h=>oj h (wpAny_isTrue_Not ((ha _ _ _ _ _ _ _ _ _ a0 h1).wp fun R1 ρ1 _ _ m1 g1 r1=>⟨R1,ρ1,m1,g1,congrArg not r1⟩))
theorem zQ {t a b:Expr} {pos:Pos} {xt xa xb:X'} (ht:iZ C d s t xt) (ha:iZ C d s a xa) (hb:iZ C d s b xb):iZ C d s (.IfExp t a b pos) (.ife xt xa xb):=fun _ _ _ _ _ _ _ _ _ a0 h =>
 ob h fun p h1 h2=>isTrue_IfExp ((ht _ _ _ _ _ _ _ _ _ a0 h1).wp fun R1 ρ1 c s1 m1 g1 r1=>by
  obtain⟨b,H1⟩:=p
  cases (show c=b from r1)
  cases c with
  |false=>exact m1.evP (hb _ _ _ _ _ _ _ _ _ (a0.mv m1 g1) h2)
  |true=>exact m1.evP (ha _ _ _ _ _ _ _ _ _ (a0.mv m1 g1) h2))
theorem zR (pr:dD) {e:Expr} {xe:X'} (he:aJ C d s e xe) (h1:∀ V H,tv C xe (ev C xe V H) V H=(ev C xe V H).bind fun p=>(cG p.2 p.1).bind fun b=>some (b,p.2))
  (h2:∀ env whole,isTrue e env whole=(do let v ← whole;standAt e.pos;holding [v] (truthy v))):iZ C d s e xe:=fun _ _ env _ _ _ _ _ _ a0 h =>
 ob ((h1 _ _).symm.trans h) fun _ h3 h=>ob h fun _ h4 h=>oj h (wpAny_isTrue_value ((he _ _ _ _ _ _ _ _ _ a0 h3).wp fun _ _ _ _ m1 g1 r1=>m1.evP (pr.tru a0.room g1 r1 h4)) (h2 env _))
theorem sf {n:Nat} (h:n≤1000):n≤sizeLine:=Kv h (by refine rT sizeLine_eq ?_;decide)
theorem ak {x y:AV} {cv:Value} (e:x=y) (r:Rel R ρ x cv):Rel R ρ y cv:=e▸r
theorem iD {x y:List AV} {cv:List Value} (e:x=y) (r:ai R ρ x cv):ai R ρ y cv:=e▸r
theorem b6 (h:Heap):h.get? h.objs.size=none:=by
 cases e:h.get? h.objs.size with
 |none=>rfl
 |some o=>exact absurd (Kw e) (Nat.lt_irrefl _)
theorem pH (g:ag R ρ H st.heap) {a:Addr}:(ρ++[a])[H.length]?=some a:=by
 refine rB g.len ?_;refine rT (List.getElem?_append_right (KX _)) ?_;refine rT (Nat.sub_self ..) ?_;rfl
theorem CY {l:List Expr} {pos:Pos} {xl:XL} (hn:l.all aW=true) (hl:km C d s l xl):aJ C d s (.List l pos) (.lst xl):=fun _ _ _ _ _ _ _ _ _ a0 h =>
 ob h fun _ h1 h=>oi h fun hc h=>oj h (wpAny_List ((hl _ _ _ _ _ _ _ _ _ pos a0 h1 hn).wp fun R1 ρ1 cvs s1 m1 g1 r1=>⟨r1.length▸sf hc.1,by
  have hm:=ai.mono (ρ':=ρ1++[s1.heap.objs.size]) (fun _ _ e=>e) (fun i b e=>by refine rT (List.getElem?_append_left (KK.mp e).1) ?_;exact e) _ cvs r1
  obtain⟨g2,m2⟩:=ll (tk:=s1.toks) (O:=No) g1 (b6 s1.heap) (ob := .list _) ⟨hc.2,cvs,0,Kj _ rfl,hm⟩ fun b o e=>Kx _ e
  exact⟨R1,_,m1.trans m2,g2,_,rfl,pH g1⟩⟩))
theorem CZ {l:List Expr} {k:Nat} {pos:Pos} {xl:XL} (hn:l.all aW=true) (hl:km C d s l xl):aJ C d s (.Tuple l k pos) (.tup xl):=fun _ _ _ _ _ _ _ _ _ a0 h =>
 ob h fun _ h1 h=>oi h fun hc h=>oj h (wpAny_Tuple ((hl _ _ _ _ _ _ _ _ _ pos a0 h1 hn).wp fun _ ρ1 cvs s1 m1 g1 r1=>⟨r1.length▸sf hc,by
  obtain⟨g2,m2⟩:=dk (tk:=s1.toks) (O:=No) g1 (b6 s1.heap) (o:=fL cvs 0) (Kj _ rfl) (fun b o e=>Kx _ e)
  exact⟨_,ρ1,m1.trans m2,g2,_,cvs,0,rfl,RM.add_self,m2.relL r1⟩⟩))
theorem C1 {O:Addr→Prop} {env:Env} {V:VM} (a0:At d s A O env V R ρ H st) {Q:Bool→Shared→Prop} (hQ:∀ b,Q b st):wpAny X.M A (inMainModule env) Q NoE st:=by
 obtain⟨c,o,vs,hc,ho,hd⟩:=a0.e.code
 unfold inMainModule
 refine rT hc ?_
 refine JX (wpAny_fieldsOf (a0.g.hB _ _ ho) hd ?_)
 split
 ·exact JX (wpAny_askSetting (JZ (hQ _)))
 ·exact JZ (hQ _)
theorem zS (pr:dD) {a:Expr} {pos:Pos} {xa:X'} (hn:aW a=true) (ha:aJ C d s a xa):aJ C d s (.Set [a] 0 pos) (.set1 xa):=fun A _ env _ R ρ _ st _ a0 h =>
 ob h fun p h1 h=>ob h fun i _ h=>oj h (by
  refine rT (arm_eval_Set ..) ?_;refine rT (i3 hn) ?_
  exact JX (wpAny_standAt (JX (C1 a0 fun b=>pr.set1 a0.room a0.g fun s1 m1 g1=>JX ((ha _ _ _ _ _ _ _ _ _ (a0.mv m1 g1) h1).wp fun R2 ρ2 _ _ m2 g2 r2=>JX (wpAny_standAt (JZ ⟨R2,ρ2,m2,g2,i.2▸r2⟩)))))))
end
section
variable {C:ae} {d:Nat} {s:Sc} {A:Around} {R R':RM} {ρ ρ':List Addr} {st st':Shared} {H H' H₁:AH}
theorem bQ {M:Model} {A:Around} {E:Value→Shared→Prop} {s:Shared} {f:Value} {args:List (Bool×Sem Value)} {kws:List (Option Str×Sem Value)} {Q:Args→Shared→Prop} (hst:∀ x∈args,x.1=false) (hall:kws.all (·.1.isSome)=true)
  (h:wpAny M A (spliced args) (fun vs s₁=>wpAny M A (evalAll (kws.map (·.2))) (fun ks s₂=>Q ⟨vs,(kws.filterMap (·.1)).zip ks⟩ s₂) E s₁) E s):wpAny M A (evalArgs f true args kws) Q E s:=by
 cases args with
 |nil=>exact fun Γ p hΓ=>evalArgs_kw_nil hall (h Γ p hΓ) Γ p hΓ
 |cons x r =>
  obtain⟨b,t⟩:=x
  obtain rfl:b=false:=hst _ (.head _)
  exact evalArgs_kw hall h
theorem aZ {pos:Pos} {env:Env}:∀ {l:List Expr},l.all aW=true→∀ x∈backTo pos (starEach l env),x.1=false
 |[],_,x,hx=>nomatch hx
 |e::r,h,x,hx=>bq h fun h1 h2=>by
  rw [i3 h1] at hx
  exact (KJ.mp hx).elim (fun e=>e▸rfl) (aZ h2 x)
theorem i4 {pos:Pos} {env:Env} {l:List Expr} (h:l.all aW=true):(backTo pos (starEach l env)).any (·.1)=false:=by
 refine rP List.any_eq_false ?_;intro x hx;refine rT (aZ h x hx) ?_;exact Bool.false_ne_true
theorem lm {n:Str} {gv:GV} (h:s.g n=some gv):s.slot n=none∧s.kinds.lookup n=some .globalImplicit∧s.glob.lookup n=some gv:=by
 unfold Sc.g at h
 split at h
 ·rename_i c;exact⟨c.1,c.2,h⟩
 ·cases h
theorem ff {gl:List (Str×GV)} (gk:GOk X gl) (hs:s.glob=gl) {A:Around} {O:Addr→Prop} {env:Env} {V:VM} {n:Str} {p:Pos} {gv:GV} {Q:Value→Shared→Prop} (at0:At d s A O env V R ρ H st) (h:s.g n=some gv) (hd:(n==("__debug__" : Str))=false)
  (k:∀ v,w9 X gv v→Q v st):wpAny X.M A (eval (.Name n p) env) Q NoE st:=by
 obtain⟨_,h2,h3⟩:=lm h
 exact wpAny_Name (gk.load n gv env A st Q (hs▸h3) at0.genv (at0.sc.g n h2) at0.g.hB k) hd
theorem jx {gl:List (Str×GV)} (hd:∀ p∈gl,(p.1==("__debug__" : Str))=false) {n:Str} {gv:GV} (h:gl.lookup n=some gv):(n==("__debug__" : Str))=false:=hd (n,gv) (mem_of_lookup h)
theorem jy {gl:List (Str×GV)} (gk:GOk X gl) (hdb:∀ p∈gl,(p.1==("__debug__" : Str))=false) (hs:s.glob=gl) {n:Str} {p:Pos} {gv:GV} {a:AV} (h:s.g n=some gv) (ha:∀ R ρ,(∀ b o,X.hB.get? b=some o→R b=some o)→∀ v,w9 X gv v→Rel R ρ a v):aJ C d s (.Name n p) (.g a):=fun _ _ _ _ _ _ _ _ _ a0 h' =>
 oj h' (ff gk hs a0 h (jx hdb (hs▸(lm h).2.2)) fun _ gv'=>aD a0.g (ha _ _ a0.g.base _ gv'))
theorem zT {l:List Nat} (R:RM) (ρ:List Addr) (hb:∀ b o,X.hB.get? b=some o→R b=some o) (v:Value):w9 X (.set l) v→Rel R ρ (.fset l) v:=fun z0=>by obtain⟨a,o,e,ho,hf⟩:=z0;exact⟨a,o,e,hb _ _ ho,hf⟩
theorem zU {gl:List (Str×GV)} (gk:GOk X gl) (hdb:∀ p∈gl,(p.1==("__debug__" : Str))=false) (hs:s.glob=gl) (or:mw C d) {n:Str} {p pos:Pos} {k:Nat} {l:List Expr} {ks:List Keyword} {xl:XL} {xk:KL} (h:s.g n=some (.fn k)) (hn:l.all aW=true) (hl:km C d s l xl) (hk:xg C d s ks xk) :
  aJ C d s (.Call (.Name n p) l ks pos) (.call k xl xk):=fun A _ env _ _ _ _ _ r a0 h' =>
 ob h' fun _ h1 h'=>ob h' fun _ h2 h3=>wpAny_Call_Name_kw (ff gk hs a0 h (jx hdb (hs▸(lm h).2.2)) fun f hf=>by
  obtain⟨o,fd,ho,hd⟩:=gk.fn n k (hs▸(lm h).2.2)
  exact (show f = .ref (X.F k) from hf)▸callWith_function_kw (o:=o) (fd:=fd) (bQ (aZ hn) (hk.nm pos env)
   ((hl _ _ _ _ _ _ _ _ _ pos a0 h1 hn).wp fun _ _ _ _ m1 g1 r1=>(hk.ev _ _ _ _ _ _ _ _ _ pos (a0.mv m1 g1) h2).wp fun _ _ _ _ m2 g2 r2=>⟨⟨g2.hB _ _ ho,hd⟩,
    (m1.trans m2).evT (or k _ _ _ r.1 r.2 A _ _ _ _ _ h3 (a0.room.le (Kf _ _)) g2 (m2.relL r1) r2)⟩)))
theorem GW {M:Model} {A:Around} {E:Value→Shared→Prop} {s:Shared} {pos:Pos} {b:BI} {args:List (Bool×Sem Value)} {Q:Value→Shared→Prop} (hplain:args.any (·.1)=false)
  (h:wpAny M A (evalArgs (oK b) true args []) (fun a s₁=>wpAny M A (call (oK b) ([]++a.pos) a.kw) Q E s₁) E s):wpAny M A (callWith pos (oK b) [] args []) Q E s:=by
 cases b
 case set=>exact PySem.callWith_type hplain h
 case type=>exact PySem.callWith_type hplain h
 case int16=>exact PySem.callWith_type hplain h
 all_goals exact callWith_builtin hplain h
theorem qD {gl:List (Str×GV)} (pr:dD) (gk:GOk X gl) (hdb:∀ p∈gl,(p.1==("__debug__" : Str))=false) (hs:s.glob=gl) {n:Str} {p pos:Pos} {b:BI} {l:List Expr} {xl:XL} {gv:GV} (h:s.g n=some gv) (hb:∀ v,w9 X gv v→v=oK b) (hn:l.all aW=true) (hl:km C d s l xl) :
  aJ C d s (.Call (.Name n p) l [] pos) (.bi b xl):=fun _ _ _ _ _ _ _ _ _ a0 h' =>
 ob h' fun _ h1 h'=>ob h' fun _ h2 h'=>oj h' (wpAny_Call_Name_kw (ff gk hs a0 h (jx hdb (hs▸(lm h).2.2)) fun f hf=>hb f hf ▸
  GW (i4 hn) (bQ (aZ hn) rfl ((hl _ _ _ _ _ _ _ _ _ pos a0 h1 hn).wp fun _ _ _ _ m1 g1 r1=>JZ (m1.evT (pr.bi a0.room g1 r1 h2))))))
theorem xu {pos:Pos}:aJ C d s (.Dict [] [] pos) .dict0:=fun _ _ _ _ _ _ _ st _ a0 h=>oj h (wpAny_Dict_empty (by
 obtain⟨g2,m2⟩:=ll (tk:=st.toks) (O:=No) a0.g (b6 st.heap) (ob := .dict []) (h':=st.heap.push { cls := .type "dict",data := .dict #[] }) ⟨rfl,[],Heap.DictOf.new st.heap,rfl⟩ (fun b o e=>Kx _ e)
 exact⟨_,_,m2,g2,_,rfl,pH a0.g⟩))
theorem mx {o:Expr} {n:Str} {env:Env} {whole:Sem Value} (h:ka o=true):attributeBase o n env whole=whole:=by
 cases o with
 |Call f a k p=>cases f with
  |Name g q=>cases a with
   |nil=>cases k with
    |nil=>cases h
    |cons=>rfl
   |cons=>rfl
  |_=>rfl
 |_=>rfl
theorem xv {o:Expr} {m:Str} {me:ME} (h:E7 o m=some me):mr me=m:=bq (List.find?_some (p:=fun me=>mr me==m&&zx o me) h) fun h _=>eq_of_beq h
theorem C2 {l:List Expr} {pos:Pos} {env:Env} (hn:l.all aW=true) (hlen:l.length<20):methodCallForm (l.length+([]:List Keyword).length) (backTo pos (starEach l env)) (backToKw pos (keywordEach [] env))=true:=by
 have:(backTo pos (starEach l env)).all (!·.1)=true:=List.all_eq_true.mpr fun y hy=>congrArg not (aZ hn y hy)
 unfold methodCallForm
 refine rT this ?_
 exact decide_eq_true (KZ hlen (by decide:20≤30):l.length<30)
theorem zV (pr:dD) {o:Expr} {m:Str} {apos pos:Pos} {l:List Expr} {me:ME} {xo:X'} {xl:XL} (hm:E7 o m=some me) (hline:apos.endLine=pos.line) (hn:l.all aW=true) (hb:ka o=true) (hlen:l.length<20) (ho:aJ C d s o xo) (hl:km C d s l xl) :
  aJ C d s (.Call (.Attribute o m apos) l [] pos) (.meth me xo xl):=fun _ _ env _ _ _ _ _ _ a0 h =>
 ob h fun _ h1 h=>oc h fun hk h=>oc h fun hrec h=>ob h fun _ h2 h3=>by
 cases xv hm
 refine rT (arm_eval_Call ..) ?_;refine rT (mx hb) ?_
 refine JX ((ho _ _ _ _ _ _ _ _ _ a0 h1).wp fun R1 ρ1 cx s1 m1 g1 r1=>JX (wpAny_standAt ?_))
 unfold methodCall
 refine rT (C2 hn hlen) ?_
 refine JX (JY (Kq (pr.getm a0.room g1 r1 hrec hk) (fun r s2 hr => ?_) fun _ _ e=>e))
 cases hr.1;cases hr.2
 have hp:methodCallPos true o env apos pos=pure pos:=by unfold methodCallPos;refine rT hline ?_;exact if_pos (beq_self_eq_true pos.line)
 refine (?_:wpAny _ _ (methodCallPos true o env apos pos >>= _) _ _ _)
 refine rT hp ?_
 exact JX (JZ (callWith_builtin (i4 hn) (bQ (aZ hn) rfl
  ((hl _ _ _ _ _ _ _ _ _ pos (a0.mv m1 g1) h2 hn).wp fun _ _ _ _ m2 g2 r2=>JZ ((m1.trans m2).evT (pr.meth a0.room g2 (m2.rel r1) r2 hk h3))))))
end
noncomputable def dw (Fp:List Addr) (R:RM) (ρ:List Addr) (h:Heap):Prop:=∀ b∈Fp,R b=none∧b∉ρ∧h.get? b≠none
structure xw (Fp:List Addr) (s s':Shared):Prop where
 keep:∀ b o,b∉Fp→s.heap.get? b=some o→s'.heap.get? b=some o
 gens:s'.gens=s.gens
 os:s'.os=s.os
section
variable {O:Addr→Prop} {ns:List Str} {env:Env} {V:VM} {R R₀:RM} {ρ ρ₀:List Addr} {s s' s₀:Shared} {H:AH} {Fp:List Addr}
theorem ag.ends (g:ag R ρ H s.heap) (fr:dw Fp R ρ s.heap) (e:xw Fp s s'):ag R ρ H s'.heap :=
 ⟨g.base,fun b o h=>e.keep b o (fun hm=>by rw [(fr b hm).1] at h;cases h) (g.froz b o h),g.nd,g.off,g.len,fun i o a h1 h2 =>
  (g.objs i o a h1 h2).mono (fun _ _ h=>h) (fun _ _ h=>h) fun ob h=>e.keep a ob (fun hm=>(fr a hm).2.1 (KV h2)) h⟩
theorem Mv.ends (m:Mv O R₀ ρ₀ s₀ R ρ s) (e:xw Fp s s') (hn:∀ b∈Fp,s₀.heap.get? b=none):Mv O R₀ ρ₀ s₀ R ρ s':=by
 have out:∀ b,s₀.heap.get? b≠none→b∉Fp:=fun b h hm=>h (hn b hm)
 refine⟨m.r,m.rn,m.p,fun b o h hb hO=>e.keep b o (out b (nn h)) (m.keep b o h hb hO),fun b h=>lv (fun o=>e.keep b o (out b h)) (m.live b h),e.gens.trans m.gens,e.os.trans m.os⟩
theorem dM.ends (x:dM O ns env V R ρ s.heap) (e:xw Fp s s') (hap:jw ns env O (·∈Fp)):dM O ns env V R ρ s'.heap:=by
 have out:∀ a,O a→a∉Fp:=fun a ha hm=>(hap a hm).1 ha
 refine⟨x.kind,x.glob,x.blt,x.code,x.vlen,x.nd,x.known,x.own,x.offR,x.offP,fun a ha => ?_,?_,fun y hy hk => ?_,x.dist⟩
 ·exact lv (fun o=>e.keep a o (out a ha)) (x.live a ha)
 ·obtain⟨m,hn,hv⟩:=x.loc
  exact⟨m,hn.at' fun o ho=>e.keep _ o (out _ x.own) ho,hv⟩
 ·obtain⟨c,cv,h1,⟨o,h2,h2'⟩,h3,h4,h5⟩:=x.cell y hy hk
  exact⟨c,cv,h1,⟨o,e.keep c o (fun hm=>(hap c hm).2 y hy hk h1) h2,h2'⟩,h3,h4,h5⟩
end
structure It (A:Around) (tg:Expr) (it:Value) (l:List AV) (Fp:List Addr) (St:Nat→RM→List Addr→Heap→Prop):Prop where
 stable:∀ i (R:RM) (ρ:List Addr) h (R':RM) (ρ':List Addr) h',St i R ρ h→(mu R R')→(oL ρ ρ')→(∀ b∈Fp,∀ o,h.get? b=some o→h'.get? b=some o)→St i R' ρ' h'
 item:∀ (i:Nat) a (R:RM) (ρ:List Addr) H (s:Shared) (Q:Value→Shared→Prop),l[i]?=some a→St i R ρ s.heap→ag R ρ H s.heap→dw Fp R ρ s.heap →
  (∀ R' v s',Mv (·∈Fp) R ρ s R' ρ s'→ag R' ρ H s'.heap→St (i+1) R' ρ s'.heap→Rel R' ρ a v→Q v s') →
  wpAny X.M A (pyNext it) (fun r s₁=>∃ v,r=some v∧wpAny X.M A (letOwnedTupleGo tg it v) (fun _ s'=>Q v s') NoE s₁) NoE s
 done:∀ (R:RM) (ρ:List Addr) H (s:Shared) (Q:Shared→Prop),St l.length R ρ s.heap→ag R ρ H s.heap→dw Fp R ρ s.heap→(∀ s',xw Fp s s'→Q s') →
  wpAny X.M A (pyNext it) (fun r s'=>r=none∧Q s') NoE s
 self:∀ i (R:RM) (ρ:List Addr) (s:Shared) (Q:Value→Shared→Prop),St i R ρ s.heap→Q it s→wpAny X.M A (pyIter it) Q NoE s
inductive ck (A:Around) (tg:Expr) (R:RM) (ρ:List Addr) (s:Shared) (l:List AV) (H':AH) (it:Value) (s':Shared):Prop
 |mk (R':RM) (ρ':List Addr) (Fp:List Addr) (St:Nat→RM→List Addr→Heap→Prop) (m:Mv No R ρ s R' ρ' s') (g:ag R' ρ' H' s'.heap) (fr:dw Fp R' ρ' s'.heap) (nw:∀ b∈Fp,s.heap.get? b=none) (W:It A tg it l Fp St) (st:St 0 R' ρ' s'.heap)
noncomputable def sg (x:IT) (tg:Expr):Prop:=match x with
 |.enum _ | .zip _ _=>∃ elts k p,tg = .Tuple elts k p
 |_=>True
noncomputable def my (C:ae) (d:Nat) (s:Sc) (e:Expr) (x:IT):Prop :=
 ∀ A O env V R ρ H st r tg,sg x tg→At d s A O env V R ρ H st→evI C x V H=some r→wpAny X.M A (eval e env) (fun cx s₁=>wpAny X.M A (pyIter cx) (ck A tg R ρ st r.1 r.2) NoE s₁) NoE st
structure bM:Prop where
 iter:∀ {A:Around} {d:Nat} {R:RM} {ρ:List Addr} {s:Shared} {H:AH} {x:AV} {l:List AV} {cx:Value} (tg:Expr),aI A d→ag R ρ H s.heap→Rel R ρ x cx→(x = .lst l∨x = .tup l)→wpAny X.M A (pyIter cx) (ck A tg R ρ s l H) NoE s
 range:∀ {A:Around} {d:Nat} {R:RM} {ρ:List Addr} {s:Shared} {H:AH} {args l:List AV} {vs:List Value} (tg:Expr),aI A d→ag R ρ H s.heap→ai R ρ args vs→dZ args=some l →
  wpAny X.M A (call (.type "range") vs) (fun cx s₁=>wpAny X.M A (pyIter cx) (ck A tg R ρ s l H) NoE s₁) NoE s
 enum:∀ {A:Around} {d:Nat} {R:RM} {ρ:List Addr} {s:Shared} {H:AH} {l:List AV} {cx:Value} {elts:List Expr} {k:Nat} {p:Pos},aI A d→ag R ρ H s.heap→Rel R ρ (.lst l) cx →
  wpAny X.M A (call (.type "enumerate") [cx]) (fun cx s₁=>wpAny X.M A (pyIter cx) (ck A (.Tuple elts k p) R ρ s (mn 0 l) H) NoE s₁) NoE s
 zip:∀ {A:Around} {d:Nat} {R:RM} {ρ:List Addr} {s:Shared} {H:AH} {l r:List AV} {cx cy:Value} {elts:List Expr} {k:Nat} {p:Pos},aI A d→ag R ρ H s.heap→Rel R ρ (.lst l) cx→Rel R ρ (.lst r) cy→l.length=r.length →
  wpAny X.M A (call (.type "zip") [cx,cy]) (fun cx s₁=>wpAny X.M A (pyIter cx) (ck A (.Tuple elts k p) R ρ s ((l.zip r).map fun p => .tup [p.1,p.2]) H) NoE s₁) NoE s
 lrange:∀ {A:Around} {d:Nat} {R:RM} {ρ:List Addr} {s:Shared} {H:AH} {args l:List AV} {vs:List Value},aI A d→ag R ρ H s.heap→ai R ρ args vs→dZ args=some l →
  wpAny X.M A (call (.type "range") vs) (fun cx s₁=>wpAny X.M A (call (.type "list") [cx]) (b5 R ρ s (.lst l) H) NoE s₁) NoE s
 unpk:∀ {A:Around} {d:Nat} {R:RM} {ρ:List Addr} {s:Shared} {H:AH} {a:AV} {cv:Value},aI A d→ag R ρ H s.heap→Rel R ρ (.set [a]) cv→EvP A (unpackItems cv 1 none) R ρ s [a] ai H
 apnd:∀ {A:Around} {d:Nat} {s:Shared} {a:Addr} {vs:List Value} {n:Nat} {v:Value} {Q:Value→Shared→Prop},aI A d→s.heap.get? a=some (aN vs n)→vs.length<1000000→(∀ h' n',h'.get? a=some (aN (vs++[v]) n')→(∀ b o,b≠a→s.heap.get? b=some o→h'.get? b=some o)→Q .none { s with heap:=h' })→wpAny X.M A (call (.builtin "list.append") [.ref a,v]) Q NoE s
theorem noE {α:Type} {M:Model} {A:Around} {E:Value→Shared→Prop} {t:Sem α} {Q:α→Shared→Prop} {s:Shared} (h:wpAny M A t Q NoE s):wpAny M A t Q E s:=Kq h (fun _ _ q=>q) fun _ _ e=>e.elim
section
variable {C:ae} {d:Nat} {s:Sc} {A:Around} {O:Addr→Prop} {R R':RM} {ρ ρ':List Addr} {st st':Shared} {H H' H₁:AH} {env:Env} {V:VM}
theorem dx {n:Str} {ns:List Str}:∀ {i:Nat},CR n ns=some i→ns[i]?=some n:=by
 induction ns with
 |nil=>exact fun h=>by cases h
 |cons m r ih =>
  intro i h
  unfold CR at h
  by_cases q:m=n
  ·rw [if_pos q] at h;cases h;exact congrArg some q
  ·rw [if_neg q] at h
   obtain⟨j,hj,rfl⟩:=Option.map_eq_some_iff.mp h
   exact ih hj
theorem i5 {s:Sc} {e:Expr} {r:List Expr} {is:List Nat} {G:Prop} (h:gi s (e::r)=some is) (k:∀ x p i is',e = .Name x p→s.slot x=some i→gi s r=some is'→is=i::is'→G):G :=
 ob h fun x _ h=>ob h fun i hi h=>ob h fun is' h' h=>k _ _ i is' x.2 hi h' (KY h).symm
theorem uz {s:Sc} {e:Expr} {t:Tgt} {G:Prop} (h:cT s e=some t) (k1:∀ x i,s.slot x.1.1=some i→t = .name i→fI e=some x→G) (k2:∀ es is,gi s es.1.1=some is→t = .tup is→fI e=none→fJ e=some es→G):G:=by
 unfold cT at h
 cases q:fI e with
 |some x=>rw [q] at h;exact ob h fun i hi h=>k1 x i hi (KY h).symm q
 |none=>rw [q] at h;exact ob h fun es h1 h=>ob h fun is h2 h=>k2 es is h2 (KY h).symm q h1
theorem zW {α β:Type} {a:α} {l:List α} {r:List β} {G:Prop} (h:(a::l).length=r.length) (k:∀ b r',r=b::r'→l.length=r'.length→G):G:=by
 cases r with
 |nil=>cases h
 |cons b r'=>exact k b r' rfl (Nat.succ.inj h)
theorem sj {ns:List Str} {Q:Unit→Shared→Prop} (es:List Expr):∀ {is:List Nat} {l:List AV} {vs:List Value} {V:VM} {st:Shared},gi ⟨ns,s.kinds,s.glob⟩ es=some is→is.length=l.length→ai R ρ l vs→dM O ns env V R ρ st.heap→ag R ρ H st.heap →
  (∀ i∈is,∀ x,ns[i]?=some x→eS O env x) →
  (∀ st',Mv O R ρ st R ρ st'→ag R ρ H st'.heap→dM O ns env ((is.zip l).foldl (fun V p=>V.set p.1 (some p.2)) V) R ρ st'.heap→Q () st')→wpAny X.M A (assignInOrder ((assignEach es env).map (·.2)) vs) Q NoE st:=by
 induction es with
 |nil =>
  intro is l vs V st hc hlen hr he hg _ hq
  cases hc
  cases l with
  |nil=>exact JZ (hq st (Mv.refl st) hg he)
  |cons a l=>cases hlen
 |cons e r ih =>
  intro is l vs V st hc hlen hr he hg hs hq
  refine i5 hc fun x p i is' h1 hi his h2 => ?_
  subst h1 h2
  refine zW hlen fun a l' h3 hlen' => ?_
  subst h3
  obtain⟨v,ws,rfl,hv,hws⟩:=hr
  have hx:ns[i]?=some x:=dx hi
  exact JX (JY (wpAny_assign_Name (he.store hg hx (hs i (.head _) x hx) hv fun st' m g e' =>
   ih his hlen' hws e' g (fun j hj y hy=>hs j (.tail _ hj) y hy) fun st'' m' g' e''=>hq st'' (m.trans m') g' e'')))
end
noncomputable def bI (env:Env):List (Str×NameKind)→List (Str×Addr)→List (Str×Addr)
 |[],acc=>acc
 |(n,k)::r,acc=>bI env r (if k == .free then (n,(env.cells.lookup n).getD 0)::acc else acc)
theorem iE {env:Env} {n:Str}:∀ (names:List (Str×NameKind)) (acc:List (Str×Addr)),(∀ k,(n,k)∈names→k ≠ .free)→(bI env names acc).lookup n=acc.lookup n
 |[],_,_=>rfl
 |(m,k)::r,acc,h=>by
  rewrite [bI];refine rT (iE r _ fun k' hk'=>h k' (.tail _ hk')) ?_
  split
  ·rename_i hk
   have:(n==m)=false:=by
    refine rP beq_eq_false_iff_ne ?_;rintro rfl;exact h k (.head _) (by simpa using hk)
   refine rT List.lookup_cons ?_;exact rT this rfl
  ·rfl
theorem ln {env:Env} {n:Str} {c:Addr} (hc:env.cells.lookup n=some c):∀ (names:List (Str×NameKind)) (acc:List (Str×Addr)),(names.map (·.1)).Nodup→(n,.free)∈names→(bI env names acc).lookup n=some c
 |(m,k)::r,acc,nd,h=>by
  rw [List.map_cons,List.nodup_cons] at nd
  rw [bI]
  rcases KJ.mp h with e|h
  ·cases e
   refine rT (iE r _ fun k' hk'=>absurd (List.mem_map.mpr ⟨_,hk',rfl⟩) nd.1) ?_
   simp [hc]
  ·exact ln hc r _ nd.2 h
theorem C3 {env:Env} (f:Str×NameKind→List (Str×Addr)→Sem (ForInStep (List (Str×Addr)))) (hf:∀ n k cs,f (n,k) cs=if k == .free then (do let a ← cellOf env n;pure (.yield ((n,a)::cs))) else pure (.yield cs)) :
  ∀ (names:List (Str×NameKind)) (acc:List (Str×Addr)),(∀ p∈names,p.2 = .free→(env.cells.lookup p.1).isSome=true)→forIn names acc f=pure (bI env names acc):=by
 intro names
 induction names with
 |nil=>intro acc _;rfl
 |cons p r ih =>
  intro acc hp
  obtain⟨n,k⟩:=p
  refine rT (List.forIn_cons ..) ?_;rewrite [bI];refine rT (hf ..) ?_
  by_cases hk:k = .free
  ·subst hk
   have:=hp (n,.free) (.head _) rfl
   obtain⟨c,hc⟩:=Option.isSome_iff_exists.mp this
   simp only [beq_self_eq_true,if_true,cellOf,hc,Option.getD_some]
   exact ih _ fun q hq=>hp q (.tail _ hq)
  ·have:(k==NameKind.free)=false:=by simpa using hk
   simp only [this,Bool.false_eq_true,if_false]
   exact ih _ fun q hq=>hp q (.tail _ hq)
theorem oO {env:Env} (scope:Scope) (h:∀ p∈scope.names,p.2 = .free→(env.cells.lookup p.1).isSome=true):closureFor scope env=pure (bI env scope.names []):=by
 unfold closureFor
 dsimp only
 refine rT (C3 (env:=env) _ (fun n k cs=>rfl) scope.names [] h) ?_
 rfl
theorem aO:∀ (names:List (Str×NameKind)) (n:Nat) (acc:List (Str×Addr)),cellsFrom n names acc=cellsFrom n names []++acc
 |[],_,_=>rfl
 |(m,k)::r,n,acc=>by
  unfold cellsFrom
  split
  ·refine rT (aO r (n+1) ((m,n)::acc)) ?_;refine rT (aO r (n+1) [(m,n)]) ?_;refine rT (List.append_assoc ..) ?_;rfl
  ·exact aO r n acc
theorem bG:∀ (names:List (Str×NameKind)) (n:Nat) {x:Str} {c:Addr},(x,c)∈cellsFrom n names []→(x,.cell)∈names∧n≤c
 |[],_,_,_,h=>by simp [cellsFrom] at h
 |(m,k)::r,n,x,c,h=>by
  unfold cellsFrom at h
  split at h
  ·rename_i hk
   rw [aO] at h
   rcases List.mem_append.mp h with h|h
   ·obtain⟨a,b⟩:=bG r (n+1) h;exact⟨.tail _ a,Nat.le_of_succ_le b⟩
   ·rw [List.mem_singleton] at h;cases h
    have:k = .cell:=by simpa using hk
    subst this
    exact⟨.head _,KX _⟩
  ·obtain⟨a,b⟩:=bG r n h;exact⟨.tail _ a,b⟩
theorem bH:∀ (names:List (Str×NameKind)) (n:Nat) {x:Str},(x,.cell)∈names→∃ c,(x,c)∈cellsFrom n names []
 |(m,k)::r,n,x,h=>by
  unfold cellsFrom
  rcases KJ.mp h with e|h
  ·cases e
   refine rT (if_pos (by rfl)) ?_;refine rT (aO ..) ?_
   exact⟨n,List.mem_append.mpr (.inr (by simp))⟩
  ·split
   ·refine rT (aO ..) ?_
    obtain⟨c,hc⟩:=bH r (n+1) h
    exact⟨c,List.mem_append.mpr (.inl hc)⟩
   ·exact bH r n h
theorem b7 {α:Type} {x:Str}:∀ {l:List (Str×α)} {c:α},(x,c)∈l→∃ c',l.lookup x=some c'
 |(y,d)::r,c,h=>by
  refine rT List.lookup_cons ?_
  cases q:x==y with
  |true=>exact⟨d,rfl⟩
  |false =>
   rcases KJ.mp h with e|h
   ·cases e;simp at q
   ·exact b7 h
theorem dn {α:Type} {x:Str}:∀ {l r:List (Str×α)},(l++r).lookup x=(l.lookup x).or (r.lookup x)
 |[],r=>by simp
 |(y,d)::l,r=>by
  refine rT List.cons_append ?_;refine rT List.lookup_cons ?_;refine rT List.lookup_cons ?_
  cases q:x==y with
  |true=>rfl
  |false=>exact dn
theorem mz {α:Type} {x:Str} {l:List (Str×α)} (h:∀ c,(x,c)∉l):l.lookup x=none:=by
 cases e:l.lookup x with
 |none=>rfl
 |some c=>exact absurd (mem_of_lookup e) (h c)
theorem bz {α:Type} {x:Str} {k:α}:∀ {l:List (Str×α)},(l.map (·.1)).Nodup→(x,k)∈l→l.lookup x=some k
 |(y,d)::r,nd,h=>by
  rw [List.map_cons,List.nodup_cons] at nd
  refine rT List.lookup_cons ?_
  rcases KJ.mp h with e|h'
  ·cases e;simp
  ·have:(x==y)=false:=by
    refine rP beq_eq_false_iff_ne ?_
    intro q
    exact nd.1 (List.mem_map.mpr ⟨(x,k),h',q⟩)
   refine rT this ?_;exact bz nd.2 h'
theorem gn {env:Env} {scope:Scope} {x:Str} {k:NameKind} (nd:(scope.names.map (·.1)).Nodup) (h:(x,k)∈scope.names) :
  (relabel scope env).names.lookup x=some (if (k == .free&&env.scope.kind == .function&&env.kindOf x==some .cell) then .cell else k):=by
 have hf:∀ l:List (Str×NameKind),(l.map fun p:Str×NameKind=>if (p.2 == .free&&env.scope.kind == .function&&env.kindOf p.1==some .cell) then (p.1,NameKind.cell) else (p.1,p.2)).map (·.1)=l.map (·.1):=by
  intro l
  induction l with
  |nil=>rfl
  |cons p r ih =>
   rw [List.map_cons,List.map_cons,List.map_cons,ih]
   congr 1
   split<;>rfl
 refine (?_:((scope.names.map fun p:Str×NameKind=>if (p.2 == .free&&env.scope.kind == .function&&env.kindOf p.1==some .cell) then (p.1,NameKind.cell) else (p.1,p.2))).lookup x=_)
 apply bz
 ·refine rT (hf ..) ?_;exact nd
 ·refine List.mem_map.mpr ⟨_,h,?_⟩
  dsimp only
  split<;>rfl
theorem iw {M:Model} {A:Around} {E:Value→Shared→Prop} {s:Shared} {scope:Scope} {globals:Addr} {cl:List (Str×Addr)} {qual:Str} {env:Env} {Q:Env→Shared→Prop}
  (h:Q (newEnv scope s.heap.objs.size globals (cellsFrom (s.heap.objs.size+1) scope.names cl) qual none .none (some env) builtinsNs) { s with heap:=pushCells (s.heap.push { cls := .type "dict",data := .dict #[] }) scope.names }) :
  wpAny M A (newFunctionEnv scope globals cl [] qual none .none (some env)) Q E s:=by
 refine JX (wpAny_alloc ?_)
 refine JX (wpAny_layCells _ (fun name kind cells=>by dsimp only) scope.names cl _ _ ?_)
 dsimp only
 refine rT (Heap.size_push ..) ?_
 refine JX ?_
 refine rT List.forIn_nil ?_
 exact JZ (JZ h)
theorem gp {names:List (Str×NameKind)} {x:Str} (h:x∈b9 names):∃ k,(x,k)∈names∧(k = .local∨k = .cell∨k = .free):=by
 unfold b9 at h
 obtain⟨p,hp,rfl⟩:=Kg.mp h
 obtain⟨h1,h2⟩:=List.mem_filter.mp hp
 refine⟨p.2,h1,?_⟩
 simpa [or_assoc] using h2
theorem lp {names:List (Str×NameKind)} (h:(names.map (·.1)).Nodup):(b9 names).Nodup :=
 List.Nodup.sublist (List.Sublist.map _ List.filter_sublist) h
theorem mA {s:Sc} {V:VM} {names:List (Str×NameKind)} {i:Nat} {x:Str} {av:AV} (hx:(b9 names)[i]?=some x) (hv:(dB V (cJ s names))[i]?=some (some av)) :
  (x,.free)∈names∧∃ j:Nat,s.slot x=some j∧V[j]?=some (some av):=by
 unfold b9 at hx
 unfold dB cJ at hv
 rw [List.getElem?_map] at hx hv
 rw [List.getElem?_map] at hv
 obtain⟨p,hp,rfl⟩:=Option.map_eq_some_iff.mp hx
 rw [hp] at hv
 simp only [Option.map_some,Option.some.injEq] at hv
 have hm:=(List.mem_filter.mp (KV hp)).1
 obtain⟨n,k⟩:=p
 dsimp only at hv ⊢
 by_cases hk:k = .free
 ·subst hk
  simp only [beq_self_eq_true,if_true] at hv
  cases hj:s.slot n with
  |none=>rw [hj] at hv;cases hv
  |some j =>
   rw [hj] at hv
   exact⟨hm,j,rfl,by simpa [Option.join_eq_some_iff] using hv⟩
 ·have:(k==NameKind.free)=false:=by simpa using hk
  rw [this] at hv
  simp at hv
section
variable {d:Nat} {s:Sc} {A:Around} {O:Addr→Prop} {R:RM} {ρ:List Addr} {st:Shared} {H:AH} {env:Env} {V:VM} {sc:Scope}
structure cM (s:Sc) (sc:Scope):Prop where
 kind:sc.kind = .function
 nd:(sc.names.map (·.1)).Nodup
 free:∀ x,(x,.free)∈sc.names→(∃ j,s.slot x=some j)∧(s.kinds.lookup x=some .cell∨s.kinds.lookup x=some .free)
theorem kq (h:mq s sc=true):cM s sc:=by
 unfold mq at h
 simp only [Bool.and_eq_true,decide_eq_true_eq,List.all_eq_true,Bool.or_eq_true,bne_iff_ne,ne_eq,beq_iff_eq] at h
 obtain⟨⟨h1,h2⟩,h3⟩:=h
 refine⟨h1,h2,fun x hx => ?_⟩
 rcases h3 _ hx with q|⟨q1,q2⟩
 ·exact absurd rfl q
 ·exact⟨Option.isSome_iff_exists.mp q1,q2⟩
inductive C4 (s:Sc) (env:Env) (V:VM) (R:RM) (ρ:List Addr) (h:Heap) (x:Str):Prop
 |mk:env.kindOf x=some .cell→∀ (c:Addr) (cv:Option Value),env.cells.lookup x=some c→h.IsCell c cv→c≠env.locals→c∉ρ→∀ j:Nat,s.slot x=some j→s.slots[j]?=some x→(∀ av,V[j]?=some (some av)→CS R ρ cv av)→C4 s env V R ρ h x
theorem C4.kind {h:Heap} {x:Str}:C4 s env V R ρ h x→env.kindOf x=some .cell
 |.mk k ..=>k
theorem At.cellOf (at0:At d s A O env V R ρ H st) (hc:cM s sc) {x:Str} (hx:(x,.free)∈sc.names):C4 s env V R ρ st.heap x:=by
 obtain⟨⟨j,hj⟩,hk⟩:=hc.free x hx
 have hs:s.slots[j]?=some x:=dx hj
 have hk':=at0.sc.c x hk
 obtain⟨c,cv,h1,h2,h3,h4,h5⟩:=at0.e.cell x (KV hs) hk'
 exact⟨hk',c,cv,h1,h2,h3,h4,j,hj,hs,fun av=>h5 j av hs⟩
noncomputable def aE (sc:Scope) (C:Addr) (env:Env):Env :=
 { newEnv sc C env.globals (cellsFrom (C+1) sc.names (bI env sc.names [])) env.qual none .none (some env) builtinsNs with scope:=relabel sc env }
noncomputable def aU (sc:Scope) (C:Addr):Addr→Prop:=fun a=>a=C∨∃ n,(n,a)∈cellsFrom (C+1) sc.names []
theorem zX (at0:At d s A O env V R ρ H st) (hc:cM s sc) {h0:Heap} (hk:cD st.heap h0) (hsz:st.heap.objs.size≤h0.objs.size) {tk:Nat} :
  let C:=h0.objs.size
  let h1:=pushCells (h0.push { cls := .type "dict",data := .dict #[] }) sc.names
  At d (aM s sc) A (aU sc C) (aE sc C env) (dB V (cJ s sc.names)) R ρ H { st with heap:=h1,toks:=tk }∧(cD h0 h1)∧(∀ a,aU sc C a→h0.get? a=none∧h0.objs.size≤a)∧h1.Ns C (fun _=>none):=by
 intro C h1
 have keep:cD h0 h1:=fun b o e=>pushCells_keeps _ _ b o (Kx _ e)
 have keep0:cD st.heap h1:=fun b o e=>keep b o (hk b o e)
 have ok:=cellsFrom_ok sc.names (h0.push { cls := .type "dict",data := .dict #[] }) (C+1) [] ⟨fun _ _ h=>(by cases h),List.Pairwise.nil⟩ (by refine rT (Heap.size_push ..) ?_;exact KX _)
 rw [Heap.size_push] at ok
 have hC:h1.get? C=some { cls := .type "dict",data := .dict #[] }:=pushCells_keeps _ _ _ _ (Kj _ rfl)
 have hge:∀ a,aU sc C a→C≤a:=fun a ha=>by
  rcases ha with rfl|⟨n,hn⟩
  ·exact KX _
  ·exact Nat.le_of_succ_le (bG _ _ hn).2
 have none0:∀ a,C≤a→h0.get? a=none:=fun a ha=>by
  cases e:h0.get? a with
  |none=>rfl
  |some o=>exact absurd (Kw e) (Nat.not_lt.mpr ha)
 have noneSt:∀ a,C≤a→st.heap.get? a=none:=fun a ha=>by
  cases e:st.heap.get? a with
  |none=>rfl
  |some o=>exact absurd (hk a o e) (by refine rT (none0 a ha) ?_;exact fun z=>by cases z)
 have hns:h1.Ns C (fun _=>none):=⟨_,#[],0,hC,rfl,fun e he=>by simp at he,fun _=>rfl⟩
 have kindOf:∀ x k,(x,k)∈sc.names→(aE sc C env).kindOf x=some (if k = .free then .cell else k):=fun x k hx=>by
  refine (?_:(relabel sc env).names.lookup x=_)
  refine rT (gn hc.nd hx) ?_
  by_cases hk:k = .free
  ·subst hk
   have:=(at0.cellOf hc hx).kind
   simp [this,at0.e.kind]
  ·have:(k==NameKind.free)=false:=by simpa using hk
   simp [this,hk]
 have uniq:∀ x k k',(x,k)∈sc.names→(x,k')∈sc.names→k=k':=fun x k k' h h'=>by
  have a:=bz hc.nd h
  have b:=bz hc.nd h'
  rw [a] at b;cases b;rfl
 have cellsEq:(aE sc C env).cells=cellsFrom (C+1) sc.names []++bI env sc.names []:=aO _ _ _
 have cellFree:∀ x c,(x,.free)∈sc.names→env.cells.lookup x=some c→(aE sc C env).cells.lookup x=some c:=fun x c hx hcc=>by
  refine rT cellsEq ?_;refine rT dn ?_;refine rT (mz fun c' hm=>by have:=(bG _ _ hm).1;exact absurd (uniq x _ _ this hx) (by simp)) ?_;refine rT (ln hcc _ _ hc.nd hx) ?_
  rfl
 have cellOwn:∀ x,(x,.cell)∈sc.names→∃ c,(aE sc C env).cells.lookup x=some c∧(x,c)∈cellsFrom (C+1) sc.names []:=fun x hx=>by
  obtain⟨c,hcm⟩:=bH sc.names (C+1) hx
  obtain⟨c',hc'⟩:=b7 hcm
  refine⟨c',?_,mem_of_lookup hc'⟩
  refine rT cellsEq ?_;refine rT dn ?_;refine rT hc' ?_
  rfl
 have kindCell:∀ x∈b9 sc.names,(aE sc C env).kindOf x=some .cell→(x,.cell)∈sc.names∨(x,.free)∈sc.names:=fun x hx hk=>by
  obtain⟨k,hm,hkk⟩:=gp hx
  rw [kindOf x k hm] at hk
  rcases hkk with rfl|rfl|rfl
  ·simp at hk
  ·exact .inl hm
  ·exact .inr hm
 refine⟨⟨at0.room,⟨fun n hn => ?_,fun n hn => ?_⟩,?_,?_⟩,keep,fun a ha=>⟨none0 a (hge a ha),hge a ha⟩,hns⟩
 ·have:=kindOf n _ (mem_of_lookup hn)
  exact this
 ·rcases hn with hn|hn
  ·have:=kindOf n _ (mem_of_lookup hn);exact this
  ·have:=kindOf n _ (mem_of_lookup hn);exact this
 ·refine⟨hc.kind,at0.e.glob,at0.e.blt,at0.e.code,?_,lp hc.nd,fun x hx => ?_,.inl rfl,fun a ha=>at0.g.none_of_new (noneSt a (hge a ha)),fun a ha=>at0.g.not_mem_new (noneSt a (hge a ha)),fun a ha => ?_,⟨_,hns,fun i x av h1 h2 h3 => ?_⟩,fun x hx hkx => ?_,fun x y c hx hy kx ky lx ly => ?_⟩
  ·simp [dB,cJ,b9,aM]
  ·obtain⟨k,hm,hkk⟩:=gp hx
   refine rT (kindOf x k hm) ?_
   rcases hkk with rfl|rfl|rfl<;>simp
  ·rcases ha with rfl|⟨n,hn⟩
   ·exact nn hC
   ·obtain⟨o,ho,_⟩:=(ok.empty n a hn).1
    refine (?_:h1.get? a≠none)
    have ho':h1.get? a=some o:=ho
    exact nn ho'
  ·obtain⟨hf,_⟩:=mA (s:=s) h1 h2
   rw [kindOf x _ hf] at h3
   simp at h3
  ·rcases kindCell x hx hkx with hm|hm
   ·obtain⟨c,hcl,hcm⟩:=cellOwn x hm
    refine⟨c,none,hcl,(ok.empty x c hcm).1,?_,at0.g.not_mem_new (noneSt c (hge c (.inr ⟨x,hcm⟩))),fun i av a b => ?_⟩
    ·refine (?_:c≠C)
     intro z
     have:=(bG _ _ hcm).2
     rw [z] at this
     exact Nat.not_succ_le_self _ this
    ·obtain⟨hf,_⟩:=mA (s:=s) a b
     exact absurd (uniq x _ _ hm hf) (by simp)
   ·obtain⟨_,c,cv,q1,⟨o,q2,q2'⟩,q3,q4,j,q5,q6,q7⟩:=at0.cellOf hc hm
    refine⟨c,cv,cellFree x c hm q1,⟨o,keep0 c o q2,q2'⟩,?_,q4,fun i av a b => ?_⟩
    ·refine (?_:c≠C)
     intro z
     have:=none0 C (KX _)
     have hh:=hk c o q2
     rw [z,this] at hh;cases hh
    ·obtain⟨_,j',h1,h2⟩:=mA (s:=s) a b
     rw [q5] at h1;cases h1
     exact q7 av h2
  ·rcases kindCell x hx kx with hmx|hmx<;>rcases kindCell y hy ky with hmy|hmy
   ·obtain⟨c1,l1,m1⟩:=cellOwn x hmx
    obtain⟨c2,l2,m2⟩:=cellOwn y hmy
    rw [l1] at lx;rw [l2] at ly;cases lx;cases ly
    exact name_of_addr ok.apart m1 m2
   ·obtain⟨c1,l1,m1⟩:=cellOwn x hmx
    obtain⟨_,c2,cv,q1,⟨o,q2,_⟩,_⟩:=at0.cellOf hc hmy
    rw [l1] at lx;rw [cellFree y c2 hmy q1] at ly;cases lx;cases ly
    have:=noneSt c (hge c (.inr ⟨x,m1⟩))
    rw [this] at q2;cases q2
   ·obtain⟨c1,l1,m1⟩:=cellOwn y hmy
    obtain⟨_,c2,cv,q1,⟨o,q2,_⟩,_⟩:=at0.cellOf hc hmx
    rw [l1] at ly;rw [cellFree x c2 hmx q1] at lx;cases lx;cases ly
    have:=noneSt c (hge c (.inr ⟨y,m1⟩))
    rw [this] at q2;cases q2
   ·obtain⟨k1,c1,cv1,q1,_,_,_,j1,_,q6,_⟩:=at0.cellOf hc hmx
    obtain⟨k2,c2,cv2,p1,_,_,_,j2,_,p6,_⟩:=at0.cellOf hc hmy
    rw [cellFree x c1 hmx q1] at lx;rw [cellFree y c2 hmy p1] at ly;cases lx;cases ly
    exact at0.e.dist x y c (KV q6) (KV p6) k1 k2 q1 p1
 ·exact at0.g.grow keep0
end
noncomputable def gq:Tgt→List Nat
 |.name i=>[i]
 |.tup l=>l
section
variable {C:ae} {d:Nat} {s:Sc} {A:Around} {O:Addr→Prop} {R R':RM} {ρ ρ':List Addr} {st st':Shared} {H H' H₁:AH} {env:Env} {V V':VM}
theorem ku {es:List Expr}:∀ {is:List Nat},gi s es=some is→(assignEach es env).findIdx? (·.1)=none∧(assignEach es env).length=is.length:=by
 induction es with
 |nil=>intro is h;cases h;exact⟨rfl,rfl⟩
 |cons e r ih =>
  intro is h
  refine i5 h fun x p i is' h1 _ his h2 => ?_
  subst h1 h2
  obtain⟨a,b⟩:=ih his
  refine⟨?_,congrArg Nat.succ b⟩
  refine rT List.findIdx?_cons ?_;refine rT a ?_;rfl
theorem xy (p2:bM) {a:AV} {v:Value} {l:List AV} {n:Nat} (room:aI A d) (hg:ag R ρ H st.heap) (ha:a = .tup l∨∃ b,a = .set [b]∧l=[b]) (hn:n=l.length) (hr:Rel R ρ a v):EvP A (unpackItems v n none) R ρ st l ai H:=by
 subst hn
 rcases ha with rfl|⟨b,rfl,rfl⟩
 ·obtain⟨t,vs,n,rfl,hR,hvs⟩:=hr
  refine rT (show l.length=vs.toArray.size from hvs.length.symm) ?_
  refine wpAny_unpackItems_tuple room.h ⟨_,hg.froz _ _ hR,rfl,n,rfl⟩ fun h' hx => ?_
  have k:cD st.heap h':=fun b o e=>hx b o (Lq (Kw e)) e
  exact⟨R,ρ,Mv.grow (tk:=st.toks) k,hg.grow k,hvs⟩
 ·exact p2.unpk room hg hr
theorem fN (p2:bM) {t:Tgt} {e:Expr} {a:AV} {v:Value} {Q:Unit→Shared→Prop} (hc:cT s e=some t) (room:aI A d) (he:dM O s.slots env V R ρ st.heap) (hg:ag R ρ H st.heap)
  (hs:∀ i∈gq t,∀ x,s.slots[i]?=some x→eS O env x) (hb:gg V t a=some V') (hr:Rel R ρ a v)
  (h:∀ R' ρ' st',Mv O R ρ st R' ρ' st'→ag R' ρ' H st'.heap→dM O s.slots env V' R' ρ' st'.heap→Q () st'):wpAny X.M A (assign e env v) Q NoE st :=
 uz hc (fun x i hi ht _=>by
  subst ht
  refine rT x.2 ?_
  have hx:=dx hi
  exact wpAny_assign_Name (he.store hg hx (hs i (.head _) _ hx) hr fun st' m g e'=>h R ρ st' m g (KY hb▸e')))
 fun x is his ht _ _=>by
  subst ht
  refine ob hb fun l _ hb=>oi hb fun hlen hV => ?_
  refine rT x.2 ?_
  obtain⟨hf,hl⟩:=ku (env:=env) his
  refine JX (wpAny_standAt ?_)
  unfold unpack
  refine rT hf ?_;refine rT hl ?_
  exact JX (JY ((xy p2 room hg l.2 hlen hr).wp fun R' ρ' vs st' m g r =>
   sj (s:=s) (ns:=s.slots) x.1.1 his hlen r (he.mv m) g hs fun st'' m' g' e'=>h R' ρ' st'' (m.up.trans m') g' (KY hV▸e')))
noncomputable def iF (env:Env) (l:List Expr) (b:Bool):Sem Bool:=forIn l b fun c r=>if r=true then do let ok ← isTrue c env (eval c env);pure (ForInStep.yield ok) else pure (ForInStep.yield r)
noncomputable def oP (C:ae) (d:Nat) (s:Sc) (l:List Expr) (x:XL):Prop :=
 ∀ A O env V R ρ H st r,At d s A O env V R ρ H st→bU C x V H=some r→EvP A (iF env l true) R ρ st r.1 (fun _ _ a c=>c=a) r.2
theorem pI {M:Model} {A:Around} {E:Value→Shared→Prop} {s:Shared} {env:Env} {b:Bool} {Q:Bool→Shared→Prop} (h:Q b s):wpAny M A (iF env [] b) Q E s:=by
 unfold iF;refine rT List.forIn_nil ?_;exact JZ h
theorem sk:oP C d s [] .nil:=fun _ _ _ _ _ _ _ _ _ a0 h=>oj h (pI (EvP.mk a0.g rfl))
theorem lr {M:Model} {A:Around} {E:Value→Shared→Prop} {s:Shared} {env:Env} {Q:Bool→Shared→Prop} (h:Q false s):∀ l:List Expr,wpAny M A (iF env l false) Q E s
 |[]=>pI h
 |e::r=>by
  unfold iF;refine rT (List.forIn_cons ..) ?_
  exact JX (JZ (lr h r))
theorem uA {M:Model} {A:Around} {E:Value→Shared→Prop} {s:Shared} {env:Env} {e:Expr} {r:List Expr} {Q:Bool→Shared→Prop} (h:wpAny M A (isTrue e env (eval e env)) (fun b s'=>wpAny M A (iF env r b) Q E s') E s):wpAny M A (iF env (e::r) true) Q E s:=by
 unfold iF;refine rT (List.forIn_cons ..) ?_
 exact JX (JX (Kq h (fun _ _ h=>JZ h) fun _ _ e=>e))
theorem xz {e:Expr} {r:List Expr} {xe:X'} {xr:XL} (ht:iZ C d s e xe) (hr:oP C d s r xr):oP C d s (e::r) (.cons xe xr):=fun _ _ _ _ _ _ _ _ _ a0 h =>
 ob h fun p h1 h=>uA ((ht _ _ _ _ _ _ _ _ _ a0 h1).wp fun R1 ρ1 c s1 m1 g1 r1=>by
  obtain⟨b,H1⟩:=p
  cases (show c=b from r1)
  cases c with
  |true=>exact m1.evP (hr _ _ _ _ _ _ _ _ _ (a0.mv m1 g1) h)
  |false=>exact oj h (lr ⟨R1,ρ1,m1,g1,rfl⟩ r))
end
noncomputable abbrev GX (D:Addr) (h h':Heap):Prop:=∀ b o,b≠D→h.get? b=some o→h'.get? b=some o
structure eG (A:Around) (app:Value→Sem Value) (D:Addr) (ok:AV→Bool) (AC:List AV→RM→List Addr→Heap→Prop):Prop where
 stable:∀ acc (R:RM) (ρ:List Addr) h (R':RM) (ρ':List Addr) h',AC acc R ρ h→mu R R'→oL ρ ρ'→(∀ o,h.get? D=some o→h'.get? D=some o)→AC acc R' ρ' h'
 live:∀ acc (R:RM) (ρ:List Addr) h,AC acc R ρ h→h.get? D≠none
 add:∀ acc a v (R:RM) (ρ:List Addr) (s:Shared) (Q:Shared→Prop),AC acc R ρ s.heap→acc.length<1000→ok a=true→Rel R ρ a v→(∀ h' tk,AC (acc++[a]) R ρ h'→GX D s.heap h'→Q { s with heap:=h',toks:=tk })→wpAny X.M A (app v) (fun _ s'=>Q s') NoE s
noncomputable def zY (M:Model) (A:Around) (tg elt:Expr) (ifs:List Expr) (it:Value) (env:Env) (app:Value→Sem Value) (P:Shared→Prop) (s:Shared):Prop :=
 wpAny M A (pyNext it) (fun r s₁=>∃ v,r=some v∧wpAny M A (letOwnedTupleGo tg it v) (fun _ s₁'=>wpAny M A (assign tg env v) (fun _ s₂ =>
  wpAny M A (iF env ifs true) (fun ok s₃=>(ok=true→wpAny M A (eval elt env) (fun x s₄=>wpAny M A (app x) (fun _ s₅=>P s₅) NoE s₄) NoE s₃)∧(ok=false→P s₃)) NoE s₂) NoE s₁') NoE s₁) NoE s
theorem GY {R R':RM} {ρ ρ':List Addr} {s s':Shared} {P:Addr→Prop} (m:Mv P R ρ s R' ρ' s') {b:Addr} (hb:s.heap.get? b≠none) (h1:R b=none) (h2:b∉ρ):R' b=none∧b∉ρ':=by
 refine⟨?_,fun hm=>(m.sub hm).elim h2 hb⟩
 cases q:R' b with
 |none=>rfl
 |some o=>exact (m.rn b o q).elim (fun h=>by rw [h1] at h;cases h) fun h=>absurd h hb
theorem dw.mv {Fp:List Addr} {R R':RM} {ρ ρ':List Addr} {s s':Shared} {P:Addr→Prop} (m:Mv P R ρ s R' ρ' s') (h:dw Fp R ρ s.heap):dw Fp R' ρ' s'.heap:=fun b hb =>
 have q:=GY m (h b hb).2.2 (h b hb).1 (h b hb).2.1
 ⟨q.1,q.2,m.live b (h b hb).2.2⟩
section
variable {C:ae} {d:Nat} {s:Sc} {A:Around} {O:Addr→Prop}
structure Ap (Fp:List Addr) (St:RM→List Addr→Heap→Prop) (D:Addr) (AC:RM→List Addr→Heap→Prop) (R:RM) (ρ:List Addr) (h:Heap):Prop where
 st:St R ρ h
 fr:dw Fp R ρ h
 ac:AC R ρ h
 rd:R D=none
 dp:D∉ρ
section
variable {tg:Expr} {it:Value} {Fp:List Addr} {St:Nat→RM→List Addr→Heap→Prop} {D:Addr} {app:Value→Sem Value} {okv:AV→Bool} {AC:List AV→RM→List Addr→Heap→Prop} {l:List AV} {i:Nat} {acc:List AV} {R R':RM} {ρ ρ':List Addr} {s s':Shared} {P:Addr→Prop}
theorem Ap.mv' {St':RM→List Addr→Heap→Prop} (G:eG A app D okv AC) (m:Mv P R ρ s R' ρ' s') (hD:¬ P D) (h:St' R' ρ' s'.heap) (a:Ap Fp (St i) D (AC acc) R ρ s.heap):Ap Fp St' D (AC acc) R' ρ' s'.heap :=
 have q:=GY m (G.live _ _ _ _ a.ac) a.rd a.dp
 ⟨h,a.fr.mv m,G.stable _ _ _ _ _ _ _ a.ac m.r m.pre fun o ho=>m.keep D o ho a.dp hD,q.1,q.2⟩
theorem Ap.mv (W:It A tg it l Fp St) (G:eG A app D okv AC) (m:Mv P R ρ s R' ρ' s') (hF:∀ b∈Fp,¬ P b) (hD:¬ P D) (a:Ap Fp (St i) D (AC acc) R ρ s.heap):Ap Fp (St i) D (AC acc) R' ρ' s'.heap :=
 a.mv' G m hD (W.stable _ _ _ _ _ _ _ a.st m.r m.pre fun b hb o ho=>m.keep b o ho (a.fr b hb).2.1 (hF b hb))
end
noncomputable def Wd (O:Addr→Prop) (Fp:List Addr) (D:Addr) (a:Addr):Prop:=O a∨a∈Fp∨a=D
inductive Mid (d:Nat) (s:Sc) (A:Around) (O:Addr→Prop) (env:Env) (Fp:List Addr) (St:Nat→RM→List Addr→Heap→Prop) (D:Addr) (AC:List AV→RM→List Addr→Heap→Prop)
  (l:List AV) (f:AV→VM→AH→Option (Option AV×VM×AH)) (r:List AV×AH) (R₀:RM) (ρ₀:List Addr) (s₀:Shared) (i:Nat) (sh:Shared):Prop
 |mk (V:VM) (H:AH) (acc:List AV) (q:List AV×AH) (R:RM) (ρ:List Addr) (hcl:compLoop f (l.drop i) V H=some q) (hres:(acc++q.1,q.2)=r) (hacc:acc.length≤i) (a0:At d s A O env V R ρ H sh) (ap:Ap Fp (St i) D (AC acc) R ρ sh.heap) (mv:Mv (Wd O Fp D) R₀ ρ₀ s₀ R ρ sh)
section
variable {env:Env} {tg elt:Expr} {ifs:List Expr} {t:Tgt} {xf:XL} {xe:X'} {it:Value} {Fp:List Addr} {St:Nat→RM→List Addr→Heap→Prop} {D:Addr} {app:Value→Sem Value} {okv:AV→Bool} {AC:List AV→RM→List Addr→Heap→Prop} {l:List AV} {r:List AV×AH} {R₀:RM} {ρ₀:List Addr} {s₀:Shared} {i:Nat} {sh:Shared}
theorem Ff {R:RM} {ρ:List Addr} {st:Shared} {H:AH} {h':Heap} {tk:Nat} (g:ag R ρ H st.heap) (k:GX D st.heap h') (hl:h'.get? D≠none) (hR:R D=none) (hp:D∉ρ):Mv (·=D) R ρ st R ρ { st with heap:=h',toks:=tk }∧ag R ρ H h' :=
 ⟨⟨fun _ _ h=>h,fun _ _ h => .inl h,⟨[],(List.append_nil _).symm,fun _ h=>nomatch h⟩,fun b o ho hb hO=>k b o hO ho,fun b hb=>by
   by_cases q:b=D
   ·refine rT q ?_;exact hl
   ·cases q':st.heap.get? b with
    |none=>exact absurd q' hb
    |some o=>refine rT (k b o q q') ?_;exact nofun,rfl,rfl⟩,
  ⟨g.base,fun b o e=>k b o (fun q=>by rw [q,hR] at e;cases e) (g.froz b o e),g.nd,g.off,g.len,fun j o a e1 e2 =>
   (g.objs j o a e1 e2).mono (fun _ _ h=>h) (fun _ _ h=>h) fun ob e=>k a ob (fun q=>hp (q▸KV e2)) e⟩⟩
theorem sm (p2:bM) (W:It A tg it l Fp St) (G:eG A app D okv AC) (hOF:jw s.slots env O (fun a=>a∈Fp∨a=D)) (hDF:D∉Fp) (hlen:l.length≤1000) (hc:cT s tg=some t) (hF:oP C d s ifs xf) (hE:aJ C d s elt xe) (hs:∀ i∈gq t,∀ x,s.slots[i]?=some x→eS O env x)
  (hi:i<l.length) (M:Mid d s A O env Fp St D AC l (gh (bU C xf) (ev C xe) t okv) r R₀ ρ₀ s₀ i sh) :
  zY X.M A tg elt ifs it env app (Mid d s A O env Fp St D AC l (gh (bU C xf) (ev C xe) t okv) r R₀ ρ₀ s₀ (i+1)) sh:=by
 obtain⟨V,H,acc,q,R,ρ,hcl,hres,hacc,a0,ap,mv⟩:=M
 rw [List.drop_eq_getElem_cons hi] at hcl
 refine ob hcl fun f1 hf hcl=>ob hcl fun q' hq hcl => ?_
 cases hcl
 refine ob hf fun V' hb hf=>ob hf fun k hk hf => ?_
 have hFO:jw s.slots env O (·∈Fp):=fun a ha=>hOF a (.inl ha)
 have nF:∀ b∈Fp,¬ O b:=fun b hb=>(hFO b hb).1
 have nD:¬ O D:=(hOF D (.inr rfl)).1
 refine W.item i l[i] R ρ H sh _ (Ky hi) ap.st a0.g ap.fr fun R1 v s1 m1 g1 st1 r1 => ?_
 have ap1:Ap Fp (St (i+1)) D (AC acc) R1 ρ s1.heap:=ap.mv' G m1 hDF st1
 refine fN p2 hc a0.room (a0.e.mvO m1 hFO) g1 hs hb r1 fun R2 ρ2 s2 m2 g2 e2 => ?_
 have ap2:=ap1.mv W G m2 nF nD
 have at2:At d s A O env V' R2 ρ2 H s2:=⟨a0.room,a0.sc,e2,g2⟩
 refine (hF _ _ _ _ _ _ _ _ _ at2 hk).wp fun R3 ρ3 c s3 m3 g3 r3 => ?_
 have at3:=at2.mv m3 g3
 have ap3:=ap2.mv W G m3 (fun _ _ h=>h) fun h=>h
 have mv3:=((mv.trans (m1.weak fun _ h => .inr (.inl h))).trans (m2.weak fun _ h => .inl h)).trans m3.up
 obtain⟨b,H1⟩:=k
 cases (show c=b from r3)
 refine⟨fun e => ?_,fun e => ?_⟩
 ·subst e
  refine ob hf fun x hx hf=>oc hf fun hok hf => ?_
  cases hf
  refine (hE _ _ _ _ _ _ _ _ _ at3 hx).wp fun R4 ρ4 cx s4 m4 g4 r4 => ?_
  have at4:=at3.mv m4 g4
  have ap4:=ap3.mv W G m4 (fun _ _ h=>h) fun h=>h
  refine G.add acc x.1 cx R4 ρ4 s4 _ ap4.ac (KQ hacc (KZ hi hlen)) hok r4 fun h5 tk hac5 k5 => ?_
  obtain⟨m5,g5⟩:=Ff (tk:=tk) g4 k5 (G.live _ _ _ _ hac5) ap4.rd ap4.dp
  exact⟨V',x.2,acc++[x.1],q',R4,ρ4,hq,by refine rT (List.append_assoc ..) ?_;exact hres,by refine rT List.length_append ?_;exact Nat.succ_le_succ hacc,⟨at4.room,at4.sc,at4.e.mvO m5 fun a ha=>hOF a (.inr ha),g5⟩,
   ⟨W.stable _ _ _ _ _ _ _ ap4.st (fun _ _ h=>h) (fun _ _ h=>h) fun b hb o ho=>k5 b o (fun q=>hDF (q▸hb)) ho,ap4.fr.mv m5,hac5,ap4.rd,ap4.dp⟩,(mv3.trans m4.up).trans (m5.weak fun a ha => .inr (.inr ha))⟩
 ·subst e
  cases hf
  exact⟨V',H1,acc,q',R3,ρ3,hq,hres,Nat.le_succ_of_le hacc,at3,ap3,mv3⟩
inductive sn (d:Nat) (s:Sc) (A:Around) (O:Addr→Prop) (env:Env) (D:Addr) (AC:List AV→RM→List Addr→Heap→Prop) (r:List AV×AH) (P:Addr→Prop) (R₀:RM) (ρ₀:List Addr) (s₀ s':Shared):Prop
 |mk (R:RM) (ρ:List Addr) (V:VM) (a:At d s A O env V R ρ r.2 s') (ac:AC r.1 R ρ s'.heap) (rd:R D=none) (dp:D∉ρ) (m:Mv P R₀ ρ₀ s₀ R ρ s')
theorem v9 {Rs:RM} {ρs:List Addr} {ss:Shared} {f:AV→VM→AH→Option (Option AV×VM×AH)} (W:It A tg it l Fp St) (G:eG A app D okv AC) (hOF:jw s.slots env O (fun a=>a∈Fp∨a=D)) (hDF:D∉Fp) (m0:Mv No Rs ρs ss R₀ ρ₀ s₀) (hn:∀ b∈Fp,ss.heap.get? b=none)
  (M:Mid d s A O env Fp St D AC l f r R₀ ρ₀ s₀ l.length sh) :
  wpAny X.M A (pyNext it) (fun x s'=>x=none∧sn d s A O env D AC r (Wd O Fp D) Rs ρs ss s') NoE sh:=by
 obtain⟨V,H,acc,q,R,ρ,hcl,hres,hacc,a0,ap,mv⟩:=M
 rw [List.drop_length] at hcl
 cases hcl
 rw [List.append_nil] at hres
 subst hres
 exact W.done R ρ H sh _ ap.st a0.g ap.fr fun s' e=>⟨R,ρ,V,⟨a0.room,a0.sc,a0.e.ends e fun a ha=>hOF a (.inl ha),a0.g.ends ap.fr e⟩,G.stable _ _ _ _ _ _ _ ap.ac (fun _ _ h=>h) (fun _ _ h=>h) fun o ho=>e.keep D o hDF ho,ap.rd,ap.dp,(m0.up.trans mv).ends e hn⟩
end
end
section
variable {O:Addr→Prop} {R R':RM} {ρ ρ':List Addr} {s s':Shared} {H:AH} {h:Heap}
theorem ag.freeze {D:Addr} {o:Obj} (g:ag R ρ H h) (hR:R D=none) (hp:D∉ρ) (ho:h.get? D=some o):ag (R.add D o) ρ H h :=
 ⟨fun b o' e=>RM.add_old (g.base b o' e) hR,fun b o' e=>by
  unfold RM.add at e
  split at e
  ·cases e;rename_i q;refine rT q ?_;exact ho
  ·exact g.froz b o' e,g.nd,fun b hb=>by
  unfold RM.add
  split
  ·rename_i q;exact absurd (q▸hb) hp
  ·exact g.off b hb,g.len,fun i ob a e1 e2=>(g.objs i ob a e1 e2).mono (fun b o' e=>RM.add_old e hR) (fun _ _ h=>h) fun _ e=>e⟩
theorem Mv.freeze {D:Addr} {o:Obj} (m:Mv O R ρ s R' ρ' s') (hR:R' D=none) (hD:s.heap.get? D=none):Mv O R ρ s (R'.add D o) ρ' s' :=
 ⟨fun a o' e=>RM.add_old (m.r a o' e) hR,fun a o' e=>by
  unfold RM.add at e
  split at e
  ·rename_i q;refine rT q ?_;exact .inr hD
  ·exact m.rn a o' e,m.p,m.keep,m.live,m.gens,m.os⟩
end
section
variable {prog:Program} {w:World} {A:Around} {R:Result→Shared→Prop} {s:Shared}
theorem wa {M:Model} {c:Code} (hq:c.quiet=true) {N:Nat} (I:Nat→Shared→Prop) {P:Shared→Prop}
  (go:∀ i s,i<N→I i s→wpAny M (A.under c) (M.den c) (fun fin s'=>fin = .again c∧I (i+1) s') NoE s)
  (stop:∀ s,I N s→wpAny M (A.under c) (M.den c) (fun fin s'=>fin = .done .next∧P s') NoE s) (h:I 0 s):codeAny M A c (fun r s'=>r = .ok .next∧P s') s:=by
 refine codeAny_loop hq (fun n s=>∃ i,n+i=N∧I i s) (fun n s ⟨i,hi,hI⟩ => ?_) N ⟨0,rfl,h⟩
 cases n with
 |zero =>
  cases (Nat.zero_add i).symm.trans hi
  exact Kq (stop s hI) (fun fin s' h'=>h'.1▸⟨rfl,h'.2⟩) fun _ _ e=>e.elim
 |succ n =>
  refine Kq (go i s (hi▸Nat.lt_add_of_pos_left (Nat.succ_pos n)) hI) (fun fin s' h'=>h'.1▸⟨rfl,n,Nat.lt_succ_self n,i+1,?_,h'.2⟩) fun _ _ e=>e.elim
  refine rB hi ?_;refine rT (Nat.add_assoc ..) ?_;exact rT (Nat.add_comm 1 i) rfl
section
variable {M:Model} {elt tg iter:Expr} {ifs:List Expr} {scope:Scope} {pos:Pos} {it acc:Value} {env:Env} {P:Shared→Prop}
theorem ib {f:Sem Fin} {Q:Fin→Shared→Prop} (h:wpAny M A f Q NoE s):wpAny M A (f.onRaise (fun x=>do noteFrame x env;theTreesLotGoes x)) Q NoE s:=wpAny_noted (noE h)
theorem xA (h:zY M A tg elt ifs it env (fun x=>call (.builtin "list.append") [acc,x]) P s):wpAny M A (compTurn (.ListComp elt [⟨tg,iter,ifs,0⟩] scope pos) 0 it acc env) (fun fin s'=>fin = .again (.compLoop (.ListComp elt [⟨tg,iter,ifs,0⟩] scope pos) 0 it acc env)∧P s') NoE s:=by
 refine rT (compTurn_list ..) ?_
 refine JX (wpAny_standAt (JX (Kq h (fun r s₁ h₁ => ?_) fun _ _ e=>e)))
 obtain⟨v,e,h₁⟩:=h₁
 cases e
 refine JX (Kq h₁ (fun _ s₁' h₁'=>JX (Kq h₁' (fun _ s₂ h₂=>JX (Kq h₂ (fun ok s₃ h₃ => ?_) fun _ _ e=>e)) fun _ _ e=>e)) fun _ _ e=>e)
 cases ok with
 |false=>exact JZ ⟨rfl,h₃.2 rfl⟩
 |true=>exact JX (JX (Kq (h₃.1 rfl) (fun x s₄ h₄=>JX (Kq h₄ (fun _ s₅ h₅=>JZ (JZ ⟨rfl,h₅⟩)) fun _ _ e=>e)) fun _ _ e=>e))
theorem xB (h:wpAny M A (pyNext it) (fun r s'=>r=none∧P s') NoE s):wpAny M A (compTurn (.ListComp elt [⟨tg,iter,ifs,0⟩] scope pos) 0 it acc env) (fun fin s'=>fin = .done .next∧P s') NoE s:=by
 refine rT (compTurn_list ..) ?_
 exact JX (wpAny_standAt (JX (Kq h (fun r s₁ h₁=>by cases h₁.1;exact JZ ⟨rfl,h₁.2⟩) fun _ _ e=>e)))
end
theorem jz (elt target iter:Expr) (scope:Scope) (pos:Pos) (it acc:Value) (env:Env) :
  compTurn (.SetComp elt [⟨target,iter,[],0⟩] scope pos) 0 it acc env=(do
   standAt iter.pos
   match ← pyNext it with
   |none=>pure (.done .next)
   |some v =>
    letOwnedTupleGo target it v
    assign target env v
    (do let v ← eval elt env;standAt elt.pos;let _ ← call (.builtin "set.add") [acc,v])
    again (.compLoop (.SetComp elt [⟨target,iter,[],0⟩] scope pos) 0 it acc env)):=by rfl
section
variable {M:Model} {elt tg iter:Expr} {scope:Scope} {pos:Pos} {it acc:Value} {env:Env} {P:Shared→Prop}
theorem zZ (h:zY M A tg elt [] it env (fun x=>call (.builtin "set.add") [acc,x]) P s):wpAny M A (compTurn (.SetComp elt [⟨tg,iter,[],0⟩] scope pos) 0 it acc env) (fun fin s'=>fin = .again (.compLoop (.SetComp elt [⟨tg,iter,[],0⟩] scope pos) 0 it acc env)∧P s') NoE s:=by
 refine rT (jz ..) ?_
 refine JX (wpAny_standAt (JX (Kq h (fun r s₁ h₁ => ?_) fun _ _ e=>e)))
 obtain⟨v,e,h₁⟩:=h₁
 cases e
 refine JX (Kq h₁ (fun _ s₁' h₁'=>JX (Kq h₁' (fun _ s₂ h₂ => ?_) fun _ _ e=>e)) fun _ _ e=>e)
 have h₃:wpAny M A (pure true) (fun ok s₃=>(ok=true→wpAny M A (eval elt env) (fun x s₄=>wpAny M A (call (.builtin "set.add") [acc,x]) (fun _ s₅=>P s₅) NoE s₄) NoE s₃)∧(ok=false→P s₃)) NoE s₂:=by
  have:=h₂
  unfold iF at this
  rwa [List.forIn_nil] at this
 have h₄:wpAny M A (eval elt env) (fun x s₄=>wpAny M A (call (.builtin "set.add") [acc,x]) (fun _ s₅=>P s₅) NoE s₄) NoE s₂:=fun Γ p hΓ=>(h₃ Γ p hΓ).1 rfl Γ p hΓ
 exact JX (JX (Kq h₄ (fun x s₄ h₄=>JX (wpAny_standAt (JX (Kq h₄ (fun _ s₅ h₅=>JZ (JZ ⟨rfl,h₅⟩)) fun _ _ e=>e)))) fun _ _ e=>e))
theorem z5 (h:wpAny M A (pyNext it) (fun r s'=>r=none∧P s') NoE s):wpAny M A (compTurn (.SetComp elt [⟨tg,iter,[],0⟩] scope pos) 0 it acc env) (fun fin s'=>fin = .done .next∧P s') NoE s:=by
 refine rT (jz ..) ?_
 exact JX (wpAny_standAt (JX (Kq h (fun r s₁ h₁=>by cases h₁.1;exact JZ ⟨rfl,h₁.2⟩) fun _ _ e=>e)))
end
theorem gb {elt target iter:Expr} {ifs:List Expr} {rest:List Comprehension} {scope:Scope} {pos:Pos} {it acc:Value} {env:Env}
  (h0:codeAny (model prog w) A (.compLoop (.SetComp elt (⟨target,iter,ifs,0⟩::rest) scope pos) 0 it acc env) R s)
  (h:wpAny (model prog w) A (pyIter it) (fun it' s'=>codeAny (model prog w) A (.compLoop (.SetComp elt (⟨target,iter,ifs,0⟩::rest) scope pos) 0 it' acc env) R s')
   NoE s) :
  codeAny (model prog w) A (.compStart (.SetComp elt (⟨target,iter,ifs,0⟩::rest) scope pos) 0 it acc env) R s:=by
 refine codeAny_of_tree ?_
 refine (?_:wpAny _ _ ((compStart (.SetComp elt (⟨target,iter,ifs,0⟩::rest) scope pos) 0 it acc env).onRaise (fun x=>do noteFrame x env;standAt theWindowsPlace)) _ _ s)
 refine wpAny_notedAt (noE ?_)
 refine JX (wpAny_askSetting (wpAny_ite ?_))
 split
 ·first
   |exact JX (JZ (JZ (And.intro rfl h0)))
   |exact JZ (And.intro rfl h0)
 ·refine JX (wpAny_rule ?_)
  refine JX (wpAny_standAt ?_)
  exact JX (Kq h (fun it' s' h'=>JZ ⟨rfl,h'⟩) fun _ _ h'=>h')
end
section
variable {O:Addr→Prop} {ns:List Str} {env:Env} {V:VM} {R R':RM} {ρ ρ':List Addr} {s s':Shared} {H H':AH} {A:Around} {h h':Heap}
theorem dM.tail {C:Addr} (e:dM O ns env V R ρ h) (hC:¬ O C) (hc:∀ x∈ns,env.kindOf x=some .cell→env.cells.lookup x≠some C) (hs:∀ b,b≠C→h'.get? b=h.get? b):dM O ns env V R ρ h':=by
 have k:∀ a,O a→h'.get? a=h.get? a:=fun a ha=>hs a fun q=>hC (q▸ha)
 refine⟨e.kind,e.glob,e.blt,e.code,e.vlen,e.nd,e.known,e.own,e.offR,e.offP,fun a ha=>by refine rT (k a ha) ?_;exact e.live a ha,?_,fun x hx hk => ?_,e.dist⟩
 ·obtain⟨m,hn,hv⟩:=e.loc
  exact⟨m,hn.at' fun o ho=>(k _ e.own).trans ho,hv⟩
 ·obtain⟨c,cv,h1,⟨o,h2,h2'⟩,h3,h4,h5⟩:=e.cell x hx hk
  exact⟨c,cv,h1,⟨o,(hs c fun q=>hc x hx hk (q▸h1)).trans h2,h2'⟩,h3,h4,h5⟩
end
section
variable {d:Nat} {s:Sc} {A:Around} {O:Addr→Prop} {R:RM} {ρ:List Addr} {st:Shared} {H:AH} {env:Env} {V:VM} {sc:Scope}
theorem so (hc:cM s sc) (hk:env.scope.kind = .function) {C:Addr} {x:Str} (h:(x,.local)∈sc.names∨(x,.cell)∈sc.names):eS (aU sc C) (aE sc C env) x:=by
 have kindOf:∀ k,(x,k)∈sc.names→k ≠ .free→(aE sc C env).kindOf x=some k:=fun k hx hk=>by
  refine (?_:(relabel sc env).names.lookup x=_)
  refine rT (gn hc.nd hx) ?_
  have:(k==NameKind.free)=false:=by simpa using hk
  simp [this]
 rcases h with h|h
 ·exact .inl (kindOf _ h (by simp))
 ·refine .inr ⟨kindOf _ h (by simp),fun c hl => .inr ⟨x,?_⟩⟩
  have cellsEq:(aE sc C env).cells=cellsFrom (C+1) sc.names []++bI env sc.names []:=aO _ _ _
  rw [cellsEq,dn] at hl
  obtain⟨c',hm⟩:=bH sc.names (C+1) h
  obtain⟨c'',hc''⟩:=b7 hm
  rw [hc''] at hl
  cases hl
  exact mem_of_lookup hc''
theorem wb {n:Str} (h:l8 sc n=true):(n,.local)∈sc.names∨(n,.cell)∈sc.names :=
 ((Bool.or_eq_true _ _).mp h).imp (fun h=>mem_of_lookup (eq_of_beq h)) fun h=>mem_of_lookup (eq_of_beq h)
theorem C5 {es:List Expr}:∀ {is:List Nat} {s:Sc},gi s es=some is→(es.all fun e=>(fI e).elim false fun n=>l8 sc n.1.1)=true→∀ i∈is,∀ x,s.slots[i]?=some x→(x,.local)∈sc.names∨(x,.cell)∈sc.names:=by
 induction es with
 |nil=>intro is s h _ i hi;cases h;cases hi
 |cons e r ih =>
  intro is s h k j hj x hx
  refine i5 h fun y p i is' h1 hi his h2=>bq k fun k1 k2 => ?_
  subst h1 h2
  rcases KJ.mp hj with rfl|hj
  ·rw [dx hi] at hx;cases hx;exact wb k1
  ·exact ih his k2 j hj x hx
theorem mB {e:Expr} {t:Tgt} (hc:cM s sc) (hk:env.scope.kind = .function) {C:Addr} (h:cT (aM s sc) e=some t) (ht:tOk sc e=true):∀ i∈gq t,∀ x,(aM s sc).slots[i]?=some x→eS (aU sc C) (aE sc C env) x:=fun i hi x hx=>so hc hk (by
 unfold tOk at ht
 refine uz h (fun y j hj e1 e2 => ?_) fun es is his e1 e2 e3 => ?_
 ·subst e1
  rw [e2] at ht
  cases Ke.mp hi
  rw [dx hj] at hx;cases hx
  exact wb ht
 ·subst e1
  rw [e2,e3] at ht
  exact C5 his ht i hi x hx)
noncomputable abbrev z6 (d:Nat) (s:Sc) (A:Around) (sc:Scope) (env:Env) (C D:Addr) (AC:List AV→RM→List Addr→Heap→Prop) (r:List AV×AH) (R₀:RM) (ρ₀:List Addr) (st s':Shared):Prop :=
 sn d (aM s sc) A (aU sc C) (aE sc C env) D AC r No R₀ ρ₀ st s'
theorem sn.drop {O P:Addr→Prop} {env:Env} {D:Addr} {AC:List AV→RM→List Addr→Heap→Prop} {r:List AV×AH} {s':Shared} (hn:∀ a,P a→st.heap.get? a=none) (h:sn d s A O env D AC r P R ρ st s'):sn d s A O env D AC r No R ρ st s' :=
 have ⟨R,ρ,V,a1,a2,a3,a4,a5⟩:=h
 ⟨R,ρ,V,a1,a2,a3,a4,a5.drop hn⟩
theorem uB {P:Addr→Prop} {L:List (Str×NameKind)} (h:∀ x,(x,.free)∈L→P ((env.cells.lookup x).getD 0)) (names:List (Str×NameKind)):∀ acc,(∀ p∈names,p∈L)→(∀ p∈acc,P p.2)→∀ p∈bI env names acc,P p.2:=by
 induction names with
 |nil=>exact fun acc _ h=>h
 |cons q r ih =>
  intro acc hsub hacc
  obtain⟨n,k⟩:=q
  refine ih _ (fun p hp=>hsub p (.tail _ hp)) fun p hp => ?_
  by_cases hk:(k==NameKind.free)=true
  ·rw [if_pos hk] at hp
   rcases KJ.mp hp with rfl|hp
   ·cases eq_of_beq hk
    exact h n (hsub _ (.head _))
   ·exact hacc p hp
  ·rw [if_neg hk] at hp
   exact hacc p hp
theorem uC (at0:At d s A O env V R ρ H st) (hc:cM s sc) {C:Addr} {x:Str} {c:Addr} (hl:(aE sc C env).cells.lookup x=some c):aU sc C c∨st.heap.get? c≠none:=by
 have hm:=mem_of_lookup hl
 rw [show (aE sc C env).cells=cellsFrom (C+1) sc.names []++bI env sc.names [] from aO _ _ _] at hm
 refine (List.mem_append.mp hm).imp (fun hm => .inr ⟨x,hm⟩) fun hm=>uB (P:=fun c=>st.heap.get? c≠none) (fun x hx => ?_) sc.names [] (fun _ h=>h) (fun _ h=>nomatch h) _ hm
 obtain⟨_,c,cv,q1,⟨o,q2,_⟩,_⟩:=at0.cellOf hc hx
 refine rT q1 ?_
 refine rT q2 ?_;exact nofun
theorem mC {tg:Expr} {it:Value} {H1:AH} {l:List AV} {s2:Shared} {o0:Obj} (at0:At d s A O env V R ρ H st) (hc:cM s sc) (ip:ck A tg R ρ st l H1 it s2)
  {AC:Addr→List AV→RM→List Addr→Heap→Prop} (hfo:o0.isFreed=false) (hac:∀ D R ρ h,h.get? D=some o0→AC D [] R ρ h)
  {f:AV→VM→AH→Option (Option AV×VM×AH)} {r:List AV×AH} (hcl:compLoop f l (dB V (cJ s sc.names)) H1=some r) {E:Value→Shared→Prop} {Q:Env→Shared→Prop}
  (h:∀ Fp St R2 ρ2 s4,It A tg it l Fp St→Mid d (aM s sc) A (aU sc (s2.heap.objs.size+1)) (aE sc (s2.heap.objs.size+1) env) Fp St s2.heap.objs.size (AC s2.heap.objs.size) l f r R2 ρ2 s4 0 s4→Mv No R ρ st R2 ρ2 s4 →
   (∀ a,Wd (aU sc (s2.heap.objs.size+1)) Fp s2.heap.objs.size a→st.heap.get? a=none)→jw (aM s sc).slots (aE sc (s2.heap.objs.size+1) env) (aU sc (s2.heap.objs.size+1)) (fun a=>a∈Fp∨a=s2.heap.objs.size)→s2.heap.objs.size∉Fp →
   Q (newEnv sc (s2.heap.objs.size+1) env.globals (cellsFrom (s2.heap.objs.size+1+1) sc.names (bI env sc.names [])) env.qual none .none (some env) builtinsNs) s4) :
  wpAny X.M A (newFunctionEnv sc env.globals (bI env sc.names []) [] env.qual none .none (some env)) Q E { s2 with heap:=s2.heap.push o0 }:=by
 obtain⟨R2,ρ2,Fp,St,m2,g2,fr2,hfp,W,st2⟩:=ip
 have at2:=at0.mv m2 g2
 have hk2:cD s2.heap (s2.heap.push o0):=fun b o e=>Kx _ e
 have hD2:s2.heap.get? s2.heap.objs.size=none:=b6 _
 have hsz:(s2.heap.push o0).objs.size=s2.heap.objs.size+1:=Heap.size_push ..
 obtain⟨at4,keep,hown,hns⟩:=zX (h0:=s2.heap.push o0) (tk:=s2.toks) at2 hc hk2 (hsz▸Nat.le_succ _)
 rw [hsz] at at4 hown
 refine iw ?_
 refine rT hsz ?_
 have hDo:=keep _ _ (Kj s2.heap hfo)
 have keep2:=fun b o e=>keep b o (hk2 b o e)
 generalize pushCells ((s2.heap.push o0).push { cls := .type "dict",data := .dict #[] }) sc.names=h4 at at4 keep2 hDo ⊢
 clear keep hns
 have nn:∀ a,s2.heap.get? a=none→st.heap.get? a=none:=fun a e=>by
  cases q:st.heap.get? a with
  |none=>rfl
  |some o=>exact absurd e (m2.live a (by refine rT q ?_;exact nofun))
 have ownNone2:∀ a,aU sc (s2.heap.objs.size+1) a→s2.heap.get? a=none:=fun a ha=>by
  cases q:s2.heap.get? a with
  |none=>rfl
  |some o=>have:=(hown a ha).1;rw [hk2 a o q] at this;cases this
 have m24:Mv No R2 ρ2 s2 R2 ρ2 { s2 with heap:=h4 }:=Mv.grow (tk:=s2.toks) keep2
 have DFp:s2.heap.objs.size∉Fp:=fun hm=>(fr2 _ hm).2.2 hD2
 have far:∀ a,(a∈Fp∨a=s2.heap.objs.size)→st.heap.get? a=none∧¬ aU sc (s2.heap.objs.size+1) a:=fun a ha=>ha.elim (fun ha=>⟨hfp a ha,fun ho=>(fr2 a ha).2.2 (ownNone2 a ho)⟩) fun e=>by subst e;exact⟨nn _ hD2,fun ho=>Nat.not_succ_le_self s2.heap.objs.size (hown _ ho).2⟩
 exact h Fp St R2 ρ2 _ W ⟨dB V (cJ s sc.names),H1,[],r,R2,ρ2,hcl,rfl,Nat.zero_le _,at4,⟨W.stable _ _ _ _ _ _ _ st2 (fun _ _ h=>h) (fun _ _ h=>h) (fun b _ o e=>keep2 b o e),fr2.mv m24,hac _ _ _ _ hDo,g2.none_of_new hD2,g2.not_mem_new hD2⟩,Mv.refl _⟩ (m2.trans m24)
  (fun a ha=>ha.elim (fun ha=>nn a (ownNone2 a ha)) fun ha=>(far a ha).1)
  (fun a ha=>⟨(far a ha).2,fun x _ _ hl=>(uC at0 hc hl).elim (far a ha).2 fun hlv=>hlv (far a ha).1⟩) DFp
theorem ls {R₀:RM} {ρ₀:List Addr} {C D:Addr} {AC:List AV→RM→List Addr→Heap→Prop} {r:List AV×AH} {av:AV} {s':Shared} {G:Prop} (ce:z6 d s A sc env C D AC r R₀ ρ₀ st s')
  (hfz:∀ R ρ,AC r.1 R ρ s'.heap→R D=none→∃ o,s'.heap.get? D=some o∧Rel (R.add D o) ρ av (.ref D)) (hD:st.heap.get? D=none) (hCD:C≠D)
  (k:∀ R ρ m,s'.heap.Ns C m→Mv No R₀ ρ₀ st R ρ s'→ag R ρ r.2 s'.heap→Rel R ρ av (.ref D)→R C=none→C∉ρ→G):G:=by
 obtain⟨R,ρ,V,at1,hac,hRD,hDρ,mv⟩:=ce
 obtain⟨o,ho,hr⟩:=hfz R ρ hac hRD
 obtain⟨m,hn,_⟩:=at1.e.loc
 exact k (R.add D o) ρ m hn (mv.freeze hRD hD) (at1.g.freeze hRD hDρ ho) hr ((if_neg hCD).trans (at1.e.offR C (.inl rfl))) (at1.e.offP C (.inl rfl))
section
variable {Or:ae} {elt tg iter:Expr} {ifs:List Expr} {t:Tgt} {xf:XL} {xe:X'} {pos:Pos} {it:Value} {Fp:List Addr} {St:Nat→RM→List Addr→Heap→Prop} {D C:Addr} {okv:AV→Bool} {AC:List AV→RM→List Addr→Heap→Prop} {l:List AV} {r:List AV×AH} {R₀ R2:RM} {ρ₀ ρ2:List Addr} {s4:Shared}
theorem xC (p2:bM) (W:It A tg it l Fp St) (G:eG A (fun x=>call (.builtin "list.append") [.ref D,x]) D okv AC) (hlen:l.length≤1000) (hc:cT (aM s sc) tg=some t) (hF:oP Or d (aM s sc) ifs xf) (hE:aJ Or d (aM s sc) elt xe)
  (hs:∀ i∈gq t,∀ x,(aM s sc).slots[i]?=some x→eS (aU sc C) (aE sc C env) x)
  (M:Mid d (aM s sc) A (aU sc C) (aE sc C env) Fp St D AC l (gh (bU Or xf) (ev Or xe) t okv) r R2 ρ2 s4 0 s4) (m:Mv No R₀ ρ₀ st R2 ρ2 s4) (hn:∀ a,Wd (aU sc C) Fp D a→st.heap.get? a=none) (hOF:jw (aM s sc).slots (aE sc C env) (aU sc C) (fun a=>a∈Fp∨a=D)) (hDF:D∉Fp) :
  codeAny X.M A (.compStart (.ListComp elt [⟨tg,iter,ifs,0⟩] sc pos) 0 it (.ref D) (aE sc C env)) (fun r' s'=>r' = .ok .next∧z6 d s A sc env C D AC r R₀ ρ₀ st s') s4:=by
 have loop:=wa (M:=X.M) (A:=A) (c := .compLoop (.ListComp elt [⟨tg,iter,ifs,0⟩] sc pos) 0 it (.ref D) (aE sc C env)) (P:=z6 d s A sc env C D AC r R₀ ρ₀ st) rfl (N:=l.length)
  (Mid d (aM s sc) A (aU sc C) (aE sc C env) Fp St D AC l (gh (bU Or xf) (ev Or xe) t okv) r R2 ρ2 s4)
  (fun i sh hi Mi=>ib (xA (sm p2 W G hOF hDF hlen hc hF hE hs hi Mi)))
  (fun sh Me=>ib (xB (Kq (v9 W G hOF hDF m (fun b hb=>hn b (.inr (.inl hb))) Me) (fun _ _ h=>⟨h.1,h.2.drop hn⟩) fun _ _ e=>e))) M
 obtain⟨V,H,acc,q,R,ρ,_,_,_,_,ap,_⟩:=M
 exact codeAny_compStart_list loop (noE (W.self 0 R ρ s4 _ ap.st loop))
theorem z7 (p2:bM) (W:It A tg it l Fp St) (G:eG A (fun x=>call (.builtin "set.add") [.ref D,x]) D okv AC) (hlen:l.length≤1000) (hc:cT (aM s sc) tg=some t) (hE:aJ Or d (aM s sc) elt xe)
  (hs:∀ i∈gq t,∀ x,(aM s sc).slots[i]?=some x→eS (aU sc C) (aE sc C env) x)
  (M:Mid d (aM s sc) A (aU sc C) (aE sc C env) Fp St D AC l (gh (bU Or .nil) (ev Or xe) t okv) r R2 ρ2 s4 0 s4) (m:Mv No R₀ ρ₀ st R2 ρ2 s4) (hn:∀ a,Wd (aU sc C) Fp D a→st.heap.get? a=none) (hOF:jw (aM s sc).slots (aE sc C env) (aU sc C) (fun a=>a∈Fp∨a=D)) (hDF:D∉Fp) :
  codeAny X.M A (.compStart (.SetComp elt [⟨tg,iter,[],0⟩] sc pos) 0 it (.ref D) (aE sc C env)) (fun r' s'=>r' = .ok .next∧z6 d s A sc env C D AC r R₀ ρ₀ st s') s4:=by
 have loop:=wa (M:=X.M) (A:=A) (c := .compLoop (.SetComp elt [⟨tg,iter,[],0⟩] sc pos) 0 it (.ref D) (aE sc C env)) (P:=z6 d s A sc env C D AC r R₀ ρ₀ st) rfl (N:=l.length)
  (Mid d (aM s sc) A (aU sc C) (aE sc C env) Fp St D AC l (gh (bU Or .nil) (ev Or xe) t okv) r R2 ρ2 s4)
  (fun i sh hi Mi=>ib (zZ (sm p2 W G hOF hDF hlen hc (sk (C:=Or)) hE hs hi Mi)))
  (fun sh Me=>ib (z5 (Kq (v9 W G hOF hDF m (fun b hb=>hn b (.inr (.inl hb))) Me) (fun _ _ h=>⟨h.1,h.2.drop hn⟩) fun _ _ e=>e))) M
 obtain⟨V,H,acc,q,R,ρ,_,_,_,_,ap,_⟩:=M
 exact gb loop (W.self 0 R ρ s4 _ ap.st loop)
end
end
noncomputable def wc:Value→Bool
 |.bool true=>true
 |_=>false
theorem gr {v:Value} (h:wc v=true):v = .bool true:=by
 unfold wc at h;split at h
 ·rfl
 ·cases h
noncomputable def sq (prog:Program) (w:World):KeyKind prog w Unit where
 is:=fun _ v=>wc v
 hash:=fun _=>rawHash 1
 inj:=fun _ _ _ _ _=>rfl
 byValue:=fun _ v h=>by refine rT (gr h) ?_;rfl
 pyHash:=fun {A E s k v Q} hv h=>by
  refine rT (gr hv) ?_
  have hr:=rawHash_range 1
  have hv:[Value.bool true].any Value.onHeap=false:=rfl
  refine JX ?_
  rewrite [cRoomFor];refine rT (if_neg (by rw [hv];exact Bool.false_ne_true)) ?_;refine JZ ?_
  refine JX (wpAny_specialOf (PySem.typeIs_bool s true) F.slot_bool_hash.lookup ?_)
  refine (?_:wpAny _ _ (if (some (Value.builtin "int.__hash__")==some Value.none)=true then _ else _) Q E s)
  refine rT (if_neg (by rw [beq_builtin_none];exact Bool.false_ne_true)) ?_
  refine JX (wpAny_specialOf (PySem.typeIs_bool s true) F.slot_bool_hash.lookup ?_)
  refine JX (wpAny_callSpecialIfBoundUnlessNone?_slot (PySem.typeIs_bool s true) F.slot_bool_hash
   (wpAny_call_entry F.slot_bool_hash (PySem.typeIs_bool s true) entry_int_hash
    (show wpAny _ _ (do ret (← mkInt (rawHash 1))) _ _ s from wpAny_ret_mkInt ?_) (args_int_hash _)))
  refine (?_:wpAny _ _ (if (decide (-(2:Int) ^ 63≤rawHash 1)&&decide (rawHash 1<2 ^ 63))=true then _ else _) Q E _)
  refine rT (if_pos (by rw [decide_eq_true hr.1,decide_eq_true hr.2];rfl)) ?_
  exact JZ h
 eqBool:=fun {A E s a b u v Q} hu hv h=>by
  refine rT (gr hu) ?_;refine rT (gr hv) ?_
  refine JY ?_
  refine rT (if_pos (by rfl)) ?_
  exact JX (wpAny_rule (JZ (by exact h)))
 «strs» := fun k x t v h=>by simp [wc] at h
section
variable {d:Nat} {s:Sc} {A:Around} {O:Addr→Prop} {R:RM} {ρ:List Addr} {st:Shared} {H:AH} {env:Env} {V:VM} {sc:Scope}
noncomputable def LAC (D:Addr) (acc:List AV) (R:RM) (ρ:List Addr) (h:Heap):Prop:=∃ vs n,h.get? D=some (aN vs n)∧ai R ρ acc vs
noncomputable def SAC (D:Addr) (acc:List AV) (_:RM) (_:List Addr) (h:Heap):Prop:=(∀ a∈acc,a = .bool true)∧∃ es ep t,h.get? D=some (aj "set" es ep t)∧au (sq X.prog X.w) es t (if acc.isEmpty then [] else [()])
theorem LAC.stable (D:Addr) (acc:List AV) (R:RM) (ρ:List Addr) (h:Heap) (R':RM) (ρ':List Addr) (h':Heap) (k:LAC D acc R ρ h) (hr:mu R R') (hp:oL ρ ρ') (e:∀ o,h.get? D=some o→h'.get? D=some o):LAC D acc R' ρ' h':=by
 obtain⟨vs,n,h1,h2⟩:=k
 exact⟨vs,n,e _ h1,ai.mono hr hp _ _ h2⟩
theorem SAC.stable (D:Addr) (acc:List AV) (R:RM) (ρ:List Addr) (h:Heap) (R':RM) (ρ':List Addr) (h':Heap) (k:SAC D acc R ρ h) (hr:mu R R') (hp:oL ρ ρ') (e:∀ o,h.get? D=some o→h'.get? D=some o):SAC D acc R' ρ' h':=by
 obtain⟨k1,es,ep,t,h1,h2⟩:=k
 exact⟨k1,es,ep,t,e _ h1,h2⟩
theorem qE (p2:bM) (room:aI A d) (D:Addr):eG A (fun x=>call (.builtin "list.append") [.ref D,x]) D (fun _=>true) (LAC D) where
 stable:=LAC.stable D
 live:=fun acc R ρ h ⟨vs,n,e,_⟩=>by refine rT e ?_;exact nofun
 add:=fun acc a v R ρ s Q ⟨vs,n,e,r⟩ hl _ hr h =>
  Kq (p2.apnd (Q:=fun _ s'=>Q s') room e (r.length▸Kd hl (by decide)) fun h' n' e' k=>h h' s.toks ⟨_,n',e',r.append (.one hr)⟩ k) (fun _ _ q=>q) fun _ _ e=>e
theorem xD {a:AV} (h:uw a=true):a = .bool true:=by
 cases a with
 |bool b=>exact congrArg AV.bool h
 |_=>cases h
theorem sr (D:Addr):eG A (fun x=>call (.builtin "set.add") [.ref D,x]) D uw (SAC D) where
 stable:=SAC.stable D
 live:=fun acc R ρ h ⟨_,es,ep,t,e,_⟩=>by refine rT e ?_;exact nofun
 add:=fun acc a v R ρ s Q ⟨h1,es,ep,t,h2,D2⟩ hl ha hr h=>by
  cases xD ha
  refine rT (show v = .bool true from hr) ?_
  refine qB (knd:=sq X.prog X.w) (k:=()) h2 D2 rfl rfl (by cases acc.isEmpty<;>decide) fun es' ep' t' D'=>h _ _ ⟨fun a ha=>(List.mem_append.mp ha).elim (h1 a) Ke.mp,es',ep',t',cb h2 rfl,?_⟩ fun b o hb e=>(aA hb).trans e
  cases acc with
  |nil=>exact D'
  |cons _ _=>exact D'
theorem LAC.freeze {D:Addr} {acc:List AV} {h:Heap} (k:LAC D acc R ρ h) (hR:R D=none):∃ o,h.get? D=some o∧Rel (R.add D o) ρ (.lst acc) (.ref D):=by
 obtain⟨vs,n,e,r⟩:=k
 exact⟨_,e,D,vs,n,rfl,RM.add_self,ai.mono (fun a o h=>RM.add_old h hR) (fun _ _ h=>h) _ _ r⟩
theorem SAC.freeze {D:Addr} {acc:List AV} {h:Heap} (k:SAC D acc R ρ h) (hne:acc.isEmpty=false):∃ o,h.get? D=some o∧Rel (R.add D o) ρ (.set [.bool true]) (.ref D):=by
 obtain⟨h1,es,ep,t,e,D'⟩:=k
 rw [hne] at D'
 refine⟨_,e,D,_,rfl,RM.add_self,.inr ⟨rfl,?_⟩⟩
 have hn:es.size=1:=D'.sz
 have hf:=D'.fit
 have hel:=D'.el
 have hl:=D'.led
 clear D' e
 obtain⟨es⟩:=es
 obtain⟨⟨hh,v⟩,rfl⟩:=List.length_eq_one_iff.mp hn
 obtain⟨_,hv,_⟩:=(hel (hh,v) (.head _)).1
 cases gr hv
 exact⟨hh,ep,t,rfl,hf,hl⟩
theorem mD {iter:Expr} {env:Env} (h:gj iter=true):∀ x,foldedSetIterable iter env x=pure x:=by
 intro x
 cases iter<;>first|rfl|cases h
theorem pJ (at0:At d s A O env V R ρ H st) (hc:cM s sc):closureFor sc env=pure (bI env sc.names []):=oO sc fun p hp hk=>by
 obtain⟨n,k⟩:=p
 cases (show k = .free from hk)
 obtain⟨_,c,cv,q1,_⟩:=at0.cellOf hc hp
 refine rT q1 ?_;rfl
theorem mE (hc:cM s sc):∀ x∈sc.names,x.2 = .local→sc.names.lookup x.1=some .local:=fun x hx hk=>bz hc.nd (hk▸hx)
section
variable {Or:ae} {elt tg iter:Expr} {ifs:List Expr} {t:Tgt} {xi:IT} {xf:XL} {xe:X'} {pos:Pos}
theorem wd (p2:bM) (hc:cM s sc) (ht:tOk sc tg=true) (hset:gj iter=true) (hit:sg xi tg) (hT:cT (aM s sc) tg=some t)
  (hI:my Or d s iter xi) (hF:oP Or d (aM s sc) ifs xf) (hE:aJ Or d (aM s sc) elt xe) {r:AV×AH} {use:Option (Value→Sem Unit)} {Q:Value→Shared→Prop} (at0:At d s A O env V R ρ H st) (h:ev Or (.lc (cJ s sc.names) t xi xf xe) V H=some r)
  (k:∀ D R' ρ' m s',s'.heap.Ns (D+1) m→Mv No R ρ st R' ρ' s'→ag R' ρ' r.2 s'.heap→Rel R' ρ' r.1 (.ref D)→R' (D+1)=none→D+1∉ρ'→st.heap.get? (D+1)=none→compPost X.M A NoE use Q (.ref D) (D+1) (.ok .next) s') :
  wpAny X.M A (comprehension (.ListComp elt [⟨tg,iter,ifs,0⟩] sc pos) sc env (firstIterPos [⟨tg,iter,ifs,0⟩] pos) (newList []) false (eval iter env) use) Q NoE st :=
 ob h fun p h1 h=>oc h fun hlen h=>ob h fun q h2 h=>by
  cases h
  refine wpAny_comprehension_free (cl:=bI env sc.names []) (g:=⟨tg,iter,ifs,0⟩) (gs:=[]) rfl (mD hset) (pJ at0 hc) hc.kind (mE hc)
   (Kq (hI A O env V R ρ H st p tg hit at0 h1) (fun cx s1 k1=>Kq k1 (fun it s2 ip=>wpAny_newObj_type (mC (AC:=LAC) (o0:=aN [] 0) at0 hc ip rfl (fun D R ρ h e=>⟨[],0,e,.nil⟩) h2 fun Fp St R2 ρ2 s4 W M m hn hOF hDF =>
   codeAny_mono (xC p2 W (qE p2 at0.room _) (Lj hlen) hT hF hE (mB hc at0.e.kind hT ht) M m hn hOF hDF) fun r' s' hr => ?_)) fun _ _ e=>e) fun _ _ e=>e)
  cases hr.1
  exact ls hr.2 (fun R ρ k=>LAC.freeze k) (hn _ (.inr (.inr rfl))) (Nat.succ_ne_self _) fun R' ρ' mm hns mv gd rl hRC hpC=>k _ R' ρ' mm _ hns mv gd rl hRC hpC (hn _ (.inl (.inl rfl)))
theorem z8 (p2:bM) (hc:cM s sc) (ht:tOk sc tg=true) (hset:gj iter=true) (hit:sg xi tg) (hT:cT (aM s sc) tg=some t)
  (hI:my Or d s iter xi) (hF:oP Or d (aM s sc) ifs xf) (hE:aJ Or d (aM s sc) elt xe):aJ Or d s (.ListComp elt [⟨tg,iter,ifs,0⟩] sc pos) (.lc (cJ s sc.names) t xi xf xe):=fun _ _ _ _ _ _ _ _ _ at0 h =>
 wd p2 hc ht hset hit hT hI hF hE at0 h fun _ R' ρ' mm _ hns mv gd rl hRC hpC hCn=>⟨mm,hns,fun h' hsb=>⟨R',ρ',mv.tail hCn hsb.2,gd.tail hRC hpC hsb.2,rl⟩⟩
theorem Fg (p2:bM) (hc:cM s sc) (ht:tOk sc tg=true) (hset:gj iter=true) (hit:sg xi tg) (hT:cT (aM s sc) tg=some t)
  (hI:my Or d s iter xi) (hE:aJ Or d (aM s sc) elt xe):aJ Or d s (.SetComp elt [⟨tg,iter,[],0⟩] sc pos) (.sc (cJ s sc.names) t xi xe):=fun A O env V R ρ H st _ at0 h =>
 ob h fun p h1 h=>oc h fun hlen h=>ob h fun q h2 h=>by
  cases hne:q.1.isEmpty with
  |true=>rw [hne] at h;cases h
  |false =>
  rw [hne] at h
  cases h
  refine wpAny_comprehension_free (use:=none) (cl:=bI env sc.names []) (g:=⟨tg,iter,[],0⟩) (gs:=[]) rfl (mD hset) (pJ at0 hc) hc.kind (mE hc)
   (Kq (hI A O env V R ρ H st p tg hit at0 h1) (fun cx s1 k1=>Kq k1 (fun it s2 ip=>jv fun led hled=>mC (AC:=SAC) (o0:=aj "set" #[] 0 (.fresh 0 0 led)) at0 hc ip rfl (fun D R ρ h e=>⟨fun a ha=>(nomatch ha),#[],0,_,e,au.fresh hled⟩) h2 fun Fp St R2 ρ2 s4 W M m hn hOF hDF =>
   codeAny_mono (z7 p2 W (sr _) (Lj hlen) hT hE (mB hc at0.e.kind hT ht) M m hn hOF hDF) fun r' s' hr => ?_) fun _ _ e=>e) fun _ _ e=>e)
  cases hr.1
  exact ls hr.2 (fun R ρ k _=>SAC.freeze k hne) (hn _ (.inr (.inr rfl))) (Nat.succ_ne_self _) fun R' ρ' mm hns mv gd rl hRC hpC =>
   ⟨mm,hns,fun h' hsb=>⟨R',ρ',mv.tail (hn _ (.inl (.inl rfl))) hsb.2,gd.tail hRC hpC hsb.2,rl⟩⟩
theorem uD (p2:bM) (hc:cM s sc) (ht:tOk sc tg=true) (hset:gj iter=true) (hit:sg xi tg) (hT:cT (aM s sc) tg=some t)
  (hI:my Or d s iter xi) (hF:oP Or d (aM s sc) ifs xf) (hE:aJ Or d (aM s sc) elt xe) {r:AV×AH} {i:Nat} {y:Str} {py:Pos} {Q:Unit→Shared→Prop} (at0:At d s A O env V R ρ H st) (hy:s.slots[i]?=some y) (hst:eS O env y)
  (h:ev Or (.lc (cJ s sc.names) t xi xf xe) V H=some r) (k:∀ R' ρ' s',Mv O R ρ st R' ρ' s'→ag R' ρ' r.2 s'.heap→dM O s.slots env (V.set i (some r.1)) R' ρ' s'.heap→Q () s') :
  wpAny X.M A (evalThenUse (.ListComp elt [⟨tg,iter,ifs,0⟩] sc pos) env (assign (.Name y py) env)) Q NoE st :=
 JX (wd p2 hc ht hset hit hT hI hF hE (use:=some (assign (.Name y py) env)) at0 h fun D R' ρ' mm s' hns mv gd rl hRC hpC hCn=>wpAny_assign_Name ((at0.e.mv mv).store gd hy hst rl fun s'' m2 g2 e2=>by
  have hOC:¬ O (D+1):=fun hO=>at0.e.live _ hO hCn
  refine⟨mm,hns.at' fun o ho=>m2.keep _ o ho hpC hOC,fun h' hsb=>JZ (k R' ρ' _ ((mv.up.trans m2).tail hCn hsb.2) (g2.tail hRC hpC hsb.2) (e2.tail hOC (fun x hx hk hl => ?_) hsb.2))⟩
  obtain⟨c,cv,h1,⟨o,h2,_⟩,_⟩:=at0.e.cell x hx hk
  rw [hl] at h1;cases h1
  rw [hCn] at h2;cases h2))
end
end
structure uE:Prop where
 tmap:∀ {A:Around} {C:ae} {d:Nat} {R:RM} {ρ:List Addr} {s:Shared} {H H':AH} {x:AV} {l r:List AV} {cx:Value} {f:Nat},mw C d→aI A (d+4)→ag R ρ H s.heap→Rel R ρ x cx→jt H x=some l→qz C f l H=some (r,H') →
  (∀ a H r H',C f [a] [] H=some (r,H')→H'=H)→(∃ o fd,X.hB.get? (X.F f)=some o∧o.data = .func fd) →
  wpAny X.M A (call (.type "map") [.ref (X.F f),cx]) (fun cm s₁=>wpAny X.M A (call (.type "tuple") [cm]) (b5 R ρ s (.tup r) H') NoE s₁) NoE s
section
variable {C:ae} {d:Nat} {s:Sc} {A:Around} {R R':RM} {ρ ρ':List Addr} {st st':Shared} {H H' H₁:AH}
theorem ck.of {tg:Expr} {R1:RM} {ρ1:List Addr} {s1 s':Shared} {l:List AV} {it:Value} (m:Mv No R ρ st R1 ρ1 s1) (h:ck A tg R1 ρ1 s1 l H' it s'):ck A tg R ρ st l H' it s':=by
 obtain⟨R',ρ',Fp,St,m',g,fr,hn,W,h0⟩:=h
 refine⟨R',ρ',Fp,St,m.trans m',g,fr,fun b hb => ?_,W,h0⟩
 cases q:st.heap.get? b with
 |none=>rfl
 |some o=>exact absurd (hn b hb) (m.live b (by refine rT q ?_;exact nofun))
theorem qF {tg:Expr} {R1:RM} {ρ1:List Addr} {s1:Shared} {l:List AV} {t:Sem Value} (m:Mv No R ρ st R1 ρ1 s1) (h:wpAny X.M A t (fun cx s₁=>wpAny X.M A (pyIter cx) (ck A tg R1 ρ1 s1 l H') NoE s₁) NoE s1):wpAny X.M A t (fun cx s₁=>wpAny X.M A (pyIter cx) (ck A tg R ρ st l H') NoE s₁) NoE s1 :=
 Kq h (fun _ _ k=>Kq k (fun _ _ k=>k.of m) fun _ _ e=>e) fun _ _ e=>e
theorem su (p2:bM) {e:Expr} {x:X'} (he:aJ C d s e x):my C d s e (.val x):=fun _ _ _ _ _ _ _ _ _ tg _ a0 h =>
 ob h fun _ h1 h=>ob h fun l _ h=>oj h ((he _ _ _ _ _ _ _ _ _ a0 h1).wp fun _ _ _ _ m1 g1 r1=>Kq (p2.iter tg a0.room g1 r1 l.2) (fun _ _ k=>k.of m1) fun _ _ e=>e)
noncomputable def bT:List (Str×Value):=[("range",.type "range"),("map",.type "map"),("enumerate",.type "enumerate"),("zip",.type "zip")]
theorem uF:∀ p∈bT.map (·.1),(p==("__debug__" : Str))=false:=by decide
theorem Fh {gl:List (Str×GV)} (gk:GOk X gl) {O:Addr→Prop} {env:Env} {V:VM} {n:Str} {p:Pos} {v:Value} {Q:Value→Shared→Prop} (a0:At d s A O env V R ρ H st) (hn:(n,v)∈bT) (h:s.kinds.lookup n=some .globalImplicit) (k:Q v st):wpAny X.M A (eval (.Name n p) env) Q NoE st :=
 wpAny_Name (gk.loadB n v env A st Q hn a0.genv (a0.sc.g n h) a0.g.hB k) (uF n (List.mem_map.mpr ⟨_,hn,rfl⟩))
theorem mF {gl:List (Str×GV)} (gk:GOk X gl) {O:Addr→Prop} {env:Env} {V:VM} {n:Str} {p pos:Pos} {T:String} {l:List Expr} {xl:XL} {r:List AV×AH} {Q:Value→Shared→Prop} (a0:At d s A O env V R ρ H st) (hn:(n,Value.type T)∈bT) (h:s.kinds.lookup n=some .globalImplicit)
  (hs:l.all aW=true) (hl:km C d s l xl) (h1:evL C xl V H=some r) (k:∀ R1 ρ1 cvs s1,Mv No R ρ st R1 ρ1 s1→ag R1 ρ1 r.2 s1.heap→ai R1 ρ1 r.1 cvs→wpAny X.M A (call (.type T) cvs) Q NoE s1):wpAny X.M A (eval (.Call (.Name n p) l [] pos) env) Q NoE st :=
 wpAny_Call_Name_kw (Fh gk a0 hn h (PySem.callWith_type (i4 hs) (bQ (aZ hs) rfl ((hl _ _ _ _ _ _ _ _ _ pos a0 h1 hs).wp fun R1 ρ1 cvs s1 m1 g1 r1=>JZ (k R1 ρ1 cvs s1 m1 g1 r1)))))
theorem we {x:X'} {V:VM} {p:AV×AH} (h:ev C x V H=some p):evL C (.cons x .nil) V H=some ([p.1],p.2):=by
 refine (?_:(ev C x V H).bind _=_);refine rT h ?_;rfl
theorem wf {x y:X'} {V:VM} {p q:AV×AH} (h:ev C x V H=some p) (k:ev C y V p.2=some q):evL C (.cons x (.cons y .nil)) V H=some ([p.1,q.1],q.2):=by
 refine (?_:(ev C x V H).bind _=_);refine rT h ?_;refine (?_:(evL C (.cons y .nil) V p.2).bind _=_);refine rT (we k) ?_;rfl
theorem uG (p2:bM) {gl:List (Str×GV)} (gk:GOk X gl) {p pos:Pos} {l:List Expr} {xl:XL} (h:s.kinds.lookup ("range" : Str)=some .globalImplicit) (hs:l.all aW=true) (hl:km C d s l xl):my C d s (.Call (.Name "range" p) l [] pos) (.range xl):=fun _ _ _ _ _ _ _ _ _ tg _ a0 h' =>
 ob h' fun _ h1 h'=>ob h' fun _ h2 h'=>oj h' (mF (T := "range") gk a0 (.head _) h hs hl h1 fun _ _ _ _ m1 g1 r1=>qF m1 (p2.range tg a0.room g1 r1 h2))
theorem mG {e:Expr} {x:X'} (he:aJ C d s e x):km C d s [e] (.cons x .nil):=ia he sd
theorem xE (p2:bM) {gl:List (Str×GV)} (gk:GOk X gl) {p pos:Pos} {a:Expr} {xa:X'} (h:s.kinds.lookup ("enumerate" : Str)=some .globalImplicit) (hs:[a].all aW=true) (ha:aJ C d s a xa):my C d s (.Call (.Name "enumerate" p) [a] [] pos) (.enum xa):=fun _ _ _ _ _ _ _ _ _ tg ht a0 h'=>by
 obtain⟨elts,k,pp,rfl⟩:=ht
 exact ob h' fun _ h1 h'=>ob h' fun l _ h'=>oj h' (mF (T := "enumerate") gk a0 (.tail _ (.tail _ (.head _))) h hs (mG ha) (we h1) fun _ _ _ _ m1 g1 r1=>by
  obtain⟨v,r,rfl,r1,rfl⟩:=r1
  exact qF m1 (p2.enum a0.room g1 (l.2▸r1)))
theorem z9 (p2:bM) {gl:List (Str×GV)} (gk:GOk X gl) {p pos:Pos} {a b:Expr} {xa xb:X'} (h:s.kinds.lookup ("zip" : Str)=some .globalImplicit) (hs:[a,b].all aW=true) (ha:aJ C d s a xa) (hb:aJ C d s b xb):my C d s (.Call (.Name "zip" p) [a,b] [] pos) (.zip xa xb):=fun _ _ _ _ _ _ _ _ _ tg ht a0 h'=>by
 obtain⟨elts,k,pp,rfl⟩:=ht
 exact ob h' fun _ h1 h'=>ob h' fun _ h2 h'=>ob h' fun l _ h'=>ob h' fun r _ h'=>oi h' fun hlen h'=>oj h' (mF (T := "zip") gk a0 (.tail _ (.tail _ (.tail _ (.head _)))) h hs (ia ha (mG hb)) (wf h1 h2) fun _ _ _ _ m1 g1 r1=>by
  obtain⟨v,_,rfl,r1,w,_,rfl,r2,rfl⟩:=r1
  exact qF m1 (p2.zip a0.room g1 (l.2▸r1) (r.2▸r2) hlen))
theorem wg {R1:RM} {ρ1:List Addr} {s1:Shared} {v:AV} {t:Sem Value} (m:Mv No R ρ st R1 ρ1 s1) {s2:Shared} (h:wpAny X.M A t (b5 R1 ρ1 s1 v H') NoE s2):wpAny X.M A t (b5 R ρ st v H') NoE s2 :=
 Kq h (fun _ _ z0=>by obtain⟨R',ρ',m',g',r'⟩:=z0;exact⟨R',ρ',m.trans m',g',r'⟩) fun _ _ e=>e
theorem oQ (p2:bM) {gl:List (Str×GV)} (gk:GOk X gl) (hdb:∀ p∈gl,(p.1==("__debug__" : Str))=false) (hs:s.glob=gl) {n:Str} {p p' pos pos':Pos} {l:List Expr} {xl:XL} (h:s.g n=some (.ty "list")) (hr:s.kinds.lookup ("range" : Str)=some .globalImplicit) (hn:l.all aW=true) (hl:km C d s l xl) :
  aJ C d s (.Call (.Name n p) [.Call (.Name "range" p') l [] pos'] [] pos) (.listRange xl):=fun _ _ _ _ _ _ _ _ _ a0 h' =>
 ob h' fun _ h1 h'=>ob h' fun _ h2 h'=>oj h' (wpAny_Call_Name_kw (ff gk hs a0 h (jx hdb (hs▸(lm h).2.2)) fun f hf=>(show f = .type "list" from hf) ▸
  PySem.callWith_type rfl (bQ (aZ (l:=[_]) rfl) rfl (PyProof.Rows.spliced_more (mF (T := "range") gk a0 (.head _) hr hn hl h1 fun _ _ _ _ m1 g1 r1 =>
   Kq (p2.lrange a0.room g1 r1 h2) (fun _ _ k=>spliced_nil (JZ (wg m1 k))) fun _ _ e=>e)))))
theorem qG (p3:uE) {gl:List (Str×GV)} (gk:GOk X gl) (hdb:∀ p∈gl,(p.1==("__debug__" : Str))=false) (hs:s.glob=gl) (or:mw C d) (hp:∀ a H r H',C 9 [a] [] H=some (r,H')→H'=H) {n m:Str} {p p' p'' pos pos':Pos} {a:Expr} {xa:X'} (h:s.g n=some (.ty "tuple")) (hr:s.kinds.lookup ("map" : Str)=some .globalImplicit) (hm:s.g m=some (.fn 9)) (hn:aW a=true) (ha:aJ C d s a xa) :
  aJ C d s (.Call (.Name n p) [.Call (.Name "map" p') [.Name m p'',a] [] pos'] [] pos) (.tupleMap 9 xa):=fun _ _ _ _ _ _ _ _ _ a0 h' =>
 ob h' fun _ h1 h'=>ob h' fun _ h2 h'=>ob h' fun _ h3 h'=>oj h' (wpAny_Call_Name_kw (ff gk hs a0 h (jx hdb (hs▸(lm h).2.2)) fun f hf=>(show f = .type "tuple" from hf) ▸
  PySem.callWith_type rfl (bQ (aZ (l:=[_]) rfl) rfl (PyProof.Rows.spliced_more (mF (T := "map") gk a0 (.tail _ (.head _)) hr (l:=[.Name m p'',a]) (show (true&&(aW a&&true))=true by refine rT hn ?_;rfl)
   (ia (jy gk hdb hs hm (a := .fn 9) fun _ _ _ _ h=>h) (mG ha)) (wf (p:=(.fn 9,_)) rfl h1) fun _ _ _ _ m1 g1 r1=>by
    obtain⟨v,_,rfl,r1,w,_,rfl,r2,rfl⟩:=r1
    exact (show v = .ref (X.F 9) from r1)▸Kq (p3.tmap or a0.room g1 r2 h2 h3 hp (gk.fn m 9 (hs▸(lm hm).2.2))) (fun _ _ k=>spliced_nil (JZ (wg m1 k))) fun _ _ e=>e)))))
end
structure iy (gl:List (Str×GV)) (C:ae) (d:Nat):Prop where
 pr:dD
 p2:bM
 p3:uE
 gk:GOk X gl
 hdb:∀ p∈gl,(p.1==("__debug__" : Str))=false
 or:mw C d
 hp:∀ a H r H',C 9 [a] [] H=some (r,H')→H'=H
section
variable {C:ae} {d:Nat} {s:Sc} {gl:List (Str×GV)}
theorem mH {α:Type} {c:Prop} [Decidable c] {a:Option α} {x:α} (h:(if c then a else none)=some x):c∧a=some x:=by
 by_cases hc:c
 ·rw [if_pos hc] at h;exact⟨hc,h⟩
 ·rw [if_neg hc] at h;cases h
noncomputable def uH:X'→Bool
 |.un .Not _ | .bool _ _ | .ife _ _ _ | .cmp _ _=>false
 |_=>true
theorem Aa {x:X'} (h:uH x=true) (V:VM) (H:AH):tv C x (ev C x V H) V H=(ev C x V H).bind fun p=>(cG p.2 p.1).bind fun b=>some (b,p.2):=by
 cases x<;>first|rfl|(cases h)|skip
 rename_i op a
 cases op<;>first|rfl|cases h
noncomputable def Ab:Expr→Bool
 |.UnaryOp .Not .. | .BoolOp .. | .IfExp .. | .Compare ..=>false
 |_=>true
theorem qH {e:Expr} (h:Ab e=true) (env:Env) (whole:Sem Value):isTrue e env whole=(do let v ← whole;standAt e.pos;holding [v] (truthy v)):=by
 cases e<;>first|rfl|(cases h)|skip
 rename_i op a p
 cases op<;>first|rfl|cases h
noncomputable def Ac (C:ae) (d:Nat) (s:Sc) (e:Expr) (x:X'):Prop:=aJ C d s e x∧iZ C d s e x
theorem gu (pr:dD) {e:Expr} {x:X'} (he:aJ C d s e x) (h1:Ab e=true) (h2:uH x=true):Ac C d s e x:=⟨he,zR pr he (Aa h2) (qH h1)⟩
theorem wh {gv:GV} {b:BI} (h:gv = .bi b∨(gv = .ty "int" ∧ b = .int16)∨(gv = .ty "set" ∧ b = .set)∨(gv = .ty "type" ∧ b = .type)):∀ v,w9 X gv v→v=oK b:=by
 intro v hv
 rcases h with rfl|⟨rfl,rfl⟩|⟨rfl,rfl⟩|⟨rfl,rfl⟩<;>exact hv
noncomputable def tgB (e:Expr):IT→Bool
 |.enum _=>(fJ e).isSome
 |.zip _ _=>(fJ e).isSome
 |_=>true
theorem wi {e:Expr} {x:IT} (k:tgB e x=true):sg x e:=by
 have key:(fJ e).isSome=true→∃ elts k p,e = .Tuple elts k p:=fun h=>by
  obtain⟨y,_⟩:=Option.isSome_iff_exists.mp h
  exact⟨_,_,_,y.2⟩
 cases x with
 |enum _=>exact key k
 |zip _ _=>exact key k
 |_=>trivial
structure GZ (C:ae) (d:Nat) (s:Sc) (l:List Expr) (x:XL):Prop where
 le:km C d s l x
 fe:oP C d s l x
 be:∀ op,xn C d s op l x
 sh:(l=[]∧x = .nil)∨∃ a b c f,l=a::b∧x = .cons c f
structure Fi (C:ae) (d:Nat) (s:Sc) (ops:List CmpOp) (l:List Expr) (x:CL):Prop where
 c:r9 C d s ops l x
 sh:l=[]∨∃ a b c,x = .cons a b c
noncomputable abbrev Cm (C:ae) (d:Nat) (gl:List (Str×GV)):Type:=∀ s:Sc,s.glob=gl→∀ e:Expr,Option {x:X' // Ac C d s e x}
variable (B:iy gl C d) (I:Cm C d gl) (s:Sc) (hs:s.glob=gl)
noncomputable def cL (l:List Expr):Option {x:XL // GZ C d s l x} :=
 List.rec (motive:=fun l=>Option {x:XL // GZ C d s l x}) (some ⟨.nil,sd,sk,fun _=>zN,.inl ⟨rfl,rfl⟩⟩)
  (fun e _ ih=>(I s hs e).bind fun a=>ih.bind fun b=>some ⟨.cons a.1 b.1,ia a.2.1 b.2.le,xz a.2.2 b.2.fe,fun op=>xp B.pr a.2.1 a.2.2 (b.2.be op) b.2.sh,.inr ⟨_,_,_,_,rfl,rfl⟩⟩) l
theorem Ad:r9 C d s [] [] .nil:=fun _ _ _ _ _ _ _ _ _ _ _ _ _ _ h=>by cases h
theorem xF (pr:dD) {op op':CmpOp} {e e':Expr} {ops:List CmpOp} {es:List Expr} {xe:X'} {xr:CL} (he:aJ C d s e xe) (hr:Fi C d s (op'::ops) (e'::es) xr):r9 C d s (op::op'::ops) (e::e'::es) (.cons op xe xr) :=
 hr.sh.elim (fun h=>by cases h) fun z0=>by obtain⟨_,_,_,h⟩:=z0;exact xm pr he hr.c h
noncomputable def cC (l:List Expr):∀ ops:List CmpOp,Option {x:CL // Fi C d s ops l x} :=
 List.rec (motive:=fun l=>∀ ops:List CmpOp,Option {x:CL // Fi C d s ops l x})
  (fun ops=>match ops with
   |[]=>some ⟨.nil,Ad s,.inl rfl⟩
   |_::_=>none)
  (fun e es ih ops=>match ops with
   |[]=>none
   |[op]=>(match es with
    |[]=>(I s hs e).bind fun a=>some ⟨.cons op a.1 .nil,zL B.pr a.2.1,.inr ⟨_,_,_,rfl⟩⟩
    |_::_=>none)
   |op::op'::ops=>(match es,ih with
    |[],_=>none
    |_::_,ih=>(I s hs e).bind fun a=>(ih (op'::ops)).bind fun b=>some ⟨.cons op a.1 b.1,xF s B.pr a.2.1 b.2,.inr ⟨_,_,_,rfl⟩⟩)) l
noncomputable def cO (o:Option Expr):Option {x:gZ // xc C d s o x}:=match o with
 |none=>some ⟨.no,Fd⟩
 |some e=>(I s hs e).bind fun a=>some ⟨.yes a.1,CW a.2.1⟩
noncomputable def cK (l:List Keyword):Option {x:KL // xg C d s l x} :=
 List.rec (motive:=fun l=>Option {x:KL // xg C d s l x}) (some ⟨.nil,zK⟩)
  (fun k _ ih=>match k with
   |⟨some n,e,_⟩=>(I s hs e).bind fun a=>ih.bind fun b=>some ⟨.cons n a.1 b.1,xj a.2.1 b.2⟩
   |⟨none,_,_⟩=>none) l
noncomputable def G2 (n:Str) (p:Pos):Option {x:X' // Ac C d s (.Name n p) x}:=match hi:s.slot n with
 |some i=>if hd:(n==("__debug__" : Str))=true then none else some ⟨.v i,gu B.pr (zI (dx hi) (Bool.eq_false_iff.mpr hd)) rfl rfl⟩
 |none=>(match hg:s.g n with
  |some (.fn k)=>some ⟨.g (.fn k),gu B.pr (jy B.gk B.hdb hs hg fun _ _ _ _ h=>h) rfl rfl⟩
  |some (.set l)=>some ⟨.g (.fset l),gu B.pr (jy B.gk B.hdb hs hg zT) rfl rfl⟩
  |some (.ty t)=>some ⟨.g (.ty t),gu B.pr (jy B.gk B.hdb hs hg fun _ _ _ _ h=>h) rfl rfl⟩
  |_=>none)
noncomputable def G3 (f:Str) (p:Pos) (l:List Expr) (ks:List Keyword) (pos:Pos) (hn:l.all aW=true):Option {x:X' // aJ C d s (.Call (.Name f p) l ks pos) x∧uH x=true} :=
 match hg:s.g f with
 |some (.fn k)=>(cL B I s hs l).bind fun a=>(cK I s hs ks).bind fun b=>some ⟨.call k a.1 b.1,zU B.gk B.hdb hs B.or hg hn a.2.le b.2,rfl⟩
 |some (.bi b)=>(match ks with
  |[]=>(cL B I s hs l).bind fun a=>some ⟨.bi b a.1,qD B.pr B.gk B.hdb hs hg (wh (.inl rfl)) hn a.2.le,rfl⟩
  |_::_=>none)
 |some (.ty t)=>(match ks with
  |[] =>
   if ht:t = "list" then (match l with
    |[.Call (.Name r _) l' [] _]=>if h:s.kinds.lookup ("range" : Str)=some .globalImplicit∧r=("range" : Str)∧l'.all aW=true then (cL B I s hs l').bind fun a=>some ⟨.listRange a.1,by obtain⟨h1,rfl,h2⟩:=h;exact⟨oQ B.p2 B.gk B.hdb hs (ht▸hg) h1 h2 a.2.le,rfl⟩⟩ else none
    |_=>none)
   else if ht:t = "tuple" then (match l with
    |[.Call (.Name r _) [.Name g _,a] [] _]=>if h:s.kinds.lookup ("map" : Str)=some .globalImplicit∧r=("map" : Str)∧aW a=true then (match hm:s.g g with
      |some (.fn 9)=>(I s hs a).bind fun a=>some ⟨.tupleMap 9 a.1,by obtain⟨h1,rfl,h2⟩:=h;exact⟨qG B.p3 B.gk B.hdb hs B.or B.hp (ht▸hg) h1 hm h2 a.2.1,rfl⟩⟩
      |_=>none) else none
    |_=>none)
   else if ht:t = "int" then (cL B I s hs l).bind fun a=>some ⟨.bi .int16 a.1,qD B.pr B.gk B.hdb hs hg (wh (.inr (.inl ⟨ht▸rfl,rfl⟩))) hn a.2.le,rfl⟩
   else if ht:t = "set" then (cL B I s hs l).bind fun a=>some ⟨.bi .set a.1,qD B.pr B.gk B.hdb hs hg (wh (.inr (.inr (.inl ⟨ht▸rfl,rfl⟩)))) hn a.2.le,rfl⟩
   else if ht:t = "type" then (cL B I s hs l).bind fun a=>some ⟨.bi .type a.1,qD B.pr B.gk B.hdb hs hg (wh (.inr (.inr (.inr ⟨ht▸rfl,rfl⟩)))) hn a.2.le,rfl⟩
   else none
  |_::_=>none)
 |_=>none
noncomputable def cI (e:Expr):Option {x:IT // my C d s e x}:=match e with
 |.Call (.Name f p) l [] pos=>if hn:s.kinds.lookup f=some .globalImplicit∧l.all aW=true then (
   if hf:f=("range" : Str) then (cL B I s hs l).bind fun a=>some ⟨.range a.1,by subst hf;exact uG B.p2 B.gk hn.1 hn.2 a.2.le⟩
   else if hf:f=("enumerate" : Str) then (match l,hn with
    |[a],hn=>(I s hs a).bind fun a=>some ⟨.enum a.1,by subst hf;exact xE B.p2 B.gk hn.1 hn.2 a.2.1⟩
    |_,_=>none)
   else if hf:f=("zip" : Str) then (match l,hn with
    |[a,b],hn=>(I s hs a).bind fun a=>(I s hs b).bind fun b=>some ⟨.zip a.1 b.1,by subst hf;exact z9 B.p2 B.gk hn.1 hn.2 a.2.1 b.2.1⟩
    |_,_=>none)
   else (I s hs (.Call (.Name f p) l [] pos)).bind fun a=>some ⟨.val a.1,su B.p2 a.2.1⟩) else none
 |e=>(I s hs e).bind fun a=>some ⟨.val a.1,su B.p2 a.2.1⟩
noncomputable def cE₁:Cm C d gl:=fun s hs e=>match e with
 |.Constant k _ _=>some ⟨.c k,gu B.pr xd rfl rfl⟩
 |.Name n p=>G2 B s hs n p
 |.BinOp a op b _=>(I s hs a).bind fun a=>(I s hs b).bind fun b=>some ⟨.bin op a.1 b.1,gu B.pr (CT B.pr a.2.1 b.2.1) rfl rfl⟩
 |.UnaryOp .Not a _=>(I s hs a).bind fun a=>some ⟨.un .Not a.1,zJ B.pr a.2.1,zP a.2.2⟩
 |.UnaryOp .USub a _=>(I s hs a).bind fun a=>some ⟨.un .USub a.1,gu B.pr (zJ B.pr a.2.1) rfl rfl⟩
 |.BoolOp op l _=>(cL B I s hs l).bind fun l=>some ⟨.bool op l.1,zO (l.2.be op),xq (l.2.be op)⟩
 |.Compare a ops l _=>if hm:lastMarks ops l=false then (I s hs a).bind fun a=>(cC B I s hs l ops).bind fun l=>some ⟨.cmp a.1 l.1,CX hm a.2.1 l.2.c,zM hm a.2.1 l.2.c⟩ else none
 |.IfExp t a b _=>(I s hs t).bind fun t=>(I s hs a).bind fun a=>(I s hs b).bind fun b=>some ⟨.ife t.1 a.1 b.1,CU t.2.2 a.2.1 b.2.1,zQ t.2.2 a.2.2 b.2.2⟩
 |.List l _=>if hn:l.all aW=true then (cL B I s hs l).bind fun l=>some ⟨.lst l.1,gu B.pr (CY hn l.2.le) rfl rfl⟩ else none
 |.Tuple l _ _=>if hn:l.all aW=true then (cL B I s hs l).bind fun l=>some ⟨.tup l.1,gu B.pr (CZ hn l.2.le) rfl rfl⟩ else none
 |.Set [a] 0 _=>if hn:aW a=true then (I s hs a).bind fun a=>some ⟨.set1 a.1,gu B.pr (zS B.pr hn a.2.1) rfl rfl⟩ else none
 |.Dict [] [] _=>some ⟨.dict0,gu B.pr xu rfl rfl⟩
 |.Subscript a (.Slice lo hi st _) _=>(I s hs a).bind fun a=>(cO I s hs lo).bind fun l=>(cO I s hs hi).bind fun h=>(cO I s hs st).bind fun t=>some ⟨.sl a.1 l.1 h.1 t.1,gu B.pr (Fe B.pr a.2.1 l.2 h.2 t.2) rfl rfl⟩
 |.Subscript a i _=>(I s hs a).bind fun a=>(I s hs i).bind fun i=>some ⟨.sub a.1 i.1,gu B.pr (CV B.pr a.2.1 i.2.1) rfl rfl⟩
 |.Call (.Attribute o m apos) l [] pos=>if h:apos.endLine=pos.line∧l.all aW=true∧ka o=true∧l.length<20 then (match h6:E7 o m with
  |some me=>(I s hs o).bind fun o=>(cL B I s hs l).bind fun a=>some ⟨.meth me o.1 a.1,gu B.pr (zV B.pr h6 h.1 h.2.1 h.2.2.1 h.2.2.2 o.2.1 a.2.le) rfl rfl⟩
  |none=>none) else none
 |.Call (.Name f p) l ks pos=>if hn:l.all aW=true then (G3 B I s hs f p l ks pos hn).bind fun x=>some ⟨x.1,gu B.pr x.2.1 rfl x.2.2⟩ else none
 |.ListComp e [⟨t,it,ifs,0⟩] sc _=>if h:mq s sc=true∧tOk sc t=true∧gj it=true then (match h4:cT (aM s sc) t with
  |some tg=>(cI B I s hs it).bind fun xi=>(cL B I (aM s sc) hs ifs).bind fun xf=>(I (aM s sc) hs e).bind fun xe=>if h8:tgB t xi.1=true then some ⟨.lc (cJ s sc.names) tg xi.1 xf.1 xe.1,gu B.pr (z8 B.p2 (kq h.1) h.2.1 h.2.2 (wi h8) h4 xi.2 xf.2.fe xe.2.1) rfl rfl⟩ else none
  |none=>none) else none
 |.SetComp e [⟨t,it,[],0⟩] sc _=>if h:mq s sc=true∧tOk sc t=true∧gj it=true then (match h4:cT (aM s sc) t with
  |some tg=>(cI B I s hs it).bind fun xi=>(I (aM s sc) hs e).bind fun xe=>if h8:tgB t xi.1=true then some ⟨.sc (cJ s sc.names) tg xi.1 xe.1,gu B.pr (Fg B.p2 (kq h.1) h.2.1 h.2.2 (wi h8) h4 xi.2 xe.2.1) rfl rfl⟩ else none
  |none=>none) else none
 |_=>none
noncomputable def cE (n:Nat):Cm C d gl:=Nat.rec (fun _ _ _=>none) (fun _ I=>cE₁ B I) n
end
structure uI:Prop where
 seti:∀ {A:Around} {d:Nat} {R:RM} {ρ:List Addr} {s:Shared} {H H':AH} {o i x:AV} {co ci cx:Value},aI A d→ag R ρ H s.heap→Rel R ρ o co→Rel R ρ i ci→Rel R ρ x cx→w6 H o i x=some H' →
  wpAny X.M A (setItem co ci cx) (fun _ s'=>∃ R' ρ',Mv No R ρ s R' ρ' s'∧ag R' ρ' H' s'.heap) NoE s
noncomputable def Ae (R:RM) (ρ:List Addr):Fl→Flow→Prop
 |.next,f=>f = .next
 |.brk,f=>f = .brk
 |.cont,f=>f = .cont
 |.ret v,f=>∃ cv,f = .ret cv∧Rel R ρ v cv
noncomputable def Fj (s:Sc) (O:Addr→Prop) (env:Env):Prop:=∀ (i:Nat) x,s.slots[i]?=some x→eS O env x
inductive gx (d:Nat) (s:Sc) (A:Around) (O:Addr→Prop) (env:Env) (R:RM) (ρ:List Addr) (st:Shared) (q:Fl×VM×AH) (fl:Flow) (s':Shared):Prop
 |mk (R':RM) (ρ':List Addr) (m:Mv O R ρ st R' ρ' s') (a:At d s A O env q.2.1 R' ρ' q.2.2 s') (r:Ae R' ρ' q.1 fl)
noncomputable def eT (C:ae) (N d:Nat) (s:Sc) (t:Stmt) (x:S):Prop :=
 ∀ A O env,Fj s O env→∀ V R ρ H st q,At d s A O env V R ρ H st→ex C N x V H=some q→wpAny X.M A (exec t env) (gx d s A O env R ρ st q) NoE st
noncomputable def fg (C:ae) (N d:Nat) (s:Sc) (t:List Stmt) (x:SL):Prop :=
 ∀ A O env,Fj s O env→∀ V R ρ H st q,At d s A O env V R ρ H st→exs C N x V H=some q→wpAny X.M A (execs t env) (gx d s A O env R ρ st q) NoE st
section
variable {C:ae} {N d:Nat} {s:Sc} {A:Around} {O:Addr→Prop} {R R':RM} {ρ ρ':List Addr} {st st':Shared} {H H' H₁:AH} {env:Env} {V V':VM} {gl:List (Str×GV)} {q:Fl×VM×AH}
theorem gx.of {R₀:RM} {ρ₀:List Addr} {s₀:Shared} {fl:Flow} {s':Shared} (m:Mv O R₀ ρ₀ s₀ R ρ st) (h:gx d s A O env R ρ st q fl s'):gx d s A O env R₀ ρ₀ s₀ q fl s' :=
 have ⟨R',ρ',m',a,r⟩:=h
 ⟨R',ρ',m.trans m',a,r⟩
theorem qI {R₀:RM} {ρ₀:List Addr} {s₀ s₁:Shared} {t:Sem Flow} (m:Mv O R₀ ρ₀ s₀ R ρ st) (h:wpAny X.M A t (gx d s A O env R ρ st q) NoE s₁):wpAny X.M A t (gx d s A O env R₀ ρ₀ s₀ q) NoE s₁ :=
 Kq h (fun _ _ k=>k.of m) fun _ _ e=>e
theorem fh {M:Model} {E:Value→Shared→Prop} {t x:Expr} {pos:Pos} {Q:Flow→Shared→Prop} (h1:swapsWith x (some t) pos.line env=pure false) (h2:swappedStores [t] x env=pure none) (h3:assignEach [t] env=[(false,assign t env)])
  (h:wpAny M A (eval x env) (fun v s₁=>wpAny M A (assign t env v) (fun _ s₂=>Q .next s₂) E s₁) E st):wpAny M A (exec (.Assign [t] x pos) env) Q E st:=by
 refine rT (arm_exec_Assign ..) ?_
 refine JX (wpAny_standAt ?_)
 refine (?_:wpAny _ _ (swapsWith x (some t) pos.line env >>= _) _ _ _)
 refine rT h1 ?_
 refine JX (JZ (JX (Kq h (fun v s₁ h₁ => ?_) fun _ _ e=>e)))
 refine rT h2 ?_
 refine JX (JZ ?_)
 refine rT h3 ?_
 exact JX (Kq h₁ (fun _ s₂ h₂=>JZ h₂) fun _ _ e=>e)
theorem mI {x:Expr} {t:Option Expr} {n:Nat} (h:kj x=true):swapsWith x t n env=pure false:=by
 cases x<;>first|rfl|cases h
theorem Af (B:iy gl C d) (p4:uI) {o i x:Expr} {p pos:Pos} {xo xi xx:X'} (hn:kj x=true) (ho:aJ C d s o xo) (hi:aJ C d s i xi) (hx:aJ C d s x xx):eT C N d s (.Assign [.Subscript o i p] x pos) (.asgSub xo xi xx):=fun _ _ _ _ _ _ _ _ _ _ a0 h =>
 ob h fun _ h1 h=>ob h fun _ h2 h=>ob h fun _ h3 h=>ob h fun _ h4 h=>oj h (wpAny_Assign_Subscript ((hx _ _ _ _ _ _ _ _ _ a0 h1).wp fun _ _ _ _ m1 g1 r1 =>
  have a1:=a0.mv m1 g1
  (ho _ _ _ _ _ _ _ _ _ a1 h2).wp fun _ _ _ _ m2 g2 r2 =>
  have a2:=a1.mv m2 g2
  (hi _ _ _ _ _ _ _ _ _ a2 h3).wp fun _ _ _ _ m3 g3 r3 =>
  Kq (p4.seti a0.room g3 (m3.rel r2) r3 (m3.rel (m2.rel r1)) h4) (fun _ _ z0=>by obtain⟨R4,ρ4,m4,g4⟩:=z0;exact⟨R4,ρ4,(((m1.trans m2).trans m3).trans m4).up,(a2.mv m3 g3).mv m4 g4,rfl⟩) fun _ _ e=>e) (mI hn))
theorem C6 (B:iy gl C d) {n:Str} {i:Nat} {op:Operator} {x:Expr} {p pos:Pos} {xx:X'} (hi:s.slots[i]?=some n) (hx:aJ C d s x xx):eT C N d s (.AugAssign (.Name n p) op x pos) (.aug i op xx):=fun _ _ _ fo _ _ _ _ _ _ a0 h =>
 ob h fun _ h0 h=>ob h fun _ h1 h=>ob h fun _ h2 h=>oj h (wpAny_AugAssign_Name (a0.e.load hi (pG h0) fun _ r0=>(hx _ _ _ _ _ _ _ _ _ a0 h1).wp fun _ _ _ _ m1 g1 r1 =>
  (B.pr.inpl a0.room g1 (m1.rel r0) r1 h2).wp fun R2 ρ2 _ _ m2 g2 r2=>(a0.mv (m1.trans m2) g2).e.store g2 hi (fo i n hi) r2 fun _ m3 g3 e3=>⟨R2,ρ2,(m1.trans m2).up.trans m3,⟨a0.room,a0.sc,e3,g3⟩,rfl⟩))
theorem C7 {t:Expr} {a b:List Stmt} {pos:Pos} {xt:X'} {xa xb:SL} (ht:iZ C d s t xt) (ha:fg C N d s a xa) (hb:fg C N d s b xb):eT C N d s (.If t a b pos) (.ite xt xa xb):=fun _ _ _ fo _ _ _ _ _ _ a0 h =>
 ob h fun p h1 h=>wpAny_If ((ht _ _ _ _ _ _ _ _ _ a0 h1).wp fun R1 ρ1 c s1 m1 g1 r1=>by
  obtain⟨b,H1⟩:=p
  cases (show c=b from r1)
  cases c with
  |true=>exact qI m1.up (ha _ _ _ fo _ _ _ _ _ _ (a0.mv m1 g1) h)
  |false=>exact qI m1.up (hb _ _ _ fo _ _ _ _ _ _ (a0.mv m1 g1) h))
theorem C8 {x:Expr} {pos:Pos} {xx:X'} (hx:aJ C d s x xx):eT C N d s (.Return (some x) pos) (.ret xx):=fun _ _ _ _ _ _ _ _ _ _ a0 h =>
 ob h fun _ h1 h=>oj h (wpAny_Return_some ((hx _ _ _ _ _ _ _ _ _ a0 h1).wp fun R1 ρ1 cv _ m1 g1 r1=>⟨R1,ρ1,m1.up,a0.mv m1 g1,cv,rfl,r1⟩))
theorem lO (e:dM O s.slots env V R ρ st.heap):interactive env=false:=by
 unfold interactive;refine rT e.kind ?_;rfl
theorem Ag {x:Expr} {pos:Pos} {xx:X'} (hn:kj x=true) (hx:aJ C d s x xx):eT C N d s (.Expr x pos) (.expr xx):=fun _ _ _ _ _ _ _ _ _ _ a0 h =>
 ob h fun _ h1 h=>oj h (wpAny_Expr_any ((hx _ _ _ _ _ _ _ _ _ a0 h1).wp fun R1 ρ1 _ _ m1 g1 _=>⟨R1,ρ1,m1.up,a0.mv m1 g1,rfl⟩) (lO a0.e) (mI hn))
theorem C9 {b:List Stmt} {h₀:ExceptHandler} {hs:List ExceptHandler} {pos:Pos} {xb:SL} (hb:fg C N d s b xb):eT C N d s (.Try b (h₀::hs) [] [] pos) (.try xb):=fun _ _ _ fo _ _ _ _ _ _ a0 h =>
 wpAny_Try_except (Kq (hb _ _ _ fo _ _ _ _ _ _ a0 h) (fun fl s' k=>by
  cases fl with
  |next=>exact wpAny_execs_nil k
  |_=>exact k) fun _ _ e=>e.elim)
theorem Db (a0:At d s A O env V R ρ H st) {f:Fl} {fl:Flow} (r:Ae R ρ f fl):gx d s A O env R ρ st (f,V,H) fl st:=⟨R,ρ,Mv.refl st,a0,r⟩
theorem Dc {pos:Pos}:eT C N d s (.Break pos) .brk:=fun _ _ _ _ _ _ _ _ _ _ a0 h=>oj h (JX (wpAny_standAt (JZ (Db a0 rfl))))
theorem Ah {pos:Pos}:eT C N d s (.Continue pos) .cont:=fun _ _ _ _ _ _ _ _ _ _ a0 h=>oj h (JX (wpAny_standAt (JZ (Db a0 rfl))))
theorem Ai {pos:Pos}:eT C N d s (.Pass pos) .pass:=fun _ _ _ _ _ _ _ _ _ _ a0 h=>oj h (JX (wpAny_standAt (JZ (Db a0 rfl))))
theorem Dd {t:Stmt}:eT C N d s t .bad:=fun _ _ _ _ _ _ _ _ _ _ _ h=>by cases h
theorem Aj:fg C N d s [] .nil:=fun _ _ _ _ _ _ _ _ _ _ a0 h=>oj h (wpAny_execs_nil (Db a0 rfl))
theorem xG {t:Stmt} {r:List Stmt} {x:S} {xr:SL} (ht:eT C N d s t x) (hr:fg C N d s r xr):fg C N d s (t::r) (.cons x xr):=fun _ _ _ fo _ _ _ _ _ _ a0 h =>
 ob h fun p h1 h=>wpAny_execs_cons (Kq (ht _ _ _ fo _ _ _ _ _ _ a0 h1) (fun fl s' k=>by
  obtain⟨f,V1,H1⟩:=p
  have ⟨R1,ρ1,m1,a1,r1⟩:=k
  cases f with
  |next=>cases (show fl = .next from r1);exact qI m1 (hr _ _ _ fo _ _ _ _ _ _ a1 h)
  |brk=>cases (show fl = .brk from r1);exact oj h k
  |cont=>cases (show fl = .cont from r1);exact oj h k
  |ret v=>obtain⟨cv,rfl,rv⟩:=r1;exact oj h k) fun _ _ e=>e)
theorem wj (B:iy gl C d) {t x:Expr} {pos:Pos} {tt:Tgt} {xx:X'} (ht:cT s t=some tt) (hn:swappedStores [t] x=fun _=>pure none) (hx:aJ C d s x xx) (hsw:∀ env,swapsWith x (some t) pos.line env=pure false):eT C N d s (.Assign [t] x pos) (.asg tt xx):=fun _ _ env fo _ _ _ _ _ _ a0 h =>
 ob h fun _ h1 h=>ob h fun _ h2 h=>oj h (fh (hsw env) (by exact rT hn rfl) (uz ht (fun x _ _ _ _=>by refine rT x.2 ?_;rfl) fun x _ _ _ _ _=>by refine rT x.2 ?_;rfl) ((hx _ _ _ _ _ _ _ _ _ a0 h1).wp fun _ _ _ _ m1 g1 r1 =>
  fN B.p2 ht a0.room (a0.e.mv m1) g1 (fun i _ x hx=>fo i x hx) h2 r1 fun R2 ρ2 _ m2 g2 e2=>⟨R2,ρ2,m1.up.trans m2,⟨a0.room,a0.sc,e2,g2⟩,rfl⟩))
theorem uJ (B:iy gl C d) {n:Str} {p lpos pos:Pos} {i:Nat} {elt tg iter:Expr} {ifs:List Expr} {sc:Scope} {t:Tgt} {xi:IT} {xf:XL} {xe:X'} (hi:s.slots[i]?=some n) (hcn:cT s (.Name n p)=some (.name i)) (hc:cM s sc) (htk:tOk sc tg=true) (hset:gj iter=true) (hit:sg xi tg) (hT:cT (aM s sc) tg=some t)
  (hI:my C d s iter xi) (hF:oP C d (aM s sc) ifs xf) (hE:aJ C d (aM s sc) elt xe) :
  eT C N d s (.Assign [.Name n p] (.ListComp elt [⟨tg,iter,ifs,0⟩] sc lpos) pos) (.asg (.name i) (.lc (cJ s sc.names) t xi xf xe)):=fun _ _ env fo _ _ _ _ _ _ a0 h =>
 ob h fun _ h1 h=>ob h fun _ h2 h=>oj h (by
 cases hb:(env.blockKind == .function&&env.kindOf n==some .local&&p.line==lpos.line&&!(sc.names.any fun (m,k)=>m==n&&(k == .local||k == .cell))) with
 |false =>
  exact fh (show (pure _:Sem Bool)=_ from congrArg pure hb) rfl rfl ((z8 B.p2 hc htk hset hit hT hI hF hE _ _ _ _ _ _ _ _ _ a0 h1).wp fun _ _ _ _ m1 g1 r1 =>
   fN B.p2 hcn a0.room (a0.e.mv m1) g1 (fun i _ x hx=>fo i x hx) h2 r1 fun R2 ρ2 _ m2 g2 e2=>⟨R2,ρ2,m1.up.trans m2,⟨a0.room,a0.sc,e2,g2⟩,rfl⟩)
 |true =>
  cases h2
  have hsw:swapsWith (.ListComp elt [⟨tg,iter,ifs,0⟩] sc lpos) (some (.Name n p)) pos.line env=pure true:=congrArg pure hb
  refine rT (exec_Assign_Name_used _ _ _ _ hsw) ?_
  exact JX (wpAny_standAt (JX (uD B.p2 hc htk hset hit hT hI hF hE a0 hi (fo i n hi) h1 fun R1 ρ1 _ m1 g1 e1=>JZ ⟨R1,ρ1,m1,⟨a0.room,a0.sc,e1,g1⟩,rfl⟩))))
noncomputable def Ak (P:Shared→Prop) (Q:Flow→Shared→Prop):Flow→Shared→Prop
 |.next=>P
 |.cont=>P
 |.brk=>Q .next
 |.ret v=>Q (.ret v)
theorem pK {go:VM→AH→Option (Fl×VM×AH)} {r:Fl×VM×AH} {fl:Flow} {s':Shared} {P:Shared→Prop} {Q:Flow→Shared→Prop} (h:rV go r=some q) (k:gx d s A O env R ρ st r fl s')
  (hP:∀ R' ρ',Mv O R ρ st R' ρ' s'→At d s A O env r.2.1 R' ρ' r.2.2 s'→go r.2.1 r.2.2=some q→P s')
  (hQ:∀ R' ρ' fl',Mv O R ρ st R' ρ' s'→At d s A O env q.2.1 R' ρ' q.2.2 s'→Ae R' ρ' q.1 fl'→Q fl' s'):Ak P Q fl s':=by
 obtain⟨f,V1,H1⟩:=r
 obtain⟨R1,ρ1,m1,a1,r1⟩:=k
 cases f with
 |next=>cases (show fl = .next from r1);exact hP R1 ρ1 m1 a1 h
 |cont=>cases (show fl = .cont from r1);exact hP R1 ρ1 m1 a1 h
 |brk=>cases (show fl = .brk from r1);cases h;exact hQ R1 ρ1 .next m1 a1 rfl
 |ret v=>obtain⟨cv,rfl,rv⟩:=r1;cases h;exact hQ R1 ρ1 (.ret cv) m1 a1 ⟨cv,rfl,rv⟩
noncomputable abbrev wk (M:Model) (A:Around) (env:Env) (Q:Flow→Shared→Prop) (r:Result) (s':Shared):Prop:=match r with
 |.ok f'=>Q f' s'
 |.error e=>cameBackBy M A env NoE e s'
section
variable {prog:Program} {w:World} {Q:Flow→Shared→Prop} {I:Nat→Shared→Prop} {sh:Shared}
theorem Al {t:Expr} {b:List Stmt} (h0:∀ s,¬ I 0 s) (turn:∀ n s,I (n+1) s→wpAny (model prog w) A (isTrue t env (eval t env)) (fun c s₂=>(c=true→wpAny (model prog w) A (execs b env) (Ak (I n) Q) NoE s₂)∧(c=false→Q .next s₂)) NoE s) (n:Nat) (h:I n sh) :
  codeAny (model prog w) A (.whileLoop t b [] env) (wk (model prog w) A env Q) sh:=by
 refine codeAny_whileLoop I (fun n s hI => ?_) n h
 cases n with
 |zero=>exact (h0 s hI).elim
 |succ n =>
  refine noE (Kq (turn n s hI) (fun c s₂ h => ?_) fun _ _ e=>e)
  cases c with
  |true =>
   refine noE (Kq (h.1 rfl) (fun fl s₃ h => ?_) fun _ _ e=>e)
   cases fl with
   |next=>exact⟨n,Nat.lt_succ_self n,h⟩
   |cont=>exact⟨n,Nat.lt_succ_self n,h⟩
   |brk=>exact h
   |ret v=>exact h
  |false=>exact wpAny_execs_nil (h.2 rfl)
theorem Fk {tg:Expr} {it:Value} {b:List Stmt} {N:Nat} (turn:∀ i s,i<N→I i s→wpAny (model prog w) A (pyNext it) (fun r s₁=>∃ v,r=some v∧wpAny (model prog w) A (letOwnedTupleGo tg it v) (fun _ s₁'=>wpAny (model prog w) A (assign tg env v) (fun _ s₂=>wpAny (model prog w) A (execs b env) (Ak (I (i+1)) Q) NoE s₂) NoE s₁') NoE s₁) NoE s)
  (stop:∀ s,I N s→wpAny (model prog w) A (pyNext it) (fun r s'=>r=none∧Q .next s') NoE s) (h:I 0 sh):codeAny (model prog w) A (.forLoop tg it b [] env) (wk (model prog w) A env Q) sh:=by
 refine codeAny_forLoop_any (fun n s=>∃ i,n+i=N∧I i s) (fun n s ⟨i,hi,hI⟩ => ?_) N ⟨0,rfl,h⟩
 cases n with
 |zero =>
  cases (Nat.zero_add i).symm.trans hi
  exact noE (Kq (stop s hI) (fun r s' h'=>h'.1▸wpAny_execs_nil h'.2) fun _ _ e=>e)
 |succ n =>
  refine noE (Kq (turn i s (hi▸Nat.lt_add_of_pos_left (Nat.succ_pos n)) hI) (fun r s₁ h₁ => ?_) fun _ _ e=>e)
  obtain⟨v,rfl,h₁⟩:=h₁
  refine noE (Kq h₁ (fun _ s₁' h₁'=>noE (Kq h₁' (fun _ s₂ h₂=>noE (Kq h₂ (fun fl s₃ h => ?_) fun _ _ e=>e)) fun _ _ e=>e)) fun _ _ e=>e)
  have hi':n+(i+1)=N:=by refine rB hi ?_;refine rT (Nat.add_assoc ..) ?_;exact rT (Nat.add_comm 1 i) rfl
  cases fl with
  |next=>exact⟨n,Nat.lt_succ_self n,i+1,hi',h⟩
  |cont=>exact⟨n,Nat.lt_succ_self n,i+1,hi',h⟩
  |brk=>exact h
  |ret v=>exact h
end
inductive Jg (C:ae) (N d:Nat) (s:Sc) (A:Around) (O:Addr→Prop) (env:Env) (xt:X') (xb:SL) (R:RM) (ρ:List Addr) (st:Shared) (q:Fl×VM×AH) (n:Nat) (sh:Shared):Prop
 |mk (V1:VM) (R1:RM) (ρ1:List Addr) (H1:AH) (m:Mv O R ρ st R1 ρ1 sh) (a:At d s A O env V1 R1 ρ1 H1 sh) (h:bZ (fun V H=>tv C xt (ev C xt V H) V H) (exs C N xb) n V1 H1=some q)
theorem xH {t:Expr} {b:List Stmt} {pos:Pos} {xt:X'} {xb:SL} (ht:iZ C d s t xt) (hb:fg C N d s b xb):eT C N d s (.While t b [] pos) (.while xt xb):=fun A O env fo V R ρ H st q a0 h =>
 wpAny_While (Al (I:=Jg C N d s A O env xt xb R ρ st q) (Q:=gx d s A O env R ρ st q) (fun _ z0=>by obtain⟨_,_,_,_,_,_,h⟩:=z0;cases h) (fun n sh ⟨V1,R1,ρ1,H1,m1,a1,h1⟩ =>
  ob h1 fun p h2 h3=>(ht _ _ _ _ _ _ _ _ _ a1 h2).wp fun R2 ρ2 c s2 m2 g2 r2=>by
   have a2:=a1.mv m2 g2
   have m:=m1.trans m2.up
   refine⟨fun e => ?_,fun e => ?_⟩
   ·rw [← (show c=p.1 from r2),e] at h3
    exact ob h3 fun r h4 h5=>Kq (hb _ _ _ fo _ _ _ _ _ _ a2 h4) (fun fl s3 k=>pK h5 k (fun R' ρ' m' a' h'=>⟨_,R',ρ',_,m.trans m',a',h'⟩) fun R' ρ' fl' m' a' r'=>⟨R',ρ',m.trans m',a',r'⟩) fun _ _ e=>e
   ·rw [← (show c=p.1 from r2),e] at h3
    exact oj h3 ⟨R2,ρ2,m,a2,rfl⟩) N ⟨V,R,ρ,H,Mv.refl st,a0,h⟩)
inductive Jh (C:ae) (N d:Nat) (s:Sc) (A:Around) (O:Addr→Prop) (env:Env) (t:Tgt) (xb:SL) (l:List AV) (Fp:List Addr) (St:Nat→RM→List Addr→Heap→Prop) (R:RM) (ρ:List Addr) (st:Shared) (q:Fl×VM×AH) (i:Nat) (sh:Shared):Prop
 |mk (V1:VM) (R1:RM) (ρ1:List Addr) (H1:AH) (m:Mv (fun a=>O a∨a∈Fp) R ρ st R1 ρ1 sh) (a:At d s A O env V1 R1 ρ1 H1 sh) (s:St i R1 ρ1 sh.heap) (fr:dw Fp R1 ρ1 sh.heap) (h:ju t (exs C N xb) (l.drop i) V1 H1=some q)
theorem De (B:iy gl C d) {tg iter:Expr} {t:Tgt} {xi:IT} {b:List Stmt} {pos:Pos} {xb:SL} (hset:gj iter=true) (hit:sg xi tg) (hT:cT s tg=some t) (hI:my C d s iter xi) (hb:fg C N d s b xb):eT C N d s (.For tg iter b [] pos) (.for t xi xb):=fun A O env fo V R ρ H st q a0 h =>
 ob h fun p h1 h2=>wpAny_For (Kq (hI A O env V R ρ H st p tg hit a0 h1) (fun cx s1 k1=>Kq k1 (fun it s2 ip=>by
  obtain⟨R2,ρ2,Fp,St,m2,g2,fr2,hfp,W,st2⟩:=ip
  have hap:jw s.slots env O (·∈Fp):=fun a ha=>⟨fun hO=>a0.e.live a hO (hfp a ha),fun x hx hk hl=>by
   obtain⟨c,cv,h1,⟨o,h2,_⟩,_⟩:=a0.e.cell x hx hk
   rw [hl] at h1;cases h1
   rw [hfp a ha] at h2;cases h2⟩
  have fin:∀ {R5:RM} {ρ5:List Addr} {s5:Shared},Mv (fun a=>O a∨a∈Fp) R ρ st R5 ρ5 s5→Mv O R ρ st R5 ρ5 s5:=fun m=>⟨m.r,m.rn,m.p,fun b o e hb hO=>m.keep b o e hb fun q=>q.elim hO fun q=>(by rw [hfp b q] at e;cases e),m.live,m.gens,m.os⟩
  refine Fk (I:=Jh C N d s A O env t xb p.1 Fp St R ρ st q) (Q:=gx d s A O env R ρ st q) (N:=p.1.length) (fun i sh hil ⟨V3,R3,ρ3,H3,m3,at3,st3,fr3,h3⟩ => ?_) (fun sh ⟨V3,R3,ρ3,H3,m3,at3,st3,fr3,h3⟩ => ?_) ⟨V,R2,ρ2,p.2,m2.up,a0.mv m2 g2,st2,fr2,h2⟩
  ·rw [List.drop_eq_getElem_cons hil] at h3
   refine ob h3 fun V4 h4 h3=>ob h3 fun r5 h5 h6=>W.item i p.1[i] R3 ρ3 H3 sh _ (Ky hil) st3 at3.g fr3 fun R4 v s4 m4 g4 st4 r4 => ?_
   refine fN B.p2 hT a0.room (at3.e.mvO m4 hap) g4 (fun i hi x hx=>fo i x hx) h4 r4 fun R5 ρ5 s5 m5 g5 e5 => ?_
   have fr4:=fr3.mv m4
   have fr5:=fr4.mv m5
   have st5:=W.stable _ _ _ _ _ _ _ st4 m5.r m5.pre fun b hb o ho=>m5.keep b o ho (fr4 b hb).2.1 (hap b hb).1
   have m35:=(m3.trans (m4.weak fun a ha => .inr ha)).trans (m5.weak fun a ha => .inl ha)
   exact Kq (hb _ _ _ fo _ _ _ _ _ _ ⟨a0.room,a0.sc,e5,g5⟩ h5) (fun fl s6 k=>pK h6 k
    (fun R' ρ' m6 a' h'=>⟨_,R',ρ',_,m35.trans (m6.weak fun a ha => .inl ha),a',W.stable _ _ _ _ _ _ _ st5 m6.r m6.pre fun b hb o ho=>m6.keep b o ho (fr5 b hb).2.1 (hap b hb).1,fr5.mv m6,h'⟩)
    fun R' ρ' fl' m6 a' r'=>⟨R',ρ',fin (m35.trans (m6.weak fun a ha => .inl ha)),a',r'⟩) fun _ _ e=>e
  ·rw [List.drop_length] at h3
   exact oj h3 (W.done R3 ρ3 _ sh _ st3 at3.g fr3 fun s' e4=>⟨R3,ρ3,fin (m3.ends e4 hfp),⟨a0.room,a0.sc,at3.e.ends e4 hap,at3.g.ends fr3 e4⟩,rfl⟩)) fun _ _ e=>e) fun _ _ e=>e) (mD hset)
end
section
variable {C:ae} {N d:Nat} {gl:List (Str×GV)}
theorem sv {n:Str} {p:Pos} {x:Expr}:swappedStores [.Name n p] x=fun _=>pure none:=rfl
noncomputable def EK:Expr→Bool
 |.Tuple ..=>false
 |_=>true
theorem qJ {es:List Expr} {k:Nat} {p:Pos} {x:Expr} (h:EK x=true):swappedStores [.Tuple es k p] x=fun _=>pure none:=by
 funext env
 cases x<;>first|rfl|cases h
theorem sw {es:List Expr} {k n:Nat} {p:Pos} {x:Expr} (env:Env):swapsWith x (some (.Tuple es k p)) n env=pure false:=by
 cases x<;>rfl
variable (N) (B:iy gl C d) (p4:uI) (s:Sc) (hs:s.glob=gl)
noncomputable def sl (J:∀ t:Stmt,{x:S // eT C N d s t x}) (l:List Stmt):{x:SL // fg C N d s l x} :=
 List.rec (motive:=fun l=>{x:SL // fg C N d s l x}) ⟨.nil,Aj⟩ (fun t _ ih=>⟨.cons (J t).1 ih.1,xG (J t).2 ih.2⟩) l
noncomputable def bad (t:Stmt):{x:S // eT C N d s t x}:=⟨.bad,Dd⟩
noncomputable def cA (I:Cm C d gl) (I':Cm C d gl) (t v:Expr) (pos:Pos):Option {x:S // eT C N d s (.Assign [t] v pos) x}:=match fI t with
 |some n=>(match v with
  |.ListComp e [⟨tg,it,ifs,0⟩] sc _=>if h:mq s sc=true∧tOk sc tg=true∧gj it=true then (match hi:s.slot n.1.1,h4:cT (aM s sc) tg with
   |some i,some tt=>(cI B I' s hs it).bind fun xi=>(cL B I' (aM s sc) hs ifs).bind fun xf=>(I' (aM s sc) hs e).bind fun xe=>if h8:tgB tg xi.1=true then some ⟨.asg (.name i) (.lc (cJ s sc.names) tt xi.1 xf.1 xe.1),by
     have hcn:cT s (.Name n.1.1 n.1.2)=some (.name i):=by refine (?_:(s.slot n.1.1).bind _=_);refine rT hi ?_;rfl
     refine rT n.2 ?_
     exact uJ B (dx hi) hcn (kq h.1) h.2.1 h.2.2 (wi h8) h4 xi.2 xf.2.fe xe.2.1⟩ else none
   |_,_=>none) else none
  |v=>if hv:kj v=true then (match h1:cT s t with
   |some tt=>(I s hs v).bind fun x=>some ⟨.asg tt x.1,wj B h1 (n.2▸sv) x.2.1 fun _=>mI hv⟩
   |none=>none) else none)
 |none=>(fJ t).bind fun es=>if hv:EK v=true then (match h1:cT s t with
  |some tt=>(I s hs v).bind fun x=>some ⟨.asg tt x.1,wj B h1 (by refine rT es.2 ?_;exact qJ hv) x.2.1 fun env=>by refine rT es.2 ?_;exact sw env⟩
  |none=>none) else none
noncomputable def cS₁ (I I':Cm C d gl) (J:∀ t:Stmt,{x:S // eT C N d s t x}) (t:Stmt):Option {x:S // eT C N d s t x}:=match t with
 |.Assign [.Subscript o i _] v _=>if h:kj v=true then (I s hs o).bind fun o=>(I s hs i).bind fun i=>(I s hs v).bind fun x=>some ⟨.asgSub o.1 i.1 x.1,Af B p4 h o.2.1 i.2.1 x.2.1⟩ else none
 |.Assign [t] v pos=>cA N B s hs I I' t v pos
 |.AugAssign (.Name n _) op v _=>(match hi:s.slot n with
  |some i=>(I s hs v).bind fun x=>some ⟨.aug i op x.1,C6 B (dx hi) x.2.1⟩
  |none=>none)
 |.If t a b _=>(I s hs t).bind fun t=>some ⟨.ite t.1 (sl N s J a).1 (sl N s J b).1,C7 t.2.2 (sl N s J a).2 (sl N s J b).2⟩
 |.While t b [] _=>(I s hs t).bind fun t=>some ⟨.while t.1 (sl N s J b).1,xH t.2.2 (sl N s J b).2⟩
 |.For t it b [] _=>if h:gj it=true then (match h1:cT s t with
  |some tt=>(cI B I s hs it).bind fun xi=>if h3:tgB t xi.1=true then some ⟨.for tt xi.1 (sl N s J b).1,De B h (wi h3) h1 xi.2 (sl N s J b).2⟩ else none
  |none=>none) else none
 |.Return (some v) _=>(I s hs v).bind fun x=>some ⟨.ret x.1,C8 x.2.1⟩
 |.Expr v _=>if h:kj v=true then (I s hs v).bind fun x=>some ⟨.expr x.1,Ag h x.2.1⟩ else none
 |.Try b (_::_) [] [] _=>some ⟨.try (sl N s J b).1,C9 (sl N s J b).2⟩
 |.Break _=>some ⟨.brk,Dc⟩
 |.Continue _=>some ⟨.cont,Ah⟩
 |.Pass _=>some ⟨.pass,Ai⟩
 |_=>none
noncomputable def cS (n:Nat):∀ t:Stmt,{x:S // eT C N d s t x} :=
 Nat.rec (bad N s) (fun n J t=>(cS₁ N B p4 s hs (cE B n) (cE B (n-1)) J t).getD (bad N s t)) n
noncomputable def cB (n:Nat) (b:List Stmt):{x:SL // fg C N d s b x}:=sl N s (cS N B p4 s hs n) b
end
section
variable {C:ae} {N d:Nat} {A:Around} {O:Addr→Prop} {R R':RM} {ρ ρ':List Addr} {st st':Shared} {H H' H₁:AH} {env:Env} {V V':VM} {gl:List (Str×GV)}
theorem bb.lookup {l:List (Str×AV)} {n:Str} {a:AV}:∀ {vs:List (Str×Value)},bb R ρ l vs→l.lookup n=some a→∃ v,vs.lookup n=some v∧Rel R ρ a v:=by
 induction l with
 |nil=>intro _ _ h;cases h
 |cons p l ih =>
  intro vs k h
  obtain⟨m,b⟩:=p
  obtain⟨v,r,rfl,hr,k⟩:=k
  rw [List.lookup_cons] at h ⊢
  cases q:n==m with
  |true=>rw [q] at h;cases h;exact⟨v,rfl,hr⟩
  |false=>rw [q] at h;exact ih k h
theorem bb.names {l:List (Str×AV)}:∀ {vs:List (Str×Value)},bb R ρ l vs→vs.map (·.1)=l.map (·.1):=by
 induction l with
 |nil=>intro vs h;cases (show vs=[] from h);rfl
 |cons p l ih =>
  intro vs k
  obtain⟨m,b⟩:=p
  obtain⟨v,r,rfl,hr,k⟩:=k
  exact congrArg (m::·) (ih k)
theorem sy {kd:Str→Option NameKind} {n:Str} {r:List (Str×Value)}:∀ {m:Str→Option Value},n∉r.map (·.1)→bindL kd r m n=m n:=by
 induction r with
 |nil=>intro m _;rfl
 |cons p r ih =>
  intro m hn
  obtain⟨y,u⟩:=p
  have h1:n≠y:=fun e=>hn (e ▸ .head _)
  refine rT (ih fun h=>hn (.tail _ h)) ?_
  by_cases q:kd y=some .local
  ·refine rT (if_pos q) ?_;exact if_neg h1
  ·exact rT (if_neg q) rfl
theorem xI {kd:Str→Option NameKind} {n:Str} {v:Value} (hk:kd n=some .local) (binds:List (Str×Value)):∀ (m:Str→Option Value),(binds.map (·.1)).Nodup→binds.lookup n=some v→bindL kd binds m n=some v:=by
 induction binds with
 |nil=>intro m _ h;cases h
 |cons p r ih =>
  intro m nd h
  obtain⟨x,w⟩:=p
  have nd:=List.nodup_cons.mp nd
  rw [List.lookup_cons] at h
  unfold bindL
  cases q:n==x with
  |true =>
   rw [q] at h;cases h
   cases eq_of_beq q
   refine rT (if_pos hk) ?_;refine rT (sy nd.1) ?_;exact if_pos rfl
  |false=>rw [q] at h;exact ih _ nd.2 h
theorem sA {kd:Str→Option NameKind} {n:Str} {r:List (Str×Value)}:∀ {m:Str→Option Value},n∉r.map (·.1)→bindC kd r m n=m n:=by
 induction r with
 |nil=>intro m _;rfl
 |cons p r ih =>
  intro m hn
  obtain⟨y,u⟩:=p
  have h1:n≠y:=fun e=>hn (e ▸ .head _)
  refine rT (ih fun h=>hn (.tail _ h)) ?_
  by_cases q:kd y=some .local
  ·exact rT (if_pos q) rfl
  ·refine rT (if_neg q) ?_;exact if_neg h1
theorem xJ {kd:Str→Option NameKind} {n:Str} {v:Value} (hk:kd n=some .cell) (binds:List (Str×Value)):∀ (m:Str→Option Value),(binds.map (·.1)).Nodup→binds.lookup n=some v→bindC kd binds m n=some v:=by
 induction binds with
 |nil=>intro m _ h;cases h
 |cons p r ih =>
  intro m nd h
  obtain⟨x,w⟩:=p
  have nd:=List.nodup_cons.mp nd
  rw [List.lookup_cons] at h
  unfold bindC
  cases q:n==x with
  |true =>
   rw [q] at h;cases h
   cases eq_of_beq q
   refine rT (if_neg (by rw [hk];decide)) ?_;refine rT (sA nd.1) ?_;exact if_pos rfl
  |false=>rw [q] at h;exact ih _ nd.2 h
theorem sB (names:List (Str×NameKind)):∀ (m:Nat),(names.map (·.1)).Nodup→((cellsFrom m names []).map (·.1)).Nodup:=by
 induction names with
 |nil=>exact fun _ _=>List.Pairwise.nil
 |cons p r ih =>
  intro m nd
  obtain⟨y,k⟩:=p
  have nd:=List.nodup_cons.mp nd
  unfold cellsFrom
  by_cases hk:(k == .cell)=true
  ·refine rT (if_pos hk) ?_;refine rT (aO ..) ?_;refine rT List.map_append ?_
   refine List.nodup_append.mpr ⟨ih _ nd.2,List.pairwise_singleton _ _,fun u hu v hv e => ?_⟩
   cases Ke.mp hv
   cases e
   obtain⟨q,hq,e⟩:=Kg.mp hu
   exact nd.1 (e▸List.mem_map.mpr ⟨_,(bG _ _ hq).1,rfl⟩)
  ·refine rT (if_neg hk) ?_;exact ih _ nd.2
noncomputable def Am (scope:Scope) (gl:List (Str×GV)):Sc:=⟨b9 scope.names,scope.names,gl⟩
noncomputable def dl (scope:Scope) (b:List (Str×AV)):VM:=(b9 scope.names).map fun x=>b.lookup x
noncomputable def jA (scope:Scope) (L:Addr):Addr→Prop:=fun a=>a=L∨∃ n,(n,a)∈cellsFrom (L+1) scope.names []
structure Fm (scope:Scope) (b:List Str):Prop where
 kind:scope.kind = .function
 co:scope.isCoroutine=false
 gen:scope.isGenerator=false
 nd:(scope.names.map (·.1)).Nodup
 nf:∀ p∈scope.names,p.2 ≠ .free
 bn:∀ x∈b,scope.names.lookup x=some .local∨scope.names.lookup x=some .cell
 bnd:b.Nodup
theorem An {fd:FuncData} {scope:Scope} {b:List (Str×AV)} {binds:List (Str×Value)} {L a:Addr} {s₁:Shared} {cd:Value} {name:Str} (hsc:Fm scope (b.map (·.1))) (hfs:fd.scope=scope) (hfg:fd.globals=mainGlobals) (hfb:fd.builtins=builtinsNs) (hfc:fd.code=cd) (hcd:X.hB.CodeRec cd name)
  (room:aI A (d+4)) (g:ag R ρ H st.heap) (kr:bb R ρ b binds) (hL:L=st.heap.objs.size)
  (ic:InCallC st (callEnvC fd L a).locals (bindL (callEnvC fd L a).kindOf binds fun _=>none) (callEnvC fd L a).cells (bindC (callEnvC fd L a).kindOf binds fun _=>none) s₁) :
  At d (Am scope gl) A (jA scope L) (callEnvC fd L a) (dl scope b) R ρ H s₁∧Fj (Am scope gl) (jA scope L) (callEnvC fd L a)∧Mv No R ρ st R ρ s₁∧∀ x,jA scope L x→st.heap.get? x=none:=by
 subst hfs
 obtain⟨h₁,tk,rfl,hk⟩:=ic.done
 have hnone:∀ x,jA fd.scope L x→st.heap.get? x=none:=fun x hx=>by
  have hge:L≤x:=hx.elim (fun e=>Kh e.symm) fun z0=>by obtain⟨n,hn⟩:=z0;exact KW (ic.above n x hn)
  cases e:st.heap.get? x with
  |none=>rfl
  |some o=>exact absurd (Kw e) (Nat.not_lt.mpr (hL▸hge))
 have slots:∀ x,x∈b9 fd.scope.names→fd.scope.names.lookup x=some .local∨fd.scope.names.lookup x=some .cell:=fun x hx=>by
  obtain⟨k,hm,hkk⟩:=gp hx
  have:=bz hsc.nd hm
  rcases hkk with rfl|rfl|rfl
  ·exact .inl this
  ·exact .inr this
  ·exact absurd rfl (hsc.nf _ hm)
 have vget:∀ (i:Nat) x av,(b9 fd.scope.names)[i]?=some x→(dl fd.scope b)[i]?=some (some av)→∃ v,binds.lookup x=some v∧Rel R ρ av v:=fun i x av hx hv=>by
  unfold dl at hv
  rw [List.getElem?_map,hx] at hv
  exact kr.lookup (KY hv)
 have bnd:(binds.map (·.1)).Nodup:=kr.names▸hsc.bnd
 have live:∀ x,jA fd.scope L x→h₁.get? x≠none:=fun x hx=>by
  rcases hx with rfl|⟨n,hn⟩
  ·obtain⟨o,_,_,ho,_⟩:=ic.toInCall.ns
   refine rT (show h₁.get? x=some o from ho) ?_;exact nofun
  ·obtain⟨o,ho,_⟩:=ic.cell n x (bz (sB _ _ hsc.nd) hn)
   refine rT (show h₁.get? x=some o from ho) ?_;exact nofun
 refine⟨⟨room,⟨fun n hn=>hn,fun n hn=>hn.elim id fun hn=>absurd rfl (hsc.nf _ (mem_of_lookup hn))⟩,⟨hsc.kind,hfg,hfb,?_,List.length_map ..,lp hsc.nd,slots,.inl rfl,fun x hx=>g.none_of_new (hnone x hx),fun x hx=>g.not_mem_new (hnone x hx),live,⟨_,ic.toInCall.ns,fun i x av h1 h2 h3 => ?_⟩,fun x hx hkx => ?_,fun x y c hx hy kx ky lx ly=>name_of_addr ic.apart (mem_of_lookup lx) (mem_of_lookup ly)⟩,g.grow hk⟩,fun i x hx => ?_,Mv.grow hk,hnone⟩
 ·obtain⟨c,o,vs,t,h1,h2,h3,_⟩:=hcd
  exact⟨c,o,vs,hfc.trans h1,h2,h3⟩
 ·obtain⟨v,hv,hr⟩:=vget i x av h1 h2
  exact⟨v,xI h3 _ _ bnd hv,hr⟩
 ·obtain⟨c,hc⟩:=bH fd.scope.names (L+1) (mem_of_lookup hkx)
  obtain⟨c',hc'⟩:=b7 hc
  refine⟨c',_,hc',ic.cell x c' hc',Nat.ne_of_gt (ic.above x c' (mem_of_lookup hc')),g.not_mem_new (hnone c' (.inr ⟨x,mem_of_lookup hc'⟩)),fun i av h1 h2 => ?_⟩
  obtain⟨v,hv,hr⟩:=vget i x av h1 h2
  exact⟨v,xJ (kd:=(callEnvC fd L a).kindOf) hkx _ _ bnd hv,hr⟩
 ·exact (slots x (KV hx)).imp id fun h=>⟨h,fun c hc => .inr ⟨x,mem_of_lookup hc⟩⟩
theorem xK (m:Mv O R ρ st R' ρ' st') (g0:ag R ρ H st.heap) (g:ag R' ρ' H₁ st'.heap) (hO:∀ a,O a→st.heap.get? a=none):Mv No R ρ st R' ρ st'∧ag R' ρ (H₁.take H.length) st'.heap:=by
 have pre:=m.pre
 obtain⟨ρx,rfl,hx⟩:=m.p
 have nd:=List.nodup_append.mp g.nd
 have hle:H.length≤H₁.length:=by refine rB g0.len ?_;refine rB g.len ?_;refine rT List.length_append ?_;exact Kf _ _
 refine⟨⟨m.r,m.rn,⟨[],(List.append_nil _).symm,fun _ h=>nomatch h⟩,fun b o e hb _=>m.keep b o e hb fun q=>(by rw [hO b q] at e;cases e),m.live,m.gens,m.os⟩,
  ⟨g.base,g.froz,nd.1,fun a ha=>g.off a (List.mem_append_left _ ha),by refine rT List.length_take ?_;refine rT (Nat.min_eq_left hle) ?_;exact g0.len,fun i o a h1 h2 => ?_⟩⟩
 rw [List.getElem?_take_of_lt (g0.len▸(List.getElem?_eq_some_iff.mp h2).1)] at h1
 have k:=g.objs i o a h1 (pre i a h2)
 cases o with
 |list l =>
  obtain⟨k0,vs,n,k1,k2⟩:=k
  exact⟨k0,vs,n,k1,(Rel.noRefAll).2 l vs k0 k2⟩
 |dict l =>
  obtain⟨k0,kvs,k1,k2⟩:=k
  exact⟨k0,kvs,k1,bb.noRef _ _ k0 k2⟩
theorem uK {o:Option AO} {r:AV} {G:Prop} (h:(match o with|some (.list l)=>if noRef.all l then some (AV.lst l) else none|_=>none)=some r) (k:∀ l,o=some (.list l)→noRef.all l=true→AV.lst l=r→G):G:=by
 cases o with
 |none=>cases h
 |some x=>cases x with
  |list l=>exact oi h fun hn h=>k l rfl hn (KY h)
  |dict _=>cases h
theorem Ao {r:AV} {v:AV} {cv:Value} (m:Mv O R ρ st R' ρ' st') (g0:ag R ρ H st.heap) (g:ag R' ρ' H₁ st'.heap) (hO:∀ a,O a→st.heap.get? a=none) (hr:Rel R' ρ' v cv) (hf:freeze H.length H₁ v=some r):b5 R ρ st r (H₁.take H.length) cv st':=by
 obtain⟨m1,g1⟩:=xK m g0 g hO
 unfold freeze at hf
 cases q:lh v with
 |none =>
  rw [q] at hf
  exact oi hf fun hn hf=>oj hf ⟨R',ρ,m1,g1,(Rel.noRefAll).1 v cv hn hr⟩
 |some i =>
  rw [q] at hf
  obtain⟨i,e⟩:=i
  subst e
  obtain⟨a,rfl,ha⟩:=hr
  have e:=m.pre
  by_cases hi:i<H.length
  ·replace hf:=(if_pos hi).symm.trans hf
   have hi':i<ρ.length:=g0.len▸hi
   have h2:=e i _ (Ky hi')
   exact oj hf ⟨R',ρ,m1,g1,a,rfl,(Ky hi').trans (h2.symm.trans ha)⟩
  ·replace hf:=(if_neg hi).symm.trans hf
   refine uK hf fun l hl hnr hf => ?_
   subst hf
   obtain⟨k0,vs,n,k1,k2⟩:=g.objs i _ a hl ha
   have haρ:a∈ρ':=KV ha
   have hRa:R' a=none:=g.off a haρ
   have hax:a∉ρ:=fun hm=>by
    obtain⟨j,hj,e2⟩:=List.getElem_of_mem hm
    cases pF g.nd ha (e j a (by refine rT (Ky hj) ?_;exact rT e2 rfl))
    exact hi (g0.len▸hj)
   exact⟨R'.add a (aN vs n),ρ,m1.freeze hRa ((m.sub haρ).resolve_left hax),g1.freeze hRa hax k1,a,vs,n,rfl,RM.add_self,(Rel.noRefAll).2 l vs hnr (ai.mono (fun _ _ h=>RM.add_old h hRa) (fun _ _ h=>h) l vs k2)⟩
end
theorem aI.deeper {A:Around} {d:Nat} {env:Env} (r:aI A (d+1)):aI (A.deeper env) d :=
 ⟨r.h,Kv (Nat.add_le_add_right (Kv (Kh (Nat.add_assoc _ 1 _)) (Nat.add_le_add_left (Kv (Kh (Nat.add_comm 1 _)) (Nat.add_le_add_left (by decide:1≤10) (10*d))) _)) 10) r.depth,
  Kv (Nat.add_le_add_right (Kv (Kh (Nat.add_assoc _ 3 _)) (Nat.add_le_add_left (Kv (Kh (Nat.add_comm 3 _)) (Nat.add_le_add_left (by decide:3≤100) (100*d))) _)) 100) r.units⟩
section
variable {C:ae} {N d:Nat} {A:Around} {R R':RM} {ρ ρ':List Addr} {st st':Shared} {H H' H₁:AH} {gl:List (Str×GV)}
theorem sC {k:Nat} {name:Str} {params:Arguments} {body:List Stmt} {scope:Scope} {b:List (Str×AV)} {xb:SL} {vs:List Value} {ks:List (Str×Value)} {r:AV}
  (fa:Fa X k name params body scope) (hlim:X.hB.NoLimit) (hsc:Fm scope (b.map (·.1)))
  (hbind:∀ pm cd doc,wpAny X.M A.in1 (bindArgs (Calls.docDef name params body scope pm cd doc) ⟨vs,ks⟩) (fun binds s'=>∃ R',Mv No R ρ st R' ρ s'∧ag R' ρ H s'.heap∧bb R' ρ b binds) NoE st)
  (hbody:fg C N d (Am scope gl) body xb) (hrun:ah C N xb (dl scope b) H=some (r,H')) (room:aI A (d+5)) (g:ag R ρ H st.heap) :
  EvT A (call (.ref (X.F k)) vs ks) R ρ st r H':=by
 obtain⟨o,pm,cd,doc,ho,hd,hcd⟩:=fa.at'
 refine wpAny_call (codeAny_call_function (fd:=Calls.docDef name params body scope pm cd doc) room.lt (g.hB _ _ ho) hd hsc.co hsc.gen rfl (hcd.keeps g.hB) ?_)
 refine Kq (hbind pm cd doc) (fun binds s₁ ⟨R1,m1,g1,kr⟩ => ?_) fun _ _ e=>e.elim
 refine wpAny_newFunctionEnv_cells hsc.kind (fun x hx => ?_) fun env he s₂ ic => ?_
 ·have:x.1∈b.map (·.1):=by refine rB kr.names ?_;exact List.mem_map.mpr ⟨x,hx,rfl⟩
  rcases hsc.bn _ this with h|h
  ·exact .inl h
  ·refine .inr ⟨h,?_⟩
   obtain⟨c,hc⟩:=bH scope.names (s₁.heap.objs.size+1) (mem_of_lookup h)
   obtain⟨c',hc'⟩:=b7 hc
   refine rT (show (cellsFrom (s₁.heap.objs.size+1) (Calls.docDef name params body scope pm cd doc).scope.names []).lookup x.1=some c' from hc') ?_
   rfl
 ·subst he
  obtain⟨at1,fo,m2,hnone⟩:=An (gl:=gl) (d:=d) (A:=A.deeper (callEnvC (Calls.docDef name params body scope pm cd doc) s₁.heap.objs.size (X.F k))) (cd:=cd) (name:=name) hsc rfl rfl rfl rfl hcd (room.deeper (d:=d+4)) g1 kr rfl ic
  refine⟨hlim.keeps at1.g.hB,codeAny_func ?_⟩
  refine ob hrun fun q h1 h2=>Kq (hbody _ _ _ fo _ _ _ _ _ _ at1 h1) (fun fl s3 k => ?_) fun _ _ e=>e.elim
  obtain⟨f,V1,H1⟩:=q
  obtain⟨R3,ρ3,m3,at3,r3⟩:=k
  have fin:∀ v cv,Rel R3 ρ3 v cv→freeze H.length H1 v=some r→b5 R ρ st r (H1.take H.length) cv s3:=fun v cv hr hf=>by
   obtain⟨R4,ρ4,m4,g4,r4⟩:=Ao (m2.up.trans m3) g1 at3.g hnone hr hf
   exact⟨R4,ρ4,m1.trans m4,g4,r4⟩
  cases f with
  |next =>
   cases (show fl = .next from r3)
   cases h2
   exact fin .none .none rfl rfl
  |ret v =>
   obtain⟨cv,rfl,rv⟩:=r3
   obtain⟨w,h3,e⟩:=Option.map_eq_some_iff.mp h2
   cases e
   exact fin v cv rv h3
  |brk=>cases h2
  |cont=>cases h2
end
theorem bN:Manifest.owners.lookup (String.ofList ['s', 'e', 't', 'y', 'b'].reverse)=some Manifest.sig_bytes:=by kernel_rfl
theorem oR:Slot "bytes" (cmpInfo .Lt).2.1 "bytes.__lt__" :=
 .of (owner := "bytes") (n := "__lt__") (by refine rT (typeLookup_type ..) ?_;refine rT builtinLookup_eq_fast ?_;kernel_rfl) (by decide +kernel) (by decide +kernel) (by decide +kernel)
  (by first|exact .inl (by decide +kernel)|exact .inr (by decide +kernel)) (by refine rT (isSubtype_type ..) ?_;kernel_rfl)
theorem mJ:entryFor table "bytes.__lt__" = some Builtin.«bytes.__lt__» := entryFor_of_tree (by kernel_rfl)
theorem lP (a b:Value):argsOk "bytes.__lt__" ⟨[a,b],[]⟩:=by
 unfold argsOk;refine rT (signature?_of (id := "bytes.__lt__") (n:=['_', '_', 't', 'l', '_', '_']) (o:=['s', 'e', 't', 'y', 'b']) (by kernel_rfl) bN) ?_;kernel_rfl
theorem oS:Slot "bytes" (cmpInfo .Gt).2.1 "bytes.__gt__" :=
 .of (owner := "bytes") (n := "__gt__") (by refine rT (typeLookup_type ..) ?_;refine rT builtinLookup_eq_fast ?_;kernel_rfl) (by decide +kernel) (by decide +kernel) (by decide +kernel)
  (by first|exact .inl (by decide +kernel)|exact .inr (by decide +kernel)) (by refine rT (isSubtype_type ..) ?_;kernel_rfl)
theorem mK:entryFor table "bytes.__gt__" = some Builtin.«bytes.__gt__» := entryFor_of_tree (by kernel_rfl)
theorem lQ (a b:Value):argsOk "bytes.__gt__" ⟨[a,b],[]⟩:=by
 unfold argsOk;refine rT (signature?_of (id := "bytes.__gt__") (n:=['_', '_', 't', 'g', '_', '_']) (o:=['s', 'e', 't', 'y', 'b']) (by kernel_rfl) bN) ?_;kernel_rfl
theorem fj:Slot "bytes" "rfind" "bytes.rfind" :=
 .of (owner := "bytes") (n := "rfind") (by refine rT (typeLookup_type ..) ?_;refine rT builtinLookup_eq_fast ?_;kernel_rfl) (by decide +kernel) (by decide +kernel) (by decide +kernel)
  (by first|exact .inl (by decide +kernel)|exact .inr (by decide +kernel)) (by refine rT (isSubtype_type ..) ?_;kernel_rfl)
theorem kF:typeOf (.builtin "bytes.rfind")=pure (.type "method_descriptor"):=by refine rT builtinType_eq_fast ?_;kernel_rfl
theorem jB:entryFor table "bytes.rfind" = some Builtin.«bytes.rfind» := entryFor_of_tree (by kernel_rfl)
theorem i6 (a b:Value):argsOk "bytes.rfind" ⟨[a,b],[]⟩:=by
 unfold argsOk;refine rT (signature?_of (id := "bytes.rfind") (n:=['d', 'n', 'i', 'f', 'r']) (o:=['s', 'e', 't', 'y', 'b']) (by kernel_rfl) bN) ?_;kernel_rfl
theorem eH:Slot "bytes" "rstrip" "bytes.rstrip" :=
 .of (owner := "bytes") (n := "rstrip") (by refine rT (typeLookup_type ..) ?_;refine rT builtinLookup_eq_fast ?_;kernel_rfl) (by decide +kernel) (by decide +kernel) (by decide +kernel)
  (by first|exact .inl (by decide +kernel)|exact .inr (by decide +kernel)) (by refine rT (isSubtype_type ..) ?_;kernel_rfl)
theorem jC:typeOf (.builtin "bytes.rstrip")=pure (.type "method_descriptor"):=by refine rT builtinType_eq_fast ?_;kernel_rfl
theorem i7:entryFor table "bytes.rstrip" = some Builtin.«bytes.rstrip» := entryFor_of_tree (by kernel_rfl)
theorem iz (a b:Value):argsOk "bytes.rstrip" ⟨[a,b],[]⟩:=by
 unfold argsOk;refine rT (signature?_of (id := "bytes.rstrip") (n:=['p', 'i', 'r', 't', 's', 'r']) (o:=['s', 'e', 't', 'y', 'b']) (by kernel_rfl) bN) ?_;kernel_rfl
theorem fk:Slot "bytes" "split" "bytes.split" :=
 .of (owner := "bytes") (n := "split") (by refine rT (typeLookup_type ..) ?_;refine rT builtinLookup_eq_fast ?_;kernel_rfl) (by decide +kernel) (by decide +kernel) (by decide +kernel)
  (by first|exact .inl (by decide +kernel)|exact .inr (by decide +kernel)) (by refine rT (isSubtype_type ..) ?_;kernel_rfl)
theorem kH:typeOf (.builtin "bytes.split")=pure (.type "method_descriptor"):=by refine rT builtinType_eq_fast ?_;kernel_rfl
theorem jD:entryFor table "bytes.split" = some Builtin.«bytes.split» := entryFor_of_tree (by kernel_rfl)
theorem i8 (a b:Value):argsOk "bytes.split" ⟨[a,b],[]⟩:=by
 unfold argsOk;refine rT (signature?_of (id := "bytes.split") (n:=['t', 'i', 'l', 'p', 's']) (o:=['s', 'e', 't', 'y', 'b']) (by kernel_rfl) bN) ?_;kernel_rfl
theorem fW:Slot "bytes" "join" "bytes.join" :=
 .of (owner := "bytes") (n := "join") (by refine rT (typeLookup_type ..) ?_;refine rT builtinLookup_eq_fast ?_;kernel_rfl) (by decide +kernel) (by decide +kernel) (by decide +kernel)
  (by first|exact .inl (by decide +kernel)|exact .inr (by decide +kernel)) (by refine rT (isSubtype_type ..) ?_;kernel_rfl)
theorem lR:typeOf (.builtin "bytes.join")=pure (.type "method_descriptor"):=by refine rT builtinType_eq_fast ?_;kernel_rfl
theorem kI:entryFor table "bytes.join" = some Builtin.«bytes.join» := entryFor_of_tree (by kernel_rfl)
theorem jE (a b:Value):argsOk "bytes.join" ⟨[a,b],[]⟩:=by
 unfold argsOk;refine rT (signature?_of (id := "bytes.join") (n:=['n', 'i', 'o', 'j']) (o:=['s', 'e', 't', 'y', 'b']) (by kernel_rfl) bN) ?_;kernel_rfl
open PySem.SeqAt PySem.MeetsSeq PySem.MeetsSeq2 PySem.MeetsSeq3 PySem.SeqRoads2
open AutoSeq1 (wpAny_loadPart')
noncomputable def bK (op:CmpOp) (A:Around) (s:Shared) (x y:Value) (b:Bool):Prop :=
 ∀ (prog:Program) (w:World) (E:Value→Shared→Prop) (Q:Value→Shared→Prop),Q (.bool b) s→wpAny (model prog w) A (richCompare op x y) Q E s
inductive Lex (op:CmpOp) (A:Around) (s:Shared):List Value→List Value→Bool→Prop
 |nn:Lex op A s [] [] false
 |nc (y:Value) (ys:List Value):Lex op A s [] (y::ys) (op == .Lt)
 |cn (x:Value) (xs:List Value):Lex op A s (x::xs) [] (op == .Gt)
 |eq (x y:Value) (xs ys:List Value) (b:Bool):EqAt A s x y true→Lex op A s xs ys b→Lex op A s (x::xs) (y::ys) b
 |ne (x y:Value) (xs ys:List Value) (b:Bool):EqAt A s x y false→bK op A s x y b→Lex op A s (x::xs) (y::ys) b
theorem ar {vs:List Value} {i:Nat}:vs.toArray[((i:Nat):Int).toNat]?=(vs.drop i).head?:=by
 refine rT List.head?_drop ?_;refine rT List.getElem?_toArray ?_;rfl
theorem ie {x:Value} {vs xs:List Value} {i:Nat} (e:vs.drop i=x::xs):vs.drop (i+1)=xs:=by refine rB List.drop_drop ?_;refine rT e ?_;rfl
theorem xL {prog:Program} {w:World} {l b:Addr} {vs0 ws0:List Value} {n n2:Nat} {r:Bool} {A:Around} {R:Result→Shared→Prop} {s:Shared} {vs ws:List Value} (hx:Lex .Lt A.in1 s vs ws r) (hl:s.heap.get? l=some (aN vs0 n)) (hb:s.heap.get? b=some (aN ws0 n2)) :
  ∀ i:Nat,vs0.drop i=vs→ws0.drop i=ws→vs0.length=i+vs.length→ws0.length=i+ws.length→R (.ok (.ret (.bool r))) s→codeAny (model prog w) A (.builtin "list.__eq__.loop" ⟨[.ref l,.ref b,rawInt i,rawInt 0],[]⟩) R s:=by
 induction hx with
 |nn =>
  intro i e1 e2 l1 l2 h
  refine codeAny_builtin entry_eq_loop ?_
  refine rT (Kz plain_eq_loop _) ?_
  wp_walk using wpAny_loadPart' hl,wpAny_loadPart' hb
  refine rT ar ?_;refine rT ar ?_;refine rT e1 ?_;refine rT e2 ?_
  wp_walk using wpAny_loadPart' hl,wpAny_loadPart' hb
  refine (?_:R (.ok (.ret (.bool (decide (vs0.length<ws0.length))))) _)
  refine rT l1 ?_;refine rT l2 ?_;refine rT (decide_eq_false (Nat.lt_irrefl _)) ?_;exact h
 |nc y ys =>
  intro i e1 e2 l1 l2 h
  refine codeAny_builtin entry_eq_loop ?_
  refine rT (Kz plain_eq_loop _) ?_
  wp_walk using wpAny_loadPart' hl,wpAny_loadPart' hb
  refine rT ar ?_;refine rT ar ?_;refine rT e1 ?_;refine rT e2 ?_
  wp_walk using wpAny_loadPart' hl,wpAny_loadPart' hb
  refine (?_:R (.ok (.ret (.bool (decide (vs0.length<ws0.length))))) _)
  refine rT l1 ?_;refine rT l2 ?_;refine rT (show decide (i+[].length<i+(y::ys).length)=true from decide_eq_true (Nat.lt_add_of_pos_right (Nat.succ_pos _))) ?_;exact h
 |cn y ys =>
  intro i e1 e2 l1 l2 h
  refine codeAny_builtin entry_eq_loop ?_
  refine rT (Kz plain_eq_loop _) ?_
  wp_walk using wpAny_loadPart' hl,wpAny_loadPart' hb
  refine rT ar ?_;refine rT ar ?_;refine rT e1 ?_;refine rT e2 ?_
  wp_walk using wpAny_loadPart' hl,wpAny_loadPart' hb
  refine (?_:R (.ok (.ret (.bool (decide (vs0.length<ws0.length))))) _)
  refine rT l1 ?_;refine rT l2 ?_;refine rT (show decide (i+(y::ys).length<i+[].length)=false from decide_eq_false (Nat.not_lt.mpr (Kf ..))) ?_;exact h
 |eq x y xs ys r he hx ih =>
  intro i e1 e2 l1 l2 h
  refine codeAny_builtin entry_eq_loop ?_
  refine rT (Kz plain_eq_loop _) ?_
  wp_walk using wpAny_loadPart' hl,wpAny_loadPart' hb
  refine rT ar ?_;refine rT ar ?_;refine rT e1 ?_;refine rT e2 ?_
  refine JX (he prog w _ _ ?_)
  wp_walk
  exact⟨plainId_quiet plain_eq_loop _,ih (i+1) (ie e1) (ie e2) (l1.trans (Kb i _ 1)) (l2.trans (Kb i _ 1)) h⟩
 |ne x y xs ys r he ho =>
  intro i e1 e2 l1 l2 h
  refine codeAny_builtin entry_eq_loop ?_
  refine rT (Kz plain_eq_loop _) ?_
  wp_walk using wpAny_loadPart' hl,wpAny_loadPart' hb
  refine rT ar ?_;refine rT ar ?_;refine rT e1 ?_;refine rT e2 ?_
  refine JX (he prog w _ _ ?_)
  wp_walk using wpAny_loadPart' hl,wpAny_loadPart' hb
  refine rT ar ?_;refine rT ar ?_;refine rT e1 ?_;refine rT e2 ?_
  refine JX (ho prog w _ _ ?_)
  wp_walk
  exact h
theorem xM (l b:Addr) (items items2:Array Value) (n n2:Nat) (r:Bool) :
  Meets (Builtin.«list.__lt__» ⟨[.ref l,.ref b],[]⟩)
   (fun A R s=>s.heap.get? l=some (aN items.toList n)∧s.heap.get? b=some (aN items2.toList n2)∧Lex .Lt A.in1 s items.toList items2.toList r∧R (.ok (.ret (.bool r))) s):=by
 intro prog w A R s h
 obtain⟨hl,hb,hx,h⟩:=h
 have f3:=AutoSeq1.sub_list_list
 wp_walk using wpAny_loadPart' hl,wpAny_loadPart' hb
 exact⟨plainId_quiet plain_eq_loop _,xL hx hl hb 0 rfl rfl (Nat.zero_add _).symm (Nat.zero_add _).symm h⟩
theorem xN {prog:Program} {w:World} {l b:Addr} {vs0 ws0:List Value} {n n2:Nat} {r:Bool} {A:Around} {R:Result→Shared→Prop} {s:Shared} {vs ws:List Value} (hx:Lex .Gt A.in1 s vs ws r) (hl:s.heap.get? l=some (aN vs0 n)) (hb:s.heap.get? b=some (aN ws0 n2)) :
  ∀ i:Nat,vs0.drop i=vs→ws0.drop i=ws→vs0.length=i+vs.length→ws0.length=i+ws.length→R (.ok (.ret (.bool r))) s→codeAny (model prog w) A (.builtin "list.__eq__.loop" ⟨[.ref l,.ref b,rawInt i,rawInt 4],[]⟩) R s:=by
 induction hx with
 |nn =>
  intro i e1 e2 l1 l2 h
  refine codeAny_builtin entry_eq_loop ?_
  refine rT (Kz plain_eq_loop _) ?_
  wp_walk using wpAny_loadPart' hl,wpAny_loadPart' hb
  refine rT ar ?_;refine rT ar ?_;refine rT e1 ?_;refine rT e2 ?_
  wp_walk using wpAny_loadPart' hl,wpAny_loadPart' hb
  refine (?_:R (.ok (.ret (.bool (decide (ws0.length<vs0.length))))) _)
  refine rT l1 ?_;refine rT l2 ?_;refine rT (decide_eq_false (Nat.lt_irrefl _)) ?_;exact h
 |nc y ys =>
  intro i e1 e2 l1 l2 h
  refine codeAny_builtin entry_eq_loop ?_
  refine rT (Kz plain_eq_loop _) ?_
  wp_walk using wpAny_loadPart' hl,wpAny_loadPart' hb
  refine rT ar ?_;refine rT ar ?_;refine rT e1 ?_;refine rT e2 ?_
  wp_walk using wpAny_loadPart' hl,wpAny_loadPart' hb
  refine (?_:R (.ok (.ret (.bool (decide (ws0.length<vs0.length))))) _)
  refine rT l1 ?_;refine rT l2 ?_;refine rT (show decide (i+(y::ys).length<i+[].length)=false from decide_eq_false (Nat.not_lt.mpr (Kf ..))) ?_;exact h
 |cn y ys =>
  intro i e1 e2 l1 l2 h
  refine codeAny_builtin entry_eq_loop ?_
  refine rT (Kz plain_eq_loop _) ?_
  wp_walk using wpAny_loadPart' hl,wpAny_loadPart' hb
  refine rT ar ?_;refine rT ar ?_;refine rT e1 ?_;refine rT e2 ?_
  wp_walk using wpAny_loadPart' hl,wpAny_loadPart' hb
  refine (?_:R (.ok (.ret (.bool (decide (ws0.length<vs0.length))))) _)
  refine rT l1 ?_;refine rT l2 ?_;refine rT (show decide (i+[].length<i+(y::ys).length)=true from decide_eq_true (Nat.lt_add_of_pos_right (Nat.succ_pos _))) ?_;exact h
 |eq x y xs ys r he hx ih =>
  intro i e1 e2 l1 l2 h
  refine codeAny_builtin entry_eq_loop ?_
  refine rT (Kz plain_eq_loop _) ?_
  wp_walk using wpAny_loadPart' hl,wpAny_loadPart' hb
  refine rT ar ?_;refine rT ar ?_;refine rT e1 ?_;refine rT e2 ?_
  refine JX (he prog w _ _ ?_)
  wp_walk
  exact⟨plainId_quiet plain_eq_loop _,ih (i+1) (ie e1) (ie e2) (l1.trans (Kb i _ 1)) (l2.trans (Kb i _ 1)) h⟩
 |ne x y xs ys r he ho =>
  intro i e1 e2 l1 l2 h
  refine codeAny_builtin entry_eq_loop ?_
  refine rT (Kz plain_eq_loop _) ?_
  wp_walk using wpAny_loadPart' hl,wpAny_loadPart' hb
  refine rT ar ?_;refine rT ar ?_;refine rT e1 ?_;refine rT e2 ?_
  refine JX (he prog w _ _ ?_)
  wp_walk using wpAny_loadPart' hl,wpAny_loadPart' hb
  refine rT ar ?_;refine rT ar ?_;refine rT e1 ?_;refine rT e2 ?_
  refine JX (ho prog w _ _ ?_)
  wp_walk
  exact h
theorem xO (l b:Addr) (items items2:Array Value) (n n2:Nat) (r:Bool) :
  Meets (Builtin.«list.__gt__» ⟨[.ref l,.ref b],[]⟩)
   (fun A R s=>s.heap.get? l=some (aN items.toList n)∧s.heap.get? b=some (aN items2.toList n2)∧Lex .Gt A.in1 s items.toList items2.toList r∧R (.ok (.ret (.bool r))) s):=by
 intro prog w A R s h
 obtain⟨hl,hb,hx,h⟩:=h
 have f3:=AutoSeq1.sub_list_list
 wp_walk using wpAny_loadPart' hl,wpAny_loadPart' hb
 exact⟨plainId_quiet plain_eq_loop _,xN hx hl hb 0 rfl rfl (Nat.zero_add _).symm (Nat.zero_add _).symm h⟩
open PySem.SeqAt PySem.MeetsSeq PySem.MeetsSeq2 PySem.MeetsSeq3 PySem.SeqRoads2
open AutoSeq1 (wpAny_loadPart')
inductive Go (A:Around) (s:Shared) (r:Bool) (p q:Nat):List (Value×Value)→Prop
 |fin:r=decide (p<q)→Go A s r p q []
 |eq (y x:Value) (l:List (Value×Value)):EqAt A s y x true→Go A s r p q l→Go A s r p q ((y,x)::l)
 |ne (y x:Value) (l:List (Value×Value)):EqAt A s y x false→bK .Lt A s y x r→Go A s r p q ((y,x)::l)
theorem G4 {A:Around} {s:Shared} {xs ys:List Value} {r:Bool} (h:Lex .Lt A s xs ys r):∀ p q,xs.length+q=ys.length+p→Go A s r p q (xs.zip ys):=by
 induction h with
 |nn=>exact fun p q e => .fin (decide_eq_false (Nat.not_lt.mpr (Nat.le_of_add_le_add_left (Kh e)))).symm
 |nc y ys=>exact fun p q e => .fin (decide_eq_true (Nat.lt_of_add_lt_add_left (n:=0) (Nat.lt_of_lt_of_eq (Nat.add_lt_add_right (Nat.succ_pos _) p) e.symm))).symm
 |cn x xs=>exact fun p q e => .fin (decide_eq_false (Nat.not_lt.mpr (Nat.le_of_add_le_add_left (a:=0) (Kv (Nat.add_le_add_right (Nat.zero_le _) q) (Kh e))))).symm
 |eq x y xs ys b he _ ih=>exact fun p q e => .eq _ _ _ he (ih p q (Nat.succ.inj ((Nat.succ_add ..).symm.trans (e.trans (Nat.succ_add ..)))))
 |ne x y xs ys b he ho=>exact fun p q e => .ne _ _ _ he ho
theorem uL (l b:Addr) (items items2:Array Value) (n n2:Nat) (r:Bool) :
  Meets (Builtin.«tuple.__lt__» ⟨[.ref l,.ref b],[]⟩)
   (fun A R s=>s.heap.get? l=some (fL items.toList n)∧s.heap.get? b=some (fL items2.toList n2)∧Lex .Lt A.in1 s items.toList items2.toList r∧R (.ok (.ret (.bool r))) s) :=
 .of_wp fun prog w A R s h=>by
  obtain⟨hp,g,d,tk,os⟩:=s;obtain⟨hl,hb,hx,h⟩:=h
  have f2:=AutoSeq1.sub_tuple_tuple
  wp_walk using wpAny_loadPart' hl,wpAny_loadPart' hb,wpAny_forIn_list _ (fun rest b s'=>b.1=none∧s'=⟨hp,g,d,tk,os⟩∧Go A.in1 ⟨hp,g,d,tk,os⟩ r items.size items2.size rest) _
  case turn =>
   rintro⟨y,x⟩ rest b s' ⟨hb',rfl,hx⟩
   cases hx with
   |eq _ _ _ he hx =>
    refine JX (he prog w _ _ ?_)
    wp_walk
    exact⟨rfl,rfl,hx⟩
   |ne _ _ _ he ho =>
    refine JX (he prog w _ _ ?_)
    have ho':=ho prog w
    generalize richCompare .Lt y x=t at ho' ⊢
    wp_walk
    refine ho' _ _ ?_
    wp_walk
    exact⟨_,rfl,h⟩
  case fin =>
   rintro⟨b1,b2⟩ s' ⟨hb',rfl,hx⟩
   cases hx with
   |fin e =>
    cases hb'
    wp_walk
    exact⟨_,rfl,(show R (.ok (.ret (.bool (decide (items.size<items2.size))))) _ from e▸h)⟩
  case h =>
   exact⟨rfl,rfl,G4 hx _ _ (Nat.add_comm ..)⟩
end
end Mine
namespace Mine
open PySem PySem.W PySem.Calls PyProof.Rows
open PySem.SeqAt
noncomputable section
theorem pL (a:List Nat):∀ b:List Nat,bx a b=decide (a<b):=by
 induction a with
 |nil =>
  intro b
  cases b with
  |nil=>exact (decide_eq_false (List.lt_irrefl _)).symm
  |cons b r=>exact (decide_eq_true (List.nil_lt_cons b r)).symm
 |cons a l ih =>
  intro b
  cases b with
  |nil=>exact (decide_eq_false (List.not_lt_nil _)).symm
  |cons b r =>
   refine (?_:(if a=b then bx l r else decide (a<b))=_)
   by_cases h:a=b
   ·subst h;refine rT (if_pos rfl) ?_;refine rT (ih ..) ?_;exact decide_eq_decide.mpr ⟨fun q=>List.cons_lt_cons_iff.mpr (.inr ⟨rfl,q⟩),fun q=>(List.cons_lt_cons_iff.mp q).elim (fun q=>absurd q (Nat.lt_irrefl _)) fun q=>q.2⟩
   ·refine rT (if_neg h) ?_;exact decide_eq_decide.mpr ⟨fun q=>List.cons_lt_cons_iff.mpr (.inl q),fun q=>(List.cons_lt_cons_iff.mp q).elim id fun q=>absurd q.1 h⟩
theorem sD (a:List UInt8):∀ b:List UInt8,(Builtin.Bytes.order a b == .lt)=bx (a.map (·.toNat)) (b.map (·.toNat))∧(Builtin.Bytes.order a b == .gt)=bx (b.map (·.toNat)) (a.map (·.toNat)):=by
 induction a with
 |nil=>intro b;cases b<;>exact⟨rfl,rfl⟩
 |cons x a ih =>
  intro b
  cases b with
  |nil=>exact⟨rfl,rfl⟩
  |cons y b =>
   refine (?_:((if x<y then Ordering.lt else if x>y then .gt else Builtin.Bytes.order a b) == .lt)=(if x.toNat=y.toNat then bx (a.map (·.toNat)) (b.map (·.toNat)) else decide (x.toNat<y.toNat))∧((if x<y then Ordering.lt else if x>y then .gt else Builtin.Bytes.order a b) == .gt)=(if y.toNat=x.toNat then bx (b.map (·.toNat)) (a.map (·.toNat)) else decide (y.toNat<x.toNat)))
   rcases Nat.lt_trichotomy x.toNat y.toNat with h|h|h
   ·refine rT (if_pos (UInt8.lt_iff_toNat_lt.mpr h)) ?_;refine rT (if_neg (Lq h)) ?_;refine rT (if_neg (Nat.ne_of_gt h)) ?_;refine rT (decide_eq_true h) ?_;refine rT (decide_eq_false (Nat.not_lt_of_gt h)) ?_;exact⟨rfl,rfl⟩
   ·cases UInt8.toNat_inj.mp h
    refine rT (if_neg (UInt8.lt_irrefl x)) ?_;refine rT (if_neg (UInt8.lt_irrefl x)) ?_;refine rT (if_pos rfl) ?_;refine rT (if_pos rfl) ?_;exact ih b
   ·refine rT (if_neg fun q=>Nat.lt_asymm h (UInt8.lt_iff_toNat_lt.mp q)) ?_;refine rT (if_pos (UInt8.lt_iff_toNat_lt.mpr h)) ?_;refine rT (if_neg (Nat.ne_of_gt h)) ?_;refine rT (if_neg (Lq h)) ?_;refine rT (decide_eq_true h) ?_;refine rT (decide_eq_false (Nat.not_lt_of_gt h)) ?_;exact⟨rfl,rfl⟩
theorem mL (b c:Array UInt8) (t u:Tok):Gives (Builtin.«bytes.__lt__» ⟨[.bytes b t,.bytes c u],[]⟩) (.val (.bool (eD b c))):=by
 refine .of_wp fun M A E s Q hq => ?_
 refine (?_:wpAny M A (isInstance (.bytes c u) (.type "bytes") >>= fun r=>_) _ E s)
 refine JX (wpAny_isInstance (typeIs_bytes s c u) F.sub_bytes_bytes ?_)
 exact JZ ⟨_,rfl,by unfold eD at hq;rw [← (sD _ _).1] at hq;exact hq⟩
theorem mM (b c:Array UInt8) (t u:Tok):Gives (Builtin.«bytes.__gt__» ⟨[.bytes b t,.bytes c u],[]⟩) (.val (.bool (eD c b))):=by
 refine .of_wp fun M A E s Q hq => ?_
 refine (?_:wpAny M A (isInstance (.bytes c u) (.type "bytes") >>= fun r=>_) _ E s)
 refine JX (wpAny_isInstance (typeIs_bytes s c u) F.sub_bytes_bytes ?_)
 exact JZ ⟨_,rfl,by unfold eD at hq;rw [← (sD _ _).2] at hq;exact hq⟩
section
variable {A:Around} {s:Shared}
theorem bK.of_gives {op:CmpOp} {T id:String} {B:Builtin} {a b:Value} {r:Bool} (ha:s.TypeIs a T) (hb:s.TypeIs b T) (slot:Slot T (cmpInfo op).2.1 id) (entry:entryFor table id=some B) (args:argsOk id ⟨[a,b],[]⟩) (g:Gives (B ⟨[a,b],[]⟩) (.val (.bool r))) (hv:[a,b].any Value.onHeap=false):bK op A s a b r :=
 fun prog w E Q h=>richCompare_gives ha hb slot entry args g (by simp [Made.takes]) h hv
theorem pM (b c:Array UInt8):(b.toList==c.toList)=(b==c):=by
 refine rP Bool.eq_iff_iff ?_;refine rP beq_iff_eq ?_;refine rP beq_iff_eq ?_;exact Array.toList_inj
theorem RcAt.bytes (a:Array UInt8) (t:Tok) (b:Array UInt8) (u:Tok):RcAt A s (.bytes a t) (.bytes b u) (a==b):=by
 refine rB (pM ..) ?_
 exact bK.of_gives (op := .Eq) (typeIs_bytes s a t) (typeIs_bytes s b u) FB.slot_bytes_eq FB.entry_bytes_eq (FB.args_bytes_eq_2 _ _) (gives_bytes_eq a b t u) rfl
theorem EqAt.bytes (a:Array UInt8) (t:Tok) (b:Array UInt8) (u:Tok):EqAt A s (.bytes a t) (.bytes b u) (a==b):=fun prog w E Q hq=>by
 refine JY ?_
 refine wpAny_ite_split (fun hab => ?_) (fun _ => ?_)
 ·have:=eq_of_beq hab
  injection this with h1 h2
  subst h1
  rw [beq_self_eq_true] at hq
  exact JX (wpAny_rule (JZ hq))
 ·exact JX (RcAt.bytes a t b u prog w E _ (wpAny_truthy_bool hq))
theorem bK.int_lt (a:Int) (t:Tok) (b:Int) (u:Tok):bK .Lt A s (.int a t) (.int b u) (decide (a<b)):=bK.of_gives (typeIs_int s a t) (typeIs_int s b u) F.slot_int_lt F.entry_int_lt (F.args_int_lt_2 _ _) (gives_int_lt a b t u) rfl
theorem bK.int_gt (a:Int) (t:Tok) (b:Int) (u:Tok):bK .Gt A s (.int a t) (.int b u) (decide (b<a)):=bK.of_gives (typeIs_int s a t) (typeIs_int s b u) F.slot_int_gt F.entry_int_gt (F.args_int_gt_2 _ _) (gives_int_gt a b t u) rfl
theorem bK.str_lt (a:Str) (t:Tok) (b:Str) (u:Tok):bK .Lt A s (.str a t) (.str b u) (pC a b):=by
 unfold pC;refine rT (pL ..) ?_
 exact bK.of_gives (typeIs_str s a t) (typeIs_str s b u) F.slot_str_lt F.entry_str_lt (F.args_str_lt_2 _ _) (gives_str_lt a b t u) rfl
theorem bK.str_gt (a:Str) (t:Tok) (b:Str) (u:Tok):bK .Gt A s (.str a t) (.str b u) (pC b a):=by
 unfold pC;refine rT (pL ..) ?_
 exact bK.of_gives (typeIs_str s a t) (typeIs_str s b u) F.slot_str_gt F.entry_str_gt (F.args_str_gt_2 _ _) (gives_str_gt a b t u) rfl
theorem bK.bytes_lt (a:Array UInt8) (t:Tok) (b:Array UInt8) (u:Tok):bK .Lt A s (.bytes a t) (.bytes b u) (eD a b):=bK.of_gives (typeIs_bytes s a t) (typeIs_bytes s b u) oR mJ (lP _ _) (mL a b t u) rfl
theorem bK.bytes_gt (a:Array UInt8) (t:Tok) (b:Array UInt8) (u:Tok):bK .Gt A s (.bytes a t) (.bytes b u) (eD b a):=bK.of_gives (typeIs_bytes s a t) (typeIs_bytes s b u) oS mK (lQ _ _) (mM a b t u) rfl
end
theorem d1 {Ft Fl:List AV→List AV→Option Bool} {fi:Int→Int→Bool} {fs:Str→Str→Bool} {fb:Array UInt8→Array UInt8→Bool} {x y:AV} {c:Bool} {G:Prop} (h:v7 Ft Fl fi fs fb x y=some c)
  (ki:∀ a b,x = .int a→y = .int b→c=fi a b→G) (ks:∀ a b,x = .str a→y = .str b→c=fs a b→G) (kb:∀ a b,x = .bytes a→y = .bytes b→c=fb a b→G)
  (kt:∀ l r,x = .tup l→y = .tup r→Ft l r=some c→G) (kl:∀ l r,x = .lst l→y = .lst r→Fl l r=some c→G):G :=
 oe h (fun a h=>ob h fun b _ h=>ki _ _ a.2 b.2 (KY h).symm) fun h=>oe h (fun a h=>ob h fun b _ h=>ks _ _ a.2 b.2 (KY h).symm) fun h=>oe h (fun a h=>ob h fun b _ h=>kb _ _ a.2 b.2 (KY h).symm)
  fun h=>oe h (fun a h=>ob h fun b _ h=>kt _ _ a.2 b.2 h) fun h=>ob h fun a _ h=>ob h fun b _ h=>kl _ _ a.2 b.2 h
theorem uM {e:Nat→Bool} {p:Bool} {n:Nat}:(List.range (n+1)).all (fun j=>match j with|0=>p|j+1=>e j)=(p&&(List.range n).all e):=by
 refine rT List.range_succ_eq_map ?_;refine rT List.all_cons ?_;refine rT List.all_map ?_;rfl
section
variable {R:RM} {ρ:List Addr}
theorem sE {f:AV→AV→Option Bool} {P:Value→Value→Bool→Prop} (ih:∀ x y c u v,f x y=some c→Rel R ρ x u→Rel R ρ y v→P u v c) (l:List AV):∀ {r:List AV} {vs ws:List Value} {b:Bool},eqL f l r=some b→ai R ρ l vs→ai R ρ r ws →
  ∃ e:Nat→Bool,(∀ j (h1:j<vs.length) (h2:j<ws.length),P vs[j] ws[j] (e j))∧b=((List.range (min vs.length ws.length)).all e&&vs.length==ws.length):=by
 induction l with
 |nil =>
  intro r vs ws b h rl rr
  cases (show vs=[] from rl)
  cases r with
  |nil=>cases h;cases (show ws=[] from rr);exact⟨fun _=>true,fun _ h=>absurd h (Nat.not_lt_zero _),rfl⟩
  |cons y r=>cases h;obtain⟨w,ws,rfl,_⟩:=rr;exact⟨fun _=>true,fun _ h=>absurd h (Nat.not_lt_zero _),(Bool.and_false _).symm⟩
 |cons x l ihl =>
  intro r vs ws b h rl rr
  obtain⟨v,vs,rfl,r1,r2⟩:=rl
  cases r with
  |nil=>cases h;cases (show ws=[] from rr);exact⟨fun _=>true,fun _ _ h=>absurd h (Nat.not_lt_zero _),(Bool.and_false _).symm⟩
  |cons y r =>
   obtain⟨w,ws,rfl,r3,r4⟩:=rr
   refine ob h fun p hp h=>ob h fun q hq h => ?_
   obtain⟨e,e1,e2⟩:=ihl hq r2 r4
   refine⟨fun j=>match j with|0=>p|j+1=>e j,fun j h1 h2 => ?_,?_⟩
   ·cases j with
    |zero=>exact ih _ _ _ _ _ hp r1 r3
    |succ j=>exact e1 j (Nat.lt_of_succ_lt_succ h1) (Nat.lt_of_succ_lt_succ h2)
   ·refine rT List.length_cons ?_;refine rT List.length_cons ?_;refine rT (Nat.succ_min_succ ..) ?_;refine rT uM ?_;refine rT (Bool.and_assoc ..) ?_
    refine rB (KY h) ?_;refine rT e2 ?_
    congr 2
    exact (Bool.eq_iff_iff.mpr ⟨fun h=>beq_iff_eq.mpr (congrArg Nat.succ (eq_of_beq h)),fun h=>beq_iff_eq.mpr (Nat.succ.inj (eq_of_beq h))⟩)
theorem xP (n:Nat):∀ (x y:AV) (b:Bool) (u v:Value),fc n x y=some b→Rel R ρ x u→Rel R ρ y v→u=v→b=true:=by
 induction n with
 |zero=>exact fun _ _ _ _ _ h=>by cases h
 |succ n ih =>
  intro x y b u v h rx ry e
  subst e
  have lists:∀ (l r:List AV) (vs:List Value),eqL (fc n) l r=some b→ai R ρ l vs→ai R ρ r vs→b=true:=fun l r vs h r1 r2=>by
   obtain⟨e,e1,e2⟩:=sE (P:=fun u v c=>u=v→c=true) ih l h r1 r2
   refine rT e2 ?_;refine rT (Nat.min_self ..) ?_;refine rT (beq_self_eq_true ..) ?_;refine rT (Bool.and_true ..) ?_
   exact List.all_eq_true.mpr fun j hj=>e1 j (List.mem_range.mp hj) (List.mem_range.mp hj) rfl
  refine d1 h (fun a c hx hy hc => ?_) (fun a c hx hy hc => ?_) (fun a c hx hy hc => ?_) (fun l r hx hy h => ?_) (fun l r hx hy h => ?_)
  ·obtain⟨t,rfl⟩:=ak hx rx
   obtain⟨t',e⟩:=ak hy ry
   cases e;exact hc.trans (beq_self_eq_true _)
  ·obtain⟨t,rfl⟩:=ak hx rx
   obtain⟨t',e⟩:=ak hy ry
   cases e;exact hc.trans (beq_self_eq_true _)
  ·obtain⟨t,rfl⟩:=ak hx rx
   obtain⟨t',e⟩:=ak hy ry
   cases e;exact hc.trans (beq_self_eq_true _)
  ·obtain⟨a,vs,m,rfl,h1,h2⟩:=ak hx rx
   obtain⟨a',vs',m',e,h3,h4⟩:=ak hy ry
   cases e
   rw [h1] at h3;cases h3
   exact lists _ _ _ h h2 h4
  ·obtain⟨a,vs,m,rfl,h1,h2⟩:=ak hx rx
   obtain⟨a',vs',m',e,h3,h4⟩:=ak hy ry
   cases e
   rw [h1] at h3;cases h3
   exact lists _ _ _ h h2 h4
section
variable {A:Around} {s:Shared} {e:Nat→Bool} {vs ws:List Value} {a a':Addr} {m m':Nat}
theorem pN {C:Bool→Prop} (k1:vs.length=ws.length→C ((List.range vs.length).all e)) (k2:(vs.length != ws.length)=true→C false):C ((List.range (min vs.length ws.length)).all e&&vs.length==ws.length):=by
 by_cases h:vs.length=ws.length
 ·have:=k1 h
  refine rB h ?_;refine rT (Nat.min_self ..) ?_;refine rT (beq_self_eq_true ..) ?_;refine rT (Bool.and_true ..) ?_;exact this
 ·refine rT (beq_false_of_ne h) ?_;refine rT (Bool.and_false ..) ?_;exact k2 (bne_iff_ne.mpr h)
end
theorem kJ {A:Around} {n:Nat} (h:A.units+(n+1)<cLine):A.in1.units+n<cLine:=by
 refine rT (Around.in1_units ..) ?_;refine rT (Kb ..) ?_;exact h
theorem fO {A:Around} {n:Nat} (h:A.units+n<cLine):A.units<cLine:=KQ (Kf _ _) h
theorem wl (n:Nat):∀ (x y:AV) (b:Bool) (A:Around) (s:Shared) (cx cy:Value),fc n x y=some b→A.units+n<cLine→(∀ a o,R a=some o→s.heap.get? a=some o)→Rel R ρ x cx→Rel R ρ y cy→EqAt A s cx cy b∧RcAt A s cx cy b:=by
 induction n with
 |zero=>exact fun _ _ _ _ _ _ _ h=>by cases h
 |succ n ih =>
  intro x y b A s cx cy h hu hf rx ry
  have refs:∀ a a',cx = .ref a→cy = .ref a'→RcAt A s (.ref a) (.ref a') b→EqAt A s cx cy b∧RcAt A s cx cy b:=fun a a' e1 e2 hr=>by
   refine rT e1 ?_;refine rT e2 ?_
   refine⟨?_,hr⟩
   by_cases q:a=a'
   ·refine rT (xP (n+1) x y b cx cy h rx ry (by rw [e1,e2,q])) ?_;refine rT q ?_;exact EqAt.same _
   ·exact EqAt.of_refs q hr
  have item:=fun x y c u v hc r1 r2=>(ih x y c A.in1 s u v hc (kJ hu) hf r1 r2).1
  refine d1 h (fun a c hx hy hc => ?_) (fun a c hx hy hc => ?_) (fun a c hx hy hc => ?_) (fun l r hx hy h => ?_) (fun l r hx hy h => ?_)
  ·obtain⟨t,rfl⟩:=ak hx rx
   obtain⟨u,rfl⟩:=ak hy ry
   exact hc▸⟨EqAt.int_int _ t _ u,RcAt.int_int _ t _ u⟩
  ·obtain⟨t,rfl⟩:=ak hx rx
   obtain⟨u,rfl⟩:=ak hy ry
   exact hc▸⟨EqAt.str_str _ t _ u,RcAt.str_str _ t _ u⟩
  ·obtain⟨t,rfl⟩:=ak hx rx
   obtain⟨u,rfl⟩:=ak hy ry
   exact hc▸⟨EqAt.bytes _ t _ u,RcAt.bytes _ t _ u⟩
  ·obtain⟨a,vs,m,e1,h1,h2⟩:=ak hx rx
   obtain⟨a',ws,m',e2,h3,h4⟩:=ak hy ry
   obtain⟨e,he,hb⟩:=sE (P:=EqAt A.in1 s) item l h h2 h4
   exact refs a a' e1 e2 (hb▸RcAt.tuples (items:=vs.toArray) (items2:=ws.toArray) ⟨_,hf _ _ h1,rfl,m,rfl⟩ ⟨_,hf _ _ h3,rfl,m',rfl⟩ (fO hu) he)
  ·obtain⟨a,vs,m,e1,h1,h2⟩:=ak hx rx
   obtain⟨a',ws,m',e2,h3,h4⟩:=ak hy ry
   obtain⟨e,he,hb⟩:=sE (P:=EqAt A.in1 s) item l h h2 h4
   refine refs a a' e1 e2 (hb▸pN (C:=RcAt A s (.ref a) (.ref a')) (fun q => ?_) fun q => ?_)
   ·exact RcAt.lists (items:=vs.toArray) (items2:=ws.toArray) ⟨_,hf _ _ h1,rfl,m,rfl⟩ ⟨_,hf _ _ h3,rfl,m',rfl⟩ q (fO hu) he
   ·exact RcAt.lists_lengths (items:=vs.toArray) (items2:=ws.toArray) ⟨_,hf _ _ h1,rfl,m,rfl⟩ ⟨_,hf _ _ h3,rfl,m',rfl⟩ q (fO hu)
theorem Aq {op:CmpOp} {A:Around} {s:Shared} {e f:AV→AV→Option Bool} (he:∀ x y p u v,e x y=some p→Rel R ρ x u→Rel R ρ y v→EqAt A s u v p) (hf:∀ x y p u v,f x y=some p→Rel R ρ x u→Rel R ρ y v→bK op A s u v p) (l:List AV) :
  ∀ {r:List AV} {vs ws:List Value} {b:Bool},uu (op == .Lt) (op == .Gt) e f l r=some b→ai R ρ l vs→ai R ρ r ws→Lex op A s vs ws b:=by
 induction l with
 |nil =>
  intro r vs ws b h rl rr
  cases (show vs=[] from rl)
  cases r with
  |nil=>cases (show ws=[] from rr);cases h;exact .nn
  |cons y r=>obtain⟨v,ws,rfl,_⟩:=rr;cases h;exact .nc v ws
 |cons x l ih =>
  intro r vs ws b h rl rr
  obtain⟨v,vs,rfl,r1,r2⟩:=rl
  cases r with
  |nil=>cases (show ws=[] from rr);cases h;exact .cn v vs
  |cons y r =>
   obtain⟨u,ws,rfl,r3,r4⟩:=rr
   refine ob h fun p hp h => ?_
   have q:=he x y p v u hp r1 r3
   cases p with
   |true=>exact .eq v u vs ws b q (ih h r2 r4)
   |false=>exact .ne v u vs ws b q (hf x y b v u h r1 r3)
theorem EL (n:Nat):∀ (x y:AV) (b:Bool) (A:Around) (s:Shared) (cx cy:Value),w5 n x y=some b→A.units+n<cLine→(∀ a o,R a=some o→s.heap.get? a=some o)→Rel R ρ x cx→Rel R ρ y cy→bK .Lt A s cx cy b:=by
 induction n with
 |zero=>exact fun _ _ _ _ _ _ _ h=>by cases h
 |succ n ih =>
  intro x y b A s cx cy h hu hf rx ry
  have lex:∀ {l r vs ws},ltL (fc n) (w5 n) l r=some b→ai R ρ l vs→ai R ρ r ws→Lex .Lt A.in1 s vs ws b:=fun h=>Aq (fun x y p u v hp r1 r2=>(wl n x y p A.in1 s u v hp (kJ hu) hf r1 r2).1) (fun x y p u v hp r1 r2=>ih x y p A.in1 s u v hp (kJ hu) hf r1 r2) _ h
  refine d1 h (fun a c hx hy hc => ?_) (fun a c hx hy hc => ?_) (fun a c hx hy hc => ?_) (fun l r hx hy h => ?_) (fun l r hx hy h => ?_)
  ·obtain⟨t,rfl⟩:=ak hx rx
   obtain⟨u,rfl⟩:=ak hy ry
   exact hc▸bK.int_lt _ t _ u
  ·obtain⟨t,rfl⟩:=ak hx rx
   obtain⟨u,rfl⟩:=ak hy ry
   exact hc▸bK.str_lt _ t _ u
  ·obtain⟨t,rfl⟩:=ak hx rx
   obtain⟨u,rfl⟩:=ak hy ry
   exact hc▸bK.bytes_lt _ t _ u
  ·obtain⟨a,vs,m,rfl,h1,h2⟩:=ak hx rx
   obtain⟨a',ws,m',rfl,h3,h4⟩:=ak hy ry
   exact fun prog w E Q hq=>richCompare_meets_room (op := .Lt) ⟨_,hf _ _ h1,rfl⟩ ⟨_,hf _ _ h3,rfl⟩ F.slot_tuple_lt F.entry_tuple_lt (F.args_tuple_lt_2 _ _) (uL a a' vs.toArray ws.toArray m m' b) ⟨hf _ _ h1,hf _ _ h3,lex h h2 h4,nofun,hq⟩ (fO hu)
  ·obtain⟨a,vs,m,rfl,h1,h2⟩:=ak hx rx
   obtain⟨a',ws,m',rfl,h3,h4⟩:=ak hy ry
   exact fun prog w E Q hq=>richCompare_meets_room (op := .Lt) ⟨_,hf _ _ h1,rfl⟩ ⟨_,hf _ _ h3,rfl⟩ F.slot_list_lt F.entry_list_lt (F.args_list_lt_2 _ _) (xM a a' vs.toArray ws.toArray m m' b) ⟨hf _ _ h1,hf _ _ h3,lex h h2 h4,nofun,hq⟩ (fO hu)
theorem G5 (n:Nat):∀ (x y:AV) (b:Bool) (A:Around) (s:Shared) (cx cy:Value),E3 n x y=some b→A.units+n<cLine→(∀ a o,R a=some o→s.heap.get? a=some o)→Rel R ρ x cx→Rel R ρ y cy→bK .Gt A s cx cy b:=by
 induction n with
 |zero=>exact fun _ _ _ _ _ _ _ h=>by cases h
 |succ n ih =>
  intro x y b A s cx cy h hu hf rx ry
  refine d1 h (fun a c hx hy hc => ?_) (fun a c hx hy hc => ?_) (fun a c hx hy hc => ?_) (fun l r hx hy h=>by cases h) (fun l r hx hy h => ?_)
  ·obtain⟨t,rfl⟩:=ak hx rx
   obtain⟨u,rfl⟩:=ak hy ry
   exact hc▸bK.int_gt _ t _ u
  ·obtain⟨t,rfl⟩:=ak hx rx
   obtain⟨u,rfl⟩:=ak hy ry
   exact hc▸bK.str_gt _ t _ u
  ·obtain⟨t,rfl⟩:=ak hx rx
   obtain⟨u,rfl⟩:=ak hy ry
   exact hc▸bK.bytes_gt _ t _ u
  ·obtain⟨a,vs,m,rfl,h1,h2⟩:=ak hx rx
   obtain⟨a',ws,m',rfl,h3,h4⟩:=ak hy ry
   have lex:=Aq (op := .Gt) (A:=A.in1) (s:=s) (fun x y p u v hp r1 r2=>(wl n x y p A.in1 s u v hp (kJ hu) hf r1 r2).1) (fun x y p u v hp r1 r2=>ih x y p A.in1 s u v hp (kJ hu) hf r1 r2) _ h h2 h4
   exact fun prog w E Q hq=>richCompare_meets_room (op := .Gt) ⟨_,hf _ _ h1,rfl⟩ ⟨_,hf _ _ h3,rfl⟩ F.slot_list_gt F.entry_list_gt (F.args_list_gt_2 _ _) (xO a a' vs.toArray ws.toArray m m' b) ⟨hf _ _ h1,hf _ _ h3,lex,nofun,hq⟩ (fO hu)
end
section
variable {A:Around} {d:Nat} {R:RM} {ρ:List Addr} {s:Shared} {H:AH}
theorem kK {v:AV} {o:Obj} {tk:Nat} (g:ag R ρ H s.heap) (hf:o.isFreed=false) (r:∀ R',(mu R R')→R' s.heap.objs.size=some o→Rel R' ρ v (.ref s.heap.objs.size)) :
  b5 R ρ s v H (.ref s.heap.objs.size) { s with heap:=s.heap.push o,toks:=tk }:=by
 obtain⟨g2,m2⟩:=dk (tk:=tk) (O:=No) g (b6 s.heap) (o:=o) (Kj _ hf) (fun b o e=>Kx _ e)
 exact⟨_,ρ,m2,g2,r _ m2.r RM.add_self⟩
theorem aQ {a:AV} {l:List AV} {v:Value} (g:ag R ρ H s.heap) (r:Rel R ρ a v) (h:aY H a=some l):∃ ad vs n,v = .ref ad∧s.heap.get? ad=some (aN vs n)∧ai R ρ l vs :=
 oe h (fun x h=>oj h (by
  obtain⟨ad,vs,n,e,h1,h2⟩:=ak x.2 r
  exact⟨ad,vs,n,e,g.froz _ _ h1,h2⟩)) fun h=>ob h fun i _ h=>ob h fun l _ h=>oj h (by
  obtain⟨ad,e,ha⟩:=ak i.2 r
  obtain⟨_,vs,n,h1,h2⟩:=g.objs _ _ _ l.2 ha
  exact⟨ad,vs,n,e,h1,h2⟩)
theorem gy {a:AV} {l:List AV} {v:Value} (g:ag R ρ H s.heap) (r:Rel R ρ a v) (h:fE H a=some l):∃ ad vs n,v = .ref ad∧(s.heap.get? ad=some (aN vs n)∨s.heap.get? ad=some (fL vs n))∧ai R ρ l vs :=
 oe h (fun x h=>oj h (by
  obtain⟨ad,vs,n,e,h1,h2⟩:=ak x.2 r
  exact⟨ad,vs,n,e,.inr (g.froz _ _ h1),h2⟩)) fun h=>by
  obtain⟨ad,vs,n,e,h1,h2⟩:=aQ g r h
  exact⟨ad,vs,n,e,.inl h1,h2⟩
theorem ay {ad:Addr} {vs:List Value} {n:Nat} {h:Heap} (e:h.get? ad=some (aN vs n)):h.IsList ad vs.toArray:=⟨_,e,rfl,n,rfl⟩
theorem uN {ad:Addr} {vs:List Value} {n:Nat} {h:Heap} (e:h.get? ad=some (fL vs n)):h.IsTuple ad vs.toArray:=⟨_,e,rfl,n,rfl⟩
theorem cq {n:Nat} (h:n≤1000001):n≤sizeLine:=Kv h (by refine rT sizeLine_eq ?_;decide)
theorem eI {n:Nat} (h:n≤1000001):(n:Int)<2 ^ 63:=Int.lt_of_le_of_lt (Int.ofNat_le.mpr h) (by decide)
theorem G6 {op:UnaryOp} {x v:AV} {cx:Value} (tru:∀ {b:Bool},cG H x=some b→EvP A (truthy cx) R ρ s b (fun _ _ a c=>c=a) H) (g:ag R ρ H s.heap) (r:Rel R ρ x cx) (h:aun op H x=some v):EvT A (unaryOp op cx) R ρ s v H:=by
 cases op with
 |USub =>
  refine ob h fun i _ h=>oj h ?_
  obtain⟨t,rfl⟩:=ak i.2 r
  exact PySem.P.neg_int (aC g ⟨_,rfl⟩)
 |Not=>exact ob h fun b hb h=>oj h (not_value ((tru hb).wp fun R' ρ' c s' m g' e=>⟨R',ρ',m,g',congrArg (fun b=>Value.bool !b) e⟩))
 |_=>cases h
theorem mN {n:Nat} {b:Bool} {G:Prop} (h:small n=some b) (k:n≤1000001→b=(n != 0)→G):G:=oi h fun h1 h=>k (KW (Nat.lt_succ_of_lt h1)) (KY h).symm
theorem wm (n:Nat):((n:Int) != 0)=(n != 0):=by cases n<;>rfl
theorem Ar {x:AV} {b:Bool} {cx:Value} (g:ag R ρ H s.heap) (r:Rel R ρ x cx) (h:cG H x=some b):EvP A (truthy cx) R ρ s b (fun _ _ a c=>c=a) H:=by
 have same:r8 R ρ s b (fun _ _ a c=>c=a) H b s:=EvP.mk g rfl
 have tok:∀ {tk c},b=c→r8 R ρ s b (fun _ _ a c=>c=a) H c { s with toks:=tk }:=fun e=>e▸⟨R,ρ,Mv.grow fun _ _ e=>e,g,rfl⟩
 have listy:∀ {x},Rel R ρ x cx→((fE H x).bind fun l=>small l.length)=some b→EvP A (truthy cx) R ρ s b (fun _ _ a c=>c=a) H:=fun r h=>ob h fun l hl h=>mN h fun hs e=>by
  obtain⟨ad,vs,n,rfl,hk,hl⟩:=gy g r hl
  have e:b=!vs.toArray.isEmpty:=e.trans (by refine rB hl.length ?_;cases vs<;>rfl)
  have hlen:((vs.toArray.size:Int))<2 ^ 63:=eI (show vs.length≤_ from hl.length▸hs)
  exact hk.elim (fun hk=>wpAny_truthy_list (ay hk) hlen (tok e)) fun hk=>PyProof.Rows.truthy_tuple (uN hk) hlen (tok e)
 cases x with
 |none=>cases h;cases (show cx = .none from r);exact truthy_none same
 |bool b=>cases h;cases (show cx = .bool b from r);exact fM same
 |int i=>cases h;obtain⟨t,rfl⟩:=r;exact PySem.P.truthy_int same
 |str x =>
  obtain⟨t,rfl⟩:=r
  exact mN h fun hs e=>PySem.P.truthy_str (Int.not_le.mpr (eI hs)) (tok (e.trans (wm _).symm))
 |bytes x =>
  obtain⟨t,rfl⟩:=r
  exact mN h fun hs e=>truthy_bytes (Kv hs (by decide)) (tok (e.trans (wm _).symm))
 |_=>exact listy r h
theorem uO {b c:Array UInt8} {cx cy:Value} (g:ag R ρ H s.heap) (rx:Rel R ρ (.bytes b) cx) (ry:Rel R ρ (.bytes c) cy) (hsz:b.size+c.size≤1000000):EvT A (inplaceOp .Add cx cy) R ρ s (.bytes (b++c)) H:=by
 obtain⟨t,rfl⟩:=rx
 obtain⟨u,rfl⟩:=ry
 refine iconcat_gives (typeIs_bytes s b t) (typeIs_bytes s c u) (by refine rT (typeLookup_type ..) ?_;refine rT builtinLookup_eq_fast ?_;kernel_rfl) KBy.noFill_bytes_add KBy.seq_bytes_add FB.slot_bytes_add FB.entry_bytes_add (FB.args_bytes_add_2 _ _) (KBy.gives_bytes_add (KBy.tooLong_not (Kv hsz (by decide)))) ?_
 by_cases hb:b.isEmpty=true
 ·refine rT (if_pos hb) ?_;refine rT (Array.isEmpty_iff.1 hb) ?_;refine rT Array.empty_append ?_
  exact aD g ⟨u,rfl⟩
 ·refine rT (if_neg hb) ?_
  by_cases hc:c.isEmpty=true
  ·refine rT (if_pos hc) ?_;refine rT (Array.isEmpty_iff.1 hc) ?_;refine rT Array.append_empty ?_
   exact aD g ⟨t,rfl⟩
  ·refine rT (if_neg hc) ?_
   exact⟨by refine rT Array.size_append ?_;exact cq (Nat.le_succ_of_le hsz),aC g ⟨_,rfl⟩⟩
theorem Dg {op:Operator} {x y v:AV} {cx cy:Value} (g:ag R ρ H s.heap) (rx:Rel R ρ x cx) (ry:Rel R ρ y cy) (h:CP op x y=some v):EvT A (inplaceOp op cx cy) R ρ s v H:=by
 cases op with
 |Add =>
  refine oe h (fun a h=>ob h fun b _ h=>oj h ?_) fun h=>ob h fun a _ h=>ob h fun b _ h=>oi h fun hp h=>oj h (uO g (ak a.2 rx) (ak b.2 ry) hp)
  obtain⟨t,rfl⟩:=ak a.2 rx
  obtain⟨u,rfl⟩:=ak b.2 ry
  exact wpAny_iadd_int (aC g ⟨_,rfl⟩)
 |_=>cases h
theorem sF {a b:Int} (h:0<b):a.fdiv b=a / b:=Int.fdiv_eq_ediv_of_nonneg a (Int.le_of_lt h)
theorem As {a b:Int} (h:0<b):a.fmod b=a % b:=Int.fmod_eq_emod_of_nonneg a (Int.le_of_lt h)
theorem ii {x y:AV} {a:{i:Int // x = .int i}} {b:{i:Int // y = .int i}} {op:Operator} {v:AV} {cx cy:Value} (rx:Rel R ρ x cx) (ry:Rel R ρ y cy) (k:∀ t u,EvT A (binaryOp op (.int a.1 t) (.int b.1 u)) R ρ s v H):EvT A (binaryOp op cx cy) R ρ s v H:=by
 obtain⟨t,rfl⟩:=ak a.2 rx
 obtain⟨u,rfl⟩:=ak b.2 ry
 exact k t u
theorem xQ {x y:AV} {l r:List AV} {cx cy:Value} (g:ag R ρ H s.heap) (rx:Rel R ρ x cx) (ry:Rel R ρ y cy) (h1:aY H x=some l) (h2:aY H y=some r) (hp:l.length+r.length≤1000000):EvT A (binaryOp .Add cx cy) R ρ s (.lst (l++r)) H:=by
 obtain⟨a1,vs,n,rfl,k1,r1⟩:=aQ g rx h1
 obtain⟨a2,ws,m,rfl,k2,r2⟩:=aQ g ry h2
 refine PySem.P.add_list (items:=vs.toArray) (items2:=ws.toArray) k1 k2 ?_ (by refine rT List.size_toArray ?_;refine rT List.size_toArray ?_;refine rT r1.length ?_;refine rT r2.length ?_;exact cq (Nat.le_succ_of_le hp))
 refine rT (List.append_toArray ..) ?_
 exact kK (v := .lst (l++r)) (o:=aN (vs++ws) 0) (tk:=s.toks) g rfl (fun R' hr e=>⟨_,vs++ws,0,rfl,e,ai.mono hr (fun _ _ h=>h) _ _ (r1.append r2)⟩)
theorem Dh {op:Operator} {x y v:AV} {cx cy:Value} (g:ag R ρ H s.heap) (rx:Rel R ρ x cx) (ry:Rel R ρ y cy) (h:fF H op x y=some v)
  (hmul:∀ b c,Rel R ρ (.bytes b) cx→Rel R ρ (.int c) cy→(if b.size=1&&0≤c&&c≤1000000 then some (.bytes (Array.replicate c.toNat (b.getD 0 0))) else none)=some v→EvT A (binaryOp .Mult cx cy) R ρ s v H)
  (hset:op = .BitOr∨op = .BitXor→EvT A (binaryOp op cx cy) R ρ s v H):EvT A (binaryOp op cx cy) R ρ s v H:=by
 cases op with
 |Add =>
  refine oe h (fun a h=>ob h fun b _ h=>oj h (ii (a:=a) (b:=b) rx ry fun _ _=>PySem.P.add_int (aC g ⟨_,rfl⟩))) fun h=>oe h (fun a h=>ob h fun b _ h=>oi h fun hp h=>oj h ?_) fun h=>oe h (fun a h=>ob h fun b _ h=>oi h fun hp h=>oj h ?_)
   fun h=>ob h fun l h1 h=>ob h fun r h2 h=>oi h fun hp h=>oj h (xQ g rx ry h1 h2 hp)
  ·obtain⟨t,rfl⟩:=ak a.2 rx
   obtain⟨u,rfl⟩:=ak b.2 ry
   exact PyProof.Rows.add_str (x:=a.1) (y:=b.1) (fun t' tk=>aC g ⟨_,rfl⟩) (cq (Nat.le_succ_of_le hp))
  ·obtain⟨t,rfl⟩:=ak a.2 rx
   obtain⟨u,rfl⟩:=ak b.2 ry
   exact KBy.add_bytes (Kv hp (by decide)) fun t' tk=>aC g ⟨_,rfl⟩
 |Sub=>exact ob h fun a _ h=>ob h fun b _ h=>oj h (ii (a:=a) (b:=b) rx ry fun _ _=>PySem.P.sub_int (aC g ⟨_,rfl⟩))
 |Mult=>exact ob h fun b _ h=>oe h (fun a h=>oi h fun hp h=>oj h (ii (a:=a) (b:=b) rx ry fun _ _=>bq hp fun h1 h2=>PySem.P.mul_int (aC g ⟨_,rfl⟩) (IntMulOk.of_left (intBits_le_64 (by have:=of_decide_eq_true h1;omega) (by have:=of_decide_eq_true h1;omega))))) fun h=>ob h fun a _ h=>hmul a.1 b.1 (ak a.2 rx) (ak b.2 ry) h
 |Mod=>exact ob h fun a _ h=>ob h fun b _ h=>oi h fun hp h=>oj h (ii (a:=a) (b:=b) rx ry fun _ _=>As hp▸PyProof.Rows.mod_int (Int.ne_of_gt hp) (aC g ⟨_,rfl⟩))
 |FloorDiv=>exact ob h fun a _ h=>ob h fun b _ h=>oi h fun hp h=>oj h (ii (a:=a) (b:=b) rx ry fun _ _=>bq hp fun h1 h2=>sF (of_decide_eq_true h1)▸PyProof.Rows.floordiv_int (Int.ne_of_gt (of_decide_eq_true h1)) (aC g ⟨_,rfl⟩) (.inl (PyProof.noPylong_small (by have:=of_decide_eq_true h1;have:=of_decide_eq_true h2;omega))))
 |RShift =>
  refine ob h fun a _ h=>ob h fun b _ h=>oi h fun hp h=>oj h ?_
  obtain⟨t,rfl⟩:=ak a.2 rx
  obtain⟨u,rfl⟩:=ak b.2 ry
  refine rT hp ?_;refine rB (sF (by decide:(0:Int)<2)) ?_
  exact PyProof.Rows.rshift_int (n:=1) (by decide) (aC g ⟨_,rfl⟩)
 |BitOr=>exact hset (.inl rfl)
 |BitXor=>exact hset (.inr rfl)
 |_=>cases h
end
end
end Mine
namespace Mine
open PySem PySem.W PySem.Calls PyProof.Rows Builtin
noncomputable section
section
variable {b c:Array UInt8} {t u:Tok}
theorem pO:isInstance (.bytes c u) (.type "tuple")=pure false:=by
 have e:isInstance (.bytes c u) (.type "tuple")=isSubtype (.type "bytes") (.type "tuple"):=rfl
 refine rT e ?_;exact rT F.sub_bytes_tuple rfl
noncomputable def fm (b:Array UInt8) (atEnd:Bool) (sub:Array UInt8):Bool :=
 let (lo,hi):=Bytes.window b.size none none
 if hi-lo<sub.size then false
  else if atEnd then b.extract (hi.toNat-sub.size) hi.toNat==sub
  else b.extract lo.toNat (lo.toNat+sub.size)==sub
theorem iA:Builtin.«bytes.startswith» ⟨[.bytes b t,.bytes c u],[]⟩=ret (.bool (fm b false c)):=by
 refine (?_:(isInstance (.bytes c u) (.type "tuple") >>= fun r=>_)=_)
 refine rT pO ?_
 refine (?_:(Bytes.buffer? _ (.bytes c u) >>= fun r=>_)=_)
 refine rT KBy.buffer_eq ?_
 rfl
theorem jF:Builtin.«bytes.endswith» ⟨[.bytes b t,.bytes c u],[]⟩=ret (.bool (fm b true c)):=by
 refine (?_:(isInstance (.bytes c u) (.type "tuple") >>= fun r=>_)=_)
 refine rT pO ?_
 refine (?_:(Bytes.buffer? _ (.bytes c u) >>= fun r=>_)=_)
 refine rT KBy.buffer_eq ?_
 rfl
noncomputable def dV (b c:Array UInt8):Option (Nat×Nat):=let (lo,hi):=Bytes.window b.size none none;if hi-lo<c.size then none else some (lo.toNat,hi.toNat)
theorem oU {n:String}:Bytes.searchArgs .bytes n ⟨[.bytes b t,.bytes c u],[]⟩=pure (b,c,dV b c):=by
 refine (?_:(Bytes.buffer? _ (.bytes c u) >>= fun r=>_)=_)
 refine rT KBy.buffer_eq ?_
 rfl
theorem jG {id:String}:Bytes.bytesLike id (.bytes c u)=pure c:=by
 refine (?_:(Bytes.buffer? _ (.bytes c u) >>= fun r=>_)=_)
 refine rT KBy.buffer_eq ?_
 rfl
theorem jH:Gives (Builtin.«bytes.rfind» ⟨[.bytes b t,.bytes c u],[]⟩) (.int (match (dV b c).bind fun (lo,hi)=>Bytes.rfind? b c lo hi with|some i=>(i:Int)|none => -1)):=by
 unfold Builtin.«bytes.rfind» Bytes.searchM
 refine rT oU ?_
 refine (?_:Gives (match (dV b c).bind fun (lo,hi)=>Bytes.rfind? b c lo hi with|some i=>retInt i|none=>(do rule _;retInt (-1))) _)
 cases (dV b c).bind fun (lo,hi)=>Bytes.rfind? b c lo hi with
 |none=>exact .rule (.of_eq rfl)
 |some i=>exact .of_eq rfl
noncomputable def iG (b c:Array UInt8):List UInt8:=(b.toList.reverse.dropWhile c.contains).reverse
theorem i9:Gives (Builtin.«bytes.rstrip» ⟨[.bytes b t,.bytes c u],[]⟩) (if ((iG b c).length==b.size)=true then .val (.bytes b t) else .bytes (iG b c).toArray):=by
 unfold Builtin.«bytes.rstrip» Bytes.stripM
 refine (?_:Gives (Bytes.bytesLike _ (.bytes c u) >>= fun set=>_) _)
 refine rT jG ?_
 refine (?_:Gives (if ((iG b c).length==b.size)=true then (do rule _;_) else _) _)
 split
 ·exact .rule (.of_eq rfl)
 ·exact .of_eq rfl
theorem uP {n:Int}:asIndex (.int n u)=pure n:=rfl
theorem fits_of {n:Int} (h0:0≤n) (h1:n≤1000000):Bytes.fitsIndex n=true:=by
 exact (Bool.and_eq_true ..).mpr ⟨decide_eq_true (Int.le_trans (by decide) h0),decide_eq_true (Int.lt_of_le_of_lt h1 (by decide))⟩
theorem lS {n:Int} (h0:0≤n) (h1:n≤1000000) (hs:b.size=1):Gives (Builtin.«bytes.__mul__» ⟨[.bytes b t,.int n u],[]⟩) (if (b.size*n.toNat==b.size)=true then .val (.bytes b t) else .bytes (Bytes.repeated b n.toNat)):=by
 have ht:1*n.toNat≤1000000:=Kv (Kh (Nat.one_mul _)) (Int.toNat_le.mpr h1)
 have hz:¬ b.size*n.toNat≥2 ^ 63:=by refine rT hs ?_;exact Nat.not_le.mpr (KQ ht (by decide))
 have hl:Bytes.tooLong (b.size*n.toNat)=false:=KBy.tooLong_not (by refine rT hs ?_;exact Kv ht (by decide))
 refine (?_:Gives ((asIndex (.int n u) >>= fun n=>_) >>= fun r=>_) _)
 refine rT uP ?_
 refine (?_:Gives ((if (!Bytes.fitsIndex n)=true then _ else pure (Value.bytes b t,n)) >>= fun r=>_) _)
 refine rT (fits_of h0 h1) ?_
 refine (?_:Gives (if b.size*n.toNat≥2 ^ 63 then _ else _) _)
 refine rT (if_neg hz) ?_
 refine (?_:Gives (if (b.size*n.toNat==b.size)=true then (do rule _;ret (.bytes b t)) else (if Bytes.tooLong (b.size*n.toNat)=true then _ else _)) _)
 refine rT hl ?_
 split
 ·exact .rule (.of_eq rfl)
 ·exact .of_eq rfl
noncomputable def bO (b c:Array UInt8):List Nat:=(Bytes.occurrences b c 0 b.size).take (b.size+1)
theorem sG {M:Model} {A:Around} {E:Value→Shared→Prop}:∀ (l:List (Array UInt8)) (s:Shared) (Q:List Value→Shared→Prop),(∀ x∈l,x.size≤sizeLine)→(∀ vs tk,vs.length=l.length→(∀ (i:Nat) x,l[i]?=some x→∃ u,vs[i]?=some (.bytes x u))→Q vs { s with toks:=tk })→wpAny M A (l.mapM (Bytes.Kind.new .bytes)) Q E s
 |[],s,Q,_,h=>by refine rT List.mapM_nil ?_;exact JZ (h [] s.toks rfl fun i x e=>by simp at e)
 |a::l,s,Q,hl,h=>by
  refine rT List.mapM_cons ?_
  refine JX (wpAny_mkBytes (JX (sG l _ _ (fun x hx=>hl x (.tail _ hx)) fun vs tk hn hv=>JZ (h _ tk (by simp [hn]) fun i x e => ?_))) (hl a (.head _)))
  cases i with
  |zero=>simp at e;subst e;exact⟨_,rfl⟩
  |succ i=>exact hv i x (by simpa using e)
noncomputable def cr (b c:Array UInt8):List (Array UInt8):=if (bO b c).isEmpty=true then [b] else Bytes.between b c.size (bO b c)
theorem lu {M:Model} {A:Around} {E:Value→Shared→Prop} {s:Shared} {vs:List Value} {Q:Value→Shared→Prop} (hsz:vs.length≤sizeLine) (h:Q (.ref s.heap.objs.size) { s with heap:=s.heap.push (aN vs 0) }):wpAny M A (newList vs) Q E s :=
 wpAny_newObj_type h (by refine (?_:vs.toArray.size≤sizeLine);refine rT List.size_toArray ?_;exact hsz)
theorem mO {M:Model} {A:Around} {E:Value→Shared→Prop} {s:Shared} {Q:Value→Shared→Prop} (hc:c.isEmpty=false) (hl:∀ x∈cr b c,x.size≤sizeLine) (hn:(cr b c).length≤sizeLine)
  (h:∀ vs tk,vs.length=(cr b c).length→(∀ (i:Nat) x,(cr b c)[i]?=some x→∃ u,vs[i]?=some (.bytes x u))→Q (.ref s.heap.objs.size) { s with heap:=s.heap.push (aN vs 0),toks:=tk }) :
  wpAny M A (Builtin.«bytes.split» ⟨[.bytes b t,.bytes c u],[]⟩) (fun fin s'=>∃ v,fin = .done (.ret v)∧Q v s') E s:=by
 unfold Builtin.«bytes.split» Bytes.splitM
 refine (?_:wpAny _ _ (Bytes.bytesLike _ (.bytes c u) >>= fun sep=>_) _ _ _)
 refine rT jG ?_
 refine (?_:wpAny _ _ (if c.isEmpty=true then _ else (if (bO b c).isEmpty=true then _ else _)) _ _ _)
 refine rT hc ?_
 refine (?_:wpAny _ _ (if (bO b c).isEmpty=true then _ else _) _ _ _)
 unfold cr at hl hn h
 by_cases hp:(bO b c).isEmpty=true
 ·rw [if_pos hp] at hl hn h ⊢
  refine JX (wpAny_rule ?_)
  refine (?_:wpAny _ _ (newList [.bytes b t] >>= fun v=>_) _ _ _)
  refine JX (lu (by simp at hn ⊢;exact hn) (JZ ⟨_,rfl,?_⟩))
  exact h [.bytes b t] s.toks rfl fun i x e=>by
   cases i with
   |zero=>simp at e;subst e;exact⟨t,rfl⟩
   |succ i=>simp at e
 ·rw [if_neg hp] at hl hn h ⊢
  refine JX (sG _ _ _ hl fun vs tk hlen hv => ?_)
  refine JX (lu (by refine rT hlen ?_;exact hn) (JZ ⟨_,rfl,?_⟩))
  exact h vs tk hlen hv
end
section
variable {prog:Program} {w:World} {A:Around} {E:Value→Shared→Prop} {s:Shared} {b c:Array UInt8} {t u:Tok}
theorem qK {id:String}:Bytes.takeBufferQuiet? id (.bytes c u) 0=pure (some (c,none)):=by
 have h:Bytes.takeBuffer? id (.bytes c u) 0=pure (some (c,none)):=by
  unfold Bytes.takeBuffer?
  refine rT (KBy.special_eq KBy.look_buffer) ?_
  refine rT KBy.own_buffer ?_
  have hb:Bytes.buffer? id (.bytes c u) (full:=((0:Int)==Bytes.fullReadOnly))=pure (some c):=KBy.buffer_eq
  refine rT hb ?_
  kernel_rfl
 unfold Bytes.takeBufferQuiet?
 refine rT h ?_
 rfl
noncomputable abbrev tkn (l:List Value):List (Value×Option Value):=l.map (·,none)
theorem mP (l:List Value):(∀ x∈l,∃ b u,x = .bytes b u)→(tkn l).any (·.1.onHeap)=false:=by
 induction l with
 |nil=>exact fun _=>rfl
 |cons x l ih =>
  intro h
  obtain⟨b,u,rfl⟩:=h x Ka
  exact ih fun y hy=>h y (List.mem_cons_of_mem _ hy)
theorem qL {M:Model} {Q:Unit→Shared→Prop} {keep:List Value} (l:List Value):(∀ x∈l,∃ b u,x = .bytes b u)→Q () s→wpAny M A (Bytes.joinLetGo (tkn l) keep) Q E s:=by
 induction l with
 |nil=>exact fun _ h=>JZ h
 |cons x l ih =>
  intro hl h
  obtain⟨b,u,rfl⟩:=hl x Ka
  exact JX (JX (JY (wpAny_point (JZ (ih (fun y hy=>hl y (List.mem_cons_of_mem _ hy)) h)))))
theorem pP {α:Type} {l:List α} {j:Nat} {x:α} (h:l[j]?=some x):l.take (j+1)=l.take j++[x]:=by refine rT List.take_add_one ?_;refine rT h ?_;rfl
structure lw (vs:List Value) (ps:List (Array UInt8)):Prop where
 n:vs.length=ps.length
 at_:∀ (i:Nat) x,ps[i]?=some x→∃ u,vs[i]?=some (.bytes x u)
theorem lw.get {vs:List Value} {ps:List (Array UInt8)} (P:lw vs ps) {j:Nat} (h:j<vs.length):∃ x u,ps[j]?=some x∧vs[j]?=some (.bytes x u) :=
 have e:=Ky (P.n▸h)
 have ⟨u,hu⟩:=P.at_ j _ e
 ⟨_,u,e,hu⟩
theorem lw.byt {vs:List Value} {ps:List (Array UInt8)} (P:lw vs ps) (x:Value) (h:x∈vs):∃ b u,x = .bytes b u:=by
 obtain⟨k,hk,rfl⟩:=List.getElem_of_mem h
 obtain⟨x,u,_,e⟩:=P.get hk
 exact⟨x,u,KY ((Ky hk).symm.trans e)⟩
theorem lw.step {vs:List Value} {ps:List (Array UInt8)} (P:lw vs ps) {j:Nat} (h:j<vs.length) {G:Prop} (k:∀ x u,ps[j]?=some x→vs[j]?=some (.bytes x u)→G):G :=
 have ⟨x,u,e1,e2⟩:=P.get h
 k x u e1 e2
theorem xR {i j m n:Nat} {rest:List Nat} (h:i::rest=List.range' j m) (e:j+m=n):j=i∧i<n∧∃ m',rest=List.range' (i+1) m'∧i+1+m'=n:=by
 cases m with
 |zero=>cases h
 |succ m =>
  obtain⟨rfl,rfl⟩:=List.cons.inj h
  exact⟨rfl,e▸Nat.lt_add_of_pos_right (Nat.succ_pos m),m,rfl,(Kb i 1 m).trans e⟩
inductive JAt (s:Shared) (vs:List Value) (ps:List (Array UInt8)) (rest:List Nat):Array (Array UInt8)×List (Value×Option Value)→Shared→Prop
 |mk (j m:Nat):rest=List.range' j m→j+m=vs.length→JAt s vs ps rest ((ps.take j).toArray,tkn (vs.take j)) s
theorem JAt.next {s:Shared} {vs:List Value} {ps:List (Array UInt8)} {rest:List Nat} {i j:Nat} {x:Array UInt8} {u:Tok} (hj:j=i) (e1:ps[i]?=some x) (e2:vs[i]?=some (.bytes x u)) (h:∃ m',rest=List.range' (i+1) m'∧i+1+m'=vs.length) :
  JAt s vs ps rest ((ps.take j).toArray.push x,tkn (vs.take j)++[(.bytes x u,none)]) s:=by
 subst hj
 obtain⟨m,h1,h2⟩:=h
 have:=JAt.mk (s:=s) (ps:=ps) _ m h1 h2
 rw [pP e1,pP e2] at this
 rw [List.push_toArray,← show tkn (vs.take j++[.bytes x u])=tkn (vs.take j)++[(.bytes x u,none)] from List.map_append]
 exact this
@[elab_as_elim] theorem JAt.end_ {s s':Shared} {vs:List Value} {ps:List (Array UInt8)} {st:Array (Array UInt8)×List (Value×Option Value)} (P:lw vs ps) (h:JAt s vs ps [] st s') {G:Array (Array UInt8)×List (Value×Option Value)→Shared→Prop} (k:G (ps.toArray,tkn vs) s):G st s':=by
 obtain⟨j,m,hr,hm⟩:=h
 cases m with
 |succ m=>cases hr
 |zero =>
  obtain rfl:j=vs.length:=hm
  rw [List.take_length,P.n,List.take_length]
  exact k
theorem lT {ad:Addr} {vs:List Value} {n:Nat} {ps:List (Array UInt8)} {Q:Fin→Shared→Prop} (hl:s.heap.get? ad=some (aN vs n)) (hv:vs.length=ps.length) (hp:∀ (i:Nat) x,ps[i]?=some x→∃ u,vs[i]?=some (.bytes x u))
  (hsz:Bytes.tooLong (ps.toArray.foldl (·+·.size) (b.size*(ps.toArray.size-1)))=false) (hsz2:(Bytes.joined b ps).size≤sizeLine) (h:∀ t' tk,Q (.done (.ret (.bytes (Bytes.joined b ps) t'))) { s with toks:=tk }) :
  wpAny (model prog w) A (Builtin.«bytes.join» ⟨[.bytes b t,.ref ad],[]⟩) Q E s:=by
 have P:lw vs ps:=⟨hv,hp⟩
 unfold Builtin.«bytes.join» Bytes.joinM
 refine (?_:wpAny _ _ (Bytes.joinItems (.ref ad) >>= fun seq=>_) _ _ _)
 refine JX ?_
 unfold Bytes.joinItems
 refine JX (wpAny_typeOf (T := "list") ⟨_,hl,rfl⟩ (JZ (JX (wpAny_seqItems hl rfl ?_))))
 dsimp (config:={zeta:=false}) only
 extract_lets p0 t0 jp
 have hjp:wpAny (model prog w) A (jp ()) Q E s:=by
  refine (?_:wpAny _ _ ((forIn [:vs.toArray.size] (p0,t0) _:Sem _) >>= fun s=>_) _ _ _)
  refine rT (Std.Legacy.Range.forIn_eq_forIn_range' ..) ?_
  refine JX (wpAny_forIn_list _ (JAt s vs ps) _ ?_ ?_ _ _ (.mk 0 vs.length ?_ (Nat.zero_add _)))
  ·intro i rest st s' hst
   cases hst with
   |mk j m hr hm =>
    have hc:=xR hr hm
    refine P.step hc.2.1 fun x u e1 e2 => ?_
    refine JX (wpAny_seqItems hl rfl ?_)
    dsimp only
    refine rT (a:=vs.toArray.getD i Value.none) (b := .bytes x u) (by rw [Array.getD_eq_getD_getElem?,List.getElem?_toArray,e2];rfl) ?_
    refine rT (mP _ fun x hx=>P.byt x (List.mem_of_mem_take hx)) ?_
    refine JX (JY (wpAny_of_eq qK (JX (wpAny_seqItems hl rfl ?_))))
    refine (?_:wpAny _ _ (if (vs.toArray.size != vs.toArray.size)=true then _ else _) _ _ _)
    refine rT (bne_self_eq_false ..) ?_
    exact JZ (JAt.next hc.1 e1 e2 hc.2.2)
  ·intro st s' hst
   refine JAt.end_ P hst ?_
   refine (?_:wpAny _ _ (if Bytes.tooLong (ps.toArray.foldl (fun x1 x2=>x1+x2.size) (b.size*(ps.toArray.size-1)))=true then _ else _) _ _ _)
   refine rT hsz ?_
   exact JX (wpAny_mkBytes (JX (JY (wpAny_point (JX (qL vs P.byt (JZ (h _ _))))))) hsz2)
  ·rw [Std.Legacy.Range.size];simp
 clear_value jp p0 t0
 have one:∀ x,vs=[x]→wpAny (model prog w) A (typeOf x >>= fun ty=>if (ty == .type "bytes")=true then (do rule "bytes.join.one-item";ret x) else jp ()) Q E s:=fun x hx=>by
  obtain⟨y,u,e1,e2⟩:=P.get (j:=0) (hx▸Nat.zero_lt_one)
  obtain rfl:x = .bytes y u:=KY (by rw [← e2,hx];rfl)
  have e3:ps=[y]:=by
   rw [hx] at hv
   obtain⟨z,e⟩:=List.length_eq_one_iff.mp hv.symm
   rw [e] at e1;rw [e,Option.some.inj e1]
  refine JX (wpAny_typeOf (typeIs_bytes s y u) ?_)
  refine (?_:wpAny _ _ (rule _ >>= fun _=>_) _ _ _)
  refine JX (wpAny_rule (JZ ?_))
  have:=h u s.toks
  rw [e3,show Bytes.joined b [y]=y from by simp [Bytes.joined]] at this
  exact this
 rw [if_pos (by rfl)]
 rcases vs with _|⟨x,_|⟨y,r⟩⟩
 ·exact hjp
 ·exact one x rfl
 ·exact hjp
theorem oV {ad:Addr} {vs:List Value} {n:Nat} {ps:List (Array UInt8)} {Q:Value→Shared→Prop} (hl:s.heap.get? ad=some (aN vs n)) (hv:vs.length=ps.length) (hp:∀ (i:Nat) x,ps[i]?=some x→∃ u,vs[i]?=some (.bytes x u))
  (hsz:Bytes.tooLong (ps.toArray.foldl (·+·.size) (b.size*(ps.toArray.size-1)))=false) (hsz2:(Bytes.joined b ps).size≤sizeLine) (h:∀ t' tk,Q (.bytes (Bytes.joined b ps) t') { s with toks:=tk }) :
  wpAny (model prog w) A (Builtin.«bytes.join» ⟨[.bytes b t,.ref ad],[]⟩) (fun fin s'=>∃ v,fin = .done (.ret v)∧Q v s') E s:=lT hl hv hp hsz hsz2 fun t' tk=>⟨_,rfl,h t' tk⟩
end
theorem gz (n:Nat):Bytes.window n none none=(0,(n:Int)):=by
 simp only [Bytes.window,Option.getD_none]
 refine rT (if_neg (by lia)) ?_;refine rT (if_neg (by lia)) ?_
 simp
theorem eJ {b:Array UInt8} {i:Nat} {c:UInt8}:(b.extract i (i+1)==#[c])=(b.toList[i]?==some c):=by
 obtain⟨l⟩:=b
 have:(({ toList:=l }:Array UInt8).extract i (i+1)).toList=(l.drop i).take 1:=by simp
 have e:((({ toList:=l }:Array UInt8).extract i (i+1))==#[c])=((l.drop i).take 1==[c]):=by
  refine rB this ?_;refine rP Bool.eq_iff_iff ?_;refine rP beq_iff_eq ?_;refine rP beq_iff_eq ?_
  exact⟨fun h=>by exact rT h rfl,fun h=>by refine rQ Array.toList_inj ?_;exact h⟩
 refine rT e ?_
 cases h:l.drop i with
 |nil =>
  have:l.length≤i:=by simpa using h
  simp [this]
 |cons x r =>
  have hi:i<l.length:=by
   rcases Nat.lt_or_ge i l.length with h'|h'
   ·exact h'
   ·rw [List.drop_of_length_le h'] at h;cases h
  rw [List.drop_eq_getElem_cons hi] at h
  injection h with h1 h2
  refine rT (Ky hi) ?_;refine rT h1 ?_
  simp
theorem oW (b:Array UInt8) (c:UInt8):fm b false #[c]=(b.toList.head?==some c):=by
 unfold fm
 refine rT (gz ..) ?_
 simp only [Bool.false_eq_true,if_false]
 obtain⟨l⟩:=b
 cases l with
 |nil=>rfl
 |cons x r =>
  refine rT (if_neg (by simp;lia)) ?_
  have:=eJ (b:=⟨x::r⟩) (i:=0) (c:=c)
  simpa using this
theorem sH (b:Array UInt8) (c:UInt8):fm b true #[c]=(b.toList.getLast?==some c):=by
 unfold fm
 refine rT (gz ..) ?_
 simp only [if_true]
 obtain⟨l⟩:=b
 rcases List.eq_nil_or_concat l with rfl|⟨l,x,rfl⟩
 ·rfl
 ·refine rT (if_neg (by simp;lia)) ?_
  have:=eJ (b:=⟨l++[x]⟩) (i:=l.length) (c:=c)
  simpa using this
theorem mQ {α:Type} {p q:α→Bool}:∀ {l:List α},(∀ x∈l,p x=q x)→l.find? p=l.find? q
 |[],_=>rfl
 |a::r,h=>by refine rT List.find?_cons ?_;refine rT List.find?_cons ?_;refine rT (h a (.head _)) ?_;exact rT (mQ fun x hx=>h x (.tail _ hx)) rfl
theorem uQ (c:UInt8):∀ (l:List UInt8),(match (List.range l.length).reverse.find? (fun i=>l[i]?==some c) with|some i=>(i:Int)|none => -1)=(l.length:Int)-1-((l.reverse.findIdx (·==c):Nat):Int):=by
 intro l
 induction h:l.length generalizing l with
 |zero=>cases l with
  |nil=>rfl
  |cons=>cases h
 |succ n ih =>
  rcases List.eq_nil_or_concat l with rfl|⟨l,x,rfl⟩
  ·cases h
  ·simp only [List.concat_eq_append] at h ⊢
   have hn:l.length=n:=by simpa using h
   refine rT List.range_succ ?_;refine rT List.reverse_append ?_;refine rT List.reverse_append ?_
   simp only [List.reverse_cons,List.reverse_nil,List.nil_append,List.singleton_append,List.find?_cons,List.findIdx_cons]
   have e1:(l++[x])[n]?=some x:=by refine rB hn ?_;simp
   refine rT e1 ?_
   by_cases hx:x=c
   ·subst hx;simp
   ·have h2:(some x==some c)=false:=by simpa using hx
    have h3:(x==c)=false:=by simpa using hx
    refine rT h2 ?_;refine rT h3 ?_
    have e2:(List.range n).reverse.find? (fun i=>(l++[x])[i]?==some c)=(List.range n).reverse.find? (fun i=>l[i]?==some c):=by
     apply mQ
     intro i hi
     have:i<l.length:=by refine rT hn ?_;simpa using hi
     exact rT (List.getElem?_append_left this) rfl
    simp only
    refine rT e2 ?_;refine rT (ih l hn) ?_
    simp only [cond_false]
    push_cast
    lia
theorem Au (b:Array UInt8) (c:UInt8):(match (dV b #[c]).bind fun (lo,hi)=>Bytes.rfind? b #[c] lo hi with|some i=>(i:Int)|none => -1)=(b.size:Int)-1-((b.toList.reverse.findIdx (·==c):Nat):Int):=by
 have key:=uQ c b.toList
 rw [Array.length_toList] at key
 refine rB key ?_
 unfold dV
 refine rT (gz ..) ?_
 by_cases h0:b.size=0
 ·simp [h0]
 ·have:¬ ((b.size:Int)-0<((#[c]:Array UInt8).size:Int)):=by simp;lia
  simp only [this,if_false,Option.bind_some]
  unfold Bytes.rfind?
  have e:b.size+1-(0+(#[c]:Array UInt8).size)=b.size:=by simp
  simp only [Int.toNat_zero,Int.toNat_natCast]
  refine rT e ?_
  simp only [Nat.add_zero,List.map_id']
  congr 1
  have:(fun i=>b.extract i (i+(#[c]:Array UInt8).size)==#[c])=fun i=>b.toList[i]?==some c:=by
   funext i;exact eJ
  exact rT this rfl
theorem xS (b:Array UInt8) (c:UInt8):iG b #[c]=(b.toList.reverse.dropWhile (·==c)).reverse:=by
 unfold iG
 congr 2
 funext x
 simp [Array.contains,Bool.beq_comm,BEq.comm]
noncomputable def ja (c:UInt8):Nat→List UInt8→List Nat
 |_,[]=>[]
 |k,a::r=>if a==c then k::ja c (k+1) r else ja c (k+1) r
theorem Aw (c:UInt8) (k:Nat) (l:List UInt8):(ja c k l).length≤l.length:=by
 induction l generalizing k with
 |nil=>exact KX _
 |cons a r ih =>
  rw [ja]
  split
  ·exact Nat.succ_le_succ (ih _)
  ·exact Nat.le_succ_of_le (ih _)
theorem Di (b:Array UInt8) (c:UInt8) (m:Nat):∀ (k:Nat) (acc:List Nat) (nx:Nat),k+m=b.size→nx≤k →
  ((List.range' k m).foldl (fun (acc:List Nat×Nat) i=>if i≥acc.2&&b.extract i (i+1)==#[c] then (i::acc.1,i+1) else acc) (acc,nx)).1=(ja c k (b.toList.drop k)).reverse++acc:=by
 induction m with
 |zero =>
  intro k acc nx h _
  exact rT (List.drop_eq_nil_of_le (Kh h.symm):b.toList.drop k=[]) rfl
 |succ m ih =>
  intro k acc nx h hn
  have hk:k<b.toList.length:=Nat.lt_of_lt_of_eq (Nat.lt_add_of_pos_right (Nat.succ_pos m)) h
  have hs:k+1+m=b.size:=(Kb k 1 m).trans h
  refine rT List.range'_succ ?_;refine rT List.foldl_cons ?_;refine rT (List.drop_eq_getElem_cons hk) ?_;rewrite [ja];refine rT eJ ?_;refine rT (Ky hk) ?_
  refine rT (decide_eq_true hn:decide (k≥nx)=true) ?_;refine rT (Bool.true_and ..) ?_
  by_cases hx:b.toList[k]=c
  ·refine rT (beq_iff_eq.mpr (congrArg some hx)) ?_;refine rT (beq_iff_eq.mpr hx) ?_
   refine rT (ih (k+1) _ _ hs (KX _)) ?_
   simp
  ·refine rT (beq_eq_false_iff_ne.mpr fun e=>hx (KY e)) ?_;refine rT (beq_eq_false_iff_ne.mpr hx) ?_
   exact ih (k+1) _ _ hs (Nat.le_succ_of_le hn)
theorem mR (b:Array UInt8) (c:UInt8):Bytes.occurrences b #[c] 0 b.size=ja c 0 b.toList:=by
 unfold Bytes.occurrences
 have e:b.size+1-(0+(#[c]:Array UInt8).size)=b.size:=by simp
 refine rT e ?_
 simp only [Nat.add_zero,List.map_id',List.range_eq_range']
 have:=Di b c b.size 0 [] 0 (Nat.zero_add _) (KX _)
 simp only [List.drop_zero,List.append_nil] at this
 have h2:(#[c]:Array UInt8).size=1:=rfl
 refine rT h2 ?_
 refine rT (show (List.foldl _ ([],0) (List.range' 0 b.size)).1=_ from this) ?_;exact rT (List.reverse_reverse ..) rfl
theorem gA {α:Type} [BEq α] (c:α):∀ l:List α,ao c l≠[]
 |[]=>by simp [ao]
 |a::r=>by
  rw [ao]
  split
  ·simp
  ·split<;>simp
theorem sI (b:Array UInt8) (c:UInt8):∀ (l:List UInt8) (k last:Nat) (parts:Array (Array UInt8)),b.toList.drop k=l→last≤k→k≤b.size →
  (let q:=(ja c k l).foldl (fun (x:Array (Array UInt8)×Nat) p=>(x.1.push (b.extract x.2 p),p+1)) (parts,last);(q.1.push (b.extract q.2 b.size)).toList) =
   parts.toList++(match ao c l with|w::ws=>(b.extract last k++w.toArray)::ws.map (·.toArray) | []=>[]):=by
 intro l
 induction l with
 |nil =>
  intro k last parts h hl hk
  have:k=b.size:=Nat.le_antisymm hk (List.drop_eq_nil_iff.mp h)
  subst this
  simp [ja,ao]
 |cons a r ih =>
  intro k last parts h hl hk
  have hlt:k<b.toList.length:=by
   rcases Nat.lt_or_ge k b.toList.length with h'|h'
   ·exact h'
   ·rw [List.drop_of_length_le h'] at h;cases h
  rw [List.drop_eq_getElem_cons hlt] at h
  injection h with h1 h2
  have hk1:k+1≤b.size:=hlt
  rw [ja,ao]
  by_cases hx:(a==c)=true
  ·refine rT (if_pos hx) ?_;refine rT (if_pos hx) ?_;refine rT List.foldl_cons ?_
   have:=ih (k+1) (k+1) (parts.push (b.extract last k)) h2 (KX _) hk1
   refine rT this ?_
   obtain⟨w,ws,e⟩:=List.exists_cons_of_ne_nil (gA c r)
   refine rT e ?_
   have hz:b.extract (k+1) (k+1)=#[]:=by simp;lia
   refine rT hz ?_
   simp
  ·refine rT (if_neg hx) ?_;refine rT (if_neg hx) ?_
   have:=ih (k+1) last parts h2 (Nat.le_succ_of_le hl) hk1
   refine rT this ?_
   obtain⟨w,ws,e⟩:=List.exists_cons_of_ne_nil (gA c r)
   refine rT e ?_
   have hex:b.extract last (k+1)=b.extract last k++#[a]:=by
    refine rQ Array.toList_inj ?_
    simp only [Array.toList_extract,Array.toList_append,List.extract_eq_take_drop]
    have e1:k+1-last=(k-last)+1:=Nat.succ_sub hl
    refine rT e1 ?_;refine rT List.take_add_one ?_
    congr 1
    refine rT List.getElem?_drop ?_
    have e2:last+(k-last)=k:=Nat.add_sub_of_le hl
    refine rT e2 ?_;refine rT (Ky hlt) ?_;refine rT h1 ?_
    rfl
   refine rT hex ?_
   simp
theorem mS (b:Array UInt8) (c:UInt8):cr b #[c]=(ao c b.toList).map (·.toArray):=by
 have hp:bO b #[c]=ja c 0 b.toList:=by
  unfold bO
  refine rT (mR ..) ?_
  have:=Aw c 0 b.toList
  have e:b.toList.length=b.size:=Array.length_toList
  exact List.take_of_length_le (by lia)
 have hb:=sI b c b.toList 0 0 #[] rfl (KX _) (Nat.zero_le _)
 have hbt:Bytes.between b (#[c]:Array UInt8).size (ja c 0 b.toList)=(ao c b.toList).map (·.toArray):=by
  have e:Bytes.between b (#[c]:Array UInt8).size (ja c 0 b.toList)=(let q:=(ja c 0 b.toList).foldl (fun (x:Array (Array UInt8)×Nat) p=>(x.1.push (b.extract x.2 p),p+1)) (#[],0);(q.1.push (b.extract q.2 b.size)).toList):=rfl
  refine rT e ?_;refine rT hb ?_
  obtain⟨w,ws,e⟩:=List.exists_cons_of_ne_nil (gA c b.toList)
  refine rT e ?_
  simp
 unfold cr
 refine rT hp ?_
 split
 ·rename_i he
  refine rB hbt ?_
  have:ja c 0 b.toList=[]:=by simpa using he
  refine rT this ?_
  simp [Bytes.between]
 ·exact hbt
theorem pQ (b:Array UInt8):∀ (ps:List (Array UInt8)) (k:Nat) (out:Array UInt8),(ps.zipIdx (k+1)).foldl (fun out (x:Array UInt8×Nat)=>(if x.2>0 then out++b else out)++x.1) out=out++(match ps with | []=>#[]|_=>b++(bk b.toList (ps.map (·.toList))).toArray)
 |[],k,out=>by simp
 |[p],k,out=>by simp [bk]
 |p::q::r,k,out=>by
  refine rT List.zipIdx_cons ?_;refine rT List.foldl_cons ?_
  have:=pQ b (q::r) (k+1) ((if k+1>0 then out++b else out)++p)
  refine rT this ?_
  refine rT (if_pos (by lia)) ?_
  refine rQ Array.toList_inj ?_
  simp [bk]
theorem xT (b:Array UInt8) (ps:List (Array UInt8)):Bytes.joined b ps=(bk b.toList (ps.map (·.toList))).toArray:=by
 unfold Bytes.joined
 cases ps with
 |nil=>rfl
 |cons p r =>
  refine rT List.zipIdx_cons ?_;refine rT List.foldl_cons ?_
  have:=pQ b r 0 ((if (0:Nat)>0 then (#[]:Array UInt8)++b else #[])++p)
  refine rT this ?_
  cases r with
  |nil=>simp [bk]
  |cons q r=>simp [bk]
theorem sJ (b:Array UInt8) (n:Nat) (h:b.size=1):Bytes.repeated b n=Array.replicate n (b.getD 0 0):=by
 obtain⟨l⟩:=b
 rcases l with _|⟨c,_|⟨d,r⟩⟩
 ·cases h
 ·unfold Bytes.repeated
  have:(({ toList:=[c] }:Array UInt8)).isEmpty=false:=rfl
  refine rT this ?_
  have key:∀ (n:Nat) (acc:Array UInt8),(List.replicate n ({ toList:=[c] }:Array UInt8)).foldl (·++·) acc=acc++Array.replicate n c:=by
   intro n
   induction n with
   |zero=>intro acc;simp
   |succ n ih =>
    intro acc
    refine rT List.replicate_succ ?_;refine rT List.foldl_cons ?_;refine rT (ih ..) ?_
    refine rQ Array.toList_inj ?_
    simp [List.replicate_succ]
  refine rT (key ..) ?_
  simp
 ·simp at h
end
end Mine
namespace Mine
open PySem PySem.W PySem.Calls PyProof.Rows
noncomputable section
theorem gC:PlainAttrs "frozenset" :=
 ⟨⟨"object.__getattribute__",by rw [typeLookup_type,builtinLookup_eq_fast];kernel_rfl,by decide +kernel⟩,by rw [typeLookup_type,builtinLookup_eq_fast];kernel_rfl⟩
theorem fX:Manifest.owners.lookup (String.ofList ['t', 'e', 's', 'n', 'e', 'z', 'o', 'r', 'f'].reverse)=some Manifest.sig_frozenset:=by kernel_rfl
theorem bV:Slot "frozenset" "isdisjoint" "frozenset.isdisjoint" :=
 .of (owner := "frozenset") (n := "isdisjoint") (by rw [typeLookup_type,builtinLookup_eq_fast];kernel_rfl) (by decide +kernel) (by decide +kernel) (by decide +kernel)
  (by first|exact .inl (by decide +kernel)|exact .inr (by decide +kernel)) (by rw [isSubtype_type];kernel_rfl)
theorem ez:typeOf (.builtin "frozenset.isdisjoint")=pure (.type "method_descriptor"):=by refine (?_:builtinType _=_);rw [builtinType_eq_fast];kernel_rfl
theorem d6:entryFor table "frozenset.isdisjoint" = some Builtin.«frozenset.isdisjoint» := entryFor_of_tree (by kernel_rfl)
theorem dN (a b:Value):argsOk "frozenset.isdisjoint" ⟨[a,b],[]⟩:=by
 unfold argsOk;rw [signature?_of (id := "frozenset.isdisjoint") (n:=['t', 'n', 'i', 'o', 'j', 's', 'i', 'd', 's', 'i']) (o:=['t', 'e', 's', 'n', 'e', 'z', 'o', 'r', 'f']) (by kernel_rfl) fX];kernel_rfl
theorem bg:plainId "frozenset.isdisjoint.loop" = true:=by decide +kernel
theorem dg:entryFor table "frozenset.isdisjoint.loop" = some Builtin.«frozenset.isdisjoint.loop» := entryFor_of_tree (by kernel_rfl)
theorem bW:Slot "frozenset" "issuperset" "frozenset.issuperset" :=
 .of (owner := "frozenset") (n := "issuperset") (by rw [typeLookup_type,builtinLookup_eq_fast];kernel_rfl) (by decide +kernel) (by decide +kernel) (by decide +kernel)
  (by first|exact .inl (by decide +kernel)|exact .inr (by decide +kernel)) (by rw [isSubtype_type];kernel_rfl)
theorem eA:typeOf (.builtin "frozenset.issuperset")=pure (.type "method_descriptor"):=by refine (?_:builtinType _=_);rw [builtinType_eq_fast];kernel_rfl
theorem d7:entryFor table "frozenset.issuperset" = some Builtin.«frozenset.issuperset» := entryFor_of_tree (by kernel_rfl)
theorem dO (a b:Value):argsOk "frozenset.issuperset" ⟨[a,b],[]⟩:=by
 unfold argsOk;rw [signature?_of (id := "frozenset.issuperset") (n:=['t', 'e', 's', 'r', 'e', 'p', 'u', 's', 's', 'i']) (o:=['t', 'e', 's', 'n', 'e', 'z', 'o', 'r', 'f']) (by kernel_rfl) fX];kernel_rfl
theorem bh:plainId "frozenset.issuperset.loop" = true:=by decide +kernel
theorem dh:entryFor table "frozenset.issuperset.loop" = some Builtin.«frozenset.issuperset.loop» := entryFor_of_tree (by kernel_rfl)
theorem d8:Slot "bytes" "__mul__" "bytes.__mul__" :=
 .of (owner := "bytes") (n := "__mul__") (by rw [typeLookup_type,builtinLookup_eq_fast];kernel_rfl) (by decide +kernel) (by decide +kernel) (by decide +kernel)
  (by first|exact .inl (by decide +kernel)|exact .inr (by decide +kernel)) (by rw [isSubtype_type];kernel_rfl)
theorem fY:Slot "bytes" "__rmul__" "bytes.__rmul__" :=
 .of (owner := "bytes") (n := "__rmul__") (by rw [typeLookup_type,builtinLookup_eq_fast];kernel_rfl) (by decide +kernel) (by decide +kernel) (by decide +kernel)
  (by first|exact .inl (by decide +kernel)|exact .inr (by decide +kernel)) (by rw [isSubtype_type];kernel_rfl)
theorem lU:entryFor table "bytes.__mul__" = some Builtin.«bytes.__mul__» := entryFor_of_tree (by kernel_rfl)
theorem kL (a b:Value):argsOk "bytes.__mul__" ⟨[a,b],[]⟩:=by
 unfold argsOk;rw [signature?_of (id := "bytes.__mul__") (n:=['_', '_', 'l', 'u', 'm', '_', '_']) (o:=['s', 'e', 't', 'y', 'b']) (by kernel_rfl) bN];kernel_rfl
section
variable {M:Model} {A:Around} {E:Value→Shared→Prop} {s:Shared} {pl:Sem Bool} {Q:Value×List Value→Shared→Prop} {n:Str} {id:String}
theorem Fn {x:Str} {t:Tok} (slot:Slot "str" n id) (ty:typeOf (.builtin id)=pure (.type "method_descriptor")) (h:Q (.builtin id,[.str x t]) s):wpAny M A (getMethod (.str x t) n pl) Q E s :=
 PySem.getMethod_builtin (typeIs_str s x t) F.plainAttrs_str slot ty nofun h
theorem Ax {x:Array UInt8} {t:Tok} (slot:Slot "bytes" n id) (ty:typeOf (.builtin id)=pure (.type "method_descriptor")) (h:Q (.builtin id,[.bytes x t]) s):wpAny M A (getMethod (.bytes x t) n pl) Q E s :=
 PySem.getMethod_builtin (typeIs_bytes s x t) FB.plainAttrs_bytes slot ty nofun h
theorem Ay {a:Addr} {o:Obj} {T:String} (ho:s.heap.get? a=some o) (hc:o.cls = .type T) (hd:o.dict=none) (pa:PlainAttrs T) (slot:Slot T n id) (ty:typeOf (.builtin id)=pure (.type "method_descriptor")) (h:Q (.builtin id,[.ref a]) s):wpAny M A (getMethod (.ref a) n pl) Q E s :=
 PySem.getMethod_builtin ⟨o,ho,hc⟩ pa slot ty (fun b e=>by injection e with e;subst e;exact⟨o,ho,hd⟩) h
end
section
variable {A:Around} {d:Nat} {R:RM} {ρ:List Addr} {s:Shared} {H:AH}
theorem Az {i:Nat} (h:fU H (.ref i)=true):∃ l,H[i]?=some (.list l):=by
 replace h:(match H[i]? with|some (.list _)=>true|_=>false)=true:=h
 cases q:H[i]? with
 |none=>rw [q] at h;cases h
 |some o=>cases o with
  |list l=>exact⟨l,rfl⟩
  |dict _=>rw [q] at h;cases h
theorem avk {x:AV} {k:Nat} (h:Nat.beq (avK x) k=true):match k with
  |1=>∃ y,x = .str y
  |2=>∃ y,x = .bytes y
  |3=>∃ y,x = .fset y
  |4=>∃ y,x = .ref y
  |_=>True:=by
 cases Nat.eq_of_beq_eq_true h
 cases x with
 |str y=>exact⟨y,rfl⟩
 |bytes y=>exact⟨y,rfl⟩
 |fset y=>exact⟨y,rfl⟩
 |ref y=>exact⟨y,rfl⟩
 |_=>trivial
noncomputable abbrev AA (A:Around) (s:Shared) (cx:Value) (n:Str) (id:String):Prop:=∀ pl:Sem Bool,wpAny X.M A (getMethod cx n pl) (fun r s'=>r=(.builtin id,[cx])∧s'=s) NoE s
section
variable {x:AV} {cx:Value} {n:Str} {id:String} (r:Rel R ρ x cx)
include r
theorem AB (h:∃ y,x = .str y) (sl:Slot "str" n id) (ty:typeOf (.builtin id)=pure (.type "method_descriptor")):AA A s cx n id:=fun pl=>by
 obtain⟨y,rfl⟩:=h;obtain⟨t,rfl⟩:=r;exact Fn sl ty ⟨rfl,rfl⟩
theorem pR (h:∃ y,x = .bytes y) (sl:Slot "bytes" n id) (ty:typeOf (.builtin id)=pure (.type "method_descriptor")):AA A s cx n id:=fun pl=>by
 obtain⟨y,rfl⟩:=h;obtain⟨t,rfl⟩:=r;exact Ax sl ty ⟨rfl,rfl⟩
theorem EM (g:ag R ρ H s.heap) (h:∃ y,x = .fset y) (sl:Slot "frozenset" n id) (ty:typeOf (.builtin id)=pure (.type "method_descriptor")):AA A s cx n id:=fun pl=>by
 obtain⟨y,rfl⟩:=h
 obtain⟨a,o,rfl,ho,es,ep,t,rfl,_⟩:=r
 exact Ay (g.froz _ _ ho) rfl rfl gC sl ty ⟨rfl,rfl⟩
theorem EN (g:ag R ρ H s.heap) (hrec:fU H x=true) (h:∃ y,x = .ref y) (sl:Slot "list" n id) (ty:typeOf (.builtin id)=pure (.type "method_descriptor")):AA A s cx n id:=fun pl=>by
 obtain⟨y,rfl⟩:=h
 obtain⟨a,rfl,ha⟩:=r
 obtain⟨l,hl⟩:=Az hrec
 obtain⟨_,vs,k,h1,_⟩:=g.objs _ _ _ hl ha
 exact Ay h1 rfl rfl F.plainAttrs_list sl ty ⟨rfl,rfl⟩
end
theorem Dj {m:ME} {x:AV} {cx:Value} (g:ag R ρ H s.heap) (r:Rel R ρ x cx) (hrec:fU H x=true) (h:Nat.beq (avK x) (meK m)=true):AA A s cx (mr m) (zH m):=by
 cases m with
 |index=>exact AB r (avk h) F.slot_str_index F.type_str_index
 |encode=>exact AB r (avk h) F.slot_str_encode F.type_str_encode
 |sjoin=>exact AB r (avk h) F.slot_str_join F.type_str_join
 |startswith=>exact pR r (avk h) FB.slot_bytes_startswith FB.type_bytes_startswith
 |endswith=>exact pR r (avk h) FB.slot_bytes_endswith FB.type_bytes_endswith
 |rfind=>exact pR r (avk h) fj kF
 |rstrip=>exact pR r (avk h) eH jC
 |split=>exact pR r (avk h) fk kH
 |bjoin=>exact pR r (avk h) fW lR
 |isdisjoint=>exact EM r g (avk h) bV ez
 |issuperset=>exact EM r g (avk h) bW eA
 |append=>exact EN r g hrec (avk h) F.slot_list_append F.type_list_append
 |pop=>exact EN r g hrec (avk h) F.slot_list_pop F.type_list_pop
theorem xU {a:Addr} {l:List Nat} {o:Obj} {c:Nat} {t:Tok} {Q:Bool→Shared→Prop} (ho:s.heap.get? a=some o) (hf:eE X l o) (h:Q (l.contains c) { s with toks:=s.toks+1 }):wpAny X.M A (setContains a (.str ⟨#[c]⟩ t)) Q NoE s:=by
 obtain⟨es,ep,tb,rfl,hel,hb,hfit,hmem⟩:=hf
 have hkey:(strKind X.prog X.w).is ⟨#[c]⟩ (.str ⟨#[c]⟩ t)=true:=beq_self_eq_true _
 refine JY (JX ((strKind X.prog X.w).pyHash hkey ?_))
 refine JX ?_
 refine JX (wpAny_setState_of (s:={ s with toks:=s.toks+1 }) ho rfl hfit ?_)
 dsimp only
 refine rT (byScan_of (x := .str ⟨#[c]⟩ t) rfl hb hel) ?_
 refine JX (wpAny_rule ?_)
 refine JX (wpAny_setScan_of (s:={ s with toks:=s.toks+1 }) hkey ho rfl hfit hel ?_)
 have hm:=hmem c
 cases hr:List.findIdx? (fun e=>(strKind X.prog X.w).is ⟨#[c]⟩ e.2) es.toList with
 |none =>
  refine JZ (JZ ?_)
  rw [show l.contains c=false from Bool.eq_false_iff.mpr fun q=>by
   obtain⟨e,he,hp⟩:=hm.mp (List.contains_iff_mem.mp q)
   have:=List.findIdx?_eq_none_iff.mp hr e he
   rw [hp] at this;cases this] at h
  exact h
 |some j =>
  refine JZ (JZ ?_)
  obtain⟨hj,hpj,_⟩:=List.findIdx?_eq_some_iff_getElem.mp hr
  rw [show l.contains c=true from List.contains_iff_mem.mpr (hm.mpr ⟨_,List.getElem_mem hj,hpj⟩)] at h
  exact h
end
theorem Dk (f:Array Value→Array Value) (vs:List Value) (n:Nat):∃ n',Obj.mapSeq f (aN vs n)=aN (f vs.toArray).toList n':=by
 refine⟨if (f vs.toArray).size==vs.toArray.size then n else n+1,?_⟩
 refine (?_:({ cls:=_,dict:=_,data:=_,slots:=_ }:Obj)=_)
 simp [aN]
section
variable {prog:Program} {w:World} {A:Around} {E:Value→Shared→Prop} {s:Shared} {l:Addr} {vs:List Value} {n:Nat}
theorem cc (f:Array Value→Array Value) (hl:s.heap.get? l=some (aN vs n)):∃ n',(s.heap.update l (Obj.mapSeq f)).get? l=some (aN (f vs.toArray).toList n'):=by
 obtain⟨n',e⟩:=Dk f vs n
 exact⟨n',by refine rT (Heap.get?_update_self _ hl (by rw [e];rfl)) ?_;exact rT e rfl⟩
theorem sK {k:Int} {t:Tok} {v:Value} {Q:Unit→Shared→Prop} (hl:s.heap.get? l=some (aN vs n)) (h0:0≤k) (hn:k<vs.length) (hfit:k<2 ^ 63)
  (hQ:∀ h' n',h'.get? l=some (aN (vs.set k.toNat v) n')→Heap.SameBut l s.heap h'→Q () { s with heap:=h' }):wpAny (model prog w) A (setItem (.ref l) (.int k t) v) Q E s:=by
 have hL:=ay hl
 obtain⟨n',e⟩:=cc (fun xs=>xs.setIfInBounds k.toNat v) hl
 have hset:(vs.toArray.setIfInBounds k.toNat v).toList=vs.set k.toNat v:=by simp
 rw [hset] at e
 refine JY (JX (wpAny_sequenceKey hL.typeIs (by decide) ?_))
 refine JX (wpAny_callSpecial?_slot (name:=Str.ofString "__setitem__") hL.typeIs slot_list_setitem (wpAny_call_entry slot_list_setitem hL.typeIs entry_list_setitem ?_ (args_list_setitem _ _ _)))
 refine (?_:wpAny _ _ (Builtin.List.listSubscript? (.int k t) >>= _) _ _ s)
 refine JX (wpAny_listSubscript_int (fitsIndex_of h0 hfit) ?_)
 clear hfit
 obtain⟨j,rfl⟩:=Int.eq_ofNat_of_zero_le h0
 have hj:j<vs.toArray.size:=by simpa using hn
 refine JX (JX (wpAny_seqItemAt hl rfl (JZ ?_)))
 refine rT (Lx hj) ?_
 refine JX (wpAny_setSeqItemAt hl rfl ?_)
 exact JZ ⟨.none,rfl,JZ (hQ _ n' e (Heap.SameBut.update ..))⟩
theorem mT {v:Value} {Q:Value→Shared→Prop} (hl:s.heap.get? l=some (aN vs n)) (hsz:vs.length≤sizeLine)
  (hQ:∀ h' n',h'.get? l=some (aN (vs++[v]) n')→Heap.SameBut l s.heap h'→Q .none { s with heap:=h' }):wpAny (model prog w) A (call (.builtin "list.append") [.ref l,v]) Q E s:=by
 obtain⟨n',e⟩:=cc (fun xs=>xs.push v) hl
 rw [show (vs.toArray.push v).toList=vs++[v] by simp] at e
 refine wpAny_call_entry slot_list_append (ay hl).typeIs entry_list_append ?_ (args_list_append _ _)
 refine (?_:wpAny _ _ (updateSeq l (·.push v) >>= fun _=>ret .none) _ _ s)
 exact JX (wpAny_updateSeq hl rfl (JZ ⟨.none,rfl,hQ _ n' e (Heap.SameBut.update ..)⟩) hsz (Kv (Kh (Array.size_push ..)) (Nat.succ_le_succ hsz)))
theorem Dl {v:Value} {Q:Value→Shared→Prop} (hl:s.heap.get? l=some (aN (vs++[v]) n)) (hsz:vs.length<sizeLine)
  (hQ:∀ h' n',h'.get? l=some (aN vs n')→Heap.SameBut l s.heap h'→Q v { s with heap:=h' }):wpAny (model prog w) A (call (.builtin "list.pop") [.ref l]) Q E s:=by
 obtain⟨n',e⟩:=cc (fun xs=>xs.eraseIdxIfInBounds vs.length) hl
 have her:((vs++[v]).toArray.eraseIdxIfInBounds vs.length).toList=vs:=by
  simp [Array.eraseIdxIfInBounds,List.eraseIdx_append_of_length_le]
 rw [her] at e
 refine wpAny_call_entry F.slot_list_pop (ay hl).typeIs F.entry_list_pop ?_ (F.args_list_pop_1 _)
 refine (?_:wpAny _ _ (Builtin.List.listItems (.ref l) >>= fun xs=>_) _ _ s)
 refine JX ?_
 refine JX (wpAny_seqItems hl rfl (JZ ?_))
 refine rT (if_neg (by simp)) ?_
 have hidx:(seqIndex? (-1) (vs++[v]).toArray.size).bind (fun k=>(vs++[v]).toArray[k]?.map (k,·))=some (vs.length,v):=by
  unfold seqIndex?
  simp only [List.size_toArray,List.length_append,List.length_cons,List.length_nil]
  have h1:((-1:Int)<0):=by decide
  rw [if_pos h1]
  have h2:(decide ((0:Int) ≤ -1+((vs.length+(0+1):Nat):Int))&&decide (-1+((vs.length+(0+1):Nat):Int)<((vs.length+(0+1):Nat):Int)))=true:=by
   simp;lia
  refine rT (if_pos h2) ?_
  have h3:(-1+((vs.length+(0+1):Nat):Int)).toNat=vs.length:=by lia
  refine rT h3 ?_
  simp
 refine rT hidx ?_
 refine JX (PyProof.Rows.listUpdate_at hl rfl (JZ ⟨v,rfl,hQ _ n' e (Heap.SameBut.update ..)⟩) (by simp;lia) ?_)
 refine rB Array.length_toList ?_;refine rT her ?_;lia
end
section
variable {prog:Program} {w:World} {A:Around} {E:Value→Shared→Prop} {s:Shared}
theorem gD {T:String} {name:Str} {id:String} {b:Builtin} {self:Value} {rest:List Value} {Q:Value→Shared→Prop} (h:Slot T name id) (hT:s.TypeIs self T) (hb:entryFor table id=some b) (ha:argsOk id ⟨self::rest,[]⟩)
  (hc:wpAny (model prog w) A.in1 (b ⟨self::rest,[]⟩) (fun fin s'=>match fin with
   |.done f=>(match (Except.ok f:Result) with | .ok (.ret v)=>Q v s' | .ok _=>False | .error e=>E e s')
   |.again c'=>c'.quiet=true∧codeAny (model prog w) A c' (fun r s'=>match r with | .ok (.ret v)=>Q v s' | .ok _=>False | .error e=>E e s') s') E s):wpAny (model prog w) A (call (.builtin id) (self::rest)) Q E s :=
 wpAny_call (codeAny_call_builtin h.plain hb (h.check _ _ _ _ _ _ _ _ hT ha hc))
end
section
variable {A:Around} {s:Shared}
noncomputable def qM (isd:Bool):String:=if isd then "frozenset.isdisjoint.loop" else "frozenset.issuperset.loop"
noncomputable def jb (isd:Bool) (l cs:List Nat):Bool:=if isd then cs.all fun c=>!l.contains c else cs.all fun c=>l.contains c
theorem uR (isd:Bool) (l:List Nat):jb isd l []=true:=by unfold jb;split<;>rfl
theorem sL (isd:Bool) (l:List Nat) (c:Nat) (cs:List Nat):jb isd l (c::cs)=((l.contains c != isd)&&jb isd l cs):=by
 unfold jb
 cases isd
 ·simp only [Bool.false_eq_true,if_false,List.all_cons,Bool.bne_false]
 ·simp only [if_true,List.all_cons,Bool.bne_true]
theorem AD {isd:Bool} {a it:Addr} {l:List Nat} {o:Obj} {x:Str} {t:Tok} {Q:Value→Shared→Prop} (hh:A.handled=none) (hf:eE X l o) (hne:a≠it) :
  ∀ (k i:Nat) (s:Shared),x.cps.size-i=k→i≤x.cps.size→s.heap.get? a=some o→s.heap.IsStrIter it "str_ascii_iterator" x t i →
   (∀ h' tk,Heap.ExtBut it s.heap h'→Q (.bool (jb isd l (x.cps.toList.drop i))) { s with heap:=h',toks:=tk }) →
   codeAny X.M A (.builtin (qM isd) ⟨[.ref a,.ref it],[]⟩) (fun r s'=>match r with | .ok (.ret v)=>Q v s' | .ok _=>False | .error e=>NoE e s') s:=by
 intro k
 induction k with
 |zero =>
  intro i s hk hi ho hit hq
  have hle:=Nat.sub_eq_zero_iff_le.mp hk
  have hx:x.cps[i]?=none:=Array.getElem?_eq_none hle
  have hd:x.cps.toList.drop i=[]:=List.drop_eq_nil_of_le hle
  rw [hd,uR] at hq
  have next:wpAny X.M A.in1 (pyNext (.ref it)) (fun r s'=>r=none∧∀ tk,Q (.bool true) { s' with toks:=tk }) NoE s:=wpAny_pyNext_ascii_end (A:=A.in1) hh hit hx fun h' he=>⟨rfl,fun tk=>hq h' tk he⟩
  cases isd
  ·refine codeAny_builtin dh ?_
   refine rT (Kz bh _) ?_
   refine JX (Kq next (fun r s' hr => ?_) fun _ _ e=>e.elim)
   obtain⟨rfl,hr⟩:=hr
   exact JZ (hr s'.toks)
  ·refine codeAny_builtin dg ?_
   refine rT (Kz bg _) ?_
   refine JX (Kq next (fun r s' hr => ?_) fun _ _ e=>e.elim)
   obtain⟨rfl,hr⟩:=hr
   exact JZ (hr s'.toks)
 |succ k ih =>
  intro i s hk hi ho hit hq
  have hlt:i<x.cps.size:=Nat.lt_of_sub_pos (Nat.lt_of_lt_of_eq (Nat.succ_pos k) hk.symm)
  have hx:x.cps[i]?=some x.cps[i]:=Lx hlt
  have hd:x.cps.toList.drop i=x.cps[i]::x.cps.toList.drop (i+1):=by
   exact List.drop_eq_getElem_cons hlt
  rw [hd,sL] at hq
  have go:∀ (K:Bool→Shared→Prop),(∀ h' tk,Heap.SameBut it s.heap h'→h'.IsStrIter it "str_ascii_iterator" x t (i+1)→K (l.contains x.cps[i]) { s with heap:=h',toks:=tk }) →
    wpAny X.M A.in1 (pyNext (.ref it)) (fun r s₁=>∃ v,r=some v∧wpAny X.M A.in1 (setContains a v) K NoE s₁) NoE s:=fun K hK =>
   wpAny_pyNext_ascii_item (A:=A.in1) hit hx fun h' h1 h2=>⟨_,rfl,xU (s:={ s with heap:=h',toks:=s.toks+1 }) (o:=o) (h2.extBut a o hne ho) hf (hK h' _ h2 h1)⟩
  have last:∀ (h':Heap) (tk:Nat),Heap.SameBut it s.heap h'→(l.contains x.cps[i] != isd)=false→Q (.bool false) { s with heap:=h',toks:=tk }:=fun h' tk hs hc=>by
   have:=hq h' tk hs.extBut
   rw [hc,Bool.false_and] at this
   exact this
  have more:∀ (h':Heap) (tk:Nat),Heap.SameBut it s.heap h'→h'.IsStrIter it "str_ascii_iterator" x t (i+1)→(l.contains x.cps[i] != isd)=true→codeAny X.M A (.builtin (qM isd) ⟨[.ref a,.ref it],[]⟩) (fun r s'=>match r with | .ok (.ret v)=>Q v s' | .ok _=>False | .error e=>NoE e s') { s with heap:=h',toks:=tk }:=fun h' tk hs h1 hc=>by
   refine ih (i+1) _ (congrArg Nat.pred hk) hlt (hs.extBut a o hne ho) h1 fun h'' tk' he => ?_
   have:=hq h'' tk' fun b o' hb e=>he b o' hb (hs.extBut b o' hb e)
   rw [hc,Bool.true_and] at this
   exact this
  cases isd
  ·refine codeAny_builtin dh ?_
   refine rT (Kz bh _) ?_
   refine JX (Kq (go (fun b s'=>∃ h' tk,s'={ s with heap:=h',toks:=tk }∧Heap.SameBut it s.heap h'∧h'.IsStrIter it "str_ascii_iterator" x t (i+1)∧b=l.contains x.cps[i]) fun h' tk h2 h1=>⟨h',tk,rfl,h2,h1,rfl⟩) (fun r s' hr => ?_) fun _ _ e=>e.elim)
   ·obtain⟨v,rfl,hr⟩:=hr
    refine JX (JY (Kq hr (fun b s'' hb => ?_) fun _ _ e=>e.elim))
    obtain⟨h',tk,rfl,h2,h1,rfl⟩:=hb
    cases hc:l.contains x.cps[i] with
    |true=>exact JZ ⟨plainId_quiet bh _,more h' tk h2 h1 (by refine rT hc ?_;rfl)⟩
    |false=>exact JZ (last h' tk h2 (by refine rT hc ?_;rfl))
  ·refine codeAny_builtin dg ?_
   refine rT (Kz bg _) ?_
   refine JX (Kq (go (fun b s'=>∃ h' tk,s'={ s with heap:=h',toks:=tk }∧Heap.SameBut it s.heap h'∧h'.IsStrIter it "str_ascii_iterator" x t (i+1)∧b=l.contains x.cps[i]) fun h' tk h2 h1=>⟨h',tk,rfl,h2,h1,rfl⟩) (fun r s' hr => ?_) fun _ _ e=>e.elim)
   ·obtain⟨v,rfl,hr⟩:=hr
    refine JX (JY (Kq hr (fun b s'' hb => ?_) fun _ _ e=>e.elim))
    obtain⟨h',tk,rfl,h2,h1,rfl⟩:=hb
    cases hc:l.contains x.cps[i] with
    |false=>exact JZ ⟨plainId_quiet bg _,more h' tk h2 h1 (by refine rT hc ?_;rfl)⟩
    |true=>exact JZ (last h' tk h2 (by refine rT hc ?_;rfl))
theorem sM {x:Str} {t:Tok}:Builtin.Frozenset.isAnySet (.str x t)=pure false:=by
 have h1:isInstance (.str x t) (.type "set")=pure false:=by
  have e:isInstance (.str x t) (.type "set")=isSubtype (.type "str") (.type "set"):=rfl
  refine rT e ?_;refine rT (isSubtype_type ..) ?_;kernel_rfl
 have h2:isInstance (.str x t) (.type "frozenset")=pure false:=by
  have e:isInstance (.str x t) (.type "frozenset")=isSubtype (.type "str") (.type "frozenset"):=rfl
  refine rT e ?_;refine rT (isSubtype_type ..) ?_;kernel_rfl
 refine rT h1 ?_;refine rT h2 ?_;rfl
theorem iH {isd:Bool} {a:Addr} {l:List Nat} {o:Obj} {x:Str} {t:Tok} {Q:Value→Shared→Prop} (hh:A.handled=none) (ho:s.heap.get? a=some o) (hf:eE X l o) (hx:x.cps.all (·<128)=true)
  (hq:∀ h' tk,(cD s.heap h')→Q (.bool (jb isd l x.cps.toList)) { s with heap:=h',toks:=tk }) :
  wpAny X.M A (call (.builtin (if isd then "frozenset.isdisjoint" else "frozenset.issuperset")) [.ref a,.str x t]) Q NoE s:=by
 have hT:s.TypeIs (.ref a) "frozenset" := by obtain⟨es,ep,tb,rfl,_⟩:=hf;exact⟨_,ho,rfl⟩
 have hlt:a<s.heap.objs.size:=Kw ho
 have iter:∀ (K:Value→Shared→Prop) {A':Around},(K (.ref s.heap.objs.size) { s with heap:=s.heap.push { cls := .type "str_ascii_iterator",data := .fields #[.str x t,.int 0 0] } })→wpAny X.M A' (pyIter (.str x t)) K NoE s:=fun K _ h=>wpAny_pyIter_ascii hx h
 have loop:codeAny X.M A (.builtin (qM isd) ⟨[.ref a,.ref s.heap.objs.size],[]⟩) (fun r s'=>match r with | .ok (.ret v)=>Q v s' | .ok _=>False | .error e=>NoE e s') { s with heap:=s.heap.push { cls := .type "str_ascii_iterator",data := .fields #[.str x t,.int 0 0] } }:=by
  refine AD hh hf (Lq hlt) _ 0 _ rfl (Nat.zero_le _) (Kx _ ho) ⟨_,Kj _ rfl,rfl,rfl⟩ fun h' tk he => ?_
  refine rT List.drop_zero ?_
  exact hq h' tk fun b o' e=>he b o' (Lq (Kw e)) (Kx _ e)
 cases isd
 ·refine gD (T := "frozenset") bW hT d7 (dO _ _) ?_
  refine (?_:wpAny _ _ (Builtin.Frozenset.isAnySet (.str x t) >>= fun r=>_) _ _ _)
  refine rT sM ?_
  refine (?_:wpAny _ _ (pyIter (.str x t) >>= fun r=>_) _ _ _)
  exact JX (iter _ (JZ ⟨plainId_quiet bh _,loop⟩))
 ·refine gD (T := "frozenset") bV hT d6 (dN _ _) ?_
  refine (?_:wpAny _ _ (typeOf (.str x t) >>= fun ty=>_) _ _ _)
  refine JX (wpAny_typeOf (typeIs_str s x t) ?_)
  refine (?_:wpAny _ _ (pyIter (.str x t) >>= fun r=>_) _ _ _)
  exact JX (iter _ (JZ ⟨plainId_quiet bg _,loop⟩))
end
end
end Mine
namespace Mine
open PySem PySem.W PySem.Calls PyProof.Rows Builtin
noncomputable section
theorem xV {x:Str} {c i:Nat}:Builtin.Str.subAt x ⟨#[c]⟩ i=(x.cps.toList[i]?==some c):=by
 obtain⟨⟨l⟩⟩:=x
 have:(({ toList:=l }:Array Nat).extract i (i+1)).toList=(l.drop i).take 1:=by simp
 have e:((({ toList:=l }:Array Nat).extract i (i+1))==#[c])=((l.drop i).take 1==[c]):=by
  refine rB this ?_;refine rP Bool.eq_iff_iff ?_;refine rP beq_iff_eq ?_;refine rP beq_iff_eq ?_
  exact⟨fun h=>by exact rT h rfl,fun h=>by refine rQ Array.toList_inj ?_;exact h⟩
 refine (?_:((({ toList:=l }:Array Nat).extract i (i+1))==#[c])=_)
 refine rT e ?_
 cases h:l.drop i with
 |nil =>
  have:l.length≤i:=by simpa using h
  simp [this]
 |cons x r =>
  have hi:i<l.length:=by
   rcases Nat.lt_or_ge i l.length with h'|h'
   ·exact h'
   ·rw [List.drop_of_length_le h'] at h;cases h
  rw [List.drop_eq_getElem_cons hi] at h
  injection h with h1 h2
  refine (?_:_=(l[i]?==some c))
  refine rT (Ky hi) ?_;refine rT h1 ?_
  simp
theorem sN (s sub:Str) (hi:Nat):∀ (l:List Nat) (st:Array Nat×Nat),st.1.size=1→(forIn l st (StrLaws.occBody s sub hi 1)).run.1=st.1
 |[],st,_=>rfl
 |a::l,st,h=>by
  refine rT (List.forIn_cons ..) ?_
  unfold StrLaws.occBody
  refine rT (if_neg (by rw [h];simp)) ?_
  exact sN s sub hi l _ h
theorem pS (s sub:Str) (hi:Nat):∀ (l:List Nat) (free:Nat),(∀ i∈l,free≤i)→(forIn l ((#[]:Array Nat),free) (StrLaws.occBody s sub hi 1)).run.1=((l.find? fun i=>decide (i+sub.length≤hi)&&Builtin.Str.subAt s sub i).toList).toArray
 |[],free,_=>rfl
 |a::l,free,hf=>by
  refine rT (List.forIn_cons ..) ?_;refine rT List.find?_cons ?_
  have ha:free≤a:=hf a (.head _)
  unfold StrLaws.occBody
  by_cases hc:a+sub.length≤hi∧Builtin.Str.subAt s sub a=true
  ·refine rT (if_pos ⟨⟨⟨by simp,ha⟩,hc.1⟩,hc.2⟩) ?_
   have h2:(decide (a+sub.length≤hi)&&Builtin.Str.subAt s sub a)=true:=by simp [hc.1,hc.2]
   refine rT h2 ?_
   exact sN s sub hi l _ (by rfl)
  ·refine rT (if_neg fun h=>hc ⟨h.1.2,h.2⟩) ?_
   have h2:(decide (a+sub.length≤hi)&&Builtin.Str.subAt s sub a)=false:=by
    cases q:(decide (a+sub.length≤hi)&&Builtin.Str.subAt s sub a) with
    |false=>rfl
    |true=>simp at q;exact absurd q hc
   refine rT h2 ?_
   exact pS s sub hi l free fun i h=>hf i (.tail _ h)
theorem eU (c:Nat):∀ (p:Nat) (l:List Nat),aV c p l=(aV c 0 (l.drop p)).map (·+p)
 |0,l=>by simp
 |p+1,[]=>by rfl
 |p+1,a::l=>by
  rewrite [aV];refine rT List.drop_succ_cons ?_;refine rT (eU c p l) ?_
  cases aV c 0 (l.drop p)<;>simp;lia
theorem uS (c n:Nat) (l:List Nat) (hn:l.length=n) (m:Nat):∀ p:Nat,p+m=n→(List.range' p (m+1)).find? (fun i=>decide (i+1≤n)&&(l[i]?==some c))=(aV c 0 (l.drop p)).map (·+p):=by
 induction m with
 |zero =>
  intro p h
  have:l.drop p=[]:=List.drop_eq_nil_of_le (Kh (hn.trans h.symm))
  refine rT this ?_
  have h2:decide (p+1≤n)=false:=decide_eq_false (Nat.not_le.mpr (Nat.lt_succ_of_le (Kh h.symm)))
  simp [List.range',aV,h2]
 |succ m ih =>
  intro p h
  have hp:p<l.length:=Nat.lt_of_lt_of_eq (Nat.lt_add_of_pos_right (Nat.succ_pos m)) (h.trans hn.symm)
  refine rT List.range'_succ ?_;refine rT List.find?_cons ?_;refine rT (List.drop_eq_getElem_cons hp) ?_;rewrite [aV];refine rT (Ky hp) ?_
  have h2:decide (p+1≤n)=true:=decide_eq_true (Nat.lt_of_lt_of_eq hp hn)
  refine rT h2 ?_;refine rT (Bool.true_and ..) ?_
  by_cases hx:l[p]=c
  ·subst hx;simp
  ·have h3:(some l[p]==some c)=false:=beq_eq_false_iff_ne.mpr fun e=>hx (KY e)
   refine rT h3 ?_;refine rT (if_neg hx) ?_
   simp only
   refine rT (ih (p+1) ((Kb p 1 m).trans h)) ?_
   cases aV c 0 (l.drop (p+1))<;>simp;lia
theorem AE {x:Str} {c p i:Nat} (h:aV c p x.cps.toList=some i):Builtin.Str.occurrences x ⟨#[c]⟩ p x.length 1=[i]:=by
 have hp:p≤x.cps.toList.length:=by
  rcases Nat.lt_or_ge x.cps.toList.length p with h'|h'
  ·rw [eU,List.drop_of_length_le (Nat.le_of_lt h')] at h;cases h
  ·exact h'
 have hl:x.length=x.cps.toList.length:=by rfl
 refine rT (StrLaws.occ_eq ..) ?_;refine rT (pS _ _ _ _ _ (fun i hi=>by rw [List.mem_range'_1] at hi;exact hi.1)) ?_
 have e:x.length+1-p=(x.cps.toList.length-p)+1:=Nat.succ_sub hp
 refine rT e ?_
 have hf:(fun i=>decide (i+(⟨#[c]⟩:Str).length≤x.length)&&Builtin.Str.subAt x ⟨#[c]⟩ i)=fun i=>decide (i+1≤x.cps.toList.length)&&(x.cps.toList[i]?==some c):=by
  funext i
  refine rT xV ?_;refine rT hl ?_
  rfl
 refine rT hf ?_;refine rT (uS c _ x.cps.toList rfl _ p (Nat.add_sub_of_le hp)) ?_;refine rB (eU ..) ?_;refine rT h ?_
 rfl
theorem gE (x y:Str) (i:Int) (t u v:Tok) (k:Nat) (rest:List Nat) (h:Builtin.Str.occurrences x y (fromIndex x.length i) x.length 1=k::rest):Gives («str.index» ⟨[.str x t,.str y u,.int i v],[]⟩) (.int k):=by
 refine (?_:Gives (match Builtin.Str.occurrences x y (fromIndex x.length i) (min x.length x.length) 1 with|k::_=>retInt k | []=>(do rule "str.index.not-found";raiseError "ValueError" "substring not found")) _)
 refine rT (Nat.min_self ..) ?_;refine rT h ?_
 exact .of_eq rfl
inductive Fo (x:Str) (s:Shared) (rest:List Nat):Nat×Array UInt8×_codecs.Faults→Shared→Prop
 |zero (f:_codecs.Faults):rest.length=x.cps.size→Fo x s rest (0,#[],f) s
 |all (f:_codecs.Faults):Fo x s rest (x.cps.size,x.cps.map (·.toUInt8),f) s
theorem uT {c:Nat} (h:c<128):Str.utf8Of c=[c.toUInt8]:=by
 unfold Str.utf8Of;exact rT (if_pos h) rfl
theorem sO {c:Nat} (h:c<128):Str.isSurrogate c=false:=by
 unfold Str.isSurrogate;exact rT (decide_eq_false (Nat.not_le.mpr (KZ h (by decide)))) rfl
section
variable {prog:Program} {w:World} {A:Around} {E:Value→Shared→Prop} {s:Shared}
theorem qN {x:Str} {id:String} {self:Value} {Q:Array UInt8→Shared→Prop} (hx:x.cps.all (·<128)=true) (hsz:x.cps.size≤1000000) (h:Q (x.cps.map (·.toUInt8)) s):wpAny (model prog w) A (_codecs.encodeNarrow id _codecs.utf8Codec none self x) Q E s:=by
 have hlt:∀ c∈x.cps.toList,c<128:=by
  intro c hc
  rw [← Array.all_toList,List.all_eq_true] at hx
  simpa using hx c hc
 have hbad:∀ i:Nat,i<x.cps.size→_codecs.utf8Codec.bad (x.cps[i]!)=false:=by
  intro i hi
  have:x.cps[i]! = x.cps[i]:=by simp [hi]
  refine rT this ?_
  exact sO (hlt _ (by simp))
 have hclean:(x.cps.findIdx? _codecs.utf8Codec.bad).getD x.cps.size=x.cps.size:=by
  have:x.cps.findIdx? _codecs.utf8Codec.bad=none:=by
   refine rP Array.findIdx?_eq_none_iff ?_
   intro c hc
   exact sO (hlt c (by simpa using hc))
  refine rT this ?_;rfl
 have hmap:∀ (l:List Nat) (acc:Array UInt8),(∀ c∈l,c<128)→l.foldl (fun acc y=>acc++(_codecs.utf8Codec.bytesOf y).toArray) acc=acc++(l.map (·.toUInt8)).toArray:=by
  intro l
  induction l with
  |nil=>intro acc _;rfl
  |cons c l ih =>
   intro acc hc
   refine rT List.foldl_cons ?_;refine rT (ih _ fun d hd=>hc d (.tail _ hd)) ?_
   have:_codecs.utf8Codec.bytesOf c=[c.toUInt8]:=uT (hc c (.head _))
   refine rT this ?_;simp
 unfold _codecs.encodeNarrow
 dsimp (config:={zeta:=false}) only
 extract_lets utf8 nm ab limit i0 out0 st0
 refine rT (Std.Legacy.Range.forIn_eq_forIn_range' ..) ?_
 have hms:(x.cps.map (·.toUInt8)).size=x.cps.size:=Array.size_map
 have done:∀ (st:Nat×Array UInt8×_codecs.Faults),st.2.1=x.cps.map (·.toUInt8)→wpAny (model prog w) A (pure st.2.1:Sem (Array UInt8)) Q E s:=fun st e=>JZ (by refine rT e ?_;exact h)
 refine JX (wpAny_forIn_list _ (Fo x s) _ ?_ ?_ _ _ (.zero _ ?_))
 ·intro k rest st s' hst
  cases hst with
  |zero f e3 =>
   have hpos:0<x.cps.size:=e3▸Nat.succ_pos _
   have hg:x.cps[0]?=some x.cps[0]:=Lx hpos
   have hb:_codecs.utf8Codec.bad x.cps[0]=false:=by have:=hbad 0 hpos;simpa [hpos] using this
   dsimp only
   refine rT (if_neg (by refine rT sizeLine_eq ?_;decide)) ?_
   refine rT hg ?_
   dsimp only
   refine rT hb ?_
   refine (?_:wpAny _ _ (pure _) _ _ _)
   have hex:x.cps.extract 0=x.cps:=by simp
   have hex2:x.cps.extract 0 x.cps.size=x.cps:=hex
   refine JZ ?_
   refine rT hex ?_
   refine rT hclean ?_
   refine rT (Nat.zero_add _) ?_
   refine rT hex2 ?_;refine rB (Array.foldl_toList ..) ?_;refine rT (hmap _ _ hlt) ?_
   refine rT (?_:#[]++(x.cps.toList.map (·.toUInt8)).toArray=x.cps.map (·.toUInt8)) ?_
   ·refine rQ Array.toList_inj ?_;simp
   ·exact .all _
  |all f =>
   dsimp only
   refine rT (if_neg (by refine rT hms ?_;refine rT sizeLine_eq ?_;exact Nat.not_lt.mpr (Kv hsz (by decide)))) ?_
   have hg:x.cps[x.cps.size]?=none:=by simp
   refine rT hg ?_
   exact JZ (done _ rfl)
 ·intro st s' hst
  cases hst with
  |zero f e3 =>
   refine done _ ?_
   have hx0:x.cps=#[]:=Array.eq_empty_of_size_eq_zero e3.symm
   refine rT hx0 ?_;exact Array.map_empty.symm
  |all f=>exact done _ rfl
 ·simp [Std.Legacy.Range.size];rfl
end
end
end Mine
namespace Mine
open PySem PySem.W PySem.Calls PyProof.Rows
noncomputable section
theorem AF (g:Str) (ps:List Str):(Builtin.Str.glued g ps).cps.toList=bk g.cps.toList (ps.map (·.cps.toList)):=by
 cases ps with
 |nil=>rfl
 |cons p r =>
  have key:∀ (r:List Str) (acc:Array Nat),(r.foldl (fun acc q=>acc++g.cps++q.cps) acc).toList=acc.toList++(match r with | []=>[]|_=>g.cps.toList++bk g.cps.toList (r.map (·.cps.toList))):=by
   intro r
   induction r with
   |nil=>intro acc;simp
   |cons q r ih =>
    intro acc
    refine rT List.foldl_cons ?_;refine rT (ih ..) ?_
    cases r<;>simp [bk]
  refine (?_:(r.foldl (fun acc q=>acc++g.cps++q.cps) p.cps).toList=_)
  refine rT (key ..) ?_
  cases r<;>simp [bk]
section
variable {A:Around} {d:Nat} {R:RM} {ρ:List Addr} {s:Shared} {H:AH}
theorem sP {l:List AV}:∀ {vs:List Value} {bs:List (List UInt8)},bytesOf l=some bs→ai R ρ l vs→vs.length=bs.length∧∀ (i:Nat) x,(bs.map (·.toArray))[i]?=some x→∃ u,vs[i]?=some (.bytes x u):=by
 induction l with
 |nil=>intro vs bs h r;cases h;cases (show vs=[] from r);exact⟨rfl,fun i x e=>nomatch e⟩
 |cons a l ih =>
  intro vs bs h r
  refine ob h fun b _ h=>ob h fun bs hb h => ?_
  cases h
  obtain⟨v,vs,rfl,r1,r2⟩:=r
  obtain⟨u,rfl⟩:=(show Rel R ρ (.bytes b.1) v from b.2▸r1)
  obtain⟨i1,i2⟩:=ih hb r2
  refine⟨congrArg Nat.succ i1,fun i x e => ?_⟩
  cases i with
  |zero=>cases e;exact⟨u,rfl⟩
  |succ i=>exact i2 i x e
theorem uU {l:List AV}:∀ {vs:List Value} {bs:List (List Nat)},ml l=some bs→ai R ρ l vs→∃ ys:List Str,StrsAre vs ys∧ys.map (·.cps.toList)=bs:=by
 induction l with
 |nil=>intro vs bs h r;cases h;cases (show vs=[] from r);exact⟨[],.nil,rfl⟩
 |cons a l ih =>
  intro vs bs h r
  refine ob h fun b _ h=>ob h fun bs hb h => ?_
  cases h
  obtain⟨v,vs,rfl,r1,r2⟩:=r
  obtain⟨u,rfl⟩:=(show Rel R ρ (.str b.1) v from b.2▸r1)
  obtain⟨ys,i1,i2⟩:=ih hb r2
  exact⟨b.1::ys,.cons _ u i1,congrArg (b.1.cps.toList::·) i2⟩
theorem pU {a:AV} {vs:List Value} (r:ai R ρ [a] vs):∃ v,vs=[v]∧Rel R ρ a v:=by
 obtain⟨v,_,rfl,r1,rfl⟩:=r;exact⟨v,rfl,r1⟩
theorem wn {a b:AV} {vs:List Value} (r:ai R ρ [a,b] vs):∃ v w,vs=[v,w]∧Rel R ρ a v∧Rel R ρ b w:=by
 obtain⟨v,_,rfl,r1,w,_,rfl,r2,rfl⟩:=r;exact⟨v,w,rfl,r1,r2⟩
theorem sQ {bs:List (List UInt8)}:∀ {vs:List Value},vs.length=bs.length→(∀ (i:Nat) x,(bs.map (·.toArray))[i]?=some x→∃ u,vs[i]?=some (.bytes x u))→ai R ρ (bs.map fun l => .bytes l.toArray) vs:=by
 induction bs with
 |nil =>
  intro vs h _
  cases vs with
  |nil=>exact .nil
  |cons=>cases h
 |cons b bs ih =>
  intro vs h hv
  cases vs with
  |nil=>cases h
  |cons v vs =>
   obtain⟨u,hu⟩:=hv 0 b.toArray rfl
   cases hu
   exact .cons ⟨u,rfl⟩ (ih (Nat.succ.inj h) fun i x e=>hv (i+1) x e)
theorem qO {α:Type} [BEq α] (c:α) (l:List α):(ao c l).length≤l.length+1∧∀ w∈ao c l,w.length≤l.length:=by
 induction l with
 |nil=>exact⟨KX 1,fun w hw=>by cases Ke.mp hw;exact KX 0⟩
 |cons a r ih =>
  obtain⟨i1,i2⟩:=ih
  unfold ao
  by_cases h:(a==c)=true
  ·refine rT (if_pos h) ?_
   exact⟨Nat.succ_le_succ i1,fun w hw=>(KJ.mp hw).elim (fun e=>e▸Nat.zero_le _) fun hw=>Nat.le_succ_of_le (i2 w hw)⟩
  ·refine rT (if_neg h) ?_
   cases e:ao c r with
   |nil=>exact⟨Nat.le_add_left 1 _,fun w hw=>by cases Ke.mp hw;exact Nat.le_add_left 1 _⟩
   |cons w ws =>
    rw [e] at i1 i2
    exact⟨Nat.le_succ_of_le i1,fun v hv=>(KJ.mp hv).elim (fun e=>e▸Nat.succ_le_succ (i2 w (.head _))) fun hv=>Nat.le_succ_of_le (i2 v (.tail _ hv))⟩
theorem xW {α:Type} (c:α) (l:List (List α)):(bk [c] l).length≤(l.map (·.length)).sum+l.length:=by
 induction l with
 |nil=>exact KX 0
 |cons w r ih =>
  cases r with
  |nil=>exact Nat.le_succ_of_le (KX _)
  |cons v r =>
   refine (?_:(w++[c]++bk [c] (v::r)).length≤w.length+((v::r).map (·.length)).sum+((v::r).length+1))
   rw [List.length_append,List.length_append,Nat.add_assoc,Nat.add_assoc]
   exact Nat.add_le_add_left (by rw [← Nat.add_assoc];refine (?_:1+_≤_);rw [Nat.add_comm 1];exact Nat.succ_le_succ ih) _
theorem EO {x:List AV} {y:AV} {cv:List Value} {G:Prop} (e:x=[y]) (r:ai R ρ x cv) (k:∀ v,Rel R ρ y v→cv=[v]→G):G:=by
 subst e
 obtain⟨v,e,r⟩:=pU r
 exact k v r e
theorem mU {f:Array UInt8→UInt8→Option AV} {x:AV} {args:List AV} {v:AV} {cx:Value} {vs:List Value} {G:Prop} (h:((bL x).bind fun b=>(dJ args).bind fun y=>(pB y.1).bind fun c=>f b.1 c.1)=some v) (rx:Rel R ρ x cx) (ra:ai R ρ args vs)
  (k:∀ b t c u,cx = .bytes b t→vs=[.bytes #[c] u]→f b c=some v→G):G :=
 ob h fun b _ h=>ob h fun y _ h=>ob h fun c _ h=>EO y.2 ra fun w r e =>
  (ak b.2 rx).elim fun t e1=>(ak c.2 r).elim fun u e2=>k b.1 t c.1 u e1 (e.trans (congrArg (fun z=>[z]) e2)) h
theorem AG {f:List Nat→Str→Option AV} {x:AV} {args:List AV} {v:AV} {cx:Value} {vs:List Value} {G:Prop} (h:((zt x).bind fun l=>(dJ args).bind fun y=>(bu y.1).bind fun c=>f l.1 c.1)=some v) (rx:Rel R ρ x cx) (ra:ai R ρ args vs)
  (k:∀ l a o c u,cx = .ref a→R a=some o→eE X l o→vs=[.str c u]→f l c=some v→G):G :=
 ob h fun l _ h=>ob h fun y _ h=>ob h fun c _ h=>EO y.2 ra fun w r e =>
  (ak l.2 rx).elim fun a o q1 q2 q3=>(ak c.2 r).elim fun u e2=>k l.1 a o c.1 u q1 q2 q3 (e.trans (congrArg (fun z=>[z]) e2)) h
theorem Dm {x:Str} {c i:Nat} {p:Int} {cx:Value} {vs:List Value} {y:AV×AV} (g:ag R ρ H s.heap) (rx:Rel R ρ (.str x) cx) (ra:ai R ρ [y.1,y.2] vs) (e1:y.1 = .str ⟨#[c]⟩) (e2:y.2 = .int p) (hp:0≤p) (hi:aV c p.toNat x.cps.toList=some i):EvT A (call (.builtin "str.index") (cx::vs)) R ρ s (.int (Int.ofNat i)) H:=by
 rw [e1,e2] at ra
 obtain⟨t,rfl⟩:=rx
 obtain⟨_,_,rfl,⟨u,rfl⟩,⟨u',rfl⟩⟩:=wn ra
 have hfi:fromIndex x.length p=p.toNat:=by
  unfold fromIndex
  refine rT (if_neg (Int.not_lt.mpr hp)) ?_;exact rT (Int.max_eq_right hp) rfl
 exact call_gives F.slot_str_index (typeIs_str s x t) F.entry_str_index (F.args_str_index_3 _ _ _) (gE x ⟨#[c]⟩ p t u u' i [] (by refine rT hfi ?_;exact AE hi)) (aC g ⟨s.toks,rfl⟩)
theorem AI {x:Str} {cx:Value} {vs:List Value} (g:ag R ρ H s.heap) (rx:Rel R ρ (.str x) cx) (ra:ai R ρ [] vs) (hp:(x.cps.all (·<128)&&decide (x.cps.size≤1000000))=true):EvT A (call (.builtin "str.encode") (cx::vs)) R ρ s (.bytes (x.cps.map (·.toUInt8))) H:=by
 obtain⟨t,rfl⟩:=rx
 cases (show vs=[] from ra)
 refine bq hp fun h1 h2=>wpAny_call_entry F.slot_str_encode (typeIs_str s x t) F.entry_str_encode ?_ (F.args_str_encode_1 _)
 refine rT (encode_tree ..) ?_;refine rT (encodeRoad_utf8 ..) ?_
 have h2:=of_decide_eq_true h2
 exact JX (JX (qN h1 h2 (wpAny_mkBytes (JZ ⟨_,rfl,aC g ⟨_,rfl⟩⟩) (by refine rT Array.size_map ?_;exact cq (Nat.le_succ_of_le h2)))))
theorem AJ (ys:List Str):(ys.map (·.length)).sum=((ys.map (·.cps.toList)).map (·.length)).sum:=by
 refine rT List.map_map ?_;rfl
theorem Dn {x:Str} {cx:Value} {vs:List Value} {a:AV} {l:List AV} {bs:List (List Nat)} (g:ag R ρ H s.heap) (rx:Rel R ρ (.str x) cx) (ra:ai R ρ [a] vs) (hx:x.cps.size=0) (hl:aY H a=some l) (hb:ml l=some bs) (hsz:(bs.map (·.length)).sum≤1000000):EvT A (call (.builtin "str.join") (cx::vs)) R ρ s (.str ⟨(bk x.cps.toList bs).toArray⟩) H:=by
 obtain⟨t,rfl⟩:=rx
 obtain⟨_,rfl,r1⟩:=pU ra
 obtain⟨ad,ws,k,rfl,h1,h2⟩:=aQ g r1 hl
 obtain⟨ys,hy,rfl⟩:=uU hb h2
 refine PyProof.Rows.join_list (ay h1) (ys:=ys) hy (by refine rT (AJ ..) ?_;refine rT (show x.length=0 from hx) ?_;refine rT (Nat.mul_zero ..) ?_;exact cq (Nat.le_succ_of_le hsz)) fun t' k => ?_
 refine rT (show Txt.join x ys=⟨(bk x.cps.toList (ys.map (·.cps.toList))).toArray⟩ from congrArg Str.mk (congrArg List.toArray (AF x ys))) ?_
 exact aC g ⟨_,rfl⟩
theorem AK {b:Array UInt8} {c:UInt8} {t u:Tok} (g:ag R ρ H s.heap) (hp:b.size≤1000000):EvT A (call (.builtin "bytes.rstrip") [.bytes b t,.bytes #[c] u]) R ρ s (.bytes (b.toList.reverse.dropWhile (·==c)).reverse.toArray) H:=by
 have hs:(iG b #[c]).reverse <:+ b.toList.reverse:=by unfold iG;refine rT (List.reverse_reverse ..) ?_;exact List.dropWhile_suffix _
 have hle:(iG b #[c]).length≤b.size:=by
  have:=hs.length_le
  rwa [List.length_reverse,List.length_reverse,Array.length_toList] at this
 refine call_gives eH (typeIs_bytes s b t) i7 (iz _ _) i9 ?_
 refine rB (xS ..) ?_
 by_cases he:((iG b #[c]).length==b.size)=true
 ·refine rT (if_pos he) ?_
  have he:=eq_of_beq he
  have:=hs.eq_of_length (by rw [List.length_reverse,List.length_reverse,he,Array.length_toList])
  refine rT (show (iG b #[c]).toArray=b from congrArg List.toArray (List.reverse_inj.mp this)) ?_
  exact aD g ⟨t,rfl⟩
 ·refine rT (if_neg he) ?_
  exact⟨by refine rT List.size_toArray ?_;exact cq (Kv hle (Nat.le_succ_of_le hp)),aC g ⟨_,rfl⟩⟩
theorem Do {b:Array UInt8} {c:UInt8} {t u:Tok} (g:ag R ρ H s.heap) (hp:b.size≤1000000):EvT A (call (.builtin "bytes.split") [.bytes b t,.bytes #[c] u]) R ρ s (.lst ((ao c b.toList).map fun l => .bytes l.toArray)) H:=by
 obtain⟨l1,l2⟩:=qO c b.toList
 rw [Array.length_toList] at l1 l2
 refine wpAny_call_entry fk (typeIs_bytes s b t) jD (mO rfl ?_ ?_ fun ws tk hlen hv => ?_) (i8 _ _)
 ·refine rT (mS ..) ?_
  intro y hy
  obtain⟨w,hw,rfl⟩:=Kg.mp hy
  exact cq (Kv (l2 w hw) (Nat.le_succ_of_le hp))
 ·refine rT (mS ..) ?_;refine rT (List.length_map ..) ?_;exact cq (Kv l1 (Nat.succ_le_succ hp))
 ·rw [mS] at hlen hv
  rw [List.length_map] at hlen
  exact kK (o:=aN ws 0) g rfl fun R' hr e=>⟨_,ws,0,rfl,e,sQ hlen hv⟩
theorem xX (l:List (List UInt8)):∀ acc:Nat,(l.map (·.toArray)).foldl (fun a x=>a+x.size) acc=acc+(l.map (·.length)).sum:=by
 induction l with
 |nil=>exact fun _=>rfl
 |cons a l ih=>intro acc;refine rT List.map_cons ?_;refine rT List.foldl_cons ?_;refine rT (ih ..) ?_;refine rT List.map_cons ?_;refine rT List.sum_cons ?_;refine rT (Nat.add_assoc ..) ?_;rfl
theorem Dp {b:Array UInt8} {cx:Value} {vs:List Value} {a:AV} {l:List AV} {bs:List (List UInt8)} (g:ag R ρ H s.heap) (rx:Rel R ρ (.bytes b) cx) (ra:ai R ρ [a] vs) (hl:aY H a=some l) (hb:bytesOf l=some bs) (hsz:b.size=1∧(bs.map (·.length)).sum+bs.length≤1000000):EvT A (call (.builtin "bytes.join") (cx::vs)) R ρ s (.bytes (bk b.toList bs).toArray) H:=by
 obtain⟨t,rfl⟩:=rx
 obtain⟨_,rfl,r1⟩:=pU ra
 obtain⟨ad,ws,k,rfl,h1,h2⟩:=aQ g r1 hl
 obtain⟨hlen,hv⟩:=sP hb h2
 have hj:Builtin.Bytes.joined b (bs.map (·.toArray))=(bk b.toList bs).toArray:=by
  refine rT (xT ..) ?_;refine rT List.map_map ?_;refine rT (show ((fun x:Array UInt8=>x.toList)∘fun l:List UInt8=>l.toArray)=id from rfl) ?_;exact rT (List.map_id ..) rfl
 obtain⟨c,hc⟩:=List.length_eq_one_iff.mp (show b.toList.length=1 from hsz.1)
 refine wpAny_call_entry fW (typeIs_bytes s b t) kI (oV h1 (ps:=bs.map (·.toArray)) (by refine rT (List.length_map ..) ?_;exact hlen) hv ?_ ?_ fun t' tk => ?_) (jE _ _)
 ·refine KBy.tooLong_not ?_
  refine rB (Array.foldl_toList ..) ?_
  refine (?_:(bs.map (·.toArray)).foldl (fun a x=>a+x.size) _≤_)
  refine rT (xX ..) ?_;refine rT hsz.1 ?_;refine rT (Nat.one_mul ..) ?_;refine rT List.size_toArray ?_;refine rT (List.length_map ..) ?_;refine rT (Nat.add_comm ..) ?_
  exact Kv (Nat.add_le_add_left (Nat.sub_le _ _) _) (Kv hsz.2 (by decide))
 ·refine rT hj ?_;refine rT hc ?_;refine rT List.size_toArray ?_
  exact cq (Kv (xW c bs) (Nat.le_succ_of_le hsz.2))
 ·refine rT hj ?_;exact aC g ⟨_,rfl⟩
theorem AL {m:ME} {x:AV} {args:List AV} {v:AV} {cx:Value} {vs:List Value} (room:aI A d) (g:ag R ρ H s.heap) (rx:Rel R ρ x cx) (ra:ai R ρ args vs) (h:EI H m x args=some v) :
  EvT A (call (.builtin (zH m)) (cx::vs)) R ρ s v H:=by
 cases m with
 |index=>exact ob h fun x _ h=>ob h fun y _ h=>ob h fun c _ h=>ob h fun p _ h=>oi h fun hp h=>ob h fun i hi h=>oj h (Dm g (ak x.2 rx) (iD y.2 ra) c.2 p.2 hp hi)
 |encode=>exact ob h fun x _ h=>ob h fun y _ h=>oi h fun hp h=>oj h (AI g (ak x.2 rx) (iD y.1 ra) hp)
 |sjoin=>exact ob h fun x _ h=>ob h fun y _ h=>oi h fun hx h=>ob h fun l hl h=>ob h fun bs hb h=>oi h fun hsz h=>oj h (Dn g (ak x.2 rx) (iD y.2 ra) hx hl hb hsz)
 |startswith =>
  refine mU (f:=fun b c=>some (.bool (b.toList.head?==some c))) h rx ra fun b t c u e1 e2 h => ?_
  subst e1 e2
  exact oj h (call_gives FB.slot_bytes_startswith (typeIs_bytes s b t) FB.entry_bytes_startswith (FB.args_bytes_startswith_2 _ _) (.of_eq iA:Gives _ (.val _)) (oW b c▸aD g rfl))
 |endswith =>
  refine mU (f:=fun b c=>some (.bool (b.toList.getLast?==some c))) h rx ra fun b t c u e1 e2 h => ?_
  subst e1 e2
  exact oj h (call_gives FB.slot_bytes_endswith (typeIs_bytes s b t) FB.entry_bytes_endswith (FB.args_bytes_endswith_2 _ _) (.of_eq jF:Gives _ (.val _)) (sH b c▸aD g rfl))
 |rfind =>
  refine mU (f:=fun b c=>some (.int ((b.size:Int)-1-((b.toList.reverse.findIdx (·==c):Nat):Int)))) h rx ra fun b t c u e1 e2 h => ?_
  subst e1 e2
  exact oj h (call_gives fj (typeIs_bytes s b t) jB (i6 _ _) jH (aC g ⟨s.toks,congrArg (fun i=>Value.int i s.toks) (Au b c)⟩))
 |rstrip =>
  refine mU (f:=fun b c=>if b.size≤1000000 then some (.bytes (b.toList.reverse.dropWhile (·==c)).reverse.toArray) else none) h rx ra fun b t c u e1 e2 h => ?_
  subst e1 e2
  exact oi h fun hp h=>oj h (AK g hp)
 |split =>
  refine mU (f:=fun b c=>if b.size≤1000000 then some (.lst ((ao c b.toList).map fun l:List UInt8=>AV.bytes l.toArray)) else none) h rx ra fun b t c u e1 e2 h => ?_
  subst e1 e2
  exact oi h fun hp h=>oj h (Do g hp)
 |bjoin=>exact ob h fun x _ h=>ob h fun y _ h=>ob h fun l hl h=>ob h fun bs hb h=>oi h fun hsz h=>oj h (Dp g (ak x.2 rx) (iD y.2 ra) hl hb hsz)
 |isdisjoint =>
  refine AG (f:=fun l x=>if x.cps.all (·<128) then some (.bool (x.cps.toList.all fun c=>!l.contains c)) else none) h rx ra fun l a o c u e1 ho hf e2 h => ?_
  subst e1 e2
  exact oi h fun hp h=>oj h (iH (isd:=true) room.h (g.froz _ _ ho) hf hp fun h' tk k=>⟨R,ρ,Mv.grow k,g.grow k,rfl⟩)
 |issuperset =>
  refine AG (f:=fun l x=>if x.cps.all (·<128) then some (.bool (x.cps.toList.all fun c=>l.contains c)) else none) h rx ra fun l a o c u e1 ho hf e2 h => ?_
  subst e1 e2
  exact oi h fun hp h=>oj h (iH (isd:=false) room.h (g.froz _ _ ho) hf hp fun h' tk k=>⟨R,ρ,Mv.grow k,g.grow k,rfl⟩)
 |append=>cases h
 |pop=>cases h
theorem pV {l:List AV} {x:AV}:noRef.all (l++[x])=(noRef.all l&&noRef x):=by
 induction l with
 |nil=>refine (?_:(noRef x&&true)=_);refine rT (Bool.and_true ..) ?_;rfl
 |cons a l ih=>refine (?_:(noRef a&&noRef.all (l++[x]))=_);refine rT ih ?_;refine rB (Bool.and_assoc ..) ?_;rfl
theorem xY {l:List AV} {x:AV}:∀ {ws:List Value},ai R ρ (l++[x]) ws→∃ ws' w,ws=ws'++[w]∧ai R ρ l ws'∧Rel R ρ x w:=by
 induction l with
 |nil=>intro ws r;obtain⟨w,rfl,r1⟩:=pU r;exact⟨[],w,rfl,.nil,r1⟩
 |cons b l ih =>
  intro ws r
  obtain⟨u,us,rfl,r1,r2⟩:=r
  obtain⟨ws',w,rfl,r3,r4⟩:=ih r2
  exact⟨u::ws',w,rfl,.cons r1 r3,r4⟩
theorem AM {i:Nat} {l:List AV} {y:AV} {cx:Value} {vs:List Value} (g:ag R ρ H s.heap) (hl:H[i]?=some (.list l)) (rx:Rel R ρ (.ref i) cx) (ra:ai R ρ [y] vs) (hp:l.length<1000000∧noRef y=true):EvT A (call (.builtin "list.append") (cx::vs)) R ρ s .none (H.set i (.list (l++[y]))):=by
 obtain⟨a,rfl,ha⟩:=rx
 obtain⟨_,rfl,r1⟩:=pU ra
 obtain⟨k0,ws,k,h1,h2⟩:=g.objs _ _ _ hl ha
 refine mT h1 (h2.length▸cq (KW (Nat.lt_succ_of_lt hp.1))) fun h' n' e hs => ?_
 obtain⟨g2,m2⟩:=eF (tk:=s.toks) (ob := .list (l++[y])) g ha ⟨pV.trans (by refine rT k0 ?_;refine rT hp.2 ?_;rfl),_,n',e,h2.append (.one r1)⟩ fun b o hb e=>hs.extBut b o hb e
 exact⟨R,ρ,m2,g2,rfl⟩
theorem G7 {i:Nat} {l:List AV} {y:AV} {cx:Value} {vs:List Value} (g:ag R ρ H s.heap) (hl:H[i]?=some (.list (l++[y]))) (rx:Rel R ρ (.ref i) cx) (ra:ai R ρ [] vs) (hp:l.length<1000001):EvT A (call (.builtin "list.pop") (cx::vs)) R ρ s y (H.set i (.list l)):=by
 obtain⟨a,rfl,ha⟩:=rx
 cases (show vs=[] from ra)
 obtain⟨k0,ws,k,h1,h2⟩:=g.objs _ _ _ hl ha
 obtain⟨ws',w,rfl,r3,r4⟩:=xY h2
 refine Dl h1 (r3.length▸cq hp) fun h' n' e hs => ?_
 obtain⟨g2,m2⟩:=eF (tk:=s.toks) (ob := .list l) g ha ⟨bq (pV.symm.trans k0) fun h _=>h,_,n',e,r3⟩ fun b o hb e=>hs.extBut b o hb e
 exact⟨R,ρ,m2,g2,r4⟩
theorem Dq {m:ME} {x:AV} {args:List AV} {r:AV×AH} {cx:Value} {vs:List Value} (room:aI A d) (g:ag R ρ H s.heap) (rx:Rel R ρ x cx) (ra:ai R ρ args vs) (h:fH m H x args=some r) :
  EvT A (call (.builtin (zH m)) (cx::vs)) R ρ s r.1 r.2:=by
 cases m with
 |append=>exact ob h fun i _ h=>ob h fun y _ h=>ob h fun l _ h=>oi h fun hp h=>oj h (AM g l.2 (ak i.2 rx) (iD y.2 ra) hp)
 |pop =>
  refine ob h fun i _ h=>ob h fun y _ h=>ob h fun l _ h=>ob h fun v hv h=>oi h fun hp h=>oj h ?_
  obtain⟨l',e⟩:=List.getLast?_eq_some_iff.mp hv
  have hl:=e▸l.2
  rw [e,List.length_append] at hp
  have:=G7 (A:=A) g hl (ak i.2 rx) (iD y.1 ra) (Nat.lt_succ_of_le (Nat.le_of_succ_le hp))
  refine rT e ?_;refine rT List.dropLast_concat ?_
  exact this
 |_=>exact ob h fun w hw h=>oj h (AL room g rx ra hw)
end
end
end Mine
namespace Mine
open PySem PySem.W PySem.Calls PyProof.Rows
open PySem.SeqAt
noncomputable section
section
variable {A:Around} {d:Nat} {R:RM} {ρ:List Addr} {s:Shared} {H:AH}
theorem RcNeAt.bytes (a:Array UInt8) (t:Tok) (b:Array UInt8) (u:Tok):RcNeAt A s (.bytes a t) (.bytes b u) (!(a==b)):=by
 refine rB (pM ..) ?_
 exact bK.of_gives (op := .NotEq) (typeIs_bytes s a t) (typeIs_bytes s b u) FB.slot_bytes_ne FB.entry_bytes_ne (FB.args_bytes_ne_2 _ _) (gives_bytes_ne a b t u) rfl
theorem G8 (n:Nat) (x y:AV) (b:Bool) (A:Around) (s:Shared) (cx cy:Value) (h:fc n x y=some b) (hu:A.units+n<cLine) (hf:∀ a o,R a=some o→s.heap.get? a=some o) (rx:Rel R ρ x cx) (ry:Rel R ρ y cy):RcNeAt A s cx cy (!b):=by
 cases n with
 |zero=>cases h
 |succ n =>
  have item:=fun x y c u v hc (r1:Rel R ρ x u) (r2:Rel R ρ y v)=>(wl n x y c A.in1 s u v hc (kJ hu) hf r1 r2).1
  refine d1 h (fun a c hx hy hc => ?_) (fun a c hx hy hc => ?_) (fun a c hx hy hc => ?_) (fun l r hx hy h => ?_) (fun l r hx hy h => ?_)
  ·obtain⟨t,rfl⟩:=ak hx rx
   obtain⟨u,rfl⟩:=ak hy ry
   exact hc▸RcNeAt.int_int _ t _ u
  ·obtain⟨t,rfl⟩:=ak hx rx
   obtain⟨u,rfl⟩:=ak hy ry
   exact hc▸RcNeAt.str_str _ t _ u
  ·obtain⟨t,rfl⟩:=ak hx rx
   obtain⟨u,rfl⟩:=ak hy ry
   exact hc▸RcNeAt.bytes _ t _ u
  ·obtain⟨a,vs,m,rfl,h1,h2⟩:=ak hx rx
   obtain⟨a',ws,m',rfl,h3,h4⟩:=ak hy ry
   obtain⟨e,he,hb⟩:=sE (P:=EqAt A.in1 s) item l h h2 h4
   exact hb▸RcNeAt.tuples (items:=vs.toArray) (items2:=ws.toArray) ⟨_,hf _ _ h1,rfl,m,rfl⟩ ⟨_,hf _ _ h3,rfl,m',rfl⟩ (fO hu) he
  ·obtain⟨a,vs,m,rfl,h1,h2⟩:=ak hx rx
   obtain⟨a',ws,m',rfl,h3,h4⟩:=ak hy ry
   obtain⟨e,he,hb⟩:=sE (P:=EqAt A.in1 s) item l h h2 h4
   refine hb▸pN (C:=fun b=>RcNeAt A s (.ref a) (.ref a') (!b)) (fun q => ?_) fun q => ?_
   ·exact RcNeAt.lists (items:=vs.toArray) (items2:=ws.toArray) ⟨_,hf _ _ h1,rfl,m,rfl⟩ ⟨_,hf _ _ h3,rfl,m',rfl⟩ q (fO hu) he
   ·exact RcNeAt.lists_lengths (items:=vs.toArray) (items2:=ws.toArray) ⟨_,hf _ _ h1,rfl,m,rfl⟩ ⟨_,hf _ _ h3,rfl,m',rfl⟩ q (fO hu)
theorem sR {l:List AV}:∀ {vs:List Value} {ns:List Int},bE l=some ns→ai R ρ l vs→IntsAre vs ns:=by
 induction l with
 |nil=>intro vs ns h r;cases h;cases (show vs=[] from r);exact .nil
 |cons a l ih =>
  intro vs ns h r
  refine ob h fun i _ h=>ob h fun ns hb h=>oj h ?_
  obtain⟨v,vs,rfl,r1,r2⟩:=r
  obtain⟨u,rfl⟩:=ak i.2 r1
  exact .cons _ u (ih hb r2)
noncomputable def isI (i:Int) (y:Value):Bool:=match y with
 |.int j _=>j==i
 |_=>false
theorem sS {i:Int} {vs:List Value} {ns:List Int} (h:IntsAre vs ns):vs.any (isI i)=ns.contains i:=by
 induction h with
 |nil=>rfl
 |cons j t r ih=>refine rT List.any_cons ?_;refine rT ih ?_;refine rT List.contains_cons ?_;exact congrArg (·||_) Bool.beq_comm
theorem sT {vs:List Value} {ns:List Int} (h:IntsAre vs ns):∀ y∈vs,∃ j t,y = .int j t:=by
 induction h with
 |nil=>exact fun _ h=>nomatch h
 |cons j t r ih=>exact fun y h=>(KJ.mp h).elim (fun e=>⟨j,t,e⟩) (ih y)
theorem Fq {i:Int} {y:AV} {l:List AV} {ns:List Int} {cx cy:Value} (g:ag R ρ H s.heap) (rx:Rel R ρ (.int i) cx) (ry:Rel R ρ y cy) (hl:fE H y=some l) (hn:bE l=some ns):EvT A (compareOp .NotIn cx cy) R ρ s (.bool !ns.contains i) H:=by
 obtain⟨t,rfl⟩:=rx
 obtain⟨ad,vs,n,rfl,hk,hr⟩:=gy g ry hl
 have hi:=sR hn hr
 have he:∀ y,y∈vs.toArray→EqAt A.in1 s y (.int i t) (isI i y):=fun y hy=>by
  obtain⟨j,u,rfl⟩:=sT hi y (List.mem_toArray.mp hy)
  exact EqAt.int_int j u i t
 have ok:b5 R ρ s (.bool !ns.contains i) H (.bool !vs.toArray.any (isI i)) s:=by
  refine rB Array.any_toList ?_;refine rT (sS hi) ?_;exact aD g rfl
 exact hk.elim (fun hk=>notIn_listAt _ (ay hk) he ok) fun hk=>notIn_tupleAt _ (uN hk) he ok
theorem Fr {op:CmpOp} {x y:AV} {b:Bool} {cx cy:Value} (room:aI A d) (g:ag R ρ H s.heap) (rx:Rel R ρ x cx) (ry:Rel R ρ y cy) (h:f9 H op x y=some b):EvT A (compareOp op cx cy) R ρ s (.bool b) H:=by
 have hu:A.units+4<cLine:=KZ (KZ (Nat.add_lt_add_left (by decide:4<100) _) (Nat.add_le_add_right (Kf _ _) _)) room.units
 cases op with
 |Eq=>exact (wl 4 x y b A s cx cy h hu g.froz rx ry).2 _ _ _ _ (aD g rfl)
 |NotEq=>exact ob h fun c hc h=>oj h (G8 4 x y c A s cx cy hc hu g.froz rx ry _ _ _ _ (aD g rfl))
 |Lt=>exact EL 4 x y b A s cx cy h hu g.froz rx ry _ _ _ _ (aD g rfl)
 |LtE =>
  refine ob h fun a _ h=>ob h fun c _ h=>oj h ?_
  obtain⟨t,rfl⟩:=ak a.2 rx
  obtain⟨u,rfl⟩:=ak c.2 ry
  exact bK.of_gives (op := .LtE) (typeIs_int s a.1 t) (typeIs_int s c.1 u) F.slot_int_le F.entry_int_le (F.args_int_le_2 _ _) (gives_int_le a.1 c.1 t u) rfl _ _ _ _ (aD g rfl)
 |Gt =>
  refine ob h fun a _ h=>ob h fun c _ h=>oj h ?_
  obtain⟨t,rfl⟩:=ak a.2 rx
  obtain⟨u,rfl⟩:=ak c.2 ry
  exact bK.int_gt a.1 t c.1 u _ _ _ _ (aD g rfl)
 |GtE =>
  refine ob h fun a _ h=>ob h fun c _ h=>oj h ?_
  obtain⟨t,rfl⟩:=ak a.2 rx
  obtain⟨u,rfl⟩:=ak c.2 ry
  exact bK.of_gives (op := .GtE) (typeIs_int s a.1 t) (typeIs_int s c.1 u) F.slot_int_ge F.entry_int_ge (F.args_int_ge_2 _ _) (gives_int_ge a.1 c.1 t u) rfl _ _ _ _ (aD g rfl)
 |NotIn=>exact ob h fun a _ h=>ob h fun l hl h=>ob h fun ns hn h=>oj h (Fq g (ak a.2 rx) ry hl hn)
 |_=>cases h
end
end
end Mine
namespace Mine
open PySem PySem.W PySem.Calls PyProof.Rows
noncomputable section
theorem xZ {α:Type} (l:List α) (a:Nat) (m:Nat):a+m≤l.length→(List.range m).filterMap (fun k=>l[a+k]?)=(l.drop a).take m:=by
 induction m with
 |zero=>exact fun _=>rfl
 |succ m ih =>
  intro h
  refine rT List.range_succ ?_;refine rT List.filterMap_append ?_;refine rT (ih (Nat.le_of_succ_le h)) ?_;refine rT List.take_add_one ?_;refine rT List.getElem?_drop ?_;refine rT (Ky (show a+m<l.length from h)) ?_
  refine rT List.filterMap_cons ?_;refine rT (Ky (show a+m<l.length from h)) ?_;rfl
theorem gF (a b:Nat) {m:Nat} (hm:0<m):sliceRange (a:Int) (b:Int) (m:Int)=(List.range ((b-a+(m-1)) / m)).map (fun k=>a+m*k):=by
 unfold sliceRange
 refine rT (if_pos (Int.natCast_pos.mpr hm)) ?_
 have e:(if (a:Int)<b then ((b:Int)-a+m-1) / m else 0).toNat=(b-a+(m-1)) / m:=by
  by_cases h:a<b
  ·rw [if_pos (Int.ofNat_lt.mpr h),show (b:Int)-a+m-1=((b-a+(m-1):Nat):Int) by rw [Int.natCast_add,Int.natCast_sub (Nat.le_of_lt h),Int.natCast_sub hm];exact Int.add_sub_assoc ..];rfl
  ·rw [if_neg fun q=>h (Int.ofNat_lt.mp q),Nat.sub_eq_zero_of_le (Nat.not_lt.mp h),Nat.zero_add,Nat.div_eq_of_lt (Nat.sub_lt hm Nat.zero_lt_one)];rfl
 dsimp only
 rw [e]
 rfl
theorem gG (a b:Nat):sliceRange (a:Int) (b:Int) 1=(List.range (b-a)).map (fun k=>a+k):=by
 have:=gF a b (m:=1) Nat.zero_lt_one
 simp only [Nat.sub_self,Nat.add_zero,Nat.div_one,Nat.one_mul] at this
 exact this
theorem mV {α:Type} (l:List α) (a b:Nat) (ha:a≤l.length) (hb:b≤l.length):(sliceRange (a:Int) (b:Int) 1).filterMap (fun i=>l[i]?)=(l.take b).drop a:=by
 refine rT (gG ..) ?_;refine rT List.filterMap_map ?_
 refine (?_:(List.range (b-a)).filterMap (fun k=>l[a+k]?)=_)
 rcases Nat.le_total a b with hab|hab
 ·refine rT (xZ l a (b-a) (by rw [Nat.add_sub_cancel' hab];exact hb)) ?_;exact rT List.drop_take rfl
 ·refine rT (Nat.sub_eq_zero_of_le hab) ?_;refine rT (List.drop_of_length_le (Kv (List.length_take_le _ _) hab)) ?_;rfl
theorem uV (n:Nat):(n+1+6) / 7=(n-6+6) / 7+1:=by
 refine rT (Nat.add_assoc ..) ?_;refine rT (Nat.add_div_right n (by decide:0<7)) ?_
 rcases Nat.le_total 6 n with h|h
 ·exact rT (Nat.sub_add_cancel h) rfl
 ·refine rT (Nat.sub_eq_zero_of_le h) ?_;exact rT (Nat.div_eq_of_lt (Nat.lt_succ_of_le h)) rfl
theorem ya (l:List AV):∀ (a:Nat),(List.range ((l.length-a+6) / 7)).filterMap (fun k=>l[a+7*k]?)=b4 7 a l:=by
 induction l with
 |nil =>
  intro a
  refine rT (show ([]:List AV).length-a=0 from Nat.zero_sub a) ?_
  cases a<;>rfl
 |cons x r ih =>
  intro a
  cases a with
  |zero =>
   refine rT (show ((x::r).length-0+6) / 7=(r.length-6+6) / 7+1 from uV r.length) ?_;refine rT List.range_succ_eq_map ?_;refine rT List.filterMap_cons ?_;refine rT List.filterMap_map ?_
   refine (?_:x::(List.range _).filterMap (fun k=>(x::r)[0+7*(k+1)]?)=x::b4 7 6 r)
   refine rB (ih 6) ?_
   congr 2
   funext k
   rw [show 0+7*(k+1)=6+7*k+1 by rw [Nat.mul_add,Nat.zero_add,Nat.add_comm 6]]
   rfl
  |succ a =>
   rw [List.length_cons,Nat.succ_sub_succ]
   refine (?_:_=b4 7 a r)
   rw [← ih a]
   congr 1
   funext k
   rw [Nat.add_right_comm]
   rfl
theorem kM (a n:Nat):sliceRange (a:Int) (n:Int) 7=(List.range ((n-a+6) / 7)).map (fun k=>a+7*k):=gF a n (by decide)
noncomputable def bv (n:Nat) (i:Int):Nat:=min i.toNat n
theorem qP {i:Int} (n:Nat) (hi:0≤i):max 0 (min (if i<0 then i+(n:Int) else i) n)=((bv n i:Nat):Int):=by
 obtain⟨k,rfl⟩:=Int.eq_ofNat_of_zero_le hi
 unfold bv
 refine rT (if_neg (Int.not_lt.mpr hi)) ?_;refine rT (Int.toNat_natCast ..) ?_
 rcases Nat.le_total k n with h|h
 ·refine rT (Nat.min_eq_left h) ?_;refine rT (Int.min_eq_left (Int.ofNat_le.mpr h)) ?_;exact rT (Int.max_eq_right hi) rfl
 ·refine rT (Nat.min_eq_right h) ?_;refine rT (Int.min_eq_right (Int.ofNat_le.mpr h)) ?_;exact rT (Int.max_eq_right (Int.natCast_nonneg n)) rfl
theorem jc (lo hi:Option Int) (n:Nat) (h0:∀ i,lo=some i→0≤i) (h1:∀ i,hi=some i→0≤i):sliceBounds lo hi none n=(((lo.elim 0 (bv n):Nat):Int),((hi.elim n (bv n):Nat):Int),1):=by
 have e1:(match lo with|some i=>max 0 (min (if i<0 then i+(n:Int) else i) n)|none=>0)=((lo.elim 0 (bv n):Nat):Int):=by
  cases lo with
  |none=>rfl
  |some i=>exact qP n (h0 i rfl)
 have e2:(match hi with|some i=>max 0 (min (if i<0 then i+(n:Int) else i) n)|none=>(n:Int))=((hi.elim n (bv n):Nat):Int):=by
  cases hi with
  |none=>rfl
  |some i=>exact qP n (h1 i rfl)
 refine rB e1 ?_;refine rB e2 ?_
 cases lo<;>cases hi<;>rfl
theorem yb {α:Type} (n:Nat) (i:Int) (m:List α) (hm:m.length≤n):m.drop (bv n i)=m.drop i.toNat:=by
 unfold bv
 rcases Nat.le_total i.toNat n with h|h
 ·exact rT (Nat.min_eq_left h) rfl
 ·refine rT (Nat.min_eq_right h) ?_;refine rT (List.drop_of_length_le hm) ?_;exact rT (List.drop_of_length_le (Kv hm h)) rfl
theorem yc {α:Type} (l:List α) (i:Int):l.take (bv l.length i)=l.take i.toNat:=by
 unfold bv
 rcases Nat.le_total i.toNat l.length with h|h
 ·exact rT (Nat.min_eq_left h) rfl
 ·refine rT (Nat.min_eq_right h) ?_;refine rT (List.take_of_length_le (KX _)) ?_;exact rT (List.take_of_length_le h) rfl
theorem AN {α:Type} {l r:List α} {lo hi:Option Int} (h:lM l lo hi=some r):(∀ i,lo=some i→0≤i)∧(∀ i,hi=some i→0≤i)∧r=(l.take (hi.elim l.length Int.toNat)).drop (lo.elim 0 Int.toNat):=by
 cases lo with
 |none =>
  cases hi with
  |none=>cases h;exact⟨nofun,nofun,(List.take_of_length_le (KX _)).symm⟩
  |some j=>exact oi h fun hj h=>oj h ⟨nofun,fun i e=>KY e▸hj,rfl⟩
 |some i =>
  cases hi with
  |none=>exact oi h fun hj h=>oj h ⟨fun i e=>KY e▸hj,nofun,(congrArg (List.drop i.toNat) (List.take_of_length_le (KX _))).symm⟩
  |some j=>exact oi h fun hj h=>oj h (bq hj fun h1 h2=>⟨fun i e=>KY e▸of_decide_eq_true h1,fun i e=>KY e▸of_decide_eq_true h2,rfl⟩)
theorem mW {α:Type} {l r:List α} {lo hi:Option Int} (h:lM l lo hi=some r):(∀ i,lo=some i→0≤i)∧(∀ i,hi=some i→0≤i)∧lo.elim 0 (bv l.length)≤l.length∧hi.elim l.length (bv l.length)≤l.length∧(sliceRange ((lo.elim 0 (bv l.length):Nat):Int) ((hi.elim l.length (bv l.length):Nat):Int) 1).filterMap (fun i=>l[i]?)=r:=by
 obtain⟨h1,h2,e⟩:=AN h
 have l1:lo.elim 0 (bv l.length)≤l.length:=by
  cases lo with
  |none=>exact Nat.zero_le _
  |some i=>exact Nat.min_le_right _ _
 have l2:hi.elim l.length (bv l.length)≤l.length:=by
  cases hi with
  |none=>exact KX _
  |some i=>exact Nat.min_le_right _ _
 refine⟨h1,h2,l1,l2,?_⟩
 refine rT (mV l _ _ l1 l2) ?_;refine rT e ?_
 have e1:l.take (hi.elim l.length (bv l.length))=l.take (hi.elim l.length Int.toNat):=by
  cases hi with
  |none=>rfl
  |some j=>exact yc l j
 refine rT e1 ?_
 cases lo with
 |none=>rfl
 |some i=>exact yb _ i _ (List.length_take_le' _ _)
theorem wo {α:Type} {l r:List α} {lo hi:Option Int} (h:lM l lo hi=some r):r.length≤l.length:=by
 refine rT ((AN h).2.2) ?_;refine rT List.length_drop ?_;exact Kv (Nat.sub_le _ _) (List.length_take_le' _ _)
section
variable {prog:Program} {w:World} {A:Around} {E:Value→Shared→Prop} {s:Shared}
theorem mX (slice:Expr) (o i:Value):∃ l,subscripted slice false o i=operate l (getItem o i):=by
 cases slice with
 |Slice a b c p=>cases c<;>exact⟨_,rfl⟩
 |_=>exact⟨_,rfl⟩
theorem d9 {value slice:Expr} {o i:Value} {T id:String} {Q:Value→Shared→Prop} (hT:s.TypeIs o T) (hl:typeLookup (.type T) "__getitem__" = pure (some (.builtin id))) (h:wpAny (model prog w) A (getItem o i) Q E s):wpAny (model prog w) A (subscriptTail value slice o i) Q E s:=by
 refine JX ?_
 refine rT (getitemInPython_of_ne hT.not_modules) ?_
 refine JX (wpAny_specialOf hT hl ?_)
 have fin:wpAny (model prog w) A (subscripted slice false o i) (fun r s₃=>wpAny (model prog w) A (letTemporaryGo value o r >>= fun _=>pure r) Q E s₃) E s:=by
  obtain⟨l,e⟩:=mX slice o i
  refine rT e ?_
  exact wpAny_operating (Kq h (fun r s₃ h₃=>JX (wpAny_letTemporaryGo (JZ h₃))) fun _ _ x=>x)
 first
  |exact JZ (JX fin)
  |exact JX (JZ (JX fin))
  |exact JX fin
end
section
variable {A:Around} {d:Nat} {R:RM} {ρ:List Addr} {s:Shared} {H:AH}
theorem pW {n:Nat} {i:Int} {j:Nat} {G:Prop} (h:dX n i=some j) (kp:n<1000000→0≤i→i<n→j=i.toNat→G) (kn:n<1000000→i<0→0≤i+n→j=(i+n).toNat→G):G :=
 oi h fun hn h=>by
  by_cases h0:0≤i
  ·exact oi ((if_pos h0).symm.trans h) fun h1 h=>kp hn h0 h1 (KY h).symm
  ·exact oi ((if_neg h0).symm.trans h) fun h1 h=>kn hn (Int.not_le.mp h0) h1 (KY h).symm
theorem Fs {n:Nat} {i:Int} (h:i<0):i+n<n:=by lia
theorem Fu {n:Nat} {i:Int} (h:0≤i+n) : -(n:Int)≤i:=by lia
theorem G9 {n:Nat} {i:Int} (hn:n<1000000) (h:i<n):i<2 ^ 63:=by lia
theorem Ha {n:Nat} {i:Int} (hn:n<1000000) (h:0≤i+n) : -(2 ^ 63)≤i:=by lia
theorem AP {n:Nat} {i:Int} {j:Nat} (h:dX n i=some j):seqIndex? i n=some j ∧ -(2 ^ 63)≤i∧i<2 ^ 63:=by
 unfold seqIndex?
 refine pW h (fun hn h0 h1 e => ?_) fun hn h0 h1 e => ?_
 ·refine rT (if_neg (Int.not_lt.mpr h0)) ?_
  dsimp only
  refine rT (decide_eq_true h0) ?_;refine rT (decide_eq_true h1) ?_;refine rT e ?_
  exact⟨rfl,Int.le_trans (by decide) h0,G9 hn h1⟩
 ·refine rT (if_pos h0) ?_
  dsimp only
  refine rT (decide_eq_true h1) ?_;refine rT (decide_eq_true (show i+(n:Int)<n from Fs h0)) ?_;refine rT e ?_
  exact⟨rfl,Ha hn h1,Int.lt_trans h0 (by decide)⟩
section
variable {l:List AV} {k:Int} {v:AV} {cx cy:Value} {base slice:Expr} (g:ag R ρ H s.heap) (h:((dX l.length k).bind (l[·]?))=some v) (ry:Rel R ρ (.int k) cy)
include g h ry
theorem Dr {ad:Addr} {vs:List Value} {n:Nat} (hk:s.heap.get? ad=some (aN vs n)) (hr:ai R ρ l vs):EvT A (subscriptTail base slice (.ref ad) cy) R ρ s v H :=
 ob h fun j hj hv=>by
  obtain⟨t,rfl⟩:=ry
  obtain⟨cv,e,r⟩:=hr.get hv
  have e:=List.getElem?_toArray.trans e
  refine d9 (ay hk).typeIs F.slot_list_getitem.lookup (pW hj (fun hn h0 h1 ej => ?_) fun hn h0 h1 ej => ?_)
  ·exact wpAny_getItem_list (ay hk) h0 (G9 hn h1) (ej▸e) (aD g r)
  ·rw [← hr.length] at h1 ej
   exact wpAny_getItem_list_neg (ay hk) h0 (Fu h1) (Ha (hr.length▸hn) h1) (ej▸e) (aD g r)
theorem Ds (rx:Rel R ρ (.tup l) cx):EvT A (subscriptTail base slice cx cy) R ρ s v H :=
 ob h fun j hj hv=>by
  obtain⟨u,rfl⟩:=ry
  obtain⟨ad,vs,n,rfl,h1,h2⟩:=rx
  obtain⟨q1,q2,q3⟩:=AP hj
  obtain⟨cv,e,r⟩:=h2.get hv
  have e:=List.getElem?_toArray.trans e
  exact d9 (T := "tuple") ⟨_,g.froz _ _ h1,rfl⟩ F.slot_tuple_getitem.lookup (getItem_tuple (uN (g.froz _ _ h1)) q2 q3 (show seqIndex? k vs.length=_ from h2.length▸q1) e (aD g r))
end
theorem Dt {x:Str} {k:Int} {j c:Nat} {cx cy:Value} {base slice:Expr} (g:ag R ρ H s.heap) (hj:dX x.cps.size k=some j) (hc:x.cps[j]?=some c) (rx:Rel R ρ (.str x) cx) (ry:Rel R ρ (.int k) cy):EvT A (subscriptTail base slice cx cy) R ρ s (.str ⟨#[c]⟩) H:=by
 obtain⟨t,rfl⟩:=rx
 obtain⟨u,rfl⟩:=ry
 obtain⟨q1,q2,q3⟩:=AP hj
 refine d9 (typeIs_str s x t) F.slot_str_getitem.lookup (P.getItem_str (c:=c) ?_ ?_ (aC g ⟨_,rfl⟩))
 ·refine rT (decide_eq_false (Int.not_lt.mpr q2)) ?_;refine rT (decide_eq_false (Int.not_le.mpr q3)) ?_;rfl
 ·refine (?_:(seqIndex? k x.cps.size).bind (x.cps[·]?)=some c)
  refine rT q1 ?_;exact hc
theorem Du {x:Str} {p:Str×AV} {l:List (Str×AV)}:∀ {kvs:List (Str×Value)},bb R ρ l kvs→l.find? (·.1==x)=some p→∃ cv,valueAt kvs x=some cv∧Rel R ρ p.2 cv:=by
 induction l with
 |nil=>intro kvs _ h;cases h
 |cons q l ih =>
  intro kvs r h
  obtain⟨n,a⟩:=q
  obtain⟨cv,kvs,rfl,r1,r2⟩:=r
  rw [List.find?_cons] at h
  unfold valueAt
  refine rT List.find?_cons ?_
  by_cases hq:n=x
  ·subst hq
   rw [show ((n,a).1==n)=true from beq_self_eq_true n] at h
   cases h
   refine rT (show decide ((n,cv).1=n)=true from decide_eq_true rfl) ?_
   exact⟨cv,rfl,r1⟩
  ·rw [show ((n,a).1==x)=false from beq_false_of_ne hq] at h
   refine rT (show decide ((n,cv).1=x)=false from decide_eq_false hq) ?_
   exact ih r2 h
theorem AQ (x:Str) (u:Tok):(strKind X.prog X.w).is x (.str x u)=true:=beq_self_eq_true _
theorem Fv {x y v:AV} {cx cy:Value} (base slice:Expr) (g:ag R ρ H s.heap) (rx:Rel R ρ x cx) (ry:Rel R ρ y cy) (h:fG H x y=some v):EvT A (subscriptTail base slice cx cy) R ρ s v H :=
 oe h (fun k h=>oe h (fun a h=>ob h fun j hj h=>ob h fun c hc h=>oj h (Dt g hj hc (ak a.2 rx) (ak k.2 ry)))
  fun h=>oe h (fun a h=>Ds g h (ak k.2 ry) (ak a.2 rx))
  fun h=>ob h fun l hl h=>by
   obtain⟨ad,vs,n,rfl,h1,h2⟩:=aQ g rx hl
   exact Dr g h (ak k.2 ry) h1 h2)
 fun h=>ob h fun r _ h=>ob h fun y _ h=>ob h fun l _ h=>ob h fun p hp h=>oj h (by
  obtain⟨u,rfl⟩:=ak y.2 ry
  obtain⟨a,rfl,ha⟩:=ak r.2 rx
  obtain⟨_,kvs,h1,h2⟩:=g.objs _ _ _ l.2 ha
  obtain⟨cv,hv,r⟩:=Du h2 hp
  exact d9 h1.typeIs F.slot_dict_getitem.lookup (wpAny_getItem_of (AQ _ u) h1.mapOf hv (aC g r)))
end
end
end Mine
namespace Mine
open PySem PySem.W PySem.Calls PyProof.Rows Builtin
noncomputable section
theorem uW (lo hi:Option Int) (n:Nat):Builtin.Str.strSliceIndices lo hi 1 n=sliceRange (sliceBounds lo hi none n).1 (sliceBounds lo hi none n).2.1 1:=by
 cases lo<;>cases hi<;>rfl
theorem uX {α:Type} (l:List α) (a b:Nat) (ha:a≤l.length) (hb:b≤l.length) (h:(sliceRange (a:Int) (b:Int) 1).length=l.length):(sliceRange (a:Int) (b:Int) 1).filterMap (fun i=>l[i]?)=l:=by
 refine rT (mV l a b ha hb) ?_
 rw [gG,List.length_map,List.length_range] at h
 rcases Nat.eq_zero_or_pos a with h1|h1
 ·subst h1
  cases (show b=l.length from h)
  exact List.take_of_length_le (KX _)
 ·rcases Nat.eq_zero_or_pos b with h2|h2
  ·subst h2
   rw [Nat.zero_sub] at h
   refine rT (List.length_eq_zero_iff.mp h.symm) ?_;refine rT List.take_nil ?_;exact rT List.drop_nil rfl
  ·exact absurd (KZ (Nat.sub_lt h2 h1) hb) (h▸Nat.lt_irrefl _)
section
variable {prog:Program} {w:World} {A:Around} {E:Value→Shared→Prop} {s:Shared}
theorem gH {v:Value} {k:Option Int} {Q:Value→Shared→Prop} (hv:IsPart v k) (h:Q (rawPart k) s):wpAny (model prog w) A (do
  if v == .none then return .none
  if (← specialOf v "__index__").isNone then
   rule "bytes.slice.part-no-index";raiseError "TypeError" "slice indices must be integers or None or have an __index__ method"
  return rawInt (← asIndex v)) Q E s:=by
 cases hv with
 |none=>exact JZ h
 |int i t =>
  refine rT (if_neg (show ¬ ((Value.int i t==Value.none)=true) from Bool.false_ne_true)) ?_
  refine JX (wpAny_specialOf (T := "int") (typeIs_int s i t) F.slot_int_index.lookup ?_)
  simp only [Option.isNone_some,Bool.false_eq_true,if_false]
  exact JX (wpAny_of_eq (a:=i) rfl (JZ h))
theorem iB {b:Array UInt8} {t:Tok} {a:Addr} {vl vu vs:Value} {lo hi:Option Int} {Q:Value→Shared→Prop} (hs:s.heap.IsSliceOf a vl vu vs) (pl:IsPart vl lo) (pu:IsPart vu hi) (ps:vs = .none)
  (hsz:(Bytes.sliced b (sliceBounds lo hi none b.size).1 (sliceBounds lo hi none b.size).2.1 1).size≤sizeLine)
  (h:∀ t' tk,Q (.bytes (Bytes.sliced b (sliceBounds lo hi none b.size).1 (sliceBounds lo hi none b.size).2.1 1) t') { s with toks:=tk }):wpAny (model prog w) A (getItem (.bytes b t) (.ref a)) Q E s:=by
 obtain⟨o,ho,hc,hd⟩:=id hs
 have hT:s.TypeIs (.ref a) "slice" := ⟨o,ho,hc⟩
 refine PyProof.Rows.getItem_slot (typeIs_bytes s b t) (by decide) FB.slot_bytes_getitem (wpAny_call_entry FB.slot_bytes_getitem (typeIs_bytes s b t) FB.entry_bytes_getitem ?_ (FB.args_bytes_getitem_2 _ _))
 refine (?_:wpAny _ _ (Bytes.subscript? (.ref a) >>= fun r=>_) _ _ _)
 refine JX ?_
 refine JX (wpAny_specialOf hT slice_no_index (JZ ?_))
 refine (?_:wpAny _ _ (typeOf (.ref a) >>= fun ty=>_) _ _ _)
 refine JX (wpAny_typeOf hT ?_)
 refine (?_:wpAny _ _ (Bytes.sliceParts (.ref a) >>= fun r=>_) _ _ _)
 refine JX ?_
 subst ps
 dsimp only
 refine JX (wpAny_field (i:=2) (x := .none) ho hd rfl ?_)
 refine JX (gH .none ?_)
 refine (?_:wpAny _ _ (field (.ref a) 0 >>= fun v=>_) _ _ _)
 refine JX (wpAny_field (i:=0) (x:=vl) ho hd rfl ?_)
 refine JX (gH pl ?_)
 refine JX (wpAny_field (i:=1) (x:=vu) ho hd rfl ?_)
 refine JX (gH pu (JZ ?_))
 refine (?_:wpAny _ _ (sliceIndices (rawPart lo) (rawPart hi) (rawPart none) b.size >>= fun r=>_) _ _ _)
 refine rT (sliceIndices_raw lo hi none b.size nofun) ?_
 have h3:(sliceBounds lo hi none b.size).2.2=1:=rfl
 generalize hB:sliceBounds lo hi none b.size=B at hsz h h3
 obtain⟨st,sp,sx⟩:=B
 simp only at hsz h h3
 subst h3
 by_cases hw:(st==0&&(1:Int)==1&&sp==(b.size:Int)&&!b.isEmpty)=true
 ·have hb:Bytes.sliced b st sp 1=b:=by
   simp only [Bool.and_eq_true,beq_iff_eq] at hw
   obtain⟨⟨⟨rfl,_⟩,rfl⟩,_⟩:=hw
   have:=mV b.toList 0 b.size (Nat.zero_le _) (KX _)
   simp only [Array.getElem?_toList] at this
   refine rQ Array.toList_inj ?_
   exact this.trans (List.take_of_length_le (KX _))
  rw [hb] at h
  refine (?_:wpAny _ _ (if (st==0&&(1:Int)==1&&sp==(b.size:Int)&&!b.isEmpty)=true then (typeOf (.bytes b t) >>= fun ty=>_) else _) _ _ _)
  refine rT (if_pos hw) ?_
  refine JX (wpAny_typeOf (typeIs_bytes s b t) ?_)
  exact JX (wpAny_rule (JZ ⟨_,rfl,h t s.toks⟩))
 ·refine (?_:wpAny _ _ (if (st==0&&(1:Int)==1&&sp==(b.size:Int)&&!b.isEmpty)=true then _ else (mkBytes (Bytes.sliced b st sp 1) >>= fun r=>_)) _ _ _)
  refine rT (if_neg hw) ?_
  exact JX (wpAny_mkBytes (JZ ⟨_,rfl,h _ _⟩) hsz)
theorem oX:seqRepeat? (.type "bytes")=pure (some (.builtin "bytes.__mul__")):=by
 refine rT (PySem.seqSlot_of (T := "bytes") (name := "__mul__") (id := "bytes.__mul__") d8.lookup (by decide +kernel)) ?_;refine rT (PySem.seqSlot_of (T := "bytes") (name := "__rmul__") (id := "bytes.__rmul__") fY.lookup (by decide +kernel)) ?_
 rfl
theorem kN:fillsNumberSlot (.type "bytes") "mul" = pure false :=
 PySem.fillsNumberSlot_seq (id := "bytes.__mul__") (r:=some (.builtin "bytes.__rmul__")) d8.lookup (by decide +kernel) fY.lookup (by decide +kernel)
theorem mY (a:Int) (t:Tok) (b:Array UInt8) (u:Tok):Gives (Builtin.«int.__rmul__» ⟨[.int a t,.bytes b u],[]⟩) (.val .notImplemented) :=
 .of_wp fun M A E s Q h=>by obtain⟨hp,g,d,tk,os⟩:=s;wp_walk;exact⟨_,rfl,h⟩
theorem yd {b:Array UInt8} {n:Int} {t u:Tok} {Q:Value→Shared→Prop} (h0:0≤n) (h1:n≤1000000) (hs:b.size=1) (h:∀ t' tk,Q (.bytes (Array.replicate n.toNat (b.getD 0 0)) t') { s with toks:=tk }):wpAny (model prog w) A (binaryOp .Mult (.bytes b t) (.int n u)) Q E s:=by
 refine wpAny_binaryOp_repeat (T := "bytes") (U := "int") (by decide) (fun s'=>typeIs_bytes s' b t) (fun s'=>typeIs_int s' n u) kN F.fills_int_mul F.slot_int_rmul oX F.slot_int_index.lookup
  (call_gives F.slot_int_rmul (typeIs_int s n u) F.entry_int_rmul (F.args_int_rmul_2 _ _) (mY n u b t) ⟨rfl,call_gives d8 (typeIs_bytes s b t) lU (kL _ _) (lS h0 h1 hs) ?_⟩)
 refine rT hs ?_;refine rT (sJ b _ hs) ?_
 split
 ·rename_i he
  have:n.toNat=1:=by simpa using he
  have e:Array.replicate n.toNat (b.getD 0 0)=b:=by
   refine rT this ?_
   obtain⟨l⟩:=b
   rcases l with _|⟨c,_|⟨e,r⟩⟩
   ·cases hs
   ·rfl
   ·simp at hs
  have:=h t s.toks
  rw [e] at this
  exact this
 ·exact⟨by refine rT Array.size_replicate ?_;refine rT sizeLine_eq ?_;lia,h _ _⟩
end
section
variable {A:Around} {d:Nat} {R:RM} {ρ:List Addr} {s:Shared} {H:AH}
theorem mZ {a:Option AV} {cv:Value} {i:Option Int} (h:j8 a=some i) (r:Rel R ρ (a.getD .none) cv):IsPart cv i∧∃ p:Option (Int×Tok),cv=partValue p∧p.map (·.1)=i:=by
 cases a with
 |none=>cases h;cases (show cv = .none from r);exact⟨.none,none,rfl,rfl⟩
 |some a =>
  refine ob h fun k _ h=>oj h ?_
  obtain⟨t,rfl⟩:=ak k.2 r
  exact⟨.int _ t,some (_,t),rfl,rfl⟩
theorem ye {l:List AV} {vs:List Value} (r:ai R ρ l vs) (ix:List Nat):ai R ρ (ix.filterMap (fun i=>l[i]?)) (ix.filterMap (fun i=>vs[i]?)):=by
 induction ix with
 |nil=>exact .nil
 |cons i ix ih =>
  refine rT List.filterMap_cons ?_;refine rT List.filterMap_cons ?_
  cases q:l[i]? with
  |none =>
   refine rT (List.getElem?_eq_none (r.length▸List.getElem?_eq_none_iff.mp q)) ?_
   exact ih
  |some a =>
   obtain⟨v,e,k⟩:=r.get q
   refine rT e ?_
   exact .cons k ih
theorem uY {base slice:Expr} {v:AV} {cx a b c:Value} (g:ag R ρ H s.heap)
  (k:∀ s',s'.heap.IsSliceOf s.heap.objs.size a b c→(∀ o ad,s.heap.get? ad=some o→s'.heap.get? ad=some o)→ag R ρ H s'.heap→EvT A (subscriptTail base slice cx (.ref s.heap.objs.size)) R ρ s' v H) :
  wpAny X.M A (newFields "slice" [a,b,c]) (fun i s'=>wpAny X.M A (subscriptTail base slice cx i) (b5 R ρ s v H) NoE s') NoE s :=
 wpAny_newObj_type (Kq (k { s with heap:=s.heap.push { cls := .type "slice",data := .fields #[a,b,c] } } (Heap.IsSliceOf.new s.heap _ _ _) (fun o ad e=>Kx _ e) (g.grow fun b o e=>Kx _ e))
  (fun _ _ k=>by
   obtain⟨R',ρ',m,g,r⟩:=k
   exact⟨R',ρ',(Mv.grow (tk:=s.toks) fun b o e=>Kx _ e).trans m,g,r⟩) fun _ _ e=>e)
section
variable {lo hi:Option Int} {lt ht:Option (Int×Tok)} {sa:Addr} {cx:Value} {base slice:Expr} (g:ag R ρ H s.heap) (el:lt.map (·.1)=lo) (eh:ht.map (·.1)=hi)
include g el eh
theorem Dv {x:Str} {r:List Nat} (hS:s.heap.IsSliceOf sa (partValue lt) (partValue ht) .none) (hsz:x.cps.size≤1000000) (hr:lM x.cps.toList lo hi=some r) (rx:Rel R ρ (.str x) cx):EvT A (subscriptTail base slice cx (.ref sa)) R ρ s (.str ⟨r.toArray⟩) H:=by
 obtain⟨t,rfl⟩:=rx
 obtain⟨c1,c2,b1,b2,c3⟩:=mW hr
 refine d9 (typeIs_str _ x t) F.slot_str_getitem.lookup (wpAny_getItem_str_slice (l:=lt) (u:=ht) (st:=none) hS rfl ?_)
 have hp:slicePicked x lt ht none=sliceRange ((lo.elim 0 (bv x.cps.toList.length):Nat):Int) ((hi.elim x.cps.toList.length (bv x.cps.toList.length):Nat):Int) 1:=by
  refine (?_:Builtin.Str.strSliceIndices (lt.map (·.1)) (ht.map (·.1)) 1 x.cps.toList.length=_)
  refine rT el ?_;refine rT eh ?_;refine rT (uW ..) ?_;exact rT (jc lo hi _ c1 c2) rfl
 unfold sliceMade
 refine rT hp ?_
 split
 ·rename_i hw
  refine rB c3 ?_;refine rT (uX _ _ _ b1 b2 (bq hw fun _ hw=>eq_of_beq hw)) ?_
  exact aD g ⟨t,rfl⟩
 ·simp only [Array.getElem?_toList] at c3
  refine rT c3 ?_
  exact⟨by refine (?_:r.toArray.size≤_);refine rT List.size_toArray ?_;exact cq (Kv (wo hr) (Nat.le_succ_of_le hsz)),aC g ⟨_,rfl⟩⟩
end
section
variable {lo hi:Option Int} {sa:Addr} {cx cl ch:Value} {base slice:Expr} (g:ag R ρ H s.heap) (pl:IsPart cl lo) (ph:IsPart ch hi)
include g pl ph
theorem yf {b:Array UInt8} {r:List UInt8} (hS:s.heap.IsSliceOf sa cl ch .none) (hsz:b.size≤1000000) (hr:lM b.toList lo hi=some r) (rx:Rel R ρ (.bytes b) cx):EvT A (subscriptTail base slice cx (.ref sa)) R ρ s (.bytes r.toArray) H:=by
 obtain⟨t,rfl⟩:=rx
 obtain⟨c1,c2,_,_,c3⟩:=mW hr
 have hsl:Builtin.Bytes.sliced b (sliceBounds lo hi none b.size).1 (sliceBounds lo hi none b.size).2.1 1=r.toArray:=by
  refine rT (jc lo hi _ c1 c2) ?_;refine rB c3 ?_
  unfold Builtin.Bytes.sliced
  simp only [Array.getElem?_toList,Array.length_toList]
 refine d9 (typeIs_bytes _ b t) FB.slot_bytes_getitem.lookup (iB hS pl ph rfl ?_ fun t' tk => ?_)
 ·refine rT hsl ?_;refine rT List.size_toArray ?_;exact cq (Kv (wo hr) (Nat.le_succ_of_le hsz))
 ·refine rT hsl ?_;exact aC g ⟨_,rfl⟩
theorem wq {st:Option Int} {cs:Value} {l r:List AV} (hS:s.heap.IsSliceOf sa cl ch cs) (ps:IsPart cs st) (h0:st≠some 0) (hsz:l.length≤1000000) (rx:Rel R ρ (.lst l) cx) (hp:∀ vs:List Value,vs.length=l.length→∃ ix:List Nat,slicePick vs.toArray lo hi st=(ix.filterMap (fun i=>vs[i]?)).toArray∧r=ix.filterMap (fun i=>l[i]?)):EvT A (subscriptTail base slice cx (.ref sa)) R ρ s (.lst r) H:=by
 obtain⟨ad,vs,n,rfl,e1,e2⟩:=rx
 have e1':=g.froz _ _ e1
 obtain⟨ix,h1,h2⟩:=hp vs e2.length
 refine d9 (ay e1').typeIs F.slot_list_getitem.lookup (wpAny_getItem_list_slice (ay e1') hS pl ph ps h0 ?_ (by refine rT List.size_toArray ?_;refine rT e2.length ?_;exact cq (Nat.le_succ_of_le hsz)))
 refine rT h1 ?_;refine rT h2 ?_
 exact kK (o:=aN _ 0) (tk:=s.toks) g rfl fun R' hr' e=>⟨_,_,0,rfl,e,ai.mono hr' (fun _ _ h=>h) _ _ (ye e2 _)⟩
end
theorem AR {l r:List AV} {lo hi:Option Int} (hr:lM l lo hi=some r) (vs:List Value) (hl:vs.length=l.length):∃ ix:List Nat,slicePick vs.toArray lo hi none=(ix.filterMap (fun i=>vs[i]?)).toArray∧r=ix.filterMap (fun i=>l[i]?):=by
 obtain⟨c1,c2,_,_,c3⟩:=mW hr
 refine⟨sliceRange ((lo.elim 0 (bv l.length):Nat):Int) ((hi.elim l.length (bv l.length):Nat):Int) 1,?_,c3.symm⟩
 unfold slicePick
 refine rT List.size_toArray ?_;refine rT hl ?_;refine rT (jc lo hi _ c1 c2) ?_
 simp only [List.getElem?_toArray]
theorem pX (l:List AV):∀ (a:Nat),l.length≤a→b4 7 a l=[]:=by
 induction l with
 |nil=>exact fun a _=>by cases a<;>rfl
 |cons x l ih =>
  intro a ha
  cases a with
  |zero=>cases ha
  |succ a=>exact ih a (Nat.le_of_succ_le_succ ha)
theorem uZ {l:List AV} {k:Int} (h0:0≤k) (vs:List Value) (hl:vs.length=l.length):∃ ix:List Nat,slicePick vs.toArray (some k) none (some 7)=(ix.filterMap (fun i=>vs[i]?)).toArray∧b4 7 k.toNat l=ix.filterMap (fun i=>l[i]?):=by
 refine⟨(List.range ((l.length-bv l.length k+6) / 7)).map fun j=>bv l.length k+7*j,?_,?_⟩
 ·have hb:sliceBounds (some k) none (some 7) l.length=(((bv l.length k:Nat):Int),((l.length:Nat):Int),7):=by
   refine rB (qP l.length h0) ?_;rfl
  unfold slicePick
  refine rT List.size_toArray ?_;refine rT hl ?_;refine rT hb ?_
  dsimp only
  refine rT (kM ..) ?_
  simp only [List.getElem?_toArray]
 ·refine rT List.filterMap_map ?_
  refine Eq.trans ?_ (ya l (bv l.length k)).symm
  unfold bv
  rcases Nat.le_total k.toNat l.length with h|h
  ·exact rT (Nat.min_eq_left h) rfl
  ·refine rT (Nat.min_eq_right h) ?_;refine rT (pX l _ h) ?_;exact rT (pX l _ (KX _)) rfl
theorem Fw {x v:AV} {lo hi st:Option AV} {cx cl ch cs:Value} (base slice:Expr) (g:ag R ρ H s.heap) (rx:Rel R ρ x cx) (rl:Rel R ρ (lo.getD .none) cl) (rh:Rel R ρ (hi.getD .none) ch) (rs:Rel R ρ (st.getD .none) cs) (h:cg x lo hi st=some v) :
  wpAny X.M A (newFields "slice" [cl,ch,cs]) (fun i s'=>wpAny X.M A (subscriptTail base slice cx i) (b5 R ρ s v H) NoE s') NoE s :=
 ob h fun li h1 h=>ob h fun hi' h2 h=>ob h fun si h3 h=>uY g fun s' hS _ g'=>by
  obtain⟨pl,lt,el,el'⟩:=mZ h1 rl
  obtain⟨ph,ht,eh,eh'⟩:=mZ h2 rh
  obtain⟨ps,_⟩:=mZ h3 rs
  cases si with
  |none =>
   cases ps
   exact oe h (fun x h=>oi h fun hsz h=>ob h fun r hr h=>oj h (Dv (lt:=lt) (ht:=ht) g' el' eh' (el▸eh▸hS) hsz hr (ak x.2 rx)))
    fun h=>oe h (fun b h=>oi h fun hsz h=>ob h fun r hr h=>oj h (yf g' pl ph hS hsz hr (ak b.2 rx)))
    fun h=>ob h fun l _ h=>oi h fun hsz h=>ob h fun r hr h=>oj h (wq g' pl ph hS .none nofun hsz (ak l.2 rx) (AR hr))
  |some i =>
   exact oi h fun hc h=>ob h fun l _ h=>ob h fun k hk h=>oi h fun hp h=>oj h (by
    obtain⟨rfl,rfl⟩:=hc
    subst hk
    exact wq g' pl ph hS ps (by decide) hp.2 (ak l.2 rx) (uZ hp.1))
theorem u0 {l:List (Str×AV)} {x:Str} {a:AV} {cv:Value} (ra:Rel R ρ a cv):∀ {kvs:List (Str×Value)},bb R ρ l kvs→(kvs.map (·.1)).Nodup→bb R ρ (dm x a l) (stored kvs x cv):=by
 induction l with
 |nil=>intro kvs r _;cases (show kvs=[] from r);exact⟨cv,[],rfl,ra,rfl⟩
 |cons p l ih =>
  intro kvs r nd
  obtain⟨y,w⟩:=p
  obtain⟨u,kvs,rfl,r1,r2⟩:=r
  have nd:=List.nodup_cons.mp nd
  unfold dm stored
  by_cases hy:y=x
  ·subst hy
   refine rT (if_pos rfl) ?_;refine rT (if_pos (by rw [List.any_cons,decide_eq_true rfl,Bool.true_or])) ?_;refine rT List.map_cons ?_;refine rT (if_pos rfl) ?_
   have keep:∀ kv∈kvs,(if kv.1=y then (kv.1,cv) else kv)=kv:=fun kv hkv=>if_neg (fun e:kv.1=y=>nd.1 (e▸List.mem_map.mpr ⟨kv,hkv,rfl⟩))
   refine rT (List.map_congr_left keep) ?_;refine rT (List.map_id' ..) ?_
   exact⟨cv,kvs,rfl,ra,r2⟩
  ·refine rT (if_neg hy) ?_;refine rT List.any_cons ?_;refine rT (decide_eq_false hy) ?_;refine rT (Bool.false_or ..) ?_
   have ih':=ih r2 nd.2
   unfold stored at ih'
   by_cases hc:(kvs.any fun kv=>decide (kv.1=x))=true
   ·rw [if_pos hc] at ih' ⊢
    refine rT List.map_cons ?_;refine rT (if_neg hy) ?_
    exact⟨u,_,rfl,r1,ih'⟩
   ·rw [if_neg hc] at ih' ⊢
    exact⟨u,_,rfl,r1,ih'⟩
theorem yg {x:Str} {a:AV} (h:noRef a=true) {l:List (Str×AV)}:(l.all fun p=>noRef p.2)=true→((dm x a l).all fun p=>noRef p.2)=true:=by
 induction l with
 |nil=>exact fun _=>by refine (?_:(noRef a&&true)=true);refine rT h ?_;rfl
 |cons p l ih =>
  obtain⟨y,w⟩:=p
  refine fun hl=>bq hl fun h1 h2 => ?_
  unfold dm
  by_cases q:y=x
  ·refine rT (if_pos q) ?_;refine (?_:(noRef a&&_)=true);refine rT h ?_;exact h2
  ·refine rT (if_neg q) ?_;refine (?_:(noRef w&&_)=true);refine rT (show noRef w=true from h1) ?_;exact ih h2
theorem yh {a:AV} (h:noRef a=true) {l:List AV}:∀ {i:Nat},noRef.all l=true→noRef.all (l.set i a)=true:=by
 induction l with
 |nil=>exact fun _=>rfl
 |cons b l ih =>
  intro i hl
  refine bq hl fun h1 h2 => ?_
  cases i with
  |zero=>refine (?_:(noRef a&&_)=true);refine rT h ?_;exact h2
  |succ i=>refine (?_:(noRef b&&_)=true);refine rT h1 ?_;exact ih h2
theorem Fx {l:List (Str×AV)} {kvs:List (Str×Value)} (h:bb R ρ l kvs):kvs.length=l.length:=by
 refine rB (List.length_map (f:=(·.1))) ?_;refine rT h.names ?_;exact rT (List.length_map ..) rfl
theorem Dw {H':AH} {o i x:AV} {co ci cx:Value} (g:ag R ρ H s.heap) (ro:Rel R ρ o co) (ri:Rel R ρ i ci) (rx:Rel R ρ x cx) (h:w6 H o i x=some H') :
  wpAny X.M A (setItem co ci cx) (fun _ s'=>∃ R' ρ',Mv No R ρ s R' ρ' s'∧ag R' ρ' H' s'.heap) NoE s :=
 ob h fun r _ h=>by
 obtain⟨a,rfl,ha⟩:=ak r.2 ro
 refine oe h (fun k h=>ob h fun l _ h=>oi h fun hp h=>oj h ?_) fun h=>ob h fun y _ h=>ob h fun l _ h=>oi h fun hp h=>oj h ?_
 ·obtain⟨t,rfl⟩:=ak k.2 ri
  obtain⟨k0,vs,n,e1,e2⟩:=g.objs _ _ _ l.2 ha
  refine sK e1 hp.1.1.1 (e2.length.symm▸hp.1.1.2) (Int.lt_trans hp.1.1.2 (eI (Nat.le_succ_of_le hp.1.2))) fun h' n' e hs => ?_
  obtain⟨g2,m2⟩:=eF (tk:=s.toks) (ob := .list (l.1.set k.1.toNat x)) g ha ⟨yh hp.2 k0,_,n',e,e2.set rx⟩ fun b o hb e=>hs.extBut b o hb e
  exact⟨R,ρ,m2,g2⟩
 ·obtain⟨t,rfl⟩:=ak y.2 ri
  obtain⟨k0,kvs,e1,e2⟩:=g.objs _ _ _ l.2 ha
  have nd:(kvs.map (·.1)).Nodup:=by obtain⟨_,_,_,_,_,_,_,_,nd⟩:=e1;exact nd
  refine wpAny_setItem_pairs (AQ _ t) e1 (fun h' e hs => ?_) (cq (Fx e2▸KW (Kd hp.1 (by decide))))
  obtain⟨g2,m2⟩:=eF (tk:=s.toks+1) (ob := .dict (dm y.1 x l.1)) g ha ⟨yg hp.2 k0,_,e,u0 rx e2 nd⟩ fun b o hb e=>hs.extBut b o hb e
  exact⟨R,ρ,m2,g2⟩
end
end
end Mine
namespace Mine
open PySem PySem.W PySem.Calls PyProof.Rows
noncomputable section
section
variable {A:Around} {d:Nat} {R:RM} {ρ:List Addr} {s:Shared} {H:AH}
theorem AS {M:Model} {E:Value→Shared→Prop} {tg:Expr} {I:Addr} {v:Value} {o:Obj} {n:String} {vs:Array Value} {Q:Unit→Shared→Prop} (ho:s.heap.get? I=some o) (hc:o.cls = .type n) (hd:o.data = .fields vs)
  (hn:(["enumerate", "zip", "dict_itemiterator", "dict_reverseitemiterator", "odict_iterator", "itertools.zip_longest", "itertools.pairwise"].contains n)=false) (h:Q () s):wpAny M A (letOwnedTupleGo tg (.ref I) v) Q E s:=by
 have key:wpAny M A (do
   let (.ref r,.ref a):=((Value.ref I,v):Value×Value)|return
   let o ← load r
   match o.cls,o.data with
   |.type n,.fields vs =>
    if ["enumerate", "zip", "dict_itemiterator", "dict_reverseitemiterator", "odict_iterator", "itertools.zip_longest", "itertools.pairwise"].contains n&&vs[0]?==some (rawInt a) then
     rule "for.unpacks-the-owned-tuple"
     updateField r 0 .none
   |_,_=>pure ()) Q E s:=by
  cases v<;>try exact JZ h
  refine JX (wpAny_load ho ?_)
  refine rT hc ?_;refine rT hd ?_
  dsimp only
  refine rT hn ?_;refine rT (Bool.false_and ..) ?_
  exact JZ h
 cases tg<;>first|exact JZ h|exact key
theorem jI {I:Addr} {h':Heap} {tk:Nat} (g:ag R ρ H s.heap) (fr:dw [I] R ρ s.heap) (hI:h'.get? I≠none) (k:∀ b o,b∉[I]→s.heap.get? b=some o→h'.get? b=some o) :
  Mv (·∈[I]) R ρ s R ρ { s with heap:=h',toks:=tk }∧ag R ρ H h':=by
 obtain⟨f1,f2,f3⟩:=fr I (by simp)
 have k':∀ b o,b≠I→s.heap.get? b=some o→h'.get? b=some o:=fun b o hb e=>k b o (by simpa using hb) e
 refine⟨(MvS.mv ⟨fun b o e hb hO=>k b o hO e,fun b e => ?_,rfl,rfl⟩),⟨g.base,fun b o e=>k' b o (fun q=>by rw [q,f1] at e;cases e) (g.froz b o e),g.nd,g.off,g.len,fun j o a e1 e2 => ?_⟩⟩
 ·by_cases q:b=I
  ·subst q;exact hI
  ·exact lv (fun o=>k' b o q) e
 ·have ha:a≠I:=fun q=>f2 (q▸KV e2)
  exact (g.objs j o a e1 e2).mono (fun _ _ h=>h) (fun _ _ h=>h) fun ob e=>k' a ob ha e
theorem It.one {I:Addr} {fp:List Addr} {n:Nat} {P:Nat→Value→Prop} {WSt:Nat→Heap→Prop} {l:List AV} {K:RM→List Addr→Prop} {T:String} {tg:Expr} (W:Walks X.prog X.w A I fp [I] n P WSt) (hn:l.length=n) (hfp:∀ b∈fp,b=I∨∃ o,∀ R ρ,K R ρ→R b=some o)
  (hK:∀ R ρ R' ρ',K R ρ→(mu R R')→(oL ρ ρ')→K R' ρ')
  (hP:∀ i a v (R:RM) (ρ:List Addr),l[i]?=some a→P i v→K R ρ→Rel R ρ a v)
  (hT:(["enumerate", "zip", "dict_itemiterator", "dict_reverseitemiterator", "odict_iterator", "itertools.zip_longest", "itertools.pairwise"].contains T)=false)
  (hI:∀ i h,WSt i h→∃ o vs,h.get? I=some o∧o.cls = .type T∧o.data = .fields vs)
  (hself:∀ i h0 (s:Shared) (Q:Value→Shared→Prop),WSt i h0→(∀ o,h0.get? I=some o→s.heap.get? I=some o)→Q (.ref I) s→wpAny X.M A (pyIter (.ref I)) Q NoE s)
  : It A tg (.ref I) l [I] (fun i R ρ h=>K R ρ∧∃ h0,WSt i h0∧(∀ o,h0.get? I=some o→h.get? I=some o)∧∀ b o,(∀ R ρ,K R ρ→R b=some o)→h0.get? b=some o):=by
 have lift:∀ i (R:RM) (ρ:List Addr) H (s:Shared),(K R ρ∧∃ h0,WSt i h0∧(∀ o,h0.get? I=some o→s.heap.get? I=some o)∧∀ b o,(∀ R ρ,K R ρ→R b=some o)→h0.get? b=some o)→ag R ρ H s.heap→WSt i s.heap:=by
  rintro i R ρ H s ⟨k,h0,hw,e1,e2⟩ g
  refine W.frame i h0 s.heap hw fun b hb o e => ?_
  rcases hfp b hb with rfl|hex
  ·exact e1 o e
  ·obtain⟨o2,ho2⟩:=hex
   have:=e2 b o2 ho2
   rw [this] at e;cases e
   exact g.froz b _ (ho2 R ρ k)
 have pack:∀ i (R:RM) (ρ:List Addr) (h:Heap),K R ρ→WSt i h→(∀ b o,R b=some o→h.get? b=some o)→K R ρ∧∃ h0,WSt i h0∧(∀ o,h0.get? I=some o→h.get? I=some o)∧∀ b o,(∀ R ρ,K R ρ→R b=some o)→h0.get? b=some o :=
  fun i R ρ h k hw hf=>⟨k,h,hw,fun _ e=>e,fun b o q=>hf b o (q R ρ k)⟩
 refine⟨fun i R ρ h R' ρ' h' z0 hr hp hk=>by obtain⟨k,h0,a,b,c⟩:=z0;exact⟨hK _ _ _ _ k hr hp,h0,a,fun o e=>hk I (by simp) o (b o e),c⟩,fun i a R ρ H s Q ha st g fr hq => ?_,fun R ρ H s Q st g fr hq => ?_,fun i R ρ s Q st hq => ?_⟩
 ·have hi:i<n:=by refine rB hn ?_;exact (KK.mp ha).1
  refine W.item i s _ NoE hi (lift i R ρ H s st g) fun v h' tk hv hw hk=>⟨v,rfl,?_⟩
  obtain⟨o,vs,e1,e2,e3⟩:=hI _ _ hw
  obtain⟨m,g'⟩:=jI (tk:=tk) g fr (nn e1) hk
  refine AS (s:={ s with heap:=h',toks:=tk }) e1 e2 e3 hT (hq R v _ m g' (pack _ R ρ h' st.1 hw g'.froz) (hP i a v R ρ ha hv st.1))
 ·have hw:=lift _ R ρ H s st g
  rw [hn] at hw
  exact W.done s _ NoE hw fun h' tk hk=>⟨rfl,hq _ ⟨hk,rfl,rfl⟩⟩
 ·obtain⟨k,h0,hw,e1,e2⟩:=st
  exact hself i h0 s Q hw e1 hq
end
section
variable {A:Around} {d:Nat} {R:RM} {ρ:List Addr} {s:Shared} {H:AH}
theorem ee {o:Obj} {tk:Nat} (g:ag R ρ H s.heap) (h:o.isFreed=false):Mv No R ρ s R ρ { s with heap:=s.heap.push o,toks:=tk }∧ag R ρ H (s.heap.push o)∧dw [s.heap.objs.size] R ρ (s.heap.push o)∧(∀ b∈[s.heap.objs.size],s.heap.get? b=none):=by
 have hn:s.heap.get? s.heap.objs.size=none:=by
  cases e:s.heap.get? s.heap.objs.size with
  |none=>rfl
  |some o=>exact absurd (Kw e) (Nat.lt_irrefl _)
 have k:∀ b o',s.heap.get? b=some o'→(s.heap.push o).get? b=some o':=fun b o' e=>Kx _ e
 refine⟨Mv.grow k,g.grow k,fun b hb => ?_,fun b hb => ?_⟩
 ·rw [List.mem_singleton] at hb;subst hb
  exact⟨g.none_of_new hn,g.not_mem_new hn,nn (Kj _ h)⟩
 ·rw [List.mem_singleton] at hb;subst hb;exact hn
theorem Dx (hh:A.handled=none) {tg:Expr} {I ad:Addr} {l:List AV} {vs:List Value} {n:Nat} (hne:ad≠I) (hl:vs.length=l.length) :
  ∃ St,It A tg (.ref I) l [I] St∧∀ (R:RM) (ρ:List Addr) (h:Heap),R ad=some (aN vs n)→ai R ρ l vs→(∀ b o,R b=some o→h.get? b=some o)→h.IsListIter I ad 0→St 0 R ρ h:=by
 refine⟨_,It.one (K:=fun R ρ=>R ad=some (aN vs n)∧ai R ρ l vs) (T := "list_iterator") (Walks.list hh I ad hne vs.toArray) (by simp [hl]) (fun b hb => ?_) (fun R ρ R' ρ' k hr hp=>⟨hr _ _ k.1,ai.mono hr hp _ _ k.2⟩) (fun i a v R ρ ha hv k => ?_) (by decide) (fun i h st => ?_) fun i h0 s Q st hk hq => ?_,fun R ρ h e1 e2 hf hi=>⟨⟨e1,e2⟩,h,⟨hi,ay (hf _ _ e1)⟩,fun _ e=>e,fun b o q=>hf _ _ (q R ρ ⟨e1,e2⟩)⟩⟩
 ·simp only [List.mem_cons,List.not_mem_nil,or_false] at hb
  rcases hb with rfl|rfl
  ·exact .inl rfl
  ·exact .inr ⟨_,fun R ρ k=>k.1⟩
 ·obtain⟨v',e,r⟩:=k.2.get ha
  simp only [List.getElem?_toArray] at hv
  rw [hv] at e;cases e;exact r
 ·obtain⟨⟨o,e,hc,hd⟩,_⟩:=st
  exact⟨o,_,e,hc,hd⟩
 ·exact wpAny_pyIter_listiter (st.1.at hk) hq
theorem AT (hh:A.handled=none) {tg:Expr} {I ad:Addr} {l:List AV} {vs:List Value} {n:Nat} (hne:ad≠I) (hl:vs.length=l.length) :
  ∃ St,It A tg (.ref I) l [I] St∧∀ (R:RM) (ρ:List Addr) (h:Heap),R ad=some (fL vs n)→ai R ρ l vs→(∀ b o,R b=some o→h.get? b=some o)→h.IsTupleIter I ad 0→St 0 R ρ h:=by
 refine⟨_,It.one (K:=fun R ρ=>R ad=some (fL vs n)∧ai R ρ l vs) (T := "tuple_iterator") (Walks.tuple hh I ad hne vs.toArray) (by simp [hl]) (fun b hb => ?_) (fun R ρ R' ρ' k hr hp=>⟨hr _ _ k.1,ai.mono hr hp _ _ k.2⟩) (fun i a v R ρ ha hv k => ?_) (by decide) (fun i h st => ?_) fun i h0 s Q st hk hq => ?_,fun R ρ h e1 e2 hf hi=>⟨⟨e1,e2⟩,h,⟨hi,⟨_,hf _ _ e1,rfl,n,rfl⟩⟩,fun _ e=>e,fun b o q=>hf _ _ (q R ρ ⟨e1,e2⟩)⟩⟩
 ·simp only [List.mem_cons,List.not_mem_nil,or_false] at hb
  rcases hb with rfl|rfl
  ·exact .inl rfl
  ·exact .inr ⟨_,fun R ρ k=>k.1⟩
 ·obtain⟨v',e,r⟩:=k.2.get ha
  simp only [List.getElem?_toArray] at hv
  rw [hv] at e;cases e;exact r
 ·obtain⟨⟨o,e,hc,hd⟩,_⟩:=st
  exact⟨o,_,e,hc,hd⟩
 ·exact wpAny_pyIter_tupleiter (st.1.at hk) hq
theorem Dy {x:AV} {l:List AV} {cx:Value} (tg:Expr) (room:aI A d) (g:ag R ρ H s.heap) (rx:Rel R ρ x cx) (hx:x = .lst l∨x = .tup l):wpAny X.M A (pyIter cx) (ck A tg R ρ s l H) NoE s:=by
 have ne:∀ {ad:Addr} {o:Obj},R ad=some o→ad≠s.heap.objs.size:=fun {ad o} e=>Lq (Kw (g.froz _ _ e))
 rcases hx with rfl|rfl
 ·obtain⟨ad,vs,n,rfl,e1,e2⟩:=rx
  refine wpAny_pyIter_list (ay (g.froz _ _ e1)) ?_
  obtain⟨m,g',fr,hn⟩:=ee (tk:=s.toks) (o:={ cls := .type "list_iterator",data := .fields #[.ref ad,.int 0 0] }) g rfl
  obtain⟨St,W,h0⟩:=Dx (l:=l) (vs:=vs) (n:=n) (tg:=tg) room.h (ne e1) e2.length
  exact⟨R,ρ,[s.heap.objs.size],St,m,g',fr,hn,W,h0 _ _ _ e1 e2 g'.froz ⟨_,Kj _ rfl,rfl,rfl⟩⟩
 ·obtain⟨ad,vs,n,rfl,e1,e2⟩:=rx
  have ht:s.heap.IsTuple ad vs.toArray:=⟨_,g.froz _ _ e1,rfl,n,rfl⟩
  refine wpAny_pyIter_tuple ht ?_
  obtain⟨m,g',fr,hn⟩:=ee (tk:=s.toks) (o:={ cls := .type "tuple_iterator",data := .fields #[.ref ad,.int 0 0] }) g rfl
  obtain⟨St,W,h0⟩:=AT (l:=l) (vs:=vs) (n:=n) (tg:=tg) room.h (ne e1) e2.length
  exact⟨R,ρ,[s.heap.objs.size],St,m,g',fr,hn,W,h0 _ _ _ e1 e2 g'.froz ⟨_,Kj _ rfl,rfl,rfl⟩⟩
theorem u1 {a b:Int} {i:Nat} {x:AV} (h:(az a b)[i]?=some x):x = .int (a+i*1):=by
 unfold az at h
 rw [List.getElem?_map] at h
 obtain⟨j,hj,rfl⟩:=Option.map_eq_some_iff.mp h
 rw [List.getElem?_range (by have:=(List.getElem?_eq_some_iff.mp hj).1;simpa using this)] at hj
 cases hj;simp
theorem u2 {a b:Int}:(az a b).length=(b-a).toNat:=by simp [az]
theorem AU (hh:A.handled=none) {tg:Expr} {I:Addr} {a b:Int} :
  ∃ St,It A tg (.ref I) (az a b) [I] St∧∀ (R:RM) (ρ:List Addr) (h:Heap),IsRangeIter h I a ((b-a).toNat:Int) 1→St 0 R ρ h:=by
 refine⟨_,It.one (K:=fun _ _=>True) (T := "range_iterator") (Walks.range hh I a 1 (b-a).toNat) u2 (fun b hb => .inl (by simpa using hb)) (fun R ρ R' ρ' k hr hp=>trivial) (fun i x v R ρ ha hv k => ?_) (by decide) (fun i h st=>⟨_,_,st,rfl,rfl⟩) fun i h0 s Q st hk hq => ?_,fun R ρ h hi=>⟨trivial,h,?_,fun _ e=>e,fun b o q => ?_⟩⟩
 ·obtain⟨t,rfl⟩:=hv
  refine rT (u1 ha) ?_
  exact⟨t,rfl⟩
 ·exact wpAny_pyIter_rangeiter (hk _ st) hq
 ·simpa using hi
 ·exact absurd (q (fun _=>none) [] trivial) (by simp)
theorem m7 (a b:Int):Builtin.Range.rangeSize a b 1=((b-a).toNat:Int):=by
 refine rT (rangeSize_one ..) ?_;split<;>lia
theorem Hb {a b:Int} (h1 : -1000≤a) (h2:b≤1000):(b-a).toNat≤2000:=by omega
theorem sU {a b:Int} (h1 : -1000≤a) (h2:a≤1000) (h3 : -1000≤b) (h4:b≤1000):Builtin.Range.small a b 1=true :=
 small_one (Int.le_trans (by decide) h1) (Int.lt_of_le_of_lt h2 (by decide)) (Int.le_trans (by decide) h3) (Int.lt_of_le_of_lt h4 (by decide))
theorem sV {args l:List AV} {vs:List Value} {Q:Value→Shared→Prop} (g:ag R ρ H s.heap) (ra:ai R ρ args vs) (h:dZ args=some l)
  (hq:∀ a b t u v o tk,l=az a b→(b-a).toNat≤2000 → -1000≤a→a≤1000 → -1000≤b→b≤1000→o={ cls := .type "range",data := .fields #[.int a t,.int b u,.int 1 v] }→Q (.ref s.heap.objs.size) { s with heap:=s.heap.push o,toks:=tk }):wpAny X.M A (call (.type "range") vs) Q NoE s:=by
 refine oe h (fun x h=>ob h fun n _ h => ?_) fun h=>ob h fun p _ h=>ob h fun a _ h=>ob h fun b _ h => ?_
 ·obtain⟨h0,h⟩:=mH h
  cases h
  rw [x.2,n.2] at ra
  obtain⟨v,_,rfl,⟨t,rfl⟩,rfl⟩:=ra
  exact call_range_1 (hq 0 _ _ _ _ _ _ rfl (Hb (by decide) h0.2) (by decide) (by decide) h0.1 h0.2 rfl)
 ·obtain⟨h0,h⟩:=mH h
  cases h
  rw [p.2,a.2,b.2] at ra
  obtain⟨v,_,rfl,⟨t,rfl⟩,u,_,rfl,⟨t',rfl⟩,rfl⟩:=ra
  exact call_range_2 (hq _ _ _ _ _ _ _ rfl (Hb h0.1.1 h0.2.2) h0.1.1 h0.1.2 h0.2.1 h0.2.2 rfl)
theorem AW {args l:List AV} {vs:List Value} (tg:Expr) (room:aI A d) (g:ag R ρ H s.heap) (ra:ai R ρ args vs) (h:dZ args=some l) :
  wpAny X.M A (call (.type "range") vs) (fun cx s₁=>wpAny X.M A (pyIter cx) (ck A tg R ρ s l H) NoE s₁) NoE s:=by
 refine sV g ra h fun a b t u v o tk hl _ h1 h2 h3 h4 ho => ?_
 subst hl
 have hf:o.isFreed=false:=ho▸rfl
 refine wpAny_pyIter_range (a:=a) (b:=b) (c:=1) (t:=t) (u:=u) (v:=v) ((Kj _ hf).trans (congrArg some ho)) (sU h1 h2 h3 h4) ?_
 obtain⟨m,g',fr,hn⟩:=ee (tk:=tk) (o:=o) g hf
 obtain⟨m2,g2,fr2,hn2⟩:=ee (s:={ s with heap:=s.heap.push o,toks:=tk }) (tk:=tk) (o:={ cls := .type "range_iterator",data := .fields #[rawInt a,rawInt (Builtin.Range.rangeSize a b 1),rawInt 1] }) g' rfl
 obtain⟨St,W,h0⟩:=AU (A:=A) (tg:=tg) (a:=a) (b:=b) room.h
 refine⟨R,ρ,_,St,m.trans m2,g2,fr2,fun c hc => ?_,W,h0 _ _ _ ?_⟩
 ·cases e:s.heap.get? c with
  |none=>rfl
  |some o'=>exact absurd (hn2 c hc) (nn (Kx o e))
 ·have:=Kj (s.heap.push o) (o:={ cls := .type "range_iterator",data := .fields #[rawInt a,rawInt (Builtin.Range.rangeSize a b 1),rawInt 1] }) rfl
  simp only [m7] at this ⊢
  exact this
theorem u3 {a b:Int} {vs:List Value} (h:PySem.ItemsOf (fun (i:Nat) (v:Value)=>∃ t,v=Value.int (a+i*1) t) vs.toArray (b-a).toNat):ai R ρ (az a b) vs:=by
 obtain⟨h1,h2⟩:=h
 have key:∀ (n k:Nat) (vs:List Value),vs.length=n→(∀ i v,vs[i]?=some v→∃ t,v=Value.int (a+((k+i:Nat):Int)) t)→ai R ρ ((List.range' k n).map fun (i:Nat)=>AV.int (a+i)) vs:=by
  intro n
  induction n with
  |zero=>intro k vs hn _;rw [List.length_eq_zero_iff] at hn;subst hn;exact .nil
  |succ n ih =>
   intro k vs hn h
   cases vs with
   |nil=>simp at hn
   |cons v vs =>
    refine rT List.range'_succ ?_;refine rT List.map_cons ?_
    refine .cons ?_ (ih (k+1) vs (by simpa using hn) fun i v hv => ?_)
    ·obtain⟨t,rfl⟩:=h 0 v rfl;exact⟨t,by simp⟩
    ·obtain⟨t,rfl⟩:=h (i+1) v (by exact hv)
     exact⟨t,by congr 2;lia⟩
 unfold az
 refine rT List.range_eq_range' ?_
 refine key _ 0 vs (by exact h1) fun i v hv => ?_
 have hi:i<(b-a).toNat:=by
  have:=(KK.mp hv).1
  have h1':vs.length=(b-a).toNat:=by exact h1
  lia
 obtain⟨t,e⟩:=h2 i v (by simpa using hv)
 exact⟨t,by refine rT e ?_;rfl⟩
theorem yi {args l:List AV} {vs:List Value} (room:aI A d) (g:ag R ρ H s.heap) (ra:ai R ρ args vs) (h:dZ args=some l) :
  wpAny X.M A (call (.type "range") vs) (fun cx s₁=>wpAny X.M A (call (.type "list") [cx]) (b5 R ρ s (.lst l) H) NoE s₁) NoE s:=by
 refine sV g ra h fun a b t u v o tk hl hsz h1 h2 h3 h4 ho => ?_
 subst hl
 have hf:o.isFreed=false:=ho▸rfl
 obtain⟨m,g',fr,hn⟩:=ee (tk:=tk) (o:=o) g hf
 refine call_list_range (a:=a) (b:=b) (c:=1) (t:=t) (u:=u) (v:=v) room.h ((Kj _ hf).trans (congrArg some ho)) (sU h1 h2 h3 h4) (m7 a b) (Kv hsz (by decide)) fun h' tk' acc c' hk hS hacc => ?_
 obtain⟨g2,m2⟩:=dk (O:=No) (s:={ s with heap:=s.heap.push o,toks:=tk }) (tk:=tk') g' (b6 _) hS hk
 exact⟨_,ρ,m.trans m2,g2,_,acc.toList,c',rfl,RM.add_self,u3 (by exact hacc)⟩
end
section
variable {A:Around} {d:Nat} {R:RM} {ρ:List Addr} {s:Shared} {H:AH}
theorem qQ (h:Heap) (n:Nat) (hn:h.objs.size≤n):h.get? n=none:=by
 cases e:h.get? n with
 |none=>rfl
 |some o=>exact absurd (Kw e) (Nat.not_lt.mpr hn)
theorem yj {Fp:List Addr} {h':Heap} {tk:Nat} (g:ag R ρ H s.heap) (fr:dw Fp R ρ s.heap) (hl:∀ b∈Fp,h'.get? b≠none) (k:∀ b o,b∉Fp→s.heap.get? b=some o→h'.get? b=some o) :
  Mv (·∈Fp) R ρ s R ρ { s with heap:=h',toks:=tk }∧ag R ρ H h'∧dw Fp R ρ h':=by
 refine⟨(MvS.mv ⟨fun b o e hb hO=>k b o hO e,fun b e => ?_,rfl,rfl⟩),⟨g.base,fun b o e=>k b o (fun hm=>by rw [(fr b hm).1] at e;cases e) (g.froz b o e),g.nd,g.off,g.len,fun j o a e1 e2 => ?_⟩,fun b hb=>⟨(fr b hb).1,(fr b hb).2.1,hl b hb⟩⟩
 ·by_cases q:b∈Fp
  ·exact hl b q
  ·exact lv (fun o=>k b o q) e
 ·have ha:a∉Fp:=fun q=>(fr a q).2.1 (KV e2)
  exact (g.objs j o a e1 e2).mono (fun _ _ h=>h) (fun _ _ h=>h) fun ob e=>k a ob ha e
theorem RM.add_ne {T b:Addr} {o:Obj} {v:Option Obj} (h:b≠T) (e:R b=v):R.add T o b=v:=(if_neg h).trans e
theorem wr {T b:Addr} {o o':Obj} {G:Prop} (e:R.add T o b=some o') (k1:b=T→o'=o→G) (k2:R b=some o'→G):G:=by
 by_cases h:b=T
 ·exact k1 h (KY ((if_pos h).symm.trans e)).symm
 ·exact k2 ((if_neg h).symm.trans e)
theorem sW {Fp:List Addr} {T:Addr} {o:Obj} {h':Heap} {tk:Nat} (g:ag R ρ H s.heap) (fr:dw Fp R ρ s.heap) (hT:s.heap.get? T=none) (ho:h'.get? T=some o) (hl:∀ b∈Fp,h'.get? b≠none) (k:∀ b o,b∉Fp→s.heap.get? b=some o→h'.get? b=some o) :
  Mv (·∈Fp) R ρ s (R.add T o) ρ { s with heap:=h',toks:=tk }∧ag (R.add T o) ρ H h'∧dw Fp (R.add T o) ρ h':=by
 have hR:=g.none_of_new hT
 have hr:∀ b o',R b=some o'→R.add T o b=some o':=fun b o' e=>RM.add_old e hR
 have hTF:∀ b∈Fp,b≠T:=fun b hb q=>(fr b hb).2.2 (q▸hT)
 obtain⟨m,g',fr'⟩:=yj (tk:=tk) g fr hl k
 refine⟨⟨hr,fun b o' e=>wr e (fun q _ => .inr (q▸hT)) .inl,m.p,m.keep,m.live,rfl,rfl⟩,⟨fun b o' e=>hr b o' (g.base b o' e),fun b o' e=>wr e (fun q z=>by rw [q,z];exact ho) (g'.froz b o'),g.nd,fun b hb=>RM.add_ne (fun q=>g.live hb (q▸hT)) (g.off b hb),g.len,fun i ob b e1 e2=>(g'.objs i ob b e1 e2).mono hr (fun _ _ h=>h) fun ob h=>h⟩,fun b hb=>⟨RM.add_ne (hTF b hb) (fr b hb).1,(fr b hb).2.1,hl b hb⟩⟩
theorem yk {l:List AV}:∀ {n i:Nat} {x:AV},(mn n l)[i]?=some x→∃ a,l[i]?=some a∧x = .tup [.int ((n+i:Nat):Int),a]:=by
 induction l with
 |nil=>intro n i x h;cases i<;>cases h
 |cons a l ih =>
  intro n i x h
  cases i with
  |zero=>exact⟨a,rfl,(KY h).symm⟩
  |succ i =>
   obtain⟨b,h1,h2⟩:=ih h
   exact⟨b,h1,h2.trans (congrArg (fun z:Nat=>AV.tup [.int z,b]) (Kb n 1 i))⟩
theorem yl (l:List AV):∀ n:Nat,(mn n l).length=l.length:=by
 induction l with
 |nil=>exact fun _=>rfl
 |cons a l ih=>exact fun n=>congrArg Nat.succ (ih (n+1))
theorem Fy {P:Addr→Prop} {z a:Addr} (h1:P z) (h2:P a):∀ x∈[z,a],P x :=
 Kk.mpr ⟨h1,Kk.mpr ⟨h2,fun _ h=>nomatch h⟩⟩
theorem Ji {x z a:Addr} {G:Prop} (h:x∉[z,a]) (k:x≠z→x≠a→G):G:=k (fun e=>h (e ▸ .head _)) fun e=>h (e ▸ .tail _ (.head _))
theorem liN {h:Heap} {i l:Addr} {k:Nat}:h.IsListIter i l k→h.get? i≠none:=fun z0=>by obtain⟨_,ho,_⟩:=z0;exact nn ho
structure ESt (e it ad:Addr) (l:List AV) (vs:List Value) (n i:Nat) (R:RM) (ρ:List Addr) (h:Heap):Prop where
 k1:R ad=some (aN vs n)
 k2:ai R ρ l vs
 k3:∃ old,IsEnum h e it i old
 k4:h.IsListIter it ad i
theorem Dz (hh:A.handled=none) {elts:List Expr} {k:Nat} {p:Pos} {e it ad:Addr} {l:List AV} {vs:List Value} {n:Nat} (hne:e≠it) (hl:vs.length=l.length) :
  It A (.Tuple elts k p) (.ref e) (mn 0 l) [e,it] (ESt e it ad l vs n):=by
 refine⟨fun i R ρ h R' ρ' h' st hr hp hk=>⟨hr _ _ st.k1,ai.mono hr hp _ _ st.k2,st.k3.imp fun old=>hk e (.head _) _,st.k4.at (hk it (.tail _ (.head _)))⟩,fun i a R ρ H s Q ha st g fr hq => ?_,fun R ρ H s Q st g fr hq => ?_,fun i R ρ s Q st hq=>st.k3.elim fun _ q=>wpAny_pyIter_enum q hq⟩
 ·obtain⟨old,k3⟩:=st.k3
  obtain⟨b,hb,e'⟩:=yk ha
  subst e'
  obtain⟨v,hv,rv⟩:=st.k2.get hb
  refine wpAny_pyNext_enum_item k3 st.k4 (ay (g.froz _ _ st.k1)) (x:=v) ((List.getElem?_toArray ..).trans hv) hne fun h1 c1 c2 c3 c4 c5=>⟨_,rfl,?_⟩
  refine wpAny_letOwnedTupleGo_enum c1 fun h2 c6 c7 => ?_
  have c2':h2.IsListIter it ad (i+1):=c2.at fun o q=>c7.extBut _ _ (Ne.symm hne) q
  obtain⟨m,g',fr'⟩:=sW (tk:=s.toks+1) (h':=h2) g fr (qQ s.heap _ (KX _)) (c7.extBut _ _ (Nat.ne_of_gt (Kw k3)) c3) (Fy (nn c6) (liN c2')) fun b o hb q=>Ji hb fun z1 z2=>c7.extBut _ _ z1 (c5 _ _ z1 z2 q)
  exact hq _ _ _ m g' ⟨m.r _ _ st.k1,m.relL st.k2,⟨v,c6⟩,c2'⟩ ⟨_,_,0,rfl,RM.add_self,.cons ⟨_,congrArg (fun z:Nat=>Value.int z s.toks) (Nat.zero_add i).symm⟩ (.one (m.rel rv))⟩
 ·obtain⟨old,k3⟩:=st.k3
  exact wpAny_pyNext_enum_end hh k3 st.k4 (ay (g.froz _ _ st.k1)) (by simp [yl,hl]) fun h' hk=>⟨rfl,hq _ ⟨fun b o hb q=>hk _ _ (fun z=>hb (z ▸ .tail _ (.head _))) q,rfl,rfl⟩⟩
theorem DA {l:List AV} {cx:Value} {elts:List Expr} {k:Nat} {p:Pos} (room:aI A d) (g:ag R ρ H s.heap) (rx:Rel R ρ (.lst l) cx) :
  wpAny X.M A (call (.type "enumerate") [cx]) (fun cx s₁=>wpAny X.M A (pyIter cx) (ck A (.Tuple elts k p) R ρ s (mn 0 l) H) NoE s₁) NoE s:=by
 obtain⟨ad,vs,n,rfl,e1,e2⟩:=rx
 refine call_enumerate_1 (g.froz _ _ e1) fun h' c1 c2 c3 c4 => ?_
 have nw:∀ k,s.heap.get? (s.heap.objs.size+k)=none:=fun k=>qQ _ _ (Kf _ k)
 have fz:∀ k,h'.get? (s.heap.objs.size+k)≠none→R (s.heap.objs.size+k)=none∧(s.heap.objs.size+k)∉ρ∧h'.get? (s.heap.objs.size+k)≠none:=fun k l=>⟨g.none_of_new (nw k),g.not_mem_new (nw k),l⟩
 exact wpAny_pyIter_enum c1 ⟨R,ρ,[s.heap.objs.size+1,s.heap.objs.size],_,Mv.grow (tk:=s.toks) c4,g.grow c4,Fy (fz 1 (nn c1)) (fz 0 (liN c2)),Fy (nw 1) (nw 0),Dz (n:=n) room.h (Nat.ne_of_gt (Nat.lt_succ_self _)) e2.length,⟨e1,e2,⟨.none,c1⟩,c2⟩⟩
theorem neP {N j k:Nat} (h:j≠k):@Ne Addr (N+j) (N+k):=fun e=>h (Nat.add_left_cancel e)
theorem neQ {a N k:Nat} (h:a<N):@Ne Addr a (N+k):=Lq (KZ h (Kf ..))
theorem Fz (N a b:Nat) (ha:a<N) (hb:b<N):ZipApart (N+4) (N+2) (N+3) N (N+1) a b:=by
 constructor<;>first|exact neQ ha|exact neQ hb|exact Lq ha|exact Lq hb|(refine neP (k:=0) ?_;decide)|(refine neP (j:=0) ?_;decide)|(refine neP ?_;decide)
theorem FA {P:Addr→Prop} {z a b c d:Addr} (h1:P z) (h2:P a) (h3:P b) (h4:P c) (h5:P d):∀ x∈[z,a,b,c,d],P x :=
 Kk.mpr ⟨h1,Kk.mpr ⟨h2,Kk.mpr ⟨h3,Kk.mpr ⟨h4,Kk.mpr ⟨h5,fun _ h=>nomatch h⟩⟩⟩⟩⟩
theorem Hc {x z a b c d:Addr} {G:Prop} (h:x∉[z,a,b,c,d]) (k:x≠z→x≠b→x≠c→x≠d→G):G :=
 k (fun e=>h (e ▸ .head _)) (fun e=>h (e ▸ .tail _ (.tail _ (.head _)))) (fun e=>h (e ▸ .tail _ (.tail _ (.tail _ (.head _))))) fun e=>h (e ▸ .tail _ (.tail _ (.tail _ (.tail _ (.head _)))))
structure ZSt (z TI TO i1 i2 l1 l2:Addr) (l r:List AV) (vs ws:List Value) (n1 n2 i:Nat) (R:RM) (ρ:List Addr) (h:Heap):Prop where
 k1:R l1=some (aN vs n1)
 k2:ai R ρ l vs
 k3:R l2=some (aN ws n2)
 k4:ai R ρ r ws
 q1:IsZip h z TI TO .none
 q2:IsPair h TI (.ref i1) (.ref i2)
 q3:∃ a b,IsPair h TO a b
 q4:h.IsListIter i1 l1 i
 q5:h.IsListIter i2 l2 i
theorem FC (hh:A.handled=none) {elts:List Expr} {k:Nat} {p:Pos} {z TI TO i1 i2 l1 l2:Addr} {l r:List AV} {vs ws:List Value} {n1 n2:Nat} (D:ZipApart z TI TO i1 i2 l1 l2) (hv:vs.length=l.length) (hlr:l.length=r.length) :
  It A (.Tuple elts k p) (.ref z) ((l.zip r).map fun p => .tup [p.1,p.2]) [z,TI,TO,i1,i2] (ZSt z TI TO i1 i2 l1 l2 l r vs ws n1 n2):=by
 refine⟨fun i R ρ h R' ρ' h' st hr hp hk=>⟨hr _ _ st.k1,ai.mono hr hp _ _ st.k2,hr _ _ st.k3,ai.mono hr hp _ _ st.k4,hk z (.head _) _ st.q1,hk TI (.tail _ (.head _)) _ st.q2,st.q3.imp fun a q=>q.imp fun b=>hk TO (.tail _ (.tail _ (.head _))) _,st.q4.at (hk i1 (.tail _ (.tail _ (.tail _ (.head _))))),st.q5.at (hk i2 (.tail _ (.tail _ (.tail _ (.tail _ (.head _))))))⟩,
  fun i a R ρ H s Q ha st g fr hq => ?_,fun R ρ H s Q st g fr hq => ?_,fun i R ρ s Q st hq=>wpAny_pyIter_zip st.q1 hq⟩
 ·obtain⟨p,hxy,e⟩:=Option.map_eq_some_iff.mp (List.getElem?_map.symm.trans ha)
  subst e
  obtain⟨hx,hy⟩:=List.getElem?_zip_eq_some.mp hxy
  obtain⟨v,hv',rv⟩:=st.k2.get hx
  obtain⟨u,hu',ru⟩:=st.k4.get hy
  obtain⟨a0,b0,q3⟩:=st.q3
  refine wpAny_pyNext_zip_item D st.q1 st.q2 q3 st.q4 st.q5 (ay (g.froz _ _ st.k1)) (ay (g.froz _ _ st.k3)) (x:=v) (y:=u) ((List.getElem?_toArray ..).trans hv') ((List.getElem?_toArray ..).trans hu') fun h1 c1 c2 c3 c4 c5 c6 c7=>⟨_,rfl,?_⟩
  refine wpAny_letOwnedTupleGo_zip c1 fun h2 c8 c9 => ?_
  have d2:=c9.extBut _ _ D.TOz c2
  have d3:h2.IsListIter i1 l1 (i+1):=c3.at fun o q=>c9.extBut _ _ D.i1z q
  have d4:h2.IsListIter i2 l2 (i+1):=c4.at fun o q=>c9.extBut _ _ D.i2z q
  have d5:=c9.extBut _ _ D.TIz (c7 _ _ D.TIz D.TITO D.TIi1 D.TIi2 st.q2)
  obtain⟨m,g',fr'⟩:=sW (tk:=s.toks) (h':=h2) g fr (qQ s.heap _ (KX _)) (c9.extBut _ _ (Nat.ne_of_gt (Kw st.q1)) c5) (FA (nn c8) (nn d5) (nn d2) (liN d3) (liN d4)) fun b o hb q=>Hc hb fun z1 z2 z3 z4=>c9.extBut _ _ z1 (c7 _ _ z1 z2 z3 z4 q)
  exact hq _ _ _ m g' ⟨m.r _ _ st.k1,m.relL st.k2,m.r _ _ st.k3,m.relL st.k4,c8,d5,⟨_,_,d2⟩,d3,d4⟩ ⟨_,[v,u],0,rfl,RM.add_self,.cons (m.rel rv) (.one (m.rel ru))⟩
 ·obtain⟨a0,b0,q3⟩:=st.q3
  exact wpAny_pyNext_zip_end hh D st.q1 st.q2 q3 st.q4 st.q5 (ay (g.froz _ _ st.k1)) (ay (g.froz _ _ st.k3)) (.inl (by simp [hv,hlr])) fun h' hk=>⟨rfl,hq _ ⟨fun b o hb q=>Hc hb fun z1 z2 z3 z4=>hk _ _ z1 z2 z3 z4 q,rfl,rfl⟩⟩
theorem FD {l r:List AV} {cx cy:Value} {elts:List Expr} {k:Nat} {p:Pos} (room:aI A d) (g:ag R ρ H s.heap) (rx:Rel R ρ (.lst l) cx) (ry:Rel R ρ (.lst r) cy) (hlen:l.length=r.length) :
  wpAny X.M A (call (.type "zip") [cx,cy]) (fun cx s₁=>wpAny X.M A (pyIter cx) (ck A (.Tuple elts k p) R ρ s ((l.zip r).map fun p => .tup [p.1,p.2]) H) NoE s₁) NoE s:=by
 obtain⟨ad,vs,n,rfl,e1,e2⟩:=rx
 obtain⟨ad',ws,n',rfl,f1,f2⟩:=ry
 refine call_zip_2 (ay (g.froz _ _ e1)) (ay (g.froz _ _ f1)) fun h' c1 c2 c3 c4 c5 c6 c7 => ?_
 have nw:∀ k,s.heap.get? (s.heap.objs.size+k)=none:=fun k=>qQ _ _ (Kf _ k)
 have fz:∀ k,h'.get? (s.heap.objs.size+k)≠none→R (s.heap.objs.size+k)=none∧(s.heap.objs.size+k)∉ρ∧h'.get? (s.heap.objs.size+k)≠none:=fun k l=>⟨g.none_of_new (nw k),g.not_mem_new (nw k),l⟩
 exact wpAny_pyIter_zip c1 ⟨R,ρ,[s.heap.objs.size+4,s.heap.objs.size+2,s.heap.objs.size+3,s.heap.objs.size,s.heap.objs.size+1],_,Mv.grow (tk:=s.toks) c7,g.grow c7,FA (fz 4 (nn c1)) (fz 2 (nn c2)) (fz 3 (nn c3)) (fz 0 (liN c4)) (fz 1 (liN c5)),FA (nw 4) (nw 2) (nw 3) (nw 0) (nw 1),
  FC (n1:=n) (n2:=n') room.h (Fz _ _ _ (Kw (g.froz _ _ e1)) (Kw (g.froz _ _ f1))) e2.length hlen,⟨e1,e2,f1,f2,c1,c2,⟨_,_,c3⟩,c4,c5⟩⟩
end
noncomputable def f5 (M i:Nat):Nat:=(i*5+1) % M
noncomputable def f5N (M:Nat):Nat→Nat→Nat
 |0,i=>i
 |n+1,i=>f5N M n (f5 M i)
theorem l9 (M:Nat):∀ (a b i:Nat),f5N M (a+b) i=f5N M b (f5N M a i)
 |0,b,i=>by refine rT (Nat.zero_add ..) ?_;rfl
 |a+1,b,i=>by refine rT (Nat.succ_add ..) ?_;exact l9 M a b (f5 M i)
noncomputable def b3 (M:Nat):Bool:=(List.range M).all (fun j=>(List.range M).any fun m=>f5N M m 0==j)&&f5N M M 0==0
theorem u4:b3 128=true:=by decide +kernel
theorem ym:b3 64=true:=by decide +kernel
theorem yn:b3 32=true:=by decide +kernel
theorem yo:b3 16=true:=by decide +kernel
theorem sX:b3 8=true:=by decide +kernel
theorem DB {M:Nat} (h:b3 M=true) {i j:Nat} (hi:i<M) (hj:j<M):∃ m,m<M∧f5N M m i=j:=by
 unfold b3 at h
 simp only [Bool.and_eq_true,List.all_eq_true,List.mem_range,List.any_eq_true,beq_iff_eq] at h
 obtain⟨h1,h2⟩:=h
 obtain⟨a,ha,ea⟩:=h1 i hi
 obtain⟨b,hb,eb⟩:=h1 j hj
 by_cases hab:a≤b
 ·refine⟨b-a,KQ (Nat.sub_le _ _) hb,?_⟩
  rw [← ea,← l9,show a+(b-a)=b from Nat.add_sub_of_le hab,eb]
 ·refine⟨M-a+b,Nat.lt_of_lt_of_eq (Nat.add_lt_add_left (Nat.lt_of_not_le hab) (M-a)) (Nat.sub_add_cancel (KW ha)),?_⟩
  rw [← ea,← l9,show a+(M-a+b)=M+b from (Nat.add_assoc a (M-a) b).symm.trans (congrArg (·+b) (Nat.add_sub_of_le (Nat.le_of_lt ha))),l9,h2,eb]
open SetTable in
noncomputable def eK (mask:Nat):Nat→Nat×Nat→Nat×Nat
 |0,p=>p
 |n+1,p=>eK mask n (leap mask p.1 p.2)
theorem pY (mask:Nat):∀ (a b:Nat) (p:Nat×Nat),eK mask (a+b) p=eK mask b (eK mask a p)
 |0,b,p=>by refine rT (Nat.zero_add ..) ?_;rfl
 |a+1,b,p=>by refine rT (Nat.succ_add ..) ?_;exact pY mask a b _
theorem pZ (mask:Nat):∀ (n:Nat) (p:Nat×Nat),(eK mask n p).2=p.2 / 32 ^ n
 |0,p=>by simp [eK]
 |n+1,p=>by
  rewrite [eK];refine rT (pZ mask n ..) ?_;rewrite [SetTable.leap]
  refine rT (Nat.div_div_eq_div_mul ..) ?_;refine rT (Nat.pow_succ ..) ?_;exact rT (Nat.mul_comm ..) rfl
theorem sY (mask:Nat):∀ (n:Nat) (p:Nat×Nat),p.1<mask+1→(eK mask n p).1<mask+1
 |0,p,h=>h
 |n+1,p,_=>sY mask n _ (Nat.mod_lt _ (Nat.succ_pos _))
theorem m8 (mask:Nat):∀ (n i:Nat),(eK mask n (i,0)).1=f5N (mask+1) n i
 |0,i=>rfl
 |n+1,i=>by
  rw [eK,f5N]
  have:SetTable.leap mask i 0=(f5 (mask+1) i,0):=by rfl
  refine rT this ?_;exact m8 mask n _
theorem yp (mask:Nat) (owner:Array (Option Nat)) (fuel:Nat):∀ (i p:Nat),(∃ m,m<fuel∧(owner.getD (eK mask m (i,p)).1 (some 0)).isNone=true) →
  ∃ j,SetTable.layClean.free mask owner fuel i p=some j∧owner[j]?=some none:=by
 induction fuel with
 |zero=>exact fun _ _ z=>z.elim fun m h=>absurd h.1 (Nat.not_lt_zero _)
 |succ fuel ih =>
  intro i p z
  obtain⟨m,hm,h⟩:=z
  unfold SetTable.layClean.free
  split
  ·rename_i k hk
   refine⟨i+k,rfl,?_⟩
   have:=List.find?_some hk
   simp only [Array.getD_eq_getD_getElem?] at this
   cases q:owner[i+k]? with
   |none=>rw [q] at this;simp at this
   |some o=>rw [q] at this;cases o with
    |none=>rfl
    |some x=>simp at this
  ·rename_i hk
   cases m with
   |zero =>
    have:=List.find?_eq_none.mp hk 0 (by refine rP List.mem_range ?_;unfold SetTable.runEnd;split<;>grind)
    rw [Nat.add_zero] at this
    exact absurd h this
   |succ m=>exact ih _ _ ⟨m,Nat.lt_of_succ_lt_succ hm,h⟩
theorem AX {mask:Nat} (hM:b3 (mask+1)=true) {owner:Array (Option Nat)} {i p j:Nat} (hi:i<mask+1) (hp:p<2 ^ 64) (hj:j<mask+1) (ho:owner[j]?=some none) :
  ∃ j,SetTable.layClean.free mask owner (SetTable.turns mask) i p=some j∧owner[j]?=some none:=by
 refine yp mask owner _ _ _ ?_
 have h13:(eK mask 13 (i,p)).2=0:=by
  refine rT (pZ ..) ?_
  exact Nat.div_eq_of_lt (KZ hp (by decide))
 obtain⟨m,hm,e⟩:=DB hM (sY mask 13 (i,p) hi) hj
 refine⟨13+m,by unfold SetTable.turns;lia,?_⟩
 refine rT (pY ..) ?_
 have:eK mask 13 (i,p)=((eK mask 13 (i,p)).1,0):=by exact rB h13 rfl
 refine rT this ?_;refine rT (m8 ..) ?_;refine rT e ?_;refine rT Array.getD_eq_getD_getElem? ?_;refine rT ho ?_
 rfl
theorem AY {l:List (Option Nat)} {k:Nat}:∀ {j:Nat},l[j]?=some none→List.Perm ((l.set j (some k)).filterMap id) (k::l.filterMap id):=by
 induction l with
 |nil=>intro j h;simp at h
 |cons o l ih =>
  intro j h
  cases j with
  |zero=>simp only [List.getElem?_cons_zero,Option.some.injEq] at h;subst h;rfl
  |succ j =>
   have h':=ih (j:=j) (by simpa using h)
   refine rT List.set_cons_succ ?_
   cases o with
   |none=>exact h'
   |some x=>simp only [List.filterMap_cons,id];exact (h'.cons x).trans (List.Perm.swap ..)
theorem m9:∀ (l:List (Option Nat)),(l.filterMap id).length<l.length→∃ j,j<l.length∧l[j]?=some none
 |[],h=>by simp at h
 |none::l,_=>⟨0,by simp,rfl⟩
 |some x::l,h=>by
  obtain⟨j,h1,h2⟩:=m9 l (by simpa using h)
  exact⟨j+1,by simpa using h1,by exact h2⟩
theorem AZ {mask:Nat} (hM:b3 (mask+1)=true) (hs:List Int):∀ (owner:Array (Option Nat)) (k:Nat),owner.size=mask+1→List.Perm (owner.toList.filterMap id) (List.range k)→k+hs.length≤mask →
  ∃ owner',(hs.foldl (init:=some (owner,k)) fun (acc:Option (Array (Option Nat)×Nat)) h=>do
   let (owner,k) ← acc
   let j ← SetTable.layClean.free mask owner (SetTable.turns mask) (SetTable.bits h % (mask+1)) (SetTable.bits h)
   pure (owner.setIfInBounds j (some k),k+1))=some (owner',k+hs.length)∧owner'.size=mask+1∧List.Perm (owner'.toList.filterMap id) (List.range (k+hs.length)):=by
 induction hs with
 |nil=>exact fun owner k h1 h2 _=>⟨owner,rfl,h1,h2⟩
 |cons h hs ih =>
  intro owner k h1 h2 h3
  rw [List.length_cons] at h3
  obtain⟨j0,hj0,ho0⟩:=m9 owner.toList (by refine rT h2.length_eq ?_;refine rT List.length_range ?_;refine rT Array.length_toList ?_;exact Nat.lt_of_lt_of_eq (Nat.lt_succ_of_le (Kv (Kf k _) h3)) h1.symm)
  rw [Array.getElem?_toList] at ho0
  have hb:SetTable.bits h<2 ^ 64:=by
   unfold SetTable.bits
   have h1:=Int.emod_nonneg h (show (2 ^ 64:Int)≠0 by decide)
   exact (Int.toNat_lt h1).mpr (Int.emod_lt_of_pos h (show (0:Int)<2 ^ 64 by decide))
  obtain⟨j,e,ho⟩:=AX hM (i:=SetTable.bits h % (mask+1)) (Nat.mod_lt _ (Nat.succ_pos _)) hb (by refine rB h1 ?_;refine rB Array.length_toList ?_;exact hj0) ho0
  refine rT List.foldl_cons ?_
  simp only [bind,Option.bind_some,e,pure]
  have hp:List.Perm ((owner.setIfInBounds j (some k)).toList.filterMap id) (List.range (k+1)):=by
   refine rT Array.toList_setIfInBounds ?_
   refine (AY (by refine rT Array.getElem?_toList ?_;exact ho)).trans ?_
   refine rT List.range_succ ?_
   exact (h2.cons k).trans (List.perm_append_singleton k _).symm
  obtain⟨o',a,b,c⟩:=ih (owner.setIfInBounds j (some k)) (k+1) (by simpa using h1) hp (Kv (Kh (Kb k 1 hs.length)) h3)
  refine⟨o',?_,b,?_⟩
  ·rw [List.length_cons,show k+(hs.length+1)=k+1+hs.length from (Nat.add_right_comm k 1 hs.length).symm];exact a
  ·rw [List.length_cons,show k+(hs.length+1)=k+1+hs.length from (Nat.add_right_comm k 1 hs.length).symm];exact c
theorem A0 {mask finger moves:Nat} {led plain:Bool} {hashes:Array Int} {n:Nat} (h:∃ t order,SetTable.laid mask finger moves led plain hashes=some (t,order)∧List.Perm order.toList (List.range n)∧t.fits n=true∧t.mask=mask∧t.dummies=#[]∧t.led=led) :
  ∃ t order,SetTable.laid mask finger moves led plain hashes=some (t,order)∧List.Perm order.toList (List.range n)∧t.fits n=true∧t.mask=mask∧t.dummies=#[]∧t.led=led∧de t.place:=by
 obtain⟨t,order,a,b,c,d,e,f⟩:=h
 exact⟨t,order,a,b,c,d,e,f,pE a⟩
theorem qR {mask:Nat} (hM:b3 (mask+1)=true) {finger moves:Nat} {led plain:Bool} {hashes:Array Int} (hn:hashes.size≤mask) :
  ∃ t order,SetTable.laid mask finger moves led plain hashes=some (t,order)∧List.Perm order.toList (List.range hashes.size)∧t.fits hashes.size=true∧t.mask=mask∧t.dummies=#[]∧t.led=led∧de t.place:=by
 refine A0 ?_
 unfold SetTable.laid SetTable.layClean
 obtain⟨o',a,b,c⟩:=AZ hM hashes.toList (Array.replicate (mask+1) none) 0 (by simp) (by simp [List.filterMap_replicate_of_none]) (by simpa using hn)
 refine rB (Array.foldl_toList ..) ?_
 have a':=a
 refine rT a' ?_
 have hlist:((List.range (mask+1)).filterMap fun j=>(o'.getD j none).map (j,·)).map (·.2)=o'.toList.filterMap id:=by
  refine rT List.map_filterMap ?_
  have:∀ (l:List (Option Nat)),(List.range l.length).filterMap (fun j=>Option.map (·.2) ((l[j]?.getD none).map ((j,·):Nat→Nat×Nat)))=l.filterMap id:=by
   intro l
   induction l with
   |nil=>rfl
   |cons x l ih =>
    refine rT List.length_cons ?_;refine rT List.range_succ_eq_map ?_;refine rT List.filterMap_cons ?_;refine rT List.filterMap_map ?_
    have e:((fun j=>Option.map (fun p:Nat×Nat=>p.2) (((x::l)[j]?.getD none).map ((j,·):Nat→Nat×Nat)))∘Nat.succ)=fun j=>Option.map (·.2) ((l[j]?.getD none).map ((j,·):Nat→Nat×Nat)):=by
     funext j;simp only [Function.comp,Nat.succ_eq_add_one,List.getElem?_cons_succ,Option.map_map];cases l[j]?.getD none<;>rfl
    refine rT e ?_;refine rT ih ?_
    cases x<;>rfl
  have h2:=this o'.toList
  rw [Array.length_toList,b] at h2
  refine rB h2 ?_
  exact congrArg (fun f=>List.filterMap f (List.range (mask+1))) (funext fun j=>by refine rT Array.getD_eq_getD_getElem? ?_;exact rT Array.getElem?_toList rfl)
 refine⟨_,_,rfl,?_,?_,rfl,rfl,rfl⟩
 ·simp only [hlist]
  simpa using c
 ·unfold SetTable.fits SetTable.fill
  have hlen:((List.range (mask+1)).filterMap fun j=>(o'.getD j none).map (j,·)).length=hashes.size:=by
   have h1:=congrArg List.length hlist
   rw [List.length_map,c.length_eq,List.length_range] at h1
   simpa using h1
  simp only [List.size_toArray,List.length_map,hlen,Bool.and_eq_true,beq_iff_eq,decide_eq_true_eq,true_and]
  exact hn
theorem jd {α:Type} {es:Array α} {order:Array Nat} (h:List.Perm order.toList (List.range es.size)):List.Perm (order.filterMap (es[·]?)).toList es.toList:=by
 refine rT Array.toList_filterMap ?_
 exact (h.filterMap _).trans (by rw [filterMap_getElem?_range])
theorem DC {t:SetTable} {n:Nat} (h:t.fits n=true):t.place.size=n∧t.place.size+t.dummies.size≤t.mask:=((Bool.and_eq_true ..).mp h).imp eq_of_beq of_decide_eq_true
theorem Hd {t:SetTable} {n:Nat} (h1:t.place.size=n) (h2:t.place.size+t.dummies.size≤t.mask):t.fits n=true:=(Bool.and_eq_true ..).mpr ⟨beq_iff_eq.mpr h1,decide_eq_true h2⟩
theorem je {α:Type}:∀ {l:List α} {i:Nat} (h:i<l.length),List.Perm (l[i]::l.eraseIdx i) l
 |a::l,0,_=>by simp
 |a::l,i+1,h=>by
  have:=je (l:=l) (i:=i) (by simpa using h)
  exact (List.Perm.swap ..).trans (this.cons a)
theorem wt {α:Type} (next:Nat→Nat):∀ (fuel k:Nat) (left:List α) (out:Array α),fuel=left.length→List.Perm (pickOrder.go next fuel k left out).toList (out.toList++left)
 |0,k,left,out,h=>by
  have:left=[]:=List.length_eq_zero_iff.mp h.symm
  subst this
  unfold pickOrder.go
  simp
 |fuel+1,k,left,out,h=>by
  unfold pickOrder.go
  have hlt:next k % left.length<left.length:=Nat.mod_lt _ (h▸Nat.succ_pos fuel)
  refine rT (Ky hlt) ?_
  refine (wt next fuel (k+1) _ _ (by refine rT (List.length_eraseIdx_of_lt hlt) ?_;exact congrArg Nat.pred h)).trans ?_
  refine rT Array.toList_push ?_;refine rT (List.append_assoc ..) ?_
  exact List.Perm.append_left _ (je hlt)
theorem p5 {α:Type} (next:Nat→Nat) (xs:Array α):List.Perm (pickOrder next xs).toList xs.toList:=by
 unfold pickOrder
 simpa using wt next xs.size 0 xs.toList #[] (by simp)
theorem qS:∀ w,w<128→(SetTable.sizeAbove w=8∨SetTable.sizeAbove w=16∨SetTable.sizeAbove w=32∨SetTable.sizeAbove w=64∨SetTable.sizeAbove w=128)∧w<SetTable.sizeAbove w:=by decide +kernel
theorem iI {w:Nat} (h:w<128):b3 (SetTable.sizeAbove w-1+1)=true∧w≤SetTable.sizeAbove w-1∧SetTable.sizeAbove w≤128:=by
 obtain⟨h1,h2⟩:=qS w h
 rcases h1 with e|e|e|e|e<;>rw [e] at h2 ⊢<;>refine⟨?_,Nat.le_sub_one_of_lt h2,by decide⟩
 ·exact sX
 ·exact yo
 ·exact yn
 ·exact ym
 ·exact u4
section
variable {prog:Program} {w:World} {K:Type} [DecidableEq K] {knd:KeyKind prog w K}
variable {A:Around} {E:Value→Shared→Prop} {s:Shared}
theorem na {α β:Type} {f:α→β→Sem (ForInStep β)} {b:β} {Q:β→Shared→Prop}:∀ (l:List α) (s:Shared),(∀ x∈l,∀ (s:Shared) (Q':ForInStep β→Shared→Prop),Q' (.yield b) s→wpAny (model prog w) A (f x b) Q' E s)→Q b s→wpAny (model prog w) A (forIn l b f) Q E s
 |[],s,_,h=>by refine rT List.forIn_nil ?_;exact JZ h
 |x::l,s,hf,h=>by
  refine rT (List.forIn_cons ..) ?_
  exact JX (hf x (.head _) s _ (na l s (fun y hy=>hf y (.tail _ hy)) h))
theorem ig {α β:Type} {f:α→β→Sem (ForInStep β)} {b:β} (I:List α→Shared→Prop) (hf:∀ (x:α) (l:List α) (s:Shared),I (x::l) s→wpAny (model prog w) A (f x b) (fun r s'=>r = .yield b∧I l s') E s):∀ (l:List α) (s:Shared),I l s→wpAny (model prog w) A (forIn l b f) (fun r s'=>r=b∧I [] s') E s
 |[],s,h=>by refine rT List.forIn_nil ?_;exact JZ ⟨rfl,h⟩
 |x::l,s,h=>by
  refine rT (List.forIn_cons ..) ?_
  refine JX (Kq (hf x l s h) (fun r s' h' => ?_) fun _ _ e=>e)
  obtain⟨rfl,h'⟩:=h'
  exact ig I hf l s' h'
noncomputable def A1 (knd:KeyKind prog w K) (h:Heap) (a:Addr):Prop:=∃ c es ep t ns,h.get? a=some (aj c es ep t)∧au knd es t ns
theorem u5 {l:List Addr} {Q:Bool→Shared→Prop} (hl:∀ a∈l,A1 knd s.heap a) (h:Q true s):wpAny (model prog w) A (setsQuiet l) Q E s:=by
 refine JX (Kq (Q:=fun (r:Option Bool×PUnit) s'=>r.1=none∧s'=s) ?_ ?_ fun _ _ e=>e)
 ·have go:∀ (l:List Addr),(∀ a∈l,A1 knd s.heap a)→∀ {f:Addr→Option Bool×PUnit→Sem (ForInStep (Option Bool×PUnit))},(∀ a,A1 knd s.heap a→wpAny (model prog w) A (f a (none,PUnit.unit)) (fun r s'=>r = .yield (none,PUnit.unit)∧s'=s) E s)→wpAny (model prog w) A (forIn l (none,PUnit.unit) f) (fun r s'=>r.1=none∧s'=s) E s:=by
   intro l
   induction l with
   |nil=>intro _ f _;refine rT List.forIn_nil ?_;exact JZ ⟨rfl,rfl⟩
   |cons a l ih =>
    intro ha f hf
    refine rT (List.forIn_cons ..) ?_
    refine JX (Kq (hf a (ha a (.head _))) (fun r s' h' => ?_) fun _ _ e=>e)
    obtain⟨rfl,rfl⟩:=h'
    exact ih (fun b hb=>ha b (.tail _ hb)) hf
  refine go l hl fun a ⟨c,es,ep,t,ns,ho,D⟩ => ?_
  refine JX (wpAny_setEntries_of ho rfl D.fit ?_)
  refine rB Array.forIn_toList ?_
  refine JX (na es.toList s (fun x hx s' Q' hq => ?_) (JZ ⟨rfl,rfl⟩))
  obtain⟨h,x⟩:=x
  have hs:=(D.el _ hx).2
  cases x<;>first|exact JZ hq|exact absurd hs (by simp [Value.scannable])
 ·rintro⟨r1,r2⟩ s' ⟨rfl,rfl⟩
  exact JZ h
theorem gI {a f:Addr} {c cf:String} {es ef:Array (Int×Value)} {ep epf:Nat} {t tf:SetTable} {ns nf:List K} {b:Bool} {Q:Array (Int×Value)→Shared→Prop}
  (ha:s.heap.get? a=some (aj c es ep t)) (D:au knd es t ns) (hf:s.heap.get? f=some (aj cf ef epf tf)) (Df:au knd ef tf nf)
  (h:∀ ws epf' tf',List.Perm ws.toList es.toList→au knd ef tf' nf→(b=false→epf'=epf∧tf'=tf)→Q ws { s with heap:=s.heap.update f fun _=>aj cf ef epf' tf' }) :
  wpAny (model prog w) A (setWalkUnseen a [f] (if b then some f else none)) Q E s:=by
 have same:∀ ws,List.Perm ws.toList es.toList→Q ws s:=fun ws hp=>by
  have:=h ws epf tf hp Df fun _=>⟨rfl,rfl⟩
  rw [d0 hf] at this;exact this
 refine JX (wpAny_setState_of ha rfl D.fit ?_)
 refine JX (JX (wpAny_askSetting (JZ ?_)))
 dsimp only
 split
 ·rename_i hb'
  refine JX (wpAny_setState_of ha rfl D.fit ?_)
  refine JX ?_
  refine JX (wpAny_askSetting (JZ ?_))
  split
  ·exact JX (wpAny_askSetting (JZ (same _ (p5 _ _))))
  ·rename_i hB
   simp only [Bool.or_eq_true,Bool.and_eq_true,decide_eq_true_eq] at hb'
   have h1:(!t.plain&&decide (es.size>1))=false:=by
    rcases hb' with (q|⟨_,q⟩)|q
    ·exact absurd q hB
    ·refine rT q ?_;rfl
    ·have:¬ es.size>1:=by lia
     simp [this]
   have h2:(!t.led&&decide (es.size>1))=false:=by
    rcases hb' with (q|⟨q,_⟩)|q
    ·exact absurd q hB
    ·refine rT q ?_;rfl
    ·have:¬ es.size>1:=by lia
     simp [this]
   refine (?_:wpAny _ _ (if (!t.plain&&decide (es.size>1))=true then _ else ((if (!t.led&&decide (es.size>1))=true then unsupported "set:maker-not-led" else pure ()) >>= fun _=>pure es)) _ _ _)
   refine rT h1 ?_;refine rT h2 ?_
   exact JZ (same _ (List.Perm.refl _))
 ·refine JX (u5 (knd:=knd) (fun x hx => ?_) ?_)
  ·simp only [List.mem_cons,List.not_mem_nil,or_false] at hx
   rcases hx with rfl|rfl
   ·exact⟨_,_,_,_,_,ha,D⟩
   ·exact⟨_,_,_,_,_,hf,Df⟩
  ·simp only [Bool.not_true,Bool.false_eq_true,if_false]
   refine JX (wpAny_rule ?_)
   cases b with
   |false=>exact JZ (same _ (List.Perm.refl _))
   |true =>
    refine JX (wpAny_setState_of hf rfl Df.fit ?_)
    dsimp only
    split
    ·have hfit:SetTable.fits { tf with led:=tf.led&&t.led,plain:=tf.plain&&t.plain } ef.size=true:=Df.fit
     refine JX (dj hf Df.b (JZ ?_))
     exact h es _ _ (List.Perm.refl _) (Df.perm (List.Perm.refl _) hfit (by
      rcases Df.led with q|q
      ·exact .inl q
      ·rcases D.led with q'|q'
       ·exact .inl q'
       ·exact .inr (by refine (?_:(tf.led&&t.led)=true);refine rT q ?_;refine rT q' ?_;rfl)) Df.rise) fun q=>by cases q
    ·exact JZ (same _ (List.Perm.refl _))
theorem sZ {a:Addr} {c:String} {es:Array (Int×Value)} {ep more:Nat} {t:SetTable} {ns:List K} {Q:Unit→Shared→Prop} (ho:s.heap.get? a=some (aj c es ep t)) (D:au knd es t ns) (hm:es.size+more<64)
  (h:∀ es' ep' t',au knd es' t' ns→List.Perm es'.toList es.toList→((t'=t∧more*5<t.mask*3)∨(t'.fill=es.size∧b3 (t'.mask+1)=true∧more≤t'.mask))→Q () { s with heap:=s.heap.update a fun _=>aj c es' ep' t' }) :
  wpAny (model prog w) A (setRoomFor a more) Q E s:=by
 refine JX (wpAny_setState_of ho rfl D.fit ?_)
 have hfit:=DC D.fit
 unfold SetTable.roomFor
 dsimp only
 split
 ·rename_i wanted hw
  split at hw
  ·cases hw
   refine JX (wpAny_setState_of ho rfl D.fit ?_)
   dsimp only
   have hlt:(t.place.size+more)*2<128:=Nat.mul_lt_mul_of_pos_right (hfit.1▸hm) (by decide)
   obtain⟨hM,hle,hmax⟩:=iI hlt
   refine rT (if_neg (Nat.not_lt.mpr (Kv hmax (by decide)))) ?_
   obtain⟨t',order,hlaid,hp,hf',hmask,hdum,hled,hrise⟩:=qR hM (finger:=t.finger) (moves:=t.movedTo (SetTable.sizeAbove ((t.place.size+more)*2)-1)) (led:=t.led) (plain:=t.plain) (hashes:=es.map (·.1)) (by refine rT Array.size_map ?_;exact Kv (Kv (Kv (Kh hfit.1.symm) (Kf _ more)) (Nat.le_mul_of_pos_right _ (by decide))) hle)
   rw [Array.size_map] at hp hf'
   have hperm:=jd hp
   have hsz:(order.filterMap (es[·]?)).size=es.size:=by refine rB Array.length_toList ?_;refine rT hperm.length_eq ?_;exact rT Array.length_toList rfl
   have hrel:t.relaid (es.map (·.1)) ((t.place.size+more)*2)=some (t',order):=hlaid
   refine rT hrel ?_
   refine JX (m:=(do
    let es':=order.filterMap (es[·]?)
    if es'.size != es.size then unsupported "internal:set-table-lost-an-element"
    pure (es',t'))) ?_
   dsimp only
   refine rT hsz ?_;refine rT (bne_self_eq_false ..) ?_
   refine JZ ?_
   rw [← hsz] at hf'
   refine dj ho (by refine rT hsz ?_;exact D.b) (h _ _ t' (D.perm hperm hf' (by refine rT hled ?_;exact D.led) hrise) hperm (.inr ⟨?_,?_,?_⟩))
   ·unfold SetTable.fill
    refine rT (DC hf').1 ?_;refine rT hdum ?_;refine rT hsz ?_;rfl
   ·refine rT hmask ?_;exact hM
   ·refine rT hmask ?_;exact Kv (Kv (Nat.le_add_left more t.place.size) (Nat.le_mul_of_pos_right _ (by decide))) hle
  ·cases hw
 ·rename_i hw
  split at hw
  ·exact absurd rfl (hw _)
  ·have:=h es ep t D (List.Perm.refl _) (.inl ⟨rfl,by lia⟩)
   rw [d0 ho] at this
   exact JZ this
theorem lz {a o:Addr} {c co:String} {led:Bool} (hfl:w.params.followText "set-order" = true∨led=true) {eo:Array (Int×Value)} {epo:Nat} {to:SetTable} {ns:List K} {each:Sem Unit} {Q:Unit→Shared→Prop} (hne:a≠o) (ha:s.heap.get? a=some (aj c #[] 0 (.fresh 0 0 led))) (ho:s.heap.get? o=some (aj co eo epo to)) (D:au knd eo to ns) (hn:ns.length<64)
  (h:∀ es ep t,au knd es t ns→Q () { s with heap:=s.heap.update a fun _=>aj c es ep t }):wpAny (model prog w) A (setMerge a o each) Q E s:=by
 have D0:au knd #[] (SetTable.fresh 0 0 led) []:=au.fresh hfl
 unfold setMerge
 refine rT (if_neg (by simpa using hne)) ?_
 refine JX (wpAny_setState_of ho rfl D.fit ?_)
 dsimp only
 split
 ·rename_i he
  have:eo=#[]:=by simpa using he
  subst this
  have hns:ns=[]:=by have:=D.sz;exact List.length_eq_zero_iff.mp (by refine rB this ?_;rfl)
  subst hns
  have:=h #[] 0 (.fresh 0 0 led) D0
  rw [d0 ha] at this
  exact JZ this
 refine JX (sZ ha D0 (KQ (Kh ((Nat.zero_add eo.size).trans D.sz)) hn) fun es1 ep1 t1 D1 hp1 hcase => ?_)
 have he1:es1=#[]:=by
  have:=hp1.length_eq
  simpa using this
 subst he1
 have ha1:=cb (o':=aj c #[] ep1 t1) ha rfl
 refine JX (wpAny_setState_of ha1 rfl D1.fit ?_)
 dsimp only
 have hfill:t1.fill=0:=by
  rcases hcase with ⟨rfl,_⟩|⟨q,_⟩
  ·rfl
  ·exact q
 have hM:b3 (t1.mask+1)=true∧eo.size≤t1.mask:=by
  rcases hcase with ⟨rfl,q⟩|⟨_,q1,q2⟩
  ·exact⟨sX,(KW (Nat.lt_of_mul_lt_mul_right (a:=5) (KZ (show eo.size*5<21 from q) (by decide:21≤7*5))):eo.size≤7)⟩
  ·exact⟨q1,q2⟩
 have store:∀ (es':Array (Int×Value)) (t':SetTable),au knd es' t' ns→wpAny (model prog w) A (storeSet a es' t') Q E { s with heap:=s.heap.update a fun _=>aj c #[] ep1 t1 }:=fun es' t' D'=>by
  refine dj ha1 D'.b ?_
  dsimp only
  refine rT (dK ..) ?_
  exact h es' _ t' D'
 have hled1:w.params.followText "set-order" = true∨(t1.led&&to.led)=true:=by
  rcases D1.led with q|q
  ·exact .inl q
  ·rcases D.led with q'|q'
   ·exact .inl q'
   ·exact .inr (by refine rT q ?_;refine rT q' ?_;rfl)
 unfold SetTable.road
 refine rT hfill ?_
 split
 ·exact store _ _ (D.perm (List.Perm.refl _) D.fit hled1 D.rise)
 ·obtain⟨t',order,hlaid,hp,hf',hmask,hdum,hled,hrise⟩:=qR hM.1 (finger:=t1.finger) (moves:=t1.moves) (led:=t1.led&&to.led) (plain:=t1.plain&&to.plain) (hashes:=eo.map (·.1)) (by refine rT Array.size_map ?_;exact hM.2)
  refine rT hlaid ?_
  rw [Array.size_map] at hp hf'
  have hperm:=jd hp
  have hsz:(order.filterMap (eo[·]?)).size=eo.size:=by refine rB Array.length_toList ?_;refine rT hperm.length_eq ?_;exact rT Array.length_toList rfl
  refine JX (m:=(do
   let es':=order.filterMap (eo[·]?)
   if es'.size != eo.size then unsupported "internal:set-table-lost-an-element"
   pure (es',t'))) ?_
  dsimp only
  refine rT hsz ?_;refine rT (bne_self_eq_false ..) ?_
  refine JZ ?_
  rw [← hsz] at hf'
  exact store _ _ (D.perm hperm hf' (by refine rT hled ?_;exact hled1) hrise)
 ·rename_i q
  exfalso
  revert q
  split<;>(try split)<;>simp_all
theorem A2 {es:Array (Int×Value)} {t:SetTable} {ns:List K} (D:au knd es t ns) {e:Int×Value} (he:e∈es.toList):∃ k,k∈ns∧knd.is k e.2=true∧e.1=knd.hash k∧e.2.scannable=true:=by
 obtain⟨⟨k,hk,hh⟩,hs⟩:=D.el e he
 exact⟨k,(D.mem k).mpr ⟨e,he,hk⟩,hk,hh,hs⟩
@[elab_as_elim] theorem kO {es:Array (Int×Value)} {t:SetTable} {ns:List K} (D:au knd es t ns) {e:Int×Value} (he:e∈es.toList) {G:Int×Value→Prop} (h:∀ k x,k∈ns→knd.is k e.2=true→knd.is k x=true→x.scannable=true→G (knd.hash k,x)):G e :=
 have ⟨k,hk,hke,hh,hsc⟩:=A2 D he
 (Prod.ext hh rfl:e=(knd.hash k,e.2))▸h k e.2 hk hke hke hsc
inductive LpI (knd:KeyKind prog w K) (a:Addr) (c:String) (s:Shared) (J:List K→Prop):Shared→Prop
 |mk (es:Array (Int×Value)) (ep:Nat) (t:SetTable) (ms:List K):au knd es t ms→J ms→LpI knd a c s J { s with heap:=s.heap.update a fun _=>aj c es ep t }
theorem u6 {a o:Addr} {c co:String} {es eo:Array (Int×Value)} {ep epo:Nat} {t to:SetTable} {ms ns:List K} {each:Sem Unit} {Q:Unit→Shared→Prop} (hne:a≠o) (ha:s.heap.get? a=some (aj c es ep t)) (Da:au knd es t ms) (ho:s.heap.get? o=some (aj co eo epo to)) (D:au knd eo to ns) (hpos:0<es.size) (hn:ms.length+ns.length<64)
  (heach:∀ (s':Shared) (Q':Unit→Shared→Prop),s'.heap.get? o=some (aj co eo epo to)→Q' () s'→wpAny (model prog w) A each Q' E s')
  (h:∀ es ep t ms',au knd es t ms'→(∀ k,k∈ms'↔k∈ms∨k∈ns)→Q () { s with heap:=s.heap.update a fun _=>aj c es ep t }):wpAny (model prog w) A (setMerge a o each) Q E s:=by
 unfold setMerge
 refine rT (if_neg (by simpa using hne)) ?_
 refine JX (wpAny_setState_of ho rfl D.fit ?_)
 dsimp only
 split
 ·rename_i he
  have:eo=#[]:=by simpa using he
  subst this
  have hns:ns=[]:=by have:=D.sz;exact List.length_eq_zero_iff.mp (by refine rB this ?_;rfl)
  subst hns
  have:=h es ep t ms Da (fun k=>by simp)
  rw [d0 ha] at this
  exact JZ this
 have hsa:=Da.sz
 have hso:=D.sz
 refine JX (sZ ha Da (by rw [hsa,hso];exact hn) fun es1 ep1 t1 D1 hp1 _ => ?_)
 have hs1:es1.size=es.size:=by refine rB Array.length_toList ?_;refine rT hp1.length_eq ?_;exact rT Array.length_toList rfl
 have ha1:=cb (o':=aj c es1 ep1 t1) ha rfl
 have ho1:(s.heap.update a fun _=>aj c es1 ep1 t1).get? o=some (aj co eo epo to):=by refine rT (aA (Ne.symm hne)) ?_;exact ho
 refine JX (wpAny_setState_of ha1 rfl D1.fit ?_)
 dsimp only
 have hroad:t1.road to = .oneByOne:=by
  have hfit:=DC D1.fit
  unfold SetTable.road SetTable.fill
  have:(t1.place.size+t1.dummies.size != 0)=true:=bne_iff_ne.mpr (Nat.ne_of_gt (KZ (Nat.lt_of_lt_of_eq (Nat.lt_of_lt_of_eq hpos hs1.symm) hfit.1.symm) (Kf _ _)))
  exact rT (if_pos this) rfl
 refine rT hroad ?_
 refine JX (gI (b:=true) (s:={ s with heap:=s.heap.update a fun _=>aj c es1 ep1 t1 }) (knd:=knd) ho1 D ha1 D1 fun ws ep2 t2 hws D2 _ => ?_)
 dsimp only
 refine rT (dK ..) ?_
 refine rB Array.forIn_toList ?_
 let I:List (Int×Value)→Shared→Prop:=fun rest s'=>LpI knd a c s (fun ms'=>(∀ e∈rest,e∈eo.toList)∧(∀ k,(k∈ms'→k∈ms∨k∈ns))∧(∀ k,k∈ms∨k∈ns→k∈ms'∨∃ e∈rest,knd.is k e.2=true)) s'
 refine JX (Kq (ig I (fun e rest s' hI => ?_) ws.toList _ ⟨es1,ep2,t2,ms,D2,fun e he=>hws.mem_iff.mp he,fun k hk => .inl hk,fun k hk => ?_⟩) (fun r s' hI => ?_) fun _ _ e=>e)
 ·obtain⟨es',ep',t',ms',D',hJ⟩:=hI
  have hr2:=hJ.2.1
  refine kO D (hJ.1 e (.head _)) fun k x hk hke hkx hsc => ?_
  have hlen:ms'.length≤ms.length+ns.length:=by
   have:=bP (m:=ms++ns) D'.nd fun k hk=>List.mem_append.mpr (hr2 k hk)
   rwa [List.length_append] at this
  dsimp only
  refine JX (JY (hU (cb ha rfl) D' hkx hsc (KQ (Nat.succ_le_succ hlen) (Kd (Nat.succ_lt_succ hn) (by decide))) fun es3 ep3 t3 D3 => ?_))
  dsimp only
  refine rT (dK ..) ?_
  have ho3:(s.heap.update a fun _=>aj c es3 ep3 t3).get? o=some (aj co eo epo to):=by refine rT (aA (Ne.symm hne)) ?_;exact ho
  refine JX (heach _ _ ho3 ?_)
  refine JX (wpAny_setState_of ho3 rfl D.fit ?_)
  dsimp only
  refine rT (bne_self_eq_false ..) ?_
  refine JZ ⟨rfl,es3,ep3,t3,_,D3,fun e he=>hJ.1 e (.tail _ he),fun k' hk' => ?_,fun k' hk' => ?_⟩
  ·rcases dU.mp hk' with q|rfl
   ·exact hr2 _ q
   ·exact .inr hk
  ·rcases hJ.2.2 k' hk' with q|⟨e,he,q⟩
   ·exact .inl (dU.mpr (.inl q))
   ·rcases KJ.mp he with rfl|he
    ·exact .inl (dU.mpr (.inr (knd.inj _ _ _ q hke)))
    ·exact .inr ⟨e,he,q⟩
 ·rcases hk with hk|hk
  ·exact .inl hk
  ·obtain⟨e,he,q⟩:=(D.mem k).mp hk
   exact .inr ⟨e,hws.mem_iff.mpr he,q⟩
 ·obtain⟨rfl,es',ep',t',ms',D',hJ⟩:=hI
  refine JZ (h es' ep' t' ms' D' fun k=>⟨hJ.2.1 k,fun q => ?_⟩)
  rcases hJ.2.2 k q with q|⟨e,he,_⟩
  ·exact q
  ·cases he
end
theorem gJ {h:Heap} {o o':Obj}:(h.push o).update h.objs.size (fun _=>o')=h.push o':=by
 obtain⟨objs,l⟩:=h
 simp only [Heap.push,Heap.update]
 congr 1
 apply Array.ext
 ·simp
 ·intro i h1 h2
  simp only [Array.size_push] at h2
  simp only [Array.getElem_modify,Array.getElem_push]
  by_cases q:i=objs.size
  ·subst q;simp
  ·have:i<objs.size:=Nat.lt_of_le_of_ne (Nat.le_of_lt_succ h2) q
   refine rT (if_neg (Ne.symm q)) ?_
   simp [this]
theorem eg {α:Type} (xs:Array α) (i:Nat):(SetTable.eraseAt xs i).toList=xs.toList.eraseIdx i:=by
 simp [SetTable.eraseAt,List.extract_eq_take_drop,List.eraseIdx_eq_take_drop_succ,List.take_of_length_le]
noncomputable def ei (c:String):Prop:=c = "set" ∨ c = "frozenset"
section
variable {prog:Program} {w:World} {K:Type} [DecidableEq K] {knd:KeyKind prog w K}
variable {A:Around} {E:Value→Shared→Prop} {s:Shared}
theorem bA {a:Addr} {c:String} {Q:Bool→Shared→Prop} (hc:ei c) (hT:s.TypeIs (.ref a) c) (h:Q true s):wpAny (model prog w) A (Builtin.Frozenset.isAnySet (.ref a)) Q E s:=by
 rcases hc with rfl|rfl
 ·refine (?_:wpAny _ _ (isInstance (.ref a) (.type "set") >>= fun _=>_) _ _ _)
  exact JX (wpAny_isInstance hT F.sub_set_set (JZ h))
 ·refine (?_:wpAny _ _ (isInstance (.ref a) (.type "set") >>= fun _=>_) _ _ _)
  refine JX (wpAny_isInstance hT F.sub_frozenset_set ?_)
  exact wpAny_isInstance hT F.sub_frozenset_frozenset h
theorem wu {a:Addr} {c:String} {Q:Value→Shared→Prop} (hc:ei c) (hT:s.TypeIs (.ref a) c) (h:Q (.type c) s):wpAny (model prog w) A (Builtin.Frozenset.baseOf a) Q E s:=by
 rcases hc with rfl|rfl
 ·exact JX (wpAny_isInstance hT F.sub_set_set (JZ h))
 ·exact JX (wpAny_isInstance hT F.sub_frozenset_set (JZ h))
theorem s0 {a:Addr} {c:String} {es:Array (Int×Value)} {ep:Nat} {t:SetTable} {ns:List K} {Q:Value→Shared→Prop} (hc:ei c) (ha:s.heap.get? a=some (aj c es ep t)) (D:au knd es t ns) (hn:ns.length<64)
  (h:∀ es' ep' t',au knd es' t' ns→Q (.ref s.heap.objs.size) { s with heap:=s.heap.push (aj c es' ep' t') }):wpAny (model prog w) A (Builtin.Frozenset.copyOf a) Q E s:=by
 refine JX (wu hc ⟨_,ha,rfl⟩ (JX (jv fun led hled => ?_)))
 refine (?_:wpAny _ _ (setMerge s.heap.objs.size a >>= fun _=>pure _) _ _ _)
 have hne:s.heap.objs.size≠a:=Nat.ne_of_gt (Kw ha)
 refine JX (lz hled hne (Kj _ rfl) (Kx _ ha) D hn fun es' ep' t' D'=>JZ ?_)
 dsimp only
 refine rT gJ ?_
 exact h _ _ _ D'
theorem cN {id:String} {a:Addr} {c:String} {es:Array (Int×Value)} {ep:Nat} {t:SetTable} {ns:List K} {Q:Unit→Shared→Prop} (D:au knd es t ns) (ha:s.heap.get? a=some (aj c es ep t)) (h:Q () s):wpAny (model prog w) A (Builtin.Frozenset.unchanged id a ep) Q E s:=by
 refine JX (wpAny_setEpoch_of ha rfl D.fit ?_)
 refine rT (bne_self_eq_false ..) ?_
 exact JZ h
theorem A3 {id cls:String} {a:Addr} {c:String} {es:Array (Int×Value)} {ep:Nat} {t:SetTable} {ns:List K} {Q:Value→Shared→Prop} (hc:ei c) (ha:s.heap.get? a=some (aj c es ep t)) (D:au knd es t ns) (hn:ns.length<64)
  (h:∀ es' ep' t',au knd es' t' ns→Q (.ref s.heap.objs.size) { s with heap:=s.heap.push (aj cls es' ep' t') }):wpAny (model prog w) A (Builtin.Frozenset.newFrom id (.type cls) (.ref a)) Q E s:=by
 refine JX (jv fun led hled => ?_)
 refine (?_:wpAny _ _ (holding _ (Builtin.Frozenset.updateFrom id s.heap.objs.size (.ref a)) >>= fun _=>pure _) _ _ _)
 refine JX (JY ?_)
 have ha':(s.heap.push (aj cls #[] 0 (.fresh 0 0 led))).get? a=some (aj c es ep t):=Kx _ ha
 refine JX (bA hc ⟨_,ha',rfl⟩ ?_)
 refine (?_:wpAny _ _ (Builtin.Frozenset.merge id s.heap.objs.size a) _ _ _)
 refine JX (wpAny_setEpoch_of ha' rfl D.fit ?_)
 have hne:s.heap.objs.size≠a:=Nat.ne_of_gt (Kw ha)
 refine lz hled hne (Kj _ rfl) ha' D hn fun es' ep' t' D'=>JZ ?_
 dsimp only
 refine rT gJ ?_
 exact h _ _ _ D'
theorem u7 {id:String} {a o:Addr} {c co:String} {es eo:Array (Int×Value)} {ep epo:Nat} {t to:SetTable} {ms ns:List K} {Q:Unit→Shared→Prop} (hne:a≠o) (hc:ei co) (ha:s.heap.get? a=some (aj c es ep t)) (Da:au knd es t ms) (ho:s.heap.get? o=some (aj co eo epo to)) (D:au knd eo to ns) (hpos:0<es.size) (hn:ms.length+ns.length<64)
  (h:∀ es ep t ms',au knd es t ms'→(∀ k,k∈ms'↔k∈ms∨k∈ns)→Q () { s with heap:=s.heap.update a fun _=>aj c es ep t }):wpAny (model prog w) A (Builtin.Frozenset.updateFrom id a (.ref o)) Q E s:=by
 refine JX (bA hc ⟨_,ho,rfl⟩ ?_)
 refine (?_:wpAny _ _ (Builtin.Frozenset.merge id a o) _ _ _)
 refine JX (wpAny_setEpoch_of ho rfl D.fit ?_)
 exact u6 hne ha Da ho D hpos hn (fun s' Q' h' hq=>cN D h' hq) h
theorem lA {a:Addr} {c:String} {es:Array (Int×Value)} {ep:Nat} {t:SetTable} {ns:List K} {k:K} {x:Value} {Q:Bool→Shared→Prop} (ha:s.heap.get? a=some (aj c es ep t)) (D:au knd es t ns) (hkey:knd.is k x=true) (hsc:x.scannable=true)
  (h0:k∉ns→Q false s) (h1:k∈ns→∀ es' ep' t',au knd es' t' (ns.erase k)→t'.mask=t.mask→t'.dummies.size=t.dummies.size+1→Q true { s with heap:=s.heap.update a fun _=>aj c es' ep' t' }):wpAny (model prog w) A (setDiscardHashed a x (knd.hash k)) Q E s:=by
 refine JX (zC ha D hkey hsc fun r hr0 hr1 => ?_)
 cases r with
 |none=>exact JZ (h0 (hr0 rfl))
 |some i =>
  obtain⟨hk,e,he,hke⟩:=hr1 i rfl
  have hlt:i<es.size:=by have:=(KK.mp he).1;exact this
  refine JX (wpAny_setState_of ha rfl D.fit ?_)
  have hsz:(SetTable.eraseAt es i).size=es.size-1:=by
   refine rB Array.length_toList ?_;refine rT (eg ..) ?_;refine rT (List.length_eraseIdx_of_lt (by exact hlt)) ?_;exact rT Array.length_toList rfl
  have hfit:=DC D.fit
  have hp:i<t.place.size:=Nat.lt_of_lt_of_eq hlt hfit.1.symm
  have hbl:es.size-1<scanBound:=KQ (Nat.sub_le _ _) D.b
  have hpl:t.place[i]?=some t.place[i]:=Lx hp
  have hdrop:t.drop i={ t with place:=SetTable.eraseAt t.place i,dummies:=SetTable.insertAt t.dummies (SetTable.below t.dummies t.place[i]) t.place[i] }:=by
   unfold SetTable.drop;exact rT hpl rfl
  have hps:(SetTable.eraseAt t.place i).size=es.size-1:=by
   refine rB Array.length_toList ?_;refine rT (eg ..) ?_;refine rT (List.length_eraseIdx_of_lt (by exact hp)) ?_;refine rT Array.length_toList ?_;exact rT hfit.1 rfl
  have hds:∀ p j,(SetTable.insertAt t.dummies p j).size=t.dummies.size+1:=fun p j=>by
   refine rB Array.length_toList ?_;refine rT ((SetTable.insertAt_perm t.dummies p j).length_eq) ?_;refine rT Array.length_toList ?_;exact rT (Array.size_push ..) rfl
  refine JX (dj ha (rT hsz hbl) (JX (wpAny_point (JZ ?_))))
  refine h1 hk _ _ (t.drop i) ⟨fun e he=>D.el e ?_,fun k' => ?_,D.nd.erase _,?_,rT hsz hbl,?_,by refine rT hdrop ?_;exact D.led,?_⟩ (by exact rT hdrop rfl) (by refine rT hdrop ?_;exact hds _ _)
  ·rw [eg] at he;exact List.mem_of_mem_eraseIdx he
  ·refine rP D.nd.mem_erase_iff ?_;refine rT (eg ..) ?_;refine rP (D.mem k') ?_
   constructor
   ·rintro⟨hne,e',he',hke'⟩
    refine⟨e',?_,hke'⟩
    refine rP List.mem_eraseIdx_iff_getElem? ?_
    obtain⟨j,hj,ej⟩:=List.getElem_of_mem he'
    refine⟨j,fun q => ?_,by refine rT (Ky hj) ?_;exact rT ej rfl⟩
    subst q
    rw [List.getElem?_eq_getElem hj,ej] at he
    cases he
    exact hne (knd.inj _ _ _ hke' hke)
   ·rintro⟨e',he',hke'⟩
    exact⟨fun q=>D.once he hke he' (q▸hke'),e',List.mem_of_mem_eraseIdx he',hke'⟩
  ·refine rT hsz ?_;refine rT (List.length_erase_of_mem hk) ?_;exact rT D.sz rfl
  ·refine rT hdrop (rT hsz (Hd hps ?_))
   refine rT hps ?_;refine rT (hds _ _) ?_
   exact rT (Kb (es.size-1) t.dummies.size 1) (rT (Nat.sub_add_cancel (KQ (Nat.zero_le i) hlt)) (rB hfit.1 hfit.2))
  ·refine rT hdrop ?_
   refine (?_:de (SetTable.eraseAt t.place i))
   unfold de
   refine rT (eg ..) ?_
   exact List.Pairwise.sublist (List.eraseIdx_sublist _ _) D.rise
theorem au.apart {es:Array (Int×Value)} {t:SetTable} {ns:List K} (D:au knd es t ns):es.toList.Pairwise fun e e'=>∀ k,knd.is k e.2=true→knd.is k e'.2=true→False:=by
 refine rP List.pairwise_iff_getElem ?_
 intro i j hi hj hij k h1 h2
 refine D.once (Ky hi) h1 ?_ h2
 refine rP List.mem_eraseIdx_iff_getElem? ?_
 exact⟨j,Nat.ne_of_gt hij,Ky hj⟩
theorem s9 {id:String} {a o:Addr} {c co:String} {es eo:Array (Int×Value)} {ep epo:Nat} {t to:SetTable} {ms ns:List K} {Q:Unit→Shared→Prop} (hne:a≠o) (hc:ei co) (ha:s.heap.get? a=some (aj c es ep t)) (Da:au knd es t ms) (ho:s.heap.get? o=some (aj co eo epo to)) (D:au knd eo to ns) (hn:ms.length+ns.length<64)
  (h:∀ es ep t ms',au knd es t ms'→(∀ k,k∈ms'↔if k∈ns then k∉ms else k∈ms)→Q () { s with heap:=s.heap.update a fun _=>aj c es ep t }):wpAny (model prog w) A (Builtin.Frozenset.symmetricDifferenceUpdate id a (.ref o)) Q E s:=by
 unfold Builtin.Frozenset.symmetricDifferenceUpdate
 have hTo:s.TypeIs (.ref o) co:=⟨_,ho,rfl⟩
 have hb:(Value.ref o==Value.ref a)=false:=by simpa using (Ne.symm hne)
 refine rT hb ?_
 refine JX (wpAny_typeOf hTo ?_)
 have hd:(Value.type co==Value.type "dict")=false:=by rcases hc with rfl|rfl<;>decide
 refine rT hd ?_
 refine JX (bA hc hTo ?_)
 refine JX (JZ ?_)
 refine (?_:wpAny _ _ (setEpoch o >>= fun _=>_) _ _ _)
 refine JX (wpAny_setEpoch_of ho rfl D.fit ?_)
 refine JY ?_
 refine JX (gI (b:=true) (knd:=knd) ho D ha Da fun ws ep2 t2 hws D2 _ => ?_)
 refine rB Array.forIn_toList ?_
 let I:List (Int×Value)→Shared→Prop:=fun rest s'=>LpI knd a c s (fun ms'=>(∀ e∈rest,e∈eo.toList)∧(rest.Pairwise fun e e'=>∀ k,knd.is k e.2=true→knd.is k e'.2=true→False) ∧
  (∀ k,k∈ms'↔if k∈ns∧¬ ∃ e∈rest,knd.is k e.2=true then k∉ms else k∈ms)) s'
 have hlen:∀ {es':Array (Int×Value)} {t':SetTable} {ms':List K} {rest:List (Int×Value)},au knd es' t' ms'→(∀ k,k∈ms'↔if k∈ns∧¬ ∃ e∈rest,knd.is k e.2=true then k∉ms else k∈ms)→ms'.length≤ms.length+ns.length:=fun D' hm=>by
  have:=bP (m:=ms++ns) D'.nd fun k hk=>by
   have hk':=(hm k).mp hk
   refine rP List.mem_append ?_
   split at hk'
   ·rename_i q;exact .inr q.1
   ·exact .inl hk'
  rwa [List.length_append] at this
 refine JX (Kq (ig I (fun e rest s' hI => ?_) ws.toList _ ⟨es,ep2,t2,ms,D2,fun e he=>hws.mem_iff.mp he,?_,fun k => ?_⟩) (fun r s' hI => ?_) fun _ _ e=>e)
 ·obtain⟨es',ep',t',ms',D',hJ⟩:=hI
  have hm:=hJ.2.2
  have hap:=List.pairwise_cons.mp hJ.2.1
  refine kO D (hJ.1 e (.head _)) fun k x hk hke hkx hsc => ?_
  have hl:=hlen D' hm
  have hkm:k∈ms'↔k∈ms:=by rw [hm k,if_neg (fun q=>q.2 ⟨_,.head _,hke⟩)]
  have hgone:¬ ∃ e∈rest,knd.is k e.2=true:=fun z0=>by obtain⟨e,he,q⟩:=z0;exact hap.1 e he k hke q
  have hother:∀ k',k'≠k→((∃ e'∈e::rest,knd.is k' e'.2=true)↔∃ e∈rest,knd.is k' e.2=true):=fun k' hk'=>by
   constructor
   ·rintro⟨e,he,q⟩
    rcases KJ.mp he with rfl|he
    ·exact absurd (knd.inj _ _ _ q hke) hk'
    ·exact⟨e,he,q⟩
   ·rintro⟨e,he,q⟩;exact⟨e,.tail _ he,q⟩
  have ho':∀ es3 ep3 t3,(s.heap.update a fun _=>aj c es3 ep3 t3).get? o=some (aj co eo epo to):=fun es3 ep3 t3=>by refine rT (aA (Ne.symm hne)) ?_;exact ho
  dsimp only
  refine JX (JY ?_)
  refine JX (lA (cb ha rfl) D' hkx hsc (fun hno => ?_) (fun hyes es3 ep3 t3 D3 _ _ => ?_))
  ·simp only [Bool.not_false,if_true]
   refine JX (hU (cb ha rfl) D' hkx hsc (KQ (Nat.succ_le_succ hl) (Kd (Nat.succ_lt_succ hn) (by decide))) fun es3 ep3 t3 D3=>JZ ?_)
   dsimp only
   refine rT (dK ..) ?_
   refine JX (cN D (ho' es3 ep3 t3) (JZ ⟨rfl,es3,ep3,t3,_,D3,fun e he=>hJ.1 e (.tail _ he),hap.2,fun k' => ?_⟩))
   refine rP dU ?_
   by_cases hk':k'=k
   ·subst hk'
    refine rT (if_pos ⟨hk,hgone⟩) ?_
    exact⟨fun _ q=>hno (hkm.mpr q),fun _ => .inr rfl⟩
   ·simp only [hm k',hother k' hk']
    constructor
    ·rintro (q|q)
     ·exact q
     ·exact absurd q hk'
    ·exact .inl
  ·simp only [Bool.not_true,Bool.false_eq_true,if_false]
   refine JZ ?_
   refine rT (dK ..) ?_
   refine JX (cN D (ho' es3 ep3 t3) (JZ ⟨rfl,es3,ep3,t3,_,D3,fun e he=>hJ.1 e (.tail _ he),hap.2,fun k' => ?_⟩))
   refine rP D'.nd.mem_erase_iff ?_
   by_cases hk':k'=k
   ·subst hk'
    refine rT (if_pos ⟨hk,hgone⟩) ?_
    exact⟨fun q=>absurd rfl q.1,fun q=>absurd (hkm.mp hyes) q⟩
   ·simp only [hm k',hother k' hk']
    exact⟨fun q=>q.2,fun q=>⟨hk',q⟩⟩
 ·exact (hws.pairwise_iff (fun {x y} hxy k h1 h2=>hxy k h2 h1)).mpr D.apart
 ·rw [if_neg]
  rintro⟨hk,hno⟩
  obtain⟨e,he,q⟩:=(D.mem k).mp hk
  exact hno ⟨e,hws.mem_iff.mpr he,q⟩
 ·obtain⟨rfl,es',ep',t',ms',D',hJ⟩:=hI
  have hm:=hJ.2.2
  refine JZ (h es' ep' t' ms' D' fun k => ?_)
  refine rP (hm k) ?_
  simp
end
theorem qT:entryFor table "set.__or__" = some Builtin.«frozenset.__or__» := entryFor_alias (id' := "frozenset.__or__") (by kernel_rfl) rfl (by decide +kernel) (by kernel_rfl)
theorem oY:entryFor table "set.__xor__" = some Builtin.«frozenset.__xor__» := entryFor_alias (id' := "frozenset.__xor__") (by kernel_rfl) rfl (by decide +kernel) (by kernel_rfl)
section
variable {prog:Program} {w:World} {K:Type} [DecidableEq K] {knd:KeyKind prog w K}
variable {A:Around} {E:Value→Shared→Prop} {s:Shared}
theorem wv {id:String} {a o:Addr} {c co:String} {es eo:Array (Int×Value)} {ep epo:Nat} {t to:SetTable} {ms ns:List K} {Q:Value→Shared→Prop} (hc:ei c) (hco:ei co) (ha:s.heap.get? a=some (aj c es ep t)) (Da:au knd es t ms) (ho:s.heap.get? o=some (aj co eo epo to)) (D:au knd eo to ns) (hpos:0<ms.length) (hn:ms.length+ns.length<64)
  (h:∀ es ep t ms',au knd es t ms'→(∀ k,k∈ms'↔k∈ms∨k∈ns)→Q (.ref s.heap.objs.size) { s with heap:=s.heap.push (aj c es ep t) }) :
  wpAny (model prog w) A (do
   let result ← Builtin.Frozenset.copyOf a
   if Value.ref o != .ref a then holding [result] (Builtin.Frozenset.updateFrom id (← Builtin.Frozenset.addrOf result) (.ref o))
   return result) Q E s:=by
 refine JX (s0 hc ha Da (KQ (Kf _ _) hn) fun es1 ep1 t1 D1 => ?_)
 by_cases q:o=a
 ·subst q
  refine rT (bne_self_eq_false ..) ?_
  refine JZ (h es1 ep1 t1 ms D1 fun k=>⟨.inl,fun hk=>hk.elim (fun q=>q) fun hk => ?_⟩)
  rw [ha] at ho;cases ho
  exact (Da.mem k).mpr ((D.mem k).mp hk)
 ·have:(Value.ref o != Value.ref a)=true:=by simpa using q
  refine rT (if_pos this) ?_
  have hne:s.heap.objs.size≠o:=Nat.ne_of_gt (Kw ho)
  refine (?_:wpAny _ _ (holding _ (Builtin.Frozenset.updateFrom id s.heap.objs.size (.ref o)) >>= fun _=>pure _) _ _ _)
  refine JX (JY (u7 hne hco (Kj _ rfl) D1 (Kx _ ho) D (by refine rT D1.sz ?_;exact hpos) hn fun es2 ep2 t2 ms2 D2 hm=>JZ ?_))
  dsimp only
  refine rT gJ ?_
  exact h es2 ep2 t2 ms2 D2 hm
theorem ta {a o:Addr} {es eo:Array (Int×Value)} {ep epo:Nat} {t to:SetTable} {ms ns:List K} {Q:Value→Shared→Prop} (ha:s.heap.get? a=some (aj "set" es ep t)) (Da:au knd es t ms) (ho:s.heap.get? o=some (aj "set" eo epo to)) (D:au knd eo to ns) (hpos:0<ms.length) (hn:ms.length+ns.length<64)
  (h:∀ es ep t ms',au knd es t ms'→(∀ k,k∈ms'↔k∈ms∨k∈ns)→Q (.ref s.heap.objs.size) { s with heap:=s.heap.push (aj "set" es ep t) }) :
  wpAny (model prog w) A (call (.builtin "set.__or__") [.ref a,.ref o]) Q E s:=by
 have hT:s.TypeIs (.ref a) "set" := ⟨_,ha,rfl⟩
 have hTo:s.TypeIs (.ref o) "set" := ⟨_,ho,rfl⟩
 refine wpAny_call_entry F.slot_set_or hT qT ?_ (F.args_set_or_2 _ _)
 refine (?_:wpAny _ _ ((Builtin.Frozenset.isAnySet (.ref a) <&&> Builtin.Frozenset.isAnySet (.ref o)) >>= fun r=>_) _ _ _)
 refine JX ?_
 refine (?_:wpAny _ _ (Builtin.Frozenset.isAnySet (.ref a) >>= fun r=>_) _ _ _)
 refine JX (bA (.inl rfl) hT ?_)
 refine bA (.inl rfl) hTo ?_
 refine JX (m:=Builtin.Frozenset.addrOf (.ref a)) (JZ ?_)
 exact JX (wv (.inl rfl) (.inl rfl) ha Da ho D hpos hn fun es1 ep1 t1 ms1 D1 hm=>JZ ⟨_,rfl,h es1 ep1 t1 ms1 D1 hm⟩)
theorem qU {a o:Addr} {es eo:Array (Int×Value)} {ep epo:Nat} {t to:SetTable} {ms ns:List K} {Q:Value→Shared→Prop} (ha:s.heap.get? a=some (aj "set" es ep t)) (Da:au knd es t ms) (ho:s.heap.get? o=some (aj "set" eo epo to)) (D:au knd eo to ns) (hn:ms.length+ns.length<64)
  (h:∀ es ep t ms',au knd es t ms'→(∀ k,k∈ms'↔if k∈ms then k∉ns else k∈ns)→Q (.ref s.heap.objs.size) { s with heap:=s.heap.push (aj "set" es ep t) }) :
  wpAny (model prog w) A (call (.builtin "set.__xor__") [.ref a,.ref o]) Q E s:=by
 have hT:s.TypeIs (.ref a) "set" := ⟨_,ha,rfl⟩
 have hTo:s.TypeIs (.ref o) "set" := ⟨_,ho,rfl⟩
 refine wpAny_call_entry F.slot_set_xor hT oY ?_ (F.args_set_xor_2 _ _)
 refine (?_:wpAny _ _ ((Builtin.Frozenset.isAnySet (.ref a) <&&> Builtin.Frozenset.isAnySet (.ref o)) >>= fun r=>_) _ _ _)
 refine JX ?_
 refine (?_:wpAny _ _ (Builtin.Frozenset.isAnySet (.ref a) >>= fun r=>_) _ _ _)
 refine JX (bA (.inl rfl) hT ?_)
 refine bA (.inl rfl) hTo ?_
 refine JX (m:=Builtin.Frozenset.addrOf (.ref a)) (JZ ?_)
 refine JX (JX (wu (.inl rfl) hT (JX (A3 (.inl rfl) ho D (KQ (Nat.le_add_left _ _) hn) fun es1 ep1 t1 D1 => ?_))))
 refine (?_:wpAny _ _ (holding _ (Builtin.Frozenset.symmetricDifferenceUpdate "frozenset.__xor__" s.heap.objs.size (.ref a)) >>= fun _=>pure _) _ _ _)
 have hne:s.heap.objs.size≠a:=Nat.ne_of_gt (Kw ha)
 refine JX (JY (s9 hne (.inl rfl) (Kj _ rfl) D1 (Kx _ ha) Da (KQ (Kh (Nat.add_comm ..)) hn) fun es2 ep2 t2 ms2 D2 hm=>JZ (JZ ⟨_,rfl,?_⟩)))
 dsimp only
 refine rT gJ ?_
 exact h es2 ep2 t2 ms2 D2 hm
end
section
variable {A:Around} {d:Nat} {R:RM} {ρ:List Addr} {s:Shared} {H:AH}
theorem yq (ms:List Int):bE (ms.map AV.int)=some ms:=by
 induction ms with
 |nil=>rfl
 |cons m ms ih=>refine (?_:(bE (ms.map AV.int)).bind _=_);refine rT ih ?_;rfl
theorem dy {l:List AV} {ns:List Int} {o:Obj} {G:Prop} (h:qC l o) (hn:bE l=some ns) (k:ns.Nodup→∀ es ep t,o=aj "set" es ep t→au (intKind X.prog X.w) es t ns→G):G:=by
 rcases h with ⟨ms,es,ep,t,rfl,hlen,rfl,D⟩|⟨rfl,_⟩
 ·rw [yq] at hn
  cases hn
  exact k D.nd es ep t rfl D
 ·cases hn
theorem p7 {ns ms:List Int} {es:Array (Int×Value)} {ep:Nat} {t:SetTable} (D:au (intKind X.prog X.w) es t ms) (nd:ns.Nodup) (hlen:ns.length<1000) (hm:∀ k,k∈ns↔k∈ms):qC (ns.map .int) (aj "set" es ep t) :=
 .inl ⟨ns,es,ep,t,rfl,hlen,rfl,D.congr nd hm⟩
theorem dP (l:List Int):∀ (acc:List Int),acc.Nodup→(l.foldl (fun acc i=>if acc.contains i then acc else acc++[i]) acc).Nodup∧(∀ k,k∈l.foldl (fun acc i=>if acc.contains i then acc else acc++[i]) acc↔k∈acc∨k∈l)∧(l.foldl (fun acc i=>if acc.contains i then acc else acc++[i]) acc).length≤acc.length+l.length:=by
 induction l with
 |nil=>exact fun acc h=>⟨h,fun k=>⟨.inl,fun h=>h.elim id fun h=>nomatch h⟩,KX _⟩
 |cons i l ih =>
  intro acc h
  rw [List.foldl_cons,show (if acc.contains i then acc else acc++[i])=br acc i by unfold br;by_cases q:i∈acc<;>simp [q]]
  obtain⟨a,b,c⟩:=ih (br acc i) (lk h)
  refine⟨a,fun k=>(b k).trans ?_,Kv c ?_⟩
  ·rw [dU,List.mem_cons,or_assoc]
  ·rw [List.length_cons,← Nat.add_assoc,Nat.add_right_comm]
   exact Nat.add_le_add_right (pD acc i) _
section
variable {x y:AV} {l r:List AV} {ns ms:List Int} {cx cy:Value} (g:ag R ρ H s.heap) (rx:Rel R ρ (.set l) cx) (ry:Rel R ρ (.set r) cy) (hn:bE l=some ns) (hm:bE r=some ms)
include g rx ry hn hm
theorem FE (hp:(ns≠[]∧ns.length≤30)∧ms.length≤30):EvT A (binaryOp .BitOr cx cy) R ρ s (.set (cH (ns++ms))) H:=by
 obtain⟨a,oa,rfl,ea,sa⟩:=rx
 obtain⟨b,ob,rfl,eb,sb⟩:=ry
 refine dy sa hn fun nd es ep t e D=>dy sb hm fun nd' es' ep' t' e' D' => ?_
 subst e e'
 have g1:=g.froz _ _ ea
 have g2:=g.froz _ _ eb
 have h2:=hp.1.2
 have h3:=hp.2
 refine wpAny_binaryOp_same (op := .BitOr) (T := "set") ⟨_,g1,rfl⟩ ⟨_,g2,rfl⟩ F.fills_set_or F.slot_set_or (ta g1 D g2 D' (List.length_pos_iff.mpr hp.1.1) (by lia) fun es2 ep2 t2 ms2 D2 hm2=>⟨nofun,?_⟩)
 obtain⟨f1,f2,f3⟩:=dP (ns++ms) [] .nil
 refine kK (tk:=s.toks) g rfl fun R' hr e=>⟨_,_,rfl,e,p7 D2 f1 ?_ fun k => ?_⟩
 ·rw [List.length_append,List.length_nil,Nat.zero_add] at f3
  exact KQ (Kv f3 (Nat.add_le_add h2 h3)) (by decide)
 ·refine rP (f2 k) ?_;refine rP (hm2 k) ?_;refine rP List.mem_append ?_;exact⟨fun h=>h.elim (fun h=>nomatch h) id,.inr⟩
theorem DD (hp:ns.length≤30∧ms.length≤30):EvT A (binaryOp .BitXor cx cy) R ρ s (.set ((ns.filter (!ms.contains ·)++ms.filter (!ns.contains ·)).map .int)) H:=by
 obtain⟨a,oa,rfl,ea,sa⟩:=rx
 obtain⟨b,ob,rfl,eb,sb⟩:=ry
 refine dy sa hn fun nd es ep t e D=>dy sb hm fun nd' es' ep' t' e' D' => ?_
 subst e e'
 have g1:=g.froz _ _ ea
 have g2:=g.froz _ _ eb
 have h2:=hp.1
 have h3:=hp.2
 refine wpAny_binaryOp_same (op := .BitXor) (T := "set") ⟨_,g1,rfl⟩ ⟨_,g2,rfl⟩ F.fills_set_xor F.slot_set_xor (qU g1 D g2 D' (by lia) fun es2 ep2 t2 ms2 D2 hm2=>⟨nofun,?_⟩)
 have nc:∀ {k:Int} {l:List Int},(!l.contains k)=true↔k∉l:=by intro k l;rw [Bool.not_eq_true',← Bool.not_eq_true,List.contains_iff_mem]
 refine kK (tk:=s.toks) g rfl fun R' hr e=>⟨_,_,rfl,e,p7 D2 ?_ ?_ fun k => ?_⟩
 ·refine List.nodup_append.mpr ⟨nd.filter _,nd'.filter _,fun a ha b hb q => ?_⟩
  subst q
  exact nc.mp (List.mem_filter.mp ha).2 (List.mem_filter.mp hb).1
 ·refine rT List.length_append ?_
  exact KQ (Nat.add_le_add (Kv (List.length_filter_le _ _) h2) (Kv (List.length_filter_le _ _) h3)) (by decide)
 ·refine rP (hm2 k) ?_;refine rP List.mem_append ?_;refine rP List.mem_filter ?_;refine rP List.mem_filter ?_;refine rP nc ?_;refine rP nc ?_
  by_cases q:k∈ns<;>simp [q]
end
theorem FF {op:Operator} {x y v:AV} {cx cy:Value} (g:ag R ρ H s.heap) (rx:Rel R ρ x cx) (ry:Rel R ρ y cy) (h:fF H op x y=some v):EvT A (binaryOp op cx cy) R ρ s v H :=
 Dh g rx ry h (fun b c rx ry h=>oi h fun hp h=>oj h (by
  obtain⟨t,rfl⟩:=rx
  obtain⟨u,rfl⟩:=ry
  exact bq hp fun h1 h2=>bq h1 fun h1 h3=>yd (of_decide_eq_true h3) (of_decide_eq_true h2) (of_decide_eq_true h1) fun t' tk=>aC g ⟨_,rfl⟩)) fun hop=>by
  rcases hop with rfl|rfl
  ·exact ob h fun a _ h=>ob h fun b _ h=>ob h fun ns hn h=>ob h fun ms hm h=>oi h fun hp h=>oj h (FE g (ak a.2 rx) (ak b.2 ry) hn hm hp)
  ·exact ob h fun a _ h=>ob h fun b _ h=>ob h fun ns hn h=>ob h fun ms hm h=>oi h fun hp h=>oj h (DD g (ak a.2 rx) (ak b.2 ry) hn hm hp)
end
theorem em:Manifest.owners.lookup (String.ofList ['r', 'o', 't', 'a', 'r', 'e', 't', 'i', '_', 't', 'e', 's'].reverse)=some Manifest.sig_set_iterator:=by kernel_rfl
theorem aF:Slot "set_iterator" "__next__" "set_iterator.__next__" :=
 .of (owner := "set_iterator") (n := "__next__") (by rw [typeLookup_type,builtinLookup_eq_fast];kernel_rfl) (by decide +kernel) (by decide +kernel) (by decide +kernel)
  (by first|exact .inl (by decide +kernel)|exact .inr (by decide +kernel)) (by rw [isSubtype_type];kernel_rfl)
theorem fq:entryFor table "set_iterator.__next__" = some Builtin.«set_iterator.__next__» := entryFor_of_tree (by kernel_rfl)
theorem eV (a:Value):argsOk "set_iterator.__next__" ⟨[a],[]⟩:=by
 unfold argsOk;rw [signature?_of (id := "set_iterator.__next__") (n:=['_', '_', 't', 'x', 'e', 'n', '_', '_']) (o:=['r', 'o', 't', 'a', 'r', 'e', 't', 'i', '_', 't', 'e', 's']) (by kernel_rfl) em];kernel_rfl
theorem cP:Slot "set_iterator" "__iter__" "set_iterator.__iter__" :=
 .of (owner := "set_iterator") (n := "__iter__") (by rw [typeLookup_type,builtinLookup_eq_fast];kernel_rfl) (by decide +kernel) (by decide +kernel) (by decide +kernel)
  (by first|exact .inl (by decide +kernel)|exact .inr (by decide +kernel)) (by rw [isSubtype_type];kernel_rfl)
theorem eW (a:Value):argsOk "set_iterator.__iter__" ⟨[a],[]⟩:=by
 unfold argsOk;rw [signature?_of (id := "set_iterator.__iter__") (n:=['_', '_', 'r', 'e', 't', 'i', '_', '_']) (o:=['r', 'o', 't', 'a', 'r', 'e', 't', 'i', '_', 't', 'e', 's']) (by kernel_rfl) em];kernel_rfl
theorem fv:entryFor table "set_iterator.__iter__" = some Builtin.«dict_keyiterator.__iter__» :=
 entryFor_alias (id' := "dict_keyiterator.__iter__") (by kernel_rfl) (by first|rfl|decide +kernel|(unfold String.splitOn;simp +decide [String.splitOnAux])) (by decide +kernel) (by kernel_rfl)
theorem nb:entryFor table "set.__iter__" = some Builtin.«frozenset.__iter__» :=
 entryFor_alias (id' := "frozenset.__iter__") (by kernel_rfl) (by first|rfl|decide +kernel|(unfold String.splitOn;simp +decide [String.splitOnAux])) (by decide +kernel) (by kernel_rfl)
section
variable {prog:Program} {w:World} {A:Around} {E:Value→Shared→Prop} {s:Shared}
theorem oZ {src:Source} {n:Nat} {Q:Nat→Shared→Prop} (hn:n≠0) (h:∀ i dr,i<n→Q i { s with drawn:=dr }):wpAny (model prog w) A (choose src n) Q E s:=fun Γ p hΓ=>by
 refine rT (Sem.wp_choose ..) ?_
 exact⟨hn,h _ _ (Nat.mod_lt _ (Nat.pos_of_ne_zero hn))⟩
theorem ng {α:Type}:∀ (n:Nat) (xs:List α) (s:Shared) (Q:List α→Shared→Prop),xs.length=n→(∀ ws dr,List.Perm ws xs→Q ws { s with drawn:=dr })→wpAny (model prog w) A (drawOrder n xs) Q E s
 |0,xs,s,Q,hn,h=>by
  have:xs=[]:=List.length_eq_zero_iff.mp hn
  subst this
  exact JZ (h [] s.drawn (List.Perm.refl _))
 |n+1,[],s,Q,hn,h=>by simp at hn
 |n+1,x::xs,s,Q,hn,h=>by
  refine JX (oZ (by simp) fun i dr hi => ?_)
  refine rT (Ky hi) ?_
  refine JX (ng n _ _ _ (by refine rT (List.length_eraseIdx_of_lt hi) ?_;simpa using hn) fun ws dr' hp=>JZ ?_)
  exact h _ dr' ((hp.cons _).trans (je hi))
noncomputable abbrev nh (first:Value) (i:Nat) (a:Addr) (n ep:Nat):Obj:={ cls := .type "set_iterator",data := .fields #[first,rawInt i,.ref a,rawInt n,rawInt ep] }
theorem ni {I a:Addr} {c:String} {first:Value} {i n ep:Nat} {es:Array (Int×Value)} {t:SetTable} {Q:Option Value→Shared→Prop} (hh:A.handled=none) (hI:s.heap.get? I=some (nh first i a n ep)) (ha:s.heap.get? a=some (aj c es ep t)) (hn:es.size=n) (hf:t.fits es.size=true)
  (h1:∀ slot u,first = .int slot u→wpAny (model prog w) A.in1 (setNext a slot.toNat i ep) (fun r s'=>s'=s∧match r with
   |some (x,next)=>∀ h',h'.get? I=some (nh (rawInt next) (i+1) a n ep)→Heap.SameBut I s.heap h'→Q (some x) { s with heap:=h' }
   |none=>∀ h',(∀ b o,b≠I→s.heap.get? b=some o→h'.get? b=some o)→Q none { s with heap:=h' }) (fun _ _=>False) s)
  (h2:∀ T,first = .ref T→∃ ps:List Nat,s.heap.get? T=some (fL (ps.map fun (j:Nat)=>rawInt j) 0)∧T≠I ∧
   match ps[i]? with
   |some j=>∃ hx x,es[j]?=some (hx,x)∧∀ h',h'.get? I=some (nh first (i+1) a n ep)→Heap.SameBut I s.heap h'→Q (some x) { s with heap:=h' }
   |none=>∀ h',(∀ b o,b≠I→s.heap.get? b=some o→h'.get? b=some o)→Q none { s with heap:=h' })
  (hfirst:(∃ slot u,first = .int slot u)∨∃ T,first = .ref T) :
  wpAny (model prog w) A (pyNext (.ref I)) Q E s:=by
 have hT:s.TypeIs (.ref I) "set_iterator" := ⟨_,hI,rfl⟩
 have hIa:I≠a:=fun q=>by subst q;rw [hI] at ha;cases ha
 refine JX (wpAny_attempt (wpAny_callSpecial?_slot (name:=Str.ofString "__next__") hT aF
  (wpAny_call_entry aF hT fq ?_ (eV _))))
 refine (?_:wpAny _ _ (fieldsOf (.ref I) >>= _) _ _ s)
 refine JX (wpAny_fieldsOf hI rfl ?_)
 refine (?_:wpAny _ _ (setEntries a >>= _) _ _ s)
 refine JX (wpAny_setEntries_of ha rfl hf ?_)
 have hsz:(((es.size:Nat):Int) != ((n:Nat):Int))=false:=by refine rT hn ?_;simp
 refine (?_:wpAny _ _ (if (((es.size:Nat):Int) != ((n:Nat):Int))=true then _ else _) _ _ s)
 refine rT hsz ?_
 rcases hfirst with ⟨slot,u,rfl⟩|⟨T,rfl⟩
 ·refine (?_:wpAny _ _ (setNext a slot.toNat ((i:Int)).toNat ((ep:Int)).toNat >>= _) _ _ s)
  refine rT (Int.toNat_natCast ..) ?_;refine rT (Int.toNat_natCast ..) ?_
  refine JX (Kq (h1 slot u rfl) (fun r s' hr => ?_) fun _ _ e=>e.elim)
  obtain⟨rfl,hr⟩:=hr
  cases r with
  |some q =>
   obtain⟨x,next⟩:=q
   refine (?_:wpAny _ _ (setField (.ref I) 0 (rawInt next) >>= _) _ _ s')
   refine JX (wpAny_setField_rec hI (by simp) fun h1 e1 k1 => ?_)
   refine (?_:wpAny _ _ (setField (.ref I) 1 (rawInt ((i:Int)+1)) >>= _) _ _ _)
   refine JX (wpAny_setField_rec e1 (by simp) fun h2 e2 k2 => ?_)
   refine JZ ⟨x,rfl,JZ (hr h2 ?_ (k1.trans k2))⟩
   exact e2
  |none =>
   refine (?_:wpAny _ _ (setField (.ref I) 2 .none >>= _) _ _ s')
   refine JX (wpAny_setField_rec hI (by simp) fun h1 e1 k1 => ?_)
   refine (?_:wpAny _ _ (newExc (.type "StopIteration") [] >>= _) _ _ _)
   refine JX ?_
   refine JX (wpAny_newObj_type ?_ (by size_fits))
   refine JX (m:=firstArgMember _ _) (wpAny_of_eq (a:=Value.none) (by first|rfl|(simp only [firstArgMember];rfl)) ?_)
   refine wpAny_newObj_type ?_ (by size_fits)
   refine JX (wpAny_handled ?_)
   first|refine rT (show A.in1.handled=none from hh) ?_|rw [hh]
   refine JX (JZ (wpAny_throw ?_))
   refine JX (wpAny_isInstance (T := "StopIteration") (b:=true) ⟨_,Kj _ rfl,rfl⟩ isSubtype_stop ?_)
   exact JZ (hr _ fun b o hb e=>Kx _ (Kx _ (k1.extBut b o hb e)))
 ·obtain⟨ps,hT',hTI,hps⟩:=h2 T rfl
  refine (?_:wpAny _ _ (seqItems? (.ref T) >>= _) _ _ s)
  refine JX (wpAny_seqItems hT' rfl ?_)
  have hget:(ps.map fun (j:Nat)=>rawInt j).toArray[((i:Int)).toNat]?=ps[i]?.map fun (j:Nat)=>rawInt j:=by simp
  show wpAny _ _ (match (ps.map fun (j:Nat)=>rawInt j).toArray[((i:Int)).toNat]? with
   |some (.int place _)=>_
   |some _=>_
   |none=>_) _ _ s
  refine rT hget ?_
  cases q:ps[i]? with
  |some j =>
   rw [q] at hps
   obtain⟨hx,x,hj,hps⟩:=hps
   refine (?_:wpAny _ _ (setNextDrawn a ((j:Int)).toNat ((ep:Int)).toNat >>= _) _ _ s)
   refine rT (Int.toNat_natCast ..) ?_;refine rT (Int.toNat_natCast ..) ?_
   refine JX (JX (wpAny_setState_of ha rfl hf ?_))
   dsimp only
   refine rT (bne_self_eq_false ..) ?_;refine rT hj ?_
   refine JZ ?_
   refine (?_:wpAny _ _ (setField (.ref I) 1 (rawInt ((i:Int)+1)) >>= _) _ _ _)
   refine JX (wpAny_setField_rec hI (by simp) fun h2 e2 k2 => ?_)
   refine JZ ⟨x,rfl,JZ (hps h2 ?_ k2)⟩
   exact e2
  |none =>
   rw [q] at hps
   refine (?_:wpAny _ _ (setField (.ref I) 0 (rawInt 0) >>= _) _ _ s)
   refine JX (wpAny_setField_rec hI (by simp) fun h0 e0 k0 => ?_)
   refine (?_:wpAny _ _ (setField (.ref I) 2 .none >>= _) _ _ _)
   refine JX (wpAny_setField_rec e0 (by simp) fun h1 e1 k1 => ?_)
   refine (?_:wpAny _ _ (newExc (.type "StopIteration") [] >>= _) _ _ _)
   refine JX ?_
   refine JX (wpAny_newObj_type ?_ (by size_fits))
   refine JX (m:=firstArgMember _ _) (wpAny_of_eq (a:=Value.none) (by first|rfl|(simp only [firstArgMember];rfl)) ?_)
   refine wpAny_newObj_type ?_ (by size_fits)
   refine JX (wpAny_handled ?_)
   first|refine rT (show A.in1.handled=none from hh) ?_|rw [hh]
   refine JX (JZ (wpAny_throw ?_))
   refine JX (wpAny_isInstance (T := "StopIteration") (b:=true) ⟨_,Kj _ rfl,rfl⟩ isSubtype_stop ?_)
   exact JZ (hps _ fun b o hb e=>Kx _ (Kx _ (k1.extBut b o hb (k0.extBut b o hb e))))
theorem u8 {xs:Array Nat} (h:de xs):SetTable.below xs 0=0∧∀ k p,xs[k]?=some p→SetTable.below xs (p+1)=k+1:=by
 constructor
 ·obtain⟨h1,h2,h3⟩:=mt h 0
  rcases Nat.eq_zero_or_pos (SetTable.below xs 0) with q|q
  ·exact q
  ·have:=h1 0 _ q (Lx (KZ q h3))
   exact absurd this (Nat.not_lt_zero _)
 ·intro k p hk
  obtain⟨h1,h2,h3⟩:=mt h (p+1)
  have hlt:=(Array.getElem?_eq_some_iff.mp hk).1
  have q1:¬ SetTable.below xs (p+1)≤k:=fun q=>by
   exact Nat.not_succ_le_self p (h2 k p q hk)
  have q2:¬ k+1<SetTable.below xs (p+1):=fun q=>by
   have e:=Lx (KZ q h3)
   exact Nat.lt_irrefl _ (KZ (h.lt hk e (by exact Nat.le.refl)) (Nat.le_of_lt_succ (h1 (k+1) _ q e)))
  exact Nat.le_antisymm (Nat.le_of_not_lt q2) (Nat.lt_of_not_le q1)
noncomputable def qV (t:SetTable):Nat→Nat
 |0=>0
 |i+1=>t.place.getD i 0+1
structure He (prog:Program) (w:World) (s:Shared) (a:Addr) (es:Array (Int×Value)) (ep:Nat) (t:SetTable) (ws:List (Int×Value)) (I:Addr) (fp:List Addr) (h':Heap) (St:Nat→Heap→Prop):Prop where
 perm:List.Perm ws es.toList
 new:s.heap.get? I=none
 low:∀ b∈fp,b<h'.objs.size
 mem:I∈fp
 fp2:∀ b∈fp,b=I∨b=a∨s.heap.get? b=none
 k:cD s.heap h'
 le:s.heap.objs.size≤h'.objs.size
 st:∀ i h,St i h→∃ first n ep,h.get? I=some (nh first i a n ep)∧h.get? a=some (aj "set" es ep t)∧n=es.size
 W:∀ A:Around,A.handled=none→Walks prog w A I fp [I] es.size (fun i v=>∃ e,ws[i]?=some e∧v=e.2) St
 st0:St 0 h'
noncomputable def SSt (I a:Addr) (n ep:Nat) (first:Nat→Value) (X:List (Addr×Obj)) (i:Nat) (h:Heap):Prop:=h.get? I=some (nh (first i) i a n ep)∧∀ p∈X,h.get? p.1=some p.2
theorem A4 {I a:Addr} {first:Value} {i n ep:Nat} {Q:Value→Shared→Prop} (hI:s.heap.get? I=some (nh first i a n ep)) (hq:Q (.ref I) s):wpAny (model prog w) A (pyIter (.ref I)) Q E s :=
 have hTI:s.TypeIs (.ref I) "set_iterator" := ⟨_,hI,rfl⟩
 wpAny_pyIter_slot hTI cP (wpAny_call_entry cP hTI fv (JZ ⟨_,rfl, "set_iterator",_,hTI,aF.lookup,hq⟩) (eW _))
noncomputable def Nx (prog:Program) (w:World) (A:Around) (I a:Addr) (n ep:Nat) (first:Nat→Value) (X:List (Addr×Obj)) (ws:List (Int×Value)):Prop :=
 ∀ (s:Shared) (i:Nat) (Q:Option Value→Shared→Prop) (E:Value→Shared→Prop),i≤n→SSt I a n ep first X i s.heap→(match ws[i]? with
  |some e=>∀ h',h'.get? I=some (nh (first (i+1)) (i+1) a n ep)→Heap.SameBut I s.heap h'→Q (some e.2) { s with heap:=h' }
  |none=>∀ h',(∀ b o,b≠I→s.heap.get? b=some o→h'.get? b=some o)→Q none { s with heap:=h' })→wpAny (model prog w) A (pyNext (.ref I)) Q E s
theorem p8 {I b:Addr} (h:b∉[I]):b≠I:=fun e=>h (e▸Ka)
theorem yr {I a:Addr} {n ep:Nat} {first:Nat→Value} {X:List (Addr×Obj)} {ws:List (Int×Value)} (hne:∀ p∈X,p.1≠I) (hl:ws.length=n) (step:Nx prog w A I a n ep first X ws) :
  Walks prog w A I (I::X.map (·.1)) [I] n (fun i v=>∃ e,ws[i]?=some e∧v=e.2) (SSt I a n ep first X):=by
 refine⟨fun b hb=>Ke.mp hb▸Ka,fun i h h' st hk=>⟨hk _ Ka _ st.1,fun p hp=>hk _ (List.mem_cons_of_mem _ (List.mem_map_of_mem hp)) _ (st.2 p hp)⟩,fun i s Q E hi st hq => ?_,fun s Q E st hq => ?_,fun i s Q E st hq=>A4 st.1 hq⟩
 ·refine step s i Q E (KW hi) st ?_
  have e:=Ky (hl▸hi:i<ws.length)
  refine rT e ?_
  exact fun h' e1 k1=>hq _ h' s.toks ⟨_,e,rfl⟩ ⟨e1,fun p hp=>k1.extBut _ _ (hne p hp) (st.2 p hp)⟩ fun b o hb e=>k1.extBut _ _ (p8 hb) e
 ·refine step s n Q E (KX _) st ?_
  refine rT (List.getElem?_eq_none (Kh hl)) ?_
  exact fun h' k=>hq h' s.toks fun b o hb e=>k _ _ (p8 hb) e
theorem qW {a I:Addr} {es:Array (Int×Value)} {ep:Nat} {t:SetTable} {ws:List (Int×Value)} {h':Heap} {first:Nat→Value} {X:List (Addr×Obj)} (hws:List.Perm ws es.toList) (hI:s.heap.get? I=none) (hk:cD s.heap h') (hle:s.heap.objs.size≤h'.objs.size)
  (ha:(a,aj "set" es ep t)∈X) (hX:∀ p∈X,p.1=a∨s.heap.get? p.1=none) (hne:∀ p∈X,p.1≠I) (st0:SSt I a es.size ep first X 0 h') (step:∀ A:Around,A.handled=none→Nx prog w A I a es.size ep first X ws) :
  He prog w s a es ep t ws I (I::X.map (·.1)) h' (SSt I a es.size ep first X) where
 perm:=hws
 new:=hI
 low b hb:=by
  rcases KJ.mp hb with rfl|hb
  ·exact Kw st0.1
  ·obtain⟨p,hp,rfl⟩:=Kg.mp hb
   exact Kw (st0.2 p hp)
 mem:=Ka
 fp2 b hb:=by
  rcases KJ.mp hb with rfl|hb
  ·exact .inl rfl
  ·obtain⟨p,hp,rfl⟩:=Kg.mp hb
   exact .inr (hX p hp)
 k:=hk
 le:=hle
 st i h st:=⟨_,_,_,st.1,st.2 _ ha,rfl⟩
 W A hA:=yr hne (hws.length_eq.trans Array.length_toList) (step A hA)
 st0:=st0
theorem yt {t:SetTable} {n:Nat} (hf:t.fits n=true):t.place.size=n:=by
 unfold SetTable.fits at hf
 simp only [Bool.and_eq_true,beq_iff_eq] at hf
 exact hf.1
theorem DE {A:Around} {I a:Addr} {es:Array (Int×Value)} {ep:Nat} {t:SetTable} (hA:A.handled=none) (hf:t.fits es.size=true) (hB:w.params.followText "set-order" = true) :
  Nx prog w A I a es.size ep (fun _=>rawInt 0) [(a,aj "set" es ep t)] (pickOrder (w.params.setOrder a ep) es).toList:=fun s i Q E hi st hq=>by
 have ha':=st.2 _ Ka
 refine ni hA st.1 ha' rfl hf (fun slot u e => ?_) (fun T e=>nomatch e) (.inl ⟨_,_,rfl⟩)
 cases e
 refine (?_:wpAny _ _ (setNext a 0 i ep) _ _ s)
 have hB2:(Setting.params ⟨(model prog w).prog,(model prog w).w.params⟩).followText "set-order" = true:=hB
 refine JX (wpAny_setState_of ha' rfl hf (JX (JX (wpAny_askSetting (JZ ?_)))))
 refine rT (if_pos hB2) ?_;refine rT (bne_self_eq_false ..) ?_
 refine JX ?_
 refine JX (wpAny_setState_of ha' rfl hf (JX (JX (wpAny_askSetting (JZ ?_)))))
 refine rT (if_pos hB2) ?_
 refine JX (wpAny_askSetting (JZ (JZ ⟨rfl,?_⟩)))
 refine (?_:(match Option.map (fun (e:Int×Value)=>(e.2,0)) ((pickOrder (w.params.setOrder a ep) es)[i]?) with|some (x,next)=>_|none=>_))
 rw [Array.getElem?_toList] at hq
 revert hq
 cases (pickOrder (w.params.setOrder a ep) es)[i]? with
 |none=>exact fun hq=>hq
 |some e=>exact fun hq=>hq
theorem DF {es:Array (Int×Value)} (ps:List Nat):(∀ j∈ps,j<es.size)→∀ i:Nat,(ps.filterMap (fun j=>es[j]?))[i]?=ps[i]?.bind (fun j=>es[j]?):=by
 induction ps with
 |nil=>exact fun _ _=>rfl
 |cons x l ih =>
  intro h i
  refine rT List.filterMap_cons ?_;refine rT (Lx (h x Ka)) ?_
  cases i with
  |zero=>exact (Lx _).symm
  |succ i=>exact ih (fun j hj=>h j (List.mem_cons_of_mem _ hj)) i
theorem A5 {A:Around} {I a T:Addr} {es:Array (Int×Value)} {ep:Nat} {t:SetTable} {ps:List Nat} (hA:A.handled=none) (hf:t.fits es.size=true) (hps:List.Perm ps (List.range es.size)) (hTI:T≠I) :
  Nx prog w A I a es.size ep (fun _ => .ref T) [(a,aj "set" es ep t),(T,fL (ps.map fun (i:Nat)=>rawInt i) 0)] (ps.filterMap (fun j=>es[j]?)):=fun s i Q E hi st hq=>by
 refine ni hA st.1 (st.2 _ Ka) rfl hf (fun slot u e=>nomatch e) (fun T' e => ?_) (.inr ⟨_,rfl⟩)
 cases e
 refine⟨ps,st.2 _ (List.mem_cons_of_mem _ Ka),hTI,?_⟩
 rw [DF ps (fun j hj=>List.mem_range.mp (hps.mem_iff.mp hj)) i] at hq
 revert hq
 cases q:ps[i]? with
 |none=>exact fun hq=>hq
 |some j =>
  have e:=Lx (List.mem_range.mp (hps.mem_iff.mp (KV q)))
  refine rT (Option.bind_some ..) ?_;refine rT e ?_
  exact fun hq=>⟨_,_,e,hq⟩
theorem yu {A:Around} {I a:Addr} {es:Array (Int×Value)} {ep:Nat} {t:SetTable} (hA:A.handled=none) (hf:t.fits es.size=true) (hr:de t.place) (hB:w.params.followText "set-order" = false) (hled:t.led=true) (hD:(!t.plain&&decide (es.size>1))=false) :
  Nx prog w A I a es.size ep (fun i=>rawInt (qV t i)) [(a,aj "set" es ep t)] es.toList:=fun s i Q E hi st hq=>by
 have ha':=st.2 _ Ka
 have hsz:=yt hf
 refine ni hA st.1 ha' rfl hf (fun slot u e => ?_) (fun T e=>nomatch e) (.inl ⟨_,_,rfl⟩)
 cases e
 refine rT (Int.toNat_natCast ..) ?_
 refine JX (wpAny_setState_of ha' rfl hf (JX (JX (wpAny_askSetting (JZ ?_)))))
 refine rT (if_neg (by rw [show (Setting.params ⟨(model prog w).prog,(model prog w).w.params⟩).followText "set-order" = false from hB];exact Bool.false_ne_true)) ?_
 refine (?_:wpAny _ _ (if (!t.plain&&decide (es.size>1))=true then _ else ((if (!t.led&&!es.isEmpty)=true then unsupported "set:maker-not-led" else pure ()) >>= fun _=>_)) _ _ _)
 refine rT hD ?_;refine rT hled ?_
 refine JZ ⟨rfl,?_⟩
 have hbel:SetTable.below t.place (qV t i)=i:=by
  obtain⟨b1,b2⟩:=u8 hr
  cases i with
  |zero=>exact b1
  |succ i =>
   have e:=Lx (hsz.symm▸hi:i<t.place.size)
   have:=b2 i _ e
   refine (?_:SetTable.below t.place (t.place.getD i 0+1)=i+1)
   refine rT Array.getD_eq_getD_getElem? ?_;refine rT e ?_
   exact this
 refine rT hbel ?_
 rw [Array.getElem?_toList] at hq
 revert hq
 cases q:es[i]? with
 |none=>exact fun hq=>hq
 |some e =>
  have hi':i<t.place.size:=hsz.symm▸(Array.getElem?_eq_some_iff.mp q).1
  have ep':=Lx hi'
  refine rT ep' ?_
  have hs:qV t (i+1)=t.place[i]'hi'+1:=by
   refine (?_:t.place.getD i 0+1=_)
   refine rT Array.getD_eq_getD_getElem? ?_;refine rT ep' ?_;rfl
  intro hq
  dsimp only at hq ⊢
  rw [hs] at hq
  exact hq
theorem ij {α:Type} {P:α→Prop} {x:α} (h:P x):∀ p∈[x],P p:=fun _ hp=>Ke.mp hp▸h
theorem qX {α:Type} {P:α→Prop} {x y:α} (h:P x) (k:P y):∀ p∈[x,y],P p:=fun _ hp=>(KJ.mp hp).elim (fun e=>e▸h) fun hp=>Ke.mp hp▸k
theorem tc {c:String} {a:Addr} {es:Array (Int×Value)} {ep:Nat} {t:SetTable} {Q:Value→Shared→Prop} (hc:c = "set") (ha:s.heap.get? a=some (aj c es ep t)) (hf:t.fits es.size=true) (hb:es.size<scanBound) (hl:w.params.followText "set-order" = true∨t.led=true) (hr:de t.place)
  (h:∀ (ws:List (Int×Value)) (I:Addr) (fp:List Addr) (h':Heap) (dr:Drawn) (St:Nat→Heap→Prop),He prog w s a es ep t ws I fp h' St→Q (.ref I) { s with heap:=h',drawn:=dr }) :
  wpAny (model prog w) A (pyIter (.ref a)) Q E s:=by
 subst hc
 have hT:s.TypeIs (.ref a) "set" := ⟨_,ha,rfl⟩
 have hne:a≠s.heap.objs.size:=Lq (Kw ha)
 refine wpAny_pyIter_slot hT F.slot_set_iter (wpAny_call_entry F.slot_set_iter hT nb ?_ (F.args_set_iter_1 _))
 refine (?_:wpAny _ _ (Builtin.Frozenset.sizeOf a >>= _) _ _ s)
 refine JX (JX (wpAny_setEntries_of ha rfl hf (JZ ?_)))
 refine (?_:wpAny _ _ (setDrawn a >>= _) _ _ s)
 refine JX (JX (wpAny_setState_of ha rfl hf (JX (JX (wpAny_askSetting (JZ (JZ ?_)))))))
 refine (?_:wpAny _ _ (if ((!(Setting.params ⟨(model prog w).prog,(model prog w).w.params⟩).followText "set-order")&&(!t.plain&&decide (es.size>1)))=true then _ else _) _ _ s)
 cases hB:(Setting.params ⟨(model prog w).prog,(model prog w).w.params⟩).followText "set-order" with
 |true =>
  refine rT (if_neg (by simp)) ?_
  refine JX (JZ ?_)
  refine (?_:wpAny _ _ (setEpoch a >>= _) _ _ s)
  refine JX (wpAny_setEpoch_of ha rfl hf (JX (wpAny_newObj_type (JZ ⟨_,rfl, "set_iterator",_,⟨_,Kj _ rfl,rfl⟩,aF.lookup,?_⟩))))
  exact h _ _ _ _ s.drawn _ (qW (first:=fun _=>rawInt 0) (p5 _ _) (qQ _ _ (KX _)) (fun b o e=>Kx _ e) (Heap.size_push ..▸Nat.le_succ _) Ka (ij (.inl rfl)) (ij hne) ⟨Kj _ rfl,ij (Kx _ ha)⟩ fun A hA=>DE hA hf hB)
 |false =>
  have hled:t.led=true:=hl.resolve_left fun q=>Bool.noConfusion (hB.symm.trans q)
  cases hD:(!t.plain&&decide (es.size>1)) with
  |true =>
   refine rT (if_pos (by rfl)) ?_
   refine JX (ng _ _ _ _ List.length_range fun ps dr hps => ?_)
   have hpl:ps.length=es.size:=hps.length_eq.trans List.length_range
   refine JX (wpAny_newTuple ?_ (by refine rT (List.length_map ..) ?_;refine rT hpl ?_;exact fits_of_scanBound hb))
   refine (?_:wpAny _ _ (setEpoch a >>= _) _ _ _)
   have ha1:(s.heap.push { cls := .type "tuple",data := .seq (ps.map fun (i:Nat)=>rawInt i).toArray }).get? a=some (aj "set" es ep t):=Kx _ ha
   refine JX (wpAny_setEpoch_of ha1 rfl hf (JX (wpAny_newObj_type (JZ ⟨_,rfl, "set_iterator",_,⟨_,Kj _ rfl,rfl⟩,aF.lookup,?_⟩))))
   have hTt:(s.heap.push { cls := .type "tuple",data := .seq (ps.map fun (i:Nat)=>rawInt i).toArray }).get? s.heap.objs.size=some (fL (ps.map fun (i:Nat)=>rawInt i) 0):=Kj _ rfl
   generalize hh1:s.heap.push { cls := .type "tuple",data := .seq (ps.map fun (i:Nat)=>rawInt i).toArray }=h1 at *
   have hz:s.heap.objs.size≤h1.objs.size:=by refine rB hh1 ?_;refine rT (Heap.size_push ..) ?_;exact Nat.le_succ _
   have kk:cD s.heap h1:=fun b o e=>hh1▸Kx _ e
   exact h _ _ _ _ dr _ (qW (first:=fun _ => .ref s.heap.objs.size) ((hps.filterMap _).trans (by rw [filterMap_getElem?_range])) (qQ _ _ hz) (fun b o e=>Kx _ (kk b o e)) (Heap.size_push ..▸Nat.le_succ_of_le hz) Ka (qX (.inl rfl) (.inr (qQ _ _ (KX _)))) (qX (Lq (Kw ha1)) (Lq (Kw hTt))) ⟨Kj _ rfl,qX (Kx _ ha1) (Kx _ hTt)⟩ fun A hA=>A5 hA hf hps (Lq (Kw hTt)))
  |false =>
   refine rT (if_neg (by simp)) ?_
   refine JX (JZ ?_)
   refine (?_:wpAny _ _ (setEpoch a >>= _) _ _ s)
   refine JX (wpAny_setEpoch_of ha rfl hf (JX (wpAny_newObj_type (JZ ⟨_,rfl, "set_iterator",_,⟨_,Kj _ rfl,rfl⟩,aF.lookup,?_⟩))))
   exact h _ _ _ _ s.drawn _ (qW (first:=fun i=>rawInt (qV t i)) (List.Perm.refl _) (qQ _ _ (KX _)) (fun b o e=>Kx _ e) (Heap.size_push ..▸Nat.le_succ _) Ka (ij (.inl rfl)) (ij hne) ⟨Kj _ rfl,ij (Kx _ ha)⟩ fun A hA=>yu hA hf hr hB hled hD)
end
section
variable {A:Around} {d:Nat} {R:RM} {ρ:List Addr} {s s':Shared} {H:AH} {O:Addr→Prop}
theorem Mv.grow' (k:cD s.heap s'.heap) (hg:s'.gens=s.gens) (ho:s'.os=s.os):Mv O R ρ s R ρ s' :=
 (MvS.mv ⟨fun b o e _ _=>k b o e,fun b=>lv (k b),hg,ho⟩)
theorem lB {l:List AV} {o:Obj} (h:qC l o):∃ es ep t,o=aj "set" es ep t∧t.fits es.size=true∧es.size<scanBound∧(X.w.params.followText "set-order" = true∨t.led=true)∧de t.place∧es.size=l.length ∧
  (∀ a,l=[a]→∃ e,es.toList=[e]∧∀ R ρ,Rel R ρ a e.2):=by
 rcases h with ⟨ns,es,ep,t,rfl,hlen,rfl,D⟩|⟨rfl,h,ep,t,rfl,hf,hl⟩
 ·refine⟨es,ep,t,rfl,D.fit,D.b,D.led,D.rise,by refine rT D.sz ?_;exact rT (List.length_map ..) rfl,fun a ha => ?_⟩
  cases ns with
  |nil=>cases ha
  |cons n ns =>
   cases ns with
   |cons _ _=>simp at ha
   |nil =>
    simp at ha
    subst ha
    have hs:=D.sz
    obtain⟨es⟩:=es
    rcases es with _|⟨e,_|⟨e',r⟩⟩
    ·simp at hs
    ·refine⟨e,rfl,fun R ρ => ?_⟩
     obtain⟨⟨k,hk,_⟩,_⟩:=D.el e (by simp)
     have hkn:k=n:=by
      have:=(D.mem k).mpr ⟨e,by simp,hk⟩
      simpa using this
     subst hkn
     obtain⟨h,x⟩:=e
     have hk':Value.isInt k x=true:=hk
     cases x<;>simp [Value.isInt] at hk'
     subst hk'
     exact⟨_,rfl⟩
    ·simp at hs
 ·refine⟨_,ep,t,rfl,hf,(by refine (?_:(1:Nat)<4096);decide),hl,?_,rfl,fun a ha => ?_⟩
  ·have:t.place.size=1:=by
    unfold SetTable.fits at hf
    simp only [Bool.and_eq_true,beq_iff_eq] at hf
    exact hf.1
   generalize t.place=P at this
   obtain⟨p⟩:=P
   rcases p with _|⟨x,_|⟨y,r⟩⟩
   ·exact List.Pairwise.nil
   ·exact List.pairwise_singleton _ _
   ·simp at this
  ·simp at ha
   subst ha
   exact⟨_,rfl,fun R ρ=>rfl⟩
theorem DG {a:AV} {cv:Value} (room:aI A d) (g:ag R ρ H s.heap) (r:Rel R ρ (.set [a]) cv):EvP A (unpackItems cv 1 none) R ρ s [a] ai H:=by
 obtain⟨ad,o,rfl,e1,e2⟩:=r
 obtain⟨es,ep,t,rfl,hf,hb,hl,hr,_,hone⟩:=lB e2
 obtain⟨e,hes,hre⟩:=hone a rfl
 have hget:=g.froz _ _ e1
 refine JX (JX (wpAny_specialOf ⟨_,hget,rfl⟩ F.slot_set_iter.lookup ?_))
 refine JZ ?_
 refine JX (JY (tc rfl hget hf hb hl hr fun ws I fp h' dr St ⟨hws,hI,hfp,hIf,hfp2,hk,hle,hst,W,st0⟩ => ?_))
 have hsz:es.size=1:=by refine rB Array.length_toList ?_;refine rT hes ?_;rfl
 have hw:ws=[e]:=by rw [hes] at hws;exact List.perm_singleton.mp hws
 subst hw
 have W':=W A room.h
 rw [hsz] at W'
 refine JX (JY ?_)
 refine (?_:wpAny _ _ (pyNext (.ref I) >>= _) _ _ _)
 refine JX (W'.item 0 _ _ _ (by exact Nat.le.refl) st0 fun v h2 tk2 hv st1 k2 => ?_)
 obtain⟨e',q1,rfl⟩:=hv
 simp at q1
 subst q1
 refine JX (JY (JZ (JZ ?_)))
 refine JX (JY (W'.done _ _ _ st1 fun h3 tk3 k3 => ?_))
 refine JZ ⟨R,ρ,Mv.grow' (fun b o q => ?_) rfl rfl,g.grow fun b o q => ?_,.one (hre R ρ)⟩
 all_goals
  have hbI:b∉[I]:=fun hb=>by rw [List.mem_singleton] at hb;subst hb;rw [hI] at q;cases q
  exact k3 b o hbI (k2 b o hbI (hk b o q))
theorem DH {a:Addr} {vs:List Value} {n:Nat} {v:Value} {Q:Value→Shared→Prop} (hl:s.heap.get? a=some (aN vs n)) (hlen:vs.length<1000000) (h:∀ h' n',h'.get? a=some (aN (vs++[v]) n')→(∀ b o,b≠a→s.heap.get? b=some o→h'.get? b=some o)→Q .none { s with heap:=h' }):wpAny X.M A (call (.builtin "list.append") [.ref a,v]) Q NoE s :=
 mT hl (by refine rT sizeLine_eq ?_;exact KW (Kd hlen (by decide))) fun h' n' e k=>h h' n' e fun b o hb q=>k.extBut _ _ hb q
theorem DI {H':AH} {i:Int} {t:Sem Value} {b:Bool} (g:ag R ρ H s.heap) (h:∀ s₁,Mv No R ρ s R ρ s₁→ag R ρ H s₁.heap→EvT A t R ρ s₁ (.int i) H'):EvT A (setDisplay .oneByOne b [(false,t)]) R ρ s (.set [.int i]) H':=by
 unfold EvT setDisplay
 refine rT (if_neg (by decide)) ?_
 refine JX (jv fun led hled => ?_)
 have hn:=b6 s.heap
 have k0:∀ b o,s.heap.get? b=some o→(s.heap.push (aj "set" #[] 0 (.fresh 0 0 led))).get? b=some o:=fun b o e=>Kx _ e
 have m0:Mv No R ρ s R ρ { s with heap:=s.heap.push (aj "set" #[] 0 (.fresh 0 0 led)) }:=Mv.grow (tk:=s.toks) k0
 have hD:(s.heap.push (aj "set" #[] 0 (.fresh 0 0 led))).get? s.heap.objs.size=some (aj "set" #[] 0 (.fresh 0 0 led)):=Kj _ rfl
 dsimp only
 refine JX (JY ?_)
 have hall:((List.take (if [(false,t)].length>30 then 0 else ([(false,t)].findIdx? (·.1)).getD [(false,t)].length) [(false,t)]).map (·.2))=[t]:=rfl
 have hdrop:(List.drop (if [(false,t)].length>30 then 0 else ([(false,t)].findIdx? (·.1)).getD [(false,t)].length) [(false,t)])=[]:=rfl
 refine rT hall ?_;refine rT hdrop ?_
 refine JX ?_
 refine (?_:wpAny _ _ (t >>= fun v=>holding [v] (evalAll []) >>= fun r=>pure (v::r)) _ _ _)
 refine JX ((h _ m0 (g.grow k0)).wp fun R1 ρ1 cv s1 m1 g1 r1 => ?_)
 obtain⟨tk,rfl⟩:=r1
 refine JX (JY (JZ (JZ ?_)))
 have hρ:s.heap.objs.size∉ρ:=g.not_mem_new hn
 have hD1:=m1.keep _ _ hD hρ (fun q=>q)
 refine JX (JY ?_)
 refine rT (List.forIn_cons ..) ?_
 refine JX (JX (JX ?_))
 refine JY (JX ((intKind X.prog X.w).pyHash (k:=i) (intKind_is _ _ _ _) ?_))
 refine hU (s:={ s1 with toks:=s1.toks+1 }) (knd:=intKind X.prog X.w) hD1 (au.fresh hled) (intKind_is _ _ _ _) rfl (by decide) fun es' ep' t' D' => ?_
 refine JZ (JZ ?_)
 refine rT (if_neg (by decide)) ?_
 refine JZ ?_
 refine rT List.forIn_nil ?_
 refine JX (JZ (JZ (JZ ?_)))
 have hRn:R1 s.heap.objs.size=none:=by
  cases q:R1 s.heap.objs.size with
  |none=>rfl
  |some o =>
   rcases m1.rn _ _ q with q'|q'
   ·rw [g.none_of_new hn] at q';cases q'
   ·rw [hD] at q';cases q'
 have hρ1:s.heap.objs.size∉ρ1:=fun hm=>by
  rcases m1.sub hm with q|q
  ·exact hρ q
  ·rw [hD] at q;cases q
 have hne:∀ c,c≠s.heap.objs.size→(s1.heap.update s.heap.objs.size fun _=>aj "set" es' ep' t').get? c=s1.heap.get? c:=fun c hc=>aA hc
 have g2:ag R1 ρ1 H' (s1.heap.update s.heap.objs.size fun _=>aj "set" es' ep' t'):=g1.tail hRn hρ1 hne
 have m2:Mv No R ρ s R1 ρ1 { s1 with heap:=s1.heap.update s.heap.objs.size (fun _=>aj "set" es' ep' t'),toks:=s1.toks+1 }:=by
  have:=(m0.trans m1).tail (h':=s1.heap.update s.heap.objs.size fun _=>aj "set" es' ep' t') hn hne
  exact⟨this.r,this.rn,this.p,this.keep,this.live,this.gens,this.os⟩
 have hget:(s1.heap.update s.heap.objs.size fun _=>aj "set" es' ep' t').get? s.heap.objs.size=some (aj "set" es' ep' t'):=cb hD1 rfl
 have hadd:∀ b o',R1 b=some o'→R1.add s.heap.objs.size (aj "set" es' ep' t') b=some o':=fun b o' e=>RM.add_old e hRn
 refine⟨R1.add s.heap.objs.size (aj "set" es' ep' t'),ρ1,⟨fun b o' e=>hadd b o' (m2.r b o' e),fun b o' e => ?_,m2.p,m2.keep,m2.live,m2.gens,m2.os⟩,⟨fun b o' e=>hadd b o' (g2.base b o' e),fun b o' e => ?_,g2.nd,fun b hb => ?_,g2.len,fun j ob b e1 e2=>(g2.objs j ob b e1 e2).mono hadd (fun _ _ h=>h) fun ob h=>h⟩,?_⟩
 ·unfold RM.add at e
  split at e
  ·subst b;exact .inr hn
  ·exact m2.rn _ _ e
 ·unfold RM.add at e
  split at e
  ·cases e;subst b;exact hget
  ·exact g2.froz b o' e
 ·unfold RM.add
  split
  ·subst b;exact absurd hb hρ1
  ·exact g2.off b hb
 ·exact⟨_,_,rfl,RM.add_self,.inl ⟨[i],es',ep',t',rfl,(by refine (?_:(1:Nat)<1000);decide),rfl,D'⟩⟩
end
section
variable {A:Around} {d:Nat} {R:RM} {ρ:List Addr} {s:Shared} {H:AH}
theorem A6 {A:Around} (h:A.units+10<cLine):A.in1.units+4<cLine:=by exact KQ (Nat.add_le_add_left (by decide:5≤10) A.units) h
theorem A7 {I S ax:Addr} {vs:List Value} {nn:Nat} {l:List AV} {res:AV} {Q:Result→Shared→Prop} (hh:A.handled=none) (hu:A.units+10<cLine) (hIS:I≠S) (hIx:ax≠I) (hSx:ax≠S) (hRI:R I=none) (hRS:R S=none) (rl:ai R ρ l vs) :
  ∀ (rest:List AV) (i:Nat) (s:Shared) (m:AV) (vb:Value) (c:Nat),l.drop i=rest→rest.foldlM (lj ltv) m=some res→Rel R ρ m vb→s.heap.IsListIter I ax i→s.heap.get? ax=some (aN vs nn)→s.heap.get? S=some (aN [vb,vb] c)→(∀ a o,R a=some o→s.heap.get? a=some o) →
  (∀ v h' tk,Rel R ρ res v→(∀ b o,b≠I→b≠S→s.heap.get? b=some o→h'.get? b=some o)→Q (.ok (.ret v)) { s with heap:=h',toks:=tk }) →
  codeAny X.M A (.builtin "min.loop" ⟨[.ref I,.none,.ref S],[]⟩) Q s:=by
 have hname:(toString "min" ++ toString ".loop" : String) = "min.loop" := by decide
 intro rest
 induction rest with
 |nil =>
  intro i s m vb c hd hf hm hI hx hS hfr hQ
  cases hf
  have hend:vs.toArray[i]?=none:=List.getElem?_toArray.trans (List.getElem?_eq_none (rl.length▸List.drop_eq_nil_iff.mp hd))
  refine codeAny_builtin F.entry_min_loop ?_
  refine rT (Kz F.plain_min_loop _) ?_
  refine (?_:wpAny _ A.in1 (seqItems? (.ref S) >>= _) _ _ s)
  refine JX (wpAny_seqItems hS rfl ?_)
  refine (?_:wpAny _ A.in1 (tryCatch (pyNext (.ref I)) _ >>= _) _ _ s)
  refine JX (wpAny_tryCatch (wpAny_pyNext_list_end hh hI (ay hx) hend fun h' hk => ?_))
  have hS':=hk S _ (Ne.symm hIS) hS
  refine (?_:wpAny _ A.in1 (updateSeq S (fun _=>#[]) >>= _) _ _ _)
  refine JX ?_
  refine wpAny_updateSeq hS' rfl (JX (wpAny_letGo (JZ ?_)))
  exact hQ vb _ s.toks hm fun b o hbI hbS e=>(aA hbS).trans (hk b o hbI e)
 |cons x rest ih =>
  intro i s m vb c hd hf hm hI hx hS hfr hQ
  have hli:l[i]?=some x:=by refine rB List.head?_drop ?_;refine rT hd ?_;rfl
  have hd':l.drop (i+1)=rest:=by
   refine rB List.drop_drop ?_;refine rT hd ?_;rfl
  obtain⟨v,hv,rv⟩:=rl.get hli
  refine ob hf fun m2 hm2 hf=>ob hm2 fun b hb hm2 => ?_
  refine codeAny_builtin F.entry_min_loop ?_
  refine rT (Kz F.plain_min_loop _) ?_
  refine (?_:wpAny _ A.in1 (seqItems? (.ref S) >>= _) _ _ s)
  refine JX (wpAny_seqItems hS rfl ?_)
  refine (?_:wpAny _ A.in1 (tryCatch (pyNext (.ref I)) _ >>= _) _ _ s)
  refine JX (wpAny_tryCatch (wpAny_pyNext_list_item hI (ay hx) (x:=v) (List.getElem?_toArray.trans hv) fun h' hI' hk => ?_))
  have hS':=hk.extBut S _ (Ne.symm hIS) hS
  have hx':=hk.extBut ax _ hIx hx
  have hfr':∀ a o,R a=some o→h'.get? a=some o:=fun a o e=>hk.extBut a o (fun q=>by rw [q,hRI] at e;cases e) (hfr a o e)
  refine (?_:wpAny _ A.in1 (tryCatch (holding [v,v] (richCompare .Lt v vb >>= _)) _ >>= _) _ _ _)
  refine JX (wpAny_tryCatch (JY (JX ((EL (R:=R) (ρ:=ρ) 4 x m b A.in1 _ v vb hb (A6 hu) hfr' rv hm) _ _ _ _ ?_))))
  refine JX (JY (wpAny_truthy_bool ?_))
  refine JX (wpAny_letGo (JZ ?_))
  cases b with
  |true =>
   cases hm2
   refine rT (if_pos rfl) ?_
   refine JX ?_
   refine wpAny_updateSeq hS' rfl (JX (wpAny_letGo ?_))
   refine rT hname ?_
   obtain⟨c',hc'⟩:=cc (s:={ s with heap:=h' }) (fun _=>#[v,v]) hS'
   refine JZ ⟨plainId_quiet F.plain_min_loop _,ih (i+1) _ x v c' hd' hf rv (hI'.at fun o e=>(aA hIS).trans e) ((aA hSx).trans hx') hc' (fun a o e=>(aA (fun q=>by rw [q,hRS] at e;cases e)).trans (hfr' a o e)) fun v' h'' tk'' r' k' => ?_⟩
   exact hQ v' h'' tk'' r' fun b o hbI hbS e=>k' b o hbI hbS ((aA hbS).trans (hk.extBut b o hbI e))
  |false =>
   cases hm2
   refine rT (if_neg Bool.false_ne_true) ?_
   refine JX (wpAny_letGo ?_)
   refine rT hname ?_
   refine JZ ⟨plainId_quiet F.plain_min_loop _,ih (i+1) _ m vb c hd' hf hm hI' hx' hS' hfr' fun v' h'' tk'' r' k' => ?_⟩
   exact hQ v' h'' tk'' r' fun b o hbI hbS e=>k' b o hbI hbS (hk.extBut b o hbI e)
theorem A8 {ax:Addr} {vs:List Value} {nn:Nat} {x:AV} {l:List AV} {res:AV} {Q:Value→Shared→Prop} (room:aI A d) (hfr:∀ a o,R a=some o→s.heap.get? a=some o) (hx:s.heap.get? ax=some (aN vs nn)) (rl:ai R ρ (x::l) vs) (hf:l.foldlM (lj ltv) x=some res)
  (hQ:∀ v h' tk,Rel R ρ res v→(cD s.heap h')→Q v { s with heap:=h',toks:=tk }):wpAny X.M A (call (.builtin "min") [.ref ax]) Q NoE s:=by
 have hname:(toString "min" ++ toString ".loop" : String) = "min.loop" := by decide
 refine call_function_tree F.kind_min F.plain_min F.entry_min (F.args_min1 _) ?_
 refine (?_:wpAny _ A.in1 (Builtin.Builtins.bindParams "min" ["key", "default"] 0 ⟨[],[]⟩ >>= _) _ _ s)
 refine JX (wpAny_of_eq (show Builtin.Builtins.bindParams "min" ["key", "default"] 0 ⟨[],[]⟩=pure [none,none] from rfl) ?_)
 refine JX (JZ ?_)
 refine JX (wpAny_pyIter_list (ay hx) ?_)
 refine JX (wpAny_newObj_type ?_)
 refine rT hname ?_
 have hax:ax<s.heap.objs.size:=Kw hx
 have hz:(s.heap.push { cls := .type "list_iterator",data := .fields #[.ref ax,.int 0 0] }).objs.size=s.heap.objs.size+1:=Heap.size_push ..
 have hS:((s.heap.push { cls := .type "list_iterator",data := .fields #[.ref ax,.int 0 0] }).push { cls := .type "list",data := .seq ([]:List Value).toArray }).get? (s.heap.push { cls := .type "list_iterator",data := .fields #[.ref ax,.int 0 0] }).objs.size=some (aN [] 0):=Kj _ rfl
 have hI:((s.heap.push { cls := .type "list_iterator",data := .fields #[.ref ax,.int 0 0] }).push { cls := .type "list",data := .seq ([]:List Value).toArray }).IsListIter s.heap.objs.size ax 0:=⟨_,Kx _ (Kj _ rfl),rfl,rfl⟩
 have k0:∀ b o,s.heap.get? b=some o→((s.heap.push { cls := .type "list_iterator",data := .fields #[.ref ax,.int 0 0] }).push { cls := .type "list",data := .seq ([]:List Value).toArray }).get? b=some o:=fun b o e=>Kx _ (Kx _ e)
 generalize (s.heap.push { cls := .type "list_iterator",data := .fields #[.ref ax,.int 0 0] }).push { cls := .type "list",data := .seq ([]:List Value).toArray }=h1 at hS hI k0 ⊢
 have hIS:s.heap.objs.size≠(s.heap.push { cls := .type "list_iterator",data := .fields #[.ref ax,.int 0 0] }).objs.size:=by refine rT hz ?_;exact Lq (Nat.lt_succ_self _)
 have hSx:ax≠(s.heap.push { cls := .type "list_iterator",data := .fields #[.ref ax,.int 0 0] }).objs.size:=by refine rT hz ?_;exact Lq (Nat.lt_succ_of_lt hax)
 have hRn:∀ b,s.heap.objs.size≤b→R b=none:=fun b hb=>by
  cases e:R b with
  |none=>rfl
  |some o=>exact absurd (Kw (hfr b o e)) (Nat.not_lt.mpr hb)
 have hRS:R (s.heap.push { cls := .type "list_iterator",data := .fields #[.ref ax,.int 0 0] }).objs.size=none:=hRn _ (by refine rT hz ?_;exact Kf s.heap.objs.size 1)
 have hold:∀ b o,s.heap.get? b=some o→b≠s.heap.objs.size∧b≠(s.heap.push { cls := .type "list_iterator",data := .fields #[.ref ax,.int 0 0] }).objs.size:=fun b o e=>by
  have hlt:=Kw e
  refine rT hz ?_
  exact⟨Lq hlt,Lq (Nat.lt_succ_of_lt hlt)⟩
 generalize (s.heap.push { cls := .type "list_iterator",data := .fields #[.ref ax,.int 0 0] }).objs.size=S at hS hIS hSx hRS hold ⊢
 obtain⟨v0,r0,rfl,rx,rl'⟩:=id rl
 refine JZ ⟨plainId_quiet F.plain_min_loop _,?_⟩
 refine codeAny_builtin F.entry_min_loop ?_
 refine rT (Kz F.plain_min_loop _) ?_
 refine (?_:wpAny _ A.in1 (seqItems? (.ref S) >>= _) _ _ _)
 refine JX (wpAny_seqItems hS rfl ?_)
 refine (?_:wpAny _ A.in1 (tryCatch (pyNext (.ref s.heap.objs.size)) _ >>= _) _ _ _)
 refine JX (wpAny_tryCatch (wpAny_pyNext_list_item hI (ay (k0 _ _ hx)) (x:=v0) rfl fun h' hI' hk => ?_))
 have hS':=hk.extBut S _ (Ne.symm hIS) hS
 refine (?_:wpAny _ A.in1 (updateSeq S (fun _=>#[v0,v0]) >>= _) _ _ _)
 refine JX ?_
 refine wpAny_updateSeq hS' rfl ?_
 refine rT hname ?_
 obtain⟨c',hc'⟩:=cc (s:={ s with heap:=h' }) (fun _=>#[v0,v0]) hS'
 refine JZ ⟨plainId_quiet F.plain_min_loop _,A7 (res:=res) room.h (KZ (KZ (Nat.add_lt_add_left (by decide:10<100) A.units) (Nat.add_le_add_right (Kf _ _) 100)) room.units) hIS (Lq hax) hSx (hRn _ (KX _)) hRS rl l 1 _ x v0 c' rfl hf rx (hI'.at fun o e=>(aA hIS).trans e) ((aA hSx).trans (hk.extBut _ _ (Lq hax) (k0 _ _ hx))) hc' (fun a o e => ?_) fun v h'' tk r' k' => ?_⟩
 ·obtain⟨q1,q2⟩:=hold a o (hfr a o e)
  exact (aA q2).trans (hk.extBut a o q1 (k0 a o (hfr a o e)))
 ·refine hQ v h'' tk r' fun b o e => ?_
  obtain⟨q1,q2⟩:=hold b o e
  exact k' b o q1 q2 ((aA q2).trans (hk.extBut b o q1 (k0 b o e)))
theorem A9 {I S ax:Addr} {vs:List Value} {nn:Nat} {l:List AV} {res:AV} {Q:Result→Shared→Prop} (hh:A.handled=none) (hu:A.units+10<cLine) (hIS:I≠S) (hIx:ax≠I) (hSx:ax≠S) (hRI:R I=none) (hRS:R S=none) (rl:ai R ρ l vs) :
  ∀ (rest:List AV) (i:Nat) (s:Shared) (m:AV) (vb:Value) (c:Nat),l.drop i=rest→rest.foldlM (lj gtv) m=some res→Rel R ρ m vb→s.heap.IsListIter I ax i→s.heap.get? ax=some (aN vs nn)→s.heap.get? S=some (aN [vb,vb] c)→(∀ a o,R a=some o→s.heap.get? a=some o) →
  (∀ v h' tk,Rel R ρ res v→(∀ b o,b≠I→b≠S→s.heap.get? b=some o→h'.get? b=some o)→Q (.ok (.ret v)) { s with heap:=h',toks:=tk }) →
  codeAny X.M A (.builtin "max.loop" ⟨[.ref I,.none,.ref S],[]⟩) Q s:=by
 have hname:(toString "max" ++ toString ".loop" : String) = "max.loop" := by decide
 intro rest
 induction rest with
 |nil =>
  intro i s m vb c hd hf hm hI hx hS hfr hQ
  cases hf
  have hend:vs.toArray[i]?=none:=List.getElem?_toArray.trans (List.getElem?_eq_none (rl.length▸List.drop_eq_nil_iff.mp hd))
  refine codeAny_builtin F.entry_max_loop ?_
  refine rT (Kz F.plain_max_loop _) ?_
  refine (?_:wpAny _ A.in1 (seqItems? (.ref S) >>= _) _ _ s)
  refine JX (wpAny_seqItems hS rfl ?_)
  refine (?_:wpAny _ A.in1 (tryCatch (pyNext (.ref I)) _ >>= _) _ _ s)
  refine JX (wpAny_tryCatch (wpAny_pyNext_list_end hh hI (ay hx) hend fun h' hk => ?_))
  have hS':=hk S _ (Ne.symm hIS) hS
  refine (?_:wpAny _ A.in1 (updateSeq S (fun _=>#[]) >>= _) _ _ _)
  refine JX ?_
  refine wpAny_updateSeq hS' rfl (JX (wpAny_letGo (JZ ?_)))
  exact hQ vb _ s.toks hm fun b o hbI hbS e=>(aA hbS).trans (hk b o hbI e)
 |cons x rest ih =>
  intro i s m vb c hd hf hm hI hx hS hfr hQ
  have hli:l[i]?=some x:=by refine rB List.head?_drop ?_;refine rT hd ?_;rfl
  have hd':l.drop (i+1)=rest:=by
   refine rB List.drop_drop ?_;refine rT hd ?_;rfl
  obtain⟨v,hv,rv⟩:=rl.get hli
  refine ob hf fun m2 hm2 hf=>ob hm2 fun b hb hm2 => ?_
  refine codeAny_builtin F.entry_max_loop ?_
  refine rT (Kz F.plain_max_loop _) ?_
  refine (?_:wpAny _ A.in1 (seqItems? (.ref S) >>= _) _ _ s)
  refine JX (wpAny_seqItems hS rfl ?_)
  refine (?_:wpAny _ A.in1 (tryCatch (pyNext (.ref I)) _ >>= _) _ _ s)
  refine JX (wpAny_tryCatch (wpAny_pyNext_list_item hI (ay hx) (x:=v) (List.getElem?_toArray.trans hv) fun h' hI' hk => ?_))
  have hS':=hk.extBut S _ (Ne.symm hIS) hS
  have hx':=hk.extBut ax _ hIx hx
  have hfr':∀ a o,R a=some o→h'.get? a=some o:=fun a o e=>hk.extBut a o (fun q=>by rw [q,hRI] at e;cases e) (hfr a o e)
  refine (?_:wpAny _ A.in1 (tryCatch (holding [v,v] (richCompare .Gt v vb >>= _)) _ >>= _) _ _ _)
  refine JX (wpAny_tryCatch (JY (JX ((G5 (R:=R) (ρ:=ρ) 4 x m b A.in1 _ v vb hb (A6 hu) hfr' rv hm) _ _ _ _ ?_))))
  refine JX (JY (wpAny_truthy_bool ?_))
  refine JX (wpAny_letGo (JZ ?_))
  cases b with
  |true =>
   cases hm2
   refine rT (if_pos rfl) ?_
   refine JX ?_
   refine wpAny_updateSeq hS' rfl (JX (wpAny_letGo ?_))
   refine rT hname ?_
   obtain⟨c',hc'⟩:=cc (s:={ s with heap:=h' }) (fun _=>#[v,v]) hS'
   refine JZ ⟨plainId_quiet F.plain_max_loop _,ih (i+1) _ x v c' hd' hf rv (hI'.at fun o e=>(aA hIS).trans e) ((aA hSx).trans hx') hc' (fun a o e=>(aA (fun q=>by rw [q,hRS] at e;cases e)).trans (hfr' a o e)) fun v' h'' tk'' r' k' => ?_⟩
   exact hQ v' h'' tk'' r' fun b o hbI hbS e=>k' b o hbI hbS ((aA hbS).trans (hk.extBut b o hbI e))
  |false =>
   cases hm2
   refine rT (if_neg Bool.false_ne_true) ?_
   refine JX (wpAny_letGo ?_)
   refine rT hname ?_
   refine JZ ⟨plainId_quiet F.plain_max_loop _,ih (i+1) _ m vb c hd' hf hm hI' hx' hS' hfr' fun v' h'' tk'' r' k' => ?_⟩
   exact hQ v' h'' tk'' r' fun b o hbI hbS e=>k' b o hbI hbS (hk.extBut b o hbI e)
theorem Ba {ax:Addr} {vs:List Value} {nn:Nat} {x:AV} {l:List AV} {res:AV} {Q:Value→Shared→Prop} (room:aI A d) (hfr:∀ a o,R a=some o→s.heap.get? a=some o) (hx:s.heap.get? ax=some (aN vs nn)) (rl:ai R ρ (x::l) vs) (hf:l.foldlM (lj gtv) x=some res)
  (hQ:∀ v h' tk,Rel R ρ res v→(cD s.heap h')→Q v { s with heap:=h',toks:=tk }):wpAny X.M A (call (.builtin "max") [.ref ax]) Q NoE s:=by
 have hname:(toString "max" ++ toString ".loop" : String) = "max.loop" := by decide
 refine call_function_tree F.kind_max F.plain_max F.entry_max (F.args_max1 _) ?_
 refine (?_:wpAny _ A.in1 (Builtin.Builtins.bindParams "max" ["key", "default"] 0 ⟨[],[]⟩ >>= _) _ _ s)
 refine JX (wpAny_of_eq (show Builtin.Builtins.bindParams "max" ["key", "default"] 0 ⟨[],[]⟩=pure [none,none] from rfl) ?_)
 refine JX (JZ ?_)
 refine JX (wpAny_pyIter_list (ay hx) ?_)
 refine JX (wpAny_newObj_type ?_)
 refine rT hname ?_
 have hax:ax<s.heap.objs.size:=Kw hx
 have hz:(s.heap.push { cls := .type "list_iterator",data := .fields #[.ref ax,.int 0 0] }).objs.size=s.heap.objs.size+1:=Heap.size_push ..
 have hS:((s.heap.push { cls := .type "list_iterator",data := .fields #[.ref ax,.int 0 0] }).push { cls := .type "list",data := .seq ([]:List Value).toArray }).get? (s.heap.push { cls := .type "list_iterator",data := .fields #[.ref ax,.int 0 0] }).objs.size=some (aN [] 0):=Kj _ rfl
 have hI:((s.heap.push { cls := .type "list_iterator",data := .fields #[.ref ax,.int 0 0] }).push { cls := .type "list",data := .seq ([]:List Value).toArray }).IsListIter s.heap.objs.size ax 0:=⟨_,Kx _ (Kj _ rfl),rfl,rfl⟩
 have k0:∀ b o,s.heap.get? b=some o→((s.heap.push { cls := .type "list_iterator",data := .fields #[.ref ax,.int 0 0] }).push { cls := .type "list",data := .seq ([]:List Value).toArray }).get? b=some o:=fun b o e=>Kx _ (Kx _ e)
 generalize (s.heap.push { cls := .type "list_iterator",data := .fields #[.ref ax,.int 0 0] }).push { cls := .type "list",data := .seq ([]:List Value).toArray }=h1 at hS hI k0 ⊢
 have hIS:s.heap.objs.size≠(s.heap.push { cls := .type "list_iterator",data := .fields #[.ref ax,.int 0 0] }).objs.size:=by refine rT hz ?_;exact Lq (Nat.lt_succ_self _)
 have hSx:ax≠(s.heap.push { cls := .type "list_iterator",data := .fields #[.ref ax,.int 0 0] }).objs.size:=by refine rT hz ?_;exact Lq (Nat.lt_succ_of_lt hax)
 have hRn:∀ b,s.heap.objs.size≤b→R b=none:=fun b hb=>by
  cases e:R b with
  |none=>rfl
  |some o=>exact absurd (Kw (hfr b o e)) (Nat.not_lt.mpr hb)
 have hRS:R (s.heap.push { cls := .type "list_iterator",data := .fields #[.ref ax,.int 0 0] }).objs.size=none:=hRn _ (by refine rT hz ?_;exact Kf s.heap.objs.size 1)
 have hold:∀ b o,s.heap.get? b=some o→b≠s.heap.objs.size∧b≠(s.heap.push { cls := .type "list_iterator",data := .fields #[.ref ax,.int 0 0] }).objs.size:=fun b o e=>by
  have hlt:=Kw e
  refine rT hz ?_
  exact⟨Lq hlt,Lq (Nat.lt_succ_of_lt hlt)⟩
 generalize (s.heap.push { cls := .type "list_iterator",data := .fields #[.ref ax,.int 0 0] }).objs.size=S at hS hIS hSx hRS hold ⊢
 obtain⟨v0,r0,rfl,rx,rl'⟩:=id rl
 refine JZ ⟨plainId_quiet F.plain_max_loop _,?_⟩
 refine codeAny_builtin F.entry_max_loop ?_
 refine rT (Kz F.plain_max_loop _) ?_
 refine (?_:wpAny _ A.in1 (seqItems? (.ref S) >>= _) _ _ _)
 refine JX (wpAny_seqItems hS rfl ?_)
 refine (?_:wpAny _ A.in1 (tryCatch (pyNext (.ref s.heap.objs.size)) _ >>= _) _ _ _)
 refine JX (wpAny_tryCatch (wpAny_pyNext_list_item hI (ay (k0 _ _ hx)) (x:=v0) rfl fun h' hI' hk => ?_))
 have hS':=hk.extBut S _ (Ne.symm hIS) hS
 refine (?_:wpAny _ A.in1 (updateSeq S (fun _=>#[v0,v0]) >>= _) _ _ _)
 refine JX ?_
 refine wpAny_updateSeq hS' rfl ?_
 refine rT hname ?_
 obtain⟨c',hc'⟩:=cc (s:={ s with heap:=h' }) (fun _=>#[v0,v0]) hS'
 refine JZ ⟨plainId_quiet F.plain_max_loop _,A9 (res:=res) room.h (KZ (KZ (Nat.add_lt_add_left (by decide:10<100) A.units) (Nat.add_le_add_right (Kf _ _) 100)) room.units) hIS (Lq hax) hSx (hRn _ (KX _)) hRS rl l 1 _ x v0 c' rfl hf rx (hI'.at fun o e=>(aA hIS).trans e) ((aA hSx).trans (hk.extBut _ _ (Lq hax) (k0 _ _ hx))) hc' (fun a o e => ?_) fun v h'' tk r' k' => ?_⟩
 ·obtain⟨q1,q2⟩:=hold a o (hfr a o e)
  exact (aA q2).trans (hk.extBut a o q1 (k0 a o (hfr a o e)))
 ·refine hQ v h'' tk r' fun b o e => ?_
  obtain⟨q1,q2⟩:=hold b o e
  exact k' b o q1 q2 ((aA q2).trans (hk.extBut b o q1 (k0 b o e)))
end
section
variable {A:Around} {d:Nat} {R:RM} {ρ:List Addr} {s:Shared} {H:AH}
theorem lV (b:Array UInt8) (t:Tok):Gives (Builtin.«bytes.__len__» ⟨[.bytes b t],[]⟩) (.int b.size) :=
 .of_wp fun M A E s Q h=>by obtain⟨hp,g,d,tk,os⟩:=s;wp_walk;exact⟨_,rfl,h⟩
theorem yv {l:List AV}:∀ {ns:List Int} {vs:List Value},bE l=some ns→ai R ρ l vs→(∀ i v,vs[i]?=some v→∃ t,v=Value.int (ns.getD i 0) t)∧vs.length=ns.length:=by
 induction l with
 |nil=>intro ns vs h r;cases h;cases (show vs=[] from r);exact⟨fun i v e=>(nomatch e),rfl⟩
 |cons a l ih =>
  intro ns vs h r
  refine ob h fun n _ h=>ob h fun ms hms h=>oj h ?_
  obtain⟨v,ws,rfl,r1,r'⟩:=r
  obtain⟨t,rfl⟩:=ak n.2 r1
  obtain⟨h1,h2⟩:=ih hms r'
  refine⟨fun i v e => ?_,congrArg Nat.succ h2⟩
  cases i with
  |zero=>cases e;exact⟨t,rfl⟩
  |succ i=>exact h1 i v e
theorem yw (ns:List Int) (k:Nat):k≤ns.length→preSum (fun i=>ns.getD i 0) k=(ns.take k).sum:=by
 induction k with
 |zero=>exact fun _=>rfl
 |succ k ih =>
  intro hk
  have e:ns[k]?=some ns[k]:=Ky hk
  refine (?_:preSum (fun i=>ns.getD i 0) k+ns.getD k 0=_)
  refine rT (ih (Nat.le_of_succ_le hk)) ?_;refine rT List.take_add_one ?_;refine rT List.sum_append ?_;refine rT List.getD_eq_getElem?_getD ?_;refine rT e ?_
  refine (?_:_=_+[ns[k]].sum)
  refine rT List.sum_singleton ?_;rfl
theorem yx (ns:List Int):preSum (fun i=>ns.getD i 0) ns.length=ns.sum:=(yw ns ns.length (KX _)).trans (by exact rT List.take_length rfl)
theorem FG (bs:List Bool):(List.range bs.length).all (fun i=>bs.getD i false)=bs.all id:=by
 refine rP Bool.eq_iff_iff ?_;refine rP List.all_eq_true ?_;refine rP List.all_eq_true ?_
 constructor
 ·intro h x hx
  obtain⟨i,hi,rfl⟩:=List.getElem_of_mem hx
  have:=h i (by simpa using hi)
  rw [List.getD_eq_getElem?_getD,List.getElem?_eq_getElem hi] at this
  exact this
 ·intro h i hi
  have hi':i<bs.length:=by simpa using hi
  refine rT List.getD_eq_getElem?_getD ?_;refine rT (Ky hi') ?_
  exact h _ (List.getElem_mem hi')
theorem u9 {l:List AV}:∀ {bs:List Bool} {vs:List Value},mj l=some bs→ai R ρ l vs→(∀ (i:Nat) v,vs[i]?=some v→v=Value.bool (bs.getD i false))∧vs.length=bs.length:=by
 induction l with
 |nil=>intro ns vs h r;cases h;cases (show vs=[] from r);exact⟨fun i v e=>(nomatch e),rfl⟩
 |cons a l ih =>
  intro ns vs h r
  refine ob h fun n _ h=>ob h fun ms hms h=>oj h ?_
  obtain⟨v,ws,rfl,r1,r'⟩:=r
  cases (show v = .bool n.1 from ak n.2 r1)
  obtain⟨h1,h2⟩:=ih hms r'
  refine⟨fun i v e => ?_,congrArg Nat.succ h2⟩
  cases i with
  |zero=>cases e;rfl
  |succ i=>exact h1 i v e
theorem qY {v:AV} {cv:Value} {h':Heap} {tk:Nat} (g:ag R ρ H s.heap) (k:cD s.heap h') (r:Rel R ρ v cv):b5 R ρ s v H cv { s with heap:=h',toks:=tk } :=
 ⟨R,ρ,Mv.grow k,g.grow k,r⟩
theorem one {args:List AV} {a:{a:AV // args=[a]}} {vs:List Value} {f:Value} {w:AV} (ra:ai R ρ args vs) (k:∀ v,Rel R ρ a.1 v→EvT A (call f [v]) R ρ s w H):EvT A (call f vs) R ρ s w H:=by
 obtain⟨v,rfl,r⟩:=pU (iD a.2 ra)
 exact k v r
theorem two {args:List AV} {p:{p:AV×AV // args=[p.1,p.2]}} {vs:List Value} {f:Value} {w:AV} (ra:ai R ρ args vs) (k:∀ u v,Rel R ρ p.1.1 u→Rel R ρ p.1.2 v→EvT A (call f [u,v]) R ρ s w H):EvT A (call f vs) R ρ s w H:=by
 obtain⟨u,v,rfl,r,r'⟩:=wn (iD p.2 ra)
 exact k u v r r'
theorem qZ {n:Nat} {v:AV} {G:Prop} (h:uv n=some v) (k:n≤1000001→v = .int n→G):G:=oi h fun h1 h=>k (KW (Nat.lt_succ_of_lt h1)) (KY h).symm
theorem FH {a v:AV} {cv:Value} (g:ag R ρ H s.heap) (r:Rel R ρ a cv) (h:((bu a).elim ((bL a).elim ((mi a).elim ((fE H a).bind fun l=>uv l.length) fun l=>some (.int l.1.length)) fun b=>uv b.1.size) fun x=>uv x.1.cps.size)=some v):EvT A (call (.builtin "len") [cv]) R ρ s v H:=by
 refine oe h (fun x h=>qZ h fun h0 e => ?_) fun h=>oe h (fun b h=>qZ h fun h0 e => ?_) fun h=>oe h (fun l h=>oj h ?_) fun h=>ob h fun l hl h=>qZ h fun h0 e => ?_
 ·obtain⟨t,rfl⟩:=ak x.2 r
  exact e▸PyProof.Rows.len_str (Int.not_le.mpr (eI h0)) (aC g ⟨_,rfl⟩)
 ·obtain⟨t,rfl⟩:=ak b.2 r
  exact e▸call_len_gives (typeIs_bytes s _ t) FB.slot_bytes_len FB.entry_bytes_len (FB.args_bytes_len_1 _) (lV _ t) (Int.not_lt.mpr (Int.natCast_nonneg _)) (Int.not_le.mpr (eI h0)) (aC g ⟨_,rfl⟩)
 ·obtain⟨ad,ws,n,rfl,hk,hr⟩:=gy g r hl
  subst e
  rw [← hr.length] at h0 ⊢
  exact hk.elim (fun hk=>PyProof.Rows.len_list (ay hk) (eI h0) (aC g ⟨_,rfl⟩)) fun hk=>PyProof.Rows.len_tuple ⟨_,hk,rfl,n,rfl⟩ (eI h0) (aC g ⟨_,rfl⟩)
 ·obtain⟨a,o,rfl,e1,e2⟩:=ak l.2 r
  obtain⟨es,ep,t,rfl,hf,hb,hl,hr,hlen,_⟩:=lB e2
  refine rB hlen ?_
  exact call_len_set (g.froz _ _ e1) ⟨rfl,rfl,rfl⟩ rfl hf (eI (Kv (KW hb) (by decide))) (aC g ⟨_,rfl⟩)
theorem FI {a:AV} {l:List AV} {ns:List Int} {cv:Value} (room:aI A d) (g:ag R ρ H s.heap) (ra:Rel R ρ a cv) (hl:aY H a=some l) (hn:bE l=some ns):EvT A (call (.builtin "sum") [cv]) R ρ s (.int ns.sum) H:=by
 obtain⟨ad,ws,n,rfl,hk,hr⟩:=aQ g ra hl
 obtain⟨q1,q2⟩:=yv hn hr
 refine call_sum_walkAnyS (wpAny_pyIter_list (ay hk) ?_)
 have hax:ad<s.heap.objs.size:=Kw hk
 refine⟨_,_,_,_,_,_,_,(fun i=>ns.getD i 0),rfl,(Walks.list (A:=A.in1) room.h s.heap.objs.size ad (Lq hax) ws.toArray).toS,⟨⟨_,Kj _ rfl,rfl,rfl⟩,ay (Kx _ hk)⟩,fun b hb => ?_,fun i v e=>q1 i v (List.getElem?_toArray.symm.trans e),fun s' t' m => ?_⟩
 ·refine rT (Heap.size_push ..) ?_
  rcases KJ.mp hb with rfl|hb
  ·exact Nat.lt_succ_self _
  ·cases Ke.mp hb
   exact Nat.lt_succ_of_lt hax
 ·refine rT (show ws.toArray.size=ns.length from q2) ?_;refine rT (yx ..) ?_
  have k:cD s.heap s'.heap:=fun b o e=>m.heap b o (fun hb=>Lq (Kw e) (Ke.mp hb)) (Kx _ e)
  exact⟨R,ρ,Mv.grow' k m.gens m.os,g.grow k,t',rfl⟩
theorem FJ {a:AV} {l:List AV} {bs:List Bool} {cv:Value} (room:aI A d) (g:ag R ρ H s.heap) (ra:Rel R ρ a cv) (hl:aY H a=some l) (hn:mj l=some bs):EvT A (call (.builtin "all") [cv]) R ρ s (.bool (bs.all id)) H:=by
 obtain⟨ad,ws,n,rfl,hk,hr⟩:=aQ g ra hl
 obtain⟨q1,q2⟩:=u9 hn hr
 refine call_all_walk (wpAny_pyIter_list (ay hk) ?_)
 have hax:ad<s.heap.objs.size:=Kw hk
 refine⟨_,_,_,_,_,_,(fun i=>bs.getD i false),rfl,Walks.list (A:=A.in1) room.h s.heap.objs.size ad (Lq hax) ws.toArray,⟨⟨_,Kj _ rfl,rfl,rfl⟩,ay (Kx _ hk)⟩,fun i v s' Q E hv hq => ?_,fun h' tk k => ?_⟩
 ·refine rT (q1 i v (List.getElem?_toArray.symm.trans hv)) ?_
  exact wpAny_truthy_bool hq
 ·refine rT (show ws.toArray.size=bs.length from q2) ?_;refine rT (FG ..) ?_
  exact qY g (fun b o e=>k b o (fun hb=>Lq (Kw e) (Ke.mp hb)) (Kx _ e)) rfl
theorem FK {a v:AV} {n:String} {cu cv:Value} (g:ag R ρ H s.heap) (ra:Rel R ρ a cu) (rn:Rel R ρ (.ty n) cv) (h:((bu a).elim ((bL a).bind fun _=>if n = "bytes" then some (.bool true) else none) fun _=>if n = "str" then some (.bool true) else if n = "bytes" then some (.bool false) else none)=some v):EvT A (call (.builtin "isinstance") [cu,cv]) R ρ s v H:=by
 cases (show cv = .type n from rn)
 refine oe h (fun x h => ?_) fun h=>ob h fun b _ h=>oi h fun q h=>oj h ?_
 ·obtain⟨t,rfl⟩:=ak x.2 ra
  by_cases q:n = "str"
  ·subst q
   exact oj ((if_pos rfl).symm.trans h) (PySem.IsiPair.str_str (aD g rfl))
  ·exact oi ((if_neg q).symm.trans h) fun q h=>oj h (q▸PySem.IsiPair.str_bytes (aC g rfl))
 ·obtain⟨t,rfl⟩:=ak b.2 ra
  subst q
  exact call_isinstance_yes (Tx := "bytes") (typeIs_bytes s _ t) F.isi_meta_bytes F.sub_bytes_bytes (aD g rfl)
theorem DJ {a v:AV} {cv:Value} (g:ag R ρ H s.heap) (ra:Rel R ρ a cv) (h:((bu a).elim ((bL a).bind fun _=>some (.ty "bytes")) fun _=>some (.ty "str"))=some v):EvT A (call (.type "type") [cv]) R ρ s v H:=by
 refine oe h (fun x h=>oj h ?_) fun h=>ob h fun b _ h=>oj h ?_
 ·obtain⟨t,rfl⟩:=ak x.2 ra
  exact call_type_of (typeIs_str s _ t) (by decide) (aD g rfl)
 ·obtain⟨t,rfl⟩:=ak b.2 ra
  exact call_type_of (typeIs_bytes s _ t) (by decide) (aD g rfl)
theorem FL {c:Nat} {cv:Value} (g:ag R ρ H s.heap) (ra:Rel R ρ (.str ⟨#[c]⟩) cv):EvT A (call (.builtin "ord") [cv]) R ρ s (.int c) H:=by
 obtain⟨t,rfl⟩:=ra
 exact PySem.P.ord_of_char (aC g ⟨_,rfl⟩)
theorem FM {i:Int} {cv:Value} (g:ag R ρ H s.heap) (ra:Rel R ρ (.int i) cv) (h0:0≤i) (h1:i<128):EvT A (call (.builtin "chr") [cv]) R ρ s (.str ⟨#[i.toNat]⟩) H:=by
 obtain⟨t,rfl⟩:=ra
 exact PyProof.Rows.chr_of_range h0 (Int.le_trans (Int.le_of_lt h1) (by decide)) (aC g ⟨_,rfl⟩)
theorem FN {a v:AV} {l:List AV} {cv:Value} (room:aI A d) (g:ag R ρ H s.heap) (ra:Rel R ρ a cv) (hl:aY H a=some l) (h:CQ ltv l=some v):EvT A (call (.builtin "min") [cv]) R ρ s v H:=by
 obtain⟨ad,ws,n,rfl,hk,hr⟩:=aQ g ra hl
 cases l with
 |nil=>cases h
 |cons x l=>exact A8 room g.froz hk hr h fun v h' tk r k=>qY g k r
theorem FO {a v:AV} {l:List AV} {cv:Value} (room:aI A d) (g:ag R ρ H s.heap) (ra:Rel R ρ a cv) (hl:aY H a=some l) (h:CQ gtv l=some v):EvT A (call (.builtin "max") [cv]) R ρ s v H:=by
 obtain⟨ad,ws,n,rfl,hk,hr⟩:=aQ g ra hl
 cases l with
 |nil=>cases h
 |cons x l=>exact Ba room g.froz hk hr h fun v h' tk r k=>qY g k r
end
theorem lW:builtinKind "issubclass.nested" = none:=by decide +kernel
theorem kP:plainId "issubclass.nested" = true:=by decide +kernel
theorem jJ (a b c:Value):argsOk "issubclass.nested" ⟨[a,b,c],[]⟩:=by unfold argsOk;kernel_rfl
theorem td:typeOf (.type "str")=pure (.type "type"):=by first|exact F.isi_meta_str|kernel_rfl
theorem vc:typeOf (.type "bytes")=pure (.type "type"):=by first|exact F.isi_meta_bytes|kernel_rfl
theorem DK {n c:String} {b:Bool} (hm:typeOf (.type c)=pure (.type "type")) (hs:isSubtype (.type n) (.type c)=pure b) (dep:Int) (tk:Tok) :
  Meets (Builtin.«issubclass.nested» ⟨[.type n,.type c,.int dep tk],[]⟩) (fun _ R s=>R (.ok (.ret (.bool b))) s) :=
 fun prog w A R s hq=>by
  repeat (any_goals (first|assumption|(rw [if_pos hm])|(rw [hs])|wp_step))
  all_goals exact hq
theorem Bb {M:Model} {A:Around} {E:Value→Shared→Prop} {s:Shared} {Q:Value→Shared→Prop} {v:Value} {text:List Nat} {n:Int}
  (hs:(text.takeWhile (· != 0)).length≤640) (hr:(int_private% "readNumeral") 0 16 (text.takeWhile (· != 0))=(int_private% "Numeral.value") n)
  (ha:((text.takeWhile (· != 0)).length==text.length)=true) (h:Q (.int n s.toks) { s with toks:=s.toks+1 }) :
  wpAny M A ((int_private% "intFromText") v text 16) Q E s:=by
 obtain⟨hp,g,d,tk,os⟩:=s
 repeat (any_goals (first
  |assumption
  |(with_reducible refine wpAny_ite_true (decide_eq_true hs) ?_)
  |(with_reducible refine wpAny_ite_true (decide_eq_true ha) ?_)
  |wp_step))
 all_goals (try refine rT hr ?_)
 all_goals (try dsimp only)
 repeat (any_goals (first
  |assumption
  |(with_reducible refine wpAny_ite_true (decide_eq_true hs) ?_)
  |(with_reducible refine wpAny_ite_true (decide_eq_true ha) ?_)
  |wp_step))
theorem Bc (k:Nat) (hk:k<7):(int_private% "readNumeral") 0 16 (([48,48,48,48+k]:List Nat).takeWhile (· != 0))=(int_private% "Numeral.value") (k:Int)∧((([48,48,48,48+k]:List Nat).takeWhile (· != 0)).length==([48,48,48,48+k]:List Nat).length)=true∧(([48,48,48,48+k]:List Nat).takeWhile (· != 0)).length≤640:=by
 rcases k with _|_|_|_|_|_|_|k
 all_goals first|exact⟨by rfl,by rfl,by decide⟩|exact absurd hk (Nat.not_lt.mpr (Nat.le_add_left _ _))
theorem yy (k:Nat) (hk:k<7) (u t:Tok):Gives (Builtin.«int.__new__» ⟨[.type "int",.str ⟨#[48,48,48,48+k]⟩ u,.int 16 t],[]⟩) (.int k) :=
 .of_wp fun M A E s Q h=>by
  obtain⟨hp,g,d,tk,os⟩:=s
  have f1:=F.conv_sub_int
  have f2:=F.madeHere_int
  have hk2:=Bc k hk
  have hk3:(if (#[48,48,48,48+k]:Array Nat).all (·<128) then (#[48,48,48,48+k]:Array Nat).toList else Unicode.numberText (#[48,48,48,48+k]:Array Nat).toList)=[48,48,48,48+k]:=by
   exact rT (if_pos (by simp;lia)) rfl
  have key:=Bb (M:=M) (A:=A) (E:=E) (v := .str ⟨#[48,48,48,48+k]⟩ u) (s:=⟨hp,g,d,tk,os⟩) (Q:=fun v s'=>∃ r,r=v∧Q r s') hk2.2.2 hk2.1 hk2.2.1 ⟨_,rfl,h⟩
  refine (?_:wpAny _ _ (isType (.type "int") >>= fun _=>_) _ _ _)
  refine JX (m:=isType (.type "int")) (JZ (a:=true) ?_)
  refine (?_:wpAny _ _ (isSubtype (.type "int") (.type "int") >>= fun _=>_) _ _ _)
  refine JX (wpAny_of_eq f1 ?_)
  refine (?_:wpAny _ _ (Bind.madeHere "int.__new__" (.type "int") >>= fun _=>_) _ _ _)
  refine JX (wpAny_of_eq f2 ?_)
  show wpAny _ _ ((do
   let base ← Builtin.Int.intIndex "int.__new__" (.int 16 t)
   if (base != 0&&base<2)||base>36 then
    rule "int.__new__.bad-base";raiseError "ValueError" "int() base must be >= 2 and <= 36, or 0"
   match ← (int_private% "numeralText?") (.str ⟨#[48,48,48,48+k]⟩ u) with
   |some text=>(int_private% "intFromText") (.str ⟨#[48,48,48,48+k]⟩ u) text base.toNat
   |none=>rule "int.__new__.base-without-text";raiseError "TypeError" "int() can't convert non-string with explicit base") >>= fun v=>ret v) _ _ _
  refine JX (JX (m:=Builtin.Int.intIndex "int.__new__" (.int 16 t)) (JZ (a:=16) ?_))
  refine rT (if_neg (by decide)) ?_
  refine JX (m:=(int_private% "numeralText?") (.str ⟨#[48,48,48,48+k]⟩ u)) (JZ (a:=some (if (#[48,48,48,48+k]:Array Nat).all (·<128) then (#[48,48,48,48+k]:Array Nat).toList else Unicode.numberText (#[48,48,48,48+k]:Array Nat).toList)) ?_)
  refine rT hk3 ?_
  refine Kq key (fun v s' hv=>JZ ?_) fun _ _ e=>e
  obtain⟨r,rfl,hq⟩:=hv
  exact⟨_,rfl,hq⟩
theorem nj (a b:Value):checkTypeCall "int" ⟨[a,b],[]⟩=pure ():=by kernel_rfl
theorem o1 (a b:Value):checkBuiltinCall "int.__new__" ⟨[.type "int",a,b],[]⟩=pure ():=by kernel_rfl
section
variable {A:Around} {d:Nat} {R:RM} {ρ:List Addr} {s:Shared} {H:AH}
theorem FP {n:String} {cu cv:Value} (g:ag R ρ H s.heap) (rn:Rel R ρ (.ty n) cu) (rt:Rel R ρ (.tup [.ty "str",.ty "bytes"]) cv) (hn:n = "str" ∨ n = "bytes"):EvT A (call (.builtin "issubclass") [cu,cv]) R ρ s (.bool true) H:=by
 cases (show cu = .type n from rn)
 obtain⟨a,ws,k,rfl,e1,e2⟩:=rt
 obtain⟨u,v,rfl,e2,e3⟩:=wn e2
 cases (show u = .type "str" from e2)
 cases (show v = .type "bytes" from e3)
 have ht:=g.froz _ _ e1
 have hT:s.TypeIs (.ref a) "tuple" := ⟨_,ht,rfl⟩
 refine call_function_any F.kind_issubclass F.plain_issubclass F.entry_issubclass (F.args_issubclass_2 _ _) (issubclass_outer ?_)
 have one:∀ (c:String) (b:Bool) (P:Value→Shared→Prop),typeOf (.type c)=pure (.type "type")→isSubtype (.type n) (.type c)=pure b→P (.bool b) s→wpAny X.M A.in1 (call (.builtin "issubclass.nested") [.type n,.type c,rawInt (0+1)]) P NoE s:=fun c b P hm hs hq =>
  call_function_meets lW kP (by exact F.entry_issubclass_nested) (jJ _ _ _) (DK hm hs _ _) hq
 refine (?_:wpAny _ _ (typeOf (.ref a) >>= fun t=>_) _ _ _)
 refine JX (wpAny_typeOf hT ?_)
 refine (?_:wpAny _ _ (if (Value.type "tuple" == Value.type "type")=true then _ else _) _ _ _)
 refine rT (if_neg (by decide)) ?_
 refine (?_:wpAny _ _ (Builtin.Builtins.unionMembers (.ref a) >>= fun t=>_) _ _ _)
 refine JX (JX (wpAny_typeOf hT ?_))
 refine (?_:wpAny _ _ (if (Value.type "tuple" == Value.type "types.UnionType")=true then _ else _) _ _ _)
 refine rT (if_neg (by decide)) ?_
 refine JZ ?_
 refine (?_:wpAny _ _ (isInstance (.ref a) (.type "tuple") >>= fun t=>_) _ _ _)
 refine JX (wpAny_isInstance hT F.isi_sub_tuple ?_)
 simp only [if_true]
 refine (?_:wpAny _ _ (if (0:Int)≥Builtin.Builtins.nestingLimit then _ else _) _ _ _)
 refine rT (if_neg (by decide)) ?_
 refine (?_:wpAny _ _ (seqItems? (.ref a) >>= fun t=>_) _ _ _)
 refine JX (wpAny_seqItems ht rfl ?_)
 refine JX ?_
 refine rB Array.forIn_toList ?_
 refine rT (List.forIn_cons ..) ?_
 refine JX ?_
 rcases hn with rfl|rfl
 ·refine JX (one "str" true _ td F.sub_str_str ?_)
  refine JX (wpAny_truthy_bool ?_)
  exact JX (JZ (JZ (JZ (JZ (aD g rfl)))))
 ·refine JX (one "str" false _ td F.sub_bytes_str ?_)
  refine JX (wpAny_truthy_bool ?_)
  refine JZ ?_
  dsimp only
  refine rT (List.forIn_cons ..) ?_
  refine JX ?_
  refine JX (one "bytes" true _ vc F.sub_bytes_bytes ?_)
  refine JX (wpAny_truthy_bool ?_)
  exact JX (JZ (JZ (JZ (JZ (aD g rfl)))))
theorem DL {x:Str} {n:Nat} (h:E4 x=some n):n<7∧x=⟨#[48,48,48,48+n]⟩ :=
 ⟨List.mem_range.mp (List.mem_of_find?_eq_some h),eq_of_beq (List.find?_some (p:=fun k=>x==⟨#[48,48,48,48+k]⟩) h)⟩
theorem Bd {x:Str} {n:Nat} {cu cv:Value} (g:ag R ρ H s.heap) (rx:Rel R ρ (.str x) cu) (rb:Rel R ρ (.int 16) cv) (hn:E4 x=some n):EvT A (call (.type "int") [cu,cv]) R ρ s (.int n) H:=by
 obtain⟨h7,rfl⟩:=DL hn
 obtain⟨t,rfl⟩:=rx
 obtain⟨u,rfl⟩:=rb
 exact callType_new F.called_int F.newNe_int (nj _ _) (o1 _ _) (fun obj=>F.args_object_init_3 obj _ _) F.entry_int_new (yy n h7 t u).meets (show (Made.int (n:Int)).post _ s from⟨rfl,aC g ⟨_,rfl⟩⟩)
end
section
variable {prog:Program} {w:World} {A:Around} {E:Value→Shared→Prop} {s:Shared}
theorem o8 (a:Value) {Q₁:Value→Shared→Prop}
  (h:∀ led:Bool,(w.params.followText "set-order" = true∨led=true)→Q₁ (.ref s.heap.objs.size) { s with heap:=s.heap.push (aj "set" #[] 0 (.fresh 0 0 led)) }) :
  codeAny (model prog w) A (.call (.builtin "set.__new__") ⟨[.type "set",a],[]⟩) (wants Q₁ E) s:=by
 refine codeAny_of_tree ?_
 refine (?_:wpAny _ A.in1 (do checkBuiltinCall "set.__new__" ⟨[.type "set",a],[]⟩;again (.builtin "set.__new__" ⟨[.type "set",a],[]⟩)) _ _ s)
 refine JX (wpAny_of_eq (F.newCall_set_1 a) (JZ ⟨plainId_quiet F.plain_set_new _,codeAny_builtin F.entry_set_new ?_⟩))
 refine rT (Kz F.plain_set_new _) ?_
 refine JX (m:=Builtin.Frozenset.newClass "set" _) ?_
 refine (?_:wpAny _ _ (isType (.type "set") >>= fun _=>_) _ _ _)
 refine JX (m:=isType (.type "set")) (JZ (a:=true) ?_)
 refine (?_:wpAny _ _ (isSubtype (.type "set") (.type "set") >>= fun _=>_) _ _ _)
 refine JX (wpAny_of_eq sub_set_self (JZ ?_))
 refine JX (jv fun led hled=>JZ ?_)
 exact h led hled
theorem yz {I S ax:Addr} {vs:List Value} {ns:List Int} {R:Result→Shared→Prop} (hh:A.handled=none) (hIS:I≠S) (hIx:ax≠I) (hSx:ax≠S) (hi:IntsAre vs ns) {nn:Nat} :
  ∀ (rest:List Int) (i:Nat) (s:Shared) (es:Array (Int×Value)) (ep:Nat) (t:SetTable) (acc:List Int),ns.drop i=rest→s.heap.IsListIter I ax i→s.heap.get? ax=some (aN vs nn)→s.heap.get? S=some (aj "set" es ep t)→au (intKind prog w) es t acc→acc.length+rest.length<1000 →
  (∀ h' tk es ep t,h'.get? S=some (aj "set" es ep t)→au (intKind prog w) es t (rest.foldl br acc)→(∀ b o,b≠I→b≠S→s.heap.get? b=some o→h'.get? b=some o)→R (.ok (.ret .none)) { s with heap:=h',toks:=tk }) →
  codeAny (model prog w) A (.builtin "set.update.loop" ⟨[.ref S,.ref I],[]⟩) R s:=by
 have hlen:=IntsAre.length hi
 intro rest
 induction rest with
 |nil =>
  intro i s es ep t acc hd hI hx hS D _ hR
  have hend:vs.toArray[i]?=none:=by
   have:ns.length≤i:=by simpa using hd
   exact (List.getElem?_toArray ..).trans (List.getElem?_eq_none (Kv (Kh hlen) this))
  refine codeAny_builtin F.entry_set_update_loop ?_
  refine rT (Kz F.plain_set_update_loop _) ?_
  refine (?_:wpAny _ A.in1 (pyNext (.ref I) >>= _) _ _ s)
  refine JX (wpAny_pyNext_list_end hh hI (ay hx) hend fun h' hk => ?_)
  refine (?_:wpAny _ A.in1 (ret Value.none) _ _ _)
  exact JZ (hR h' s.toks es ep t (hk S _ (Ne.symm hIS) hS) D fun b o hbI _ e=>hk b o hbI e)
 |cons k rest ih =>
  intro i s es ep t acc hd hI hx hS D hsz hR
  have hni:ns[i]?=some k:=by
   have:=congrArg List.head? hd
   simpa using this
  have hd':ns.drop (i+1)=rest:=by refine rB List.drop_drop ?_;refine rT hd ?_;rfl
  have hlt:i<vs.length:=by refine rT hlen ?_;exact (KK.mp hni).1
  obtain⟨t0,ht0⟩:∃ t0,vs[i]?=some (.int k t0):=by
   have:=IntsAre.int_at hi i vs[i] (Ky hlt)
   obtain⟨u,hu⟩:=this
   refine⟨u,?_⟩
   refine rT (Ky hlt) ?_;refine rT hu ?_
   refine rT List.getD_eq_getElem?_getD ?_;refine rT hni ?_;rfl
  refine codeAny_builtin F.entry_set_update_loop ?_
  refine rT (Kz F.plain_set_update_loop _) ?_
  refine (?_:wpAny _ A.in1 (pyNext (.ref I) >>= _) _ _ s)
  refine JX (wpAny_pyNext_list_item hI (ay hx) (x := .int k t0) (by simpa using ht0) fun h' hI' hk => ?_)
  have hS':=hk.extBut S _ (Ne.symm hIS) hS
  refine (?_:wpAny _ A.in1 (holding [Value.int k t0] (setAdd S (.int k t0)) >>= _) _ _ _)
  refine JX (JY ?_)
  refine JY (JX ((intKind prog w).pyHash (k:=k) (intKind_is _ _ _ _) ?_))
  rw [List.length_cons] at hsz
  refine hU (s:={ s with heap:=h',toks:=s.toks+1 }) (knd:=intKind prog w) hS' D (intKind_is _ _ _ _) rfl (KQ (Nat.add_le_add_left (Nat.succ_pos _) _) (KZ hsz (by decide))) fun es' ep' t' D' => ?_
  have hl:=pD acc k
  refine JZ ⟨plainId_quiet F.plain_set_update_loop _,ih (i+1) _ es' ep' t' (br acc k) hd' (hI'.at fun o e=>(aA hIS).trans e) ((aA hSx).trans (hk.extBut _ _ hIx hx)) (cb hS' rfl) D' (KQ (Kv (Nat.add_le_add_right hl _) (Kh (Kb acc.length 1 rest.length))) hsz) fun h'' tk es'' ep'' t'' q1 q2 q3 => ?_⟩
  exact hR h'' tk es'' ep'' t'' q1 q2 fun b o hbI hbS e=>q3 b o hbI hbS ((aA hbS).trans (hk.extBut b o hbI e))
theorem ww {c:Code} {R:Result→Shared→Prop} (h:codeAny (model prog w) A c (wants (fun v s'=>R (.ok (.ret v)) s') fun _ _=>False) s):codeAny (model prog w) A c R s :=
 codeAny_mono h fun r s' hr=>by
  cases r with
  |error e=>exact hr.elim
  |ok f =>
   cases f with
   |ret v=>exact hr
   |_=>exact hr.elim
theorem o9 {l S:Addr} {vs:List Value} {nn:Nat} {ns:List Int} {led:Bool} {Q':Fin→Shared→Prop} {E':Value→Shared→Prop} (hh:A.handled=none) (hled:w.params.followText "set-order" = true∨led=true) (hl:s.heap.get? l=some (aN vs nn)) (hS:s.heap.get? S=some (aj "set" #[] 0 (.fresh 0 0 led))) (hSl:S≠l) (hi:IntsAre vs ns) (hb:ns.length<500)
  (k:∀ h' tk es ep t,h'.get? S=some (aj "set" es ep t)→au (intKind prog w) es t (ns.foldl br [])→(∀ b o,b≠S→s.heap.get? b=some o→h'.get? b=some o)→Q' (.done (.ret .none)) { s with heap:=h',toks:=tk }) :
  wpAny (model prog w) A (Builtin.«set.__init__» ⟨[.ref S,.ref l],[]⟩) Q' E' s:=by
 have hsls:=F.sub_list_set
 have hslf:=F.sub_list_frozenset
 have hne:(Value.type "list" == Value.type "dict")=false:=by decide
 have hl1:s.heap.IsList l vs.toArray:=ay hl
 unfold Builtin.«set.__init__» noKeywords Builtin.Frozenset.updateFrom
 generalize hPI:pyIter=PI
 wp_walk
 subst hPI
 refine wpAny_pyIter_list hl1 (JX (wpAny_runValue ?_))
 have hlS:l<s.heap.objs.size:=Kw hl
 have hSS:S<s.heap.objs.size:=Kw hS
 refine yz (prog:=prog) (nn:=nn) hh (Ne.symm (Lq hSS)) (Lq hlS) (Ne.symm hSl) hi ns 0 { s with heap:=s.heap.push { cls := .type "list_iterator",data := .fields #[.ref l,.int 0 0] } } #[] 0 (.fresh 0 0 led) [] rfl ⟨_,Kj _ rfl,rfl,rfl⟩ (Kx _ hl) (Kx _ hS) (au.fresh hled) (KQ (Kh (Nat.zero_add _)) (Kd hb (by decide))) fun h' tk es ep t q1 q2 q3 => ?_
 exact JZ (JZ (k h' tk es ep t q1 q2 fun b o hbS e=>q3 b o (Lq (Kw e)) hbS (Kx _ e)))
set_option maxHeartbeats 1600000 in
theorem pb {l:Addr} {vs:List Value} {nn:Nat} {ns:List Int} {Q':Fin→Shared→Prop} {E':Value→Shared→Prop} (hh:A.handled=none) (hl:s.heap.get? l=some (aN vs nn)) (hi:IntsAre vs ns) (hb:ns.length<500)
  (k:∀ (h':Heap) (tk:Nat) es ep t,h'.get? s.heap.objs.size=some (aj "set" es ep t)→au (intKind prog w) es t (ns.foldl br [])→(cD s.heap h')→Q' (.done (.ret (.ref s.heap.objs.size))) { s with heap:=h',toks:=tk }) :
  wpAny (model prog w) A (Builtin.«type.__call__» ⟨[.type "set",.ref l],[]⟩) Q' E' s:=by
 obtain⟨c,tl,hmro⟩:=F.called_set.mro
 have hmade:=F.called_set.made
 have hct:=F.typeCall_set_1 (.ref l)
 unfold Builtin.«type.__call__»
 refine wpAny_ite_false (by rfl) ?_
 refine wpAny_ite_false (by rfl) ?_
 refine JX (wpAny_of_eq hct ?_)
 refine JX (wpAny_of_eq hmro ?_)
 refine wpAny_ite_false (by rfl) ?_
 refine JX (wpAny_of_eq hmade ?_)
 refine JX (JZ ?_)
 refine JX (JY (wpAny_call (ww (o8 (.ref l) fun led hled => ?_))))
 have hS:(s.heap.push (aj "set" #[] 0 (.fresh 0 0 led))).get? s.heap.objs.size=some (aj "set" #[] 0 (.fresh 0 0 led)):=Kj _ rfl
 have hT:Shared.TypeIs { s with heap:=s.heap.push (aj "set" #[] 0 (.fresh 0 0 led)) } (.ref s.heap.objs.size) "set" := ⟨_,hS,rfl⟩
 refine (?_:wpAny _ _ (isInstance _ _ >>= fun _=>_) _ _ _)
 refine JX (wpAny_isInstance hT F.called_set.sub ?_)
 refine wpAny_ite_false (by rfl) ?_
 refine JX (JY ?_)
 refine JX (wpAny_specialOf hT F.called_set.init.lookup ?_)
 refine JY ?_
 refine JX (wpAny_of_eq (F.called_set.init.bind (.ref s.heap.objs.size)) ?_)
 refine JX (wpAny_call (ww (codeAny_call_builtin F.called_set.init.plain F.entry_set_init (check_set_init_1 hT (o9 (A:=A.in1) hh hled (Kx _ hl) hS (Nat.ne_of_gt (Kw hl)) hi hb fun h' tk es ep t q1 q2 q3 => ?_)))))
 exact JZ (JZ (k h' tk es ep t q1 q2 fun b o e=>q3 b o (Lq (Kw e)) (Kx _ e)))
theorem te {l:Addr} {vs:List Value} {nn:Nat} {ns:List Int} {Q:Value→Shared→Prop} (hh:A.handled=none) (hl:s.heap.get? l=some (aN vs nn)) (hi:IntsAre vs ns) (hb:ns.length<500)
  (h:∀ (h':Heap) (tk:Nat) es ep t,h'.get? s.heap.objs.size=some (aj "set" es ep t)→au (intKind prog w) es t (ns.foldl br [])→(cD s.heap h')→Q (.ref s.heap.objs.size) { s with heap:=h',toks:=tk }) :
  wpAny (model prog w) A (call (.type "set") [.ref l]) Q E s:=by
 refine wpAny_call (codeAny_of_tree ?_)
 refine (?_:wpAny _ _ (callAny (.type "set") _) _ _ _)
 refine JZ ⟨Code.quiet_builtin _ (by decide +kernel),codeAny_builtin F.entry_type_call ?_⟩
 refine rT (Around.under_plain (weight_type_call_type "set" [.ref l] []) rfl) ?_
 exact pb hh hl hi hb h
end
section
variable {prog:Program} {w:World} {A:Around} {E:Value→Shared→Prop} {s:Shared}
theorem rc {ws:List (Int×Value)} {acc:Array Value} (h:PySem.ItemsOf (fun i v=>∃ e,ws[i]?=some e∧v=e.2) acc ws.length):acc.toList=ws.map (·.2):=by
 obtain⟨h1,h2⟩:=h
 apply List.ext_getElem?
 intro i
 by_cases hi:i<ws.length
 ·have hi':i<acc.size:=Nat.lt_of_lt_of_eq hi h1.symm
  obtain⟨e,e1,e2⟩:=h2 i _ (Lx hi')
  refine rT Array.getElem?_toList ?_;refine rT (Lx hi') ?_;refine rT List.getElem?_map ?_;refine rT e1 ?_;refine rT e2 ?_;rfl
 ·refine rT (List.getElem?_eq_none (Kv (Kh h1) (Nat.le_of_not_lt hi))) ?_;exact rT (List.getElem?_eq_none (by rw [List.length_map];exact Nat.le_of_not_lt hi)) rfl
set_option maxHeartbeats 1000000 in
theorem ti {a:Addr} {es:Array (Int×Value)} {ep:Nat} {t:SetTable} {Q:List Value→Shared→Prop} (hh:A.handled=none) (ha:s.heap.get? a=some (aj "set" es ep t)) (hf:t.fits es.size=true) (hb:es.size<scanBound) (hl:w.params.followText "set-order" = true∨t.led=true) (hr:de t.place)
  (hQ:∀ (ws:List (Int×Value)) h' tk dr,List.Perm ws es.toList→(cD s.heap h')→Q (ws.map (·.2)) { s with heap:=h',toks:=tk,drawn:=dr }) :
  wpAny (model prog w) A (collect (.ref a)) Q E s:=by
 refine JX (wpAny_runValue (codeAny_builtin F.entry_proto_collect ?_))
 refine rT (Kz F.plain_proto_collect _) ?_
 refine (?_:wpAny _ A.in1 (newList [] >>= fun l=>again (.builtin "list.__iadd__" ⟨[l,.ref a],[]⟩)) _ _ s)
 refine JX (wpAny_newObj_type ?_)
 refine JZ ⟨plainId_quiet F.plain_list_iadd _,codeAny_builtin F.entry_list_iadd ?_⟩
 refine rT (Kz F.plain_list_iadd _) ?_
 refine (?_:wpAny _ A.in1 (Builtin.List.listExtendWith (.ref s.heap.objs.size) (.ref a) (.ref s.heap.objs.size)) _ _ _)
 have hSa:s.heap.objs.size≠a:=Nat.ne_of_gt (Kw ha)
 have hS₁:(s.heap.push { cls := .type "list",data := .seq ([]:List Value).toArray }).get? s.heap.objs.size=some (aN [] 0):=Kj _ rfl
 have ha₁:(s.heap.push { cls := .type "list",data := .seq ([]:List Value).toArray }).get? a=some (aj "set" es ep t):=Kx _ ha
 have h1:Builtin.List.listSameRef (.ref s.heap.objs.size) (.ref a)=false:=by simp [Builtin.List.listSameRef,hSa]
 have h2:(Value.type "set" == Value.type "list")=false:=by decide
 have h3:(Value.type "set" == Value.type "tuple")=false:=by decide
 refine JX (wpAny_typeOf (T := "set") ⟨_,ha₁,rfl⟩ ?_)
 simp only [h1,h2,h3,Bool.or_false,Bool.false_eq_true,if_false]
 refine JX (tc rfl ha₁ hf hb hl hr fun ws I fp h' dr St ⟨hws,hI,hfp,hIf,hfp2,hk,hle,hst,W,st0⟩ => ?_)
 obtain⟨first,n,ep',hI',ha',hn⟩:=hst 0 h' st0
 have hTI:({ s with heap:=h',drawn:=dr }:Shared).TypeIs (.ref I) "set_iterator" := ⟨_,hI',rfl⟩
 refine JX (JY ?_)
 have hTa:({ s with heap:=h',drawn:=dr }:Shared).TypeIs (.ref a) "set" := ⟨_,ha',rfl⟩
 refine JX (wpAny_specialOf hTa F.slot_set_len.lookup ?_)
 generalize hid:("set.__len__" : String)=id0
 (fail_if_success (clear hid id0));wp_delta;rw [show splitId id0=some ("set", "__len__") from by subst hid;decide +kernel];subst hid
 refine JX (wpAny_isInstance (b:=true) hTa F.sub_set_set ?_)
 refine JX (wpAny_typeOf hTa ?_)
 refine JZ ?_
 show wpAny _ A.in1 (rule "list.extend.makes-room" >>= fun _=>Builtin.List.listTouch (.ref s.heap.objs.size) >>= fun _ =>
  again (.builtin "list.extend.loop" ⟨[.ref s.heap.objs.size,.ref I,.ref s.heap.objs.size],[]⟩)) _ _ _
 refine JX (wpAny_rule ?_)
 have hS₂:=hk _ _ hS₁
 have hSI:s.heap.objs.size≠I:=fun q=>by rw [← q,hS₁] at hI;cases hI
 have hSfp:s.heap.objs.size∉fp:=fun hm=>by
  rcases hfp2 _ hm with q|q|q
  ·exact hSI q
  ·exact hSa q
  ·rw [hS₁] at q;cases q
 refine JX ?_
 refine (?_:wpAny _ A.in1 (updateSeq s.heap.objs.size (·.push .none) >>= fun _=>updateSeq s.heap.objs.size (·.pop)) _ _ _)
 refine JX (wpAny_updateSeq hS₂ rfl ?_)
 have hS₃:=Heap.get?_update_self (Obj.mapSeq (·.push Value.none)) hS₂ rfl
 refine wpAny_updateSeq hS₃ rfl ?_
 have hS₄:=Heap.get?_update_self (Obj.mapSeq (·.pop)) hS₃ rfl
 have oth:∀ b o,b≠s.heap.objs.size→h'.get? b=some o→((h'.update s.heap.objs.size (Obj.mapSeq (·.push Value.none))).update s.heap.objs.size (Obj.mapSeq (·.pop))).get? b=some o :=
  fun b o hb e=>(Heap.get?_update_other _ _ (Ne.symm hb)).trans ((Heap.get?_update_other _ _ (Ne.symm hb)).trans e)
 have W':=(W A.in1 hh).toS
 have hwl:ws.length=es.size:=by have:=hws.length_eq;simpa using this
 have st1:=(W A.in1 hh).frame 0 h' _ st0 (fun b hb o e=>oth b o (fun q=>hSfp (q▸hb)) e)
 refine JZ ⟨plainId_quiet F.plain_extend_loop _,codeAny_extend_loopS W' (fits_of_scanBound hb) _ hSfp _ es.size 0 _ _ _ rfl (Nat.zero_le _) st1 hS₄ (ItemsOf.nil _) fun s' acc' c' hm hS' hacc => ?_⟩
 refine (?_:wpAny _ A (load s.heap.objs.size >>= _) _ _ s')
 refine JX (wpAny_load hS' (JZ ?_))
 rw [← hwl] at hacc
 rw [rc hacc,Moved.eq_with hm]
 refine hQ ws s'.heap s'.toks dr hws fun b o e => ?_
 have hb1:b≠s.heap.objs.size:=Lq (Kw e)
 have hbI:b≠I:=fun q=>by rw [← q,Heap.get?_push_of_some _ e] at hI;cases hI
 exact hm.heap b o (by simp only [List.mem_cons,List.mem_singleton,List.not_mem_nil,or_false,not_or];exact⟨hb1,hbI⟩) (oth b o hb1 (hk b o (Kx _ e)))
theorem tj {ws:List (Int×Value)} {es:Array (Int×Value)} {t:SetTable} {ns:List Int} (D:au (intKind prog w) es t ns) (hws:List.Perm ws es.toList):∃ ms:List Int,IntsAre (ws.map (·.2)) ms∧List.Perm ms ns:=by
 have key:∀ (l:List (Int×Value)),(∀ e∈l,e∈es.toList)→∃ ms:List Int,IntsAre (l.map (·.2)) ms∧ms.length=l.length∧∀ k,k∈ms↔∃ e∈l,(intKind prog w).is k e.2=true:=by
  intro l
  induction l with
  |nil=>intro _;exact⟨[],.nil,rfl,fun k=>by simp⟩
  |cons e l ih =>
   intro hl
   obtain⟨ms,h1,h2,h3⟩:=ih fun x hx=>hl x (.tail _ hx)
   obtain⟨⟨k,hk,_⟩,_⟩:=D.el e (hl e (.head _))
   obtain⟨u,hu⟩:=Value.isInt_shape (show Value.isInt k e.2=true from hk)
   refine⟨k::ms,by refine rT List.map_cons ?_;refine rT hu ?_;exact .cons _ _ h1,by simp [h2],fun k' => ?_⟩
   constructor
   ·intro hk'
    rcases KJ.mp hk' with rfl|hk'
    ·exact⟨e,.head _,hk⟩
    ·obtain⟨e',he',q⟩:=(h3 k').mp hk'
     exact⟨e',.tail _ he',q⟩
   ·rintro⟨e',he',q⟩
    rcases KJ.mp he' with rfl|he'
    ·refine rT ((intKind prog w).inj _ _ _ q hk) ?_;exact .head _
    ·exact .tail _ ((h3 k').mpr ⟨e',he',q⟩)
 obtain⟨ms,h1,h2,h3⟩:=key ws fun e he=>hws.mem_iff.mp he
 have hmem:∀ k,k∈ns→k∈ms:=fun k hk=>by
  obtain⟨e,he,q⟩:=(D.mem k).mp hk
  exact (h3 k).mpr ⟨e,hws.mem_iff.mpr he,q⟩
 have hlen:ms.length=ns.length:=by
  refine rT h2 ?_;refine rT hws.length_eq ?_;refine rT Array.length_toList ?_;exact rT D.sz rfl
 refine⟨ms,h1,?_⟩
 have perm:∀ (ns ms:List Int),ns.Nodup→(∀ k∈ns,k∈ms)→ms.length=ns.length→List.Perm ms ns:=by
  intro ns
  induction ns with
  |nil=>intro ms _ _ h;rw [List.length_eq_zero_iff.mp h]
  |cons k ns ih =>
   intro ms nd hm hl
   rw [List.nodup_cons] at nd
   have hk:=hm k (.head _)
   refine (List.perm_cons_erase hk).trans ?_
   refine List.Perm.cons k (ih (ms.erase k) nd.2 (fun x hx => ?_) ?_)
   ·exact (List.mem_erase_of_ne (fun q=>by subst q;exact nd.1 hx)).mpr (hm x (.tail _ hx))
   ·refine rT (List.length_erase_of_mem hk) ?_;refine rT hl ?_;refine rT List.length_cons ?_;rfl
 exact perm ns ms D.nd hmem hlen
theorem gK (i:Int):∀ l,List.Perm (j9 i l) (i::l)
 |[]=>List.Perm.refl _
 |j::r=>by
  unfold j9
  split
  ·exact List.Perm.refl _
  ·exact ((gK i r).cons j).trans (List.Perm.swap ..)
theorem eX:∀ l,List.Perm (dY l) l
 |[]=>List.Perm.refl _
 |i::r=>(gK i _).trans ((eX r).cons i)
theorem iJ (i:Int):∀ {l:List Int},l.Pairwise (·≤·)→(j9 i l).Pairwise (·≤·)
 |[],_=>List.pairwise_singleton _ _
 |j::r,h=>by
  unfold j9
  split
  ·rename_i q
   refine List.pairwise_cons.mpr ⟨fun x hx => ?_,h⟩
   rcases KJ.mp hx with rfl|hx
   ·exact q
   ·exact Int.le_trans q ((List.pairwise_cons.mp h).1 x hx)
  ·rename_i q
   obtain⟨h1,h2⟩:=List.pairwise_cons.mp h
   refine List.pairwise_cons.mpr ⟨fun x hx => ?_,iJ i h2⟩
   rcases KJ.mp ((gK i r).mem_iff.mp hx) with rfl|hx
   ·exact Int.le_of_lt (Int.not_le.mp q)
   ·exact h1 x hx
theorem dC:∀ l,(dY l).Pairwise (·≤·)
 |[]=>List.Pairwise.nil
 |i::r=>iJ i (dC r)
theorem iK:∀ {l m:List Int},List.Perm l m→l.Pairwise (·≤·)→m.Pairwise (·≤·)→l=m
 |[],m,p,_,_=>by exact rT (List.nil_perm.mp p) rfl
 |a::l,[],p,_,_=>by have:=p.length_eq;simp at this
 |a::l,b::m,p,h1,h2=>by
  obtain⟨a1,a2⟩:=List.pairwise_cons.mp h1
  obtain⟨b1,b2⟩:=List.pairwise_cons.mp h2
  have hab:a=b:=by
   have q1:a≤b:=by
    rcases KJ.mp (p.mem_iff.mpr (.head _)) with e|e
    ·exact Int.le_of_eq e.symm
    ·exact a1 _ e
   have q2:b≤a:=by
    rcases KJ.mp (p.mem_iff.mp (.head _)) with e|e
    ·exact Int.le_of_eq e.symm
    ·exact b1 _ e
   exact Int.le_antisymm q1 q2
  subst hab
  exact rT (iK (List.perm_cons a |>.mp p) a2 b2) rfl
theorem vd {a:Addr} {es:Array (Int×Value)} {ep:Nat} {t:SetTable} {ns:List Int} {Q:Value→Shared→Prop} (hh:A.handled=none) (ha:s.heap.get? a=some (aj "set" es ep t)) (D:au (intKind prog w) es t ns) (h60:ns.length<60)
  (hQ:∀ L h' tk dr (out:List Value) n,s.heap.get? L=none→h'.get? L=some (aN out n)→IntsAre out (dY ns)→(cD s.heap h')→Q (.ref L) { s with heap:=h',toks:=tk,drawn:=dr }) :
  wpAny (model prog w) A (call (.builtin "sorted") [.ref a]) Q E s:=by
 refine Calls.call_function_entry kind_sorted plain_sorted entry_sorted (args_sorted1 _) ?_
 refine JX (m:=checkCount "sorted" 1 1 _) (JZ ?_)
 refine JX (ti hh ha D.fit D.b D.led D.rise fun ws h1 tk dr hws hk => ?_)
 obtain⟨ms,hms,hperm⟩:=tj D hws
 refine JX (wpAny_newList ?_ (by refine rT (IntsAre.length hms) ?_;refine rT hperm.length_eq ?_;refine rT sizeLine_eq ?_;exact KW (Kd h60 (by decide))))
 have hlen:(ws.map (·.2)).length<64:=by refine rT (IntsAre.length hms) ?_;refine rT hperm.length_eq ?_;exact Kd h60 (by decide)
 have hoL:(h1.push (seqObj "list" (ws.map (·.2)).toArray 0)).get? h1.objs.size=some (seqObj "list" (ws.map (·.2)).toArray 0):=Kj _ rfl
 refine JX (JY (wpAny_call_entry slot_list_sort ⟨_,hoL,rfl⟩ entry_list_sort (list_sort_tree hoL hms hlen fun out ns' a1 a2 a3=>⟨_,rfl,?_⟩) (args_list_sort _)))
 have hns:ns'=dY ns:=iK (a2.trans (hperm.trans (eX ns).symm)) a3 (dC ns)
 subst hns
 refine JZ ⟨_,rfl,?_⟩
 have hold:∀ b o,s.heap.get? b=some o→b≠h1.objs.size:=fun b o e=>Lq (Kw (hk b o e))
 obtain⟨n1,q1⟩:=cc (s:={ s with heap:=h1.push (seqObj "list" (ws.map (·.2)).toArray 0) }) (fun _=>(#[]:Array Value)) (n:=0) (vs:=ws.map (·.2)) hoL
 have q2:=Kx (seqObj "list" #[] 0) (Kx (seqObj "tuple" (ws.map (·.2)).toArray 0) q1)
 obtain⟨n2,q3⟩:=cc (s:={ s with heap:=_ }) (fun _=>out) q2
 refine hQ h1.objs.size _ tk dr out.toList n2 ?_ q3 a1 fun b o e => ?_
 ·cases q:s.heap.get? h1.objs.size with
  |none=>rfl
  |some o=>exact absurd rfl (hold _ o q)
 ·have hb:=hold b o e
  exact (Heap.get?_update_other _ _ (Ne.symm hb)).trans (Kx _ (Kx _ ((Heap.get?_update_other _ _ (Ne.symm hb)).trans (Kx _ (hk b o e)))))
end
section
variable {A:Around} {d:Nat} {R:RM} {ρ:List Addr} {s:Shared} {H:AH}
theorem re {vs:List Value} {ns:List Int} (h:IntsAre vs ns):ai R ρ (ns.map .int) vs:=by
 induction h with
 |nil=>exact .nil
 |cons t i _ ih=>exact .cons ⟨_,rfl⟩ ih
theorem Be (ns:List Int):∀ acc:List Int,ns.foldl br acc=ns.foldl (fun acc i=>if acc.contains i then acc else acc++[i]) acc:=by
 induction ns with
 |nil=>exact fun _=>rfl
 |cons i ns ih =>
  intro acc
  rw [List.foldl_cons,List.foldl_cons,ih]
  congr 1
  unfold br
  by_cases q:i∈acc<;>simp [q]
theorem FQ {a:AV} {l:List AV} {ns:List Int} {cv:Value} (room:aI A d) (g:ag R ρ H s.heap) (ra:Rel R ρ a cv) (hl:aY H a=some l) (hn:bE l=some ns) (hlen:ns.length<500):EvT A (call (.type "set") [cv]) R ρ s (.set (cH ns)) H:=by
 obtain⟨ad,ws,n,rfl,hk,hr⟩:=aQ g ra hl
 refine te room.h hk (sR hn hr) hlen fun h' tk es ep t e D k => ?_
 obtain⟨g2,m2⟩:=dk (O:=No) (tk:=tk) g (b6 s.heap) e k
 rw [Be] at D
 refine⟨_,ρ,m2,g2,_,_,rfl,RM.add_self,.inl ⟨_,es,ep,t,rfl,?_,rfl,D⟩⟩
 refine KQ (dP ns [] .nil).2.2 (KQ (Kh (Nat.zero_add _)) (Kd hlen (by decide)))
theorem yA {l:List AV} {ns:List Int} {cv:Value} (room:aI A d) (g:ag R ρ H s.heap) (ra:Rel R ρ (.set l) cv) (hn:bE l=some ns) (hlen:ns.length<60):EvT A (call (.builtin "sorted") [cv]) R ρ s (.lst ((dY ns).map .int)) H:=by
 obtain⟨a,o,rfl,e1,e2⟩:=ra
 refine dy e2 hn fun nd es ep t e D => ?_
 subst e
 refine vd room.h (g.froz _ _ e1) D hlen fun L h' tk dr out n hL e hi k => ?_
 obtain⟨g2,m2⟩:=dk (O:=No) (tk:=tk) g hL e k
 exact⟨_,ρ,⟨m2.r,m2.rn,m2.p,m2.keep,m2.live,m2.gens,m2.os⟩,g2,L,out,n,rfl,RM.add_self,re hi⟩
theorem Hf {b:BI} {args:List AV} {v:AV} {vs:List Value} (room:aI A d) (g:ag R ρ H s.heap) (ra:ai R ρ args vs) (h:abi H b args=some v):EvT A (call (oK b) vs) R ρ s v H:=by
 cases b with
 |len=>exact ob h fun a _ h=>one (a:=a) ra fun _ r=>FH g r h
 |sum=>exact ob h fun a _ h=>ob h fun l hl h=>ob h fun ns hn h=>oj h (one (a:=a) ra fun _ r=>FI room g r hl hn)
 |min=>exact ob h fun a _ h=>ob h fun l hl h=>one (a:=a) ra fun _ r=>FN room g r hl h
 |max=>exact ob h fun a _ h=>ob h fun l hl h=>one (a:=a) ra fun _ r=>FO room g r hl h
 |all=>exact ob h fun a _ h=>ob h fun l hl h=>ob h fun ns hn h=>oj h (one (a:=a) ra fun _ r=>FJ room g r hl hn)
 |sorted=>exact ob h fun a _ h=>ob h fun l _ h=>ob h fun ns hn h=>oi h fun hp h=>oj h (one (a:=a) ra fun _ r=>yA room g (ak l.2 r) hn hp)
 |set=>exact ob h fun a _ h=>ob h fun l hl h=>ob h fun ns hn h=>oi h fun hp h=>oj h (one (a:=a) ra fun _ r=>FQ room g r hl hn hp)
 |isinstance=>exact ob h fun p _ h=>ob h fun n _ h=>two (p:=p) ra fun _ _ r r'=>FK g r (ak n.2 r') h
 |issubclass=>exact ob h fun p _ h=>ob h fun n _ h=>ob h fun l _ h=>ob h fun q _ h=>ob h fun a _ h=>ob h fun b _ h=>oi h fun hp h=>oj h (two (p:=p) ra fun _ _ r r'=>FP g (ak n.2 r) (ak (l.2.trans (congrArg AV.tup (q.2.trans (by refine rT a.2 ?_;refine rT b.2 ?_;refine rT hp.1.1 ?_;exact rT hp.1.2 rfl)))) r') hp.2)
 |type=>exact ob h fun a _ h=>one (a:=a) ra fun _ r=>DJ g r h
 |ord=>exact ob h fun a _ h=>ob h fun c _ h=>oj h (one (a:=a) ra fun _ r=>FL g (ak c.2 r))
 |chr=>exact ob h fun a _ h=>ob h fun i _ h=>oi h fun hp h=>oj h (bq hp fun h1 h2=>one (a:=a) ra fun _ r=>FM g (ak i.2 r) (of_decide_eq_true h1) (of_decide_eq_true h2))
 |int16=>exact ob h fun p _ h=>ob h fun x _ h=>ob h fun b _ h=>oi h fun hb h=>ob h fun n hn h=>oj h (two (p:=p) ra fun _ _ r r'=>Bd g (ak x.2 r) (ak (b.2.trans (congrArg AV.int hb)) r') hn)
end
theorem p9:Manifest.owners.lookup (String.ofList ['p', 'a', 'm'].reverse)=some Manifest.sig_map:=by kernel_rfl
theorem b8:Slot "map" "__next__" "map.__next__" :=
 .of (owner := "map") (n := "__next__") (by rw [typeLookup_type,builtinLookup_eq_fast];kernel_rfl) (by decide +kernel) (by decide +kernel) (by decide +kernel)
  (by first|exact .inl (by decide +kernel)|exact .inr (by decide +kernel)) (by rw [isSubtype_type];kernel_rfl)
theorem gL:entryFor table "map.__next__" = some Builtin.«map.__next__» := entryFor_of_tree (by kernel_rfl)
theorem fZ (a:Value):argsOk "map.__next__" ⟨[a],[]⟩:=by
 unfold argsOk;rw [signature?_of (id := "map.__next__") (n:=['_', '_', 't', 'x', 'e', 'n', '_', '_']) (o:=['p', 'a', 'm']) (by kernel_rfl) p9];kernel_rfl
theorem iM:Slot "map" "__iter__" "map.__iter__" :=
 .of (owner := "map") (n := "__iter__") (by rw [typeLookup_type,builtinLookup_eq_fast];kernel_rfl) (by decide +kernel) (by decide +kernel) (by decide +kernel)
  (by first|exact .inl (by decide +kernel)|exact .inr (by decide +kernel)) (by rw [isSubtype_type];kernel_rfl)
theorem lX (a:Value):argsOk "map.__iter__" ⟨[a],[]⟩:=by
 unfold argsOk;rw [signature?_of (id := "map.__iter__") (n:=['_', '_', 'r', 'e', 't', 'i', '_', '_']) (o:=['p', 'a', 'm']) (by kernel_rfl) p9];kernel_rfl
theorem nk:entryFor table "map.__iter__" = some Builtin.«dict_keyiterator.__iter__» :=
 entryFor_alias (id' := "dict_keyiterator.__iter__") (by kernel_rfl) (by first|rfl|decide +kernel|(unfold String.splitOn;simp +decide [String.splitOnAux])) (by decide +kernel) (by kernel_rfl)
theorem pd:Slot "map" "__init__" "object.__init__" :=
 .of (owner := "object") (n := "__init__") (by rw [typeLookup_type,builtinLookup_eq_fast];kernel_rfl) (by decide +kernel) (by decide +kernel) (by decide +kernel)
  (by first|exact .inl (by decide +kernel)|exact .inr (by decide +kernel)) (by rw [isSubtype_type];kernel_rfl)
theorem wx:mroOf (.type "map")=pure [.type "map",.type "object"]:=by rw [mroOf_type];kernel_rfl
theorem nl:typeLookup (.type "map") "__new__" = pure (some (.builtin "map.__new__")):=by rw [typeLookup_type,builtinLookup_eq_fast];kernel_rfl
theorem wy:isSubtype (.type "map") (.type "map")=pure true:=by rw [isSubtype_type];kernel_rfl
theorem ve:TypeCalled "map" "map.__new__" "object.__init__" :=
 ⟨by decide +kernel,by decide +kernel,⟨_,_,wx⟩,madeBy_type wx nl (by decide +kernel),by decide +kernel,wy,pd⟩
theorem np (a b:Value):checkTypeCall "map" ⟨[a,b],[]⟩=pure ():=by kernel_rfl
theorem pe (a b:Value):checkBuiltinCall "map.__new__" ⟨[.type "map",a,b],[]⟩=pure ():=by kernel_rfl
theorem pf:entryFor table "map.__new__" = some Builtin.«map.__new__» := entryFor_of_tree (by kernel_rfl)
theorem yB:typeLookup (.type "map") "__len__" = pure none:=by rw [typeLookup_type,builtinLookup_eq_fast];kernel_rfl
theorem vf:typeLookup (.type "map") "__length_hint__" = pure none:=by rw [typeLookup_type,builtinLookup_eq_fast];kernel_rfl
section
variable {prog:Program} {w:World} {A:Around} {E:Value→Shared→Prop} {s:Shared}
noncomputable abbrev vg (T:Addr) (f:Value):Obj:={ cls := .type "map",data := .fields #[.ref T,f] }
noncomputable def Hg (h:Heap) (l:Addr) (f:Value):Heap:=((h.push { cls := .type "list_iterator",data := .fields #[.ref l,.int 0 0] }).push (fL [.ref h.objs.size] 0)).push (vg (h.objs.size+1) f)
structure wz (h:Heap) (l:Addr) (f:Value) (h1:Heap):Prop where
 ext:cD h h1
 hI:h1.IsListIter h.objs.size l 0
 hT:h1.get? (h.objs.size+1)=some (fL [.ref h.objs.size] 0)
 hM:h1.get? (h.objs.size+2)=some (vg (h.objs.size+1) f)
theorem tm {h:Heap} {a b:Obj}:((h.push a).push b).objs.size=h.objs.size+2:=(Heap.size_push ..).trans (congrArg (·+1) (Heap.size_push ..))
theorem tn (h:Heap) (l:Addr) (f:Value):wz h l f (Hg h l f) where
 ext:=fun b o e=>Kx _ (Kx _ (Kx _ e))
 hI:=⟨_,Kx _ (Kx _ (Kj _ rfl)),rfl,rfl⟩
 hT:=rB (Heap.size_push ..) (Kx _ (Kj _ rfl))
 hM:=rB tm (Kj _ rfl)
theorem pg (f:Value) (l:Addr) (xs:Array Value) :
  Meets (Builtin.«map.__new__» ⟨[.type "map",f,.ref l],[]⟩) (fun _ R s=>s.heap.IsList l xs ∧
   R (.ok (.ret (.ref (s.heap.objs.size+2)))) { s with heap:=Hg s.heap l f }) :=
 .of_wp fun prog w A R s h=>by
  obtain⟨hl,h⟩:=h
  refine JX (m:=Builtin.SmallTypes.newClass "map" _) ?_
  refine (?_:wpAny _ _ (isType (.type "map") >>= fun _=>_) _ _ _)
  refine JX (m:=isType (.type "map")) (JZ (a:=true) ?_)
  refine (?_:wpAny _ _ (isSubtype (.type "map") (.type "map") >>= fun _=>_) _ _ _)
  refine JX (wpAny_of_eq wy (JZ ?_))
  refine JX (m:=Builtin.SmallTypes.refuseKeywords "map" _ _) (JZ ?_)
  refine (?_:wpAny _ _ (Builtin.SmallTypes.iterAll [.ref l] >>= fun _=>_) _ _ _)
  refine JX ?_
  refine JX ?_
  refine rT (List.forIn_cons ..) ?_
  refine JX (JX (JY (wpAny_pyIter_list hl (JZ ?_))))
  dsimp only
  refine rT List.forIn_nil ?_
  refine JZ (JZ ?_)
  refine JX (wpAny_newTuple ?_ (by refine (?_:(1:Nat)≤_);decide))
  unfold Builtin.SmallTypes.newRecord
  refine JX (wpAny_newObj_type (JZ ⟨_,rfl,?_⟩))
  refine rT (a:=(s.heap.push { cls := .type "list_iterator",data := .fields #[.ref l,.int 0 0] }).objs.size) (Heap.size_push ..) ?_
  rw [← tm] at h
  exact h
theorem vh {f:Value} {l:Addr} {xs:Array Value} {Q:Value→Shared→Prop} (hl:s.heap.IsList l xs)
  (h:∀ h1,wz s.heap l f h1→Q (.ref (s.heap.objs.size+2)) { s with heap:=h1 }):wpAny (model prog w) A (call (.type "map") [f,.ref l]) Q E s :=
 callType_new ve (by decide) (np _ _) (pe _ _) (fun obj=>F.args_object_init_3 obj _ _) pf (pg f l xs) ⟨hl,⟨vg (s.heap.objs.size+1) f,(tn ..).hM,rfl⟩,h _ (tn ..)⟩
theorem Bf {M T I l:Addr} {f:Value} {xs:Array Value} {i:Nat} {x:Value} {Q:Value→Shared→Prop} (hM:s.heap.get? M=some (vg T f)) (hT:s.heap.get? T=some (fL [.ref I] 0)) (hI:s.heap.IsListIter I l i) (hl:s.heap.IsList l xs) (hx:xs[i]?=some x) (hne:M≠I)
  (h:∀ h',h'.IsListIter I l (i+1)→Heap.SameBut I s.heap h'→wpAny (model prog w) A.in1 (call f [x]) Q NoE { s with heap:=h' }) :
  wpAny (model prog w) A (pyNext (.ref M)) (fun r s'=>∃ v,r=some v∧Q v s') NoE s:=by
 have hTM:s.TypeIs (.ref M) "map" := ⟨_,hM,rfl⟩
 refine JX (wpAny_attempt (wpAny_callSpecial?_slot (name:=Str.ofString "__next__") hTM b8 (wpAny_call_entry b8 hTM gL ?_ (fZ _))))
 refine (?_:wpAny _ _ (field (.ref M) 0 >>= _) _ _ s)
 refine JX (wpAny_field hM rfl (x := .ref T) rfl ?_)
 refine (?_:wpAny _ _ (seqItems? (.ref T) >>= _) _ _ s)
 refine JX (wpAny_seqItems hT rfl ?_)
 refine JX ?_
 refine rB Array.forIn_toList ?_;refine rT (List.forIn_cons ..) ?_
 refine JX (JX (JY (wpAny_nextOf_list_item hI hl hx fun h' hI' hk=>JZ ?_)))
 dsimp only
 refine rT List.forIn_nil ?_
 refine JZ ?_
 refine (?_:wpAny _ _ (field (.ref M) 1 >>= _) _ _ _)
 refine JX (wpAny_field (hk.extBut M _ hne hM) rfl (x:=f) rfl ?_)
 refine JX (JY (Kq (h h' hI' hk) (fun v s' q => ?_) fun _ _ e=>e.elim))
 refine JX (wpAny_letGo ?_)
 exact JZ ⟨v,rfl,JZ ⟨v,rfl,q⟩⟩
theorem DM {M T I l:Addr} {f:Value} {xs:Array Value} {i:Nat} {Q:Option Value→Shared→Prop} (hh:A.handled=none) (hM:s.heap.get? M=some (vg T f)) (hT:s.heap.get? T=some (fL [.ref I] 0)) (hI:s.heap.IsListIter I l i) (hl:s.heap.IsList l xs) (hx:xs[i]?=none)
  (h:∀ h',Heap.ExtBut I s.heap h'→Q none { s with heap:=h' }):wpAny (model prog w) A (pyNext (.ref M)) Q E s:=by
 have hTM:s.TypeIs (.ref M) "map" := ⟨_,hM,rfl⟩
 refine JX (wpAny_attempt (wpAny_callSpecial?_slot (name:=Str.ofString "__next__") hTM b8 (wpAny_call_entry b8 hTM gL ?_ (fZ _))))
 refine (?_:wpAny _ _ (field (.ref M) 0 >>= _) _ _ s)
 refine JX (wpAny_field hM rfl (x := .ref T) rfl ?_)
 refine (?_:wpAny _ _ (seqItems? (.ref T) >>= _) _ _ s)
 refine JX (wpAny_seqItems hT rfl ?_)
 refine JX ?_
 refine rB Array.forIn_toList ?_;refine rT (List.forIn_cons ..) ?_
 refine JX (JX (JY (wpAny_nextOf_list_end (A:=A.in1) hh hI hl hx fun h' e hk he => ?_)))
 obtain⟨o,ho,hc⟩:=he
 refine JX (wpAny_isInstance (T := "StopIteration") (b:=true) ⟨o,ho,hc⟩ isSubtype_stop ?_)
 exact JZ (h _ hk)
end
section
variable {C:ae} {A:Around} {d:Nat} {H H':AH} {x:AV} {l:List AV} {f:Nat}
structure MSt (f:Nat) (cxa I S M T:Addr) (x:AV) (i:Nat) (R:RM) (ρ:List Addr) (H:AH) (s:Shared) (done:List AV) (acc:List Value):Prop where
 g:ag R ρ H s.heap
 rx:Rel R ρ x (.ref cxa)
 ra:ai R ρ done acc
 n:done.length=i
 hI:s.heap.IsListIter I cxa i
 hM:s.heap.get? M=some (vg T (.ref (X.F f)))
 hT:s.heap.get? T=some (fL [.ref I] 0)
 hS:∃ c,s.heap.get? S=some (aN acc c)
 own:∀ b,b=I∨b=S∨b=M∨b=T→R b=none∧b∉ρ
inductive Bg (I S:Addr) (R:RM) (ρ:List Addr) (s:Shared) (H':AH) (all:List AV) (s':Shared):Prop
 |mk (R':RM) (ρ':List Addr) (s1:Shared) (acc:List Value) (c:Nat):Mv (fun b=>b=I∨b=S) R ρ s R' ρ' s1→ag R' ρ' H' s1.heap→xw [I] s1 s'→s'.heap.get? S=some (aN acc c)→ai R' ρ' all acc→R' S=none→S∉ρ'→R' I=none→I∉ρ'→Bg I S R ρ s H' all s'
theorem Bg.behind {I S:Addr} {R R2:RM} {ρ ρ2:List Addr} {s s2 s':Shared} {all:List AV} (m:Mv (fun b=>b=I∨b=S) R ρ s R2 ρ2 s2) (e:Bg I S R2 ρ2 s2 H' all s'):Bg I S R ρ s H' all s' :=
 have ⟨R',ρ',s1,acc,c,q1,q2,q3,q4,q5,q6,q7,q8,q9⟩:=e
 ⟨R',ρ',s1,acc,c,m.trans q1,q2,q3,q4,q5,q6,q7,q8,q9⟩
theorem wA {I b:Addr} (h:b∉[I]):b≠I:=fun e=>h (e▸Ka)
theorem dq {α:Type} {o:Option α} {a:α} (h:o=some a):o≠none:=fun z=>nomatch h.symm.trans z
theorem dw.one {R:RM} {ρ:List Addr} {I:Addr} {h:Heap} (k:R I=none∧I∉ρ) (l:h.get? I≠none):dw [I] R ρ h:=fun b hb=>by refine rT (Ke.mp hb) ?_;exact⟨k.1,k.2,l⟩
structure EP (I cxa:Addr) (i:Nat) (R:RM) (ρ:List Addr) (H1:AH) (s:Shared) (x1:AV) (cv:Value) (s2:Shared) (R2:RM) (ρ2:List Addr) (h':Heap):Prop where
 hI:h'.IsListIter I cxa (i+1)
 hs:Heap.SameBut I s.heap h'
 m:Mv No R ρ { s with heap:=h' } R2 ρ2 s2
 g:ag R2 ρ2 H1 s2.heap
 r:Rel R2 ρ2 x1 cv
theorem MSt.next {I S M T cxa:Addr} {i:Nat} {R R2:RM} {ρ ρ2:List Addr} {s s2:Shared} {done:List AV} {acc:List Value} {x1:AV} {cv:Value} {h':Heap} (hIS:I≠S) (hIM:M≠I) (hIT:T≠I) (hSM:M≠S) (hST:T≠S) (Z:MSt f cxa I S M T x i R ρ H s done acc) (K:EP I cxa i R ρ H s x1 cv s2 R2 ρ2 h') :
  s2.heap.get? S=some (aN acc (Z.hS.choose))∧Mv (fun b=>b=I∨b=S) R ρ s R2 ρ2 { s2 with heap:=s2.heap.update S (Obj.mapSeq (·.push cv)) }∧MSt f cxa I S M T x (i+1) R2 ρ2 H { s2 with heap:=s2.heap.update S (Obj.mapSeq (·.push cv)) } (done++[x1]) (acc++[cv]):=by
 have hS:=Z.hS.choose_spec
 generalize Z.hS.choose=c at hS ⊢
 obtain⟨o,ho,_⟩:=id Z.hI
 obtain⟨o',ho',_⟩:=id K.hI
 obtain⟨m1,g1⟩:=jI (tk:=s.toks) (h':=h') Z.g (.one (Z.own _ (.inl rfl)) (dq ho)) (dq ho') fun b o hb e=>K.hs.extBut _ _ (wA hb) e
 have live:∀ b,b=I∨b=S∨b=M∨b=T→s.heap.get? b≠none:=fun b hb=>by
  rcases hb with rfl|rfl|rfl|rfl
  ·exact dq ho
  ·exact dq hS
  ·exact dq Z.hM
  ·exact dq Z.hT
 have own2:∀ b,b=I∨b=S∨b=M∨b=T→R2 b=none∧b∉ρ2:=fun b hb=>by
  have hl1:h'.get? b≠none:=m1.live b (live b hb)
  refine⟨?_,fun hm=>(K.m.sub hm).elim (Z.own b hb).2 hl1⟩
  cases q:R2 b with
  |none=>rfl
  |some o=>exact absurd ((K.m.rn _ _ q).resolve_left fun q'=>nomatch (Z.own b hb).1.symm.trans q') hl1
 have keep2:∀ b o,b=I∨b=S∨b=M∨b=T→h'.get? b=some o→s2.heap.get? b=some o:=fun b o hb e=>K.m.keep b o e (Z.own b hb).2 id
 have hS1:s2.heap.get? S=some (aN acc c):=keep2 _ _ (.inr (.inl rfl)) (K.hs.extBut _ _ (Ne.symm hIS) hS)
 obtain⟨c',hc'⟩:=cc (s:=s2) (fun xs=>xs.push cv) hS1
 rw [List.push_toArray] at hc'
 obtain⟨m3,g3⟩:=jI (tk:=s2.toks) (h':=s2.heap.update S (Obj.mapSeq (·.push cv))) K.g (.one (own2 _ (.inr (.inl rfl))) (dq hS1)) (dq hc') fun b o hb e=>(aA (wA hb)).trans e
 have mAll:Mv (fun b=>b=I∨b=S) R ρ s R2 ρ2 { s2 with heap:=s2.heap.update S (Obj.mapSeq (·.push cv)) }:=((m1.weak fun a h => .inl (Ke.mp h)).trans K.m.up).trans (m3.weak fun a h => .inr (Ke.mp h))
 exact⟨hS1,mAll,g3,mAll.rel Z.rx,(mAll.relL Z.ra).append (.one K.r),List.length_append.trans (congrArg (·+1) Z.n),(K.hI.at fun o e=>keep2 I o (.inl rfl) e).at fun o e=>(aA hIS).trans e,(aA hSM).trans (keep2 _ _ (.inr (.inr (.inl rfl))) (K.hs.extBut _ _ hIM Z.hM)),(aA hST).trans (keep2 _ _ (.inr (.inr (.inr rfl))) (K.hs.extBut _ _ hIT Z.hT)),⟨c',hc'⟩,own2⟩
theorem Bh {I S M T:Addr} {cxa:Addr} {P:Result→Shared→Prop} (or:mw C d) (room:aI A (d+2)) (hIS:I≠S) (hIM:M≠I) (hIT:T≠I) (hSM:M≠S) (hST:T≠S) (hl:aY H x=some l) (hlen:l.length≤1000) (hpure:∀ a H r H',C f [a] [] H=some (r,H')→H'=H) (rest:List AV) :
  ∀ (i:Nat) (R:RM) (ρ:List Addr) (s:Shared) (done r:List AV) (acc:List Value),l.drop i=rest→qz C f rest H=some (r,H')→MSt f cxa I S M T x i R ρ H s done acc→(∀ s',Bg I S R ρ s H' (done++r) s'→P (.ok (.ret (.ref S))) s') →
   codeAny X.M A (.builtin "list.extend.loop" ⟨[.ref S,.ref M,.ref S],[]⟩) P s:=by
 induction rest with
 |nil =>
  intro i R ρ s done r acc hd hm Z hP
  obtain⟨rfl,rfl⟩:=Prod.mk.inj (KY hm)
  obtain⟨ad,ws,n,e,hk,hr⟩:=aQ Z.g Z.rx hl
  cases e
  have hend:ws.toArray[i]?=none:=by
   refine rT List.getElem?_toArray ?_;exact List.getElem?_eq_none (hr.length▸List.drop_eq_nil_iff.mp hd)
  refine codeAny_builtin F.entry_extend_loop ?_
  refine rT (Kz F.plain_extend_loop _) ?_
  refine (?_:wpAny _ A.in1 (pyNext (.ref M) >>= _) _ _ s)
  refine JX (DM (A:=A.in1) room.h Z.hM Z.hT Z.hI (ay hk) hend fun h' he=>JZ (hP _ ?_))
  obtain⟨c,hS⟩:=Z.hS
  refine rT (List.append_nil ..) ?_
  exact⟨R,ρ,s,acc,c,Mv.refl s,Z.g,⟨fun b o hb e=>he b o (wA hb) e,rfl,rfl⟩,he _ _ (Ne.symm hIS) hS,Z.ra,(Z.own S (.inr (.inl rfl))).1,(Z.own S (.inr (.inl rfl))).2,(Z.own I (.inl rfl)).1,(Z.own I (.inl rfl)).2⟩
 |cons a rest ih =>
  intro i R ρ s done r acc hd hm Z hP
  have hli:l[i]?=some a:=by refine rB List.head?_drop ?_;refine rT hd ?_;rfl
  have hd':l.drop (i+1)=rest:=by refine rB List.drop_drop ?_;refine rT hd ?_;rfl
  obtain⟨⟨x1,H1⟩,hm1,hm⟩:=Option.bind_eq_some_iff.mp hm
  obtain⟨⟨r1,H2⟩,hm2,hm⟩:=Option.bind_eq_some_iff.mp hm
  obtain⟨rfl,rfl⟩:=Prod.mk.inj (KY hm)
  obtain rfl:=hpure _ _ _ _ hm1
  obtain⟨ad,ws,n,e,hk,hr⟩:=aQ Z.g Z.rx hl
  cases e
  obtain⟨v,hv,rv⟩:=hr.get hli
  refine codeAny_builtin F.entry_extend_loop ?_
  refine rT (Kz F.plain_extend_loop _) ?_
  refine (?_:wpAny _ A.in1 (pyNext (.ref M) >>= _) _ _ s)
  refine JX (Kq (Bf (A:=A.in1) (Q:=fun cv s2=>∃ R2 ρ2 h',EP I cxa i R ρ H1 s x1 cv s2 R2 ρ2 h') Z.hM Z.hT Z.hI (ay hk) ((List.getElem?_toArray ..).trans hv) hIM fun h' hI' hs => ?_) (fun rr s2 hrr => ?_) fun _ _ e=>e.elim)
  ·obtain⟨o,ho,_⟩:=id Z.hI
   obtain⟨o',ho',_⟩:=id hI'
   obtain⟨m1,g1⟩:=jI (tk:=s.toks) (h':=h') Z.g (.one (Z.own _ (.inl rfl)) (dq ho)) (dq ho') fun b o hb e=>hs.extBut _ _ (wA hb) e
   exact (or f [a] [] H1 x1 H1 A.in1.in1 R ρ { s with heap:=h' } [v] [] hm1 room.in1.in1 g1 (.one (Rel.mono (fun _ _ h=>h) (fun _ _ h=>h) _ _ rv)) rfl).wp fun R2 ρ2 cv s2 m2 g2 r2=>⟨R2,ρ2,h',hI',hs,m2,g2,r2⟩
  ·obtain⟨cv,rfl,R2,ρ2,h',K⟩:=hrr
   obtain⟨hS1,mAll,Z'⟩:=Z.next hIS hIM hIT hSM hST K
   have hil:i<1000:=KZ (KK.mp hli).1 hlen
   have hacc:acc.length=i:=Z.ra.length.trans Z.n
   refine JX ?_
   refine (?_:wpAny _ A.in1 (updateSeq S (·.push cv)) _ _ _)
   refine wpAny_updateSeq hS1 rfl (JZ ⟨plainId_quiet F.plain_extend_loop _,ih (i+1) R2 ρ2 _ (done++[x1]) r1 (acc++[cv]) hd' hm2 Z' fun s' e=>hP s' ?_⟩) (by refine rT List.size_toArray ?_;refine rT sizeLine_eq ?_;refine rT hacc ?_;exact KW (Kd hil (by decide))) (by refine (?_:(acc.toArray.push cv).size≤sizeLine+1);refine rT (Array.size_push ..) ?_;refine rT List.size_toArray ?_;refine rT sizeLine_eq ?_;refine rT hacc ?_;exact Nat.succ_le_succ (KW (Kd hil (by decide))))
   rw [List.append_assoc] at e
   exact e.behind mAll
theorem tp {M T I cxa:Addr} {R:RM} {ρ:List Addr} {s:Shared} {r:List AV} {Q:List Value→Shared→Prop} (or:mw C d) (room:aI A (d+2)) (hIM:M≠I) (hIT:T≠I) (hl:aY H x=some l) (hlen:l.length≤1000) (hpure:∀ a H r H',C f [a] [] H=some (r,H')→H'=H)
  (hm:qz C f l H=some (r,H')) (g:ag R ρ H s.heap) (rx:Rel R ρ x (.ref cxa)) (hI:s.heap.IsListIter I cxa 0) (hM:s.heap.get? M=some (vg T (.ref (X.F f)))) (hT:s.heap.get? T=some (fL [.ref I] 0)) (oI:R I=none∧I∉ρ) (oM:R M=none∧M∉ρ) (oT:R T=none∧T∉ρ)
  (hQ:∀ R' ρ' s1 s' acc,Mv (fun b=>b=I) R ρ s R' ρ' s1→ag R' ρ' H' s1.heap→xw [I] s1 s'→ai R' ρ' r acc→R' I=none→I∉ρ'→Q acc s'):wpAny X.M A (collect (.ref M)) Q NoE s:=by
 refine JX (wpAny_runValue (codeAny_builtin F.entry_proto_collect ?_))
 refine rT (Kz F.plain_proto_collect _) ?_
 refine (?_:wpAny _ A.in1 (newList [] >>= fun l=>again (.builtin "list.__iadd__" ⟨[l,.ref M],[]⟩)) _ _ s)
 refine JX (wpAny_newObj_type ?_)
 refine JZ ⟨plainId_quiet F.plain_list_iadd _,codeAny_builtin F.entry_list_iadd ?_⟩
 refine rT (Kz F.plain_list_iadd _) ?_
 refine (?_:wpAny _ A.in1 (Builtin.List.listExtendWith (.ref s.heap.objs.size) (.ref M) (.ref s.heap.objs.size)) _ _ _)
 have hn:=b6 s.heap
 have hSM:M≠s.heap.objs.size:=Lq (Kw hM)
 have hST:T≠s.heap.objs.size:=Lq (Kw hT)
 have hIS:I≠s.heap.objs.size:=hI.elim fun o ho=>Lq (Kw ho.1)
 have hS₁:(s.heap.push { cls := .type "list",data := .seq ([]:List Value).toArray }).get? s.heap.objs.size=some (aN [] 0):=Kj _ rfl
 have k1:∀ b o,s.heap.get? b=some o→(s.heap.push { cls := .type "list",data := .seq ([]:List Value).toArray }).get? b=some o:=fun b o e=>Kx _ e
 have hM₁:=k1 _ _ hM
 have h1:Builtin.List.listSameRef (.ref s.heap.objs.size) (.ref M)=false:=by simp [Builtin.List.listSameRef,Ne.symm hSM]
 have h2:(Value.type "map" == Value.type "list")=false:=by decide
 have h3:(Value.type "map" == Value.type "tuple")=false:=by decide
 have hTM:({ s with heap:=s.heap.push { cls := .type "list",data := .seq ([]:List Value).toArray } }:Shared).TypeIs (.ref M) "map" := ⟨_,hM₁,rfl⟩
 refine JX (wpAny_typeOf hTM ?_)
 simp only [h1,h2,h3,Bool.or_false,Bool.false_eq_true,if_false]
 refine JX (wpAny_pyIter_slot hTM iM (wpAny_call_entry iM hTM nk (show wpAny _ _ (ret (.ref M)) _ _ _ from JZ ⟨_,rfl, "map",_,hTM,b8.lookup,?_⟩) (lX _)))
 refine JX (JY ?_)
 refine JX (wpAny_specialOf hTM yB ?_)
 refine (?_:wpAny _ A.in1 (specialOf (Value.ref M) (Str.ofString "__length_hint__") >>= _) _ _ _)
 refine JX (wpAny_specialOf hTM vf ?_)
 refine JZ ?_
 show wpAny _ A.in1 (rule "list.extend.makes-room" >>= fun _=>Builtin.List.listTouch (.ref s.heap.objs.size) >>= fun _ =>
  again (.builtin "list.extend.loop" ⟨[.ref s.heap.objs.size,.ref M,.ref s.heap.objs.size],[]⟩)) _ _ _
 refine JX (wpAny_rule ?_)
 refine JX ?_
 refine (?_:wpAny _ A.in1 (updateSeq s.heap.objs.size (·.push .none) >>= fun _=>updateSeq s.heap.objs.size (·.pop)) _ _ _)
 refine JX (wpAny_updateSeq hS₁ rfl ?_)
 obtain⟨c2,hS₂⟩:=cc (s:={ s with heap:=s.heap.push { cls := .type "list",data := .seq ([]:List Value).toArray } }) (·.push Value.none) hS₁
 refine wpAny_updateSeq hS₂ rfl ?_
 obtain⟨c3,hS₃⟩:=cc (s:={ s with heap:=(s.heap.push { cls := .type "list",data := .seq ([]:List Value).toArray }).update s.heap.objs.size (Obj.mapSeq (·.push Value.none)) }) (·.pop) hS₂
 have k2:∀ b o,s.heap.get? b=some o→(((s.heap.push { cls := .type "list",data := .seq ([]:List Value).toArray }).update s.heap.objs.size (Obj.mapSeq (·.push Value.none))).update s.heap.objs.size (Obj.mapSeq (·.pop))).get? b=some o:=fun b o e=>by
  have hb:b≠s.heap.objs.size:=Lq (Kw e)
  exact (aA hb).trans ((aA hb).trans (k1 b o e))
 generalize ((s.heap.push { cls := .type "list",data := .seq ([]:List Value).toArray }).update s.heap.objs.size (Obj.mapSeq (·.push Value.none))).update s.heap.objs.size (Obj.mapSeq (·.pop))=h4 at hS₃ k2 ⊢
 have m0:Mv (fun b=>b=I) R ρ s R ρ { s with heap:=h4 }:=Mv.grow (tk:=s.toks) k2
 refine JZ ⟨plainId_quiet F.plain_extend_loop _,Bh (I:=I) (T:=T) (s:={ s with heap:=h4 }) or room hIS hIM hIT hSM hST hl hlen hpure l 0 R ρ [] r [] rfl hm ⟨g.grow k2,rx,.nil,rfl,hI.at fun o e=>k2 I o e,k2 _ _ hM,k2 _ _ hT,⟨c3,hS₃⟩,fun b hb => ?_⟩ fun s' ⟨R',ρ',s1,acc,c',q1,q2,q3,q4,q5,q6,q7,q8,q9⟩ => ?_⟩
 ·rcases hb with rfl|rfl|rfl|rfl
  ·exact oI
  ·exact⟨g.none_of_new hn,g.not_mem_new hn⟩
  ·exact oM
  ·exact oT
 ·refine (?_:wpAny _ A (load s.heap.objs.size >>= _) _ _ s')
  refine JX (wpAny_load q4 (JZ ?_))
  have hm2:Mv (fun b=>b=I) R ρ s R' ρ' s1:=by
   have q:=(m0.weak (O':=fun b=>b=I∨b=s.heap.objs.size) fun a h => .inl h).trans q1
   exact⟨q.r,q.rn,q.p,fun b o e hb hO=>q.keep b o e hb fun z=>z.elim hO (fun z=>by subst z;rw [hn] at e;cases e),q.live,q.gens,q.os⟩
  exact hQ R' ρ' s1 s' acc hm2 q2 q3 q5 q8 q9
theorem Bi {l:List AV}:∀ {H H':AH} {r:List AV},qz C f l H=some (r,H')→r.length=l.length:=by
 induction l with
 |nil=>exact fun h=>(KY (congrArg (Option.map fun p=>p.1.length) h)).symm
 |cons a l ih=>exact fun h=>ob h fun _ _ h=>ob h fun _ h2 h=>(KY (congrArg (Option.map fun p=>p.1.length) h)).symm.trans (congrArg (·+1) (ih h2))
theorem DN {R:RM} {ρ:List Addr} {s:Shared} {r:List AV} {cx:Value} (or:mw C d) (room:aI A (d+4)) (g:ag R ρ H s.heap) (rx:Rel R ρ x cx) (hl:jt H x=some l) (hm:qz C f l H=some (r,H')) (hpure:∀ a H r H',C f [a] [] H=some (r,H')→H'=H) :
  wpAny X.M A (call (.type "map") [.ref (X.F f),cx]) (fun cm s₁=>wpAny X.M A (call (.type "tuple") [cm]) (b5 R ρ s (.tup r) H') NoE s₁) NoE s:=by
 unfold jt at hl
 obtain⟨l',hl,h'⟩:=Option.bind_eq_some_iff.mp hl
 replace h':=mH h';obtain⟨hlen,h'⟩:=h'
 cases h'
 obtain⟨ad,ws,n,e,hk,hr⟩:=aQ g rx hl
 subst e
 refine vh (ay hk) fun h1 Z => ?_
 have fz:∀ k,s.heap.get? (s.heap.objs.size+k)=none:=fun k=>qQ _ _ (Kf _ k)
 have ow:∀ k,R (s.heap.objs.size+k)=none∧(s.heap.objs.size+k)∉ρ:=fun k=>⟨g.none_of_new (fz k),g.not_mem_new (fz k)⟩
 refine callType_codes (Q₁:=fun obj s₁=>s₁.TypeIs obj "tuple" ∧ b5 R ρ s (.tup r) H' obj s₁) F.called_tuple (F.typeCall_tuple_1 _) F.entry_object_init ?_ fun obj s₁ h₁=>⟨h₁.1,F.args_object_init_2 obj _,object_init_meets F.called_tuple.init.lookup F.called_tuple.made (by decide) X.prog X.w A.in1 _ s₁ ⟨h₁.1,rfl,h₁.2⟩⟩
 refine codeAny_of_tree ?_
 refine (?_:wpAny _ A.in1.in1 (do checkBuiltinCall "tuple.__new__" ⟨[.type "tuple",.ref (s.heap.objs.size+2)],[]⟩;again (.builtin "tuple.__new__" ⟨[.type "tuple",.ref (s.heap.objs.size+2)],[]⟩)) _ _ _)
 refine JX (wpAny_of_eq (F.newCall_tuple_1 _) (JZ ⟨plainId_quiet F.plain_tuple_new _,codeAny_builtin F.entry_tuple_new ?_⟩))
 refine rT (Kz F.plain_tuple_new _) ?_
 have hsub:=sub_tuple_self
 have hinit:=init_tuple_lookup
 have hmh:=madeHere_tuple
 have hTI:({ s with heap:=h1 }:Shared).TypeIs (.ref (s.heap.objs.size+2)) "map" := ⟨_,Z.hM,rfl⟩
 have hcol:=fun Q=>tp (M:=s.heap.objs.size+2) (T:=s.heap.objs.size+1) (I:=s.heap.objs.size) (s:={ s with heap:=h1 }) (A:=A.in1.in1) (Q:=Q) or room.in1.in1 (neP (k:=0) (by decide)) (neP (k:=0) (by decide)) hl hlen hpure hm (g.grow Z.ext) rx Z.hI Z.hM Z.hT (ow 0) (ow 2) (ow 1)
 wp_walk using wpAny_typeOf hTI,hcol _
 intro R' ρ' s1 s' acc q1 q2 q3 q4 q5 q6
 refine (?_:wpAny _ _ (Builtin.Tuple.tupleExact acc.toArray >>= fun v=>ret v) _ _ _)
 refine JX (wpAny_newObj_type ?_ (by refine (?_:acc.toArray.size≤sizeLine);refine rT List.size_toArray ?_;refine rT (q4.length.trans (Bi hm)) ?_;refine rT sizeLine_eq ?_;exact Kv hlen (by decide)))
 refine JZ ?_
 have m1:Mv No R ρ s R' ρ' s':=(Mv.ends ((Mv.grow (tk:=s.toks) Z.ext).trans q1) q3 fun b hb=>Ke.mp hb▸fz 0).drop fun a e=>e▸fz 0
 have g1:ag R' ρ' H' s'.heap:=q2.ends (.one ⟨q5,q6⟩ (q1.live _ (liN Z.hI))) q3
 refine⟨⟨_,Kj _ rfl,rfl⟩,?_⟩
 obtain⟨R2,ρ2,m2,g2,r2⟩:=kK (s:=s') (v := .tup r) (o:=fL acc 0) (tk:=s'.toks) g1 rfl fun R2 hr2 e=>⟨_,acc,0,rfl,e,ai.mono hr2 (fun _ _ h=>h) _ _ q4⟩
 exact⟨R2,ρ2,m1.trans m2,g2,r2⟩
end
theorem Hh:dD where
 bin:=fun _ g rx ry h=>FF g rx ry h
 inpl:=fun _ g rx ry h=>Dg g rx ry h
 un:=fun _ g rx h=>G6 (fun hb=>Ar g rx hb) g rx h
 tru:=fun _ g rx h=>Ar g rx h
 cmp:=fun r g rx ry h=>Fr r g rx ry h
 sub:=fun b sl _ g rx ry h=>Fv b sl g rx ry h
 sli:=fun b sl _ g rx r1 r2 r3 h=>Fw b sl g rx r1 r2 r3 h
 bi:=fun r g ra h=>Hf r g ra h
 set1:=fun _ g h=>DI g h
 getm:=fun _ g rx h hm=>Dj g rx h hm _
 meth:=fun r g rx ra _ h=>Dq r g rx ra h
theorem FR:bM where
 iter:=fun tg r g rx h=>Dy tg r g rx h
 range:=fun tg r g ra h=>AW tg r g ra h
 enum:=fun r g rx=>DA r g rx
 zip:=fun r g rx ry h=>FD r g rx ry h
 lrange:=fun r g ra h=>yi r g ra h
 unpk:=fun r g rx=>DG r g rx
 apnd:=fun _ hl hn h=>DH hl hn h
theorem FS:uE where
 tmap:=fun or r g rx hl hm hp _=>DN or r g rx hl hm hp
theorem FT:uI where
 seti:=fun _ g ro ri rx h=>Dw g ro ri rx h
end
end Mine
namespace Mine
open PySem
noncomputable section
noncomputable def cQ:SL :=
  (.cons (.try (.cons (.asg (.name 5) (.meth .index (.v 0) (.cons (.v 2) (.cons (.v 1) .nil))))
  .nil))
  (.cons (.ite (.un .Not (.meth .isdisjoint (.v 3) (.cons (.sl (.v 0) (.yes (.v 1)) (.yes (.v 5)) .no) .nil))) (.cons (.while (.cmp (.sub (.v 0) (.v 1)) (.cons .NotIn (.v 3) .nil)) (.cons (.aug 1 .Add (.c (.int (1))))
  .nil))
  (.cons .bad
  .nil)) .nil)
  (.cons (.ret (.v 5))
  .nil)))
noncomputable def gM:SL :=
  (.cons (.try (.cons (.asg (.name 2) (.sub (.v 0) (.v 1)))
  .nil))
  (.cons (.ite (.cmp (.v 2) (.cons .Eq (.c (.str ⟨#[35]⟩)) .nil)) (.cons (.ret (.call 0 (.cons (.v 0) (.cons (.bin .Add (.v 1) (.c (.int (1)))) (.cons (.c (.str ⟨#[10]⟩)) .nil))) (.cons ⟨#[101,114,114,111,114,95,111,110]⟩ (.g (.fset ill)) (.cons ⟨#[101,114,114,111,114,95,111,110,95,101,111,102]⟩ (.c (.bool false)) .nil))))
  .nil) .nil)
  (.cons (.ret (.v 1))
  .nil)))
noncomputable def fw:SL :=
  (.cons (.asg (.name 3) (.sl (.v 0) (.yes (.v 1)) (.yes (.bin .Add (.v 1) (.v 2))) .no))
  (.cons (.ite (.bool .Or (.cons (.cmp (.bi .len (.cons (.v 3) .nil)) (.cons .NotEq (.v 2) .nil)) (.cons (.un .Not (.meth .issuperset (.g (.fset iv)) (.cons (.v 3) .nil))) .nil))) (.cons .bad
  .nil) .nil)
  (.cons (.aug 1 .Add (.v 2))
  (.cons (.asg (.name 4) (.bi .int16 (.cons (.v 3) (.cons (.c (.int (16))) .nil))))
  (.cons (.ite (.un .Not (.call 4 (.cons (.v 4) .nil) .nil)) (.cons .bad
  .nil) .nil)
  (.cons (.ret (.tup (.cons (.v 1) (.cons (.bi .chr (.cons (.v 4) .nil)) .nil))))
  .nil))))))
noncomputable def dE:SL :=
  (.cons (.aug 1 .Add (.c (.int (1))))
  (.cons (.asg (.name 2) (.v 1))
  (.cons (.asg (.name 1) (.call 0 (.cons (.v 0) (.cons (.v 1) (.cons (.c (.str ⟨#[39]⟩)) .nil))) (.cons ⟨#[101,114,114,111,114,95,111,110]⟩ (.g (.fset ill)) (.cons ⟨#[101,114,114,111,114,95,111,110,95,101,111,102]⟩ (.c (.bool true)) .nil))))
  (.cons (.ret (.tup (.cons (.bin .Add (.v 1) (.c (.int (1)))) (.cons (.sl (.v 0) (.yes (.v 2)) (.yes (.v 1)) .no) .nil))))
  .nil))))
noncomputable def bX:SL :=
  (.cons (.ret (.bool .Or (.cons (.cmp (.c (.int (0))) (.cons .LtE (.v 0) (.cons .LtE (.c (.int (55295))) .nil))) (.cons (.cmp (.c (.int (57344))) (.cons .LtE (.v 0) (.cons .LtE (.c (.int (1114111))) .nil))) .nil))))
  .nil)
noncomputable def nq:SL :=
  (.cons (.expr (.meth .append (.v 0) (.cons (.v 1) .nil)))
  (.cons (.expr (.call 7 (.cons (.v 0) (.cons (.c (.int (0))) (.cons (.bin .Sub (.bi .len (.cons (.v 0) .nil)) (.c (.int (1)))) .nil))) .nil))
  .nil))
noncomputable def qa:SL :=
  (.cons (.asg (.name 1) (.meth .pop (.v 0) .nil))
  (.cons (.ite (.v 0) (.cons (.asg (.name 2) (.sub (.v 0) (.c (.int (0)))))
  (.cons (.asgSub (.v 0) (.c (.int (0))) (.v 1))
  (.cons (.expr (.call 8 (.cons (.v 0) (.cons (.c (.int (0))) .nil)) .nil))
  (.cons (.ret (.v 2))
  .nil)))) .nil)
  (.cons (.ret (.v 1))
  .nil)))
noncomputable def nt:SL :=
  (.cons (.asg (.name 3) (.sub (.v 0) (.v 2)))
  (.cons (.while (.cmp (.v 2) (.cons .Gt (.v 1) .nil)) (.cons (.asg (.name 4) (.bin .RShift (.bin .Sub (.v 2) (.c (.int (1)))) (.c (.int (1)))))
  (.cons (.asg (.name 5) (.sub (.v 0) (.v 4)))
  (.cons (.ite (.cmp (.v 3) (.cons .Lt (.v 5) .nil)) (.cons (.asgSub (.v 0) (.v 2) (.v 5))
  (.cons (.asg (.name 2) (.v 4))
  (.cons .cont
  .nil))) .nil)
  (.cons .brk
  .nil)))))
  (.cons (.asgSub (.v 0) (.v 2) (.v 3))
  .nil)))
noncomputable def tq:SL :=
  (.cons (.asg (.name 2) (.bi .len (.cons (.v 0) .nil)))
  (.cons (.asg (.name 3) (.v 1))
  (.cons (.asg (.name 4) (.sub (.v 0) (.v 1)))
  (.cons (.asg (.name 5) (.bin .Add (.bin .Mult (.c (.int (2))) (.v 1)) (.c (.int (1)))))
  (.cons (.while (.cmp (.v 5) (.cons .Lt (.v 2) .nil)) (.cons (.asg (.name 6) (.bin .Add (.v 5) (.c (.int (1)))))
  (.cons (.ite (.bool .And (.cons (.cmp (.v 6) (.cons .Lt (.v 2) .nil)) (.cons (.un .Not (.cmp (.sub (.v 0) (.v 5)) (.cons .Lt (.sub (.v 0) (.v 6)) .nil))) .nil))) (.cons (.asg (.name 5) (.v 6))
  .nil) .nil)
  (.cons (.asgSub (.v 0) (.v 1) (.sub (.v 0) (.v 5)))
  (.cons (.asg (.name 1) (.v 5))
  (.cons (.asg (.name 5) (.bin .Add (.bin .Mult (.c (.int (2))) (.v 1)) (.c (.int (1)))))
  .nil))))))
  (.cons (.asgSub (.v 0) (.v 1) (.v 4))
  (.cons (.expr (.call 7 (.cons (.v 0) (.cons (.v 3) (.cons (.v 1) .nil))) .nil))
  .nil)))))))
noncomputable def tu:SL :=
  (.cons (.asg (.name 1) (.bi .type (.cons (.v 0) .nil)))
  (.cons (.ite (.bi .issubclass (.cons (.v 1) (.cons (.tup (.cons (.g (.ty "str")) (.cons (.g (.ty "bytes")) .nil))) .nil))) (.cons (.ret (.v 0))
  .nil) .nil)
  (.cons .bad
  (.cons .bad
  (.cons (.ite (.cmp (.v 2) (.cons .Is (.c .none) .nil)) (.cons .bad
  .nil) .nil)
  (.cons .bad
  (.cons .bad
  (.cons (.ite (.bi .issubclass (.cons (.bi .type (.cons (.v 3) .nil)) (.cons (.tup (.cons (.g (.ty "str")) (.cons (.g (.ty "bytes")) .nil))) .nil))) (.cons (.ret (.v 3))
  .nil) .nil)
  (.cons .bad
  (.cons .bad
  .nil))))))))))
noncomputable def qb:SL :=
  (.cons (.ite (.bi .isinstance (.cons (.v 0) (.cons (.g (.ty "bytes")) .nil))) (.cons (.ret (.c (.bytes [47])))
  .nil) (.cons (.ret (.c (.str ⟨#[47]⟩)))
  .nil))
  .nil)
noncomputable def kQ:SL :=
  (.cons (.asg (.name 0) (.call 9 (.cons (.v 0) .nil) .nil))
  (.cons (.asg (.name 2) (.call 10 (.cons (.v 0) .nil) .nil))
  (.cons (.asg (.name 3) (.v 0))
  (.cons (.try (.cons (.for (.name 4) (.val (.v 1)) (.cons (.asg (.name 4) (.call 9 (.cons (.v 4) .nil) .nil))
  (.cons (.ite (.bool .Or (.cons (.meth .startswith (.v 4) (.cons (.v 2) .nil)) (.cons (.un .Not (.v 3)) .nil))) (.cons (.asg (.name 3) (.v 4))
  .nil) (.cons (.ite (.meth .endswith (.v 3) (.cons (.v 2) .nil)) (.cons (.aug 3 .Add (.v 4))
  .nil) (.cons (.aug 3 .Add (.bin .Add (.v 2) (.v 4)))
  .nil))
  .nil))
  .nil)))
  .nil))
  (.cons (.ret (.v 3))
  .nil)))))
noncomputable def gN:SL :=
  (.cons (.asg (.name 0) (.call 9 (.cons (.v 0) .nil) .nil))
  (.cons (.ite (.bi .isinstance (.cons (.v 0) (.cons (.g (.ty "bytes")) .nil))) (.cons (.asg (.name 1) (.c (.bytes [47])))
  (.cons (.asg (.name 2) (.c (.bytes [])))
  .nil)) (.cons (.asg (.name 1) (.c (.str ⟨#[47]⟩)))
  (.cons (.asg (.name 2) (.c (.str ⟨#[]⟩)))
  .nil)))
  (.cons (.ite (.cmp (.sl (.v 0) .no (.yes (.c (.int (1)))) .no) (.cons .NotEq (.v 1) .nil)) (.cons (.ret (.tup (.cons (.v 2) (.cons (.v 2) (.cons (.v 0) .nil)))))
  .nil) (.cons (.ite (.bool .Or (.cons (.cmp (.sl (.v 0) (.yes (.c (.int (1)))) (.yes (.c (.int (2)))) .no) (.cons .NotEq (.v 1) .nil)) (.cons (.cmp (.sl (.v 0) (.yes (.c (.int (2)))) (.yes (.c (.int (3)))) .no) (.cons .Eq (.v 1) .nil)) .nil))) (.cons (.ret (.tup (.cons (.v 2) (.cons (.v 1) (.cons (.sl (.v 0) (.yes (.c (.int (1)))) .no .no) .nil)))))
  .nil) (.cons (.ret (.tup (.cons (.v 2) (.cons (.sl (.v 0) .no (.yes (.c (.int (2)))) .no) (.cons (.sl (.v 0) (.yes (.c (.int (2)))) .no .no) .nil)))))
  .nil))
  .nil))
  .nil)))
noncomputable def kR:SL :=
  (.cons (.asg (.name 0) (.call 9 (.cons (.v 0) .nil) .nil))
  (.cons (.asg (.name 1) (.call 10 (.cons (.v 0) .nil) .nil))
  (.cons (.asg (.name 2) (.bin .Add (.meth .rfind (.v 0) (.cons (.v 1) .nil)) (.c (.int (1)))))
  (.cons (.asg (.name 3) (.sl (.v 0) .no (.yes (.v 2)) .no))
  (.cons (.ite (.bool .And (.cons (.v 3) (.cons (.cmp (.v 3) (.cons .NotEq (.bin .Mult (.v 1) (.bi .len (.cons (.v 3) .nil))) .nil)) .nil))) (.cons (.asg (.name 3) (.meth .rstrip (.v 3) (.cons (.v 1) .nil)))
  .nil) .nil)
  (.cons (.ret (.v 3))
  .nil))))))
noncomputable def nu:SL :=
  (.cons (.asg (.name 0) (.call 9 (.cons (.v 0) .nil) .nil))
  (.cons (.ite (.bi .isinstance (.cons (.v 0) (.cons (.g (.ty "bytes")) .nil))) (.cons (.asg (.name 1) (.c (.bytes [47])))
  (.cons (.asg (.name 2) (.c (.bytes [46])))
  (.cons (.asg (.name 3) (.c (.bytes [46,46])))
  .nil))) (.cons (.asg (.name 1) (.c (.str ⟨#[47]⟩)))
  (.cons (.asg (.name 2) (.c (.str ⟨#[46]⟩)))
  (.cons (.asg (.name 3) (.c (.str ⟨#[46,46]⟩)))
  .nil))))
  (.cons (.ite (.un .Not (.v 0)) (.cons (.ret (.v 2))
  .nil) .nil)
  (.cons (.asg (.tup [4,5,0]) (.call 12 (.cons (.v 0) .nil) .nil))
  (.cons (.asg (.name 6) (.meth .split (.v 0) (.cons (.v 1) .nil)))
  (.cons (.asg (.name 7) (.lst .nil))
  (.cons (.for (.name 8) (.val (.v 6)) (.cons (.ite (.bool .Or (.cons (.un .Not (.v 8)) (.cons (.cmp (.v 8) (.cons .Eq (.v 2) .nil)) .nil))) (.cons .cont
  .nil) .nil)
  (.cons (.ite (.bool .Or (.cons (.cmp (.v 8) (.cons .NotEq (.v 3) .nil)) (.cons (.bool .And (.cons (.un .Not (.v 5)) (.cons (.un .Not (.v 7)) .nil))) (.cons (.bool .And (.cons (.v 7) (.cons (.cmp (.sub (.v 7) (.un .USub (.c (.int (1))))) (.cons .Eq (.v 3) .nil)) .nil))) .nil)))) (.cons (.expr (.meth .append (.v 7) (.cons (.v 8) .nil)))
  .nil) (.cons (.ite (.v 7) (.cons (.expr (.meth .pop (.v 7) .nil))
  .nil) .nil)
  .nil))
  .nil)))
  (.cons (.asg (.name 6) (.v 7))
  (.cons (.asg (.name 0) (.bin .Add (.v 5) (.meth .bjoin (.v 1) (.cons (.v 6) .nil))))
  (.cons (.ret (.bool .Or (.cons (.v 0) (.cons (.v 2) .nil))))
  .nil))))))))))
noncomputable def bR:SL :=
  (.cons (.asg (.name 0) (.tupleMap 9 (.v 0)))
  (.cons (.ite (.un .Not (.v 0)) (.cons .bad
  .nil) .nil)
  (.cons (.ite (.bi .isinstance (.cons (.sub (.v 0) (.c (.int (0)))) (.cons (.g (.ty "bytes")) .nil))) (.cons (.asg (.name 1) (.c (.bytes [47])))
  (.cons (.asg (.name 2) (.c (.bytes [46])))
  .nil)) (.cons (.asg (.name 1) (.c (.str ⟨#[47]⟩)))
  (.cons (.asg (.name 2) (.c (.str ⟨#[46]⟩)))
  .nil)))
  (.cons (.try (.cons (.asg (.name 3) (.lc [none,none,some 1] (.name 1) (.val (.v 0)) .nil (.meth .split (.v 1) (.cons (.v 2) .nil))))
  (.cons (.try (.cons (.asg (.tup [4]) (.sc [none,none,some 1] (.name 1) (.val (.v 0)) (.meth .startswith (.v 1) (.cons (.v 2) .nil))))
  .nil))
  (.cons (.asg (.name 3) (.lc [none,none,some 2] (.name 1) (.val (.v 3)) .nil (.lc [none,none,some 2] (.name 1) (.val (.v 1)) (.cons (.bool .And (.cons (.v 1) (.cons (.cmp (.v 1) (.cons .NotEq (.v 2) .nil)) .nil))) .nil) (.v 1))))
  (.cons (.asg (.name 6) (.bi .min (.cons (.v 3) .nil)))
  (.cons (.asg (.name 7) (.bi .max (.cons (.v 3) .nil)))
  (.cons (.asg (.name 8) (.v 6))
  (.cons (.for (.tup [9,5]) (.enum (.v 6)) (.cons (.ite (.cmp (.v 5) (.cons .NotEq (.sub (.v 7) (.v 9)) .nil)) (.cons (.asg (.name 8) (.sl (.v 6) .no (.yes (.v 9)) .no))
  (.cons .brk
  .nil)) .nil)
  .nil))
  (.cons (.asg (.name 10) (.ife (.v 4) (.v 1) (.sl (.v 1) .no (.yes (.c (.int (0)))) .no)))
  (.cons (.ret (.bin .Add (.v 10) (.meth .bjoin (.v 1) (.cons (.v 8) .nil))))
  .nil))))))))))
  .nil))))
noncomputable def iN:SL :=
  (.cons (.asg (.name 1) (.lst (.cons (.c (.int (18))) (.cons (.c (.int (6))) (.cons (.c (.int (61))) (.cons (.c (.int (50))) (.cons (.c (.int (74))) (.cons (.c (.int (100))) (.cons (.c (.int (11))) .nil)))))))))
  (.cons (.ret (.lc [none,none,some 0,some 1] (.name 1) (.range (.cons (.c (.int (7))) .nil)) .nil (.bin .Add (.sub (.v 3) (.v 1)) (.bi .sum (.cons (.sl (.v 2) (.yes (.v 1)) .no (.yes (.c (.int (7))))) .nil)))))
  .nil))
noncomputable def lC:SL :=
  (.cons (.ret (.bin .Add (.lst (.cons (.c (.int (0))) .nil)) (.lc [none,none,some 0] (.name 1) (.range (.cons (.c (.int (1))) (.cons (.c (.int (7))) .nil))) .nil (.bin .Mod (.sub (.v 2) (.v 1)) (.v 1)))))
  .nil)
noncomputable def iO:SL :=
  (.cons (.asg (.name 2) (.lst (.cons (.c (.str ⟨#[]⟩)) .nil)))
  (.cons (.asg (.name 3) (.lst .nil))
  (.cons (.for (.name 4) (.range (.cons (.c (.int (7))) .nil)) (.cons (.ite (.cmp (.v 4) (.cons .Gt (.c (.int (0))) .nil)) (.cons (.expr (.meth .append (.v 2) (.cons (.bin .Add (.bin .Add (.sub (.v 2) (.sub (.v 1) (.v 4))) (.c (.str ⟨#[47]⟩))) (.sl (.c (.str ⟨#[97,98,99,100,101,102]⟩)) .no (.yes (.v 4)) .no)) .nil)))
  .nil) .nil)
  (.cons (.asg (.name 5) (.sub (.lst (.cons (.c (.str ⟨#[47]⟩)) (.cons (.c (.str ⟨#[]⟩)) (.cons (.c (.str ⟨#[47,46,47]⟩)) (.cons (.c (.str ⟨#[47,122,47,46,46,47]⟩)) (.cons (.c (.str ⟨#[47,47,47]⟩)) (.cons (.c (.str ⟨#[46,46,47]⟩)) .nil))))))) (.bin .Mod (.bin .FloorDiv (.sub (.v 0) (.v 4)) (.c (.int (18)))) (.c (.int (6))))))
  (.cons (.expr (.meth .append (.v 3) (.cons (.bin .Add (.v 5) (.sl (.sub (.v 2) (.v 4)) (.yes (.c (.int (1)))) .no .no)) .nil)))
  .nil))))
  (.cons (.ret (.v 3))
  .nil))))
noncomputable def iP:SL :=
  (.cons (.ret (.bin .Add (.c (.str ⟨#[48,48,48]⟩)) (.sub (.c (.str ⟨#[48,49,50,51,52,53,54]⟩)) (.v 0))))
  .nil)
noncomputable def ny:SL :=
  (.cons (.asg (.name 1) (.lst .nil))
  (.cons (.asg (.name 2) (.c (.int (0))))
  (.cons (.while (.cmp (.v 2) (.cons .Lt (.bi .len (.cons (.v 0) .nil)) .nil)) (.cons (.asg (.tup [3,4]) (.call 2 (.cons (.v 0) (.cons (.v 2) (.cons (.c (.int (4))) .nil))) .nil))
  (.cons (.asg (.tup [5,6]) (.call 3 (.cons (.v 0) (.cons (.v 3) .nil)) .nil))
  (.cons (.asg (.name 7) (.call 1 (.cons (.v 0) (.cons (.v 5) .nil)) .nil))
  (.cons (.asg (.name 8) (.ife (.cmp (.v 7) (.cons .Eq (.v 5) .nil)) (.un .USub (.c (.int (1)))) (.bi .ord (.cons (.sub (.call 2 (.cons (.v 0) (.cons (.bin .Add (.v 5) (.c (.int (1)))) (.cons (.c (.int (4))) .nil))) .nil) (.c (.int (1)))) .nil))))
  (.cons (.expr (.meth .append (.v 1) (.cons (.tup (.cons (.v 5) (.cons (.bi .ord (.cons (.v 4) .nil)) (.cons (.v 6) (.cons (.v 8) .nil))))) .nil)))
  (.cons (.asg (.name 2) (.bin .Add (.v 7) (.c (.int (1)))))
  .nil)))))))
  (.cons (.ret (.v 1))
  .nil))))
noncomputable def gO:SL :=
  (.cons (.ret (.ife (.cmp (.v 0) (.cons .Eq (.c (.bytes [47])) .nil)) (.c (.int (0))) (.bin .Sub (.bi .len (.cons (.meth .split (.v 0) (.cons (.c (.bytes [47])) .nil)) .nil)) (.c (.int (1))))))
  .nil)
noncomputable def qc:SL :=
  (.cons (.asg (.name 2) (.v 0))
  (.cons (.for (.name 3) (.range (.cons (.v 1) .nil)) (.cons (.asg (.name 2) (.call 13 (.cons (.v 2) .nil) .nil))
  .nil))
  (.cons (.ret (.v 2))
  .nil)))
noncomputable def lD:SL :=
  (.cons (.ret (.bin .Sub (.bin .Add (.call 21 (.cons (.v 0) .nil) .nil) (.call 21 (.cons (.v 1) .nil) .nil)) (.bin .Mult (.c (.int (2))) (.call 21 (.cons (.call 15 (.cons (.lst (.cons (.v 0) (.cons (.v 1) .nil))) .nil) .nil) .nil) .nil))))
  .nil)
noncomputable def en:SL :=
  (.cons (.asg (.name 1) (.v 0))
  (.cons (.asg (.name 2) (.lst .nil))
  (.cons (.asg (.name 3) .dict0)
  (.cons (.for (.tup [4,5,6,7]) (.val (.call 20 (.cons (.v 0) .nil) .nil)) (.cons (.asgSub (.v 3) (.v 6) (.call 14 (.cons (.call 11 (.cons (.c (.bytes [47])) (.cons (.meth .encode (.v 6) .nil) .nil)) .nil) .nil) .nil))
  (.cons (.asg (.name 8) (.call 22 (.cons (.sub (.v 3) (.v 6)) (.cons (.v 5) .nil)) .nil))
  (.cons (.expr (.call 5 (.cons (.v 2) (.cons (.tup (.cons (.call 21 (.cons (.v 8) .nil) .nil) (.cons (.v 6) (.cons (.v 8) .nil)))) .nil)) .nil))
  .nil))))
  (.cons (.while (.v 2) (.cons (.asg (.tup [9,10,8]) (.call 6 (.cons (.v 2) .nil) .nil))
  (.cons (.asg (.name 11) (.call 20 (.cons (.v 1) .nil) .nil))
  (.cons (.asg (.name 12) (.lc [none,none,none,none,none,some 3,some 8] (.tup [1,2,3,4]) (.val (.v 11)) (.cons (.bool .And (.cons (.cmp (.v 4) (.cons .GtE (.c (.int (0))) .nil)) (.cons (.cmp (.call 23 (.cons (.sub (.v 5) (.v 3)) (.cons (.v 6) .nil)) .nil) (.cons .LtE (.v 2) .nil)) .nil))) .nil) (.v 4)))
  (.cons (.asg (.name 13) (.bi .min (.cons (.lc [none,none,some 12] (.name 1) (.range (.cons (.c (.int (7))) .nil)) (.cons (.cmp (.v 1) (.cons .NotIn (.v 2) .nil)) .nil) (.v 1)) .nil)))
  (.cons (.for (.tup [4,5,6,7]) (.val (.v 11)) (.cons (.ite (.cmp (.v 6) (.cons .Eq (.v 10) .nil)) (.cons (.asg (.name 1) (.bin .Add (.bin .Add (.bin .Add (.sl (.v 1) .no (.yes (.v 4)) .no) (.c (.str ⟨#[35]⟩))) (.call 19 (.cons (.v 13) .nil) .nil)) (.sl (.v 1) (.yes (.v 4)) .no .no)))
  (.cons .brk
  .nil)) .nil)
  .nil))
  .nil))))))
  (.cons (.ret (.v 1))
  .nil))))))
noncomputable def nA:SL :=
  (.cons (.asg (.name 1) (.lst (.cons (.set1 (.c (.int (0)))) .nil)))
  (.cons (.for (.name 2) (.range (.cons (.c (.int (1))) (.cons (.c (.int (7))) .nil))) (.cons (.expr (.meth .append (.v 1) (.cons (.bin .BitOr (.sub (.v 1) (.sub (.v 0) (.v 2))) (.set1 (.v 2))) .nil)))
  .nil))
  (.cons (.ret (.v 1))
  .nil)))
noncomputable def Bj:SL :=
  (.cons (.asg (.name 1) (.call 16 (.cons (.v 0) .nil) .nil))
  (.cons (.asg (.name 2) (.call 17 (.cons (.v 1) .nil) .nil))
  (.cons (.asg (.name 3) (.call 18 (.cons (.v 1) (.cons (.v 2) .nil)) .nil))
  (.cons (.asg (.name 4) (.lc [none,none,some 1] (.name 1) (.range (.cons (.c (.int (7))) .nil)) .nil (.bin .Mod (.bin .FloorDiv (.sub (.v 2) (.v 1)) (.c (.int (6)))) (.c (.int (3))))))
  (.cons (.asg (.name 5) (.bin .Mod (.bi .len (.cons (.v 0) .nil)) (.c (.int (7)))))
  (.cons (.asg (.name 6) (.bin .Add (.listRange (.cons (.v 5) (.cons (.c (.int (7))) .nil))) (.listRange (.cons (.v 5) .nil))))
  (.cons (.asg (.name 7) (.lc [none,none,some 4,some 3] (.name 1) (.val (.v 6)) .nil (.bin .Add (.bin .Add (.bin .Add (.call 19 (.cons (.sub (.v 2) (.v 1)) .nil) .nil) (.c (.str ⟨#[39]⟩))) (.sub (.v 3) (.v 1))) (.c (.str ⟨#[39]⟩)))))
  (.cons (.asg (.name 8) (.call 24 (.cons (.meth .sjoin (.c (.str ⟨#[]⟩)) (.cons (.lc [none,none] (.name 1) (.val (.v 7)) .nil (.bin .Add (.v 1) (.c (.str ⟨#[10]⟩)))) .nil)) .nil) .nil))
  (.cons (.asg (.name 9) (.call 20 (.cons (.v 8) .nil) .nil))
  (.cons (.ite (.cmp (.lc [none,none] (.name 1) (.val (.v 9)) .nil (.tup (.cons (.sub (.v 1) (.c (.int (1)))) (.cons (.sub (.v 1) (.c (.int (2)))) .nil)))) (.cons .NotEq (.lc [none,none,some 4,some 3] (.name 1) (.val (.v 6)) .nil (.tup (.cons (.sub (.v 2) (.v 1)) (.cons (.sub (.v 3) (.v 1)) .nil)))) .nil)) (.cons (.ret (.c (.bool false)))
  .nil) .nil)
  (.cons (.asg (.name 10) (.lc [none,none] (.name 1) (.val (.v 9)) .nil (.sub (.v 1) (.c (.int (3))))))
  (.cons (.ite (.bool .Or (.cons (.cmp (.bi .min (.cons (.v 10) .nil)) (.cons .Lt (.c (.int (0))) .nil)) (.cons (.cmp (.v 8) (.cons .NotEq (.meth .sjoin (.c (.str ⟨#[]⟩)) (.cons (.lc [none,none,none] (.tup [1,2]) (.zip (.v 7) (.v 10)) .nil (.bin .Add (.bin .Add (.bin .Add (.v 1) (.c (.str ⟨#[35]⟩))) (.call 19 (.cons (.v 2) .nil) .nil)) (.c (.str ⟨#[10]⟩)))) .nil)) .nil)) .nil))) (.cons (.ret (.c (.bool false)))
  .nil) .nil)
  (.cons (.asg (.name 11) (.call 25 (.cons (.v 2) .nil) .nil))
  (.cons (.asg (.name 12) (.lc [none,none,some 10,some 6,some 4,some 11] (.name 1) (.range (.cons (.c (.int (7))) .nil)) .nil (.lc [none,none,none,some 1,some 4,some 5] (.tup [1,2]) (.zip (.v 2) (.v 3)) (.cons (.cmp (.bi .len (.cons (.bin .BitXor (.sub (.v 5) (.v 3)) (.sub (.v 5) (.v 2))) .nil)) (.cons .LtE (.sub (.v 4) (.v 2)) .nil)) .nil) (.v 1))))
  (.cons (.asg (.name 13) (.bi .max (.cons (.lc [none,none] (.name 1) (.val (.v 12)) .nil (.bi .len (.cons (.v 1) .nil))) .nil)))
  (.cons (.ret (.bool .And (.cons (.bi .all (.cons (.lc [none,none] (.name 1) (.val (.v 12)) .nil (.cmp (.bi .len (.cons (.bi .set (.cons (.v 1) .nil)) .nil)) (.cons .Eq (.bi .len (.cons (.v 1) .nil)) .nil))) .nil)) (.cons (.cmp (.bi .sorted (.cons (.bi .set (.cons (.v 10) .nil)) .nil)) (.cons .Eq (.listRange (.cons (.v 13) .nil)) .nil)) .nil))))
  .nil))))))))))))))))
end
end Mine
namespace Mine
open PySem PySem.W PySem.Calls PyProof.Rows
noncomputable section
noncomputable def dQ (i:Nat):Scope:=(aP i).2.2
noncomputable def eY:List (Nat×SL):=[(10,cQ),(11,gM),(12,fw),(13,dE),(15,bX),(17,nq),(18,qa),(19,nt),(20,tq),(29,tu),(33,qb),(34,kQ),(35,gN),(36,kR),(37,nu),(38,bR),(40,iN),(41,lC),(42,iO),(43,iP),(44,ny),(45,gO),(46,qc),(47,lD),(48,en),(49,nA),(50,Bj)]
noncomputable def tw (f:Nat):Option (List Str):=(eY[f]?).map fun p=>(aP p.1).1.args.map (·.arg)
noncomputable def kw0 (l:List (Str×AV)):Option (PLift (l=[])):=match l with
 |[]=>some ⟨rfl⟩
 |_=>none
noncomputable def kw2 (l:List (Str×AV)):Option {p:(Str×AV)×(Str×AV) // l=[p.1,p.2]}:=match l with
 |[a,b]=>some ⟨(a,b),rfl⟩
 |_=>none
noncomputable def Jj (l:List AV):Option {p:AV×AV×AV // l=[p.1,p.2.1,p.2.2]}:=match l with
 |[a,b,c]=>some ⟨(a,b,c),rfl⟩
 |_=>none
noncomputable def Bk (f:Nat) (args:List AV) (kws:List (Str×AV)):Option (List (Str×AV)) :=
 (kw0 kws).elim ((kw2 kws).bind fun q=>if f=0∧q.1.1.1=("error_on" : Str)∧q.1.2.1=("error_on_eof" : Str) then (Jj args).bind fun p=>some [("src",p.1.1),("pos",p.1.2.1),("expect",p.1.2.2),("error_on",q.1.1.2),("error_on_eof",q.1.2.2)] else none)
  fun _=>if f=11 then (rU args).bind fun p=>some [("a",p.1.1),("p",.tup [p.1.2])] else if f=0 then none else (tw f).bind fun ns=>if ns.length=args.length then some (ns.zip args) else none
noncomputable def orc:Nat→ae
 |0,_,_,_,_=>none
 |n+1,f,args,kws,H=>(eY[f]?).bind fun p=>(Bk f args kws).bind fun b=>ah (orc n) 20 p.2 (dl (dQ p.1) b) H
theorem rf (pm cd doc a b c d e:Value):bindArgs (Calls.docDef "skip_until" (aP 10).1 (aP 10).2.1 (aP 10).2.2 pm cd doc) ⟨[a,b,c],[((Str.ofString "error_on"),d),((Str.ofString "error_on_eof"),e)]⟩=pure [((Str.ofString "src"),a),((Str.ofString "pos"),b),((Str.ofString "expect"),c),((Str.ofString "error_on"),d),((Str.ofString "error_on_eof"),e)]:=by kernel_rfl
theorem FU (pm cd doc a b:Value):bindArgs (Calls.docDef "join" (aP 34).1 (aP 34).2.1 (aP 34).2.2 pm cd doc) ⟨[a,b],[]⟩=(newTuple [b] >>= fun t=>pure [((Str.ofString "a"),a),((Str.ofString "p"),t)]):=by kernel_rfl
theorem vi:∀ p∈ga,(p.1==("__debug__" : Str))=false:=by decide +kernel
noncomputable def tx (scope:Scope) (b:List Str):Bool:=scope.kind == .function&&scope.isCoroutine==false&&scope.isGenerator==false&&decide ((scope.names.map (·.1)).Nodup)&&scope.names.all (fun p=>p.2 != .free)&&b.all (fun x=>scope.names.lookup x==some .local||scope.names.lookup x==some .cell)&&decide b.Nodup
theorem wB {scope:Scope} {b:List Str} (h:tx scope b=true):Fm scope b :=
 bq h fun h h7=>bq h fun h h6=>bq h fun h h5=>bq h fun h h4=>bq h fun h h3=>bq h fun h1 h2 =>
  ⟨eq_of_beq h1,eq_of_beq h2,eq_of_beq h3,of_decide_eq_true h4,fun p hp=>bne_iff_ne.mp (Kc.mp h5 p hp),fun x hx=>((Bool.or_eq_true _ _).mp (Kc.mp h6 x hx)).imp eq_of_beq eq_of_beq,of_decide_eq_true h7⟩
theorem Bl {R:RM} {ρ:List Addr}:bb R ρ [] []:=rfl
theorem fP {R:RM} {ρ:List Addr} {n:Str} {a:AV} {l:List (Str×AV)} {v:Value} {vs:List (Str×Value)} (r:Rel R ρ a v) (k:bb R ρ l vs):bb R ρ ((n,a)::l) ((n,v)::vs):=⟨v,vs,rfl,r,k⟩
section
variable {n:Nat} {A:Around} {R:RM} {ρ:List Addr} {st:Shared} {H H':AH}
theorem rg (D:lN X) {C:ae} {d:Nat} (or:mw C d) (hp:∀ a H r H',C 9 [a] [] H=some (r,H')→H'=H):iy ga C d:=⟨Hh,FR,FS,D.gk,vi,or,hp⟩
noncomputable abbrev qd {C:ae} {d:Nat} (B:iy ga C d) (i:Nat):{x:SL // fg C 20 d (Am (aP i).2.2 ga) (aP i).2.1 x}:=cB 20 B (FT) (Am (aP i).2.2 ga) rfl 40 (aP i).2.1
theorem tz (D:lN X) {C:ae} {d:Nat} (B:iy ga C d) {k i:Nat} {name:Str} {xb:SL} {b:List (Str×AV)} {vs:List Value} {ks binds:List (Str×Value)} {r:AV} (hm:(k,name,i)∈dL) (hc:(qd B i).1=xb) {ns:List Str} (hns:b.map (·.1)=ns) (hsc:tx (aP i).2.2 ns=true)
  (hb:∀ pm cd doc,bindArgs (Calls.docDef name (aP i).1 (aP i).2.1 (aP i).2.2 pm cd doc) ⟨vs,ks⟩=pure binds) (kr:bb R ρ b binds) (hrun:ah C 20 xb (dl (dQ i) b) H=some (r,H')) (room:aI A (d+5)) (g:ag R ρ H st.heap):EvT A (call (.ref (X.F k)) vs ks) R ρ st r H' :=
 sC (gl:=ga) (D.fn k name i hm) D.lim (wB (hns▸hsc)) (fun pm cd doc=>wpAny_of_eq (hb pm cd doc) ⟨R,Mv.refl st,g,kr⟩) (hc▸(qd B i).2) hrun room g
noncomputable def cz:List (Nat×Str×Nat×SL×List Str):=(dL.filter fun q=>q.1 != 0&&q.1 != 11).map fun q=>(q.1,q.2.1,q.2.2,((eY[q.1]?).getD (0,.nil)).2,(tw q.1).getD [])
theorem FV:(cz.all fun q=>dL.contains (q.1,q.2.1,q.2.2.1)&&tx (aP q.2.2.1).2.2 q.2.2.2.2&&Nat.ble q.2.2.2.2.length 3)=true:=by decide +kernel
theorem DO {C:ae} {d:Nat} (B:iy ga C d):cz.map (fun q=>(qd B q.2.2.1).1)=cz.map fun q=>q.2.2.2.1:=by kernel_rfl
theorem DP (pm cd doc a b c:Value):cz.map (fun q=>bindArgs (Calls.docDef q.2.1 (aP q.2.2.1).1 (aP q.2.2.1).2.1 (aP q.2.2.1).2.2 pm cd doc) ⟨[a,b,c].take q.2.2.2.2.length,[]⟩)=cz.map fun q=>(pure (q.2.2.2.2.zip ([a,b,c].take q.2.2.2.2.length)):Sem _):=by kernel_rfl
theorem FW:((List.range 27).all fun f=>f==0||f==11||(cz[if f<11 then f-1 else f-2]?).any fun q=>q.1==f&&(eY[f]?).any fun p=>p.1==q.2.2.1)=true:=by decide +kernel
theorem FX (f:Nat) (h1:f<27) (h2:f≠0) (h3:f≠11):∃ name i xb ns,(f,name,i,xb,ns)∈cz∧eY[f]?=some (i,xb)∧tw f=some ns:=by
 have h:=Kc.mp FW f (List.mem_range.mpr h1)
 simp only [Bool.or_eq_true,beq_iff_eq,h2,h3,false_or,Option.any_eq_true,Bool.and_eq_true] at h
 obtain⟨q,hq,rfl,p,hp,he⟩:=h
 have hm:=KV hq
 obtain⟨q0,hq0,rfl⟩:=Kg.mp hm
 refine⟨_,_,_,_,hm,?_,?_⟩
 ·dsimp only at hp he ⊢
  refine rT hp ?_;refine rB he ?_;rfl
 ·dsimp only at hp he ⊢
  unfold tw
  refine rT hp ?_;rfl
theorem wC {α β:Type} {f g:α→β} {l:List α} (h:l.map f=l.map g) {a:α} (hm:a∈l):f a=g a:=List.map_inj_left.mp h a hm
theorem Bm {q:Nat×Str×Nat×SL×List Str} (hm:q∈cz):(q.1,q.2.1,q.2.2.1)∈dL∧tx (aP q.2.2.1).2.2 q.2.2.2.2=true∧q.2.2.2.2.length≤3:=by
 have hok:=Kc.mp FV q hm
 rw [Bool.and_eq_true,Bool.and_eq_true] at hok
 exact⟨List.contains_iff_mem.mp hok.1.1,hok.1.2,Lj hok.2⟩
theorem FY {R:RM} {ρ:List Addr} {ns:List Str}:∀ {l:List AV} {vs:List Value},ai R ρ l vs→bb R ρ (ns.zip l) (ns.zip vs):=by
 induction ns with
 |nil=>exact fun _=>rfl
 |cons n ns ih =>
  intro l vs h
  cases l with
  |nil=>cases (show vs=[] from h);rfl
  |cons a l =>
   obtain⟨v,r,rfl,hr,k⟩:=h
   exact⟨v,ns.zip r,rfl,hr,ih k⟩
theorem Hi {vs:List Value} (h:vs.length≤3):∃ a b c,vs=[a,b,c].take vs.length:=by
 rcases vs with _|⟨a,_|⟨b,_|⟨c,_|⟨d,vs⟩⟩⟩⟩
 ·exact⟨.none,.none,.none,rfl⟩
 ·exact⟨a,.none,.none,rfl⟩
 ·exact⟨a,b,.none,rfl⟩
 ·exact⟨a,b,c,rfl⟩
 ·exact absurd h (Nat.not_le.mpr (Nat.le_add_left 4 _))
theorem yC (D:lN X) {C:ae} {d:Nat} (B:iy ga C d) {a1 a2:AV} {vs:List Value} {r:AV} (g:ag R ρ H st.heap) (ra:ai R ρ [a1,a2] vs) (h:ah C 20 kQ (dl (dQ 34) [("a",a1),("p",.tup [a2])]) H=some (r,H')) (room:aI A (d+5)):EvT A (call (.ref (X.F 11)) vs []) R ρ st r H':=by
 obtain⟨v1,v2,rfl,r1,r2⟩:=wn ra
 refine sC (gl:=ga) (D.fn 11 "join" 34 (by decide +kernel)) D.lim (wB (show tx _ ["a", "p"]=true by decide +kernel)) (fun pm cd doc => ?_) ((show (qd B 34).1=kQ by kernel_rfl)▸(qd B 34).2) h room g
 refine rT (FU pm cd doc v1 v2) ?_
 refine JX (wpAny_newTuple (JZ ?_) (by show (1:Nat)≤_;decide))
 obtain⟨g2,m2⟩:=dk (tk:=st.toks) (O:=No) g (b6 st.heap) (o:=fL [v2] 0) (Kj _ rfl) (fun b o e=>Kx _ e)
 exact⟨_,m2,g2,fP (m2.rel r1) (fP ⟨_,[v2],0,rfl,RM.add_self,m2.relL (.one r2)⟩ Bl)⟩
theorem vj (D:lN X) {C:ae} {d:Nat} (B:iy ga C d) {a1 a2 a3 a4 a5:AV} {vs:List Value} {ks:List (Str×Value)} {r:AV} (g:ag R ρ H st.heap) (ra:ai R ρ [a1,a2,a3] vs) (rk:bb R ρ [("error_on",a4),("error_on_eof",a5)] ks) (h:ah C 20 cQ (dl (dQ 10) [("src",a1),("pos",a2),("expect",a3),("error_on",a4),("error_on_eof",a5)]) H=some (r,H')) (room:aI A (d+5)):EvT A (call (.ref (X.F 0)) vs ks) R ρ st r H':=by
 obtain⟨v1,_,rfl,r1,v2,_,rfl,r2,v3,_,rfl,r3,rfl⟩:=ra
 obtain⟨v4,_,rfl,r4,v5,_,rfl,r5,rfl⟩:=rk
 exact tz D B (k:=0) (i:=10) (name := "skip_until") (by decide +kernel) (show (qd B 10).1=cQ by kernel_rfl) (ns:=["src", "pos", "expect", "error_on", "error_on_eof"]) rfl (by decide +kernel) (fun pm cd doc=>rf pm cd doc v1 v2 v3 v4 v5) (fP r1 (fP r2 (fP r3 (fP r4 (fP r5 Bl))))) h room g
theorem vk (D:lN X) {C:ae} {d:Nat} (B:iy ga C d) {f:Nat} {p:Nat×SL} {args:List AV} {ns:List Str} {vs:List Value} {r:AV} (hp:eY[f]?=some p) (h0:f≠0) (h11:f≠11) (hs:tw f=some ns) (hl:ns.length=args.length) (g:ag R ρ H st.heap) (ra:ai R ρ args vs) (h:ah C 20 p.2 (dl (dQ p.1) (ns.zip args)) H=some (r,H')) (room:aI A (d+5)):EvT A (call (.ref (X.F f)) vs []) R ρ st r H':=by
 obtain⟨name,i,xb,ns',hm,ht,hs'⟩:=FX f (KK.mp hp).1 h0 h11
 rw [ht] at hp
 cases hp
 rw [hs'] at hs
 cases hs
 obtain⟨f1,f2,f3⟩:=Bm hm
 have hlv:vs.length=ns.length:=ra.length.trans hl.symm
 obtain⟨a,b,c,hv⟩:=Hi (vs:=vs) (hlv▸f3)
 rw [hlv] at hv
 have hbd:=fun pm cd doc=>wC (DP pm cd doc a b c) hm
 dsimp only at hbd f1 f2
 rw [← hv] at hbd
 exact tz D B f1 (wC (DO B) hm) (List.map_fst_zip (Kh hl)) f2 hbd (FY ra) h room g
theorem Hj:eY[11]?=some (34,kQ):=rfl
theorem Jk:eY[0]?=some (10,cQ):=rfl
theorem vm {C:ae} {p p':Nat×SL} {b b':List (Str×AV)} {o:Option (AV×AH)} {op:Option (Nat×SL)} (e:op=some p') (hp:op=some p) (hb:some b'=some b) (h:ah C 20 p.2 (dl (dQ p.1) b) H=o):ah C 20 p'.2 (dl (dQ p'.1) b') H=o:=by
 cases e.symm.trans hp;cases hb;exact h
theorem DQ (D:lN X) {C:ae} {d:Nat} (B:iy ga C d) {f:Nat} {p:Nat×SL} {q:(Str×AV)×(Str×AV)} {a1 a2 a3:AV} {b:List (Str×AV)} {vs:List Value} {ks:List (Str×Value)} {r:AV} (hc:f=0∧q.1.1=("error_on" : Str)∧q.2.1=("error_on_eof" : Str)) (hp:eY[f]?=some p)
  (hb:some [(("src" : Str),a1),("pos",a2),("expect",a3),("error_on",q.1.2),("error_on_eof",q.2.2)]=some b) (g:ag R ρ H st.heap) (ra:ai R ρ [a1,a2,a3] vs) (rk:bb R ρ [q.1,q.2] ks) (h:ah C 20 p.2 (dl (dQ p.1) b) H=some (r,H')) (room:aI A (d+5)):EvT A (call (.ref (X.F f)) vs ks) R ρ st r H':=by
 obtain⟨rfl,e1,e2⟩:=hc
 have rk':bb R ρ [(("error_on" : Str),q.1.2),("error_on_eof",q.2.2)] ks:=e1▸e2▸rk
 exact vj D B g ra rk' (vm Jk hp hb h) room
theorem Bn (D:lN X) {C:ae} {d:Nat} (B:iy ga C d) {f:Nat} {p:Nat×SL} {args:List AV} {b:List (Str×AV)} {vs:List Value} {r:AV} (hp:eY[f]?=some p) (hb:Bk f args []=some b) (g:ag R ρ H st.heap) (ra:ai R ρ args vs) (h:ah C 20 p.2 (dl (dQ p.1) b) H=some (r,H')) (room:aI A (d+5)):EvT A (call (.ref (X.F f)) vs []) R ρ st r H':=by
 by_cases h11:f=11
 ·subst h11
  exact ob (show ((rU args).bind fun p=>some [(("a" : Str),p.1.1),("p",.tup [p.1.2])])=some b from hb) fun a _ hb=>yC D B g (iD a.2 ra) (vm Hj hp hb h) room
 ·replace hb:=(if_neg h11).symm.trans hb
  by_cases h0:f=0
  ·cases (if_pos h0).symm.trans hb
  ·exact ob ((if_neg h0).symm.trans hb) fun ns hs hb=>oi hb fun hl hb=>vk D B hp h0 h11 hs hl g ra (vm hp hp hb h) room
theorem Bo (D:lN X) (or:mw (orc n) (5*n)) (hp:∀ a H r H',orc n 9 [a] [] H=some (r,H')→H'=H):mw (orc (n+1)) (5*(n+1)):=fun f args kws H r H' A R ρ s vs ks h room g ra rk=>by
 have B:=rg D or hp
 refine ob h fun p hp1 h=>ob h fun b hb hr => ?_
 cases q:kw0 kws with
 |some e =>
  cases e.1
  cases (show ks=[] from rk)
  exact Bn D B hp1 hb g ra hr room
 |none =>
  unfold Bk at hb
  rw [q] at hb
  exact ob hb fun q _ hb=>oi hb fun hc hb=>ob hb fun a _ hb=>DQ D B hc hp1 hb g (iD a.2 ra) (q.2▸rk) hr room
end
theorem fx (n:Nat) (a b:AV) (H:AH):orc (n+1) 1 [a,b] [] H=ah (orc n) 20 gM [some a,some b,none] H:=by kernel_rfl
theorem jf (n:Nat) (a b c:AV) (H:AH):orc (n+1) 2 [a,b,c] [] H=ah (orc n) 20 fw [some a,some b,some c,none,none] H:=by kernel_rfl
theorem gc (n:Nat) (a b:AV) (H:AH):orc (n+1) 3 [a,b] [] H=ah (orc n) 20 dE [some a,some b,none] H:=by kernel_rfl
theorem an (n:Nat) (a:AV) (H:AH):orc (n+1) 4 [a] [] H=ah (orc n) 20 bX [some a] H:=by kernel_rfl
theorem rj (n:Nat) (a b:AV) (H:AH):orc (n+1) 5 [a,b] [] H=ah (orc n) 20 nq [some a,some b] H:=by kernel_rfl
theorem lE (n:Nat) (a:AV) (H:AH):orc (n+1) 6 [a] [] H=ah (orc n) 20 qa [some a,none,none] H:=by kernel_rfl
theorem rm (n:Nat) (a b c:AV) (H:AH):orc (n+1) 7 [a,b,c] [] H=ah (orc n) 20 nt [some a,some b,some c,none,none,none] H:=by kernel_rfl
theorem vn (n:Nat) (a b:AV) (H:AH):orc (n+1) 8 [a,b] [] H=ah (orc n) 20 tq [some a,some b,none,none,none,none,none] H:=by kernel_rfl
theorem nB (n:Nat) (a:AV) (H:AH):orc (n+1) 9 [a] [] H=ah (orc n) 20 tu [some a,none,none,none] H:=by kernel_rfl
theorem tA (n:Nat) (a:AV) (H:AH):orc (n+1) 10 [a] [] H=ah (orc n) 20 qb [some a] H:=by kernel_rfl
theorem Bp (n:Nat) (a b:AV) (H:AH):orc (n+1) 11 [a,b] [] H=ah (orc n) 20 kQ [some a,some (.tup [b]),none,none,none] H:=by kernel_rfl
theorem pi (n:Nat) (a:AV) (H:AH):orc (n+1) 12 [a] [] H=ah (orc n) 20 gN [some a,none,none] H:=by kernel_rfl
theorem tB (n:Nat) (a:AV) (H:AH):orc (n+1) 13 [a] [] H=ah (orc n) 20 kR [some a,none,none,none] H:=by kernel_rfl
theorem rp (n:Nat) (a:AV) (H:AH):orc (n+1) 14 [a] [] H=ah (orc n) 20 nu [some a,none,none,none,none,none,none,none,none] H:=by kernel_rfl
theorem nC (n:Nat) (a:AV) (H:AH):orc (n+1) 15 [a] [] H=ah (orc n) 20 bR [some a,none,none,none,none,none,none,none,none,none,none] H:=by kernel_rfl
theorem lY (n:Nat) (a:AV) (H:AH):orc (n+1) 16 [a] [] H=ah (orc n) 20 iN [some a,none] H:=by kernel_rfl
theorem pj (n:Nat) (a:AV) (H:AH):orc (n+1) 17 [a] [] H=ah (orc n) 20 lC [some a] H:=by kernel_rfl
theorem lZ (n:Nat) (a b:AV) (H:AH):orc (n+1) 18 [a,b] [] H=ah (orc n) 20 iO [some a,some b,none,none,none,none] H:=by kernel_rfl
theorem l6 (n:Nat) (a:AV) (H:AH):orc (n+1) 19 [a] [] H=ah (orc n) 20 iP [some a] H:=by kernel_rfl
theorem rq (n:Nat) (a:AV) (H:AH):orc (n+1) 20 [a] [] H=ah (orc n) 20 ny [some a,none,none,none,none,none,none,none,none] H:=by kernel_rfl
theorem pk (n:Nat) (a:AV) (H:AH):orc (n+1) 21 [a] [] H=ah (orc n) 20 gO [some a] H:=by kernel_rfl
theorem gP (n:Nat) (a b:AV) (H:AH):orc (n+1) 22 [a,b] [] H=ah (orc n) 20 qc [some a,some b,none,none] H:=by kernel_rfl
theorem pn (n:Nat) (a b:AV) (H:AH):orc (n+1) 23 [a,b] [] H=ah (orc n) 20 lD [some a,some b] H:=by kernel_rfl
theorem kS (n:Nat) (a:AV) (H:AH):orc (n+1) 24 [a] [] H=ah (orc n) 20 en [some a,none,none,none,none,none,none,none,none,none,none,none,none,none] H:=by kernel_rfl
theorem rz (n:Nat) (a:AV) (H:AH):orc (n+1) 25 [a] [] H=ah (orc n) 20 nA [some a,none,none] H:=by kernel_rfl
theorem DR (n:Nat) (a:AV) (H:AH):orc (n+1) 26 [a] [] H=ah (orc n) 20 Bj [some a,none,none,none,none,none,none,none,none,none,none,none,none,none] H:=by kernel_rfl
theorem cR {n:Nat} {H:AH} {v:AV} (h:noRef v=true):freeze n H v=some v:=by
 unfold freeze
 cases q:lh v with
 |none=>exact if_pos h
 |some i=>rw [i.2] at h;cases h
theorem nE {n i:Nat} {H:AH} {l:List AV} (h:n≤i) (e:H[i]?=some (.list l)) (hn:noRef.all l=true):freeze n H (.ref i)=some (.lst l):=by
 refine (if_neg (Nat.not_lt.mpr h)).trans ?_
 show (match H[i]? with|some (.list l)=>if noRef.all l then some (AV.lst l) else none|_=>none)=_
 refine rT e ?_;exact if_pos hn
theorem rA {C:ae} {N:Nat} {b:SL} {V V':VM} {H:AH} {v:AV} (h:exs C N b V H=some (.ret v,V',H)) (hn:noRef v=true):ah C N b V H=some (v,H):=by
 unfold ah;refine rT h ?_;show (freeze H.length H v).map (·,H.take H.length)=_
 refine rT (cR hn) ?_;refine rT List.take_length ?_;rfl
theorem vo (n:Nat) (x:Str) (H:AH):orc (n+1) 9 [.str x] [] H=some (.str x,H):=(nB n _ H).trans (rA (V':=[some (.str x),some (.ty "str"),none,none]) (by kernel_rfl) rfl)
theorem cU (n:Nat) (x:Array UInt8) (H:AH):orc (n+1) 9 [.bytes x] [] H=some (.bytes x,H):=(nB n _ H).trans (rA (V':=[some (.bytes x),some (.ty "bytes"),none,none]) (by kernel_rfl) rfl)
theorem Bq (n:Nat):∀ a H r H',orc n 9 [a] [] H=some (r,H')→H'=H:=by
 intro a H r H' h
 cases n with
 |zero=>cases h
 |succ n =>
  cases a with
  |str x=>cases (vo ..).symm.trans h;rfl
  |bytes x=>cases (cU ..).symm.trans h;rfl
  |_=>cases h
theorem pq (n:Nat) (x:Array UInt8) (H:AH):orc (n+1) 10 [.bytes x] [] H=some (.bytes #[47],H):=(tA n _ H).trans (rA (V':=[some (.bytes x)]) (by kernel_rfl) rfl)
theorem Br (D:lN X):∀ n,mw (orc n) (5*n)
 |0=>by intro f args kws H r H' A R ρ s vs ks h;cases h
 |n+1=>Bo D (Br D n) (Bq n)
end
end Mine
namespace Mine
open PySem PySem.W
noncomputable section
theorem bs {α β:Type} {o:Option α} {f:α→Option β} {p:α} {q:Option β} (h:o=some p) (k:f p=q):o.bind f=q:=by refine rT h ?_;exact k
theorem bc {α:Type} {c:Bool} {a b q:α} (h:c=true) (k:a=q):cond c a b=q:=by refine rT h ?_;exact k
theorem iV {C:ae} {i:Nat} {V:VM} {H:AH} {v:AV} (h:(V[i]?).join=some v):ev C (.v i) V H=some (v,H):=bs h rfl
theorem vp {C:ae} {i:Nat} {V:VM} {H:AH} {l:List AV} (h:(V[i]?).join=some (.lst l)):evI C (.val (.v i)) V H=some (l,H):=bs (iV h) rfl
theorem iLR {C:ae} {a:XL} {V:VM} {H H1:AH} {p l:List AV} (h:evL C a V H=some (p,H1)) (k:dZ p=some l):ev C (.listRange a) V H=some (.lst l,H1):=bs h (bs k rfl)
theorem al {C:ae} {N:Nat} {s:S} {r:SL} {V V1:VM} {H H1:AH} {q:Option (Fl×VM×AH)} (h:ex C N s V H=some (.next,V1,H1)) (k:exs C N r V1 H1=q):exs C N (.cons s r) V H=q:=bs h k
theorem bY {C:ae} {N:Nat} {s:S} {r:SL} {V V1:VM} {H H1:AH} {v:AV} (h:ex C N s V H=some (.ret v,V1,H1)):exs C N (.cons s r) V H=some (.ret v,V1,H1):=bs h rfl
theorem wD {C:ae} {N:Nat} {s:S} {r:SL} {V V1:VM} {H H1:AH} (h:ex C N s V H=some (.cont,V1,H1)):exs C N (.cons s r) V H=some (.cont,V1,H1):=bs h rfl
theorem FZ {C:ae} {N:Nat} {s:S} {r:SL} {V V1:VM} {H H1:AH} (h:ex C N s V H=some (.brk,V1,H1)):exs C N (.cons s r) V H=some (.brk,V1,H1):=bs h rfl
theorem aH {C:ae} {N:Nat} {t:Tgt} {x:X'} {V V1:VM} {H H1:AH} {v:AV} (h:ev C x V H=some (v,H1)) (k:gg V t v=some V1):ex C N (.asg t x) V H=some (.next,V1,H1):=bs h (bs k rfl)
theorem yD {C:ae} {N:Nat} {o i x:X'} {V:VM} {H H1 H2 H3 H4:AH} {v a b:AV} (h1:ev C x V H=some (v,H1)) (h2:ev C o V H1=some (a,H2)) (h3:ev C i V H2=some (b,H3)) (k:w6 H3 a b v=some H4):ex C N (.asgSub o i x) V H=some (.next,V,H4):=bs h1 (bs h2 (bs h3 (bs k rfl)))
theorem iIf {C:ae} {N:Nat} {t:X'} {a b:SL} {V:VM} {H H1:AH} {c:Bool} {q:Option (Fl×VM×AH)} (h:tv C t (ev C t V H) V H=some (c,H1)) (k:cond c (exs C N a V H1) (exs C N b V H1)=q):ex C N (.ite t a b) V H=q:=bs h k
theorem fy {C:ae} {N:Nat} {x:X'} {V:VM} {H H1:AH} {v:AV} (h:ev C x V H=some (v,H1)):ex C N (.ret x) V H=some (.ret v,V,H1):=bs h rfl
theorem f0 {C:ae} {N:Nat} {x:X'} {V:VM} {H H1:AH} {v:AV} (h:ev C x V H=some (v,H1)):ex C N (.expr x) V H=some (.next,V,H1):=bs h rfl
theorem F0 {C:ae} {N:Nat} {b:SL} {V:VM} {H:AH} {q:Option (Fl×VM×AH)} (h:exs C N b V H=q):ex C N (.try b) V H=q:=h
theorem iL {C:ae} {x:X'} {r:XL} {V:VM} {H H1 H2:AH} {v:AV} {l:List AV} (h:ev C x V H=some (v,H1)) (k:evL C r V H1=some (l,H2)):evL C (.cons x r) V H=some (v::l,H2):=bs h (bs k rfl)
theorem aR {C:ae} {f:Nat} {a:XL} {ks:KL} {V:VM} {H H1 H2:AH} {l:List AV} {kl:List (Str×AV)} {q:Option (AV×AH)} (h1:evL C a V H=some (l,H1)) (h2:evK C ks V H1=some (kl,H2)) (k:C f l kl H2=q):ev C (.call f a ks) V H=q:=bs h1 (bs h2 k)
theorem iBi {C:ae} {b:BI} {a:XL} {V:VM} {H H1:AH} {l:List AV} {v:AV} (h1:evL C a V H=some (l,H1)) (k:abi H1 b l=some v):ev C (.bi b a) V H=some (v,H1):=bs h1 (bs k rfl)
theorem di {C:ae} {m:ME} {o:X'} {a:XL} {V:VM} {H H1 H2:AH} {x:AV} {l:List AV} {q:Option (AV×AH)} (h0:ev C o V H=some (x,H1)) (hr:fU H1 x=true) (h1:evL C a V H1=some (l,H2)) (k:fH m H2 x l=q) (hk:Nat.beq (avK x) (meK m)=true:=by rfl):ev C (.meth m o a) V H=q:=bs h0 (bc hk (bc hr (bs h1 k)))
theorem bF {C:ae} {a i:X'} {V:VM} {H H1 H2:AH} {x y v:AV} (h1:ev C a V H=some (x,H1)) (h2:ev C i V H1=some (y,H2)) (k:fG H2 x y=some v):ev C (.sub a i) V H=some (v,H2):=bs h1 (bs h2 (bs k rfl))
theorem iSl {C:ae} {a:X'} {lo hi st:gZ} {V:VM} {H H1 H2 H3 H4:AH} {x v:AV} {p q r:Option AV} (h1:ev C a V H=some (x,H1)) (h2:evO C lo V H1=some (p,H2)) (h3:evO C hi V H2=some (q,H3)) (h4:evO C st V H3=some (r,H4)) (k:cg x p q r=some v):ev C (.sl a lo hi st) V H=some (v,H4):=bs h1 (bs h2 (bs h3 (bs h4 (bs k rfl))))
theorem bo {C:ae} {op:Operator} {a i:X'} {V:VM} {H H1 H2:AH} {x y v:AV} (h1:ev C a V H=some (x,H1)) (h2:ev C i V H1=some (y,H2)) (k:fF H2 op x y=some v):ev C (.bin op a i) V H=some (v,H2):=bs h1 (bs h2 (bs k rfl))
theorem Hk {C:ae} {op:CmpOp} {a i:X'} {V:VM} {H H1 H2:AH} {x y:AV} {b:Bool} (h1:ev C a V H=some (x,H1)) (h2:ev C i V H1=some (y,H2)) (k:f9 H2 op x y=some b):ev C (.cmp a (.cons op i .nil)) V H=some (.bool b,H2):=bs h1 (bs (bs h2 (bs k rfl)) rfl)
theorem Hl {C:ae} {t a b:X'} {V:VM} {H H1:AH} {c:Bool} {q:Option (AV×AH)} (h:tv C t (ev C t V H) V H=some (c,H1)) (k:cond c (ev C a V H1) (ev C b V H1)=q):ev C (.ife t a b) V H=q:=bs h k
theorem l7 {C:ae} {x:X'} {V:VM} {H H1:AH} {v:AV} (h:ev C x V H=some (v,H1)):evO C (.yes x) V H=some (some v,H1):=bs h rfl
theorem Hm {C:ae} {N i:Nat} {op:Operator} {x:X'} {V:VM} {H H1:AH} {a v w:AV} (h0:(V[i]?).join=some a) (h:ev C x V H=some (v,H1)) (k:CP op a v=some w):ex C N (.aug i op x) V H=some (.next,V.set i (some w),H1):=bs h0 (bs h (bs k rfl))
theorem nG {C:ae} {a:X'} {w:Option (AV×AH)} {V:VM} {H H1:AH} {b:Bool} (h:tv C a (ev C a V H) V H=some (b,H1)):tv C (.un .Not a) w V H=some (!b,H1):=bs h rfl
theorem iTC {C:ae} {op:CmpOp} {a i:X'} {w:Option (AV×AH)} {V:VM} {H H1 H2:AH} {x y:AV} {b:Bool} (h1:ev C a V H=some (x,H1)) (h2:ev C i V H1=some (y,H2)) (k:f9 H2 op x y=some b):tv C (.cmp a (.cons op i .nil)) w V H=some (b,H2):=bs h1 (bs h2 (bs k rfl))
theorem iTB {C:ae} {op:BoolOp} {l:XL} {w:Option (AV×AH)} {V:VM} {H:AH} {q:Option (Bool×AH)} (h:fV C op l V H=q):tv C (.bool op l) w V H=q:=h
theorem iTM {C:ae} {m:ME} {o:X'} {a:XL} {V:VM} {H H1:AH} {x:AV} {b:Bool} (h:ev C (.meth m o a) V H=some (x,H1)) (k:cG H1 x=some b):tv C (.meth m o a) (ev C (.meth m o a) V H) V H=some (b,H1):=bs h (bs k rfl)
theorem iTK {C:ae} {f:Nat} {a:XL} {ks:KL} {V:VM} {H H1:AH} {x:AV} {b:Bool} (h:ev C (.call f a ks) V H=some (x,H1)) (k:cG H1 x=some b):tv C (.call f a ks) (ev C (.call f a ks) V H) V H=some (b,H1):=bs h (bs k rfl)
theorem kT {C:ae} {x:X'} {r:XL} {V:VM} {H H1:AH} {q:Option (Bool×AH)} (h:tv C x (ev C x V H) V H=some (false,H1)) (k:fV C .Or r V H1=q):fV C .Or (.cons x r) V H=q:=bs h k
theorem F1 {C:ae} {x:X'} {r:XL} {V:VM} {H H1:AH} (h:tv C x (ev C x V H) V H=some (true,H1)):fV C .Or (.cons x r) V H=some (true,H1):=bs h rfl
theorem nH {C:ae} {x:X'} {r:XL} {V:VM} {H H1:AH} {q:Option (Bool×AH)} (h:tv C x (ev C x V H) V H=some (true,H1)) (k:fV C .And r V H1=q):fV C .And (.cons x r) V H=q:=bs h k
theorem lF {C:ae} {x:X'} {r:XL} {V:VM} {H H1:AH} (h:tv C x (ev C x V H) V H=some (false,H1)):fV C .And (.cons x r) V H=some (false,H1):=bs h rfl
theorem vq {C:ae} {l:XL} {V:VM} {H H1:AH} {q:List AV} (h:evL C l V H=some (q,H1)) (k:Nat.ble q.length 1000=true):ev C (.tup l) V H=some (.tup q,H1):=bs h (if_pos (Lj k))
theorem qe {t:VM→AH→Option (Bool×AH)} {b:VM→AH→Option (Fl×VM×AH)} {n:Nat} {V:VM} {H H1:AH} (h:t V H=some (false,H1)):bZ t b (n+1) V H=some (.next,V,H1):=bs h rfl
theorem wGo {t:VM→AH→Option (Bool×AH)} {b:VM→AH→Option (Fl×VM×AH)} {n:Nat} {V V2:VM} {H H1 H2:AH} {q:Option (Fl×VM×AH)} (h:t V H=some (true,H1)) (k:b V H1=some (.next,V2,H2)) (z:bZ t b n V2 H2=q):bZ t b (n+1) V H=q:=bs h (bs k z)
theorem Hn {t:VM→AH→Option (Bool×AH)} {b:VM→AH→Option (Fl×VM×AH)} {n:Nat} {V V2:VM} {H H1 H2:AH} {q:Option (Fl×VM×AH)} (h:t V H=some (true,H1)) (k:b V H1=some (.cont,V2,H2)) (z:bZ t b n V2 H2=q):bZ t b (n+1) V H=q:=bs h (bs k z)
theorem Jl {t:VM→AH→Option (Bool×AH)} {b:VM→AH→Option (Fl×VM×AH)} {n:Nat} {V V2:VM} {H H1 H2:AH} (h:t V H=some (true,H1)) (k:b V H1=some (.brk,V2,H2)):bZ t b (n+1) V H=some (.next,V2,H2):=bs h (bs k rfl)
theorem rC {C:ae} {N:Nat} {t:X'} {b:SL} {V:VM} {H:AH} {q:Option (Fl×VM×AH)} (h:bZ (fun V H=>tv C t (ev C t V H) V H) (exs C N b) N V H=q):ex C N (.while t b) V H=q:=h
theorem tC {C:ae} {N:Nat} {t:Tgt} {it:IT} {b:SL} {V:VM} {H H1:AH} {l:List AV} {q:Option (Fl×VM×AH)} (h:evI C it V H=some (l,H1)) (k:ju t (exs C N b) l V H1=q):ex C N (.for t it b) V H=q:=bs h k
theorem cV {tg:Tgt} {b:VM→AH→Option (Fl×VM×AH)} {a:AV} {l:List AV} {V V1 V2:VM} {H H2:AH} {q:Option (Fl×VM×AH)} (h:gg V tg a=some V1) (k:b V1 H=some (.next,V2,H2)) (z:ju tg b l V2 H2=q):ju tg b (a::l) V H=q:=bs h (bs k z)
theorem Ho {tg:Tgt} {b:VM→AH→Option (Fl×VM×AH)} {a:AV} {l:List AV} {V V1 V2:VM} {H H2:AH} {q:Option (Fl×VM×AH)} (h:gg V tg a=some V1) (k:b V1 H=some (.cont,V2,H2)) (z:ju tg b l V2 H2=q):ju tg b (a::l) V H=q:=bs h (bs k z)
theorem Jm {tg:Tgt} {b:VM→AH→Option (Fl×VM×AH)} {a:AV} {l:List AV} {V V1 V2:VM} {H H2:AH} (h:gg V tg a=some V1) (k:b V1 H=some (.brk,V2,H2)):ju tg b (a::l) V H=some (.next,V2,H2):=bs h (bs k rfl)
theorem vmS {P:VM→Prop} {n:Nat} {X:VM} (h:X.length=n+1) (k:∀ a Y,Y.length=n→P (a::Y)):P X:=by
 cases X with
 |nil=>cases h
 |cons a Y=>exact k a Y (Nat.succ.inj h)
theorem vmZ {P:VM→Prop} {X:VM} (h:X.length=0) (k:P []):P X:=by
 cases X with
 |nil=>exact k
 |cons a Y=>cases h
theorem vm4 {P:VM→Prop} {X:VM} (h:X.length=4) (k:∀ a0 a1 a2 a3,P [a0,a1,a2,a3]):P X :=
 vmS (P:=fun X=>P (X)) h fun a0 _ h=>vmS (P:=fun X=>P (a0::X)) h fun a1 _ h=>vmS (P:=fun X=>P (a0::a1::X)) h fun a2 _ h=>vmS (P:=fun X=>P (a0::a1::a2::X)) h fun a3 _ h=>vmZ (P:=fun X=>P (a0::a1::a2::a3::X)) h (k a0 a1 a2 a3)
theorem ex4 {X:VM} (h:X.length=4):∃ a0 a1 a2 a3,X=[a0,a1,a2,a3]:=vm4 (P:=fun X=>∃ a0 a1 a2 a3,X=[a0,a1,a2,a3]) h fun a0 a1 a2 a3=>⟨a0,a1,a2,a3,rfl⟩
theorem vm6 {P:VM→Prop} {X:VM} (h:X.length=6) (k:∀ a0 a1 a2 a3 a4 a5,P [a0,a1,a2,a3,a4,a5]):P X :=
 vmS (P:=fun X=>P (X)) h fun a0 _ h=>vmS (P:=fun X=>P (a0::X)) h fun a1 _ h=>vmS (P:=fun X=>P (a0::a1::X)) h fun a2 _ h=>vmS (P:=fun X=>P (a0::a1::a2::X)) h fun a3 _ h=>vmS (P:=fun X=>P (a0::a1::a2::a3::X)) h fun a4 _ h=>vmS (P:=fun X=>P (a0::a1::a2::a3::a4::X)) h fun a5 _ h=>vmZ (P:=fun X=>P (a0::a1::a2::a3::a4::a5::X)) h (k a0 a1 a2 a3 a4 a5)
theorem ex6 {X:VM} (h:X.length=6):∃ a0 a1 a2 a3 a4 a5,X=[a0,a1,a2,a3,a4,a5]:=vm6 (P:=fun X=>∃ a0 a1 a2 a3 a4 a5,X=[a0,a1,a2,a3,a4,a5]) h fun a0 a1 a2 a3 a4 a5=>⟨a0,a1,a2,a3,a4,a5,rfl⟩
theorem Jn {P:VM→Prop} {X:VM} (h:X.length=10) (k:∀ a0 a1 a2 a3 a4 a5 a6 a7 a8 a9,P [a0,a1,a2,a3,a4,a5,a6,a7,a8,a9]):P X :=
 vmS (P:=fun X=>P (X)) h fun a0 _ h=>vmS (P:=fun X=>P (a0::X)) h fun a1 _ h=>vmS (P:=fun X=>P (a0::a1::X)) h fun a2 _ h=>vmS (P:=fun X=>P (a0::a1::a2::X)) h fun a3 _ h=>vmS (P:=fun X=>P (a0::a1::a2::a3::X)) h fun a4 _ h=>vmS (P:=fun X=>P (a0::a1::a2::a3::a4::X)) h fun a5 _ h=>vmS (P:=fun X=>P (a0::a1::a2::a3::a4::a5::X)) h fun a6 _ h=>vmS (P:=fun X=>P (a0::a1::a2::a3::a4::a5::a6::X)) h fun a7 _ h=>vmS (P:=fun X=>P (a0::a1::a2::a3::a4::a5::a6::a7::X)) h fun a8 _ h=>vmS (P:=fun X=>P (a0::a1::a2::a3::a4::a5::a6::a7::a8::X)) h fun a9 _ h=>vmZ (P:=fun X=>P (a0::a1::a2::a3::a4::a5::a6::a7::a8::a9::X)) h (k a0 a1 a2 a3 a4 a5 a6 a7 a8 a9)
theorem Hp {X:VM} (h:X.length=10):∃ a0 a1 a2 a3 a4 a5 a6 a7 a8 a9,X=[a0,a1,a2,a3,a4,a5,a6,a7,a8,a9]:=Jn (P:=fun X=>∃ a0 a1 a2 a3 a4 a5 a6 a7 a8 a9,X=[a0,a1,a2,a3,a4,a5,a6,a7,a8,a9]) h fun a0 a1 a2 a3 a4 a5 a6 a7 a8 a9=>⟨a0,a1,a2,a3,a4,a5,a6,a7,a8,a9,rfl⟩
end
end Mine
namespace Mine
open PySem PySem.W PySem.Calls PyProof.Rows
noncomputable section
noncomputable abbrev T (l:List Nat):AV := .str ⟨l.toArray⟩
theorem nI (c:Nat) (post:List Nat):∀ s:List Nat,c∉s→aV c 0 (s++c::post)=some s.length
 |[],_=>if_pos rfl
 |a::s,h=>by
   show (if a=c then some 0 else (aV c 0 (s++c::post)).map (·+1))=_
   refine rT (if_neg (fun e:a=c=>h (e▸Ka))) ?_;refine rT (nI c post s (fun k=>h (List.mem_cons_of_mem _ k))) ?_;rfl
theorem lG (c:Nat) (s post:List Nat) (h:c∉s):∀ pre:List Nat,aV c pre.length (pre++(s++c::post))=some (pre.length+s.length)
 |[]=>(nI c post s h).trans (congrArg some (Nat.zero_add _).symm)
 |a::pre=>by
   show (aV c pre.length (pre++(s++c::post))).map (·+1)=_
   refine rT (lG c s post h pre) ?_;exact congrArg some (Nat.succ_add ..).symm
theorem nJ {α:Type} (pre s post:List α):lM (pre++(s++post)) (some (pre.length:Int)) (some ((pre.length:Int)+s.length))=some s:=by
 show (if decide ((0:Int)≤(pre.length:Int))&&decide ((0:Int)≤((pre.length+s.length:Nat):Int)) then some (((pre++(s++post)).take (pre.length+s.length)).drop pre.length) else none)=_
 rw [decide_eq_true (Int.natCast_nonneg _),decide_eq_true (Int.natCast_nonneg _),← List.append_assoc,← List.length_append,List.take_left,List.drop_left];rfl
theorem bj {C:ae} {N:Nat} {b:SL} {V V':VM} {H:AH} {v:AV} (h:exs C N b V H=some (.ret v,V',H)) (hn:noRef v=true):ah C N b V H=some (v,H):=by
 simp [ah,h,cR hn]
theorem lt7 {k:Nat} (h:k<7):k=0∨k=1∨k=2∨k=3∨k=4∨k=5∨k=6:=(by decide:∀ k:Fin 7,k.1=0∨k.1=1∨k.1=2∨k.1=3∨k.1=4∨k.1=5∨k.1=6) ⟨k,h⟩
theorem yE (P:Nat→Prop) {k:Nat} (h:k<7) (h0:P 0) (h1:P 1) (h2:P 2) (h3:P 3) (h4:P 4) (h5:P 5) (h6:P 6):P k:=by
 rcases lt7 h with rfl|rfl|rfl|rfl|rfl|rfl|rfl<;>assumption
theorem Hq {H:AH} {k:Nat} (hk:k<4611686018427387904):fF H .Mult (.int 2) (.int k)=some (.int (2*k)) :=
 if_pos (show (decide ((2:Int).natAbs<2 ^ 62)&&decide (k<2 ^ 62))=true by refine rT (decide_eq_true (p:=k<2 ^ 62) hk) ?_;rfl)
theorem dT {p:Prop} [Decidable p] (h:p):some (decide p)=some true:=congrArg some (decide_eq_true h)
theorem dF {p:Prop} [Decidable p] (h:¬p):some (decide p)=some false:=congrArg some (decide_eq_false h)
theorem nK {C:ae} {N:Nat} {b:SL} {V V':VM} {H H':AH} (h:exs C N b V H=some (.next,V',H')) (ht:H'.take H.length=H'):ah C N b V H=some (.none,H'):=by
 rewrite [ah];refine rT h ?_;exact congrArg (fun z=>some (AV.none,z)) ht
theorem tD {C:ae} {N:Nat} {b:SL} {V V':VM} {H H':AH} {v:AV} (h:exs C N b V H=some (.ret v,V',H')) (hn:noRef v=true) (ht:H'.take H.length=H'):ah C N b V H=some (v,H'):=by
 rewrite [ah];refine rT h ?_;show (freeze H.length H' v).map (·,H'.take H.length)=_
 refine rT (cR hn) ?_;refine rT ht ?_;rfl
theorem wE {C:ae} {N:Nat} {b:SL} {V V':VM} {H:AH} {o:AO} {v:AV} (h:exs C N b V H=some (.ret v,V',H++[o])) (hn:noRef v=true):ah C N b V H=some (v,H):=by
 rewrite [ah];refine rT h ?_;show (freeze H.length (H++[o]) v).map (·,(H++[o]).take H.length)=_
 refine rT (cR hn) ?_;refine rT List.take_left ?_;rfl
theorem yF (n:Nat) (d:Nat) (h:d<7) (H:AH):orc (n+1) 4 [.int d] [] H=some (.bool true,H) :=
 yE (fun d=>orc (n+1) 4 [.int d] [] H=some (.bool true,H)) h ((an n _ H).trans (bj (V':=_) rfl rfl)) ((an n _ H).trans (bj (V':=_) rfl rfl)) ((an n _ H).trans (bj (V':=_) rfl rfl)) ((an n _ H).trans (bj (V':=_) rfl rfl)) ((an n _ H).trans (bj (V':=_) rfl rfl)) ((an n _ H).trans (bj (V':=_) rfl rfl)) ((an n _ H).trans (bj (V':=_) rfl rfl))
theorem gQ {w s:List Nat} {a b:Option Int} {p q:Option AV} (hs:w.length≤1000000) (hp:j8 p=some a) (hq:j8 q=some b) (h:lM w a b=some s):cg (T w) p q none=some (T s):=by
 unfold cg;refine rT hp ?_;refine rT hq ?_
 show (if w.toArray.size≤1000000 then (lM w a b).bind (fun l=>some (AV.str ⟨l.toArray⟩)) else none)=_
 refine rT h ?_;exact if_pos hs
theorem Jo (d:Nat) (hd:d<7) (H:AH):abi H .int16 [.str ⟨#[48,48,48,48+d]⟩,.int 16]=some (.int d)∧fH .issuperset H (.fset iv) [.str ⟨#[48,48,48,48+d]⟩]=some (.bool true,H)∧abi H .chr [.int d]=some (.str ⟨#[d]⟩) :=
 yE (fun d=>abi H .int16 [.str ⟨#[48,48,48,48+d]⟩,.int 16]=some (.int d)∧fH .issuperset H (.fset iv) [.str ⟨#[48,48,48,48+d]⟩]=some (.bool true,H)∧abi H .chr [.int d]=some (.str ⟨#[d]⟩)) hd ⟨by kernel_rfl,by kernel_rfl,by kernel_rfl⟩ ⟨by kernel_rfl,by kernel_rfl,by kernel_rfl⟩ ⟨by kernel_rfl,by kernel_rfl,by kernel_rfl⟩ ⟨by kernel_rfl,by kernel_rfl,by kernel_rfl⟩ ⟨by kernel_rfl,by kernel_rfl,by kernel_rfl⟩ ⟨by kernel_rfl,by kernel_rfl,by kernel_rfl⟩ ⟨by kernel_rfl,by kernel_rfl,by kernel_rfl⟩
theorem qf (n:Nat) {w:List Nat} (pre post:List Nat) (d:Nat) {P:Int} (hw:w=pre++([48,48,48,48+d]++post)) (hP:(pre.length:Int)=P) (hd:d<7) (hs:w.length≤1000000) (H:AH) :
  orc (n+2) 2 [T w,.int P,.int 4] [] H=some (.tup [.int (P+4),.str ⟨#[d]⟩],H):=by
 subst hP
 obtain⟨h1,h2,h3⟩:=Jo d hd H
 have hc:cg (T w) (some (.int pre.length)) (some (.int (pre.length+4))) none=some (.str ⟨#[48,48,48,48+d]⟩):=gQ hs rfl rfl (hw▸nJ pre [48,48,48,48+d] post)
 exact (jf ..).trans (bj (V':=_) (al (aH (iSl rfl (l7 rfl) (l7 (bo rfl rfl rfl)) rfl hc) rfl) (al (iIf (iTB (kT (iTC (iBi rfl rfl) rfl rfl) (kT (nG (iTM (di rfl rfl (iL rfl rfl) h2) rfl)) rfl))) rfl) (al (Hm rfl rfl rfl) (al (aH (iBi (iL rfl rfl) h1) rfl) (al (iIf (nG (iTK (aR rfl rfl (yF n d hd H)) rfl)) rfl) (bY (fy (vq (iL rfl (iL (iBi rfl h3) rfl)) rfl)))))))) rfl)
theorem yG (n:Nat) (a b c d e:AV) (H:AH):orc (n+1) 0 [a,b,c] [(⟨#[101,114,114,111,114,95,111,110]⟩,d),(⟨#[101,114,114,111,114,95,111,110,95,101,111,102]⟩,e)] H=ah (orc n) 20 cQ [some a,some b,some c,some d,some e,none] H:=by kernel_rfl
theorem tE:∀ k:Fin 123,(46≤k.1→(!ill.contains k.1)=true)∧k.1<128:=by decide +kernel
theorem nL (n:Nat) {w:List Nat} (pre s post:List Nat) (c:Nat) {P:Int} (hw:w=pre++(s++c::post)) (hP:(pre.length:Int)=P) (hc:c∉s) (b:Bool) (hi:∀ x∈s,46≤x∧x≤122) (hs:w.length≤1000000) (H:AH) :
  orc (n+1) 0 [T w,.int P,.str ⟨#[c]⟩] [(⟨#[101,114,114,111,114,95,111,110]⟩,.fset ill),(⟨#[101,114,114,111,114,95,111,110,95,101,111,102]⟩,.bool b)] H=some (.int (P+s.length),H):=by
 subst hP
 have h1:cg (T w) (some (.int pre.length)) (some (.int ((pre.length:Int)+s.length))) none=some (T s):=gQ hs rfl rfl (hw▸nJ pre s (c::post))
 have h3:fH .isdisjoint H (.fset ill) [T s]=some (.bool true,H):=by
  show ((if s.toArray.all (·<128) then some (AV.bool (s.all fun c=>!ill.contains c)) else none).bind _)=_
  refine rT (List.all_eq_true.mpr fun x hx=>(tE ⟨x,Nat.lt_succ_of_le (hi x hx).2⟩).1 (hi x hx).1) ?_;refine rT (if_pos (by rw [List.all_toArray];exact List.all_eq_true.mpr fun x hx=>decide_eq_true (tE ⟨x,Nat.lt_succ_of_le (hi x hx).2⟩).2)) ?_
  rfl
 have h4:fH .index H (T w) [.str ⟨#[c]⟩,.int pre.length]=some (.int ((pre.length:Int)+s.length),H):=by
  show (((if (0:Int)≤(pre.length:Int) then (aV c pre.length w).bind fun (i:Nat)=>some (AV.int (Int.ofNat i)) else none):Option AV).bind _)=_
  refine rT (if_pos (Int.natCast_nonneg _)) ?_;refine rT hw ?_;refine rT (lG c s post hc pre) ?_;rfl
 exact (yG ..).trans (bj (V':=_) (al (F0 (al (aH (di rfl rfl (iL rfl (iL rfl rfl)) h4) rfl) rfl)) (al (iIf (nG (iTM (di rfl rfl (iL (iSl rfl (l7 rfl) (l7 rfl) rfl h1) rfl) h3) rfl)) rfl) (bY (fy rfl)))) rfl)
theorem pt (n:Nat) {w:List Nat} (pre s post:List Nat) {P:Int} (hw:w=pre++(39::(s++39::post))) (hP:(pre.length:Int)=P) (hi:∀ x∈s,46≤x∧x≤122) (hs:w.length≤1000000) (H:AH) :
  orc (n+2) 3 [T w,.int P] [] H=some (.tup [.int (P+1+s.length+1),T s],H):=by
 subst hP
 have e:w=(pre++[39])++(s++39::post):=hw.trans (List.append_assoc pre [39] _).symm
 have e2:((pre++[39]).length:Int)=pre.length+1:=congrArg Int.ofNat List.length_append
 have h1:=nL n (pre++[39]) s post 39 e e2 (fun h=>absurd (hi _ h).1 (by decide)) true hi hs H
 have h2:cg (T w) (some (.int ((pre.length:Int)+1))) (some (.int ((pre.length:Int)+1+s.length))) none=some (T s):=gQ hs rfl rfl (e▸e2▸nJ (pre++[39]) s (39::post))
 exact (gc ..).trans (bj (V':=_) (al (Hm rfl rfl rfl) (al (aH rfl rfl) (al (aH (aR rfl rfl h1) rfl) (bY (fy (vq (iL (bo rfl rfl rfl) (iL (iSl rfl (l7 rfl) (l7 rfl) rfl h2) rfl)) rfl)))))) rfl)
theorem nM {k n:Nat} (hk:k<n) (hs:n<1000000):dX n k=some k:=by
 rewrite [dX];refine rT (if_pos hs) ?_;refine rT (if_pos (Int.natCast_nonneg _)) ?_;refine rT (if_pos (Int.ofNat_lt.mpr hk)) ?_;rfl
theorem wF (H:AH) (pre post:List Nat) (c:Nat) (hs:(pre++c::post).length<1000000):fG H (T (pre++c::post)) (.int pre.length)=some (.str ⟨#[c]⟩):=by
 show ((dX (pre++c::post).length pre.length).bind fun j=>((pre++c::post).toArray[j]?).bind fun c=>some (AV.str ⟨#[c]⟩))=_
 rw [List.length_append] at hs ⊢
 show ((dX (pre.length+(post.length+1)) pre.length).bind _)=_
 refine rT (nM (Nat.lt_add_of_pos_right (Nat.succ_pos _)) hs) ?_;refine rT (Option.bind_some ..) ?_;refine rT List.getElem?_toArray ?_;refine rT (List.getElem?_append_right (KX _)) ?_;refine rT (Nat.sub_self ..) ?_;rfl
theorem yH (n:Nat) {w:List Nat} (pre post:List Nat) {P:Int} (hw:w=pre++10::post) (hP:(pre.length:Int)=P) (hs:w.length<1000000) (H:AH) :
  orc (n+1) 1 [T w,.int P] [] H=some (.int P,H):=by
 subst hP
 have h1:fG H (T w) (.int pre.length)=some (.str ⟨#[10]⟩):=hw▸wF H pre post 10 (hw▸hs)
 exact (fx ..).trans (bj (V':=_) (al (F0 (al (aH (bF rfl rfl h1) rfl) rfl)) (al (iIf (iTC rfl rfl rfl) rfl) (bY (fy rfl)))) rfl)
theorem yI (n:Nat) {w:List Nat} (pre s post:List Nat) {P:Int} (hw:w=pre++35::(s++10::post)) (hP:(pre.length:Int)=P) (hi:∀ x∈s,46≤x∧x≤122) (hs:w.length<1000000) (H:AH) :
  orc (n+2) 1 [T w,.int P] [] H=some (.int (P+1+s.length),H):=by
 subst hP
 have h1:fG H (T w) (.int pre.length)=some (.str ⟨#[35]⟩):=hw▸wF H pre (s++10::post) 35 (hw▸hs)
 have h3:=nL n (pre++[35]) s post 10 (hw.trans (List.append_assoc pre [35] _).symm) (congrArg Int.ofNat List.length_append) (fun h=>absurd (hi _ h).1 (by decide)) false hi (KW hs) H
 exact (fx ..).trans (bj (V':=_) (al (F0 (al (aH (bF rfl rfl h1) rfl) rfl)) (bY (iIf (iTC rfl rfl rfl) (bY (fy (aR (iL rfl (iL (bo rfl rfl rfl) (iL rfl rfl))) rfl h3)))))) rfl)
end
end Mine
namespace Mine
open PySem PySem.W
noncomputable section
noncomputable def dt:X':=(.cmp (.v 2) (.cons .Gt (.v 1) .nil))
noncomputable def pv:SL:=(.cons (.asg (.name 4) (.bin .RShift (.bin .Sub (.v 2) (.c (.int (1)))) (.c (.int (1))))) (.cons (.asg (.name 5) (.sub (.v 0) (.v 4))) (.cons (.ite (.cmp (.v 3) (.cons .Lt (.v 5) .nil)) (.cons (.asgSub (.v 0) (.v 2) (.v 5)) (.cons (.asg (.name 2) (.v 4)) (.cons .cont .nil))) .nil) (.cons .brk .nil))))
noncomputable def eL:X':=(.cmp (.v 5) (.cons .Lt (.v 2) .nil))
noncomputable def tF:SL:=(.cons (.asg (.name 6) (.bin .Add (.v 5) (.c (.int (1))))) (.cons (.ite (.bool .And (.cons (.cmp (.v 6) (.cons .Lt (.v 2) .nil)) (.cons (.un .Not (.cmp (.sub (.v 0) (.v 5)) (.cons .Lt (.sub (.v 0) (.v 6)) .nil))) .nil))) (.cons (.asg (.name 5) (.v 6)) .nil) .nil) (.cons (.asgSub (.v 0) (.v 1) (.sub (.v 0) (.v 5))) (.cons (.asg (.name 1) (.v 5)) (.cons (.asg (.name 5) (.bin .Add (.bin .Mult (.c (.int (2))) (.v 1)) (.c (.int (1))))) .nil)))))
noncomputable def iQ:SL:=(.cons (.ite (.bool .Or (.cons (.un .Not (.v 8)) (.cons (.cmp (.v 8) (.cons .Eq (.v 2) .nil)) .nil))) (.cons .cont .nil) .nil) (.cons (.ite (.bool .Or (.cons (.cmp (.v 8) (.cons .NotEq (.v 3) .nil)) (.cons (.bool .And (.cons (.un .Not (.v 5)) (.cons (.un .Not (.v 7)) .nil))) (.cons (.bool .And (.cons (.v 7) (.cons (.cmp (.sub (.v 7) (.un .USub (.c (.int (1))))) (.cons .Eq (.v 3) .nil)) .nil))) .nil)))) (.cons (.expr (.meth .append (.v 7) (.cons (.v 8) .nil))) .nil) (.cons (.ite (.v 7) (.cons (.expr (.meth .pop (.v 7) .nil)) .nil) .nil) .nil)) .nil))
noncomputable def fA:X':=(.bin .Add (.sub (.v 3) (.v 1)) (.bi .sum (.cons (.sl (.v 2) (.yes (.v 1)) .no (.yes (.c (.int (7))))) .nil)))
noncomputable def gR:X':=(.bin .Mod (.sub (.v 2) (.v 1)) (.v 1))
noncomputable def fB:SL:=(.cons (.ite (.cmp (.v 4) (.cons .Gt (.c (.int (0))) .nil)) (.cons (.expr (.meth .append (.v 2) (.cons (.bin .Add (.bin .Add (.sub (.v 2) (.sub (.v 1) (.v 4))) (.c (.str ⟨#[47]⟩))) (.sl (.c (.str ⟨#[97,98,99,100,101,102]⟩)) .no (.yes (.v 4)) .no)) .nil))) .nil) .nil) (.cons (.asg (.name 5) (.sub (.lst (.cons (.c (.str ⟨#[47]⟩)) (.cons (.c (.str ⟨#[]⟩)) (.cons (.c (.str ⟨#[47,46,47]⟩)) (.cons (.c (.str ⟨#[47,122,47,46,46,47]⟩)) (.cons (.c (.str ⟨#[47,47,47]⟩)) (.cons (.c (.str ⟨#[46,46,47]⟩)) .nil))))))) (.bin .Mod (.bin .FloorDiv (.sub (.v 0) (.v 4)) (.c (.int (18)))) (.c (.int (6)))))) (.cons (.expr (.meth .append (.v 3) (.cons (.bin .Add (.v 5) (.sl (.sub (.v 2) (.v 4)) (.yes (.c (.int (1)))) .no .no)) .nil))) .nil)))
noncomputable def du:X':=(.cmp (.v 2) (.cons .Lt (.bi .len (.cons (.v 0) .nil)) .nil))
noncomputable def iR:SL:=(.cons (.asg (.tup [3,4]) (.call 2 (.cons (.v 0) (.cons (.v 2) (.cons (.c (.int (4))) .nil))) .nil)) (.cons (.asg (.tup [5,6]) (.call 3 (.cons (.v 0) (.cons (.v 3) .nil)) .nil)) (.cons (.asg (.name 7) (.call 1 (.cons (.v 0) (.cons (.v 5) .nil)) .nil)) (.cons (.asg (.name 8) (.ife (.cmp (.v 7) (.cons .Eq (.v 5) .nil)) (.un .USub (.c (.int (1)))) (.bi .ord (.cons (.sub (.call 2 (.cons (.v 0) (.cons (.bin .Add (.v 5) (.c (.int (1)))) (.cons (.c (.int (4))) .nil))) .nil) (.c (.int (1)))) .nil)))) (.cons (.expr (.meth .append (.v 1) (.cons (.tup (.cons (.v 5) (.cons (.bi .ord (.cons (.v 4) .nil)) (.cons (.v 6) (.cons (.v 8) .nil))))) .nil))) (.cons (.asg (.name 2) (.bin .Add (.v 7) (.c (.int (1))))) .nil))))))
noncomputable def cW:SL:=(.cons (.asgSub (.v 3) (.v 6) (.call 14 (.cons (.call 11 (.cons (.c (.bytes [47])) (.cons (.meth .encode (.v 6) .nil) .nil)) .nil) .nil) .nil)) (.cons (.asg (.name 8) (.call 22 (.cons (.sub (.v 3) (.v 6)) (.cons (.v 5) .nil)) .nil)) (.cons (.expr (.call 5 (.cons (.v 2) (.cons (.tup (.cons (.call 21 (.cons (.v 8) .nil) .nil) (.cons (.v 6) (.cons (.v 8) .nil)))) .nil)) .nil)) .nil)))
noncomputable def eM:XL:=(.cons (.bool .And (.cons (.cmp (.v 4) (.cons .GtE (.c (.int (0))) .nil)) (.cons (.cmp (.call 23 (.cons (.sub (.v 5) (.v 3)) (.cons (.v 6) .nil)) .nil) (.cons .LtE (.v 2) .nil)) .nil))) .nil)
noncomputable def eN:X':=(.v 4)
noncomputable def eO:XL:=(.cons (.cmp (.v 1) (.cons .NotIn (.v 2) .nil)) .nil)
noncomputable def eP:X':=(.v 1)
noncomputable def eQ:SL:=(.cons (.ite (.cmp (.v 6) (.cons .Eq (.v 10) .nil)) (.cons (.asg (.name 1) (.bin .Add (.bin .Add (.bin .Add (.sl (.v 1) .no (.yes (.v 4)) .no) (.c (.str ⟨#[35]⟩))) (.call 19 (.cons (.v 13) .nil) .nil)) (.sl (.v 1) (.yes (.v 4)) .no .no))) (.cons .brk .nil)) .nil) .nil)
noncomputable def cX:X':=(.v 2)
noncomputable def cY:SL:=(.cons (.asg (.tup [9,10,8]) (.call 6 (.cons (.v 2) .nil) .nil)) (.cons (.asg (.name 11) (.call 20 (.cons (.v 1) .nil) .nil)) (.cons (.asg (.name 12) (.lc [none,none,none,none,none,some 3,some 8] (.tup [1,2,3,4]) (.val (.v 11)) eM eN)) (.cons (.asg (.name 13) (.bi .min (.cons (.lc [none,none,some 12] (.name 1) (.range (.cons (.c (.int (7))) .nil)) eO eP) .nil))) (.cons (.for (.tup [4,5,6,7]) (.val (.v 11)) eQ) .nil)))))
noncomputable def nN:SL:=(.cons (.asg (.name 1) (.v 0)) (.cons (.asg (.name 2) (.lst .nil)) (.cons (.asg (.name 3) .dict0) (.cons (.for (.tup [4,5,6,7]) (.val (.call 20 (.cons (.v 0) .nil) .nil)) cW) (.cons (.while cX cY) (.cons (.ret (.v 1)) .nil))))))
theorem jK:en=nN:=rfl
noncomputable def pw:SL:=(.cons (.expr (.meth .append (.v 1) (.cons (.bin .BitOr (.sub (.v 1) (.sub (.v 0) (.v 2))) (.set1 (.v 2))) .nil))) .nil)
noncomputable def tG:X':=(.bin .Mod (.bin .FloorDiv (.sub (.v 2) (.v 1)) (.c (.int (6)))) (.c (.int (3))))
noncomputable def nO:X':=(.bin .Add (.bin .Add (.bin .Add (.call 19 (.cons (.sub (.v 2) (.v 1)) .nil) .nil) (.c (.str ⟨#[39]⟩))) (.sub (.v 3) (.v 1))) (.c (.str ⟨#[39]⟩)))
noncomputable def nP:X':=(.bin .Add (.v 1) (.c (.str ⟨#[10]⟩)))
noncomputable def jL:X':=(.tup (.cons (.sub (.v 1) (.c (.int (1)))) (.cons (.sub (.v 1) (.c (.int (2)))) .nil)))
noncomputable def jM:X':=(.tup (.cons (.sub (.v 2) (.v 1)) (.cons (.sub (.v 3) (.v 1)) .nil)))
noncomputable def nQ:X':=(.sub (.v 1) (.c (.int (3))))
noncomputable def jN:X':=(.bin .Add (.bin .Add (.bin .Add (.v 1) (.c (.str ⟨#[35]⟩))) (.call 19 (.cons (.v 2) .nil) .nil)) (.c (.str ⟨#[10]⟩)))
noncomputable def nR:XL:=(.cons (.cmp (.bi .len (.cons (.bin .BitXor (.sub (.v 5) (.v 3)) (.sub (.v 5) (.v 2))) .nil)) (.cons .LtE (.sub (.v 4) (.v 2)) .nil)) .nil)
noncomputable def tH:X':=(.v 1)
noncomputable def jO:X':=(.lc [none,none,none,some 1,some 4,some 5] (.tup [1,2]) (.zip (.v 2) (.v 3)) nR tH)
noncomputable def nS:X':=(.bi .len (.cons (.v 1) .nil))
noncomputable def ik:X':=(.cmp (.bi .len (.cons (.bi .set (.cons (.v 1) .nil)) .nil)) (.cons .Eq (.bi .len (.cons (.v 1) .nil)) .nil))
noncomputable def Bs:SL:=(.cons (.asg (.name 1) (.call 16 (.cons (.v 0) .nil) .nil)) (.cons (.asg (.name 2) (.call 17 (.cons (.v 1) .nil) .nil)) (.cons (.asg (.name 3) (.call 18 (.cons (.v 1) (.cons (.v 2) .nil)) .nil)) (.cons (.asg (.name 4) (.lc [none,none,some 1] (.name 1) (.range (.cons (.c (.int (7))) .nil)) .nil tG)) (.cons (.asg (.name 5) (.bin .Mod (.bi .len (.cons (.v 0) .nil)) (.c (.int (7))))) (.cons (.asg (.name 6) (.bin .Add (.listRange (.cons (.v 5) (.cons (.c (.int (7))) .nil))) (.listRange (.cons (.v 5) .nil)))) (.cons (.asg (.name 7) (.lc [none,none,some 4,some 3] (.name 1) (.val (.v 6)) .nil nO)) (.cons (.asg (.name 8) (.call 24 (.cons (.meth .sjoin (.c (.str ⟨#[]⟩)) (.cons (.lc [none,none] (.name 1) (.val (.v 7)) .nil nP) .nil)) .nil) .nil)) (.cons (.asg (.name 9) (.call 20 (.cons (.v 8) .nil) .nil)) (.cons (.ite (.cmp (.lc [none,none] (.name 1) (.val (.v 9)) .nil jL) (.cons .NotEq (.lc [none,none,some 4,some 3] (.name 1) (.val (.v 6)) .nil jM) .nil)) (.cons (.ret (.c (.bool false))) .nil) .nil) (.cons (.asg (.name 10) (.lc [none,none] (.name 1) (.val (.v 9)) .nil nQ)) (.cons (.ite (.bool .Or (.cons (.cmp (.bi .min (.cons (.v 10) .nil)) (.cons .Lt (.c (.int (0))) .nil)) (.cons (.cmp (.v 8) (.cons .NotEq (.meth .sjoin (.c (.str ⟨#[]⟩)) (.cons (.lc [none,none,none] (.tup [1,2]) (.zip (.v 7) (.v 10)) .nil jN) .nil)) .nil)) .nil))) (.cons (.ret (.c (.bool false))) .nil) .nil) (.cons (.asg (.name 11) (.call 25 (.cons (.v 2) .nil) .nil)) (.cons (.asg (.name 12) (.lc [none,none,some 10,some 6,some 4,some 11] (.name 1) (.range (.cons (.c (.int (7))) .nil)) .nil jO)) (.cons (.asg (.name 13) (.bi .max (.cons (.lc [none,none] (.name 1) (.val (.v 12)) .nil nS) .nil))) (.cons (.ret (.bool .And (.cons (.bi .all (.cons (.lc [none,none] (.name 1) (.val (.v 12)) .nil ik) .nil)) (.cons (.cmp (.bi .sorted (.cons (.bi .set (.cons (.v 10) .nil)) .nil)) (.cons .Eq (.listRange (.cons (.v 13) .nil)) .nil)) .nil)))) .nil))))))))))))))))
theorem Bt:Bj=Bs:=rfl
structure Rw where
 d:Nat
 s:List Nat
 c:Option Nat
noncomputable def jg:Option Nat→List Nat
 |none=>[]
 |some c=>[35,48,48,48,48+c]
noncomputable def dR (r:Rw):List Nat:=[48,48,48,48+r.d]++(39::(r.s++39::(jg r.c++[10])))
noncomputable def aG (rs:List Rw):List Nat:=rs.flatMap dR
structure Rw.Ok (r:Rw):Prop where
 d:r.d<7
 s:∀ x∈r.s,46≤x∧x≤122
 c:∀ c,r.c=some c→c<7
noncomputable def px:Option Nat→Int
 |none => -1
 |some c=>c
noncomputable def cZ:Nat→List Rw→List AV
 |_,[]=>[]
 |n,r::rs => .tup [.int ((n+r.s.length+6:Nat):Int),.int r.d,T r.s,.int (px r.c)]::cZ (n+(dR r).length) rs
theorem bt {H:AH} {x:AO}:(H++[x])[H.length]?=some x:=by simp
theorem nT {H:AH} {x y:AO}:(H++[x]).set H.length y=H++[y]:=by simp
theorem gS {H:AH} {l:List AV}:fU (H++[.list l]) (.ref H.length)=true:=by rewrite [fU];exact rT bt rfl
theorem il {H:AH} {i:Nat} {l:List AV} (hi:H[i]?=some (.list l)):j7 H i=some ⟨l,hi⟩:=by
 unfold j7;generalize H[i]?=o at hi ⊢;cases hi;rfl
theorem qg {H:AH} {i:Nat} {l:List (Str×AV)} (hi:H[i]?=some (.dict l)):qy H i=some ⟨l,hi⟩:=by
 unfold qy;generalize H[i]?=o at hi ⊢;cases hi;rfl
theorem bB {H:AH} {i:Nat} {l:List AV} (hi:H[i]?=some (.list l)):aY H (.ref i)=some l:=bs (il hi) rfl
theorem vr {H:AH} {i:Nat} {l:List AV} {x:AV} (hi:H[i]?=some (.list l)) (hl:l.length<1000000) (hx:noRef x=true):fH .append H (.ref i) [x]=some (.none,H.set i (.list (l++[x]))) :=
 bs (il hi) (if_pos ⟨hl,hx⟩)
theorem Bu {H:AH} {i:Nat} {l:List AV} {x:AV} (hi:H[i]?=some (.list (l++[x]))) (h:(l++[x]).length≤1000000):fH .pop H (.ref i) []=some (x,H.set i (.list l)) :=
 bs (il hi) (bs List.getLast?_concat ((if_pos h).trans (by exact rT List.dropLast_concat rfl)))
theorem Bv {H:AH} {i:Nat} {l:List AV} (hi:H[i]?=some (.list l)) (h:l.length<1000000):cG H (.ref i)=some (!l.isEmpty):=bs (bB hi) ((if_pos h).trans (congrArg some (by cases l<;>rfl)))
theorem DS {H:AH} {i:Nat} {l:List AV} (hi:H[i]?=some (.list l)) (h:l.length<1000000):abi H .len [.ref i]=some (.int l.length):=bs (bB hi) (if_pos h)
theorem nU {H:AH} {l:List AV} {x:AV} (hl:l.length<1000000) (hx:noRef x=true):fH .append (H++[.list l]) (.ref H.length) [x]=some (.none,H++[.list (l++[x])]) :=
 (vr bt hl hx).trans (by exact rT nT rfl)
theorem Bw (H:AH) (a:Int):f9 H .Eq (.int a) (.int a)=some true:=congrArg some (beq_self_eq_true a)
theorem yJ (H:AH) {a b:Int} (h:a≠b):f9 H .Eq (.int a) (.int b)=some false:=congrArg some (beq_eq_false_iff_ne.mpr h)
theorem yK (n:Nat) (w pre post:List Nat) (r:Rw) (hr:r.Ok) (hw:w=pre++(dR r++post)) (hl:w.length<1000000) (H0:AH) (acc:List AV) (ha:acc.length<1000000) (X:VM) (hX:X.length=6) :
  ∃ Y,exs (orc (n+2)) 20 iR (some (T w)::some (.ref H0.length)::some (.int pre.length)::X) (H0++[.list acc])=some (.next,some (T w)::some (.ref H0.length)::some (.int ((pre++dR r).length:Nat))::Y,H0++[.list (acc++[.tup [.int ((pre.length+r.s.length+6:Nat):Int),.int r.d,T r.s,.int (px r.c)]])])∧Y.length=6:=by
 obtain⟨x3,x4,x5,x6,x7,x8,rfl⟩:=ex6 hX
 obtain⟨d,s,c⟩:=r
 obtain⟨hd,hs,hc⟩:=hr
 have hle:=KW hl
 have f1:=qf n pre ((39::(s++39::(jg c++[10])))++post) d hw rfl hd hle (H0++[.list acc])
 have e2:w=(pre++[48,48,48,48+d])++(39::(s++39::(jg c++[10]++post))):=by refine rT hw ?_;simp [dR]
 have f2:=pt n (pre++[48,48,48,48+d]) s (jg c++[10]++post) e2 (congrArg Int.ofNat List.length_append) hs hle (H0++[.list acc])
 have e1:((pre.length+s.length+6:Nat):Int)=((pre.length+4:Nat):Int)+1+s.length+1:=by lia
 have lq:((pre++([48,48,48,48+d]++(39::(s++[39])))).length:Int)=((pre.length+4:Nat):Int)+1+s.length+1:=by refine rB e1 ?_;simp;lia
 show ∃ Y:VM,_=some (_,_,H0++[AO.list (acc++[.tup [.int ((pre.length+s.length+6:Nat):Int),.int d,T s,.int (px c)]])])∧Y.length=6
 refine rT e1 ?_
 cases c with
 |none =>
  have f3:=yH (n+1) (pre++([48,48,48,48+d]++(39::(s++[39])))) post (by refine rT hw ?_;simp [dR,jg]) lq hl (H0++[.list acc])
  have e3:((pre++dR ⟨d,s,none⟩).length:Int)=((pre.length+4:Nat):Int)+1+s.length+1+1:=by refine rB e1 ?_;simp [dR,jg];lia
  refine rT e3 ?_
  exact⟨_,al (aH (aR rfl rfl f1) rfl) (al (aH (aR rfl rfl f2) rfl) (al (aH (aR rfl rfl f3) rfl) (al (aH (Hl (iTC rfl rfl (Bw _ _)) rfl) rfl) (al (f0 (di rfl gS (iL (vq rfl rfl) rfl) (nU ha rfl))) (al (aH (bo rfl rfl rfl) rfl) rfl))))),rfl⟩
 |some c =>
  have hc:=hc c rfl
  have f3:=yI n (pre++([48,48,48,48+d]++(39::(s++[39])))) [48,48,48,48+c] post (by refine rT hw ?_;simp [dR,jg]) lq (by simp;lia) hl (H0++[.list acc])
  have f4:=qf n (pre++([48,48,48,48+d]++(39::(s++[39,35])))) (10::post) c (by refine rT hw ?_;simp [dR,jg]) rfl hc hle (H0++[.list acc])
  have l2:((pre++([48,48,48,48+d]++(39::(s++[39,35])))).length:Int)=((pre.length+4:Nat):Int)+1+s.length+1+1:=by refine rB e1 ?_;simp;lia
  rw [l2] at f4
  have e3:((pre++dR ⟨d,s,some c⟩).length:Int)=((pre.length+4:Nat):Int)+1+s.length+1+1+4+1:=by refine rB e1 ?_;simp [dR,jg];lia
  refine rT e3 ?_
  exact⟨_,al (aH (aR rfl rfl f1) rfl) (al (aH (aR rfl rfl f2) rfl) (al (aH (aR rfl rfl f3) rfl) (al (aH (Hl (iTC rfl rfl (yJ _ (by simp;lia))) (iBi (iL (bF (aR (iL rfl (iL (bo rfl rfl rfl) rfl)) rfl f4) rfl rfl) rfl) rfl)) rfl) (al (f0 (di rfl gS (iL (vq rfl rfl) rfl) (nU ha rfl))) (al (aH (bo rfl rfl rfl) rfl) rfl))))),rfl⟩
theorem ct (r:Rw) (rs:List Rw):aG (r::rs)=dR r++aG rs:=rfl
theorem Hr {H:AH} {w:List Nat} (hl:w.length<1000000):abi H .len [T w]=some (.int w.length):=if_pos hl
theorem nV (H:AH) (a b:Nat):f9 H .Lt (.int a) (.int b)=some (decide (a<b)):=congrArg some (decide_eq_decide.mpr Int.ofNat_lt)
theorem qh (C:ae) (w:List Nat) (p:Nat) (hl:w.length<1000000) (H:AH) (x1:Option AV) (X:VM) :
  tv C du (ev C du (some (T w)::x1::some (.int p)::X) H) (some (T w)::x1::some (.int p)::X) H=some (decide (p<w.length),H) :=
 iTC rfl (iBi (iL rfl rfl) (Hr hl)) (nV ..)
theorem Bx (r:Rw):0<(dR r).length:=Nat.succ_pos _
theorem yL (n:Nat) (w:List Nat) (hl:w.length<1000000) (H0:AH) (k:Nat) (rs:List Rw):∀ (pre:List Nat) (acc:List AV) (X:VM),X.length=6→(∀ r∈rs,r.Ok)→w=pre++aG rs→acc.length+rs.length<1000000 →
  ∃ Y,bZ (fun V H=>tv (orc (n+2)) du (ev (orc (n+2)) du V H) V H) (exs (orc (n+2)) 20 iR) (k+(rs.length+1)) (some (T w)::some (.ref H0.length)::some (.int pre.length)::X) (H0++[.list acc])=some (.next,some (T w)::some (.ref H0.length)::some (.int w.length)::Y,H0++[.list (acc++cZ pre.length rs)])∧Y.length=6:=by
 induction rs with
 |nil =>
  intro pre acc X hX _ hw _
  have hw:w=pre:=hw.trans (List.append_nil _)
  subst hw
  have e:acc++cZ w.length []=acc:=List.append_nil _
  refine rT e ?_
  exact⟨X,qe ((qh _ _ _ hl ..).trans (by exact rT (decide_eq_false (Nat.lt_irrefl _)) rfl)),hX⟩
 |cons r rs ih =>
  intro pre acc X hX hr hw ha
  have hlt:pre.length<w.length:=by rw [hw,List.length_append];exact Nat.lt_add_of_pos_right (KZ (Bx r) (by rw [ct,List.length_append];exact Kf _ _))
  obtain⟨Y,e,hY⟩:=yK n w pre (aG rs) r (hr r Ka) hw hl H0 acc (KQ (Kf _ _) ha) X hX
  obtain⟨Z,e2,hZ⟩:=ih (pre++dR r) (acc++[.tup [.int ((pre.length+r.s.length+6:Nat):Int),.int r.d,T r.s,.int (px r.c)]]) Y hY (fun q hq=>hr q (List.mem_cons_of_mem _ hq)) (by refine rT hw ?_;refine rT (List.append_assoc ..) ?_;exact rT (ct ..) rfl) (by refine rT List.length_append ?_;rw [List.length_cons] at ha;exact (Kb ..).symm▸ha)
  rw [List.append_assoc,List.length_append] at e2
  exact⟨Z,wGo ((qh _ _ _ hl ..).trans (by exact rT (decide_eq_true hlt) rfl)) e (by refine rT List.length_append ?_;exact e2),hZ⟩
theorem nW:∀ (n:Nat) (rs:List Rw),noRef.all (cZ n rs)=true
 |_,[]=>rfl
 |n,r::rs=>nW _ rs
theorem tI {H:AH} {l:List AV} (hn:noRef.all l=true):freeze H.length (H++[.list l]) (.ref H.length)=some (.lst l):=nE (KX _) bt hn
theorem tJ {C:ae} {N:Nat} {b:SL} {V V':VM} {H:AH} {l:List AV} (h:exs C N b V H=some (.ret (.ref H.length),V',H++[.list l])) (hn:noRef.all l=true):ah C N b V H=some (.lst l,H):=by
 rewrite [ah];refine rT h ?_;show (freeze H.length (H++[AO.list l]) (.ref H.length)).map (·,(H++[AO.list l]).take H.length)=_
 refine rT (tI hn) ?_;refine rT List.take_left ?_;rfl
theorem F2 {C:ae} {V:VM} {H:AH}:ev C (.lst .nil) V H=some (.ref H.length,H++[.list []]):=rfl
theorem rD (n:Nat) (rs:List Rw) (hr:∀ r∈rs,r.Ok) (hl:(aG rs).length<1000000) (hN:rs.length<20) (H:AH):orc (n+3) 20 [T (aG rs)] [] H=some (.lst (cZ 0 rs),H):=by
 obtain⟨Y,e,_⟩:=yL n (aG rs) hl H (20-(rs.length+1)) rs [] [] [none,none,none,none,none,none] rfl hr rfl (by refine rT List.length_nil ?_;refine rT (Nat.zero_add ..) ?_;exact Kd hN (by decide))
 rw [Nat.sub_add_cancel hN] at e
 exact (rq ..).trans (tJ (al (aH F2 rfl) (al (aH rfl rfl) (al (rC e) (bY (fy rfl))))) (nW ..))
set_option linter.unusedVariables false
set_option linter.unusedSectionVars false
noncomputable def OLe {α:Type} (a b:Option α):Prop:=∀ r,a=some r→b=some r
theorem OLe.refl {α:Type} (a:Option α):OLe a a:=fun _ h=>h
theorem OLe.bind {α β:Type} {a b:Option α} {f g:α→Option β} (h:OLe a b) (k:∀ x,OLe (f x) (g x)):OLe (a.bind f) (b.bind g):=fun r e =>
 have ⟨x,e1,e2⟩:=Option.bind_eq_some_iff.mp e
 Option.bind_eq_some_iff.mpr ⟨x,h x e1,k x r e2⟩
theorem OLe.map {α β:Type} {a b:Option α} {f:α→Option β} (h:OLe a b):OLe (a.bind f) (b.bind f):=OLe.bind h fun _=>OLe.refl _
theorem OLe.cond {α:Type} {a b a' b':Option α} (c:Bool) (h:OLe a a') (k:OLe b b'):OLe (cond c a b) (cond c a' b'):=match c with
 |true=>h
 |false=>k
noncomputable def CLe (C C':ae):Prop:=∀ f a k H,OLe (C f a k H) (C' f a k H)
section
variable {C C':ae} (hC:CLe C C')
include hC
theorem yM (f:Nat) (l:List AV):∀ H,OLe (qz C f l H) (qz C' f l H):=by
 induction l with
 |nil=>exact fun _=>OLe.refl _
 |cons a l ih=>exact fun H=>OLe.bind (hC _ _ _ _) fun x=>OLe.map (ih _)
omit hC in
theorem iS {f g:AV→VM→AH→Option (Option AV×VM×AH)} (h:∀ a V H,OLe (f a V H) (g a V H)) (l:List AV):∀ V H,OLe (compLoop f l V H) (compLoop g l V H):=by
 induction l with
 |nil=>exact fun _ _=>OLe.refl _
 |cons a l ih=>exact fun V H=>OLe.bind (h a V H) fun q=>OLe.map (ih _ _)
omit hC in
theorem nX {i i':VM→AH→Option (Bool×AH)} {e e':VM→AH→Option (AV×AH)} {t:Tgt} {okB:AV→Bool} (hi:∀ V H,OLe (i V H) (i' V H)) (he:∀ V H,OLe (e V H) (e' V H)) (a:AV) (V:VM) (H:AH):OLe (gh i e t okB a V H) (gh i' e' t okB a V H) :=
 OLe.bind (OLe.refl _) fun V=>OLe.bind (hi V H) fun k=>OLe.cond k.1 (OLe.map (he V k.2)) (OLe.refl _)
omit hC in
theorem nY {g g':VM→AH→Option (Fl×VM×AH)} (hg:∀ V H,OLe (g V H) (g' V H)):∀ r,OLe (rV g r) (rV g' r)
 |(.next,_,_)=>hg _ _
 |(.cont,_,_)=>hg _ _
 |(.brk,_,_)=>OLe.refl _
 |(.ret _,_,_)=>OLe.refl _
omit hC in
theorem yN {g g':VM→AH→Option (Fl×VM×AH)} (hg:∀ V H,OLe (g V H) (g' V H)):∀ r,OLe (E6 g r) (E6 g' r)
 |(.next,_,_)=>hg _ _
 |(.cont,_,_)=>OLe.refl _
 |(.brk,_,_)=>OLe.refl _
 |(.ret _,_,_)=>OLe.refl _
omit hC in
theorem tK {t t':VM→AH→Option (Bool×AH)} {b b':VM→AH→Option (Fl×VM×AH)} (ht:∀ V H,OLe (t V H) (t' V H)) (hb:∀ V H,OLe (b V H) (b' V H)) (n:Nat):∀ V H,OLe (bZ t b n V H) (bZ t' b' n V H):=by
 induction n with
 |zero=>exact fun _ _=>OLe.refl _
 |succ n ih=>exact fun V H=>OLe.bind (ht V H) fun q=>OLe.cond q.1 (OLe.bind (hb V _) (nY ih)) (OLe.refl _)
omit hC in
theorem yO {tg:Tgt} {b b':VM→AH→Option (Fl×VM×AH)} (hb:∀ V H,OLe (b V H) (b' V H)) (l:List AV):∀ V H,OLe (ju tg b l V H) (ju tg b' l V H):=by
 induction l with
 |nil=>exact fun _ _=>OLe.refl _
 |cons a l ih=>exact fun V H=>OLe.bind (OLe.refl _) fun V=>OLe.bind (hb V _) (nY ih)
mutual
theorem am:∀ x V H,OLe (ev C x V H) (ev C' x V H)
 |.c _,_,_ | .v _,_,_ | .g _,_,_ | .dict0,_,_=>OLe.refl _
 |.bin _ a b,V,H=>OLe.bind (am a V H) fun _=>OLe.map (am b V _)
 |.un _ a,V,H=>OLe.map (am a V H)
 |.bool op l,V,H=>lH op l V H
 |.cmp a l,V,H=>OLe.bind (am a V H) fun _=>OLe.map (fQ _ l V _)
 |.ife t a b,V,H=>OLe.bind (dS t _ _ (am t V H) V H) fun q=>OLe.cond q.1 (am a V _) (am b V _)
 |.lst l,V,H=>OLe.map (dz l V H)
 |.tup l,V,H=>OLe.map (dz l V H)
 |.set1 a,V,H=>OLe.map (am a V H)
 |.sub a i,V,H=>OLe.bind (am a V H) fun _=>OLe.map (am i V _)
 |.sl a lo hi st,V,H=>OLe.bind (am a V H) fun _=>OLe.bind (nZ lo V _) fun _=>OLe.bind (nZ hi V _) fun _=>OLe.map (nZ st V _)
 |.call f args kws,V,H=>OLe.bind (dz args V H) fun _=>OLe.bind (tL kws V _) fun _=>hC _ _ _ _
 |.bi _ args,V,H=>OLe.map (dz args V H)
 |.meth m a args,V,H=>OLe.bind (am a V H) fun p=>OLe.cond _ (OLe.cond _ (OLe.map (dz args V _)) (OLe.refl _)) (OLe.refl _)
 |.tupleMap f a,V,H=>OLe.bind (am a V H) fun _=>OLe.bind (OLe.refl _) fun _=>OLe.map (yM hC f _ _)
 |.listRange args,V,H=>OLe.map (dz args V H)
 |.lc cp t it ifs elt,V,H=>OLe.bind (n0 it V H) fun q=>OLe.cond _ (OLe.map (iS (nX (n4 ifs) (am elt)) _ _ _)) (OLe.refl _)
 |.sc cp t it elt,V,H=>OLe.bind (n0 it V H) fun q=>OLe.cond _ (OLe.map (iS (nX (fun _ _=>OLe.refl _) (am elt)) _ _ _)) (OLe.refl _)
theorem nZ:∀ x V H,OLe (evO C x V H) (evO C' x V H)
 |.no,_,_=>OLe.refl _
 |.yes x,V,H=>OLe.map (am x V H)
theorem dz:∀ x V H,OLe (evL C x V H) (evL C' x V H)
 |.nil,_,_=>OLe.refl _
 |.cons x r,V,H=>OLe.bind (am x V H) fun _=>OLe.map (dz r V _)
theorem tL:∀ x V H,OLe (evK C x V H) (evK C' x V H)
 |.nil,_,_=>OLe.refl _
 |.cons _ x r,V,H=>OLe.bind (am x V H) fun _=>OLe.map (tL r V _)
theorem lH:∀ (op:BoolOp) (x:XL) (V:VM) (H:AH),OLe (mo C op x V H) (mo C' op x V H)
 |_,.nil,_,_=>OLe.refl _
 |_,.cons x .nil,V,H=>am x V H
 |op,.cons x (.cons y r),V,H=>OLe.bind (am x V H) fun _=>OLe.bind (OLe.refl _) fun _=>OLe.cond _ (lH op (.cons y r) V _) (OLe.refl _)
theorem fQ (v:AV):∀ x V H,OLe (g9 C v x V H) (g9 C' v x V H)
 |.nil,_,_=>OLe.refl _
 |.cons _ y .nil,V,H=>OLe.map (am y V H)
 |.cons _ y (.cons op' z r),V,H=>OLe.bind (am y V H) fun _=>OLe.bind (OLe.refl _) fun b=>OLe.cond b (fQ _ (.cons op' z r) V _) (OLe.refl _)
theorem n0:∀ x V H,OLe (evI C x V H) (evI C' x V H)
 |.val x,V,H=>OLe.map (am x V H)
 |.range args,V,H=>OLe.map (dz args V H)
 |.enum x,V,H=>OLe.map (am x V H)
 |.zip a b,V,H=>OLe.bind (am a V H) fun _=>OLe.map (am b V _)
theorem dS:∀ (x:X') (w w':Option (AV×AH)) (_:OLe w w') (V:VM) (H:AH),OLe (tv C x w V H) (tv C' x w' V H)
 |.un .Not a,_,_,_,V,H=>OLe.map (dS a _ _ (am a V H) V H)
 |.bool op l,_,_,_,V,H=>n3 op l V H
 |.ife t a b,_,_,_,V,H=>OLe.bind (dS t _ _ (am t V H) V H) fun q=>OLe.cond q.1 (dS a _ _ (am a V _) V _) (dS b _ _ (am b V _) V _)
 |.cmp a l,_,_,_,V,H=>OLe.bind (am a V H) fun _=>fQ _ l V _
 |.un .USub _,_,_,hw,_,_ | .un .UAdd _,_,_,hw,_,_ | .un .Invert _,_,_,hw,_,_ | .c _,_,_,hw,_,_ | .v _,_,_,hw,_,_ | .g _,_,_,hw,_,_ | .bin ..,_,_,hw,_,_ | .lst _,_,_,hw,_,_ | .tup _,_,_,hw,_,_ | .set1 _,_,_,hw,_,_ | .dict0,_,_,hw,_,_ | .sub ..,_,_,hw,_,_ | .sl ..,_,_,hw,_,_ | .call ..,_,_,hw,_,_ | .bi ..,_,_,hw,_,_ | .meth ..,_,_,hw,_,_ | .tupleMap ..,_,_,hw,_,_ | .listRange ..,_,_,hw,_,_ | .lc ..,_,_,hw,_,_ | .sc ..,_,_,hw,_,_=>OLe.map hw
theorem n3:∀ (op:BoolOp) (x:XL) (V:VM) (H:AH),OLe (fV C op x V H) (fV C' op x V H)
 |_,.nil,_,_=>OLe.refl _
 |op,.cons x r,V,H=>OLe.bind (dS x _ _ (am x V H) V H) fun _=>OLe.cond _ (n3 op r V _) (OLe.refl _)
theorem n4:∀ x V H,OLe (bU C x V H) (bU C' x V H)
 |.nil,_,_=>OLe.refl _
 |.cons x r,V,H=>OLe.bind (dS x _ _ (am x V H) V H) fun _=>OLe.cond _ (n4 r V _) (OLe.refl _)
end
mutual
theorem DT (N:Nat):∀ s V H,OLe (ex C N s V H) (ex C' N s V H)
 |.asg _ x,V,H=>OLe.map (am hC x V H)
 |.asgSub o i x,V,H=>OLe.bind (am hC x V H) fun _=>OLe.bind (am hC o V _) fun _=>OLe.map (am hC i V _)
 |.aug _ _ x,V,_=>OLe.bind (OLe.refl _) fun _=>OLe.map (am hC x V _)
 |.ite t a b,V,H=>OLe.bind (dS hC t _ _ (am hC t V H) V H) fun q=>OLe.cond q.1 (er N a V _) (er N b V _)
 |.while t b,V,H=>tK (fun V H=>dS hC t _ _ (am hC t V H) V H) (er N b) N V H
 |.for _ it b,V,H=>OLe.bind (n0 hC it V H) fun _=>yO (er N b) _ _ _
 |.ret x,V,H=>OLe.map (am hC x V H)
 |.expr x,V,H=>OLe.map (am hC x V H)
 |.try b,V,H=>er N b V H
 |.brk,_,_ | .cont,_,_ | .pass,_,_ | .bad,_,_=>OLe.refl _
theorem er (N:Nat):∀ s V H,OLe (exs C N s V H) (exs C' N s V H)
 |.nil,_,_=>OLe.refl _
 |.cons s r,V,H=>OLe.bind (DT N s V H) (yN (er N r))
end
theorem c0 (N:Nat) (b:SL) (V:VM) (H:AH):OLe (ah C N b V H) (ah C' N b V H):=OLe.map (er hC N b V H)
end
noncomputable def C0:ae:=fun f args kws H=>(kw0 kws).bind fun _=>(dJ args).bind fun a=>(bL a.1).bind fun b=>cond (Nat.beq f 9) (some (.bytes b.1,H)) (cond (Nat.beq f 10) (some (.bytes #[47],H)) none)
theorem tM (n:Nat):CLe C0 (orc (n+1)):=fun f a k H r h =>
 ob h fun q _ h=>ob h fun x _ h=>ob h fun b _ h=>by
  rw [q.down,x.2,b.2]
  cases e:Nat.beq f 9 with
  |true=>rw [e] at h;cases h;rw [Nat.eq_of_beq_eq_true e];exact cU n _ H
  |false =>
   rw [e] at h
   exact oc h fun e h=>by cases h;rw [Nat.eq_of_beq_eq_true e];exact pq n _ H
noncomputable def Hs (k:Nat):List UInt8:=[97,98,99,100,101,102].take k
noncomputable def EQ:List Nat→List UInt8
 |[]=>[47]
 |k::s=>(k::s).flatMap fun k=>47::Hs k
noncomputable abbrev pth (s:List Nat):AV := .bytes (EQ s).toArray
noncomputable def F3:List Nat→List (List Nat)
 |[]=>[[]]
 |a::r=>(F3 r)++(F3 r).map (a::·)
noncomputable def ba:List (List Nat):=F3 [1,2,3,4,5,6]
theorem n5 {α β:Type} {l:List α} {f g:α→β} (h:l.map f=l.map g) {a:α} (ha:a∈l):f a=g a:=List.map_inj_left.mp h a ha
noncomputable def n6 (q:Option (Fl×VM×AH)):Option (Fl×AH):=q.map fun q=>(q.1,q.2.2)
theorem jP {C:ae} {N:Nat} {b:SL} {V:VM} {H:AH} {v:AV} (h:n6 (exs C N b V H)=some (.ret v,H)) (hn:noRef v=true):ah C N b V H=some (v,H):=by
 unfold n6 at h
 cases e:exs C N b V H with
 |none=>rw [e] at h;cases h
 |some q =>
  obtain⟨f,V',H'⟩:=q
  rw [e] at h
  simp only [Option.map_some,Option.some.injEq,Prod.mk.injEq] at h
  obtain⟨rfl,rfl⟩:=h
  exact bj e hn
theorem DU (H:AH):ba.map (fun s=>n6 (exs C0 20 kR [some (pth s),none,none,none] H))=ba.map (fun s=>some (.ret (pth s.dropLast),H)):=by kernel_rfl
theorem n7 (n:Nat) (H:AH) {s:List Nat} (hs:s∈ba):orc (n+2) 13 [pth s] [] H=some (pth s.dropLast,H):=by
 refine rT (tB ..) ?_
 exact c0 (tM n) _ _ _ _ _ (jP (n5 (DU H) hs) rfl)
theorem yP (H:AH):ba.map (fun s=>n6 (exs C0 20 gO [some (pth s)] H))=ba.map (fun s=>some (.ret (.int s.length),H)):=by kernel_rfl
theorem jQ (n:Nat) (H:AH) {s:List Nat} (hs:s∈ba):orc (n+2) 21 [pth s] [] H=some (.int s.length,H):=by
 refine rT (pk ..) ?_
 exact c0 (tM n) _ _ _ _ _ (jP (n5 (yP H) hs) rfl)
noncomputable def lcp:List Nat→List Nat→List Nat
 |a::l,b::r=>if a=b then a::lcp l r else []
 |_,_=>[]
noncomputable def con:List Nat→List Nat→Bool
 |a::l,b::r=>if a=b then con l r else (a::l).all fun x=>!(b::r).contains x
 |_,_=>true
noncomputable def SL.tl:SL→SL
 |.nil => .nil
 |.cons _ r=>r
noncomputable def aa (H:AH) (a:List Nat):Prop:=(ba.filter (con a)).map (fun b=>n6 (exs C0 20 bR.tl [some (.tup [pth a,pth b]),none,none,none,none,none,none,none,none,none,none] H))=(ba.filter (con a)).map (fun b=>some (.ret (pth (lcp a b)),H))
theorem Jp (H:AH):aa H []:=by unfold aa;kernel_rfl
theorem Jq (H:AH):aa H [6]:=by unfold aa;kernel_rfl
theorem Jr (H:AH):aa H [5]:=by unfold aa;kernel_rfl
theorem Js (H:AH):aa H [5,6]:=by unfold aa;kernel_rfl
theorem Jt (H:AH):aa H [4]:=by unfold aa;kernel_rfl
theorem Ju (H:AH):aa H [4,6]:=by unfold aa;kernel_rfl
theorem Jv (H:AH):aa H [4,5]:=by unfold aa;kernel_rfl
theorem Jw (H:AH):aa H [4,5,6]:=by unfold aa;kernel_rfl
theorem Jx (H:AH):aa H [3]:=by unfold aa;kernel_rfl
theorem Jy (H:AH):aa H [3,6]:=by unfold aa;kernel_rfl
theorem Ht (H:AH):aa H [3,5]:=by unfold aa;kernel_rfl
theorem Hu (H:AH):aa H [3,5,6]:=by unfold aa;kernel_rfl
theorem Hv (H:AH):aa H [3,4]:=by unfold aa;kernel_rfl
theorem Hw (H:AH):aa H [3,4,6]:=by unfold aa;kernel_rfl
theorem Hx (H:AH):aa H [3,4,5]:=by unfold aa;kernel_rfl
theorem Hy (H:AH):aa H [3,4,5,6]:=by unfold aa;kernel_rfl
theorem Hz (H:AH):aa H [2]:=by unfold aa;kernel_rfl
theorem HA (H:AH):aa H [2,6]:=by unfold aa;kernel_rfl
theorem HB (H:AH):aa H [2,5]:=by unfold aa;kernel_rfl
theorem HC (H:AH):aa H [2,5,6]:=by unfold aa;kernel_rfl
theorem HD (H:AH):aa H [2,4]:=by unfold aa;kernel_rfl
theorem HE (H:AH):aa H [2,4,6]:=by unfold aa;kernel_rfl
theorem HF (H:AH):aa H [2,4,5]:=by unfold aa;kernel_rfl
theorem HG (H:AH):aa H [2,4,5,6]:=by unfold aa;kernel_rfl
theorem HH (H:AH):aa H [2,3]:=by unfold aa;kernel_rfl
theorem HI (H:AH):aa H [2,3,6]:=by unfold aa;kernel_rfl
theorem HJ (H:AH):aa H [2,3,5]:=by unfold aa;kernel_rfl
theorem HK (H:AH):aa H [2,3,5,6]:=by unfold aa;kernel_rfl
theorem HL (H:AH):aa H [2,3,4]:=by unfold aa;kernel_rfl
theorem HM (H:AH):aa H [2,3,4,6]:=by unfold aa;kernel_rfl
theorem HN (H:AH):aa H [2,3,4,5]:=by unfold aa;kernel_rfl
theorem HO (H:AH):aa H [2,3,4,5,6]:=by unfold aa;kernel_rfl
theorem HP (H:AH):aa H [1]:=by unfold aa;kernel_rfl
theorem HQ (H:AH):aa H [1,6]:=by unfold aa;kernel_rfl
theorem HR (H:AH):aa H [1,5]:=by unfold aa;kernel_rfl
theorem HS (H:AH):aa H [1,5,6]:=by unfold aa;kernel_rfl
theorem HT (H:AH):aa H [1,4]:=by unfold aa;kernel_rfl
theorem HU (H:AH):aa H [1,4,6]:=by unfold aa;kernel_rfl
theorem HV (H:AH):aa H [1,4,5]:=by unfold aa;kernel_rfl
theorem HW (H:AH):aa H [1,4,5,6]:=by unfold aa;kernel_rfl
theorem HX (H:AH):aa H [1,3]:=by unfold aa;kernel_rfl
theorem HY (H:AH):aa H [1,3,6]:=by unfold aa;kernel_rfl
theorem HZ (H:AH):aa H [1,3,5]:=by unfold aa;kernel_rfl
theorem H5 (H:AH):aa H [1,3,5,6]:=by unfold aa;kernel_rfl
theorem H6 (H:AH):aa H [1,3,4]:=by unfold aa;kernel_rfl
theorem H7 (H:AH):aa H [1,3,4,6]:=by unfold aa;kernel_rfl
theorem H8 (H:AH):aa H [1,3,4,5]:=by unfold aa;kernel_rfl
theorem H9 (H:AH):aa H [1,3,4,5,6]:=by unfold aa;kernel_rfl
theorem Ia (H:AH):aa H [1,2]:=by unfold aa;kernel_rfl
theorem Ib (H:AH):aa H [1,2,6]:=by unfold aa;kernel_rfl
theorem Ic (H:AH):aa H [1,2,5]:=by unfold aa;kernel_rfl
theorem Ie (H:AH):aa H [1,2,5,6]:=by unfold aa;kernel_rfl
theorem Ig (H:AH):aa H [1,2,4]:=by unfold aa;kernel_rfl
theorem Ih (H:AH):aa H [1,2,4,6]:=by unfold aa;kernel_rfl
theorem Ii (H:AH):aa H [1,2,4,5]:=by unfold aa;kernel_rfl
theorem Ij (H:AH):aa H [1,2,4,5,6]:=by unfold aa;kernel_rfl
theorem Ik (H:AH):aa H [1,2,3]:=by unfold aa;kernel_rfl
theorem Il (H:AH):aa H [1,2,3,6]:=by unfold aa;kernel_rfl
theorem Im (H:AH):aa H [1,2,3,5]:=by unfold aa;kernel_rfl
theorem Io (H:AH):aa H [1,2,3,5,6]:=by unfold aa;kernel_rfl
theorem Ip (H:AH):aa H [1,2,3,4]:=by unfold aa;kernel_rfl
theorem Iq (H:AH):aa H [1,2,3,4,6]:=by unfold aa;kernel_rfl
theorem Ir (H:AH):aa H [1,2,3,4,5]:=by unfold aa;kernel_rfl
theorem Iu (H:AH):aa H [1,2,3,4,5,6]:=by unfold aa;kernel_rfl
theorem DV:ba=[[],[6],[5],[5,6],[4],[4,6],[4,5],[4,5,6],[3],[3,6],[3,5],[3,5,6],[3,4],[3,4,6],[3,4,5],[3,4,5,6],[2],[2,6],[2,5],[2,5,6],[2,4],[2,4,6],[2,4,5],[2,4,5,6],[2,3],[2,3,6],[2,3,5],[2,3,5,6],[2,3,4],[2,3,4,6],[2,3,4,5],[2,3,4,5,6],[1],[1,6],[1,5],[1,5,6],[1,4],[1,4,6],[1,4,5],[1,4,5,6],[1,3],[1,3,6],[1,3,5],[1,3,5,6],[1,3,4],[1,3,4,6],[1,3,4,5],[1,3,4,5,6],[1,2],[1,2,6],[1,2,5],[1,2,5,6],[1,2,4],[1,2,4,6],[1,2,4,5],[1,2,4,5,6],[1,2,3],[1,2,3,6],[1,2,3,5],[1,2,3,5,6],[1,2,3,4],[1,2,3,4,6],[1,2,3,4,5],[1,2,3,4,5,6]]:=by kernel_rfl
theorem vt (H:AH):∀ a∈ba,aa H a:=by
 rw [DV]
 refine Kk.mpr ⟨Jp H,?_⟩
 refine Kk.mpr ⟨Jq H,?_⟩
 refine Kk.mpr ⟨Jr H,?_⟩
 refine Kk.mpr ⟨Js H,?_⟩
 refine Kk.mpr ⟨Jt H,?_⟩
 refine Kk.mpr ⟨Ju H,?_⟩
 refine Kk.mpr ⟨Jv H,?_⟩
 refine Kk.mpr ⟨Jw H,?_⟩
 refine Kk.mpr ⟨Jx H,?_⟩
 refine Kk.mpr ⟨Jy H,?_⟩
 refine Kk.mpr ⟨Ht H,?_⟩
 refine Kk.mpr ⟨Hu H,?_⟩
 refine Kk.mpr ⟨Hv H,?_⟩
 refine Kk.mpr ⟨Hw H,?_⟩
 refine Kk.mpr ⟨Hx H,?_⟩
 refine Kk.mpr ⟨Hy H,?_⟩
 refine Kk.mpr ⟨Hz H,?_⟩
 refine Kk.mpr ⟨HA H,?_⟩
 refine Kk.mpr ⟨HB H,?_⟩
 refine Kk.mpr ⟨HC H,?_⟩
 refine Kk.mpr ⟨HD H,?_⟩
 refine Kk.mpr ⟨HE H,?_⟩
 refine Kk.mpr ⟨HF H,?_⟩
 refine Kk.mpr ⟨HG H,?_⟩
 refine Kk.mpr ⟨HH H,?_⟩
 refine Kk.mpr ⟨HI H,?_⟩
 refine Kk.mpr ⟨HJ H,?_⟩
 refine Kk.mpr ⟨HK H,?_⟩
 refine Kk.mpr ⟨HL H,?_⟩
 refine Kk.mpr ⟨HM H,?_⟩
 refine Kk.mpr ⟨HN H,?_⟩
 refine Kk.mpr ⟨HO H,?_⟩
 refine Kk.mpr ⟨HP H,?_⟩
 refine Kk.mpr ⟨HQ H,?_⟩
 refine Kk.mpr ⟨HR H,?_⟩
 refine Kk.mpr ⟨HS H,?_⟩
 refine Kk.mpr ⟨HT H,?_⟩
 refine Kk.mpr ⟨HU H,?_⟩
 refine Kk.mpr ⟨HV H,?_⟩
 refine Kk.mpr ⟨HW H,?_⟩
 refine Kk.mpr ⟨HX H,?_⟩
 refine Kk.mpr ⟨HY H,?_⟩
 refine Kk.mpr ⟨HZ H,?_⟩
 refine Kk.mpr ⟨H5 H,?_⟩
 refine Kk.mpr ⟨H6 H,?_⟩
 refine Kk.mpr ⟨H7 H,?_⟩
 refine Kk.mpr ⟨H8 H,?_⟩
 refine Kk.mpr ⟨H9 H,?_⟩
 refine Kk.mpr ⟨Ia H,?_⟩
 refine Kk.mpr ⟨Ib H,?_⟩
 refine Kk.mpr ⟨Ic H,?_⟩
 refine Kk.mpr ⟨Ie H,?_⟩
 refine Kk.mpr ⟨Ig H,?_⟩
 refine Kk.mpr ⟨Ih H,?_⟩
 refine Kk.mpr ⟨Ii H,?_⟩
 refine Kk.mpr ⟨Ij H,?_⟩
 refine Kk.mpr ⟨Ik H,?_⟩
 refine Kk.mpr ⟨Il H,?_⟩
 refine Kk.mpr ⟨Im H,?_⟩
 refine Kk.mpr ⟨Io H,?_⟩
 refine Kk.mpr ⟨Ip H,?_⟩
 refine Kk.mpr ⟨Iq H,?_⟩
 refine Kk.mpr ⟨Ir H,?_⟩
 refine Kk.mpr ⟨Iu H,?_⟩
 exact fun a h=>by cases h
theorem Iv (n i:Nat) (H:AH) (a b:Array UInt8) (hi:H[i]?=some (.list [.bytes a,.bytes b])) (V:VM):ev (orc (n+1)) (.tupleMap 9 (.v 0)) (some (.ref i)::V) H=some (.tup [.bytes a,.bytes b],H) :=
 bs rfl (bs (bs (bB hi) rfl) (bs (bs (cU n a H) (bs (bs (cU n b H) (bs rfl rfl)) rfl)) rfl))
theorem yQ (n i:Nat) (H:AH) {a b:List Nat} (ha:a∈ba) (hb:b∈ba) (hc:con a b=true) (hi:H[i]?=some (.list [pth a,pth b])):orc (n+2) 15 [.ref i] [] H=some (pth (lcp a b),H):=by
 rw [nC]
 have h:=jP (n5 (vt H a ha) (List.mem_filter.mpr ⟨hb,hc⟩)) rfl
 have h2:=c0 (tM n) _ _ _ _ _ h
 have e:bR = .cons (.asg (.name 0) (.tupleMap 9 (.v 0))) bR.tl:=rfl
 rw [e]
 generalize bR.tl=tl at *
 exact (congrArg (fun o:Option (Fl×VM×AH)=>o.bind _) (al (aH (Iv n i H _ _ hi _) rfl) rfl)).trans h2
theorem jR (a:List Nat):∀ b:List Nat,lcp a b=a.take (lcp a b).length:=by
 induction a with
 |nil=>intro b;cases b<;>rfl
 |cons a l ih =>
  intro b
  cases b with
  |nil=>rfl
  |cons b r =>
   rw [lcp]
   split
   ·exact congrArg (a::·) (ih r)
   ·rfl
theorem By:∀ a∈ba,∀ n∈List.range 7,a.take n∈ba:=by decide +kernel
theorem wG:∀ a∈ba,a.length≤6:=by decide +kernel
theorem n8 {a:List Nat} (h:a∈ba) (n:Nat):a.take n∈ba:=by
 by_cases hn:n<7
 ·exact By a h n (List.mem_range.mpr hn)
 ·rw [List.take_of_length_le (Nat.le_trans (wG a h) (Nat.le_of_lt (Nat.lt_of_lt_of_le (by decide) (Nat.le_of_not_lt hn))))];exact h
theorem wH {a:List Nat} (b:List Nat) (h:a∈ba):lcp a b∈ba:=by rw [jR];exact n8 h _
theorem Bz (n:Nat) (H:AH) {a b:List Nat} (ha:a∈ba) (hb:b∈ba) (hc:con a b=true):orc (n+3) 23 [pth a,pth b] [] H=some (.int ((a.length:Int)+b.length-2*(lcp a b).length),H):=by
 have h1:=jQ n H ha
 have h2:=jQ n H hb
 have h3:=yQ n H.length (H++[.list [pth a,pth b]]) ha hb hc bt
 have h4:=jQ n (H++[.list [pth a,pth b]]) (wH b ha)
 have h5:(lcp a b).length<4611686018427387904:=KQ (wG _ (wH b ha)) (by decide)
 have h6:ev (orc (n+2)) (.lst (.cons (.v 0) (.cons (.v 1) .nil))) [some (pth a),some (pth b)] H=some (.ref H.length,H++[.list [pth a,pth b]]):=rfl
 exact (pn ..).trans (wE (V':=[some (pth a),some (pth b)]) (bY (fy (bo (bo (aR (iL rfl rfl) rfl h1) (aR (iL rfl rfl) rfl h2) rfl) (bo rfl (aR (iL (aR (iL h6 rfl) rfl h3) rfl) rfl h4) (Hq h5)) rfl))) rfl)
theorem F4 (n:Nat) (H:AH) {s:List Nat} (hs:s∈ba) {r:Nat} (hr:r≤2):orc (n+3) 22 [pth s,.int r] [] H=some (pth (s.take (s.length-r)),H):=by
 have d:=n7 n H hs
 have hs':s.dropLast∈ba:=by rw [List.dropLast_eq_take];exact n8 hs _
 have d':=n7 n H hs'
 match r,hr with
 |0,_ =>
  rw [show s.take (s.length-0)=s from List.take_length]
  exact (gP ..).trans (bj (V':=_) (al (aH rfl rfl) (al (tC rfl rfl) (bY (fy rfl)))) rfl)
 |1,_ =>
  rw [← List.dropLast_eq_take]
  exact (gP ..).trans (bj (V':=_) (al (aH rfl rfl) (al (tC rfl (cV rfl (al (aH (aR (iL rfl rfl) rfl d) rfl) rfl) rfl)) (bY (fy rfl)))) rfl)
 |2,_ =>
  have e:s.take (s.length-2)=s.dropLast.dropLast:=by
   rw [List.dropLast_eq_take,List.length_dropLast,List.dropLast_eq_take,List.take_take,Nat.min_eq_left (Nat.sub_le ..)];rfl
  rw [e]
  exact (gP ..).trans (bj (V':=_) (al (aH rfl rfl) (al (tC rfl (cV rfl (al (aH (aR (iL rfl rfl) rfl d) rfl) rfl) (cV rfl (al (aH (aR (iL rfl rfl) rfl d') rfl) rfl) rfl))) (bY (fy rfl)))) rfl)
noncomputable def n9:Nat→List Nat
 |0=>[47]
 |1=>[]
 |2=>[47,46,47]
 |3=>[47,122,47,46,46,47]
 |4=>[47,47,47]
 |_=>[46,46,47]
noncomputable def qi (k:Nat):List Nat:=[97,98,99,100,101,102].take k
noncomputable def fC (s:List Nat):List Nat:=s.flatMap fun k=>47::qi k
noncomputable def aS (f:Nat) (s:List Nat):List Nat:=n9 f++(fC s).drop 1
noncomputable def pz (l:List Nat):List UInt8:=l.map Nat.toUInt8
noncomputable def joined (l:List UInt8):List UInt8:=if l.head?=some 47 then l else 47::l
noncomputable def rE:List (Nat×List Nat):=(List.range 6).flatMap fun f=>ba.map fun s=>(f,s)
theorem BA (H:AH):rE.map (fun p=>n6 (exs C0 20 kQ [some (.bytes #[47]),some (.tup [.bytes (pz (aS p.1 p.2)).toArray]),none,none,none] H))=rE.map (fun p=>some (.ret (.bytes (joined (pz (aS p.1 p.2))).toArray),H)):=by kernel_rfl
theorem yR (H:AH):rE.map (fun p=>n6 (exs C0 20 gN [some (.bytes (joined (pz (aS p.1 p.2))).toArray),none,none] H))=rE.map (fun p=>some (.ret (.tup [.bytes #[],.bytes #[47],.bytes ((joined (pz (aS p.1 p.2))).drop 1).toArray]),H)):=by kernel_rfl
theorem da {f:Nat} {s:List Nat} (hf:f<6) (hs:s∈ba):(f,s)∈rE:=List.mem_flatMap.mpr ⟨f,List.mem_range.mpr hf,List.mem_map.mpr ⟨s,hs,rfl⟩⟩
noncomputable def bJ (acc:List (List UInt8)) (c:List UInt8):List (List UInt8):=if c=[]∨c=[46] then acc else if c≠[46,46] then acc++[c] else acc.dropLast
theorem BB:∀ p∈rE,47::bk [47] ((ao 47 ((joined (pz (aS p.1 p.2))).drop 1)).foldl bJ [])=EQ p.2:=by decide +kernel
theorem od:∀ p∈rE,(aS p.1 p.2).length<50∧∀ x∈aS p.1 p.2,46≤x∧x≤122:=by decide +kernel
noncomputable abbrev bAV (c:List UInt8):AV := .bytes c.toArray
theorem vv (H:AH) {a b:List UInt8} (h:a≠b):f9 H .Eq (bAV a) (bAV b)=some false:=congrArg some (beq_eq_false_iff_ne.mpr fun e=>h (congrArg Array.toList e))
theorem F5 (H:AH) {a b:List UInt8} (h:a≠b):f9 H .NotEq (bAV a) (bAV b)=some true:=by
 exact bs (o:=eqv (bAV a) (bAV b)) (f:=fun b=>some !b) (vv H h) rfl
theorem DW {H:AH} {a:List UInt8} (h:a≠[]) (hl:a.length<1000000):cG H (bAV a)=some true:=by
 show (if a.length<1000000 then some (a.length != 0) else none)=_
 refine rT (if_pos hl) ?_;exact rT (bne_iff_ne.mpr (fun e=>h (List.length_eq_zero_iff.mp e))) rfl
theorem DX {H:AH} {l:List AV} {b:Bool} (hl:l.length<1000000) (hb:(!l.isEmpty)=b):cG (H++[.list l]) (.ref H.length)=some b:=by
 exact bs (bB bt) ((if_pos hl).trans (congrArg some (by cases l<;>exact hb)))
theorem iTV {C:ae} {i:Nat} {V:VM} {H H1:AH} {x:AV} {b:Bool} (h:ev C (.v i) V H=some (x,H1)) (k:cG H1 x=some b):tv C (.v i) (ev C (.v i) V H) V H=some (b,H1):=bs h (bs k rfl)
theorem vx (n:Nat) (h:n+1<1000000):dX (n+1) (-1)=some n:=by
 have e:(-1:Int)+(n+1:Nat)=n:=by refine rT (Int.natCast_succ ..) ?_;refine rT (Int.add_comm (n:Int) ..) ?_;refine rB (Int.add_assoc ..) ?_;exact Int.zero_add _
 rewrite [dX];refine rT (if_pos h) ?_;refine rT (if_neg (by decide)) ?_;refine rT e ?_;refine rT (if_pos (Int.natCast_nonneg _)) ?_;rfl
theorem BC {H:AH} {l0:List AV} {x0:AV} (h:(l0++[x0]).length≤1000000):fH .pop (H++[.list (l0++[x0])]) (.ref H.length) []=some (x0,H++[.list l0]):=by
 refine rT (Bu bt h) ?_;exact rT nT rfl
theorem BD {H:AH} {l:List AV} {x:AV} (h:l.length+1<1000000):fG (H++[.list (l++[x])]) (.ref H.length) (.int (-1))=some x:=by
 refine bs (bB bt) ?_
 show ((dX (l++[x]).length (-1)).bind ((l++[x])[·]?))=_
 refine rT List.length_append ?_
 exact bs (vx _ h) List.getElem?_concat_length
theorem DY (l:List (List UInt8)):(l.map bAV).length=l.length:=List.length_map _
theorem DZ (C:ae) (H:AH) (acc:List (List UInt8)) (c:List UInt8) (hc:c.length<1000000) (ha:acc.length<1000) (hd:[46,46]∉acc) (x0 x4 x6:Option AV) :
  ∃ f,(f = .next∨f = .cont)∧exs C 20 iQ [x0,some (bAV [47]),some (bAV [46]),some (bAV [46,46]),x4,some (bAV [47]),x6,some (.ref H.length),some (bAV c)] (H++[.list (acc.map bAV)])=some (f,[x0,some (bAV [47]),some (bAV [46]),some (bAV [46,46]),x4,some (bAV [47]),x6,some (.ref H.length),some (bAV c)],H++[.list ((bJ acc c).map bAV)]):=by
 have ha':(acc.map bAV).length<1000000:=by refine rT (DY ..) ?_;exact Kd ha (by decide)
 by_cases h1:c=[]
 ·subst h1
  exact⟨.cont,.inr rfl,wD (iIf (iTB (F1 (nG (b:=false) (iTV rfl rfl)))) rfl)⟩
 by_cases h2:c=[46]
 ·subst h2
  exact⟨.cont,.inr rfl,wD (iIf (iTB (kT (nG (iTV rfl (DW h1 hc))) (F1 (iTC rfl rfl rfl)))) rfl)⟩
 refine⟨.next,.inl rfl,al (iIf (iTB (kT (nG (iTV rfl (DW h1 hc))) (kT (iTC rfl rfl (vv _ h2)) rfl))) rfl) ?_⟩
 rewrite [bJ];refine rT (if_neg (fun h=>h.elim h1 h2)) ?_
 by_cases h3:c=[46,46]
 ·subst h3
  refine rT (if_neg (fun h=>h rfl)) ?_
  rcases List.eq_nil_or_concat acc with rfl|⟨l,x,rfl⟩
  ·exact al (iIf (iTB (kT (iTC rfl rfl rfl) (kT (iTB (lF (nG (b:=true) (iTV rfl rfl)))) (kT (iTB (lF (iTV rfl (DX ha' rfl)))) rfl)))) (al (iIf (iTV rfl (DX ha' rfl)) rfl) rfl)) rfl
  ·rw [List.concat_eq_append] at *
   have hx:x≠[46,46]:=fun e=>hd (e▸List.mem_append_right _ Ka)
   refine rT List.dropLast_concat ?_
   rw [List.map_append] at ha' ⊢
   have e0:(!(l.map bAV++[x].map bAV).isEmpty)=true:=by cases l<;>rfl
   exact al (iIf (iTB (kT (iTC rfl rfl rfl) (kT (iTB (lF (nG (b:=true) (iTV rfl rfl)))) (kT (iTB (nH (iTV rfl (DX ha' e0)) (lF (iTC (bF rfl rfl (BD (by rw [List.length_append] at ha';exact ha'))) rfl (vv _ hx))))) rfl)))) (al (iIf (iTV rfl (DX ha' e0)) (al (f0 (di rfl gS rfl (BC (KW ha')))) rfl)) rfl)) rfl
 ·refine rT (if_pos h3) ?_;refine rT List.map_append ?_
  exact al (iIf (iTB (F1 (iTC rfl rfl (F5 _ h3)))) (al (f0 (di rfl gS (iL rfl rfl) (nU ha' rfl))) rfl)) rfl
theorem Iw (acc:List (List UInt8)) (c:List UInt8) (h:[46,46]∉acc):[46,46]∉bJ acc c:=by
 unfold bJ
 split
 ·exact h
 ·split
  ·rename_i h2
   simp only [List.mem_append,List.mem_singleton,not_or]
   exact⟨h,fun e=>h2 e.symm⟩
  ·exact fun k=>h (List.dropLast_subset _ k)
theorem F6 (acc:List (List UInt8)) (c:List UInt8):(bJ acc c).length≤acc.length+1:=by
 unfold bJ
 split
 ·exact Nat.le_succ _
 ·split
  ·refine rT List.length_append ?_;exact KX _
  ·refine rT List.length_dropLast ?_;exact Nat.le_succ_of_le (Nat.sub_le _ _)
theorem D8 (C:ae) (H:AH) (x0 x4 x6:Option AV):∀ (cs acc:List (List UInt8)) (x8:Option AV),(∀ c∈cs,c.length<1000000)→acc.length+cs.length≤1000→[46,46]∉acc →
  ∃ y8,ju (.name 8) (exs C 20 iQ) (cs.map bAV) [x0,some (bAV [47]),some (bAV [46]),some (bAV [46,46]),x4,some (bAV [47]),x6,some (.ref H.length),x8] (H++[.list (acc.map bAV)])=some (.next,[x0,some (bAV [47]),some (bAV [46]),some (bAV [46,46]),x4,some (bAV [47]),x6,some (.ref H.length),y8],H++[.list ((cs.foldl bJ acc).map bAV)]):=by
 intro cs
 induction cs with
 |nil=>exact fun acc x8 _ _ _=>⟨x8,rfl⟩
 |cons c cs ih =>
  intro acc x8 hc hl hn
  obtain⟨f,hf,e⟩:=DZ C H acc c (hc c Ka) (KZ (Nat.lt_add_of_pos_right (Nat.succ_pos _)) hl) hn x0 x4 x6
  obtain⟨y8,e2⟩:=ih (bJ acc c) (some (bAV c)) (fun d hd=>hc d (List.mem_cons_of_mem _ hd)) (Kv (Nat.add_le_add_right (F6 acc c) _) ((Kb ..).symm▸hl)) (Iw acc c hn)
  rcases hf with rfl|rfl
  ·exact⟨y8,cV rfl e e2⟩
  ·exact⟨y8,Ho rfl e e2⟩
theorem tN (l:List (List UInt8)):bytesOf (l.map bAV)=some l:=by
 induction l with
 |nil=>rfl
 |cons a l ih=>exact bs rfl (bs ih rfl)
theorem BE (H:AH) (b:List UInt8) (h:b.length≤1000000):fH .split H (bAV b) [bAV [47]]=some (.lst ((ao 47 b).map bAV),H) :=
 bs (if_pos h) rfl
theorem BF (H:AH) (i:Nat) (l:List (List UInt8)) (hi:H[i]?=some (.list (l.map bAV))) (h:(l.map (·.length)).sum+l.length≤1000000):fH .bjoin H (bAV [47]) [.ref i]=some (bAV (bk [47] l),H):=by
 exact bs (bs (bB hi) (bs (tN l) (if_pos ⟨rfl,h⟩))) rfl
theorem Ix {H:AH} {a b:List UInt8} (h:a.length+b.length≤1000000):fF H .Add (bAV a) (bAV b)=some (bAV (a++b)):=(if_pos h).trans (congrArg (fun x=>some (AV.bytes x)) (List.append_toArray ..))
theorem Jz {C:ae} {f:BI} {a:XL} {V:VM} {H H1:AH} {x:AV} {b:Bool} (h:ev C (.bi f a) V H=some (x,H1)) (k:cG H1 x=some b):tv C (.bi f a) (ev C (.bi f a) V H) V H=some (b,H1):=bs h (bs k rfl)
theorem iOr {C:ae} {x y:X'} {r:XL} {V:VM} {H H1:AH} {a:AV} (h:ev C x V H=some (a,H1)) (k:cG H1 a=some true):ev C (.bool .Or (.cons x (.cons y r))) V H=some (a,H1):=bs h (bs k rfl)
theorem D9 (n:Nat) (b rest:List UInt8) (hb:b≠[]) (hl:b.length<1000000) (hr:rest.length≤1000000) (hsplit:∀ H,orc (n+2) 12 [bAV b] [] H=some (.tup [bAV [],bAV [47],bAV rest],H))
  (hc:∀ c∈ao 47 rest,c.length<1000000) (hcs:(ao 47 rest).length≤1000) (hs:(((ao 47 rest).foldl bJ []).map (·.length)).sum+((ao 47 rest).foldl bJ []).length≤1000000) (hs2:(bk [47] ((ao 47 rest).foldl bJ [])).length<999999) (H:AH) :
  orc (n+3) 14 [bAV b] [] H=some (bAV (47::bk [47] ((ao 47 rest).foldl bJ [])),H):=by
 obtain⟨y8,e⟩:=D8 (orc (n+2)) H (some (bAV rest)) (some (bAV [])) (some (.lst ((ao 47 rest).map bAV))) (ao 47 rest) [] none hc ((Nat.zero_add _).symm▸hcs) List.not_mem_nil
 have h3:=BF (H++[.list (((ao 47 rest).foldl bJ []).map bAV)]) H.length _ bt hs
 have h4:=BE H rest hr
 generalize (ao 47 rest).foldl bJ []=W at *
 generalize ao 47 rest=S at *
 generalize bk [47] W=J at *
 have hJ:[47].length+J.length<1000000:=Nat.add_comm ..▸Nat.succ_lt_succ hs2
 exact (rp ..).trans (wE (al (aH (aR rfl rfl (cU ..)) rfl)
  (al (iIf (Jz (iBi rfl rfl) rfl) (al (aH rfl rfl) (al (aH rfl rfl) (al (aH rfl rfl) rfl))))
  (al (iIf (nG (b:=true) (iTV rfl (DW hb hl))) rfl)
  (al (aH (aR rfl rfl (hsplit _)) rfl)
  (al (aH (di rfl rfl rfl h4) rfl)
  (al (aH F2 rfl)
  (al (tC rfl e)
  (al (aH rfl rfl)
  (al (aH (bo rfl (di rfl rfl rfl h3) (Ix (KW hJ))) rfl)
  (bY (fy (iOr rfl (DW (fun h=>nomatch h) (Nat.succ_lt_succ hs2)))))))))))))) rfl)
noncomputable def jn (p:Nat×List Nat):List UInt8:=joined (pz (aS p.1 p.2))
noncomputable def npc (p:Nat×List Nat):List (List UInt8):=ao 47 ((jn p).drop 1)
theorem yS:∀ p∈rE,(jn p≠[]∧(jn p).length<1000000∧((jn p).drop 1).length≤1000000)∧(∀ c∈npc p,c.length<1000000)∧(npc p).length≤1000∧(((npc p).foldl bJ []).map (·.length)).sum+((npc p).foldl bJ []).length≤1000000∧(bk [47] ((npc p).foldl bJ [])).length<999999:=by decide +kernel
theorem yT (H:AH) (f:Nat) (s:List Nat) (hf:f<6) (hs:s∈ba):fH .encode H (T (aS f s)) []=some (bAV (pz (aS f s)),H):=by
 obtain⟨h1,h2⟩:=od _ (da hf hs)
 simp only at h1 h2
 have h3:(aS f s).toArray.all (·<128)=true:=by
  refine rP Array.all_eq_true ?_;intro i hi
  have:=h2 _ (List.getElem_mem (l:=aS f s) (by simpa using hi))
  exact decide_eq_true (KQ this.2 (by decide))
 have h4:(aS f s).toArray.size≤1000000:=KW (Kd h1 (by decide))
 refine bs (p := .bytes (pz (aS f s)).toArray) ((if_pos (by refine rT (Bool.and_eq_true ..) ?_;exact⟨h3,decide_eq_true h4⟩)).trans (congrArg (fun x=>some (AV.bytes x)) ?_)) rfl
 simp [pz]
theorem Ea (n:Nat) (H:AH) {f:Nat} {s:List Nat} (hf:f<6) (hs:s∈ba):orc (n+2) 11 [bAV [47],bAV (pz (aS f s))] [] H=some (bAV (jn (f,s)),H):=by
 refine rT (Bp ..) ?_
 have h:=n5 (BA H) (da hf hs)
 exact c0 (tM n) _ _ _ _ _ (jP h rfl)
theorem rF (n:Nat) (H:AH) {f:Nat} {s:List Nat} (hf:f<6) (hs:s∈ba):orc (n+2) 12 [bAV (jn (f,s))] [] H=some (.tup [bAV [],bAV [47],bAV ((jn (f,s)).drop 1)],H):=by
 refine rT (pi ..) ?_
 have h:=n5 (yR H) (da hf hs)
 exact c0 (tM n) _ _ _ _ _ (jP h rfl)
theorem tO (n:Nat) (H:AH) {f:Nat} {s:List Nat} (hf:f<6) (hs:s∈ba):orc (n+3) 14 [bAV (jn (f,s))] [] H=some (pth s,H):=by
 obtain⟨⟨h1,h2,h3⟩,h4,h5,h6,h7⟩:=yS _ (da hf hs)
 refine rT (D9 n (jn (f,s)) _ h1 h2 h3 (fun H=>rF n H hf hs) h4 h5 h6 h7 H) ?_
 have:=BB _ (da hf hs)
 unfold jn
 exact rT this rfl
noncomputable abbrev F7:=Fin 7
structure Rk (g:F7→AV):Prop where
 lt:∀ a b,ltv (g a) (g b)=some (decide (a<b))
 nr:∀ a,noRef (g a)=true
noncomputable def hp (g:F7→AV) (H:AH) (i:Nat) (l:List F7):AH:=H.set i (.list (l.map g))
section
variable {g:F7→AV} {H:AH} {i:Nat} {l:List F7}
theorem rG:(hp g H i l).length=H.length:=by simp [hp]
theorem jh (hi:i<H.length):(hp g H i l)[i]?=some (.list (l.map g)):=by simp [hp,hi]
theorem vy {r:List F7}:(hp g H i l).set i (.list (r.map g))=hp g H i r:=by simp [hp]
theorem ma:(hp g H i l).take H.length=hp g H i l:=by rw [List.take_of_length_le];simp [hp]
theorem ji (hi:i<H.length) {k:Nat} (hk:k<l.length) (hl:l.length<1000000):fG (hp g H i l) (.ref i) (.int k)=some (g (l.getD k 0)):=by
 refine bs (bB (jh hi)) ?_
 show ((dX (l.map g).length k).bind ((l.map g)[·]?))=_
 refine rT (List.length_map ..) ?_;refine rT (nM hk hl) ?_
 show (l.map g)[k]?=_
 refine rT List.getElem?_map ?_;refine rT List.getD_eq_getElem?_getD ?_;refine rT (Ky hk) ?_;rfl
theorem og (rk:Rk g) (hi:i<H.length) {k:Nat} (hk:k<l.length) (hl:l.length<1000000) (y:F7):w6 (hp g H i l) (.ref i) (.int k) (g y)=some (hp g H i (l.set k y)):=by
 refine bs rfl (bs (il (jh hi)) ?_)
 show (if ((0≤(k:Int)∧(k:Int)<(l.map g).length)∧(l.map g).length≤1000000)∧noRef (g y)=true then some ((hp g H i l).set i (.list ((l.map g).set k (g y)))) else none)=_
 refine rT (List.length_map ..) ?_;refine rT (if_pos ⟨⟨⟨Int.natCast_nonneg _,Int.ofNat_lt.mpr hk⟩,KW hl⟩,rk.nr y⟩) ?_;refine rB List.map_set ?_;exact rT vy rfl
theorem Eb (rk:Rk g) (H:AH) (a b:F7):f9 H .Lt (g a) (g b)=some (decide (a<b)):=rk.lt a b
noncomputable def iT (x:F7) (start:Nat):Nat→List F7→Nat→List F7
 |0,l,p=>l.set p x
 |n+1,l,p=>if start<p then (if x<l.getD ((p-1) / 2) 0 then iT x start n (l.set p (l.getD ((p-1) / 2) 0)) ((p-1) / 2) else l.set p x) else l.set p x
theorem vz (H:AH) (a b:Nat):f9 H .Gt (.int a) (.int b)=some (decide (b<a)):=congrArg some (decide_eq_decide.mpr Int.ofNat_lt)
theorem rH (C:ae) (s p:Nat) (x0 x3 x4 x5:Option AV) (H:AH):tv C dt (ev C dt [x0,some (.int s),some (.int p),x3,x4,x5] H) [x0,some (.int s),some (.int p),x3,x4,x5] H=some (decide (s<p),H):=iTC rfl rfl (vz ..)
theorem BG {p:Nat} (h:0<p):(p:Int)-1=((p-1:Nat):Int):=(Int.natCast_sub h).symm
theorem wI {p:Nat} (h:0<p):(p-1) / 2<p:=KQ (Nat.div_le_self ..) (Nat.sub_lt h (by decide))
theorem Ec (rk:Rk g) (C:ae) (hi:i<H.length) (x:F7) (s k:Nat) (n:Nat):∀ (l:List F7) (p:Nat) (x4 x5:Option AV),p≤n→p<l.length→l.length<1000000 →
  ∃ (l':List F7) (p':Nat) (y4 y5:Option AV),bZ (fun V H=>tv C dt (ev C dt V H) V H) (exs C 20 pv) (k+(n+1)) [some (.ref i),some (.int s),some (.int p),some (g x),x4,x5] (hp g H i l)=some (.next,[some (.ref i),some (.int s),some (.int p'),some (g x),y4,y5],hp g H i l')∧l'.length=l.length∧p'<l.length∧l'.set p' x=iT x s n l p:=by
 induction n with
 |zero =>
  intro l p x4 x5 hn hp' hl
  exact⟨l,p,x4,x5,qe ((rH ..).trans (congrArg (fun b=>some (b,hp g H i l)) (decide_eq_false fun h=>absurd (KZ h hn) (Nat.not_lt_zero _)))),rfl,hp',rfl⟩
 |succ n ih =>
  intro l p x4 x5 hn hp' hl
  by_cases h:s<p
  ·have h0:0<p:=KQ (Nat.zero_le _) h
   have hq:(p-1) / 2<l.length:=Kd (wI h0) hp'
   have e1:fF (hp g H i l) .RShift (.int ((p:Int)-1)) (.int 1)=some (.int ((p-1) / 2:Nat)):=BG h0▸rfl
   have f1:=ji (g:=g) hi hq hl
   have f2:=og rk hi hp' hl (l.getD ((p-1) / 2) 0)
   have ht:=(rH C s p (some (.ref i)) (some (g x)) x4 x5 (hp g H i l)).trans (congrArg (fun b=>some (b,hp g H i l)) (decide_eq_true h))
   rewrite [iT];refine rT (if_pos h) ?_
   by_cases hx:x<l.getD ((p-1) / 2) 0
   ·obtain⟨l',p',y4,y5,e,k1,k2,k3⟩:=ih (l.set p (l.getD ((p-1) / 2) 0)) ((p-1) / 2) (some (.int ((p-1) / 2:Nat))) (some (g (l.getD ((p-1) / 2) 0))) (Nat.le_of_lt_succ (KZ (wI h0) hn)) (by refine rT List.length_set ?_;exact hq) (by refine rT List.length_set ?_;exact hl)
    rw [List.length_set] at k1 k2
    refine rT (if_pos hx) ?_
    exact⟨l',p',y4,y5,Hn ht (al (aH (bo (bo rfl rfl rfl) rfl e1) rfl) (al (aH (bF rfl rfl f1) rfl) (wD (iIf (iTC rfl rfl ((Eb rk ..).trans (dT hx))) (al (yD rfl rfl rfl f2) (al (aH rfl rfl) (wD rfl))))))) e,k1,k2,k3⟩
   ·refine rT (if_neg hx) ?_
    exact⟨l,p,some (.int ((p-1) / 2:Nat)),some (g (l.getD ((p-1) / 2) 0)),Jl ht (al (aH (bo (bo rfl rfl rfl) rfl e1) rfl) (al (aH (bF rfl rfl f1) rfl) (al (iIf (iTC rfl rfl ((Eb rk ..).trans (dF hx))) rfl) (FZ rfl)))),rfl,hp',rfl⟩
  ·rewrite [iT];refine rT (if_neg h) ?_
   exact⟨l,p,x4,x5,qe ((rH ..).trans (congrArg (fun b=>some (b,hp g H i l)) (decide_eq_false h))),rfl,hp',rfl⟩
theorem F8 (x:F7) (s:Nat):∀ (n:Nat) (l:List F7) (p:Nat),(iT x s n l p).length=l.length:=by
 intro n
 induction n with
 |zero=>exact fun l p=>List.length_set
 |succ n ih =>
  intro l p
  unfold iT
  split
  ·split
   ·refine rT (ih ..) ?_;exact rT List.length_set rfl
   ·exact List.length_set
  ·exact List.length_set
theorem lI (rk:Rk g) (n:Nat) (hi:i<H.length) (s p:Nat) (hp':p<l.length) (hl:l.length<20):orc (n+1) 7 [.ref i,.int s,.int p] [] (hp g H i l)=some (.none,hp g H i (iT (l.getD p 0) s p l p)):=by
 have hb:l.length<1000000:=Kd hl (by decide)
 obtain⟨l',p',y4,y5,e,k1,k2,k3⟩:=Ec rk (orc n) hi (l.getD p 0) s (20-(p+1)) p l p none none (KX _) hp' hb
 rw [Nat.sub_add_cancel (Nat.lt_trans hp' hl)] at e
 have f2:=og rk hi (k1▸k2) (k1▸hb) (l.getD p 0)
 rw [k3] at f2
 exact (rm ..).trans (nK (al (aH (bF rfl rfl (ji (g:=g) hi hp' hb)) rfl) (al (rC e) (al (yD rfl rfl rfl f2) rfl))) (by refine rT rG ?_;exact ma))
end
section
variable {g:F7→AV} {H:AH} {i:Nat} {l:List F7}
noncomputable def kid (l:List F7) (c:Nat):Nat:=if c+1<l.length∧¬ l.getD c 0<l.getD (c+1) 0 then c+1 else c
noncomputable def sup:Nat→List F7→Nat→Nat→List F7×Nat
 |0,l,p,_=>(l,p)
 |n+1,l,p,c=>if c<l.length then sup n (l.set p (l.getD (kid l c) 0)) (kid l c) (2*kid l c+1) else (l,p)
theorem rI (C:ae) (c e:Nat) (x0 x1 x3 x4 x6:Option AV) (H:AH):tv C eL (ev C eL [x0,x1,some (.int e),x3,x4,some (.int c),x6] H) [x0,x1,some (.int e),x3,x4,some (.int c),x6] H=some (decide (c<e),H):=iTC rfl rfl (nV ..)
theorem F9 {c:Nat} (h:c<l.length):kid l c<l.length:=by
 unfold kid;split
 ·next k=>exact k.1
 ·exact h
theorem Ga {c:Nat}:c≤kid l c:=by
 unfold kid;split
 ·exact Nat.le_succ _
 ·exact KX _
theorem Ed (rk:Rk g) (C:ae) (hi:i<H.length) (hl:l.length<1000000) {c e:Nat} (he:l.length=e) (hc:c<e) (x1 x3 x4:Option AV) :
  ex C 20 (.ite (.bool .And (.cons (.cmp (.v 6) (.cons .Lt (.v 2) .nil)) (.cons (.un .Not (.cmp (.sub (.v 0) (.v 5)) (.cons .Lt (.sub (.v 0) (.v 6)) .nil))) .nil))) (.cons (.asg (.name 5) (.v 6)) .nil) .nil) [some (.ref i),x1,some (.int e),x3,x4,some (.int c),some (.int ((c:Int)+1))] (hp g H i l)=some (.next,[some (.ref i),x1,some (.int e),x3,x4,some (.int (kid l c)),some (.int ((c:Int)+1))],hp g H i l):=by
 subst he
 have f1:=ji (g:=g) hi hc hl
 by_cases hr:c+1<l.length
 ·have f4:=ji (g:=g) hi hr hl
  by_cases hx:l.getD c 0<l.getD (c+1) 0
  ·rewrite [kid];refine rT (if_neg (fun k=>k.2 hx)) ?_
   exact iIf (iTB (nH (iTC rfl rfl ((nV _ (c+1) _).trans (dT hr))) (lF (nG (b:=true) (iTC (bF rfl rfl f1) (bF rfl rfl f4) ((Eb rk ..).trans (dT hx))))))) rfl
  ·rewrite [kid];refine rT (if_pos ⟨hr,hx⟩) ?_
   exact iIf (iTB (nH (iTC rfl rfl ((nV _ (c+1) _).trans (dT hr))) (nH (nG (b:=false) (iTC (bF rfl rfl f1) (bF rfl rfl f4) ((Eb rk ..).trans (dF hx)))) rfl))) (al (aH rfl rfl) rfl)
 ·rewrite [kid];refine rT (if_neg (fun k=>hr k.1)) ?_
  exact iIf (iTB (lF (iTC rfl rfl ((nV _ (c+1) _).trans (dF hr))))) rfl
theorem Ee (rk:Rk g) (C:ae) (hi:i<H.length) (x3 x4:Option AV) (e k:Nat) (n:Nat):∀ (l:List F7) (p c:Nat) (x6:Option AV),l.length=e→e≤n+c→p<l.length→l.length<1000000 →
  ∃ (c':Nat) (y6:Option AV),bZ (fun V H=>tv C eL (ev C eL V H) V H) (exs C 20 tF) (k+(n+1)) [some (.ref i),some (.int p),some (.int e),x3,x4,some (.int c),x6] (hp g H i l)=some (.next,[some (.ref i),some (.int (sup n l p c).2),some (.int e),x3,x4,some (.int c'),y6],hp g H i (sup n l p c).1)∧(sup n l p c).1.length=e∧(sup n l p c).2<e:=by
 induction n with
 |zero =>
  intro l p c x6 he hn hp' hl
  exact⟨c,x6,qe ((rI ..).trans (congrArg (fun b=>some (b,hp g H i l)) (decide_eq_false (Nat.not_lt_of_le (Nat.zero_add c▸hn))))),he,he▸hp'⟩
 |succ n ih =>
  intro l p c x6 he hn hp' hl
  by_cases h:c<e
  ·have hc:c<l.length:=he.symm▸h
   have hk:=F9 hc
   have hg:=Ga (l:=l) (c:=c)
   have f2:=og rk hi hp' hl (l.getD (kid l c) 0)
   rewrite [sup];refine rT (if_pos hc) ?_
   obtain⟨c',y6,k1,k2,k3⟩:=ih (l.set p (l.getD (kid l c) 0)) (kid l c) (2*kid l c+1) (some (.int ((c:Int)+1))) (by refine rT List.length_set ?_;exact he) (by lia) (by refine rT List.length_set ?_;exact hk) (by refine rT List.length_set ?_;exact hl)
   exact⟨c',y6,wGo ((rI ..).trans (congrArg (fun b=>some (b,hp g H i l)) (decide_eq_true h))) (al (aH (bo rfl rfl rfl) rfl) (al (Ed rk C hi hl he h ..) (al (yD (bF rfl rfl (ji hi hk hl)) rfl rfl f2) (al (aH rfl rfl) (al (aH (bo (bo rfl rfl (Hq (Kd (Kd hk hl) (by decide)))) rfl rfl) rfl) rfl))))) k1,k2,k3⟩
  ·rewrite [sup];refine rT (if_neg (fun k=>h (he▸k))) ?_
   exact⟨c,x6,qe ((rI ..).trans (congrArg (fun b=>some (b,hp g H i l)) (decide_eq_false h))),he,he▸hp'⟩
noncomputable def Ef (l:List F7):List F7 :=
 let q:=sup l.length l 0 1
 iT (l.getD 0 0) 0 q.2 (q.1.set q.2 (l.getD 0 0)) q.2
theorem BH (hi:i<H.length) (hl:l.length<1000000):abi (hp g H i l) .len [.ref i]=some (.int l.length):=by
 refine rT (DS (jh hi) (by rw [List.length_map];exact hl)) ?_;exact rT (List.length_map ..) rfl
theorem Eg {r:List F7} {k:Nat} {x:F7} (h:k<r.length):(r.set k x).getD k 0=x:=by
 refine rT List.getD_eq_getElem?_getD ?_;refine rT (List.getElem?_set_self h) ?_;rfl
theorem yU (rk:Rk g) (n:Nat) (hi:i<H.length) (h0:0<l.length) (hl:l.length<18):orc (n+2) 8 [.ref i,.int 0] [] (hp g H i l)=some (.none,hp g H i (Ef l)):=by
 have hb:l.length<1000000:=Kd hl (by decide)
 obtain⟨c',y6,e,k2,k3⟩:=Ee rk (orc (n+1)) hi (some (.int 0)) (some (g (l.getD 0 0))) l.length (20-(l.length+1)) l.length l 0 1 none rfl (Nat.le_succ _) h0 hb
 rw [Nat.sub_add_cancel (Nat.le_of_lt (Nat.lt_trans (Nat.succ_lt_succ hl) (by decide)))] at e
 unfold Ef
 show _=some (AV.none,hp g H i (iT (l.getD 0 0) 0 (sup l.length l 0 1).2 ((sup l.length l 0 1).1.set (sup l.length l 0 1).2 (l.getD 0 0)) (sup l.length l 0 1).2))
 generalize sup l.length l 0 1=q at *
 have h2:q.2<q.1.length:=k2.symm▸k3
 have f2:=og rk hi h2 (k2.symm▸hb) (l.getD 0 0)
 have f3:=lI (l:=q.1.set q.2 (l.getD 0 0)) rk n hi 0 q.2 (by refine rT List.length_set ?_;exact h2) (by refine rT List.length_set ?_;refine rT k2 ?_;exact Kd hl (by decide))
 rw [Eg h2] at f3
 exact (vn ..).trans (nK (al (aH (iBi rfl (BH hi hb)) rfl) (al (aH rfl rfl) (al (aH (bF rfl rfl (ji (g:=g) hi h0 hb)) rfl) (al (aH (bo (bo rfl rfl rfl) rfl rfl) rfl) (al (rC e) (al (yD rfl rfl rfl f2) (al (f0 (aR rfl rfl f3)) rfl))))))) (by refine rT rG ?_;exact ma))
noncomputable def dG (l:List F7) (x:F7):List F7:=iT x 0 l.length (l++[x]) l.length
theorem vA (hi:i<H.length):fU (hp g H i l) (.ref i)=true:=by rewrite [fU];exact rT (jh hi) rfl
theorem Gb (rk:Rk g) (hi:i<H.length) (hl:l.length<1000000) (x:F7):fH .append (hp g H i l) (.ref i) [g x]=some (.none,hp g H i (l++[x])):=by
 refine rT (vr (jh hi) (by rw [List.length_map];exact hl) (rk.nr x)) ?_
 show some (AV.none,(hp g H i l).set i (.list (l.map g++[x].map g)))=_
 refine rB List.map_append ?_;exact rT vy rfl
theorem tP (rk:Rk g) (n:Nat) (hi:i<H.length) (hl:l.length<18) (x:F7):orc (n+2) 5 [.ref i,g x] [] (hp g H i l)=some (.none,hp g H i (dG l x)):=by
 have hb:l.length+1<20:=Kd (Nat.succ_lt_succ hl) (by decide)
 have e:(l++[x]).length=l.length+1:=List.length_append
 have f3:=lI (l:=l++[x]) rk n hi 0 l.length (e.symm▸Nat.lt_succ_self _) (e.symm▸hb)
 have f4:(l++[x]).getD l.length 0=x:=by refine rT List.getD_eq_getElem?_getD ?_;refine rT List.getElem?_concat_length ?_;rfl
 rw [f4] at f3
 have f6:=BH (g:=g) (l:=l++[x]) hi (e.symm▸Kd hb (by decide))
 rw [e] at f6
 exact (rj ..).trans (nK (al (f0 (di rfl (vA hi) rfl (Gb rk hi (Kd hl (by decide)) x))) (al (f0 (aR (iL rfl (iL rfl (iL (bo (iBi rfl f6) rfl (show fF _ .Sub (.int ((l.length+1:Nat):Int)) (.int 1)=some (.int l.length) from congrArg (fun z=>some (AV.int z)) (Int.add_sub_cancel (l.length:Int) 1))) rfl))) rfl f3)) rfl)) (by refine rT rG ?_;exact ma))
noncomputable def eB (l:List F7):F7×List F7 :=
 let x:=l.getLastD 0
 let r:=l.dropLast
 if r=[] then (x,[]) else (r.getD 0 0,Ef (r.set 0 x))
theorem Gc (hi:i<H.length) (hl:l.length+1≤1000000) (x:F7):fH .pop (hp g H i (l++[x])) (.ref i) []=some (g x,hp g H i l):=by
 have e:=jh (g:=g) (l:=l++[x]) hi
 rw [List.map_append] at e
 refine rT (Bu e (by rw [List.length_append,List.length_map];exact hl)) ?_;exact rT vy rfl
theorem Iy (hi:i<H.length) (hl:l.length<1000000):cG (hp g H i l) (.ref i)=some (!(l.map g).isEmpty):=by
 exact Bv (jh hi) (by refine rT (List.length_map ..) ?_;exact hl)
theorem vB (rk:Rk g) (n:Nat) (hi:i<H.length) (h0:l≠[]) (hl:l.length<18):orc (n+3) 6 [.ref i] [] (hp g H i l)=some (g (eB l).1,hp g H i (eB l).2):=by
 obtain⟨r,x,rfl⟩:=(List.eq_nil_or_concat l).resolve_left h0
 rw [List.concat_eq_append] at *
 rw [List.length_append] at hl
 have hr:r.length<18:=Nat.lt_of_succ_lt hl
 have hb:r.length<1000000:=Kd hr (by decide)
 have f1:=Gc (g:=g) hi (Nat.succ_le_of_lt hb) x
 have f2:=Iy (g:=g) (l:=r) hi hb
 have ft:∀ w:List F7,(hp g H i w).take (hp g H i (r++[x])).length=hp g H i w:=fun w=>by refine rT rG ?_;exact ma
 cases r with
 |nil=>exact (lE ..).trans (tD (al (aH (di rfl (vA hi) rfl f1) rfl) (al (iIf (iTV rfl f2) rfl) (bY (fy rfl)))) (rk.nr x) (ft []))
 |cons y r =>
  have e:eB ((y::r)++[x])=(y,Ef (x::r)):=by
   rewrite [eB];refine rT List.dropLast_concat ?_;refine rT List.getLastD_concat ?_;rfl
  refine rT e ?_
  have f4:=og (l:=y::r) rk hi (Nat.succ_pos _) hb x
  have f6:=yU (l:=x::r) rk n hi (Nat.succ_pos _) hr
  exact (lE ..).trans (tD (al (aH (di rfl (vA hi) rfl f1) rfl) (bY (iIf (iTV rfl f2) (al (aH (bF rfl rfl (ji (g:=g) (l:=y::r) hi (Nat.succ_pos _) hb)) rfl) (al (yD rfl rfl rfl f4) (al (f0 (aR rfl rfl f6)) (bY (fy rfl)))))))) (rk.nr y) (ft _))
end
noncomputable def af:List F7:=[0,1,2,3,4,5,6]
theorem bd (x:F7):x∈af:=by revert x;decide
noncomputable def BJ (h:List F7) (x:F7):Bool:=!h.contains x&&(h.length==0||decide (h.getD ((h.length-1) / 2) 0<x))
noncomputable def cw:Nat→List (List F7)
 |0=>[[]]
 |k+1=>(cw k).flatMap fun h=>(af.filter (BJ h)).map fun x=>h++[x]
noncomputable def yV:Nat→List F7→Bool
 |0,l=>l.isEmpty
 |k+1,l=>BJ l.dropLast (l.getLastD 0)&&l.length==k+1&&yV k l.dropLast
theorem kU:∀ (k:Nat) (l:List F7),yV k l=true→l∈cw k
 |0,l,h=>by simp [yV] at h;subst h;simp [cw]
 |k+1,l,h=>by
  simp only [yV,Bool.and_eq_true,beq_iff_eq] at h
  obtain⟨⟨h1,h2⟩,h3⟩:=h
  obtain⟨r,x,e⟩:=(List.eq_nil_or_concat l).resolve_left (fun e=>by subst e;cases h2)
  rw [List.concat_eq_append] at e
  subst e
  simp at h1 h3
  refine List.mem_flatMap.mpr ⟨r,kU k r h3,List.mem_map.mpr ⟨x,List.mem_filter.mpr ⟨bd x,h1⟩,rfl⟩⟩
noncomputable def BK (k:Nat) (h:List F7):Bool:=af.all fun x=>h.contains x||(yV (k+1) (dG h x)&&af.all fun y=>(dG h x).contains y==(y==x||h.contains y))
noncomputable def BL (k:Nat) (h:List F7):Bool:=yV k (eB h).2&&af.all fun y=>(h.contains y==(y==(eB h).1||(eB h).2.contains y))&&(!(eB h).2.contains y||decide ((eB h).1<y))
set_option maxHeartbeats 4000000
theorem Gd:((List.range 7).all fun k=>(cw k).all (BK k))=true:=by decide +kernel
theorem Iz:((List.range 7).all fun k=>(cw (k+1)).all (BL k))=true:=by decide +kernel
theorem BM {k:Nat} (hk:k<7) {h:List F7} (hh:h∈cw k) {x:F7} (hx:x∉h):dG h x∈cw (k+1)∧∀ y,y∈dG h x↔y=x∨y∈h:=by
 have:BK k h=true:=Kc.mp (Kc.mp Gd k (List.mem_range.mpr hk)) h hh
 have:=Kc.mp this x (bd x)
 simp only [List.contains_eq_mem,decide_eq_false hx,Bool.false_or,Bool.and_eq_true] at this
 refine⟨kU _ _ this.1,fun y => ?_⟩
 have:=Kc.mp this.2 y (bd y)
 rw [beq_iff_eq,Bool.eq_iff_iff] at this
 simpa using this
theorem Eh {k:Nat} (hk:k<7) {h:List F7} (hh:h∈cw (k+1)):(eB h).2∈cw k∧(∀ y,y∈h↔y=(eB h).1∨y∈(eB h).2)∧∀ y∈(eB h).2,(eB h).1<y:=by
 have:BL k h=true:=Kc.mp (Kc.mp Iz k (List.mem_range.mpr hk)) h hh
 unfold BL at this
 rw [Bool.and_eq_true] at this
 refine⟨kU _ _ this.1,fun y => ?_,fun y hy => ?_⟩
 ·have:=Kc.mp this.2 y (bd y)
  rw [Bool.and_eq_true] at this
  have:=this.1
  rw [beq_iff_eq,Bool.eq_iff_iff] at this
  simpa using this
 ·have:=Kc.mp this.2 y (bd y)
  rw [Bool.and_eq_true] at this
  simpa [hy] using this.2
theorem kV:∀ (k:Nat) (l:List F7),l∈cw k→l.length=k
 |0,l,h=>by simp [cw] at h;simp [h]
 |k+1,l,h=>by
  obtain⟨r,hr,h⟩:=List.mem_flatMap.mp h
  obtain⟨x,hx,rfl⟩:=Kg.mp h
  simp [kV k r hr]
structure HSt (k:Nat) (h:List F7):Prop where
 hp:h∈cw (7-k)
 mem:∀ y:F7,y∈h↔k≤y.val
theorem HSt.pop {k:Nat} {h:List F7} (s:HSt k h) (hk:k<7):(eB h).1.val=k∧HSt (k+1) (eB h).2:=by
 have e:7-k=(7-(k+1))+1:=(Nat.sub_add_cancel (Nat.sub_pos_of_lt hk)).symm
 obtain⟨h1,h2,h3⟩:=Eh (k:=7-(k+1)) (KQ (Nat.sub_le_sub_left (Nat.succ_le_succ (Nat.zero_le k)) 7) (by decide)) (e▸s.hp)
 have m1:k≤(eB h).1.val:=(s.mem _).mp ((h2 _).mpr (.inl rfl))
 have m2:(eB h).1.val=k:=by
  rcases (h2 ⟨k,hk⟩).mp ((s.mem _).mpr (KX _)) with e|e
  ·rw [← e]
  ·exact absurd (h3 _ e) (Nat.not_lt.mpr m1)
 refine⟨m2,h1,fun y=>⟨fun hy => ?_,fun hy => ?_⟩⟩
 ·exact KQ (Kh m2.symm) (h3 _ hy)
 ·rcases (h2 y).mp ((s.mem y).mpr (Nat.le_of_succ_le hy)) with e|e
  ·exact absurd hy (Nat.not_le.mpr (Nat.lt_succ_of_le (Kh ((congrArg Fin.val e).trans m2))))
  ·exact e
theorem qj:∀ (l:List F7) (k:Nat) (h:List F7),h∈cw k→k+l.length≤7→l.Nodup→(∀ x∈l,x∉h)→l.foldl dG h∈cw (k+l.length)∧∀ y,y∈l.foldl dG h↔y∈l∨y∈h
 |[],k,h,hh,_,_,_=>⟨hh,fun y=>by simp⟩
 |x::l,k,h,hh,hk,hn,hx=>by
  obtain⟨h1,h2⟩:=BM (k:=k) (KZ (Nat.lt_add_of_pos_right (Nat.succ_pos _)) hk) hh (hx x (by simp))
  rw [List.nodup_cons] at hn
  obtain⟨h3,h4⟩:=qj l (k+1) (dG h x) h1 (Kv (Kh (Kb k 1 l.length)) hk) hn.2 (fun z hz=>by
   rw [h2];rintro (rfl|e)
   ·exact hn.1 hz
   ·exact hx z (by simp [hz]) e)
  refine⟨by rw [List.foldl_cons,List.length_cons,← Nat.add_assoc,Nat.add_right_comm];exact h3,fun y => ?_⟩
  rw [List.foldl_cons,h4,h2,List.mem_cons]
  constructor
  ·rintro (e|e|e)
   ·exact .inl (.inr e)
   ·exact .inl (.inl e)
   ·exact .inr e
  ·rintro ((e|e)|e)
   ·exact .inr (.inl e)
   ·exact .inl e
   ·exact .inr (.inr e)
theorem vC (l:List F7) (hl:l.length=7) (hn:l.Nodup) (hm:∀ y,y∈l):HSt 0 (l.foldl dG []):=by
 obtain⟨h1,h2⟩:=qj l 0 [] (by simp [cw]) (Kh ((Nat.zero_add _).trans hl)) hn (fun _ _ h=>by cases h)
 exact⟨by rw [hl] at h1;exact h1,fun y=>by rw [h2];simp [hm]⟩
noncomputable abbrev qk (C:ae) (t:Tgt) (ifs:XL) (elt:X'):=gh (bU C ifs) (ev C elt) t fun _=>true
theorem wJ {C:ae} {cp:List (Option Nat)} {t:Tgt} {it:IT} {ifs:XL} {elt:X'} {V:VM} {H:AH} {l r:List AV} (h1:evI C it V H=some (l,H)) (hl:l.length≤1000) (hc:compLoop (qk C t ifs elt) l (dB V cp) H=some (r,H)):ev C (.lc cp t it ifs elt) V H=some (.lst r,H) :=
 bs h1 (bc (c:=Nat.ble l.length 1000) (Nat.ble_eq.mpr hl) (bs hc rfl))
theorem tQ {C:ae} {t:Tgt} {ifs:XL} {elt:X'} {a:AV} {V V1:VM} {H H1:AH} (h:gg V t a=some V1) (k:bU C ifs V1 H=some (false,H1)):qk C t ifs elt a V H=some (none,V1,H1):=bs h (bs k rfl)
theorem wK {C:ae} {t:Tgt} {ifs:XL} {elt:X'} {a v:AV} {V V1:VM} {H H1 H2:AH} (h:gg V t a=some V1) (k:bU C ifs V1 H=some (true,H1)) (e:ev C elt V1 H1=some (v,H2)):qk C t ifs elt a V H=some (some v,V1,H2):=bs h (bs k (bs e rfl))
theorem tR {f:AV→VM→AH→Option (Option AV×VM×AH)} {a:AV} {l r:List AV} {V V1:VM} {H H1 H2:AH} (h:f a V H=some (none,V1,H1)) (k:compLoop f l V1 H1=some (r,H2)):compLoop f (a::l) V H=some (r,H2):=bs h (bs k rfl)
theorem wL {f:AV→VM→AH→Option (Option AV×VM×AH)} {a v:AV} {l r:List AV} {V V1:VM} {H H1 H2:AH} (h:f a V H=some (some v,V1,H1)) (k:compLoop f l V1 H1=some (r,H2)):compLoop f (a::l) V H=some (v::r,H2):=bs h (bs k rfl)
theorem yW {C:ae} {x:X'} {V:VM} {H H1:AH} {b:Bool} (h:tv C x (ev C x V H) V H=some (b,H1)):bU C (.cons x .nil) V H=some (b,H1):=bs h (by cases b<;>rfl)
section
variable {C:ae} {H:AH} {V:VM} {cp:List (Option Nat)}
theorem BN {f:AV→VM→AH→Option (Option AV×VM×AH)} {h:AV→Option AV} (Inv:VM→Prop) {l:List AV} (hf:∀ a∈l,∀ V,Inv V→∃ V1,Inv V1∧f a V H=some (h a,V1,H)):∀ V,Inv V→compLoop f l V H=some (l.filterMap h,H):=by
 induction l with
 |nil=>exact fun _ _=>rfl
 |cons a l ih =>
  intro V hi
  obtain⟨V1,h1,e⟩:=hf a Ka V hi
  have ih:=ih (fun b hb=>hf b (List.mem_cons_of_mem _ hb)) V1 h1
  cases h2:h a with
  |none=>refine rT (List.filterMap_cons_none h2) ?_;exact tR (h2▸e) ih
  |some v=>refine rT (List.filterMap_cons_some h2) ?_;exact wL (h2▸e) ih
theorem Ge {t:Tgt} {it:IT} {ifs:XL} {elt:X'} {l:List AV} {h:AV→Option AV} (Inv:VM→Prop) (h1:evI C it V H=some (l,H)) (hl:l.length≤1000) (h0:Inv (dB V cp))
  (hs:∀ a∈l,∀ V,Inv V→∃ V1,gg V t a=some V1∧Inv V1∧((bU C ifs V1 H=some (false,H)∧h a=none)∨(bU C ifs V1 H=some (true,H)∧∃ v,ev C elt V1 H=some (v,H)∧h a=some v))) :
  ev C (.lc cp t it ifs elt) V H=some (.lst (l.filterMap h),H) :=
 wJ h1 hl (BN Inv (fun a ha V hv=>by
  obtain⟨V1,e1,i1,e2⟩:=hs a ha V hv
  refine⟨V1,i1,?_⟩
  rcases e2 with ⟨e2,e3⟩|⟨e2,v,e3,e4⟩
  ·refine rT e3 ?_;exact tQ e1 e2
  ·refine rT e4 ?_;exact wK e1 e2 e3) _ h0)
theorem et {i:Nat} {it:IT} {elt:X'} {l:List AV} (h:AV→AV) (h1:evI C it V H=some (l,H)) (hl:l.length≤1000)
  (hs:∀ a∈l,ev C elt ((dB V cp).set i (some a)) H=some (h a,H)):ev C (.lc cp (.name i) it .nil elt) V H=some (.lst (l.map h),H):=by
 refine rB List.filterMap_eq_map ?_
 refine Ge (fun V'=>∀ x,V'.set i (some x)=(dB V cp).set i (some x)) h1 hl (fun _=>rfl) fun a ha V' hv=>⟨(dB V cp).set i (some a),congrArg some (hv a),fun x=>List.set_set ..,.inr ⟨rfl,_,hs a ha,rfl⟩⟩
end
section
variable {C:ae} {N:Nat} {r:SL} {V:VM} {H H':AH} {v:AV}
theorem bS {i:Nat} {x:X'} (h:ev C x V H=some (v,H')):exs C N (.cons (.asg (.name i) x) r) V H=exs C N r (V.set i (some v)) H':=al (aH h rfl) rfl
theorem Ei {x:X'} (h:ev C x V H=some (v,H')):exs C N (.cons (.ret x) r) V H=some (.ret v,V,H'):=bY (fy h)
theorem wM {t:X'} {a:SL} (h:tv C t (ev C t V H) V H=some (false,H')):exs C N (.cons (.ite t a .nil) r) V H=exs C N r V H':=al (iIf h rfl) rfl
theorem vD {b:SL} {V':VM} {E:AH} (h:exs C N b V H=some (.ret v,V',H++E)) (hn:noRef v=true):ah C N b V H=some (v,H):=by
 rewrite [ah];refine rT h ?_;show (freeze H.length (H++E) v).map (·,(H++E).take H.length)=_
 refine rT (cR hn) ?_;refine rT List.take_left ?_;rfl
end
theorem jj (n:Nat) (d:Nat) (hd:d<7) (H:AH):orc (n+1) 19 [.int d] [] H=some (T [48,48,48,48+d],H) :=
 have e:fG H (.str ⟨#[48,49,50,51,52,53,54]⟩) (.int d)=some (.str ⟨#[48+d]⟩):=yE (fun d=>fG H (.str ⟨#[48,49,50,51,52,53,54]⟩) (.int d)=some (.str ⟨#[48+d]⟩)) hd rfl rfl rfl rfl rfl rfl rfl
 (l6 ..).trans (bj (V':=_) (bY (fy (bo rfl (bF rfl rfl e) rfl))) rfl)
theorem BO:az 0 7=[.int 0,.int 1,.int 2,.int 3,.int 4,.int 5,.int 6]:=rfl
theorem Ej:az 1 7=[.int 1,.int 2,.int 3,.int 4,.int 5,.int 6]:=rfl
noncomputable def df (l:List Int):List AV:=l.map .int
theorem oh (l:List Int):bE (df l)=some l:=by
 induction l with
 |nil=>rfl
 |cons a l ih=>exact bs rfl (bs ih rfl)
theorem ol (n:Nat) (l:List Int):∀ (k:Nat),∃ r,b4 n k (df l)=df r:=by
 induction l with
 |nil=>exact fun k=>⟨[],by cases k<;>rfl⟩
 |cons a l ih =>
  intro k
  cases k with
  |zero=>obtain⟨r,e⟩:=ih (n-1);exact⟨a::r,congrArg (AV.int a::·) e⟩
  |succ k=>exact ih k
theorem vE {a:AV} {n:Nat} (h:a∈az 0 n):∃ k:Nat,k<n∧a = .int k:=by
 obtain⟨k,hk,rfl⟩:=Kg.mp h
 exact⟨k,List.mem_range.mp hk,congrArg AV.int (Int.zero_add _)⟩
theorem vF {a:AV} (h:a∈az 1 7):∃ k:Nat,1≤k∧k<7∧a = .int k:=by
 obtain⟨k,hk,rfl⟩:=Kg.mp h
 exact⟨k+1,Nat.succ_pos _,Nat.succ_lt_succ (List.mem_range.mp hk),congrArg AV.int (Int.add_comm ..)⟩
theorem gT {H:AH} {i:Nat} {l:List AV} {k:Nat} (hi:H[i]?=some (.list l)) (hk:k<l.length) (hl:l.length<1000000):fG H (.ref i) (.int k)=some (l[k]):=by
 exact bs (bB hi) (bs (nM hk hl) (Ky hk))
theorem BP (H:AH) (l:List Int):abi H .sum [.lst (df l)]=some (.int l.sum):=bs (oh l) rfl
theorem vG (n:Nat) (s:List Int) (hs:s.length<1000) (H:AH):∃ N:Nat→Int,orc (n+1) 16 [.lst (df s)] [] H=some (.lst [.int (N 0),.int (N 1),.int (N 2),.int (N 3),.int (N 4),.int (N 5),.int (N 6)],H):=by
 let r:Nat→List Int:=fun k=>(ol 7 s k).choose
 have hr:∀ k,b4 7 k (df s)=df (r k):=fun k=>(ol 7 s k).choose_spec
 let st:List Int:=[18,6,61,50,74,100,11]
 refine⟨fun k=>st.getD k 0+(r k).sum,?_⟩
 have key:∀ (k:Nat) (x:Option AV),k<7→ev (orc n) fA [x,some (.int k),some (.lst (df s)),some (.ref H.length)] (H++[.list (df st)])=some (.int (st.getD k 0+(r k).sum),H++[.list (df st)]):=by
  intro k x hk
  have e1:fG (H++[.list (df st)]) (.ref H.length) (.int k)=some (.int (st.getD k 0)) :=
   (gT bt hk (by decide)).trans (yE (fun k=>∀ h:k<7,some ((df st)[k]'h)=some (.int (st.getD k 0))) hk (fun _=>rfl) (fun _=>rfl) (fun _=>rfl) (fun _=>rfl) (fun _=>rfl) (fun _=>rfl) (fun _=>rfl) hk)
  have hl:(df s).length≤1000000:=by rewrite [df];refine rT (List.length_map ..) ?_;exact KW (Kd hs (by decide))
  have e2:cg (.lst (df s)) (some (.int k)) none (some (.int 7))=some (.lst (df (r k))) :=
   (if_pos ⟨Int.natCast_nonneg k,hl⟩).trans (congrArg (fun z=>some (AV.lst z)) (hr k))
  exact bo (bF rfl rfl e1) (iBi (iL (iSl rfl (l7 rfl) rfl (l7 rfl) e2) rfl) (BP ..)) rfl
 have hl:=et (C:=orc n) (H:=H++[.list (df st)]) (V:=[some (.lst (df s)),some (.ref H.length)]) (cp:=[none,none,some 0,some 1]) (i:=1) (it := .range (.cons (.c (.int 7)) .nil)) (elt:=fA) (l:=az 0 7) (fun a=>(aK a).elim a fun k => .int (st.getD k.1.toNat 0+(r k.1.toNat).sum)) rfl (by decide) (by
  intro a ha
  obtain⟨k,hk,rfl⟩:=vE ha
  exact key k none hk)
 rw [BO] at hl
 exact (lY ..).trans (vD (E:=[.list (df st)]) (V':=_) (al (aH rfl rfl) (bY (fy hl))) rfl)
noncomputable def abv (N:Nat→Int) (k:Nat):Nat:=(N k % k).toNat
theorem Gf (N:Nat→Int) {k:Nat} (h:1≤k):abv N k<k:=by
 unfold abv
 have:=Int.emod_lt_of_pos (N k) (show (0:Int)<k by lia)
 have:=Int.emod_nonneg (N k) (show (k:Int)≠0 by lia)
 lia
noncomputable abbrev aB (f:Nat→AV):AV := .lst [f 0,f 1,f 2,f 3,f 4,f 5,f 6]
theorem f7 (H:AH) (f:Nat→AV) {k:Nat} (hk:k<7):fG H (aB f) (.int k)=some (f k) :=
 yE (fun k=>fG H (aB f) (.int k)=some (f k)) hk rfl rfl rfl rfl rfl rfl rfl
theorem mod_int (H:AH) (a:Int) {b:Int} (h:0<b):fF H .Mod (.int a) (.int b)=some (.int (a % b)):=if_pos h
theorem BQ {H:AH} {a b:List AV} (h:a.length+b.length≤1000000):fF (H++[.list a]) .Add (.ref H.length) (.lst b)=some (.lst (a++b)):=by
 exact bs (bB bt) (if_pos h)
theorem BR (n:Nat) (N:Nat→Int) (H:AH):orc (n+1) 17 [aB fun k => .int (N k)] [] H=some (aB fun k => .int (if k=0 then 0 else abv N k),H):=by
 have key:∀ (k:Nat) (H1:AH) (x:Option AV),1≤k→k<7→ev (orc n) gR [x,some (.int k),some (aB fun k => .int (N k))] H1=some (.int (abv N k),H1):=by
  intro k H1 x h1 hk
  have h0:(0:Int)<k:=Int.ofNat_lt.mpr h1
  have e2:N k % k=((abv N k:Nat):Int):=(Int.toNat_of_nonneg (Int.emod_nonneg (N k) (Int.ne_of_gt h0))).symm
  refine rB e2 ?_
  exact bo (bF rfl rfl (f7 H1 (fun k => .int (N k)) hk)) rfl (mod_int H1 _ h0)
 have hl:=et (C:=orc n) (H:=H++[.list [.int 0]]) (V:=[some (aB fun k => .int (N k))]) (cp:=[none,none,some 0]) (i:=1) (it := .range (.cons (.c (.int 1)) (.cons (.c (.int 7)) .nil))) (elt:=gR) (l:=az 1 7) (fun a=>(aK a).elim a fun k => .int (abv N k.1.toNat)) rfl (by decide) (by
  intro a ha
  obtain⟨k,h1,hk,rfl⟩:=vF ha
  exact key k _ none h1 hk)
 rw [Ej] at hl
 exact (pj ..).trans (vD (E:=[.list [.int 0]]) (V':=_) (bY (fy (bo rfl hl (BQ (Lj rfl))))) rfl)
noncomputable def chs (A:Nat→Nat):Nat→List (List Nat)
 |0=>[[]]
 |k+1=>chs A k++[(chs A k).getD (A (k+1)) []++[k+1]]
theorem dv (A:Nat→Nat):∀ k,(chs A k).length=k+1
 |0=>rfl
 |k+1=>List.length_append.trans (congrArg (·+1) (dv A k))
theorem BS:∀ s∈ba,∀ k∈[1,2,3,4,5,6],(s.all fun x=>decide (x<k))=true→s++[k]∈ba:=by decide +kernel
theorem wN:([]:List Nat)∈ba:=by decide +kernel
theorem im (A:Nat→Nat) (k:Nat):k<7→∀ c∈chs A k,c∈ba∧∀ x∈c,x≤k:=by
 induction k with
 |zero =>
  intro _ c hc
  refine rT (Ke.mp hc) ?_
  exact⟨wN,fun _ h=>nomatch h⟩
 |succ k ih =>
  intro hk c hc
  have hk':k<7:=Nat.lt_of_succ_lt hk
  rw [chs,List.mem_append] at hc
  rcases hc with hc|hc
  ·obtain⟨h1,h2⟩:=ih hk' c hc
   exact⟨h1,fun x hx=>Nat.le_succ_of_le (h2 x hx)⟩
  ·refine rT (Ke.mp hc) ?_
   have:(chs A k).getD (A (k+1)) []∈ba∧∀ x∈(chs A k).getD (A (k+1)) [],x≤k:=by
    refine rT List.getD_eq_getElem?_getD ?_
    by_cases h:A (k+1)<(chs A k).length
    ·refine rT (Ky h) ?_
     exact ih hk' _ (List.getElem_mem h)
    ·refine rT (List.getElem?_eq_none (Nat.le_of_not_lt h)) ?_
     exact⟨wN,fun _ h=>nomatch h⟩
   refine⟨BS _ this.1 (k+1) ((by decide:∀ k:Fin 6,k.1+1∈[1,2,3,4,5,6]) ⟨k,Nat.lt_of_succ_lt_succ hk⟩) (List.all_eq_true.mpr fun x hx=>decide_eq_true (Nat.lt_succ_of_le (this.2 x hx))),fun x hx => ?_⟩
   rcases List.mem_append.mp hx with hx|hx
   ·exact Nat.le_succ_of_le (this.2 x hx)
   ·refine rT (Ke.mp hx) ?_;exact KX _
theorem ql:∀ s∈ba,(fC s).length<50:=by decide +kernel
theorem vH (c:List Nat) (k:Nat):fC (c++[k])=fC c++(47::qi k):=by simp [fC]
noncomputable abbrev pT (c:List Nat):AV:=T (fC c)
section
variable {H:AH} {a b:AO} {J:AH}
theorem tS:(H++a::b::J)[H.length]?=some a:=by refine rT (List.getElem?_append_right (KX _)) ?_;refine rT (Nat.sub_self ..) ?_;rfl
theorem qm:(H++a::b::J)[H.length+1]?=some b:=by
 refine rT (List.getElem?_append_right (Kf _ 1)) ?_;refine rT (Nat.add_sub_cancel_left ..) ?_;rfl
theorem tT {x:AO}:(H++a::b::J).set H.length x=H++x::b::J:=by refine rT (List.set_append_right _ _ (KX _)) ?_;refine rT (Nat.sub_self ..) ?_;rfl
theorem tU {x:AO}:(H++a::b::J).set (H.length+1) x=H++a::x::J:=by
 refine rT (List.set_append_right _ _ (Kf _ 1)) ?_;refine rT (Nat.add_sub_cancel_left ..) ?_;rfl
theorem wO {x:AO}:(H++a::b::J)++[x]=H++a::b::(J++[x]):=List.append_assoc ..
end
theorem om {H:AH} {i:Nat} {l:List AV} (hi:H[i]?=some (.list l)):fU H (.ref i)=true:=by rewrite [fU];exact rT hi rfl
theorem vI {H:AH} {i:Nat} {l:List AV} (x:AV) (hi:H[i]?=some (.list l)) (hl:l.length<1000000) (hx:noRef x=true):fH .append H (.ref i) [x]=some (.none,H.set i (.list (l++[x]))) :=  vr hi hl hx
theorem add_str (H:AH) (a b:List Nat) (h:a.length+b.length≤1000000):fF H .Add (T a) (T b)=some (T (a++b)):=(if_pos h).trans (congrArg (fun z=>some (AV.str ⟨z⟩)) (List.append_toArray ..))
theorem tV {a b:List Nat} {m k:Nat} (h:a.length≤m) (hb:b.length≤k):(a++b).length≤m+k:=Kv (Kh List.length_append) (Nat.add_le_add h hb)
theorem fR (H:AH) (a b:List Nat) {m k:Nat} (h:a.length≤m) (hb:b.length≤k) (e:Nat.ble (m+k) 1000000=true):fF H .Add (T a) (T b)=some (T (a++b)):=add_str H a b (Kv (Nat.add_le_add h hb) (Lj e))
theorem Gg {P:Nat→Prop} (h0:P 0) (h1:P 1) (h2:P 2) (h3:P 3) (h4:P 4) (h5:P 5) (h6:P 6):∀ {k:Nat},k<7→P k
 |0,_=>h0
 |1,_=>h1
 |2,_=>h2
 |3,_=>h3
 |4,_=>h4
 |5,_=>h5
 |6,_=>h6
 |k+7,h=>absurd h (Nat.not_lt.mpr (Nat.le_add_left 7 k))
theorem tW (l:List Nat) (k:Nat) (h:l.length≤1000000):cg (T l) none (some (.int k)) none=some (T (l.take k)):=gQ h rfl rfl (if_pos (e:=none) (Int.natCast_nonneg k))
theorem on (l:List Nat) (k:Nat) (h:l.length≤1000000):cg (T l) (some (.int k)) none none=some (T (l.drop k)):=gQ h rfl rfl (if_pos (e:=none) (Int.natCast_nonneg k))
noncomputable def gU:List AV:=(List.range 6).map fun f=>T (n9 f)
theorem yX {f:Nat} (h:f<6):gU[f]'h=T (n9 f):=(List.getElem_map ..).trans (congrArg (fun f=>T (n9 f)) (List.getElem_range _))
theorem yY (f:Nat):(n9 f).length<10 :=
 match f with
 |0|1|2|3|4=>by decide
 |_+5=>(by decide:[46,46,47].length<10)
noncomputable def frm (N:Nat→Int) (k:Nat):Nat:=(N k / 18 % 6).toNat
theorem kW (N:Nat→Int) (k:Nat):frm N k<6:=(Int.toNat_lt (Int.emod_nonneg _ (by decide))).mpr (Int.emod_lt_of_pos _ (by decide))
noncomputable def grow (A:Nat→Nat) (k:Nat) (cl:List (List Nat)):List (List Nat):=if k=0 then cl else cl++[cl.getD (A k) []++[k]]
theorem BU (C:ae) (H J:AH) (N:Nat→Int) (A:Nat→Nat) (k:Nat) (hk:k<7) (hA:0<k→A k<k) (cl:List (List Nat)) (hcl:cl.length=max k 1) (hm:∀ c∈cl,c∈ba) (hm2:∀ c∈grow A k cl,c∈ba) (ss:List AV) (hss:ss.length<1000) (x5:Option AV) :
  ∃ y5 J',exs C 20 fB [some (aB fun k => .int (N k)),some (aB fun k => .int (A k)),some (.ref H.length),some (.ref (H.length+1)),some (.int k),x5] (H ++ .list (cl.map pT) :: .list ss::J)=some (.next,[some (aB fun k => .int (N k)),some (aB fun k => .int (A k)),some (.ref H.length),some (.ref (H.length+1)),some (.int k),y5],H ++ .list ((grow A k cl).map pT) :: .list (ss++[T (aS (frm N k) ((grow A k cl).getD k []))])::J'):=by
 have hcl7:cl.length≤7:=hcl▸Nat.max_le.mpr ⟨KW hk,by decide⟩
 have hb:cl.length<1000000:=KQ hcl7 (by decide)
 have part1:∃ V1,ex C 20 (.ite (.cmp (.v 4) (.cons .Gt (.c (.int (0))) .nil)) (.cons (.expr (.meth .append (.v 2) (.cons (.bin .Add (.bin .Add (.sub (.v 2) (.sub (.v 1) (.v 4))) (.c (.str ⟨#[47]⟩))) (.sl (.c (.str ⟨#[97,98,99,100,101,102]⟩)) .no (.yes (.v 4)) .no)) .nil))) .nil) .nil) [some (aB fun k => .int (N k)),some (aB fun k => .int (A k)),some (.ref H.length),some (.ref (H.length+1)),some (.int k),x5] (H ++ .list (cl.map pT) :: .list ss::J)=some (.next,V1,H ++ .list ((grow A k cl).map pT) :: .list ss::J)∧V1=[some (aB fun k => .int (N k)),some (aB fun k => .int (A k)),some (.ref H.length),some (.ref (H.length+1)),some (.int k),x5]:=by
  refine⟨_,?_,rfl⟩
  by_cases h:0<k
  ·have hl:A k<cl.length:=by refine rT hcl ?_;refine rT (Nat.max_eq_left h) ?_;exact hA h
   have e2:=gT (H:=H ++ .list (cl.map pT) :: .list ss::J) (l:=cl.map pT) (k:=A k) tS (by refine rT (List.length_map ..) ?_;exact hl) (by refine rT (List.length_map ..) ?_;exact hb)
   have e3:(cl.map pT)[A k]'(by refine rT (List.length_map ..) ?_;exact hl)=pT (cl.getD (A k) []):=by refine rT (List.getElem_map ..) ?_;refine rT List.getD_eq_getElem?_getD ?_;refine rT (Ky hl) ?_;rfl
   rw [e3] at e2
   have hin:cl.getD (A k) []∈cl:=by refine rT List.getD_eq_getElem?_getD ?_;refine rT (Ky hl) ?_;exact List.getElem_mem hl
   have e8:(grow A k cl).map pT=cl.map pT++[T (fC (cl.getD (A k) [])++[47]++qi k)]:=by
    rewrite [grow];refine rT (if_neg (Nat.ne_of_gt h)) ?_;refine rT List.map_append ?_;refine rT (List.append_assoc ..) ?_
    exact congrArg (fun z=>cl.map pT++[T z]) (vH ..)
   refine rT e8 ?_
   generalize cl.getD (A k) []=c at *
   have hlen:=ql _ (hm _ hin)
   have hc:(qi k).length≤6:=List.length_take_le' ..
   have e4:=fR (H ++ .list (cl.map pT) :: .list ss::J) (fC c) [47] (KW hlen) (KX _) rfl
   have e5:=fR (H ++ .list (cl.map pT) :: .list ss::J) (fC c++[47]) (qi k) (tV (KW hlen) (KX _)) hc rfl
   have e7:=vI (H:=H ++ .list (cl.map pT) :: .list ss::J) (T (fC c++[47]++qi k)) tS (by refine rT (List.length_map ..) ?_;exact hb) rfl
   rw [tT] at e7
   exact iIf (iTC rfl rfl ((vz _ k 0).trans (dT h))) (al (f0 (di rfl (om tS) (iL (bo (bo (bF rfl (bF rfl rfl (f7 _ (fun k => .int (A k)) hk)) e2) rfl e4) (iSl rfl rfl (l7 rfl) rfl (tW [97,98,99,100,101,102] k (by decide))) e5) rfl) e7)) rfl)
  ·rewrite [grow];refine rT (if_pos (Nat.eq_zero_of_not_pos h)) ?_
   exact iIf (iTC rfl rfl ((vz _ k 0).trans (dF h))) rfl
 obtain⟨_,part1,rfl⟩:=part1
 have hg:k<(grow A k cl).length:=by
  unfold grow;split
  ·next e=>refine rT hcl ?_;refine rT e ?_;decide
  ·next e=>refine rT List.length_append ?_;refine rT hcl ?_;refine rT (Nat.max_eq_left (Nat.pos_of_ne_zero e)) ?_;exact Nat.lt_succ_self _
 have hgl:(grow A k cl).length<1000000:=by
  unfold grow;split
  ·exact hb
  ·refine rT List.length_append ?_;exact KQ (Nat.succ_le_succ hcl7) (by decide)
 generalize hG:grow A k cl=G at *
 have hin:G.getD k []∈G:=by refine rT List.getD_eq_getElem?_getD ?_;refine rT (Ky hg) ?_;exact List.getElem_mem hg
 have hlen:=ql _ (hm2 _ hin)
 have hlen2:=yY (frm N k)
 have f1:=gT (H:=(H ++ .list (G.map pT) :: .list ss::J)++[.list gU]) (i:=(H ++ .list (G.map pT) :: .list ss::J).length) (l:=gU) (k:=frm N k) bt (kW N k) (by decide)
 rw [yX (kW N k),wO,show ((frm N k:Nat):Int)=N k / 18 % 6 from Int.toNat_of_nonneg (Int.emod_nonneg _ (by decide))] at f1
 have g1:=gT (H:=H ++ .list (G.map pT) :: .list ss::(J++[.list gU])) (l:=G.map pT) (k:=k) tS (by refine rT (List.length_map ..) ?_;exact hg) (by refine rT (List.length_map ..) ?_;exact hgl)
 have g2:(G.map pT)[k]'(by refine rT (List.length_map ..) ?_;exact hg)=pT (G.getD k []):=by refine rT (List.getElem_map ..) ?_;refine rT List.getD_eq_getElem?_getD ?_;refine rT (Ky hg) ?_;rfl
 rw [g2] at g1
 generalize G.getD k []=c at *
 have g3:cg (pT c) (some (.int 1)) none none=some (T ((fC c).drop 1)):=on _ 1 (KW (Kd hlen (by decide)))
 have g4:=fR (H ++ .list (G.map pT) :: .list ss::(J++[.list gU])) (n9 (frm N k)) ((fC c).drop 1) (KW hlen2) (Kv (Kh List.length_drop) (Kv (Nat.sub_le _ _) (KW hlen))) rfl
 have g5:=vI (H:=H ++ .list (G.map pT) :: .list ss::(J++[.list gU])) (T (n9 (frm N k)++(fC c).drop 1)) qm (Kd hss (by decide)) rfl
 rw [tU] at g5
 have s5:ev C (.lst (.cons (.c (.str ⟨#[47]⟩)) (.cons (.c (.str ⟨#[]⟩)) (.cons (.c (.str ⟨#[47,46,47]⟩)) (.cons (.c (.str ⟨#[47,122,47,46,46,47]⟩)) (.cons (.c (.str ⟨#[47,47,47]⟩)) (.cons (.c (.str ⟨#[46,46,47]⟩)) .nil))))))) [some (aB fun k => .int (N k)),some (aB fun k => .int (A k)),some (.ref H.length),some (.ref (H.length+1)),some (.int k),x5] (H ++ .list (G.map pT) :: .list ss::J)=some (.ref (H ++ .list (G.map pT) :: .list ss::J).length,H ++ .list (G.map pT) :: .list ss::(J++[.list gU])):=by
  refine rB wO ?_;rfl
 exact⟨_,J++[.list gU],al part1 (al (aH (bF s5 (bo (bo (bF rfl rfl (f7 _ (fun k => .int (N k)) hk)) rfl rfl) rfl rfl) f1) rfl) (al (f0 (di rfl (om qm) (iL (bo rfl (iSl (bF rfl rfl g1) (l7 rfl) rfl rfl g3) g4) rfl) g5)) rfl))⟩
theorem oo (A:Nat→Nat) (k:Nat):grow A k (chs A (k-1))=chs A k:=by
 cases k with
 |zero=>rfl
 |succ k=>exact if_neg (Nat.succ_ne_zero k)
theorem BV {C:ae} {N:Nat} {b:SL} {V V':VM} {H J:AH} {a:AO} {l:List AV} (h:exs C N b V H=some (.ret (.ref (H.length+1)),V',H++a :: .list l::J)) (hn:noRef.all l=true):ah C N b V H=some (.lst l,H):=by
 rewrite [ah];refine rT h ?_;show (freeze H.length (H++a::AO.list l::J) (.ref (H.length+1))).map (·,(H++a::AO.list l::J).take H.length)=_
 refine rT (nE (Kf _ 1) qm hn) ?_;refine rT List.take_left ?_;rfl
theorem Ek {C:ae} {V:VM} {H:AH} {o:AO}:ev C (.lst .nil) V (H++[o])=some (.ref (H.length+1),H++[o,.list []]):=by
 show some (AV.ref (H++[o]).length,(H++[o])++[AO.list []])=_
 refine rT List.length_append ?_;refine rT (List.append_assoc ..) ?_;rfl
theorem oq (A:Nat→Nat) (k:Nat):∀ m,k≤m→(chs A m).getD k []=(chs A k).getD k []
 |0,h=>by
  obtain rfl:k=0:=Nat.le_zero.mp h;rfl
 |m+1,h=>by
  by_cases e:k=m+1
  ·subst e;rfl
  ·refine rB (oq A k m (Nat.le_of_lt_succ (Nat.lt_of_le_of_ne h e))) ?_;rewrite [chs];refine rT List.getD_eq_getElem?_getD ?_;refine rT (List.getElem?_append_left (by rw [dv];exact Nat.lt_of_le_of_ne h e)) ?_;exact rB List.getD_eq_getElem?_getD rfl
noncomputable def aq (A:Nat→Nat) (k:Nat):List Nat:=(chs A 6).getD k []
theorem gV (A:Nat→Nat) {k:Nat} (h:k<7):aq A k=(chs A k).getD k []:=oq A k 6 (Nat.le_of_lt_succ h)
theorem jk (A:Nat→Nat):aq A 0=[]:=gV A (by decide)
theorem fS (A:Nat→Nat) {k:Nat} (h:k<6) (hA:A (k+1)<k+1):aq A (k+1)=aq A (A (k+1))++[k+1]:=by
 refine rT (gV A (Nat.succ_lt_succ h)) ?_;rewrite [chs];refine rT List.getD_eq_getElem?_getD ?_;refine rT (List.getElem?_append_right (by rw [dv];exact Nat.le.refl)) ?_;refine rT (dv ..) ?_
 simp only [Nat.sub_self,List.getElem?_cons_zero,Option.getD_some]
 refine rT (oq A _ k (Nat.le_of_lt_succ hA)) ?_;exact rT (gV A (Kd hA (Nat.succ_lt_succ h))) rfl
theorem dW (A:Nat→Nat) {k:Nat} (h:k<7):aq A k∈ba:=by
 unfold aq
 refine rT List.getD_eq_getElem?_getD ?_;refine rT (Ky (by rw [dv];exact h)) ?_
 exact (im A 6 (by exact Nat.le.refl) _ (List.getElem_mem _)).1
theorem vJ (n:Nat) (N:Nat→Int) (A:Nat→Nat) (hA:∀ k,0<k→A k<k) (H:AH):orc (n+1) 18 [aB fun k => .int (N k),aB fun k => .int (A k)] [] H=some (aB fun k=>T (aS (frm N k) (aq A k)),H):=by
 have st:∀ k,k<7→∀ (ss:List AV),ss.length=k→∀ J x5,∃ y5 J',exs (orc n) 20 fB [some (aB fun k => .int (N k)),some (aB fun k => .int (A k)),some (.ref H.length),some (.ref (H.length+1)),some (.int k),x5] (H ++ .list ((chs A (k-1)).map pT) :: .list ss::J)=some (.next,[some (aB fun k => .int (N k)),some (aB fun k => .int (A k)),some (.ref H.length),some (.ref (H.length+1)),some (.int k),y5],H ++ .list ((chs A k).map pT) :: .list (ss++[T (aS (frm N k) (aq A k))])::J'):=by
  intro k hk ss hss J x5
  have:=BU (orc n) H J N A k hk (hA k) (chs A (k-1)) (by refine rT (dv ..) ?_;cases k with|zero=>rfl|succ k=>exact (Nat.max_eq_left (Nat.succ_le_succ (Nat.zero_le k))).symm) (fun c hc=>(im A (k-1) (KQ (Nat.sub_le k 1) hk) c hc).1) (by refine rT (oo ..) ?_;exact fun c hc=>(im A k hk c hc).1) ss (KQ (Kh hss) (Kd hk (by decide))) x5
  rw [oo,← gV A hk] at this
  exact this
 obtain⟨y0,J0,e0⟩:=st 0 (by decide) [] rfl [] none
 obtain⟨y1,J1,e1⟩:=st 1 (by decide) [T (aS (frm N 0) (aq A 0))] rfl J0 y0
 obtain⟨y2,J2,e2⟩:=st 2 (by decide) [T (aS (frm N 0) (aq A 0)),T (aS (frm N 1) (aq A 1))] rfl J1 y1
 obtain⟨y3,J3,e3⟩:=st 3 (by decide) [T (aS (frm N 0) (aq A 0)),T (aS (frm N 1) (aq A 1)),T (aS (frm N 2) (aq A 2))] rfl J2 y2
 obtain⟨y4,J4,e4⟩:=st 4 (by decide) [T (aS (frm N 0) (aq A 0)),T (aS (frm N 1) (aq A 1)),T (aS (frm N 2) (aq A 2)),T (aS (frm N 3) (aq A 3))] rfl J3 y3
 obtain⟨y5,J5,e5⟩:=st 5 (by decide) [T (aS (frm N 0) (aq A 0)),T (aS (frm N 1) (aq A 1)),T (aS (frm N 2) (aq A 2)),T (aS (frm N 3) (aq A 3)),T (aS (frm N 4) (aq A 4))] rfl J4 y4
 obtain⟨y6,J6,e6⟩:=st 6 (by decide) [T (aS (frm N 0) (aq A 0)),T (aS (frm N 1) (aq A 1)),T (aS (frm N 2) (aq A 2)),T (aS (frm N 3) (aq A 3)),T (aS (frm N 4) (aq A 4)),T (aS (frm N 5) (aq A 5))] rfl J5 y5
 exact (lZ ..).trans (BV (al (aH (show ev (orc n) (.lst (.cons (.c (.str ⟨#[]⟩)) .nil)) _ H=some (.ref H.length,H++[.list ((chs A 0).map pT)]) from rfl) rfl) (al (aH Ek rfl) (al (tC rfl (cV rfl e0 (cV rfl e1 (cV rfl e2 (cV rfl e3 (cV rfl e4 (cV rfl e5 (cV rfl e6 rfl)))))))) (bY (fy rfl))))) rfl)
noncomputable def fT (c:List Nat):List Int:=(0::c).map fun (x:Nat)=>(x:Int)
noncomputable abbrev bf (c:List Nat):AV := .set ((fT c).map .int)
theorem jS (l:List Int):bE (l.map .int)=some l:=oh l
theorem iU (l:List Int) (h:l.Nodup):cH l=l.map .int:=by
 have:∀ (l acc:List Int),(acc++l).Nodup→l.foldl (fun acc i=>if acc.contains i then acc else acc++[i]) acc=acc++l:=by
  intro l
  induction l with
  |nil=>exact fun acc _=>(List.append_nil _).symm
  |cons a l ih =>
   intro acc h
   have h1:¬ acc.contains a=true:=fun k=>(List.nodup_append.mp h).2.2 a (List.contains_iff_mem.mp k) a Ka rfl
   refine rT List.foldl_cons ?_;refine rT (if_neg h1) ?_;refine rT (ih (acc++[a]) (by rw [List.append_assoc];exact h)) ?_;refine rT (List.append_assoc ..) ?_;rfl
 unfold cH
 refine rT (this l [] h) ?_;rfl
theorem io:∀ c∈ba,(fT c).Nodup∧(fT c).length≤7:=by decide +kernel
theorem Gh (H:AH) {c:List Nat} {k:Nat} (h:c++[k]∈ba) (hc:c∈ba):fF H .BitOr (bf c) (.set [.int k])=some (bf (c++[k])):=by
 have h2:fT (c++[k])=fT c++[(k:Int)]:=List.map_append (l₁:=0::c)
 show ((bE ((fT c).map .int)).bind fun l=>(some [(k:Int)]).bind fun r=>if (l≠[]∧l.length≤30)∧r.length≤30 then some (AV.set (cH (l++r))) else none)=_
 refine rT (jS ..) ?_
 show (if (fT c≠[]∧(fT c).length≤30)∧[(k:Int)].length≤30 then some (AV.set (cH (fT c++[(k:Int)]))) else none)=_
 refine rT (if_pos ⟨⟨(fun e=>nomatch e),Kv (io c hc).2 (by decide)⟩,Lj rfl⟩) ?_;refine rB h2 ?_;exact rT (iU _ (io _ h).1) rfl
theorem vK (l:List (List Nat)):noRef.all (l.map bf)=true:=by
 induction l with
 |nil=>rfl
 |cons a l ih=>exact ih
theorem El (n:Nat) (A:Nat→Nat) (hA:∀ k,0<k→A k<k) (H:AH):orc (n+1) 25 [aB fun k => .int (A k)] [] H=some (aB fun k=>bf (aq A k),H):=by
 have st:∀ k:Nat,0<k→k<7→exs (orc n) 20 pw [some (aB fun k => .int (A k)),some (.ref H.length),some (.int k)] (H++[.list ((chs A (k-1)).map bf)])=some (.next,[some (aB fun k => .int (A k)),some (.ref H.length),some (.int k)],H++[.list ((chs A k).map bf)]):=by
  intro k h0 hk
  have hl:(chs A (k-1)).length=k:=by refine rT (dv ..) ?_;exact Nat.sub_add_cancel h0
  have hlm:((chs A (k-1)).map bf).length=k:=by refine rT (List.length_map ..) ?_;exact hl
  have hlt:A k<(chs A (k-1)).length:=by refine rT hl ?_;exact hA k h0
  have hb:((chs A (k-1)).map bf).length<1000000:=by refine rT hlm ?_;exact Kd hk (by decide)
  have e2:=gT (H:=H++[.list ((chs A (k-1)).map bf)]) (i:=H.length) (k:=A k) bt (by refine rT (List.length_map ..) ?_;exact hlt) hb
  have e3:((chs A (k-1)).map bf)[A k]'(by refine rT (List.length_map ..) ?_;exact hlt)=bf ((chs A (k-1)).getD (A k) []):=by refine rT (List.getElem_map ..) ?_;refine rT List.getD_eq_getElem?_getD ?_;refine rT (Ky hlt) ?_;rfl
  rw [e3] at e2
  have hg2:chs A k=chs A (k-1)++[(chs A (k-1)).getD (A k) []++[k]]:=by refine rB (oo A k) ?_;exact if_neg (Nat.ne_of_gt h0)
  have hin:(chs A (k-1)).getD (A k) []∈chs A (k-1):=by refine rT List.getD_eq_getElem?_getD ?_;refine rT (Ky hlt) ?_;exact List.getElem_mem hlt
  have hin2:(chs A (k-1)).getD (A k) []++[k]∈ba:=(im A k hk _ (by refine rT hg2 ?_;exact List.mem_append_right _ Ka)).1
  have e4:=Gh (H++[.list ((chs A (k-1)).map bf)]) hin2 (im A (k-1) (KQ (Nat.sub_le ..) hk) _ hin).1
  have e5:=vI (H:=H++[.list ((chs A (k-1)).map bf)]) (i:=H.length) (bf ((chs A (k-1)).getD (A k) []++[k])) bt hb rfl
  rw [nT] at e5
  refine rT hg2 ?_;refine rT List.map_append ?_
  generalize (chs A (k-1)).getD (A k) []=c at *
  exact al (f0 (di rfl gS (iL (bo (bF rfl (bF rfl rfl (f7 _ (fun k => .int (A k)) hk)) e2) rfl e4) rfl) e5)) rfl
 have e:(chs A 6).map bf=[bf (aq A 0),bf (aq A 1),bf (aq A 2),bf (aq A 3),bf (aq A 4),bf (aq A 5),bf (aq A 6)]:=by
  refine List.ext_getElem (by rw [List.length_map,dv];rfl) fun i h1 h2 => ?_
  have hi:i<7:=h2
  have hc:i<(chs A 6).length:=by refine rT (dv ..) ?_;exact hi
  have:(chs A 6)[i]=aq A i:=by rewrite [aq];refine rT List.getD_eq_getElem?_getD ?_;refine rT (Ky hc) ?_;rfl
  rw [List.getElem_map,this]
  exact yE (fun i=>∀ h:i<7,bf (aq A i)=[bf (aq A 0),bf (aq A 1),bf (aq A 2),bf (aq A 3),bf (aq A 4),bf (aq A 5),bf (aq A 6)][i]'h) hi (fun _=>rfl) (fun _=>rfl) (fun _=>rfl) (fun _=>rfl) (fun _=>rfl) (fun _=>rfl) (fun _=>rfl) hi
 refine Eq.trans ?_ (congrArg (fun l=>some (AV.lst l,H)) e)
 exact (rz ..).trans (tJ (V':=_) (al (aH (show ev (orc n) (.lst (.cons (.set1 (.c (.int (0)))) .nil)) _ H=some (.ref H.length,H++[.list ((chs A 0).map bf)]) from rfl) rfl) (al (tC rfl (cV rfl (st 1 (by decide) (by decide)) (cV rfl (st 2 (by decide) (by decide)) (cV rfl (st 3 (by decide) (by decide)) (cV rfl (st 4 (by decide) (by decide)) (cV rfl (st 5 (by decide) (by decide)) (cV rfl (st 6 (by decide) (by decide)) rfl)))))))  (bY (fy rfl)))) (vK _))
structure Pl where
 d:Nat
 f:Nat
 s:List Nat
structure Pl.Ok (p:Pl):Prop where
 d:p.d≤2
 f:p.f<6
 s:p.s∈ba
noncomputable def Pl.str (p:Pl):List Nat:=aS p.f p.s
noncomputable def Pl.top (p:Pl):List Nat:=p.s.take (p.s.length-p.d)
noncomputable def Pl.item (p:Pl):AV := .tup [.int p.top.length,T p.str,pth p.top]
structure Pls (p:F7→Pl):Prop where
 ok:∀ j,(p j).Ok
 con:∀ i j,con (p i).s (p j).s=true
 inj:∀ i j,(p i).str=(p j).str→i=j
noncomputable def rwF (p:F7→Pl) (c:F7→Option Nat) (j:F7):Rw:=⟨(p j).d,(p j).str,c j⟩
noncomputable abbrev rJ (l:List Nat):Str:=⟨l.toArray⟩
noncomputable def aX (p:F7→Pl) (js:List F7):List (Str×AV):=js.map fun j=>(rJ (p j).str,pth (p j).s)
theorem Pl.Ok.top {p:Pl} (h:p.Ok):p.top∈ba:=n8 h.s _
theorem jT {a b:List Nat} (h:rJ a=rJ b):a=b:=by
 have:=congrArg (fun s:Str=>s.cps.toList) h
 simpa using this
theorem lJ (x:Str) (v:AV):∀ (D:List (Str×AV)),(∀ q∈D,q.1≠x)→dm x v D=D++[(x,v)]
 |[],_=>rfl
 |(y,w)::D,h=>by
  have h1:¬ y=x:=h (y,w) (by simp)
  simp only [dm,h1,if_false,List.cons_append]
  exact rT (lJ x v D fun q hq=>h q (by simp [hq])) rfl
theorem qn {p:F7→Pl} (P:Pls p) (j:F7):∀ (js:List F7),j∈js→((aX p js).find? (·.1==rJ (p j).str)).map (·.2)=some (pth (p j).s)
 |[],h=>by cases h
 |i::js,h=>by
  rewrite [aX];refine rT List.map_cons ?_;refine rT List.find?_cons ?_
  by_cases e:rJ (p i).str=rJ (p j).str
  ·have:=P.inj i j (jT e)
   subst this
   simp
  ·have h1:(rJ (p i).str==rJ (p j).str)=false:=by simpa using e
   simp only [h1]
   refine qn P j js ((KJ.mp h).resolve_left fun k=>e (by exact rT k rfl))
theorem rK {g:F7→AV} {H:AH} {l0:List AV} {D:AO} {l:List F7}:hp g (H ++ .list l0::D::[]) H.length l=H ++ .list (l.map g)::D::[]:=tT
theorem yZ (l:List F7) (x:F7):(dG l x).length=l.length+1:=by unfold dG;refine rT (F8 ..) ?_;simp
section
variable {p:F7→Pl} (P:Pls p)
include P
theorem IA (H:AH) (js:List F7) (j:F7) (hj:j∉js) (hjs:js.length<50) (x:AO):w6 (H++x :: .dict (aX p js)::[]) (.ref (H.length+1)) (T (p j).str) (pth (p j).s)=some (H++x :: .dict (aX p (js++[j]))::[]):=by
 have h1:(aX p js).length<100:=by rewrite [aX];refine rT (List.length_map ..) ?_;exact Kd hjs (by decide)
 have h2:dm (rJ (p j).str) (pth (p j).s) (aX p js)=aX p (js++[j]):=by
  rw [lJ]
  ·rewrite [aX];rewrite [aX];refine rT List.map_append ?_;rfl
  ·intro q hq k
   obtain⟨i,hi,rfl⟩:=Kg.mp hq
   exact hj (P.inj i j (jT k)▸hi)
 exact bs rfl (bs (qg qm) ((if_pos ⟨h1,rfl⟩).trans (by refine rT h2 ?_;exact rT tU rfl)))
theorem ER (H:AH) (js:List F7) (j:F7) (hj:j∈js) {i:Nat} (hi:H[i]?=some (.dict (aX p js))):fG H (.ref i) (T (p j).str)=some (pth (p j).s):=by
 refine bs (qg hi) ?_
 obtain⟨q,h1,h2⟩:=Option.map_eq_some_iff.mp (qn P j _ hj)
 exact bs h1 (congrArg some h2)
end
section
variable {p:F7→Pl} (P:Pls p) {g:F7→AV} (rk:Rk g) {σ:F7→F7} (hg:∀ j,(p j).item=g (σ j))
include P rk hg
theorem Gi (n:Nat) (H:AH) (js:List F7) (j:F7) (hj:j∉js) (l:List F7) (hl:l.length<18) (hjs:js.length<50) (e:Int) (x0 x1 x7 x8 x9 x10 x11 x12 x13:Option AV) :
  exs (orc (n+3)) 20 cW [x0,x1,some (.ref H.length),some (.ref (H.length+1)),some (.int e),some (.int (p j).d),some (T (p j).str),x7,x8,x9,x10,x11,x12,x13] (H ++ .list (l.map g) :: .dict (aX p js)::[])=some (.next,[x0,x1,some (.ref H.length),some (.ref (H.length+1)),some (.int e),some (.int (p j).d),some (T (p j).str),x7,some (pth (p j).top),x9,x10,x11,x12,x13],H ++ .list ((dG l (σ j)).map g) :: .dict (aX p (js++[j]))::[]):=by
 have ok:=P.ok j
 have e8:=tP (l:=l) (i:=H.length) (H:=H ++ .list (l.map g) :: .dict (aX p (js++[j]))::[]) rk (n+1) (by refine rT List.length_append ?_;exact Nat.lt_add_of_pos_right (Nat.succ_pos _)) hl (σ j)
 rw [rK,rK,← hg j] at e8
 exact al (yD (aR (iL (aR (iL rfl (iL (di rfl rfl rfl (yT _ (p j).f (p j).s ok.f ok.s)) rfl)) rfl (Ea (n+1) _ ok.f ok.s)) rfl) rfl (tO n _ ok.f ok.s)) rfl rfl (IA P H js j hj hjs _))
  (al (aH (aR (iL (bF rfl rfl (ER P _ (js++[j]) j (List.mem_append_right _ Ka) qm)) (iL rfl rfl)) rfl (F4 n _ ok.s ok.d)) rfl)
  (al (f0 (aR (iL rfl (iL (vq (iL (aR (iL rfl rfl) rfl (jQ (n+1) _ ok.top)) (iL rfl (iL rfl rfl))) rfl) rfl)) rfl e8)) rfl))
theorem Gj (n:Nat) (H:AH) (c:F7→Option Nat) (x0 x1:Option AV) (js:List F7):∀ (ks:List F7) (m:Nat) (l:List F7) (X:VM),X.length=10→(ks++js).Nodup→(ks++js).length<10→l.length+js.length<10 →
  ∃ Y,ju (.tup [4,5,6,7]) (exs (orc (n+3)) 20 cW) (cZ m (js.map (rwF p c))) (x0::x1::some (.ref H.length)::some (.ref (H.length+1))::X) (H ++ .list (l.map g) :: .dict (aX p ks)::[])=some (.next,x0::x1::some (.ref H.length)::some (.ref (H.length+1))::Y,H ++ .list ((js.foldl (fun l j=>dG l (σ j)) l).map g) :: .dict (aX p (ks++js))::[])∧Y.length=10:=by
 induction js with
 |nil=>exact fun ks m l X hX _ _ _=>⟨X,by refine rT (List.append_nil ..) ?_;rfl,hX⟩
 |cons j js ih =>
  intro ks m l X hX hn hl hl2
  have hj:j∉ks:=fun h=>(List.nodup_append.mp hn).2.2 j h j Ka rfl
  have ea:(ks++[j])++js=ks++j::js:=List.append_assoc ks [j] js
  obtain⟨x4,x5,x6,x7,x8,x9,x10,x11,x12,x13,rfl⟩:=Hp hX
  obtain⟨Y,e2,hY⟩:=ih (ks++[j]) (m+(dR (rwF p c j)).length) (dG l (σ j)) [some (.int ((m+(p j).str.length+6:Nat):Int)),some (.int (p j).d),some (T (p j).str),some (.int (px (c j))),some (pth (p j).top),x9,x10,x11,x12,x13] rfl (ea.symm▸hn) (ea.symm▸hl) (by refine rT (yZ ..) ?_;refine rT (Kb ..) ?_;exact hl2)
  rw [ea] at e2
  rw [List.length_append] at hl
  exact⟨Y,cV rfl (Gi P rk hg n H ks j hj l (by lia) (by lia) ((m+(p j).str.length+6:Nat):Int) x0 x1 (some (.int (px (c j)))) x8 x9 x10 x11 x12 x13) e2,hY⟩
end
noncomputable def dist (a b:List Nat):Int:=(a.length:Int)+b.length-2*(lcp a b).length
noncomputable def jU (p:F7→Pl) (c:F7→Option Nat) (t:List Nat) (j:F7):Option Nat:=(c j).bind fun q=>if dist (p j).s t≤(p j).d then some q else none
noncomputable def eu (p:F7→Pl) (c:F7→Option Nat) (t:List Nat):List Nat:=af.filterMap (jU p c t)
noncomputable abbrev aL (l:List Nat):List AV:=l.map fun (q:Nat)=>AV.int q
theorem kX (l:List Nat):bE (aL l)=some (l.map fun (q:Nat)=>(q:Int)):=by
 have:=oh (l.map fun (q:Nat)=>(q:Int))
 simpa [df,Function.comp_def] using this
noncomputable def dH (l:List Nat):List Nat:=(List.range 7).filter fun k=>!l.contains k
noncomputable def bC (l:List Nat):Nat:=(dH l).headD 0
theorem tX:∀ (a b:List Nat) (m:Nat),con a b=true→con a (b.take m)=true
 |[],_,_,_=>by simp [con]
 |a::l,[],m,_=>by grind
 |a::l,b::r,0,_=>by rfl
 |a::l,b::r,m+1,h=>by
  unfold con at h
  refine rT List.take_succ_cons ?_
  unfold con
  split at h
  ·rename_i e
   refine rT (if_pos e) ?_
   exact tX l r m h
  ·rename_i e
   refine rT (if_neg e) ?_;refine rP List.all_eq_true ?_
   intro x hx
   have:=Kc.mp h x hx
   simp only [List.contains_eq_mem,Bool.not_eq_true',decide_eq_false_iff_not,List.mem_cons,not_or] at this ⊢
   exact⟨this.1,fun k=>this.2 (List.mem_of_mem_take k)⟩
section
variable {p:F7→Pl} (P:Pls p)
include P
theorem vL (n:Nat) (H:AH) (L:Nat) (hD:H[L]?=some (.dict (aX p af))) (c:F7→Option Nat) (t:List Nat) (ht:t∈ba) (hct:∀ j,con (p j).s t=true) (js:List F7):∀ (m:Nat) (y1 y2 y3 y4:Option AV),
  compLoop (qk (orc (n+3)) (.tup [1,2,3,4]) eM eN) (cZ m (js.map (rwF p c))) [none,y1,y2,y3,y4,some (.ref L),some (pth t)] H=some (aL (js.filterMap (jU p c t)),H):=by
 induction js with
 |nil=>exact fun m _ _ _ _=>rfl
 |cons j js ih =>
  intro m y1 y2 y3 y4
  have e1:=ER P H af j (bd j) hD
  have e2:=Bz n H (P.ok j).s ht (hct j)
  refine rT List.map_cons ?_;rewrite [cZ]
  generalize hc:(rwF p c j).c=cj
  have hc:c j=cj:=hc
  cases cj with
  |none =>
   refine rT (List.filterMap_cons_none (show jU p c t j=none by rw [jU,hc];rfl)) ?_
   exact tR (tQ rfl (yW (iTB (lF (iTC rfl rfl rfl))))) (ih ..)
  |some q =>
   by_cases hd:dist (p j).s t≤(p j).d
   ·refine rT (List.filterMap_cons_some (show jU p c t j=some q by rw [jU,hc];exact if_pos hd)) ?_
    exact wL (wK rfl (yW (iTB (nH (iTC rfl rfl (dT (Int.natCast_nonneg q))) (nH (iTC (aR (iL (bF rfl rfl e1) (iL rfl rfl)) rfl e2) rfl (dT hd)) rfl)))) rfl) (ih ..)
   ·refine rT (List.filterMap_cons_none (show jU p c t j=none by rw [jU,hc];exact if_neg hd)) ?_
    exact tR (tQ rfl (yW (iTB (nH (iTC rfl rfl (dT (Int.natCast_nonneg q))) (lF (iTC (aR (iL (bF rfl rfl e1) (iL rfl rfl)) rfl e2) rfl (dF hd))))))) (ih ..)
end
theorem y9 (a:Nat) (l:List Nat) (h:∀ x∈l,a≤x):(aL l).foldlM (lj ltv) (AV.int a)=some (AV.int a):=by
 induction l with
 |nil=>rfl
 |cons b l ih =>
  have h1:decide ((b:Int)<a)=false:=decide_eq_false (Int.not_lt.mpr (Int.ofNat_le.mpr (h b Ka)))
  rewrite [aL];refine rT List.map_cons ?_;refine rT List.foldlM_cons ?_
  exact bs (bs (congrArg some h1) rfl) (ih fun x hx=>h x (List.mem_cons_of_mem _ hx))
theorem jV (l:List Nat):(dH l).Pairwise (·<·):=List.Pairwise.filter _ List.pairwise_lt_range
theorem BW (H:AH) (l:List Nat) (h:dH l≠[]):abi H .min [.lst (aL (dH l))]=some (.int (bC l)):=by
 have hs:=jV l
 unfold bC
 generalize dH l=r at *
 cases r with
 |nil=>exact absurd rfl h
 |cons a r =>
  exact y9 a r fun x hx=>KW ((List.pairwise_cons.mp hs).1 x hx)
theorem Em:az 0 7=aL (List.range 7):=by kernel_rfl
theorem qo (H:AH) (a:Nat) (l:List Nat):f9 H .NotIn (.int a) (.lst (aL l))=some (!l.contains a):=by
 refine bs (o:=bE (aL l)) (kX l) (congrArg (fun b=>some (!b)) ?_)
 refine rP Bool.eq_iff_iff ?_;refine rP List.contains_iff_mem ?_;refine rP List.contains_iff_mem ?_;refine rP List.mem_map ?_
 exact⟨fun ⟨x,h,e⟩=>Int.ofNat_inj.mp e▸h,fun h=>⟨a,h,rfl⟩⟩
theorem za (C:ae) (H:AH) (l r:List Nat):∀ (y:Option AV),
  compLoop (qk C (.name 1) eO eP) (aL r) [none,y,some (.lst (aL l))] H=some (aL (r.filter fun k=>!l.contains k),H):=by
 induction r with
 |nil=>exact fun _=>rfl
 |cons a r ih =>
  intro y
  by_cases hc:(!l.contains a)=true
  ·refine rT (List.filter_cons_of_pos (p:=fun k=>!l.contains k) hc) ?_
   exact wL (wK rfl (yW (iTC rfl rfl ((qo ..).trans (congrArg some hc)))) rfl) (ih _)
  ·refine rT (List.filter_cons_of_neg (p:=fun k=>!l.contains k) hc) ?_
   exact tR (tQ rfl (yW (iTC rfl rfl ((qo ..).trans (congrArg some (Bool.eq_false_iff.mpr hc)))))) (ih _)
noncomputable def upd (c:F7→Option Nat) (j:F7) (q:Nat):F7→Option Nat:=fun i=>if i=j then some q else c i
theorem En (p:F7→Pl) (c:F7→Option Nat) (j:F7) (q:Nat):∀ js:List F7,j∉js→js.map (rwF p (upd c j q))=js.map (rwF p c):=by
 intro js h
 apply List.map_congr_left
 intro i hi
 have:i≠j:=fun e=>h (e▸hi)
 simp [rwF,upd,this]
theorem Gk (H:AH) (a b:List Nat):f9 H .Eq (T a) (T b)=some (decide (a=b)):=by
 refine congrArg some ?_
 show ((⟨a.toArray⟩:Str)==⟨b.toArray⟩)=_
 refine rP Bool.eq_iff_iff ?_;refine rP beq_iff_eq ?_;refine rP decide_eq_true_iff ?_
 exact⟨jT,fun h=>h▸rfl⟩
section
variable {p:F7→Pl} (P:Pls p)
include P
theorem vM (n:Nat) (H:AH) (c:F7→Option Nat) (r:F7) (q:Nat) (hq:q<7) (hc:c r=none) (w:List Nat) (hw:w.length<500000) (x0 x2 x3 x8 x9 x11 x12:Option AV) (js:List F7):∀ (pre:List Nat) (X:VM),X.length=4→r∈js→js.Nodup→w=pre++aG (js.map (rwF p c)) →
  ∃ Y:VM,ju (.tup [4,5,6,7]) (exs (orc (n+3)) 20 eQ) (cZ pre.length (js.map (rwF p c))) (x0::some (T w)::x2::x3::(X++[x8,x9,some (T (p r).str),x11,x12,some (.int q)])) H=some (.next,x0::some (T (pre++aG (js.map (rwF p (upd c r q)))))::x2::x3::(Y++[x8,x9,some (T (p r).str),x11,x12,some (.int q)]),H)∧Y.length=4:=by
 induction js with
 |nil=>exact fun _ _ _ h=>nomatch h
 |cons j js ih =>
  intro pre X hX hr hn hwe
  obtain⟨x4,x5,x6,x7,rfl⟩:=ex4 hX
  rw [List.nodup_cons] at hn
  by_cases e:j=r
  ·subst e
   have e1:pre++aG ((j::js).map (rwF p (upd c j q)))=(pre++([48,48,48,48+(p j).d]++(39::((p j).str++[39]))))++(35::([48,48,48,48+q]++(10::aG (js.map (rwF p c))))):=by
    refine rT List.map_cons ?_;refine rT (ct ..) ?_;refine rT (En p c j q js hn.1) ?_
    simp [dR,rwF,upd,jg]
   have e2:w=(pre++([48,48,48,48+(p j).d]++(39::((p j).str++[39]))))++(10::aG (js.map (rwF p c))):=by
    refine rT hwe ?_;refine rT List.map_cons ?_;refine rT (ct ..) ?_
    simp [dR,rwF,hc,jg]
   have e3:pre.length+(rwF p c j).s.length+6=(pre++([48,48,48,48+(p j).d]++(39::((p j).str++[39])))).length:=by simp [rwF];lia
   rw [List.map_cons,cZ,e3,e1]
   generalize pre++([48,48,48,48+(p j).d]++(39::((p j).str++[39])))=a at *
   generalize (10::aG (js.map (rwF p c)))=b at *
   have hlen:a.length+b.length<500000:=by rw [e2,List.length_append] at hw;exact hw
   have hwm:w.length≤1000000:=KW (Kd hw (by decide))
   have s1:cg (T w) none (some (.int a.length)) none=some (T a):=by rw [tW _ _ hwm,e2,List.take_left]
   have s2:cg (T w) (some (.int a.length)) none none=some (T b):=by rw [on _ _ hwm,e2,List.drop_left]
   have s4:=add_str H a [35] (by simp;lia)
   have s5:=add_str H (a++[35]) [48,48,48,48+q] (by simp;lia)
   have s6:=add_str H (a++[35]++[48,48,48,48+q]) b (by simp;lia)
   have t1:a++[35]++[48,48,48,48+q]++b=a++35::([48,48,48,48+q]++b):=by rw [List.append_assoc,List.append_assoc];rfl
   rw [t1] at s6
   exact⟨[some (.int a.length),some (.int (rwF p c j).d),some (T (rwF p c j).s),some (.int (px (rwF p c j).c))],Jm rfl (FZ (iIf (iTC rfl rfl ((Gk ..).trans (dT rfl))) (al (aH (bo (bo (bo (iSl rfl rfl (l7 rfl) rfl s1) rfl s4) (aR rfl rfl (jj (n+2) q hq H)) s5) (iSl rfl (l7 rfl) rfl rfl s2) s6) rfl) (FZ rfl)))),rfl⟩
  ·have hne:¬ (p j).str=(p r).str:=fun k=>e (P.inj j r k)
   obtain⟨Y,ih,hY⟩:=ih (pre++dR (rwF p c j)) [some (.int ((pre.length+(rwF p c j).s.length+6:Nat):Int)),some (.int (rwF p c j).d),some (T (rwF p c j).s),some (.int (px (rwF p c j).c))] rfl ((KJ.mp hr).resolve_left fun k=>e k.symm) hn.2 (by rw [hwe,List.map_cons,ct,List.append_assoc])
   rw [List.length_append] at ih
   have e4:pre++aG ((j::js).map (rwF p (upd c r q)))=pre++dR (rwF p c j)++aG (js.map (rwF p (upd c r q))):=by
    have:rwF p (upd c r q) j=rwF p c j:=by rw [rwF,upd,if_neg e];rfl
    rw [List.map_cons,ct,this,List.append_assoc]
   refine rT e4 ?_
   exact⟨Y,cV rfl (al (iIf (iTC rfl rfl ((Gk ..).trans (dF hne))) rfl) rfl) ih,hY⟩
end
theorem ot {C:ae} {b:BI} {x:X'} {V:VM} {H H':AH} {a r:AV} (h:ev C x V H=some (a,H')) (ha:abi H' b [a]=some r):ev C (.bi b (.cons x .nil)) V H=some (r,H'):=iBi (iL h rfl) ha
theorem ew (l:List Nat) (h:dH l≠[]):bC l<7∧bC l∉l:=by
 unfold bC
 cases e:dH l with
 |nil=>exact absurd e h
 |cons a r =>
  have:a∈dH l:=by refine rT e ?_;simp
  unfold dH at this
  simp at this
  exact this
theorem BX {p:Pl} (h:p.Ok):p.str.length<50∧∀ x∈p.str,46≤x∧x≤122:=od _ (da h.f h.s)
theorem gW {p:F7→Pl} (P:Pls p) (c:F7→Option Nat):∀ js:List F7,(aG (js.map (rwF p c))).length≤js.length*70
 |[]=>by simp [aG]
 |j::js=>by
  have ih:=gW P c js
  have h:=(BX (P.ok j)).1
  refine rT List.map_cons ?_;refine rT (ct ..) ?_;refine rT List.length_append ?_
  have:(dR (rwF p c j)).length≤70:=by
   unfold dR
   have:(jg (rwF p c j).c).length≤5:=by cases (rwF p c j).c<;>simp [jg]
   simp [rwF] at this ⊢
   lia
  refine rT List.length_cons ?_;refine rT (Nat.succ_mul ..) ?_;refine rT (Nat.add_comm ..) ?_
  exact Nat.add_le_add ih this
theorem BY {p:F7→Pl} (P:Pls p) {c:F7→Option Nat} (hc:∀ j q,c j=some q→q<7) (js:List F7):∀ r∈js.map (rwF p c),r.Ok:=by
 intro r hr
 obtain⟨j,_,rfl⟩:=Kg.mp hr
 exact⟨by have:=(P.ok j).d;simp [rwF];lia,(BX (P.ok j)).2,hc j⟩
section
variable {p:F7→Pl} (P:Pls p) {g:F7→AV} (rk:Rk g) {τ:F7→F7} (hg:∀ r,g r=(p (τ r)).item)
include P rk hg
theorem turn (n:Nat) (H:AH) (k:Nat) (hk:k<7) (h:List F7) (hst:HSt k h) (c:F7→Option Nat) (hc:∀ j q,c j=some q→q<7) (hn:c (τ ⟨k,hk⟩)=none) (hf:dH (eu p c (p (τ ⟨k,hk⟩)).top)≠[]) (x0:Option AV) (X:VM) (hX:X.length=10) :
  ∃ Y,exs (orc (n+3)) 20 cY (x0::some (T (aG (af.map (rwF p c))))::some (.ref H.length)::some (.ref (H.length+1))::X) (H ++ .list (h.map g) :: .dict (aX p af)::[])=some (.next,x0::some (T (aG (af.map (rwF p (upd c (τ ⟨k,hk⟩) (bC (eu p c (p (τ ⟨k,hk⟩)).top)))))))::some (.ref H.length)::some (.ref (H.length+1))::Y,H ++ .list ((eB h).2.map g) :: .dict (aX p af)::[])∧Y.length=10:=by
 obtain⟨x4,x5,x6,x7,x8,x9,x10,x11,x12,x13,rfl⟩:=Hp hX
 have hne:h≠[]:=fun e=>by
  have:=(hst.mem ⟨k,hk⟩).mpr (KX _)
  rw [e] at this;cases this
 have hlen:h.length<18:=by refine rT (kV _ _ hst.hp) ?_;exact KQ (Nat.sub_le 7 k) (by decide)
 have e1:=vB (l:=h) (i:=H.length) (H:=H ++ .list (h.map g) :: .dict (aX p af)::[]) rk n (by simp) hne hlen
 have ek:(eB h).1=⟨k,hk⟩:=Fin.ext (hst.pop hk).1
 rw [rK,rK,ek,hg] at e1
 generalize τ ⟨k,hk⟩=r at *
 generalize (eB h).2=h2 at *
 obtain⟨hq,hq2⟩:=ew _ hf
 have f1:=BW (H ++ .list (h2.map g) :: .dict (aX p af)::[]) _ hf
 have e2:=rD n (af.map (rwF p c)) (BY P hc af) (KQ (gW P c af) (by decide)) (by simp [af]) (H ++ .list (h2.map g) :: .dict (aX p af)::[])
 have e3:=vL P n (H ++ .list (h2.map g) :: .dict (aX p af)::[]) (H.length+1) qm c (p r).top (P.ok r).top (fun j=>tX _ _ _ (P.con j r)) af 0 none none none none
 have e4:=za (orc (n+3)) (H ++ .list (h2.map g) :: .dict (aX p af)::[]) (eu p c (p r).top) (List.range 7) none
 have hl7:(cZ 0 (af.map (rwF p c))).length≤1000:=by simp [af,cZ]
 have e5:=vM P n (H ++ .list (h2.map g) :: .dict (aX p af)::[]) c r (bC (eu p c (p r).top)) hq hn (aG (af.map (rwF p c))) (KQ (gW P c af) (by decide)) x0 (some (.ref H.length)) (some (.ref (H.length+1))) (some (pth (p r).top)) (some (.int (p r).top.length)) (some (.lst (cZ 0 (af.map (rwF p c))))) (some (.lst (aL (eu p c (p r).top)))) af [] [x4,x5,x6,x7] rfl (bd r) (by decide) (by simp)
 obtain⟨Y,e5,hY⟩:=e5
 obtain⟨y4,y5,y6,y7,rfl⟩:=ex4 hY
 generalize (H ++ .list (h2.map g) :: .dict (aX p af)::[])=H2 at *
 generalize cZ 0 (af.map (rwF p c))=TL at *
 exact⟨_,al (aH (aR (iL rfl rfl) rfl e1) rfl) (al (aH (aR (iL rfl rfl) rfl e2) rfl) (al (aH (wJ (l:=TL) rfl hl7 e3) rfl) (al (aH (iBi (iL (wJ (l:=aL (List.range 7)) (congrArg (fun z=>some (z,H2)) Em) (by decide) e4) rfl) f1) rfl) (al (tC rfl e5) rfl)))),rfl⟩
end
set_option maxHeartbeats 400000
theorem kY {α:Type} [DecidableEq α] (l m:List α) (hn:l.Nodup) (hs:∀ x∈l,x∈m):l.length≤m.length:=bP hn hs
theorem ou (l:List Nat) (h:l.length<7):dH l≠[]:=by
 intro e
 have:∀ x∈List.range 7,x∈l:=by
  intro x hx
  by_cases hm:x∈l
  ·exact hm
  ·have:x∈dH l:=List.mem_filter.mpr ⟨hx,by simpa using hm⟩
   rw [e] at this;cases this
 exact absurd h (Nat.not_lt.mpr (kY (List.range 7) l List.nodup_range this))
theorem jW {α β:Type} (f:α→Option β) (l:List α):(l.filterMap f).length≤l.length∧∀ a∈l,f a=none→(l.filterMap f).length<l.length:=by
 induction l with
 |nil=>exact⟨KX _,fun a h=>nomatch h⟩
 |cons b l ih =>
  obtain⟨h1,h2⟩:=ih
  cases hb:f b with
  |none =>
   refine rT (List.filterMap_cons_none hb) ?_
   exact⟨Nat.le_succ_of_le h1,fun _ _ _=>Nat.lt_succ_of_le h1⟩
  |some y =>
   refine rT (List.filterMap_cons_some hb) ?_
   refine⟨Nat.succ_le_succ h1,fun a ha hn => ?_⟩
   rcases KJ.mp ha with rfl|ha
   ·rw [hb] at hn;cases hn
   ·exact Nat.succ_lt_succ (h2 a ha hn)
theorem ov (p:F7→Pl) (c:F7→Option Nat) (t:List Nat) (r:F7) (h:c r=none):(eu p c t).length<7 :=
 (jW (jU p c t) af).2 r (bd r) (by simp [jU,h])
noncomputable def db (p:F7→Pl) (τ:F7→F7):Nat→F7→Option Nat
 |0=>fun _=>none
 |k+1=>if h:k<7 then upd (db p τ k) (τ ⟨k,h⟩) (bC (eu p (db p τ k) (p (τ ⟨k,h⟩)).top)) else db p τ k
theorem BZ {C:ae} {V:VM} {H:AH} {o:AO}:ev C .dict0 V (H++[o])=some (.ref (H.length+1),H++[o,.dict []]):=by
 show some (AV.ref (H++[o]).length,(H++[o])++[AO.dict []])=_
 refine rT List.length_append ?_;refine rT (List.append_assoc ..) ?_;rfl
theorem IB {C:ae} {x:X'} {V:VM} {H H1:AH} {l:List AV} (h:ev C x V H=some (.lst l,H1)):evI C (.val x) V H=some (l,H1):=bs h rfl
section
variable {p:F7→Pl} {τ σ:F7→F7} (h1:∀ r,σ (τ r)=r) (h2:∀ j,τ (σ j)=j)
include h1 h2
theorem jX:∀ (k:Nat) (j:F7),k≤(σ j).val→db p τ k j=none
 |0,j,_=>rfl
 |k+1,j,h=>by
  unfold db
  split
  ·rename_i hk
   have hne:j≠τ ⟨k,hk⟩:=fun e=>by
    subst e
    rw [h1] at h
    simp at h
    lia
   simp only [upd,hne,if_false]
   exact jX k j (by lia)
  ·exact jX k j (by grind)
theorem vN:∀ (k:Nat) (j:F7) (q:Nat),db p τ k j=some q→q<7
 |0,j,q,h=>by cases h
 |k+1,j,q,h=>by
  unfold db at h
  split at h
  ·rename_i hk
   unfold upd at h
   split at h
   ·cases h
    have hn:db p τ k (τ ⟨k,hk⟩)=none:=jX h1 h2 k _ (by refine rT (h1 ..) ?_;exact KX _)
    exact (ew _ (ou _ (ov p _ _ _ hn))).1
   ·exact vN k j q h
  ·exact vN k j q h
variable (P:Pls p) {g:F7→AV} (rk:Rk g) (hg:∀ r,g r=(p (τ r)).item)
include P rk hg
theorem Eo (n:Nat) (H:AH) (x0:Option AV) (M m:Nat):∀ (k:Nat) (h:List F7) (X:VM),X.length=10→k+m=7→HSt k h →
  ∃ Y h',bZ (fun V H=>tv (orc (n+3)) cX (ev (orc (n+3)) cX V H) V H) (exs (orc (n+3)) 20 cY) (M+(m+1)) (x0::some (T (aG (af.map (rwF p (db p τ k)))))::some (.ref H.length)::some (.ref (H.length+1))::X) (H ++ .list (h.map g) :: .dict (aX p af)::[])=some (.next,x0::some (T (aG (af.map (rwF p (db p τ 7)))))::some (.ref H.length)::some (.ref (H.length+1))::Y,H ++ .list h' :: .dict (aX p af)::[]):=by
 have tr:∀ l:List AV,l.length<1000000→cG (H ++ .list l :: .dict (aX p af)::[]) (.ref H.length)=some (!l.isEmpty):=fun l hl=>Bv tS hl
 induction m with
 |zero =>
  intro k h X hX hm hst
  obtain rfl:k=7:=hm
  have he:h=[]:=by
   cases h with
   |nil=>rfl
   |cons a h=>exact absurd ((hst.mem a).mp Ka) (Nat.not_le_of_lt a.isLt)
  subst he
  exact⟨X,[],qe (iTV rfl (tr [] (by decide)))⟩
 |succ m ih =>
  intro k h X hX hm hst
  have hk:k<7:=hm▸Nat.lt_add_of_pos_right (Nat.succ_pos _)
  have hn:db p τ k (τ ⟨k,hk⟩)=none:=jX h1 h2 k _ (by refine rT (h1 ..) ?_;exact KX _)
  obtain⟨Z,e,hZ⟩:=turn P rk hg n H k hk h hst (db p τ k) (vN h1 h2 k) hn (ou _ (ov p _ _ _ hn)) x0 X hX
  have ec:upd (db p τ k) (τ ⟨k,hk⟩) (bC (eu p (db p τ k) (p (τ ⟨k,hk⟩)).top))=db p τ (k+1):=by rewrite [db];exact rT (dif_pos hk) rfl
  rw [ec] at e
  obtain⟨Y,h',e2⟩:=ih (k+1) (eB h).2 Z hZ (by refine rB hm ?_;exact Kb ..) (hst.pop hk).2
  have ht:cG (H ++ .list (h.map g) :: .dict (aX p af)::[]) (.ref H.length)=some true:=by
   refine rT (tr _ (by rw [List.length_map,kV _ _ hst.hp];exact KQ (Nat.sub_le ..) (by decide))) ?_
   cases h with
   |nil=>exact absurd ((hst.mem ⟨k,hk⟩).mpr (KX _)) List.not_mem_nil
   |cons a h=>rfl
  exact⟨Y,h',wGo (iTV rfl ht) e e2⟩
theorem tY (n:Nat) (H:AH):orc (n+4) 24 [T (aG (af.map (rwF p fun _=>none)))] [] H=some (T (aG (af.map (rwF p (db p τ 7)))),H):=by
 refine rT (kS ..) ?_;refine rT jK ?_
 have hg':∀ j,(p j).item=g (σ j):=fun j=>by refine rT (hg ..) ?_;exact rT (h2 ..) rfl
 have e1:=rD n (af.map (rwF p fun _=>none)) (BY P (fun j q h=>by cases h) af) (KQ (gW P (fun _=>none) af) (by decide)) (by simp [af]) (H ++ .list ([].map g) :: .dict (aX p [])::[])
 obtain⟨Y,e2,hY⟩:=Gj P rk hg' n H (fun _=>none) (some (T (aG (af.map (rwF p fun _=>none))))) (some (T (aG (af.map (rwF p fun _=>none))))) af [] 0 [] [none,none,none,none,none,none,none,none,none,none] rfl (by decide) (by decide) (by decide)
 have hst:HSt 0 (af.foldl (fun l j=>dG l (σ j)) []):=by
  have:=vC (af.map σ) (by rfl) (by
   have hd:af.Nodup:=by decide
   exact hd.map σ fun a b hne e=>hne (by refine rB (h2 a) ?_;refine rB (h2 b) ?_;exact rT e rfl)) (fun y=>List.mem_map.mpr ⟨τ y,bd _,h1 y⟩)
  rw [List.foldl_map] at this
  exact this
 obtain⟨Z,h',e3⟩:=Eo h1 h2 P rk hg n H (some (T (aG (af.map (rwF p fun _=>none))))) 12 7 0 _ Y hY rfl hst
 have ed:aX p ([]++af)=aX p af:=rfl
 rw [ed] at e2
 have e0:aG (af.map (rwF p (db p τ 0)))=aG (af.map (rwF p fun _=>none)):=rfl
 rw [e0] at e3
 generalize aG (af.map (rwF p fun _=>none))=w0 at *
 generalize cZ 0 (af.map (rwF p fun _=>none))=TL at *
 generalize aG (af.map (rwF p (db p τ 7)))=w7 at *
 generalize aX p af=D7 at *
 generalize af.foldl (fun l j=>dG l (σ j)) []=hh at *
 exact vD (E := .list h' :: .dict D7::[]) (V':=some (T w0)::some (T w7)::some (.ref H.length)::some (.ref (H.length+1))::Z) (al (aH rfl rfl) (al (aH F2 rfl) (al (aH BZ rfl) (al (tC (IB (aR (iL rfl rfl) rfl e1)) e2) (al (rC e3) (bY (fy rfl))))))) rfl
end
theorem B0 {nc cn:Bool} {e f:AV→AV→Option Bool} {a b:AV} {l r:List AV} (h:e a b=some true):uu nc cn e f (a::l) (b::r)=uu nc cn e f l r:=bs h rfl
theorem ES {nc cn:Bool} {e f:AV→AV→Option Bool} {a b:AV} {l r:List AV} (h:e a b=some false):uu nc cn e f (a::l) (b::r)=f a b:=bs h rfl
theorem jl:∀ l:List Nat,bx l l=false
 |[]=>rfl
 |a::l=>by simp [bx,jl l]
theorem jY:∀ a b c:List Nat,bx a b=true→bx b c=true→bx a c=true
 |[],[],_,h,_=>by cases h
 |[],_::_,[],_,h=>by cases h
 |[],_::_,_::_,_,_=>rfl
 |_::_,[],_,h,_=>by cases h
 |_::_,_::_,[],_,h=>by cases h
 |a::l,b::m,c::n,h1,h2=>by
  unfold bx at h1 h2 ⊢
  split at h1
  ·rename_i e;subst e
   split at h2
   ·rename_i e;subst e
    simp only [if_true]
    exact jY l m n h1 h2
   ·rename_i e
    refine rT (if_neg e) ?_;exact h2
  ·rename_i e
   have h1':=of_decide_eq_true h1
   split at h2
   ·rename_i e2;subst e2
    refine rT (if_neg e) ?_;exact h1
   ·rename_i e2
    have h2':=of_decide_eq_true h2
    refine rT (if_neg (by omega)) ?_
    exact decide_eq_true (by omega)
theorem jZ:∀ a b:List Nat,a≠b→bx a b=true∨bx b a=true
 |[],[],h=>absurd rfl h
 |[],_::_,_ => .inl rfl
 |_::_,[],_ => .inr rfl
 |a::l,b::m,h=>by
  unfold bx
  by_cases e:a=b
  ·subst e
   simp only [if_true]
   exact jZ l m fun k=>h (by exact rT k rfl)
  ·refine rT (if_neg e) ?_;refine rT (if_neg (fun k=>e k.symm)) ?_
   rcases Nat.lt_or_gt_of_ne e with k|k
   ·exact .inl (decide_eq_true k)
   ·exact .inr (decide_eq_true k)
section
variable {p:F7→Pl} (P:Pls p)
noncomputable def klt (p:F7→Pl) (i j:F7):Bool:=if (p i).top.length=(p j).top.length then bx (p i).str (p j).str else decide ((p i).top.length<(p j).top.length)
theorem rL (i:F7):klt p i i=false:=by simp [klt,jl]
theorem qp (i j k:F7) (h1:klt p i j=true) (h2:klt p j k=true):klt p i k=true:=by
 unfold klt at *
 split at h1
 ·rename_i e1
  split at h2
  ·rename_i e2
   refine rT (if_pos (e1.trans e2)) ?_;exact jY _ _ _ h1 h2
  ·rename_i e2
   refine rT e1 ?_;refine rT (if_neg e2) ?_;exact h2
 ·rename_i e1
  have h1':=of_decide_eq_true h1
  split at h2
  ·rename_i e2
   refine rB e2 ?_;refine rT (if_neg e1) ?_;exact h1
  ·have h2':=of_decide_eq_true h2
   refine rT (if_neg (by omega)) ?_
   exact decide_eq_true (by omega)
theorem kZ (i j:F7) (h1:klt p i j=true):klt p j i=false:=by
 cases h2:klt p j i with
 |false=>rfl
 |true=>refine rB (rL (p:=p) i) ?_;exact rT (qp i j i h1 h2) rfl
include P
theorem k6 (i j:F7) (h:i≠j):klt p i j=true∨klt p j i=true:=by
 unfold klt
 by_cases e:(p i).top.length=(p j).top.length
 ·refine rT (if_pos e) ?_;refine rT (if_pos e.symm) ?_
  exact jZ _ _ fun k=>h (P.inj i j k)
 ·refine rT (if_neg e) ?_;refine rT (if_neg (fun k=>e k.symm)) ?_
  rcases Nat.lt_or_gt_of_ne e with k|k
  ·exact .inl (decide_eq_true k)
  ·exact .inr (decide_eq_true k)
theorem B1 (i j:F7):ltv (p i).item (p j).item=some (klt p i j):=by
 show ltL (fc 3) (w5 3) [.int (p i).top.length,T (p i).str,pth (p i).top] [.int (p j).top.length,T (p j).str,pth (p j).top]=_
 unfold klt
 by_cases e:(p i).top.length=(p j).top.length
 ·have e1:fc 3 (.int (p i).top.length) (.int (p j).top.length)=some true:=congrArg some (beq_iff_eq.mpr (congrArg Int.ofNat e))
  refine rT (if_pos e) ?_
  refine (B0 e1).trans ?_
  by_cases k:i=j
  ·subst k
   have e2:fc 3 (T (p i).str) (T (p i).str)=some true:=congrArg some (beq_self_eq_true _)
   have e3:fc 3 (pth (p i).top) (pth (p i).top)=some true:=congrArg some (beq_self_eq_true _)
   refine rT (jl ..) ?_
   exact (B0 e2).trans ((B0 e3).trans rfl)
  ·have hs:¬ (p i).str=(p j).str:=fun h=>k (P.inj i j h)
   have e2:fc 3 (T (p i).str) (T (p j).str)=some false:=congrArg some (beq_eq_false_iff_ne.mpr fun h=>hs (jT h))
   exact (ES e2).trans rfl
 ·have e1:fc 3 (.int (p i).top.length) (.int (p j).top.length)=some false:=congrArg some (beq_eq_false_iff_ne.mpr fun h=>e (Int.ofNat.inj h))
  refine rT (if_neg e) ?_
  exact (ES e1).trans (congrArg some (decide_eq_decide.mpr Int.ofNat_lt))
structure Ord (p:F7→Pl) (τ σ:F7→F7):Prop where
 h1:∀ r,σ (τ r)=r
 h2:∀ j,τ (σ j)=j
 lt:∀ a b,klt p (τ a) (τ b)=decide (a<b)
theorem Gl:∃ τ σ,Ord p τ σ:=by
 let Y:=af.mergeSort fun i j=>!klt p j i
 have hp:Y.Perm af:=List.mergeSort_perm _ _
 have hn:Y.Nodup:=hp.nodup_iff.mpr (by decide)
 have hl:Y.length=7:=hp.length_eq
 have hm:∀ j,j∈Y:=fun j=>hp.mem_iff.mpr (bd j)
 have hs:Y.Pairwise fun i j=>(!klt p j i)=true:=List.pairwise_mergeSort (le:=fun i j=>!klt p j i) (fun a b c h1 h2=>by
  simp only [Bool.not_eq_true'] at *
  by_cases e:c=a
  ·subst e;exact rL c
  ·rcases k6 P c a e with k|k
   ·exfalso
    by_cases e1:a=b
    ·subst e1;rw [k] at h2;cases h2
    ·rcases k6 P a b e1 with k1|k1
     ·have:=qp c a b k k1;rw [this] at h2;cases h2
     ·rw [k1] at h1;cases h1
   ·exact kZ _ _ k) (fun a b=>by
  cases h:klt p b a with
  |false=>simp
  |true=>simp [kZ _ _ h]) af
 generalize Y=Y at *
 refine⟨fun r=>Y[r.val]'(by refine rT hl ?_;exact r.isLt),fun j=>⟨Y.idxOf j,Nat.lt_of_lt_of_eq (List.idxOf_lt_length_iff.mpr (hm j)) hl⟩,fun r => ?_,fun j => ?_,fun a b => ?_⟩
 ·exact Fin.ext (hn.idxOf_getElem _ _)
 ·exact List.getElem_idxOf _
 ·have key:∀ i j:Nat,(hi:i<Y.length)→(hj:j<Y.length)→i<j→klt p Y[i] Y[j]=true:=by
   intro i j hi hj hij
   have h1:=List.pairwise_iff_getElem.mp hs i j hi hj hij
   have h2:Y[i]≠Y[j]:=fun e=>by
    have:=(List.pairwise_iff_getElem.mp hn i j hi hj hij);exact this e
   rcases k6 P _ _ h2 with k|k
   ·exact k
   ·rw [k] at h1;cases h1
  rcases Nat.lt_trichotomy a.val b.val with h|h|h
  ·refine rT (key _ _ _ _ h) ?_;exact (decide_eq_true h).symm
  ·have:a=b:=Fin.ext h
   subst this
   refine rT (rL ..) ?_;simp
  ·refine rT (kZ _ _ (key b.val a.val (by rw [hl];exact b.isLt) (by rw [hl];exact a.isLt) h)) ?_
   exact (decide_eq_false (fun k:a.val<b.val=>by omega)).symm
theorem Ord.rk {τ σ:F7→F7} (o:Ord p τ σ):Rk fun r=>(p (τ r)).item:=⟨fun a b=>by refine rT (B1 P ..) ?_;exact rT (o.lt ..) rfl,fun a=>rfl⟩
theorem rM (n:Nat) (H:AH) {τ σ:F7→F7} (o:Ord p τ σ):orc (n+4) 24 [T (aG (af.map (rwF p fun _=>none)))] [] H=some (T (aG (af.map (rwF p (db p τ 7)))),H):=tY o.h1 o.h2 P (o.rk P) (fun _=>rfl) n H
end
theorem ox:∀ a b:List Nat,lcp a b=lcp b a
 |[],[]=>rfl
 |[],_::_=>rfl
 |_::_,[]=>rfl
 |a::l,b::r=>by
  unfold lcp
  by_cases e:a=b
  ·subst e;simp [ox l r]
  ·refine rT (if_neg e) ?_;exact rT (if_neg (fun k=>e k.symm)) rfl
theorem k7 (a b:List Nat):dist a b=dist b a:=by
 unfold dist;refine rT (ox ..) ?_;exact congrArg (·-_) (Int.add_comm ..)
theorem dle {a b L r:Nat}:((a:Int)+b-2*L≤r)↔a+b≤r+2*L:=⟨fun h=>(Int.ofNat_le (m:=a+b) (n:=r+2*L)).mp (Int.le_add_of_sub_right_le h),fun h=>Int.sub_right_le_of_le_add (Int.ofNat_le.mpr h)⟩
theorem qq:∀ (a b:List Nat) (m:Nat),lcp a (b.take m)=(lcp a b).take m
 |[],b,m=>by simp [lcp]
 |a::l,[],m=>by simp [lcp]
 |a::l,b::r,0=>by rfl
 |a::l,b::r,m+1=>by
  refine rT List.take_succ_cons ?_
  unfold lcp
  split
  ·refine rT List.take_succ_cons ?_;exact rT (qq l r m) rfl
  ·rfl
theorem Gm (a b:List Nat):(lcp a b).length≤a.length:=by
 refine rT (jR ..) ?_;exact List.length_take_le' ..
theorem zb (x u:List Nat) (r:Nat) (h:dist x u≤r):u.take (u.length-r)=x.take (u.length-r)∧u.length-r≤x.length:=by
 have h1:=Gm x u
 have hc:u.length-r≤(lcp x u).length:=Nat.sub_le_of_le_add (Nat.le_of_add_le_add_left (a:=(lcp x u).length) (Kv (Nat.add_le_add_right h1 u.length) (Kv (dle.mp h) (Kh ((Nat.add_comm r _).trans ((congrArg (·+r) (Nat.two_mul _)).trans (Nat.add_assoc _ _ r)))))))
 refine⟨?_,Kv hc h1⟩
 have e1:lcp x u=x.take (lcp x u).length:=jR x u
 have e2:lcp x u=u.take (lcp x u).length:=by refine rT (ox ..) ?_;exact jR u x
 have f1:x.take (u.length-r)=(lcp x u).take (u.length-r):=by refine rT e1 ?_;refine rT List.take_take ?_;exact congrArg (List.take · x) (Nat.min_eq_left hc).symm
 have f2:u.take (u.length-r)=(lcp x u).take (u.length-r):=by refine rT e2 ?_;refine rT List.take_take ?_;exact congrArg (List.take · u) (Nat.min_eq_left hc).symm
 refine rT f1 ?_;exact rT f2 rfl
theorem lK (x v:List Nat) (r m:Nat) (h:dist x v≤r) (hm:m≤x.length) (hv:v.length-r≤m):dist v (x.take m)≤r:=by
 rw [k7] at h
 unfold dist at *
 refine rT (qq ..) ?_
 refine dle.mpr ?_
 refine rT List.length_take ?_;refine rT List.length_take ?_;refine rT (Nat.min_eq_left hm) ?_
 rcases Nat.le_total m (lcp v x).length with k|k
 ·refine rT (Nat.min_eq_left k) ?_
  exact Kv (Nat.add_le_add_right (Nat.sub_le_iff_le_add.mp hv) m) (Kh ((Kb m r m).trans ((Nat.add_comm _ r).trans (congrArg (r+·) (Nat.two_mul m).symm))))
 ·refine rT (Nat.min_eq_right k) ?_
  exact Kv (Nat.add_le_add_left hm _) (dle.mp h)
theorem B2 (l:List Nat) (h:dH l≠[]):bC l≤l.length:=by
 have:∀ x∈List.range (bC l),x∈l:=by
  intro x hx
  by_cases hm:x∈l
  ·exact hm
  ·exfalso
   have hlt:=(ew l h).1
   have hx':x<bC l:=by simpa using hx
   have hf:x∈dH l:=List.mem_filter.mpr ⟨List.mem_range.mpr (Kd hx' hlt),by simpa using hm⟩
   have hs:=jV l
   unfold bC at hx'
   generalize dH l=r at *
   cases r with
   |nil=>cases hf
   |cons a r =>
    simp at hx'
    rcases KJ.mp hf with rfl|k
    ·exact absurd hx' (Nat.lt_irrefl _)
    ·exact absurd hx' (Nat.lt_asymm ((List.pairwise_cons.mp hs).1 x k))
 have:=kY (List.range (bC l)) l List.nodup_range this
 simpa using this
theorem dI {α β:Type} (f:α→Option β) (q:α→Bool):∀ l:List α,(∀ a∈l,f a≠none→q a=true)→l.filterMap f=(l.filter q).filterMap f
 |[],_=>rfl
 |a::l,h=>by
  have ih:=dI f q l fun b hb=>h b (by simp [hb])
  cases hq:q a with
  |true =>
   refine rT (List.filter_cons_of_pos hq) ?_
   cases hf:f a<;>simp [hf,ih]
  |false =>
   have:f a=none:=by
    cases hf:f a with
    |none=>rfl
    |some y=>have:=h a (by simp) (by refine rT hf ?_;simp);rw [hq] at this;cases this
   refine rT (List.filter_cons_of_neg (by simp [hq])) ?_;refine rT (List.filterMap_cons_none this) ?_
   exact ih
section
variable {p:F7→Pl} {τ σ:F7→F7} (P:Pls p) (o:Ord p τ σ)
noncomputable def eC (p:F7→Pl) (τ σ:F7→F7) (j:F7):Nat:=bC (eu p (db p τ (σ j).val) (p j).top)
noncomputable def inR (p:F7→Pl) (x:List Nat) (j:F7):Bool:=decide (dist x (p j).s≤(p j).d)
noncomputable def iW (p:F7→Pl) (x:List Nat):List F7:=af.filter (inR p x)
include o
theorem iq:∀ (k:Nat) (j:F7),db p τ k j=if (σ j).val<k then some (eC p τ σ j) else none
 |0,j=>by rfl
 |k+1,j=>by
  unfold db
  split
  ·rename_i hk
   unfold upd
   by_cases e:j=τ ⟨k,hk⟩
   ·refine rT (if_pos e) ?_
    have es:σ j=⟨k,hk⟩:=by refine rT e ?_;exact rT (o.h1 ..) rfl
    have es':(σ j).val=k:=by exact rT es rfl
    refine rT (if_pos (Nat.lt_succ_of_le (Kh es'))) ?_
    unfold eC
    refine rT es' ?_;exact rB e rfl
   ·refine rT (if_neg e) ?_;refine rT (iq k j) ?_
    have:(σ j).val≠k:=fun h=>e (by refine rB (o.h2 j) ?_;congr 1;exact Fin.ext h)
    by_cases h:(σ j).val<k
    ·refine rT (if_pos h) ?_;exact rT (if_pos (Nat.lt_succ_of_lt h)) rfl
    ·refine rT (if_neg h) ?_;exact rT (if_neg fun q=>(Nat.lt_succ_iff_lt_or_eq.mp q).elim h this) rfl
  ·rename_i hk
   refine rT (iq k j) ?_
   have:=KZ (σ j).isLt (Nat.le_of_not_lt hk)
   refine rT (if_pos this) ?_;exact rT (if_pos (Nat.lt_succ_of_lt this)) rfl
theorem B3 (j:F7):db p τ 7 j=some (eC p τ σ j):=by refine rT (iq o ..) ?_;exact rT (if_pos (σ j).isLt) rfl
theorem jm (j:F7):dH (eu p (db p τ (σ j).val) (p j).top)≠[] :=
 ou _ (ov p _ _ j (by refine rT (iq o ..) ?_;exact rT (if_neg (Nat.lt_irrefl _)) rfl))
theorem Ep (j:F7):eC p τ σ j<7:=(ew _ (jm o j)).1
theorem Gn (i j:F7) (h:(σ i).val<(σ j).val):(p i).top.length≤(p j).top.length:=by
 have:=o.lt (σ i) (σ j)
 rw [o.h2,o.h2] at this
 have h':σ i<σ j:=h
 rw [decide_eq_true h'] at this
 unfold klt at this
 split at this
 ·lia
 ·have:=of_decide_eq_true this;lia
theorem qr (x:List Nat) (u v:F7) (h:(σ v).val<(σ u).val) (hu:dist x (p u).s≤(p u).d) (hv:dist x (p v).s≤(p v).d):eC p τ σ v≠eC p τ σ u:=by
 intro e
 have h1:=(ew _ (jm o u)).2
 refine h1 ?_
 obtain⟨a1,a2⟩:=zb x (p u).s (p u).d hu
 have hl:=Gn o v u h
 have b:dist (p v).s (p u).top≤(p v).d:=by
  unfold Pl.top at *
  refine rT a1 ?_
  refine lK x (p v).s (p v).d _ hv a2 ?_
  rw [List.length_take,List.length_take] at hl
  exact Kv (Kh (Nat.min_eq_left (Nat.sub_le ..)).symm) (Kv hl (Kh (Nat.min_eq_left (Nat.sub_le ..))))
 refine List.mem_filterMap.mpr ⟨v,bd v,?_⟩
 unfold jU
 refine rT (iq o ..) ?_;refine rT (if_pos h) ?_
 simp only [Option.bind_some,b,if_true]
 exact congrArg some e
theorem Gp (x:List Nat) (u v:F7) (h:u≠v) (hu:inR p x u=true) (hv:inR p x v=true):eC p τ σ u≠eC p τ σ v:=by
 have hne:(σ u).val≠(σ v).val:=fun e=>h (by refine rB (o.h2 u) ?_;refine rB (o.h2 v) ?_;exact rT (Fin.ext e) rfl)
 rcases Nat.lt_or_gt_of_ne hne with k|k
 ·exact qr o x v u k (of_decide_eq_true hv) (of_decide_eq_true hu)
 ·exact (qr o x u v k (of_decide_eq_true hu) (of_decide_eq_true hv)).symm
theorem zc (u:F7):eC p τ σ u<(iW p (p u).top).length:=by
 have h1:=B2 _ (jm o u)
 refine KQ h1 ?_
 have he:eu p (db p τ (σ u).val) (p u).top=(iW p (p u).top).filterMap (jU p (db p τ (σ u).val) (p u).top):=by
  refine dI _ _ _ fun a _ hn => ?_
  unfold jU at hn
  cases hc:db p τ (σ u).val a with
  |none=>rw [hc] at hn;simp at hn
  |some q =>
   rw [hc] at hn
   simp only [Option.bind_some] at hn
   split at hn
   ·rename_i hd
    unfold inR
    refine rT (k7 ..) ?_
    exact decide_eq_true hd
   ·simp at hn
 refine rT he ?_
 refine (jW _ _).2 u (List.mem_filter.mpr ⟨bd u,?_⟩) ?_
 ·unfold inR
  refine decide_eq_true ?_
  refine rT (k7 ..) ?_
  refine lK (p u).s (p u).s (p u).d _ ?_ (by omega) (KX _)
  have:∀ l:List Nat,lcp l l=l:=by
   intro l
   induction l with
   |nil=>rfl
   |cons a l ih=>simp [lcp,ih]
  unfold dist
  refine rT (this ..) ?_
  lia
 ·unfold jU
  refine rT (iq o ..) ?_;refine rT (if_neg (Nat.lt_irrefl _)) ?_
  rfl
end
theorem tZ:∀ a b:List Nat,con a b=con b a
 |[],[]=>rfl
 |[],_::_=>rfl
 |_::_,[]=>rfl
 |a::l,b::r=>by
  unfold con
  by_cases e:a=b
  ·subst e;simp [tZ l r]
  ·refine rT (if_neg e) ?_;refine rT (if_neg (fun k=>e k.symm)) ?_;refine rP Bool.eq_iff_iff ?_;refine rP List.all_eq_true ?_;refine rP List.all_eq_true ?_
   simp only [List.contains_eq_mem,Bool.not_eq_true',decide_eq_false_iff_not]
   exact⟨fun h x hx k=>h x k hx,fun h x hx k=>h x k hx⟩
theorem t4:∀ a:List Nat,con a a=true
 |[]=>rfl
 |a::l=>by simp [con,t4 l]
theorem t5 (x:Nat):∀ a b:List Nat,con a b=true→x∉a→con a (b++[x])=true
 |[],b,_,_=>by simp [con]
 |a::l,[],_,hx=>by
  have:¬ a=x:=fun e=>hx (by simp [e])
  have h2:x∉l:=fun h=>hx (by simp [h])
  simp only [List.nil_append,con,this,if_false]
  refine rP List.all_eq_true ?_
  intro y hy
  simp only [List.contains_eq_mem,Bool.not_eq_true',decide_eq_false_iff_not,List.mem_singleton]
  intro e
  subst e
  exact hx hy
 |a::l,b::r,h,hx=>by
  unfold con at h
  refine rT List.cons_append ?_
  unfold con
  split at h
  ·rename_i e
   refine rT (if_pos e) ?_
   exact t5 x l r h fun k=>hx (by simp [k])
  ·rename_i e
   refine rT (if_neg e) ?_;refine rP List.all_eq_true ?_
   intro y hy
   have:=Kc.mp h y hy
   simp only [List.contains_eq_mem,Bool.not_eq_true',decide_eq_false_iff_not] at this ⊢
   intro k
   rw [← List.cons_append] at k
   rcases List.mem_append.mp k with k|k
   ·exact this k
   ·simp at k;subst k;exact hx hy
section
variable {A:Nat→Nat} (hA:∀ k,0<k→A k<k)
include hA
theorem B4 {k:Nat} (hk:k<7):∀ x∈aq A k,x≤k:=by
 refine rT (gV A hk) ?_;refine rT List.getD_eq_getElem?_getD ?_;refine rT (Ky (by rw [dv];exact Nat.le.refl)) ?_
 exact (im A k hk _ (List.getElem_mem _)).2
theorem k8:∀ (m i k:Nat),i+k≤m→i<7→k<7→con (aq A i) (aq A k)=true
 |0,i,k,h,hi,hk=>by
  obtain rfl:i=0:=Nat.le_zero.mp (Kv (Kf i k) h)
  refine rT (jk ..) ?_;rfl
 |m+1,i,k,h,hi,hk=>by
  have key:∀ i k,i+k≤m+1→i<k→k<7→con (aq A i) (aq A k)=true:=by
   intro i k h h1 hk
   obtain⟨k,rfl⟩:=Nat.exists_eq_succ_of_ne_zero (Nat.ne_of_gt (KQ (Nat.zero_le i) h1))
   have hlt:=hA (k+1) (Nat.succ_pos k)
   refine rT (fS A (Nat.lt_of_succ_lt_succ hk) hlt) ?_
   refine t5 _ _ _ (k8 m i (A (k+1)) (Kv (Nat.add_le_add_left (Nat.le_of_lt_succ hlt) i) (Nat.le_of_succ_le_succ h)) (Kd h1 hk) (Kd hlt hk)) fun hx => ?_
   exact Nat.not_le.mpr h1 (B4 hA (k:=i) (Kd h1 hk) _ hx)
  rcases Nat.lt_trichotomy i k with e|e|e
  ·exact key i k h e hk
  ·subst e;exact t4 _
  ·refine rT (tZ ..) ?_;exact key k i (Kv (Kh (Nat.add_comm k i)) h) e hi
theorem oy {k:Nat} (hk:k<7):(aq A k).getLastD 0=k:=by
 cases k with
 |zero=>refine rT (jk ..) ?_;rfl
 |succ k=>refine rT (fS A (Nat.lt_of_succ_lt_succ hk) (hA (k+1) (Nat.succ_pos k))) ?_;simp
theorem oz:∀ (m k:Nat),k≤m→k<7→∀ n,∃ i,i<7∧(aq A k).take n=aq A i
 |m,0,_,_,n=>⟨0,by decide,by refine rT (jk ..) ?_;simp⟩
 |m+1,k+1,h,hk,n=>by
  have hlt:=hA (k+1) (Nat.succ_pos k)
  refine rT (fS A (Nat.lt_of_succ_lt_succ hk) hlt) ?_
  by_cases hn:n≤(aq A (A (k+1))).length
  ·refine rT (List.take_append_of_le_length hn) ?_
   exact oz m (A (k+1)) (Kv (Nat.le_of_lt_succ hlt) (Nat.le_of_succ_le_succ h)) (Kd hlt hk) n
  ·refine⟨k+1,hk,?_⟩
   refine rT (fS A (Nat.lt_of_succ_lt_succ hk) hlt) ?_;exact rT (List.take_of_length_le (Kv (Kh List.length_append) (Nat.lt_of_not_le hn))) rfl
end
noncomputable def Er (l:List Nat):Nat:=(l.reverse.takeWhile fun x=>x != 47).length
theorem t6:∀ q∈rE,Er (aS q.1 q.2)=q.2.getLastD 0:=by decide +kernel
section
variable {p:F7→Pl} {τ σ:F7→F7} (o:Ord p τ σ)
noncomputable def k9 (l:List Nat):Nat:=l.foldl max 0
theorem t7:∀ (l:List Nat) (a:Nat),a≤l.foldl max a∧∀ x∈l,x≤l.foldl max a
 |[],a=>⟨KX _,fun x h=>by cases h⟩
 |b::l,a=>by
  obtain⟨h1,h2⟩:=t7 l (max a b)
  refine rT List.foldl_cons ?_
  refine⟨Kv (Nat.le_max_left a b) h1,fun x hx => ?_⟩
  rcases KJ.mp hx with rfl|hx
  ·exact Kv (Nat.le_max_right a _) h1
  ·exact h2 x hx
theorem la:∀ (l:List Nat) (a:Nat),l.foldl max a=a∨l.foldl max a∈l
 |[],a => .inl rfl
 |b::l,a=>by
  refine rT List.foldl_cons ?_
  rcases la l (max a b) with h|h
  ·refine rT h ?_
   by_cases k:a≤b
   ·exact .inr (by refine rT (Nat.max_eq_right k) ?_;simp)
   ·exact .inl (Nat.max_eq_left (Nat.le_of_not_le k))
  ·exact .inr (List.mem_cons_of_mem _ h)
noncomputable def lb (p:F7→Pl) (τ σ:F7→F7) (x:List Nat):List Nat:=(iW p x).map (eC p τ σ)
include o
theorem qs (x:List Nat):(lb p τ σ x).Nodup:=by
 have h:(iW p x).Nodup:=List.Pairwise.filter _ (by decide:af.Nodup)
 refine List.pairwise_map.mpr ?_
 have h2:(iW p x).Pairwise fun a b=>a≠b∧a∈iW p x∧b∈iW p x:=by
  refine (List.pairwise_iff_getElem).mpr fun i j hi hj hij=>⟨(List.pairwise_iff_getElem.mp h) i j hi hj hij,List.getElem_mem _,List.getElem_mem _⟩
 refine h2.imp fun {a b} ⟨h1,h2,h3⟩ => ?_
 exact Gp o x a b h1 (List.mem_filter.mp h2).2 (List.mem_filter.mp h3).2
theorem B5 (xs:List (List Nat)) (hx:xs≠[]) (hclos:∀ j,(p j).top∈xs) (q:Nat):(∃ j,eC p τ σ j=q)↔q<k9 (xs.map fun x=>(lb p τ σ x).length):=by
 have hmax:=t7 (xs.map fun x=>(lb p τ σ x).length) 0
 have hmem:=la (xs.map fun x=>(lb p τ σ x).length) 0
 have up:∀ j,eC p τ σ j<k9 (xs.map fun x=>(lb p τ σ x).length):=by
  intro j
  have h1:=zc o j
  have h2:=hmax.2 (lb p τ σ (p j).top).length (List.mem_map.mpr ⟨_,hclos j,rfl⟩)
  unfold lb at h2
  rw [List.length_map] at h2
  exact KZ h1 h2
 constructor
 ·rintro⟨j,rfl⟩;exact up j
 ·intro hq
  have hm:k9 (xs.map fun x=>(lb p τ σ x).length)∈xs.map fun x=>(lb p τ σ x).length:=by
   rcases hmem with h|h
   ·exact absurd (Nat.lt_of_lt_of_eq hq h) (Nat.not_lt_zero q)
   ·exact h
  obtain⟨x,_,hx2⟩:=Kg.mp hm
  by_cases hin:q∈lb p τ σ x
  ·obtain⟨j,_,rfl⟩:=Kg.mp hin
   exact⟨j,rfl⟩
  ·exfalso
   have hn:(q::lb p τ σ x).Nodup:=List.nodup_cons.mpr ⟨hin,qs o x⟩
   have:=kY _ (List.range (k9 (xs.map fun x=>(lb p τ σ x).length))) hn fun y hy=>by
    rcases KJ.mp hy with rfl|hy
    ·exact List.mem_range.mpr hq
    ·obtain⟨j,_,rfl⟩:=Kg.mp hy
     exact List.mem_range.mpr (up j)
   rw [List.length_range,List.length_cons] at this
   exact Nat.not_succ_le_self _ (Kv this (Kh hx2.symm))
end
theorem rN (l:List Int) (m:Nat) (h:∀ i:Int,i∈l↔0≤i∧i<m):dY (l.foldl (fun acc i=>if acc.contains i then acc else acc++[i]) [])=(List.range m).map fun (k:Nat)=>(k:Int):=by
 obtain⟨f1,f2,f3⟩:=dP l [] .nil
 generalize l.foldl (fun acc i=>if acc.contains i then acc else acc++[i]) []=D at *
 have hr:((List.range m).map fun (k:Nat)=>(k:Int)).Nodup:=by
  have:(List.range m).Nodup:=List.nodup_range
  exact this.map _ fun a b hne e=>hne (Int.ofNat.inj e)
 have hs:((List.range m).map fun (k:Nat)=>(k:Int)).Pairwise (·≤·):=by
  refine List.pairwise_map.mpr ?_
  exact List.pairwise_lt_range.imp fun {a b} h=>Int.ofNat_le.mpr (KW h)
 refine List.Perm.eq_of_pairwise (le:=(·≤·)) (fun a b _ _ h1 h2=>Int.le_antisymm h1 h2) (dC D) hs ((eX D).trans ?_)
 refine (List.perm_ext_iff_of_nodup f1 hr).mpr fun a => ?_
 refine rP (f2 ..) ?_
 simp only [List.not_mem_nil,false_or,h,List.mem_map,List.mem_range]
 constructor
 ·rintro⟨h1,h2⟩;exact⟨a.toNat,(Int.toNat_lt h1).mpr h2,Int.toNat_of_nonneg h1⟩
 ·rintro⟨k,hk,rfl⟩;exact⟨Int.natCast_nonneg k,Int.ofNat_lt.mpr hk⟩
theorem oA (f:AV→AV→Option Bool) (l:List AV):(∀ x∈l,f x x=some true)→eqL f l l=some true:=by
 induction l with
 |nil=>exact fun _=>rfl
 |cons a l ih=>exact fun h=>bs (h a Ka) (bs (ih fun x hx=>h x (List.mem_cons_of_mem _ hx)) rfl)
theorem B6 (l:List Nat):eqv (.lst (aL l)) (.lst (aL l))=some true:=by
 refine oA (fc 3) _ fun x hx => ?_
 obtain⟨q,_,rfl⟩:=Kg.mp hx
 exact congrArg some (beq_self_eq_true _)
theorem zd (l:List Nat):∀ a:Nat,(aL l).foldlM (lj gtv) (AV.int a)=some (AV.int (l.foldl max a:Nat)):=by
 induction l with
 |nil=>exact fun _=>rfl
 |cons b l ih =>
  intro a
  rewrite [aL];refine rT List.map_cons ?_;refine rT List.foldlM_cons ?_;refine rT List.foldl_cons ?_
  by_cases h:a<b
  ·refine rT (Nat.max_eq_right (KW h)) ?_
   exact bs (bs (congrArg some (decide_eq_true (Int.ofNat_lt.mpr h))) rfl) (ih b)
  ·refine rT (Nat.max_eq_left (Nat.le_of_not_lt h)) ?_
   exact bs (bs (congrArg some (decide_eq_false fun k=>h (Int.ofNat_lt.mp k))) rfl) (ih a)
theorem B7 (H:AH) (l:List Nat) (h:l≠[]):abi H .max [.lst (aL l)]=some (.int (k9 l:Nat)):=by
 cases l with
 |nil=>exact absurd rfl h
 |cons a l =>
  rewrite [k9];refine rT List.foldl_cons ?_;refine rT (Nat.zero_max ..) ?_
  exact zd l a
theorem B8 (H:AH) (l:List Nat) (h:l≠[]):∃ m:Nat,abi H .min [.lst (aL l)]=some (.int m):=by
 have:∀ (l:List Nat) (a:Nat),∃ m:Nat,(aL l).foldlM (lj ltv) (AV.int a)=some (AV.int m):=by
  intro l
  induction l with
  |nil=>exact fun a=>⟨a,rfl⟩
  |cons b l ih =>
   intro a
   rewrite [aL];refine rT List.map_cons ?_;refine rT List.foldlM_cons ?_
   by_cases h:(b:Int)<a
   ·obtain⟨m,e⟩:=ih b
    exact⟨m,bs (bs (congrArg some (decide_eq_true h)) rfl) e⟩
   ·obtain⟨m,e⟩:=ih a
    exact⟨m,bs (bs (congrArg some (decide_eq_false h)) rfl) e⟩
 cases l with
 |nil=>exact absurd rfl h
 |cons a l=>exact this l a
theorem vO (l:List (List Nat)):ml (l.map fun x=>T x)=some l:=by
 induction l with
 |nil=>rfl
 |cons a l ih=>exact bs rfl (bs ih rfl)
theorem qt {α:Type}:∀ l:List (List α),bk [] l=l.flatten
 |[]=>rfl
 |[a]=>by simp [bk]
 |a::b::l=>by
  have:bk [] (a::b::l)=a++[]++bk [] (b::l):=rfl
  refine rT this ?_;refine rT (qt (b::l)) ?_;simp
theorem t8 (H:AH) (l:List (List Nat)) (h:(l.map (·.length)).sum≤1000000):fH .sjoin H (.str ⟨#[]⟩) [.lst (l.map fun x=>T x)]=some (T l.flatten,H):=by
 exact bs (bs (vO l) ((if_pos h).trans (by exact rT (show bk (⟨#[]⟩:Str).cps.toList l=l.flatten from qt l) rfl))) rfl
theorem Es:∀ l:List (List Nat),(∀ x∈l,x.length≤100)→(l.map (·.length)).sum≤l.length*100:=by
 intro l
 induction l with
 |nil=>exact fun _=>KX 0
 |cons x l ih =>
  intro h
  refine rT (List.sum_cons:(x.length::l.map (·.length)).sum=_) ?_;refine rT (Nat.succ_mul ..) ?_;refine rT (Nat.add_comm ..) ?_
  exact Nat.add_le_add (ih fun y hy=>h y (.tail _ hy)) (h x (.head _))
theorem IC {g:F7→List Nat} (h:∀ j,(g j).length≤100):((af.map g).map (·.length)).sum≤1000000 :=
 Kv (Es _ fun x hx=>by obtain⟨j,_,rfl⟩:=Kg.mp hx;exact h j) (by rw [List.length_map];decide)
theorem Et:∀ a∈ba,∀ b∈ba.filter (con a),((fT a).filter (!(fT b).contains ·)++(fT b).filter (!(fT a).contains ·)).length+2*(lcp a b).length=a.length+b.length:=by decide +kernel
theorem Eu (H:AH) {a b:List Nat} (ha:a∈ba) (hb:b∈ba) (hc:con a b=true):∃ l,fF H .BitXor (bf a) (bf b)=some (.set l)∧(l.length:Int)=dist a b:=by
 have h1:=(io a ha).2
 have h2:=(io b hb).2
 have h3:(fT a).length≤30∧(fT b).length≤30:=by lia
 have h4:=Et a ha b (List.mem_filter.mpr ⟨hb,hc⟩)
 refine⟨((fT a).filter (!(fT b).contains ·)++(fT b).filter (!(fT a).contains ·)).map .int,?_,?_⟩
 ·exact bs (jS _) (bs (jS _) (if_pos h3))
 ·refine rT (List.length_map ..) ?_;unfold dist;lia
noncomputable def ID:AV→AV
 |.tup [_,b,c,_] => .tup [b,c]
 |a=>a
noncomputable def IE:AV→AV
 |.tup [_,_,_,d]=>d
 |a=>a
theorem t9:∀ (n:Nat) (rs:List Rw),(cZ n rs).map ID=rs.map fun r=>AV.tup [.int r.d,T r.s]
 |_,[]=>rfl
 |n,r::rs=>by rewrite [cZ];refine rT List.map_cons ?_;refine rT List.map_cons ?_;refine rT (t9 ..) ?_;rfl
theorem ua:∀ (n:Nat) (rs:List Rw),(cZ n rs).map IE=rs.map fun r=>AV.int (px r.c)
 |_,[]=>rfl
 |n,r::rs=>by rewrite [cZ];refine rT List.map_cons ?_;refine rT List.map_cons ?_;refine rT (ua ..) ?_;rfl
theorem oB:∀ (n:Nat) (rs:List Rw),∀ a∈cZ n rs,∃ x y z w,a = .tup [x,y,z,w]
 |_,[],_,h=>by cases h
 |n,r::rs,a,h=>by
  rw [cZ] at h
  rcases KJ.mp h with rfl|h
  ·exact⟨_,_,_,_,rfl⟩
  ·exact oB _ rs a h
theorem oC:∀ (n:Nat) (rs:List Rw),(cZ n rs).length=rs.length
 |_,[]=>rfl
 |n,r::rs=>by rewrite [cZ];refine rT List.length_cons ?_;refine rT (oC ..) ?_;exact rT List.length_cons rfl
noncomputable def Av (N:Nat→Int) (k:Nat):Nat:=if k=0 then 0 else abv N k
theorem oD (N:Nat→Int) (k:Nat) (h:0<k):Av N k<k:=by
 unfold Av;refine rT (if_neg (by lia)) ?_;exact Gf N h
noncomputable def rch (N:Nat→Int) (k:Nat):Nat:=(N k / 6 % 3).toNat
theorem B9 (N:Nat→Int) (k:Nat):rch N k≤2:=by unfold rch;lia
noncomputable def bp (f:Nat) (j:F7):Nat:=(f+j.val) % 7
theorem bD (f:Nat) (j:F7):bp f j<7:=Nat.mod_lt _ (by lia)
theorem Ca:∀ m i j:Fin 7,(m.1+i.1) % 7=(m.1+j.1) % 7→i=j:=by decide
theorem IF:∀ m k:Fin 7,∃ j:Fin 7,(m.1+j.1) % 7=k.1:=by decide
theorem Cb (f:Nat) (i j:F7) (h:bp f i=bp f j):i=j :=
 Ca ⟨f % 7,Nat.mod_lt _ (by decide)⟩ i j ((Nat.mod_add_mod ..).trans (h.trans (Nat.mod_add_mod ..).symm))
noncomputable def chN (N:Nat→Int) (k:Nat):List Nat:=aq (Av N) k
noncomputable def plF (N:Nat→Int) (f:Nat) (j:F7):Pl:=⟨rch N (bp f j),frm N (bp f j),chN N (bp f j)⟩
theorem Gq (N:Nat→Int) (f:Nat):Pls (plF N f) where
 ok j:=⟨B9 N _,kW N _,dW _ (bD f j)⟩
 con i j:=k8 (oD N) _ _ _ (KX _) (bD f i) (bD f j)
 inj i j h:=by
  have h1:=t6 _ (da (kW N (bp f i)) (dW (Av N) (bD f i)))
  have h2:=t6 _ (da (kW N (bp f j)) (dW (Av N) (bD f j)))
  have h3:aS (frm N (bp f i)) (aq (Av N) (bp f i))=aS (frm N (bp f j)) (aq (Av N) (bp f j)):=h
  simp only at h1 h2
  rw [h3,h2] at h1
  have e1:=oy (oD N) (bD f i)
  have e2:=oy (oD N) (bD f j)
  exact Cb f i j (by lia)
theorem qu {a:AV} (h:a∈az 0 7):∃ k:Nat,k<7∧a = .int k:=by
 rw [BO] at h
 rcases (by simpa using h:a = .int 0∨a = .int 1∨a = .int 2∨a = .int 3∨a = .int 4∨a = .int 5∨a = .int 6) with rfl|rfl|rfl|rfl|rfl|rfl|rfl
 ·exact⟨0,by lia,rfl⟩
 ·exact⟨1,by lia,rfl⟩
 ·exact⟨2,by lia,rfl⟩
 ·exact⟨3,by lia,rfl⟩
 ·exact⟨4,by lia,rfl⟩
 ·exact⟨5,by lia,rfl⟩
 ·exact⟨6,by exact Nat.le.refl,rfl⟩
section
variable {C:ae} {V:VM} {H:AH} {N:Nat→Int}
theorem ub:evI C (.range (.cons (.c (.int (7))) .nil)) V H=some (az 0 7,H):=rfl
theorem Ev (hV:(V[1]?).join=some (aB fun k => .int (N k))):ev C (.lc [none,none,some 1] (.name 1) (.range (.cons (.c (.int (7))) .nil)) .nil tG) V H=some (aB fun k => .int (rch N k),H):=by
 refine et (l:=az 0 7) (fun a=>(aK a).elim a fun k => .int (rch N k.1.toNat)) ub (by decide) fun a ha => ?_
 obtain⟨k,hk,rfl⟩:=qu ha
 have e1:=f7 H (fun k => .int (N k)) hk
 have hc:(dB V [none,none,some 1]).set 1 (some (AV.int k))=[none,some (.int k),some (aB fun k => .int (N k))]:=congrArg (fun z=>[none,some (AV.int k),z]) hV
 refine rT hc ?_
 have e2:((rch N k:Nat):Int)=N k / 6 % 3:=by unfold rch;lia
 exact bo (bo (bF rfl rfl e1) rfl rfl) rfl (show fF H .Mod (.int (N k / 6)) (.int 3)=some (.int (rch N k:Nat)) from e2▸rfl)
noncomputable def eZ (f:Nat):List AV:=af.map fun j=>AV.int (bp f j:Nat)
theorem Ew (f:Nat) (hf:f<7) (hV:(V[5]?).join=some (.int f)):ev C (.bin .Add (.listRange (.cons (.v 5) (.cons (.c (.int (7))) .nil))) (.listRange (.cons (.v 5) .nil))) V H=some (.lst (eZ f),H):=by
 have e:az f 7++az 0 f=eZ f:=Gg (P:=fun f=>az f 7++az 0 f=eZ f) rfl rfl rfl rfl rfl rfl rfl hf
 have hs : -1000≤(f:Int)∧(f:Int)≤1000:=⟨Int.le_trans (by decide) (Int.natCast_nonneg f),Int.le_trans (Int.ofNat_le.mpr (KW hf)) (by decide)⟩
 have h1:dZ [.int f,.int 7]=some (az f 7):=if_pos ⟨hs,(by decide:(-1000:Int)≤7),(by decide:(7:Int)≤1000)⟩
 have h2:dZ [.int f]=some (az 0 f):=if_pos hs
 have h3:(az f 7).length+(az 0 f).length≤1000000:=by rw [← List.length_append,e,eZ,List.length_map];decide
 have h4:fF H .Add (.lst (az f 7)) (.lst (az 0 f))=some (.lst (az f 7++az 0 f)):=if_pos h3
 rw [e] at h4
 exact bo (iLR (iL (iV hV) (iL rfl rfl)) h1) (iLR (iL (iV hV) rfl) h2) h4
noncomputable def bw (N:Nat→Int) (k:Nat):List Nat:=[48,48,48,48+rch N k]++[39]++aS (frm N k) (chN N k)++[39]
theorem uc (N:Nat→Int) {k:Nat} (hk:k<7):(aS (frm N k) (chN N k)).length<50:=(od _ (da (kW N k) (dW (Av N) hk))).1
theorem Gr (n f:Nat) (hV6:(V[6]?).join=some (.lst (eZ f))) (hV4:(V[4]?).join=some (aB fun k => .int (rch N k))) (hV3:(V[3]?).join=some (aB fun k=>T (aS (frm N k) (chN N k)))) :
  ev (orc (n+1)) (.lc [none,none,some 4,some 3] (.name 1) (.val (.v 6)) .nil nO) V H=some (.lst (af.map fun j=>T (bw N (bp f j))),H):=by
 have:=et (C:=orc (n+1)) (H:=H) (V:=V) (cp:=[none,none,some 4,some 3]) (i:=1) (it := .val (.v 6)) (elt:=nO) (l:=eZ f) (fun a=>(aK a).elim a fun k=>T (bw N k.1.toNat)) (vp hV6) (by simp [eZ,af]) (by
  intro a ha
  obtain⟨j,_,rfl⟩:=Kg.mp ha
  have hk:=bD f j
  generalize bp f j=k at *
  have e1:=fun H=>f7 H (fun k => .int (rch N k)) hk
  have e2:=fun H=>f7 H (fun k=>T (aS (frm N k) (chN N k))) hk
  have hc:(dB V [none,none,some 4,some 3]).set 1 (some (AV.int k))=[none,some (.int k),some (aB fun k => .int (rch N k)),some (aB fun k=>T (aS (frm N k) (chN N k)))]:=by show [none,some (AV.int k),(V[4]?).join,(V[3]?).join]=_;refine rT hV4 ?_;exact rT hV3 rfl
  refine rT hc ?_
  have hl:=uc N hk
  have e3:=fun H=>jj n (rch N k) (by have:=B9 N k;lia) H
  have e4:=fun H=>add_str H [48,48,48,48+rch N k] [39] (by simp)
  have e5:=fun H=>fR H ([48,48,48,48+rch N k]++[39]) (aS (frm N k) (chN N k)) (KX _) (KW hl) rfl
  have e6:=fun H=>fR H ([48,48,48,48+rch N k]++[39]++aS (frm N k) (chN N k)) [39] (tV (KX _) (KW hl)) (KX _) rfl
  exact bo (bo (bo (aR (iL (bF rfl rfl (e1 H)) rfl) rfl (e3 H)) rfl (e4 H)) (bF rfl rfl (e2 H)) (e5 H)) rfl (e6 H))
 refine rT this ?_
 rfl
theorem ir (N:Nat→Int) {k:Nat} (hk:k<7):(bw N k).length<60:=by
 exact Nat.lt_succ_of_le (Kv (tV (tV (KX _) (KW (uc N hk))) (KX _)) (Lj rfl))
theorem Ex (f:Nat) (hV7:(V[7]?).join=some (.lst (af.map fun j=>T (bw N (bp f j))))):ev C (.meth .sjoin (.c (.str ⟨#[]⟩)) (.cons (.lc [none,none] (.name 1) (.val (.v 7)) .nil nP) .nil)) V H=some (T (aG (af.map (rwF (plF N f) fun _=>none))),H):=by
 have e1:=et (C:=C) (H:=H) (V:=V) (cp:=[none,none]) (i:=1) (it := .val (.v 7)) (elt:=nP) (l:=af.map fun j=>T (bw N (bp f j))) (fun a=>(bu a).elim a fun x => .str ⟨x.1.cps++#[10]⟩) (vp hV7) (by simp [af]) (by
  intro a ha
  obtain⟨j,_,rfl⟩:=Kg.mp ha
  have hl:=ir N (bD f j)
  generalize bw N (bp f j)=w at *
  have hc:(dB V [none,none]).set 1 (some (T w))=[none,some (T w)]:=rfl
  refine rT hc ?_
  have e1:=fun H=>fR H w [10] (KW hl) (KX _) rfl
  exact (bo rfl rfl (e1 H)).trans (congrArg (fun z=>some (AV.str ⟨z⟩,H)) (by simp:(w++[10]).toArray=w.toArray++#[10])))
 have e2:(af.map fun j=>T (bw N (bp f j))).map (fun a=>(bu a).elim a fun x=>AV.str ⟨x.1.cps++#[10]⟩)=(af.map fun j=>bw N (bp f j)++[10]).map fun x=>T x:=by
  refine rT List.map_map ?_;refine rT List.map_map ?_
  apply List.map_congr_left
  intro j _
  exact congrArg (fun z=>AV.str ⟨z⟩) (by simp:(bw N (bp f j)).toArray++#[10]=(bw N (bp f j)++[10]).toArray)
 rw [e2] at e1
 have e3:=t8 H (af.map fun j=>bw N (bp f j)++[10]) (IC fun j=>Kv (tV (KW (ir N (bD f j))) (KX _)) (Lj rfl))
 have e4:(af.map fun j=>bw N (bp f j)++[10]).flatten=aG (af.map (rwF (plF N f) fun _=>none)):=by
  unfold aG
  refine rT List.flatMap_def ?_;refine rT List.map_map ?_
  congr 1
  apply List.map_congr_left
  intro j _
  simp [bw,dR,rwF,plF,jg,Pl.str,chN]
 rw [e4] at e3
 exact di rfl rfl (iL e1 rfl) e3
noncomputable def Cc (N:Nat→Int):AV→AV
 |.int k => .tup [.int (rch N k.toNat),T (aS (frm N k.toNat) (chN N k.toNat))]
 |a=>a
theorem Gs (n f:Nat) (c:F7→Option Nat) (hV9:(V[9]?).join=some (.lst (cZ 0 (af.map (rwF (plF N f) c))))) (hV6:(V[6]?).join=some (.lst (eZ f))) (hV4:(V[4]?).join=some (aB fun k => .int (rch N k))) (hV3:(V[3]?).join=some (aB fun k=>T (aS (frm N k) (chN N k)))) :
  tv C (.cmp (.lc [none,none] (.name 1) (.val (.v 9)) .nil jL) (.cons .NotEq (.lc [none,none,some 4,some 3] (.name 1) (.val (.v 6)) .nil jM) .nil)) (ev C (.cmp (.lc [none,none] (.name 1) (.val (.v 9)) .nil jL) (.cons .NotEq (.lc [none,none,some 4,some 3] (.name 1) (.val (.v 6)) .nil jM) .nil)) V H) V H=some (false,H):=by
 have e1:=et (C:=C) (H:=H) (V:=V) (cp:=[none,none]) (i:=1) (it := .val (.v 9)) (elt:=jL) (l:=cZ 0 (af.map (rwF (plF N f) c))) ID (vp hV9) (by refine rT (oC ..) ?_;simp [af]) (by
  intro a ha
  obtain⟨x,y,z,w,rfl⟩:=oB _ _ a ha
  have hc:(dB V [none,none]).set 1 (some (AV.tup [x,y,z,w]))=[none,some (.tup [x,y,z,w])]:=rfl
  refine rT hc ?_
  exact vq (iL (bF rfl rfl (show fG H (.tup [x,y,z,w]) (.int 1)=some y from rfl)) (iL (bF rfl rfl (show fG H (.tup [x,y,z,w]) (.int 2)=some z from rfl)) rfl)) rfl)
 rw [t9] at e1
 have e2:=et (C:=C) (H:=H) (V:=V) (cp:=[none,none,some 4,some 3]) (i:=1) (it := .val (.v 6)) (elt:=jM) (l:=eZ f) (Cc N) (vp hV6) (by simp [eZ,af]) (by
  intro a ha
  obtain⟨j,_,rfl⟩:=Kg.mp ha
  have hk:=bD f j
  generalize bp f j=k at *
  have e1:=fun H=>f7 H (fun k => .int (rch N k)) hk
  have e2:=fun H=>f7 H (fun k=>T (aS (frm N k) (chN N k))) hk
  have hc:(dB V [none,none,some 4,some 3]).set 1 (some (AV.int k))=[none,some (.int k),some (aB fun k => .int (rch N k)),some (aB fun k=>T (aS (frm N k) (chN N k)))]:=by show [none,some (AV.int k),(V[4]?).join,(V[3]?).join]=_;refine rT hV4 ?_;exact rT hV3 rfl
  refine rT hc ?_
  exact vq (iL (bF rfl rfl (e1 H)) (iL (bF rfl rfl (e2 H)) rfl)) rfl)
 have e3:(af.map (rwF (plF N f) c)).map (fun r=>AV.tup [.int r.d,T r.s])=(eZ f).map (Cc N):=rfl
 rw [e3] at e1
 have e4:eqv (.lst ((eZ f).map (Cc N))) (.lst ((eZ f).map (Cc N)))=some true:=by
  refine oA (fc 3) _ fun x hx => ?_
  obtain⟨a,ha,rfl⟩:=Kg.mp hx
  obtain⟨j,_,rfl⟩:=Kg.mp ha
  refine oA (fc 2) [.int (rch N (bp f j)),T (aS (frm N (bp f j)) (chN N (bp f j)))] fun y hy => ?_
  rcases KJ.mp hy with rfl|hy
  ·exact congrArg some (beq_self_eq_true _)
  ·refine rT (Ke.mp hy) ?_;exact congrArg some (beq_self_eq_true _)
 generalize (eZ f).map (Cc N)=L at *
 exact iTC e1 e2 (bs (o:=eqv (.lst L) (.lst L)) (f:=fun b=>some !b) e4 rfl)
theorem Gu (f:Nat) (c:F7→Option Nat) (hV9:(V[9]?).join=some (.lst (cZ 0 (af.map (rwF (plF N f) c))))) (q:F7→Nat) (hq:∀ j,c j=some (q j)) :
  ev C (.lc [none,none] (.name 1) (.val (.v 9)) .nil nQ) V H=some (.lst (aL (af.map q)),H):=by
 have e1:=et (C:=C) (H:=H) (V:=V) (cp:=[none,none]) (i:=1) (it := .val (.v 9)) (elt:=nQ) (l:=cZ 0 (af.map (rwF (plF N f) c))) IE (vp hV9) (by refine rT (oC ..) ?_;simp [af]) (by
  intro a ha
  obtain⟨x,y,z,w,rfl⟩:=oB _ _ a ha
  have hc:(dB V [none,none]).set 1 (some (AV.tup [x,y,z,w]))=[none,some (.tup [x,y,z,w])]:=rfl
  refine rT hc ?_
  exact bF rfl rfl (show fG H (.tup [x,y,z,w]) (.int 3)=some w from rfl))
 rw [ua] at e1
 refine rT e1 ?_
 congr 3
 refine rT List.map_map ?_
 unfold aL
 refine rT List.map_map ?_
 apply List.map_congr_left
 intro j _
 simp [rwF,hq,px]
end
theorem ud {C:ae} {V:VM} {H:AH} {cp:List (Option Nat)} {it:IT} {ifs:XL} {elt:X'} {K:VM} {l:List (AV×AV)} (h:AV×AV→Option AV) (h1:evI C it V H=some (l.map fun q => .tup [q.1,q.2],H)) (hl:l.length≤1000) (hc:dB V cp=none::none::none::K)
  (hs:∀ q∈l,(bU C ifs (none::some q.1::some q.2::K) H=some (false,H)∧h q=none)∨(bU C ifs (none::some q.1::some q.2::K) H=some (true,H)∧∃ v,ev C elt (none::some q.1::some q.2::K) H=some (v,H)∧h q=some v)) :
  ev C (.lc cp (.tup [1,2]) it ifs elt) V H=some (.lst (l.filterMap h),H):=by
 refine wJ h1 (by simpa using hl) ?_
 refine rT hc ?_
 have:∀ (l:List (AV×AV)) (x y:Option AV),(∀ q∈l,(bU C ifs (none::some q.1::some q.2::K) H=some (false,H)∧h q=none)∨(bU C ifs (none::some q.1::some q.2::K) H=some (true,H)∧∃ v,ev C elt (none::some q.1::some q.2::K) H=some (v,H)∧h q=some v)) →
   compLoop (qk C (.tup [1,2]) ifs elt) (l.map fun q => .tup [q.1,q.2]) (none::x::y::K) H=some (l.filterMap h,H):=by
  intro l
  induction l with
  |nil=>intro x y _;rfl
  |cons q l ih =>
   intro x y hs
   have ih:=ih (some q.1) (some q.2) fun r hr=>hs r (by simp [hr])
   rcases hs q Ka with ⟨e1,e2⟩|⟨e1,v,e2,e3⟩
   ·refine rT (List.filterMap_cons_none e2) ?_;exact tR (tQ rfl e1) ih
   ·refine rT (List.filterMap_cons_some e3) ?_;exact wL (wK rfl e1 e2) ih
 exact this l none none hs
theorem Cd {C:ae} {V:VM} {H:AH} {i j:Nat} {a b:List AV} (h1:(V[i]?).join=some (.lst a)) (h2:(V[j]?).join=some (.lst b)) (hl:a.length=b.length):evI C (.zip (.v i) (.v j)) V H=some ((a.zip b).map fun q => .tup [q.1,q.2],H):=by
 exact bs (iV h1) (bs (iV h2) (if_pos hl))
section
variable {C:ae} {V:VM} {H:AH} {N:Nat→Int} {f:Nat}
theorem Gv (n:Nat) (q:F7→Nat) (hq:∀ j,q j<7) (hV10:(V[10]?).join=some (.lst (aL (af.map q)))) (hV7:(V[7]?).join=some (.lst (af.map fun j=>T (bw N (bp f j))))) (hV8:(V[8]?).join=some (T (aG (af.map (rwF (plF N f) fun j=>some (q j)))))) (w:Option (AV×AH)) :
  tv (orc (n+1)) (.bool .Or (.cons (.cmp (.bi .min (.cons (.v 10) .nil)) (.cons .Lt (.c (.int (0))) .nil)) (.cons (.cmp (.v 8) (.cons .NotEq (.meth .sjoin (.c (.str ⟨#[]⟩)) (.cons (.lc [none,none,none] (.tup [1,2]) (.zip (.v 7) (.v 10)) .nil jN) .nil)) .nil)) .nil))) w V H=some (false,H):=by
 obtain⟨m,hm⟩:=B8 H (af.map q) (by simp [af])
 have e1:=ud (C:=orc (n+1)) (H:=H) (V:=V) (cp:=[none,none,none]) (it := .zip (.v 7) (.v 10)) (ifs := .nil) (elt:=jN) (K:=[]) (l:=af.map fun j=>(T (bw N (bp f j)),AV.int (q j:Nat))) (fun z=>(bu z.1).bind fun x=>(aK z.2).bind fun k=>some (.str ⟨x.1.cps++#[35,48,48,48,48+k.1.toNat,10]⟩)) (by
   refine rT (Cd hV7 hV10 (by rfl)) ?_
   rfl) (by simp [af]) rfl (by
  intro z hz
  obtain⟨j,_,rfl⟩:=Kg.mp hz
  refine .inr ⟨rfl,_,?_,rfl⟩
  have hl:=ir N (bD f j)
  have hqj:=hq j
  generalize bw N (bp f j)=w at *
  generalize q j=k at *
  have l1:=tV (b:=[35]) (KW hl) (KX _)
  have e4:=fR H w [35] (KW hl) (KX _) rfl
  have e5:=fR H (w++[35]) [48,48,48,48+k] l1 (KX _) rfl
  have e6:=fR H (w++[35]++[48,48,48,48+k]) [10] (tV l1 (KX _)) (KX _) rfl
  refine (bo (bo (bo rfl rfl e4) (aR (iL rfl rfl) rfl (jj n k hqj H)) e5) rfl e6).trans ?_
  simp)
 have e2:((af.map fun j=>(T (bw N (bp f j)),AV.int (q j:Nat))).filterMap fun z=>(bu z.1).bind fun x=>(aK z.2).bind fun k=>some (AV.str ⟨x.1.cps++#[35,48,48,48,48+k.1.toNat,10]⟩))=(af.map fun j=>bw N (bp f j)++[35,48,48,48,48+q j,10]).map fun x=>T x:=by
  refine rT List.filterMap_map ?_;refine rT List.map_map ?_
  refine rB List.filterMap_eq_map ?_
  congr 1
  funext j
  exact congrArg (fun z=>some (AV.str ⟨z⟩)) (by simp:(bw N (bp f j)).toArray++#[35,48,48,48,48+q j,10]=(bw N (bp f j)++[35,48,48,48,48+q j,10]).toArray)
 rw [e2] at e1
 have e3:=t8 H (af.map fun j=>bw N (bp f j)++[35,48,48,48,48+q j,10]) (IC fun j=>Kv (tV (KW (ir N (bD f j))) (KX _)) (Lj rfl))
 have e4:(af.map fun j=>bw N (bp f j)++[35,48,48,48,48+q j,10]).flatten=aG (af.map (rwF (plF N f) fun j=>some (q j))):=by
  unfold aG
  refine rT List.flatMap_def ?_;refine rT List.map_map ?_
  congr 1
  apply List.map_congr_left
  intro j _
  simp [bw,dR,rwF,plF,jg,Pl.str,chN]
 rw [e4] at e3
 have e5:ev (orc (n+1)) (.meth .sjoin (.c (.str ⟨#[]⟩)) (.cons (.lc [none,none,none] (.tup [1,2]) (.zip (.v 7) (.v 10)) .nil jN) .nil)) V H=some (T (aG (af.map (rwF (plF N f) fun j=>some (q j)))),H):=di rfl rfl (iL e1 rfl) e3
 have e6:ev (orc (n+1)) (.bi .min (.cons (.v 10) .nil)) V H=some (.int m,H):=ot (iV hV10) hm
 have e7:ev (orc (n+1)) (.v 8) V H=some (T (aG (af.map (rwF (plF N f) fun j=>some (q j)))),H):=iV hV8
 generalize aG (af.map (rwF (plF N f) fun j=>some (q j)))=W at *
 exact iTB (kT (iTC e6 rfl (dF (Int.not_lt.mpr (Int.natCast_nonneg m)))) (kT (iTC e7 e5 (bs (o:=eqv (T W) (T W)) (f:=fun b=>some !b) ((Gk H W W).trans (dT rfl)) rfl)) rfl))
noncomputable def gf (p:F7→Pl) (q:F7→Nat) (x:List Nat):List Nat:=(iW p x).map q
theorem Ce (q:F7→Nat) (hV10:(V[10]?).join=some (.lst (aL (af.map q)))) (hV6:(V[6]?).join=some (.lst (eZ f))) (hV4:(V[4]?).join=some (aB fun k => .int (rch N k))) (hV11:(V[11]?).join=some (aB fun k=>bf (chN N k))) :
  ev C (.lc [none,none,some 10,some 6,some 4,some 11] (.name 1) (.range (.cons (.c (.int (7))) .nil)) .nil jO) V H=some (.lst ((List.range 7).map fun i => .lst (aL (gf (plF N f) q (chN N i)))),H):=by
 have:=et (C:=C) (H:=H) (V:=V) (cp:=[none,none,some 10,some 6,some 4,some 11]) (i:=1) (it:=(.range (.cons (.c (.int (7))) .nil))) (elt:=jO) (l:=az 0 7) (fun a=>(aK a).elim a fun k => .lst (aL (gf (plF N f) q (chN N k.1.toNat)))) ub (by decide) (by
  intro a ha
  obtain⟨i,hi,rfl⟩:=qu ha
  have hc:(dB V [none,none,some 10,some 6,some 4,some 11]).set 1 (some (AV.int i))=[none,some (.int i),some (.lst (aL (af.map q))),some (.lst (eZ f)),some (aB fun k => .int (rch N k)),some (aB fun k=>bf (chN N k))]:=by show [none,some (AV.int i),(V[10]?).join,(V[6]?).join,(V[4]?).join,(V[11]?).join]=_;refine rT hV10 ?_;refine rT hV6 ?_;refine rT hV4 ?_;exact rT hV11 rfl
  refine rT hc ?_
  unfold jO
  have e1:=ud (C:=C) (H:=H) (V:=[none,some (.int i),some (.lst (aL (af.map q))),some (.lst (eZ f)),some (aB fun k => .int (rch N k)),some (aB fun k=>bf (chN N k))]) (cp:=[none,none,none,some 1,some 4,some 5]) (it := .zip (.v 2) (.v 3)) (ifs:=nR) (elt:=tH) (K:=[some (.int i),some (aB fun k => .int (rch N k)),some (aB fun k=>bf (chN N k))]) (l:=af.map fun j=>(AV.int (q j:Nat),AV.int (bp f j:Nat))) (fun z=>(aK z.2).bind fun k=>if dist (chN N i) (chN N k.1.toNat)≤rch N k.1.toNat then some z.1 else none) (by
    refine rT (Cd (a:=aL (af.map q)) (b:=eZ f) rfl rfl (by rfl)) ?_
    rfl) (by simp [af]) rfl (by
   intro z hz
   obtain⟨j,_,rfl⟩:=Kg.mp hz
   have hk:=bD f j
   generalize bp f j=k at *
   generalize q j=c at *
   have e1:=fun H=>f7 H (fun k => .int (rch N k)) hk
   have e2:=fun H=>f7 H (fun k=>bf (chN N k)) hk
   have e3:=fun H=>f7 H (fun k=>bf (chN N k)) hi
   obtain⟨l,e4,e5⟩:=Eu H (dW (Av N) hi) (dW (Av N) hk) (k8 (oD N) _ i k (KX _) hi hk)
   have e6:abi H .len [.set l]=some (.int (dist (chN N i) (chN N k))):=by refine rB (show (l.length:Int)=dist (chN N i) (chN N k) from e5) ?_;rfl
   have e4':fF H .BitXor (bf (chN N i)) (bf (chN N k))=some (.set l):=e4
   have e7:bU C nR (none::some (AV.int c)::some (AV.int k)::[some (.int i),some (aB fun k => .int (rch N k)),some (aB fun k=>bf (chN N k))]) H=some (decide (dist (chN N i) (chN N k)≤rch N k),H):=by
    have e8:f9 H .LtE (.int (dist (chN N i) (chN N k))) (.int (rch N k))=some (decide (dist (chN N i) (chN N k)≤rch N k)):=rfl
    generalize bf (chN N i)=w1 at *
    generalize bf (chN N k)=w2 at *
    exact yW (iTC (iBi (iL (bo (bF rfl rfl (e3 H)) (bF rfl rfl (e2 H)) e4') rfl) e6) (bF rfl rfl (e1 H)) e8)
   by_cases hd:dist (chN N i) (chN N k)≤rch N k
   ·exact .inr ⟨by refine rT e7 ?_;exact rT (decide_eq_true hd) rfl,_,rfl,if_pos hd⟩
   ·exact .inl ⟨by refine rT e7 ?_;exact rT (decide_eq_false hd) rfl,if_neg hd⟩)
  refine rT e1 ?_
  congr 3
  refine rT List.filterMap_map ?_
  unfold gf iW aL
  refine rT List.map_map ?_;refine rB List.filterMap_eq_map ?_;refine rT List.filterMap_filter ?_
  congr 1
  funext j
  by_cases hd:dist (chN N i) (chN N (bp f j))≤rch N (bp f j)
  ·exact (if_pos hd).trans (if_pos (decide_eq_true hd)).symm
  ·exact (if_neg hd).trans (if_neg fun h=>hd (of_decide_eq_true h)).symm)
 refine rT this ?_
 rfl
end
section
variable {C:ae} {V:VM} {H:AH} {N:Nat→Int} {f:Nat}
theorem oE {C:ae} {k:Nat} {a:X'} {V:VM} {H:AH} {x r:AV} (h1:ev C a V H=some (x,H)) (h2:C k [x] [] H=some (r,H)):ev C (.call k (.cons a .nil) .nil) V H=some (r,H):=by
 exact aR (iL h1 rfl) rfl h2
theorem qv (p:F7→Pl) (q:F7→Nat) (x:List Nat):(gf p q x).length≤7:=by
 unfold gf iW
 refine rT (List.length_map ..) ?_
 exact Kv (List.length_filter_le _ _) (by decide)
noncomputable def Gw:AV→AV
 |.lst l => .int l.length
 |a=>a
theorem Gx (W:List (List Nat)) (hW:W≠[]) (hl:W.length≤7) (hs:∀ w∈W,w.length≤7) (hV12:(V[12]?).join=some (.lst (W.map fun w => .lst (aL w)))) :
  ev C (.bi .max (.cons (.lc [none,none] (.name 1) (.val (.v 12)) .nil nS) .nil)) V H=some (.int (k9 (W.map (·.length)):Nat),H):=by
 have e1:=et (C:=C) (H:=H) (V:=V) (cp:=[none,none]) (i:=1) (it := .val (.v 12)) (elt:=nS) (l:=W.map fun w => .lst (aL w)) Gw (vp hV12) (by rw [List.length_map];exact Kv hl (by decide)) (by
  intro a ha
  obtain⟨w,hw,rfl⟩:=Kg.mp ha
  have hc:(dB V [none,none]).set 1 (some (AV.lst (aL w)))=[none,some (.lst (aL w))]:=rfl
  refine rT hc ?_
  have:w.length<1000000:=KQ (hs w hw) (by decide)
  exact iBi rfl (if_pos (by show (aL w).length<_;rewrite [aL];refine rT (List.length_map ..) ?_;exact this)))
 have e2:(W.map fun w=>AV.lst (aL w)).map Gw=aL (W.map (·.length)):=by
  unfold aL
  refine rT List.map_map ?_;refine rT List.map_map ?_
  apply List.map_congr_left
  intro w _
  simp [Gw]
 rw [e2] at e1
 exact ot e1 (B7 H _ (by simpa using hW))
theorem oF:∀ n:Nat,mj (List.replicate n (.bool true))=some (List.replicate n true)
 |0=>rfl
 |n+1=>bs rfl (bs (oF n) rfl)
theorem ue (w:List Nat) (h:w.Nodup):cH (w.map fun (x:Nat)=>(x:Int))=aL w:=by
 rw [iU]
 ·refine rT List.map_map ?_;rfl
 ·exact h.map _ fun a b hne e=>hne (Int.ofNat.inj e)
theorem IG (W:List (List Nat)) (hl:W.length≤7) (hs:∀ w∈W,w.length≤7∧w.Nodup) (hV12:(V[12]?).join=some (.lst (W.map fun w => .lst (aL w)))) (q:List Nat) (hq:q.length≤7) (m:Nat) (hm:m≤7) (hqm:∀ x,x∈q↔x<m)
  (hV10:(V[10]?).join=some (.lst (aL q))) (hV13:(V[13]?).join=some (.int m)) :
  ev C (.bool .And (.cons (.bi .all (.cons (.lc [none,none] (.name 1) (.val (.v 12)) .nil ik) .nil)) (.cons (.cmp (.bi .sorted (.cons (.bi .set (.cons (.v 10) .nil)) .nil)) (.cons .Eq (.listRange (.cons (.v 13) .nil)) .nil)) .nil))) V H=some (.bool true,H):=by
 have e1:=et (C:=C) (H:=H) (V:=V) (cp:=[none,none]) (i:=1) (it := .val (.v 12)) (elt:=ik) (l:=W.map fun w => .lst (aL w)) (fun _ => .bool true) (vp hV12) (by rw [List.length_map];exact Kv hl (by decide)) (by
  intro a ha
  obtain⟨w,hw,rfl⟩:=Kg.mp ha
  have hc:(dB V [none,none]).set 1 (some (AV.lst (aL w)))=[none,some (.lst (aL w))]:=rfl
  refine rT hc ?_
  obtain⟨h1,h2⟩:=hs w hw
  have h3:w.length<500:=KQ h1 (by decide)
  have h4:w.length<1000000:=KQ h1 (by decide)
  have k1:abi H .set [.lst (aL w)]=some (.set (aL w)):=by
   exact bs (kX w) ((if_pos (by refine rT (List.length_map ..) ?_;exact h3)).trans (by exact rT (ue w h2) rfl))
  have k2:abi H .len [.set (aL w)]=some (.int w.length):=congrArg (fun z:Nat=>some (AV.int z)) (List.length_map _)
  have k3:abi H .len [.lst (aL w)]=some (.int w.length):=(if_pos (by rewrite [aL];refine rT (List.length_map ..) ?_;exact h4)).trans (congrArg (fun z:Nat=>some (AV.int z)) (List.length_map _))
  have k4:f9 H .Eq (.int w.length) (.int w.length)=some true:=Bw ..
  generalize aL w=z at *
  exact Hk (iBi (iL (iBi rfl k1) rfl) k2) (iBi rfl k3) k4)
 have e2:(W.map fun w=>AV.lst (aL w)).map (fun _=>AV.bool true)=List.replicate W.length (.bool true):=by
  refine rT List.map_map ?_
  exact List.map_const' ..
 rw [e2] at e1
 have e3:ev C (.bi .all (.cons (.lc [none,none] (.name 1) (.val (.v 12)) .nil ik) .nil)) V H=some (.bool true,H):=by
  refine ot e1 ?_
  exact bs (oF _) (congrArg (fun b=>some (AV.bool b)) (by simp))
 have e4:ev C (.bi .set (.cons (.v 10) .nil)) V H=some (.set (cH (q.map fun (x:Nat)=>(x:Int))),H):=by
  exact ot (iV hV10) (bs (kX q) (if_pos (by refine rT (List.length_map ..) ?_;exact KQ hq (by decide))))
 have e5:ev C (.bi .sorted (.cons (.bi .set (.cons (.v 10) .nil)) .nil)) V H=some (.lst (aL (List.range m)),H):=by
  refine ot e4 ?_
  have f3:=(dP (q.map fun (x:Nat)=>(x:Int)) [] .nil).2.2
  have h3:((q.map fun (x:Nat)=>(x:Int)).foldl (fun acc i=>if acc.contains i then acc else acc++[i]) []).length<60:=by simp at f3 ⊢;lia
  have hr:=rN (q.map fun (x:Nat)=>(x:Int)) m (by
   intro i
   simp only [List.mem_map]
   constructor
   ·rintro⟨x,hx,rfl⟩;exact⟨Int.natCast_nonneg x,Int.ofNat_lt.mpr ((hqm x).mp hx)⟩
   ·rintro⟨h1,h2⟩;exact⟨i.toNat,(hqm _).mpr ((Int.toNat_lt h1).mpr h2),Int.toNat_of_nonneg h1⟩)
  unfold cH
  refine bs (jS _) ((if_pos h3).trans ?_)
  refine rT hr ?_;refine rT List.map_map ?_
  rfl
 have e6:ev C (.listRange (.cons (.v 13) .nil)) V H=some (.lst (aL (List.range m)),H):=by
  have h1:dZ [.int m]=some (az 0 m):=if_pos (by lia)
  have h2:az 0 m=aL (List.range m):=by simp [az,aL]
  rw [h2] at h1
  exact iLR (iL (iV hV13) rfl) h1
 have e7:f9 H .Eq (.lst (aL (List.range m))) (.lst (aL (List.range m)))=some true:=B6 _
 have e8:ev C (.cmp (.bi .sorted (.cons (.bi .set (.cons (.v 10) .nil)) .nil)) (.cons .Eq (.listRange (.cons (.v 13) .nil)) .nil)) V H=some (.bool true,H):=Hk e5 e6 e7
 exact bs e3 (bs rfl e8)
end
theorem Gy (n:Nat) (s:List Int) (hs:s.length≤63) (H:AH):orc (n+5) 26 [.lst (df s)] [] H=some (.bool true,H):=by
 refine rT (DR ..) ?_;refine rT Bt ?_
 obtain⟨N,hN⟩:=vG (n+3) s (KQ hs (by decide)) H
 have P:=Gq N (s.length % 7)
 obtain⟨τ,σ,o⟩:=Gl P
 generalize hf:s.length % 7=f at *
 have hf7:f<7:=hf▸Nat.mod_lt _ (by decide)
 have e2:orc (n+4) 17 [aB fun k => .int (N k)] [] H=some (aB fun k => .int (Av N k),H):=by refine rT (BR ..) ?_;rfl
 have e3:orc (n+4) 18 [aB fun k => .int (N k),aB fun k => .int (Av N k)] [] H=some (aB fun k=>T (aS (frm N k) (chN N k)),H):=vJ (n+3) N (Av N) (oD N) H
 have e8:=rM P n H o
 have hcol:db (plF N f) τ 7=fun j=>some (eC (plF N f) τ σ j):=funext fun j=>B3 o j
 rw [hcol] at e8
 have hq:∀ j,eC (plF N f) τ σ j<7:=Ep o
 have e9:=rD (n+1) (af.map (rwF (plF N f) fun j=>some (eC (plF N f) τ σ j))) (BY P (fun j q h=>by cases h;exact hq j) af) (KQ (gW P (fun j=>some (eC (plF N f) τ σ j)) af) (by decide)) (by simp [af]) H
 have e11:orc (n+4) 25 [aB fun k => .int (Av N k)] [] H=some (aB fun k=>bf (chN N k),H):=El (n+3) (Av N) (oD N) H
 have hclos:∀ j,(plF N f j).top∈(List.range 7).map fun i=>chN N i:=by
  intro j
  obtain⟨i,hi,e⟩:=oz (oD N) _ (bp f j) (KX _) (bD f j) ((plF N f j).s.length-(plF N f j).d)
  exact List.mem_map.mpr ⟨i,List.mem_range.mpr hi,e.symm⟩
 have hcols:=B5 o ((List.range 7).map fun i=>chN N i) (by simp) hclos
 have hwin:∀ x,lb (plF N f) τ σ x=gf (plF N f) (eC (plF N f) τ σ) x:=fun _=>rfl
 have hnd:=qs o
 simp only [hwin] at hcols hnd
 have hM:k9 (((List.range 7).map fun i=>chN N i).map fun x=>(gf (plF N f) (eC (plF N f) τ σ) x).length)=k9 (((List.range 7).map fun i=>gf (plF N f) (eC (plF N f) τ σ) (chN N i)).map (·.length)):=by
  rw [List.map_map,List.map_map];rfl
 rw [hM] at hcols
 have hmle:k9 (((List.range 7).map fun i=>gf (plF N f) (eC (plF N f) τ σ) (chN N i)).map (·.length))≤7:=by
  rcases la (((List.range 7).map fun i=>gf (plF N f) (eC (plF N f) τ σ) (chN N i)).map (·.length)) 0 with h|h
  ·exact Kv (Kh h) (Nat.zero_le 7)
  ·obtain⟨w,hw,e⟩:=Kg.mp h
   obtain⟨i,_,rfl⟩:=Kg.mp hw
   unfold k9
   refine rB e ?_
   exact qv _ _ _
 generalize eC (plF N f) τ σ=q at *
 have hWs:∀ w∈(List.range 7).map fun i=>gf (plF N f) q (chN N i),w.length≤7∧w.Nodup:=by
  intro w hw
  obtain⟨i,_,rfl⟩:=Kg.mp hw
  exact⟨qv _ _ _,hnd _⟩
 have hWm:((List.range 7).map fun i=>AV.lst (aL (gf (plF N f) q (chN N i))))=((List.range 7).map fun i=>gf (plF N f) q (chN N i)).map fun w=>AV.lst (aL w):=by refine rT List.map_map ?_;rfl
 have hlen:abi H .len [.lst (df s)]=some (.int s.length):=by
  have:s.length<1000000:=KQ hs (by decide)
  exact (if_pos (by rewrite [df];refine rT (List.length_map ..) ?_;exact this)).trans (congrArg (fun z:Nat=>some (AV.int z)) (List.length_map _))
 have hcolm:∀ x,x∈af.map q↔x<k9 (((List.range 7).map fun i=>gf (plF N f) q (chN N i)).map (·.length)):=by
  intro x
  refine rQ (hcols x) ?_;refine rP List.mem_map ?_
  exact⟨fun ⟨j,_,e⟩=>⟨j,e⟩,fun ⟨j,e⟩=>⟨j,bd j,e⟩⟩
 have fin:∃ V',exs (orc (n+4)) 20 Bs [some (.lst (df s)),none,none,none,none,none,none,none,none,none,none,none,none,none] H=some (.ret (.bool true),V',H):=by
  refine⟨[some (.lst (df s)),some (aB fun k => .int (N k)),some (aB fun k => .int (Av N k)),some (aB fun k=>T (aS (frm N k) (chN N k))),some (aB fun k => .int (rch N k)),some (.int f),some (.lst (eZ f)),some (.lst (af.map fun j=>T (bw N (bp f j)))),some (T (aG (af.map (rwF (plF N f) fun j=>some (q j))))),some (.lst (cZ 0 (af.map (rwF (plF N f) fun j=>some (q j))))),some (.lst (aL (af.map q))),some (aB fun k=>bf (chN N k)),some (.lst (((List.range 7).map fun i=>gf (plF N f) q (chN N i)).map fun w=>AV.lst (aL w))),some (.int (k9 (((List.range 7).map fun i=>gf (plF N f) q (chN N i)).map (·.length)):Nat))],?_⟩
  unfold Bs
  refine (bS (v:=aB fun k => .int (N k)) (H':=H) ?_).trans ?_
  ·exact aR rfl rfl hN
  refine (bS (v:=aB fun k => .int (Av N k)) (H':=H) ?_).trans ?_
  ·exact aR rfl rfl e2
  refine (bS (v:=aB fun k=>T (aS (frm N k) (chN N k))) (H':=H) ?_).trans ?_
  ·exact aR rfl rfl e3
  simp only [List.set_cons_succ,List.set_cons_zero]
  refine (bS (v:=aB fun k => .int (rch N k)) (H':=H) (Ev rfl)).trans ?_
  refine (bS (v := .int f) (H':=H) ?_).trans ?_
  ·have:((s.length:Int) % 7)=(f:Int):=(Int.natCast_emod s.length 7).symm.trans (congrArg (fun z:Nat=>(z:Int)) hf)
   exact bo (iBi rfl hlen) rfl (show fF H .Mod (.int s.length) (.int 7)=some (.int f) from this▸rfl)
  refine (bS (v := .lst (eZ f)) (H':=H) (Ew f hf7 rfl)).trans ?_
  refine (bS (v := .lst (af.map fun j=>T (bw N (bp f j)))) (H':=H) (Gr (n+3) f rfl rfl rfl)).trans ?_
  refine (bS (v:=T (aG (af.map (rwF (plF N f) fun j=>some (q j))))) (H':=H) ?_).trans ?_
  ·have h1:=Ex (C:=orc (n+4)) (V:=[some (.lst (df s)),some (aB fun k => .int (N k)),some (aB fun k => .int (Av N k)),some (aB fun k=>T (aS (frm N k) (chN N k))),some (aB fun k => .int (rch N k)),some (.int f),some (.lst (eZ f)),some (.lst (af.map fun j=>T (bw N (bp f j)))),none,none,none,none,none,none]) (H:=H) (N:=N) f rfl
   exact oE h1 e8
  refine (bS (v := .lst (cZ 0 (af.map (rwF (plF N f) fun j=>some (q j))))) (H':=H) (oE (x:=T (aG (af.map (rwF (plF N f) fun j=>some (q j))))) rfl e9)).trans ?_
  refine (wM (H':=H) (Gs (n+4) f (fun j=>some (q j)) rfl rfl rfl rfl)).trans ?_
  refine (bS (v := .lst (aL (af.map q))) (H':=H) (Gu f (fun j=>some (q j)) rfl q fun _=>rfl)).trans ?_
  refine (wM (H':=H) (Gv (n+3) q hq rfl rfl rfl _)).trans ?_
  refine (bS (v:=aB fun k=>bf (chN N k)) (H':=H) (oE (x:=aB fun k => .int (Av N k)) rfl e11)).trans ?_
  refine (bS (H':=H) (Ce (f:=f) q rfl rfl rfl rfl)).trans ?_
  refine rT hWm ?_
  refine (bS (H':=H) (Gx ((List.range 7).map fun i=>gf (plF N f) q (chN N i)) (by simp) (by simp) (fun w hw=>(hWs w hw).1) rfl)).trans ?_
  simp only [List.set_cons_succ,List.set_cons_zero]
  exact Ei (IG ((List.range 7).map fun i=>gf (plF N f) q (chN N i)) (by simp) hWs rfl (af.map q) (by simp [af]) _ hmle hcolm rfl rfl)
 obtain⟨V',fin⟩:=fin
 exact bj fin rfl
end
end Mine
namespace Mine
open PySem PySem.W PySem.Calls PyProof.Rows
noncomputable section
noncomputable def IH (X:Cx) (n:Str):GV→Prop
 |.fn k=>X.hB.nsMap mainGlobals n=some (.ref (X.F k))
 |.set l=>∃ a o,X.hB.nsMap mainGlobals n=some (.ref a)∧X.hB.get? a=some o∧eE X l o
 |.ty t=>X.hB.nsMap mainGlobals n=none∧X.hB.nsMap builtinsNs n=some (.type t)
 |.bi b=>X.hB.nsMap mainGlobals n=none∧X.hB.nsMap builtinsNs n=some (oK b)
theorem fD {h h':Heap} {a:Addr} (hn:h.isNs a=true) (k:cD h h'):h'.Ns a (h.nsMap a) :=
 let ⟨o,es,ep,e,r⟩:=Heap.Ns.of_isNs hn
 ⟨o,es,ep,k _ _ e,r⟩
theorem Gz {X:Cx} {gl:List (Str×GV)} (hm:X.hB.isNs mainGlobals=true) (hb:X.hB.isNs builtinsNs=true) (hG:∀ n gv,gl.lookup n=some gv→IH X n gv)
  (hR:∀ q∈[(("range" : Str),Value.type "range"),("map",.type "map"),("enumerate",.type "enumerate"),("zip",.type "zip")],X.hB.nsMap mainGlobals q.1=none∧X.hB.nsMap builtinsNs q.1=some q.2)
  (hF:∀ n k,gl.lookup n=some (.fn k)→∃ o fd,X.hB.get? (X.F k)=some o∧o.data = .func fd):GOk X gl where
 load n gv env A s Q hl ge hk keep hQ:=by
  refine rT (loadName_read ge.kind hk) ?_
  have h1:s.heap.Ns env.globals (X.hB.nsMap mainGlobals):=by refine rT ge.glob ?_;exact fD hm keep
  have h2:s.heap.Ns env.builtins (X.hB.nsMap builtinsNs):=by refine rT ge.blt ?_;exact fD hb keep
  have hg:=hG n gv hl
  cases gv with
  |fn k=>exact loadGlobal_global h1 hg (hQ _ rfl)
  |set l=>obtain⟨a,o,e1,e2,e3⟩:=hg;exact loadGlobal_global h1 e1 (hQ _ ⟨a,o,rfl,e2,e3⟩)
  |ty t=>exact loadGlobal_builtin h1 hg.1 h2 hg.2 (hQ _ rfl)
  |bi b=>exact loadGlobal_builtin h1 hg.1 h2 hg.2 (hQ _ rfl)
 loadB n v env A s Q hl ge hk keep hQ:=by
  refine rT (loadName_read ge.kind hk) ?_
  have h1:s.heap.Ns env.globals (X.hB.nsMap mainGlobals):=by refine rT ge.glob ?_;exact fD hm keep
  have h2:s.heap.Ns env.builtins (X.hB.nsMap builtinsNs):=by refine rT ge.blt ?_;exact fD hb keep
  have hg:=hR (n,v) hl
  exact loadGlobal_builtin h1 hg.1 h2 hg.2 hQ
 fn:=hF
theorem uf:aI callerA 25:=⟨rfl,by decide,by decide⟩
theorem ze {R:RM} {ρ:List Addr}:∀ {xs:List Int} {vs:List Value},IntsAre vs xs→ai R ρ (df xs) vs:=fun h=>by
 induction h with
 |nil=>exact rfl
 |cons n t h ih=>exact⟨_,_,rfl,⟨_,rfl⟩,ih⟩
theorem Cf:∀ X,zD X:=zE fun D s xs a vs hh hl ha hv=>by
 have g:ag s.heap.get? [] [] s.heap:=⟨hh,fun b o h=>h,List.nodup_nil,fun a h=>(nomatch h),rfl,fun i o a h=>by simp at h⟩
 have h:=Br D 5 26 [.lst (df xs)] [] [] (.bool true) [] callerA s.heap.get? [] s [.ref a] [] (Gy 0 xs hl []) uf g
  ⟨.ref a,[],rfl,⟨a,vs,0,rfl,ha,ze hv⟩,rfl⟩ rfl
 exact Kq h (fun v s' ⟨R',ρ',m,_,r⟩=>⟨r,fun b o e=>m.keep b o e (fun k=>by cases k) (fun k=>k),m.os,m.gens⟩) fun _ _ e=>e
noncomputable abbrev Cg:OpenLaw:=PySem.Challenge.rw_ik0205_01
noncomputable abbrev prog0:Program:=PySem.Challenge.pw_ik0205_01
noncomputable abbrev ey:OpenRow:=Cg.row
theorem vP (R:WRecords) (l:List WData):WShape.hasItems R l .int=true→∃ xs:List Int,l=xs.map .int:=by
 induction l with
 |nil=>exact fun _=>⟨[],rfl⟩
 |cons a l ih =>
  intro h
  obtain⟨h1,h2⟩:=(Bool.and_eq_true ..).mp h
  obtain⟨xs,rfl⟩:=ih h2
  cases a with
  |int i=>exact⟨i::xs,rfl⟩
  |_=>exact absurd h1 Bool.false_ne_true
theorem Ey {args:List WData} (h:ey.toRowW.claim.pre args=true):∃ xs:List Int,args=[.list (xs.map .int)]∧xs.length≤63:=by
 obtain⟨h1,h2⟩:=pre_splitW h
 obtain⟨d,r,rfl,h3,h4⟩:=hasAllW_cons (show WShape.hasAll _ args [.list .int]=true from h1)
 have hr:r=[]:=by
  cases r with
  |nil=>rfl
  |cons a b=>cases h4
 subst hr
 have hd:∃ xs:List Int,d = .list (xs.map .int):=by
  cases d with
  |list l =>
   obtain⟨xs,rfl⟩:=vP ey.records l ((Bool.or_false _).symm.trans h3)
   exact⟨xs,rfl⟩
  |_=>exact absurd h3 Bool.false_ne_true
 obtain⟨xs,rfl⟩:=hd
 refine⟨xs,rfl,?_⟩
 have h5:WTm.holds ey.records (.and (.not (.lt (.lit (.int (63:Nat))) (.len (.arg 0)))) (.lit (.bool true))) { args:=[.list (xs.map .int)] }=true:=h2
 simp [WTm.holds,WTm.value] at h5
 by_cases hl:xs.length≤63
 ·exact hl
 ·have e:less? (.int 63) (.int xs.length)=some true:=by
   have:(63:Int)<xs.length:=Int.ofNat_lt.mpr (Nat.lt_of_not_le hl)
   exact congrArg some (decide_eq_true this)
  rw [e] at h5
  cases h5
theorem zf {P:Params} {h:Heap} (xs:List Int):∀ vs:List Value,WellAll P h vs (xs.map .int)→IntsAre vs xs:=by
 induction xs with
 |nil=>intro vs w;cases w;exact .nil
 |cons x xs ih =>
  intro vs w
  cases w with
  |cons a b =>
   cases a
   exact .cons _ _ (ih _ b)
noncomputable def GA (vs:List Value):Sem Fin:=do
 match ← nsGet mainNs ey.name with
 |some f=>do ret (← PySem.call f vs)
 |none=>unsupported "claim.caller:no-such-global"
theorem zg (args:List WData):ey.toRowW.claim.post args (.bool true) args=true:=by
 have h1:WShape.has ey.records (.bool true) .bool=true:=rfl
 have h2:WTm.holds ey.records (.eq .res (.lit (.bool true))) { args:=args,res:=some (.bool true),after:=args }=true:=by
  simp [WTm.holds,WTm.value,same]
 exact Bool.and_eq_true_iff.mpr ⟨h1,h2⟩
theorem Ch {P:Params} {h:Heap} {vs:List Value} {ds:List WData} (w:WellAll P h vs [.list ds]):∃ ad vl,vs=[.ref ad]∧h.get? ad=some { cls := .type "list",data := .seq vl.toArray }∧WellAll P h vl ds:=by
 cases w with
 |cons a b =>
  cases b
  cases a with
  |list ha hv=>exact⟨_,_,rfl,ha,hv⟩
theorem zh (w:World) (s:Shared) (hz:s.asleep) (hg:leftWithCleanup s.gens=false) (F:Nat→Addr) (D:lN ⟨prog0,w,F,s.heap⟩) (hm:s.heap.isNs mainGlobals=true) (hl:s.heap.nsMap mainGlobals ey.name=some (.ref (F 26))) (free:Addr→Prop) (gens:Prop) (kept:Heap→Prop) (hk:∀ h,kept h) :
  ey.toRowW.claim.CallFrom (callStub ey.name) w free gens kept s:=by
 refine ClaimW.callFrom_of_specN (c:=ey.toRowW.claim) (tree:=GA) hz hg fun args hpre hlay ord hord => ?_
 obtain⟨⟨vs,s₁⟩,hlaid⟩:=Option.isSome_iff_exists.mp (layAllW_isSome (R:=ey.toRowW.claim.records) (cl:=classAt s.heap) (P:=w.params) (ord:=ord) (fun c hc=>nomatch hc) args ey.toRowW.args s (pre_splitW hpre).1)
 have keeps:=layAllW_keeps _ _ _ hlaid
 have hal:=layAllW_rest _ _ _ hlaid
 obtain⟨as,hrd,hin,hold⟩:=reads_layAllW hord _ _ _ hlaid hlay s₁.heap (fun _ _ e=>e)
 obtain⟨xs,rfl,hxs⟩:=Ey hpre
 obtain⟨ad,vl,rfl,ha,hv⟩:=Ch (well_layAllW hord _ s _ hlaid s₁.heap fun _ _ e=>e)
 refine⟨_,s₁,hlaid,JX (wpAny_nsGet (fD hm keeps) (rT hl (JX (Kq (Cf _ D { s₁ with gens:=#[] } xs ad vl keeps hxs ha (zf xs vl hv)) (fun v s' h=>JZ ?_) fun _ _ e=>e.elim))))⟩
 obtain⟨rfl,hkp,hos,hgs⟩:=h
 have g:GoodW ey.toRowW.claim (classAt s.heap) (ExcName.means s.heap) [.list (xs.map .int)] { s₁ with gens:=#[] } (.ok (.ret (.bool true))) s' :=
  ⟨.inl ⟨.bool true,.bool true,[],rfl,fun _=>rfl,.bool true,zg _,fun _=>⟨List.nodup_nil,fun a h=>nomatch h⟩⟩,hkp,hos,hgs⟩
 obtain⟨z1,z2,z3⟩:=g.endsN (c:=ey.toRowW.claim) rfl rfl (ident_freeW rfl rfl rfl) hrd hold hal.2.2.1
 exact⟨_,rfl,z1,z2,z3,hk _⟩
theorem pA:opening prog0=plainProg prog0.main.scope.names:=by kernel_rfl
theorem jo (s:Shared):fenceModules? prog0 s=some s:=by kernel_rfl
theorem ug:prog0.modules=[]∧prog0.parses=[]∧prog0.absent=[]∧prog0.harvested=[]∧prog0.given={ argv:=[],stdin:=[],environ:=some Program.claimEnviron,cwd:=none,tree:=none,leftOut:=[],nothingAt:=[] }:=⟨by kernel_rfl,by kernel_rfl,by kernel_rfl,by kernel_rfl,by kernel_rfl⟩
theorem qw:ey.toRowW.promised:=⟨[.list []],by kernel_rfl,by kernel_rfl⟩
theorem GB:opensWell prog0=true:=by kernel_rfl
theorem GC (w:World):∃ s₀:Shared,AfterRun (opening prog0) w s₀∧(∀ s,AfterRun (opening prog0) w s→s=s₀)∧s₀.heap=boot_heap w.params∧s₀.gens=#[]∧s₀.drawn=boot_drawn∧s₀.toks=boot_toks∧s₀.asleep:=by
 have h:=boot_open (p:=prog0) (N:=600) pA rfl jo w
 rw [← table_eq_tree] at h
 obtain⟨s,h1,e⟩:=Option.map_eq_some_iff.mp h
 obtain⟨s',h4,h5⟩:=Option.bind_eq_some_iff.mp h1
 have A:=AfterImport.of_importEnds h4
 rw [jo] at h5
 obtain rfl:s'=s:=KY h5
 simp only [Prod.mk.injEq] at e
 exact⟨s',A,fun s hs=>AfterImport.unique hs A,e.1,e.2.1,e.2.2.1,e.2.2.2,Shared.asleep_of_life rfl A.life⟩
structure vQ (w:World) (s₀ s₁:Shared) (F:Nat→Addr):Prop where
 ran:TopRan prog0 w s₀ s₁
 zz:s₁.asleep
 gens:leftWithCleanup s₁.gens=false
 defs:lN ⟨prog0,w,F,s₁.heap⟩
 ns:s₁.heap.isNs mainGlobals=true
 law:s₁.heap.nsMap mainGlobals ey.name=some (.ref (F 26))
 pin:isTheDefsW prog0 s₁.heap ey.name
theorem Ci (hs:Cg.wellSaid=true) (hr:ey.wellSaid=true) (ht:prog0.tablesWhole=true)
  (T:∀ (w:World) (s₀:Shared),s₀.heap=boot_heap w.params→s₀.gens=#[]→s₀.drawn=boot_drawn→s₀.toks=boot_toks→s₀.asleep→∃ s₁ F,vQ w s₀ s₁ F):Cg.Holds:=by
 refine⟨hs,hr,qw,⟨⟨ug.1,ug.2.1,ug.2.2.1,ug.2.2.2.1,ug.2.2.2.2,ht⟩,GB,rfl⟩,qw.witness,fun w => ?_⟩
 obtain⟨s₀,A,un,e1,e2,e3,e4,z⟩:=GC w
 refine⟨⟨s₀,A⟩,fun s hs => ?_⟩
 obtain rfl:=un s hs
 obtain⟨s₁,F,t⟩:=T w s e1 e2 e3 e4 z
 exact⟨s,jo s,e2,s₁,t.ran,fun n hn=>by
  have hn':n∈[ey.name]:=hn
  refine rT (Ke.mp hn') ?_;exact t.pin,(fun x hx=>nomatch hx),(fun x hx=>nomatch hx),zh w s₁ t.zz t.gens F t.defs t.ns t.law _ _ _ fun h q=>nomatch q⟩
theorem qx (w:World):∀ (n m:Nat) (c c':Config),schedN (denote table) prog0 w n c = .running c'→schedN (denote table) prog0 w (n+m) c=schedN (denote table) prog0 w m c'
 |0,m,c,c',h=>by
  simp only [schedN] at h
  cases h
  exact rT (Nat.zero_add ..) rfl
 |n+1,m,c,c',h=>by
  refine rT (Kb ..) ?_
  simp only [schedN] at h ⊢
  split at h
  ·rename_i c₁ e
   exact qx w n m c₁ c' h
  ·cases h
noncomputable def cF (w:World) (s:Shared) (t:Thread) (s':Shared) (t':Thread):Prop :=
 ∀ a b,a.forget=s.forget→b.forget=t.forget→a.asleep→∃ a' b' n,a'.forget=s'.forget∧b'.forget=t'.forget∧a'.heap.life=a.heap.life∧schedN (denote table) prog0 w n (.single a b) = .running (.single a' b')
theorem cF.refl (w:World) (s:Shared) (t:Thread):cF w s t s t:=fun a b h1 h2 _=>⟨a,b,0,h1,h2,rfl,rfl⟩
theorem cF.trans {w:World} {s s₁ s₂:Shared} {t t₁ t₂:Thread} (h:cF w s t s₁ t₁) (k:cF w s₁ t₁ s₂ t₂):cF w s t s₂ t₂:=fun a b h1 h2 z=>by
 obtain⟨a',b',n,e1,e2,l,e⟩:=h a b h1 h2 z
 obtain⟨a'',b'',m,e3,e4,l',e'⟩:=k a' b' e1 e2 (Shared.asleep_of_life l z)
 exact⟨a'',b'',n+m,e3,e4,l'.trans l,(qx w n m _ _ e).trans e'⟩
theorem cF.one {w:World} {s s₁:Shared} {t t₁:Thread} (hc:t.calm=true) (h:(PySem.step (denote table) prog0 w s t).forget = .go s₁.forget t₁.forget):cF w s t s₁ t₁:=fun a b h1 h2 z=>by
 have hcb:b.calm=true:=by refine rB (Thread.calm_forget ..) ?_;refine rT h2 ?_;refine rT (Thread.calm_forget ..) ?_;exact hc
 have hs:=step_same (denote table) prog0 w h1 h2
 rw [h] at hs
 cases e:PySem.step (denote table) prog0 w a b with
 |halt o x=>rw [e] at hs;cases hs
 |go a' b' =>
  rw [e] at hs
  simp only [Step.forget] at hs
  injection hs with e1 e2
  have hl:=step_life (denote table) prog0 w a a' b b' e
  refine⟨a',b',1,e1,e2,hl,?_⟩
  have e':sstep (denote table) prog0 w (.single a b) = .go (.single a' b'):=by
   rcases sstep_single (denote table) prog0 w a b hcb z with q|q
   ·refine rT q ?_;refine rT e ?_;rfl
   ·rw [e] at q;cases q
  simp only [schedN,e']
theorem vR (w:World) {s s':Shared} {t t':Thread} (h:Comes (model prog0 w) s t s' t'):cF w s t s' t':=by
 obtain⟨n,h⟩:=h
 induction n generalizing s t with
 |zero =>
  have e:Run.running s t = .running s' t':=h
  injection e with e1 e2
  subst e1 e2
  exact cF.refl w _ _
 |succ n ih =>
  rw [runN_succ] at h
  cases hs:(model prog0 w).step s t with
  |halt o x=>simp only [hs] at h;cases h
  |go s₁ t₁ =>
   simp only [hs] at h
   have hI:stepI (denote table) prog0 w s t = .go s₁ t₁:=hs
   have hl:t.loud=false:=by
    cases hl:t.loud with
    |false=>rfl
    |true=>rw [stepI_loud _ _ _ hl] at hI;cases hI
   rw [stepI_quiet _ _ _ hl] at hI
   have hc:t.calm=true:=by
    refine rT (Thread.calm_eq ..) ?_;refine rT hl ?_
    cases hr:t.refused with
    |false=>rfl
    |true =>
     obtain⟨what,e⟩:=stepK_refused (denote table) prog0 w (s:=s) hr
     rw [e] at hI;cases hI
   refine (cF.one hc ?_).trans (ih h)
   refine rB (stepK_forget ..) ?_;refine rT hI ?_
   rfl
end
end Mine
namespace Mine
open PySem PySem.W
noncomputable section
theorem GD:looksOpen prog0=true:=by
 unfold looksOpen
 simp only [Bool.and_eq_true]
 repeat' apply And.intro
 all_goals kernel_rfl
theorem II:ey.partSaid=true:=by
 unfold OpenRow.partSaid
 simp only [Bool.and_eq_true]
 repeat' apply And.intro
 ·exact GD
 all_goals kernel_rfl
theorem uh:ey.wellSaid=true:=by
 unfold OpenRow.wellSaid
 simp only [Bool.and_eq_true]
 repeat' apply And.intro
 ·exact II
 all_goals kernel_rfl
theorem IJ:Cg.wellSaid=true:=by
 unfold OpenLaw.wellSaid
 simp only [Bool.and_eq_true]
 repeat' apply And.intro
 ·exact uh
 all_goals kernel_rfl
theorem GE:prog0.tablesWhole=true:=by kernel_rfl
end
end Mine
namespace Mine
open PySem PySem.W PySem.Calls PyProof.Rows
noncomputable section
theorem mb {P:Prop} {w:World} {α:Type} {A:Around} {c:Code} {st:List Frame} {m:Sem α} {f:α→Sem Fin} {Q:α→Shared→Prop} {s:Shared} (hi:(Ctx.of c st).In A) (p:Pos) (h:wpAny (model prog0 w) A m Q NoE s) (k:∀ s' p' a,Q a s'→cF w s ⟨m.bind f,c,p,st⟩ s' ⟨f a,c,p',st⟩→P):P:=by
 obtain⟨s',p',t',hc,h⟩:=wp_comes_bind (Ctx.fits_of c st) f m _ _ p s (h _ p hi)
 rcases h with ⟨a,rfl,hq⟩|⟨e,_,r⟩
 ·exact k s' p' a hq (vR w hc)
 ·exact r.elim
noncomputable def Tn (f:Nat→Obj) (n:Nat):Nat→Nat→Nat→BT
 |0,_,_ => .nil
 |k+1,a,b=>match Nat.blt b n with
  |true => .node (f b) (Tn f n k (2*a) (a+b)) (Tn f n k (2*a) (2*a+b))
  |false => .nil
theorem Cj {a b:Nat} (h:a<b):Nat.blt a b=true:=Nat.ble_eq_true_of_le h
theorem GF {i:Nat} (h:i % 2=1):i=2*(i / 2)+1:=(Nat.div_add_mod i 2).symm.trans (congrArg (2*(i / 2)+·) h)
theorem Ez {i:Nat} (h0:i≠0) (h:¬ i % 2=1):i=2*(i / 2-1)+2:=by
 have e:=(Nat.div_add_mod i 2).symm.trans (congrArg (2*(i / 2)+·) ((Nat.mod_two_eq_zero_or_one i).resolve_right h))
 cases q:i / 2 with
 |zero=>rw [q] at e;exact absurd e h0
 |succ k=>rw [q] at e;exact e
theorem ET {j k:Nat} (h:2*(j+1)<k*2):j+1<k:=Nat.lt_of_mul_lt_mul_right (a:=2) (Nat.mul_comm 2 (j+1)▸h)
theorem EU (a b j:Nat):a+b+2*a*j=b+a*(2*j+1):=by
 rw [Nat.mul_add,Nat.mul_one,Nat.mul_left_comm,← Nat.mul_assoc]
 exact (congrArg (·+_) (Nat.add_comm a b)).trans ((Kb b a _).trans (Nat.add_assoc b _ a))
theorem EV (a b j:Nat):2*a+b+2*a*j=b+a*(2*j+2):=by
 rw [Nat.mul_add,Nat.mul_left_comm,← Nat.mul_assoc,Nat.mul_comm a 2]
 exact (congrArg (·+_) (Nat.add_comm (2*a) b)).trans ((Kb b (2*a) _).trans (Nat.add_assoc b _ (2*a)))
theorem GG (f:Nat→Obj) (n k:Nat):∀ a b i:Nat,i+1<2 ^ k→b+a*i<n→(Tn f n k a b).get i=some (f (b+a*i)):=by
 induction k with
 |zero=>exact fun a b i h _=>absurd h (Nat.not_lt.mpr (Nat.succ_pos i))
 |succ k ih =>
  intro a b i h hn
  unfold Tn
  refine rT (Cj (KQ (Kf _ _) hn)) ?_
  refine rT (BT.get_node ..) ?_
  by_cases h0:i=0
  ·subst h0;rfl
  ·refine rT (if_neg h0) ?_
   by_cases h1:i % 2=1
   ·refine rT (if_pos h1) ?_
    have e:=GF h1
    generalize i / 2=j at e ⊢
    subst e
    exact (ih _ _ j (ET h) (rT (EU a b j) hn)).trans (congrArg (fun z=>some (f z)) (EU a b j))
   ·refine rT (if_neg h1) ?_
    have e:=Ez h0 h1
    generalize i / 2-1=j at e ⊢
    subst e
    exact (ih _ _ j (ET (Nat.lt_of_succ_lt h)) (rT (EV a b j) hn)).trans (congrArg (fun z=>some (f z)) (EV a b j))
noncomputable abbrev Kn:=List (Nat×Obj)
noncomputable def GH (kn:Kn) (f:Nat→Obj) (i:Nat):Obj:=match kn.lookup i with
 |some o=>o
 |none=>f i
structure Is (s:Shared) (n:Nat) (kn:Kn) (gens:Array GenState) (toks:Nat) (os:OsState):Prop where
 size:s.heap.objs.size=n
 know:∀ p∈kn,s.heap.get? p.1=some p.2
 gens:s.gens=gens
 drawn:s.drawn=boot_drawn
 toks:s.toks=toks
 os:s.os=os
 life:s.heap.life={}
noncomputable abbrev stT (kn:Kn) (f:Nat→Obj) (n:Nat) (gens:Array GenState) (toks:Nat) (os:OsState):SharedT:=⟨Tn (GH kn f) n 9 1 0,n,{},gens,boot_drawn,toks,os⟩
noncomputable def Ck (s:Shared) (i:Nat):Obj:=s.heap.objs.getD i default
theorem ui {l:Kn} {i:Nat} {o:Obj}:l.lookup i=some o→(i,o)∈l:=by
 induction l with
 |nil=>intro h;cases h
 |cons p l ih =>
  obtain⟨j,q⟩:=p
  refine rT List.lookup_cons ?_
  cases e:i==j with
  |true=>intro h;cases h;refine rT (show i=j by simpa using e) ?_;exact .head _
  |false=>intro h;exact .tail _ (ih h)
theorem Cl {h:Heap} {a:Addr} {o:Obj} (e:h.get? a=some o):h.objs[a]?=some o:=((Heap.get?_eq_some h a o).mp e).1
theorem GI {s:Shared} {n:Nat} {kn:Kn} {gens:Array GenState} {toks:Nat} {os:OsState} (h:Is s n kn gens toks os) (hn:n<511):s=(stT kn (Ck s) n gens toks os).abs:=by
 obtain⟨⟨objs,life⟩,g,d,t,o⟩:=s
 obtain⟨h1,h2,rfl,rfl,rfl,rfl,h7⟩:=h
 dsimp only at h1 h2 h7
 subst h7
 unfold SharedT.abs
 congr 1
 show (⟨objs,{}⟩:Heap)=⟨_,{}⟩
 congr 1
 apply Array.ext_getElem?
 intro i
 have:=absHeap_at (Tn (GH kn (Ck ⟨⟨objs,{}⟩,g,boot_drawn,t,o⟩)) n 9 1 0) n {} i
 unfold absHeap at this
 refine rT this ?_
 by_cases hi:i<n
 ·refine rT (if_pos hi) ?_;refine rT (GG _ _ _ _ _ _ (KQ (Nat.succ_le_of_lt hi) (Kd hn (by decide))) (KQ (Kh ((Nat.zero_add _).trans (Nat.one_mul i))) hi)) ?_
  simp only [Nat.one_mul,Nat.zero_add,Option.getD_some]
  unfold GH
  split
  ·rename_i ob e
   exact Cl (h2 _ (ui e))
  ·show _=some (objs.getD i default)
   refine rT (Lx (by lia)) ?_;refine rT Array.getD_eq_getD_getElem? ?_;refine rT (Lx (by lia)) ?_
   rfl
 ·refine rT (if_neg hi) ?_
  exact Array.getElem?_eq_none (by lia)
noncomputable def okU (U:List Nat) (n₀:Nat) (t:Thread):Bool:=t.calm&&match t.cur with
 |.update a _ _ _=>Nat.ble n₀ a||U.contains a
 |.os ..=>false
 |_=>true
noncomputable def goU (w:World) (U:List Nat) (n₀:Nat):Nat→SharedT→Thread→Option (SharedT×Thread)
 |0,s,t=>some (s,t)
 |n+1,s,t=>cond (okU U n₀ t) ((stepT (denote treeTable) prog0 w s t).bind fun p=>goU w U n₀ n p.1 p.2) none
theorem Cn {w:World} {U:List Nat} {n₀:Nat} (n:Nat):∀ (s s':SharedT) (t t':Thread),goU w U n₀ n s t=some (s',t') →
  cF w s.abs t s'.abs t'∧s'.abs.heap.life=s.abs.heap.life∧s'.abs.os=s.abs.os∧∀ b o,b<n₀→b∉U→s.abs.heap.get? b=some o→s'.abs.heap.get? b=some o:=by
 induction n with
 |zero=>intro s s' t t' h;cases h;exact⟨cF.refl w _ _,rfl,rfl,fun _ _ _ _ e=>e⟩
 |succ n ih =>
  intro s s' t t' h
  refine oc h fun hk h=>ob h fun ⟨s₁,t₁⟩ e h => ?_
  have hs:=stepT_spec e
  rw [← table_eq_tree] at hs
  unfold okU at hk
  obtain⟨hc,hk⟩:=Bool.and_eq_true_iff.mp hk
  obtain⟨g,l,o',fr⟩:=ih s₁ s' t₁ t' h
  refine⟨(cF.one hc (by refine rT hs ?_;rfl)).trans g,l.trans (step_life (denote table) prog0 w _ _ _ _ hs),o'.trans (step_os_same hs (by revert hk;cases t.cur<;>simp)),fun b o h1 h2 h3=>fr b o h1 h2 ?_⟩
  refine rT (PySem.step_heap (denote table) prog0 w _ _ _ _ hs) ?_
  revert hk
  cases t.cur<;>intro hk<;>try exact h3
  case update a _ f _ =>
   have:b≠a:=by
    rintro rfl
    simp only [Bool.or_eq_true,Nat.ble_eq,List.contains_iff_mem] at hk
    rcases hk with q|q
    ·exact absurd h1 (Nat.not_lt.mpr q)
    ·exact h2 q
   exact (Heap.get?_update_ne _ _ _ _ this).trans h3
  case alloc x _=>exact Kx x h3
noncomputable def vw (as:List Nat) (s:SharedT):Nat×Array GenState×Drawn×Nat×List (Option Obj) :=
 (s.n,s.gens,s.drawn,s.toks,as.map fun a=>match Nat.blt a s.n with
  |true=>(s.tree.get a).bind alive
  |false=>none)
theorem dc {P:Prop} {w:World} {U:List Nat} {kn:Kn} {n n':Nat} {gens:Array GenState} {gens':(Nat→Obj)→OsState→Array GenState} {toks toks' fu:Nat} {th:Thread} {th':(Nat→Obj)→OsState→Thread} {kn':Kn} (outs:Kn) (ek:(outs++kn.filter fun p=>!U.contains p.1)=kn')
  (h:∀ f os,(goU w U n fu (stT kn f n gens toks os) th).map (fun r=>(vw (outs.map (·.1)) r.1,r.2))=some ((n',gens' f os,boot_drawn,toks',outs.map fun p=>some p.2),th' f os))
  (hn:n<511) {s:Shared} {os:OsState} (I:Is s n kn gens toks os) (k:∀ s',cF w s th s' (th' (Ck s) os)→Is s' n' kn' (gens' (Ck s) os) toks' os→P):P:=by
 subst ek
 have ha:=GI I hn
 obtain⟨⟨s',t'⟩,h1,h2⟩:=Option.map_eq_some_iff.mp (h (Ck s) os)
 obtain⟨g,l,o',fr⟩:=Cn _ _ _ _ _ h1
 rw [← ha] at g l o' fr
 unfold vw at h2
 simp only [Prod.mk.injEq] at h2
 obtain⟨⟨e1,e2,e3,e4,e5⟩,rfl⟩:=h2
 have keep:∀ b o,b∉U→s.heap.get? b=some o→s'.abs.heap.get? b=some o:=fun b o hb e=>fr b o (by refine rB I.size ?_;exact Kw e) hb e
 refine k s'.abs g ⟨(absHeap_size _ _ _).trans e1,fun p hp => ?_,e2,e3,e4,o'.trans I.os,l.trans I.life⟩
 rcases List.mem_append.mp hp with hp|hp
 ·obtain⟨i,hi⟩:=List.mem_iff_getElem?.mp hp
  have:=congrArg (fun l=>l[i]?) e5
  simp only [List.getElem?_map,hi,Option.map_some] at this
  have this:=KY this
  cases hb:Nat.blt p.1 s'.n with
  |false=>rw [hb] at this;cases this
  |true =>
   rw [hb] at this
   obtain⟨o,ho,hal⟩:=Option.bind_eq_some_iff.mp this
   exact (abs_get (Lj hb) ho).trans hal
 ·rw [List.mem_filter] at hp
  exact keep _ _ (fun q=>by
   have:=hp.2
   rw [Bool.not_eq_true',← Bool.not_eq_true,List.contains_iff_mem] at this
   exact this q) (I.know p hp.1)
noncomputable def orb (M:Nat):Nat→Nat→List Nat
 |0,_=>[]
 |n+1,i=>i::orb M n (f5 M i)
theorem wP (M:Nat):∀ (n i j:Nat),j∈orb M n i→∃ m,m<n∧f5N M m i=j
 |0,_,_,h=>by cases h
 |n+1,i,j,h=>by
  rcases KJ.mp h with rfl|h
  ·exact⟨0,Nat.succ_pos _,rfl⟩
  ·obtain⟨m,hm,e⟩:=wP M n _ _ h
   exact⟨m+1,Nat.succ_lt_succ hm,e⟩
theorem EA:(List.range 256).all (fun j=>(orb 256 256 0).contains j)=true:=by decide +kernel
theorem vS:b3 256=true:=by
 unfold b3
 refine rT (Bool.and_eq_true ..) ?_
 refine⟨?_,by decide +kernel⟩
 refine rP List.all_eq_true ?_
 intro j hj
 refine rP List.any_eq_true ?_
 obtain⟨m,hm,e⟩:=wP 256 256 0 j (by simpa using Kc.mp EA j hj)
 exact⟨m,List.mem_range.mpr hm,by refine rT e ?_;exact beq_self_eq_true j⟩
theorem oG {w:Nat} (h:w≤128):b3 (SetTable.sizeAbove w-1+1)=true∧w≤SetTable.sizeAbove w-1∧SetTable.sizeAbove w≤256:=by
 rcases Nat.lt_or_eq_of_le h with h|rfl
 ·obtain⟨a,b,c⟩:=iI h
  exact⟨a,b,Kv c (by decide)⟩
 ·have e:SetTable.sizeAbove 128=256:=by decide +kernel
  refine rT e ?_
  exact⟨vS,by decide,by decide⟩
section
variable {prog:Program} {w:World} {K:Type} [DecidableEq K] {knd:KeyKind prog w K}
variable {A:Around} {E:Value→Shared→Prop} {s:Shared}
theorem mc {a:Addr} {c:String} {es:Array (Int×Value)} {ep:Nat} {t:SetTable} {ns:List K} {Q:Nat→Shared→Prop} (ha:s.heap.get? a=some (aj c es ep t)) (D:au knd es t ns) (h:Q es.size s):wpAny (model prog w) A (Builtin.Frozenset.sizeOf a) Q E s:=by
 unfold Builtin.Frozenset.sizeOf setEntries
 exact JX (JX (wpAny_setState_of ha rfl D.fit (JZ (JZ h))))
theorem Co {a:Addr} {c:String} {es:Array (Int×Value)} {ep:Nat} {t:SetTable} {ns:List K} {Q:Unit→Shared→Prop} (ho:s.heap.get? a=some (aj c es ep t)) (D:au knd es t ns) (hn:es.size≤32)
  (h:∀ es' ep' t',au knd es' t' ns→Q () { s with heap:=s.heap.update a fun _=>aj c es' ep' t' }):wpAny (model prog w) A (setTidy a) Q E s:=by
 unfold setTidy
 refine JX (wpAny_setState_of ho rfl D.fit ?_)
 dsimp only
 split
 ·unfold setRelay
  refine JX (wpAny_setState_of ho rfl D.fit ?_)
  dsimp only
  have hg:SetTable.grown es.size=es.size*4:=by unfold SetTable.grown;exact rT (if_neg (Nat.not_lt.mpr (Kv hn (by decide)))) rfl
  refine rT hg ?_
  obtain⟨hM,hle,hmax⟩:=oG (show es.size*4≤128 from Nat.mul_le_mul_right 4 hn)
  refine rT (if_neg (Nat.not_lt.mpr (Kv hmax (by decide)))) ?_
  obtain⟨t',order,hlaid,hp,hf',hmask,hdum,hled,hrise⟩:=qR hM (finger:=t.finger) (moves:=t.movedTo (SetTable.sizeAbove (es.size*4)-1)) (led:=t.led) (plain:=t.plain) (hashes:=es.map (·.1)) (by refine rT Array.size_map ?_;exact Kv (Nat.le_mul_of_pos_right _ (by decide)) hle)
  rw [Array.size_map] at hp hf'
  have hperm:=jd hp
  have hsz:(order.filterMap (es[·]?)).size=es.size:=by refine rB Array.length_toList ?_;refine rT hperm.length_eq ?_;exact rT Array.length_toList rfl
  have hrel:t.relaid (es.map (·.1)) (es.size*4)=some (t',order):=hlaid
  refine rT hrel ?_
  refine JX (m:=(do
   let es':=order.filterMap (es[·]?)
   if es'.size != es.size then unsupported "internal:set-table-lost-an-element"
   pure (es',t'))) ?_
  dsimp only
  refine rT hsz ?_;refine rT (bne_self_eq_false ..) ?_
  refine JZ ?_
  rw [← hsz] at hf'
  exact dj ho (by refine rT hsz ?_;exact D.b) (h _ _ t' (D.perm hperm hf' (by refine rT hled ?_;exact D.led) hrise))
 ·have:=h es ep t D
  rw [d0 ho] at this
  exact JZ this
theorem Cp {id:String} {a o:Addr} {c co:String} {es eo:Array (Int×Value)} {ep epo:Nat} {t to:SetTable} {ms ns:List K} {Q:Unit→Shared→Prop} (hne:a≠o) (hc:ei co) (ha:s.heap.get? a=some (aj c es ep t)) (Da:au knd es t ms) (ho:s.heap.get? o=some (aj co eo epo to)) (D:au knd eo to ns)
  (hsz:eo.size / 8≤es.size) (hn:∀ ms':List K,ms'.Nodup→(∀ k,k∈ms'↔k∈ms∧k∉ns)→ms'.length≤32)
  (h:∀ es ep t ms',au knd es t ms'→(∀ k,k∈ms'↔k∈ms∧k∉ns)→Q () { s with heap:=s.heap.update a fun _=>aj c es ep t }):wpAny (model prog w) A (Builtin.Frozenset.differenceUpdate id a (.ref o)) Q E s:=by
 unfold Builtin.Frozenset.differenceUpdate
 have hTo:s.TypeIs (.ref o) co:=⟨_,ho,rfl⟩
 have hb:(Value.ref o==Value.ref a)=false:=by simpa using (Ne.symm hne)
 refine rT hb ?_
 refine JX (bA hc hTo ?_)
 refine JX (JZ ?_)
 refine JX (mc ho D ?_)
 refine JX (mc ha Da ?_)
 have hgt:¬ (eo.size / 8>es.size):=Nat.not_lt.mpr hsz
 simp only [hgt,if_false]
 refine JX (wpAny_setEpoch_of ho rfl D.fit ?_)
 refine JX (JY ?_)
 refine JX (gI (b:=false) (knd:=knd) ho D ha Da fun ws ep2 t2 hws D2 hsame => ?_)
 refine rB Array.forIn_toList ?_
 let I:List (Int×Value)→Shared→Prop:=fun rest s'=>LpI knd a c s (fun ms'=>(∀ e∈rest,e∈eo.toList) ∧
  (∀ k∈ms',k∈ms)∧(∀ k∈ms',k∈ns→∃ e∈rest,knd.is k e.2=true)∧(∀ k∈ms,k∉ns→k∈ms')) s'
 refine JX (Kq (ig I (fun e rest s' hI => ?_) ws.toList _ ⟨es,ep2,t2,ms,D2,fun e he=>hws.mem_iff.mp he,fun k hk=>hk,fun k _ hk => ?_,fun k hk _=>hk⟩) (fun r s' hI => ?_) fun _ _ e=>e)
 ·obtain⟨es',ep',t',ms',D',hJ⟩:=hI
  have m1:=hJ.2.1
  have m3:=hJ.2.2.2
  refine kO D (hJ.1 e (.head _)) fun k x hk hke hkx hsc => ?_
  have hrest:∀ k'∈ms',k'≠k→k'∈ns→∃ e∈rest,knd.is k' e.2=true:=fun k' h1 h2 h3=>by
   obtain⟨e,he,q⟩:=hJ.2.2.1 k' h1 h3
   rcases KJ.mp he with rfl|he
   ·exact absurd (knd.inj _ _ _ q hke) h2
   ·exact⟨e,he,q⟩
  have ho':∀ es3 ep3 t3,(s.heap.update a fun _=>aj c es3 ep3 t3).get? o=some (aj co eo epo to):=fun es3 ep3 t3=>by refine rT (aA (Ne.symm hne)) ?_;exact ho
  dsimp only
  refine JX (JY ?_)
  refine lA (cb ha rfl) D' hkx hsc (fun hno => ?_) (fun hyes es3 ep3 t3 D3 _ _ => ?_)
  ·exact JX (cN D (ho' es' ep' t') (JZ ⟨rfl,es',ep',t',ms',D',fun e he=>hJ.1 e (.tail _ he),m1,fun k' h1=>hrest k' h1 (fun e=>hno (e▸h1)),m3⟩))
  ·dsimp only
   refine rT (dK ..) ?_
   exact JX (cN D (ho' es3 ep3 t3) (JZ ⟨rfl,es3,ep3,t3,ms'.erase k,D3,fun e he=>hJ.1 e (.tail _ he),fun k' h1=>m1 k' (D'.nd.mem_erase_iff.mp h1).2,
    fun k' h1=>hrest k' (D'.nd.mem_erase_iff.mp h1).2 (D'.nd.mem_erase_iff.mp h1).1,fun k' h1 h2=>D'.nd.mem_erase_iff.mpr ⟨fun e=>h2 (e▸hk),m3 k' h1 h2⟩⟩))
 ·obtain⟨e,he,q⟩:=(D.mem k).mp hk
  exact⟨e,hws.mem_iff.mpr he,q⟩
 ·obtain⟨rfl,es',ep',t',ms',D',_,m1,m2,m3⟩:=hI
  have hm':∀ k,k∈ms'↔k∈ms∧k∉ns:=fun k=>⟨fun h1=>⟨m1 k h1,fun h2=>by obtain⟨e,he,_⟩:=m2 k h1 h2;cases he⟩,fun h1=>m3 k h1.1 h1.2⟩
  refine JZ ?_
  refine Co (cb ha rfl) D' (by refine rT D'.sz ?_;exact hn ms' D'.nd hm') fun es3 ep3 t3 D3 => ?_
  dsimp only
  refine rT (dK ..) ?_
  exact h es3 ep3 t3 ms' D3 hm'
theorem Cq {id:String} {a o:Addr} {c co:String} {es eo:Array (Int×Value)} {ep epo:Nat} {t to:SetTable} {ms ns:List K} {Q:Value→Shared→Prop} (hc:ei c) (hco:ei co) (ha:s.heap.get? a=some (aj c es ep t)) (Da:au knd es t ms) (ho:s.heap.get? o=some (aj co eo epo to)) (D:au knd eo to ns)
  (hl:ms.length<64) (hmuch:ns.length<ms.length / 4) (hn:∀ ms':List K,ms'.Nodup→(∀ k,k∈ms'↔k∈ms∧k∉ns)→ms'.length≤32)
  (h:∀ es ep t ms',au knd es t ms'→(∀ k,k∈ms'↔k∈ms∧k∉ns)→Q (.ref s.heap.objs.size) { s with heap:=s.heap.push (aj c es ep t) }) :
  wpAny (model prog w) A (Builtin.Frozenset.difference id a (.ref o)) Q E s:=by
 unfold Builtin.Frozenset.difference
 have hTo:s.TypeIs (.ref o) co:=⟨_,ho,rfl⟩
 refine JX (bA hco hTo ?_)
 refine JX (JZ ?_)
 refine JX (mc ho D ?_)
 refine JX (mc ha Da ?_)
 refine rT Da.sz ?_;refine rT D.sz ?_;refine rT (if_pos (show ms.length / 4>ns.length from hmuch)) ?_
 refine JX (wpAny_rule ?_)
 refine JX (s0 hc ha Da hl fun es1 ep1 t1 D1 => ?_)
 have hne:s.heap.objs.size≠o:=Nat.ne_of_gt (Kw ho)
 show wpAny _ _ (holding _ (Builtin.Frozenset.differenceUpdate id s.heap.objs.size (.ref o)) >>= fun _=>pure _) _ _ _
 refine JX (JY (Cp hne hco (Kj _ rfl) D1 (Kx _ ho) D (by refine rT D1.sz ?_;refine rT D.sz ?_;exact Kv (Nat.div_le_self _ 8) (Kv (KW hmuch) (Nat.div_le_self _ 4))) hn fun es2 ep2 t2 ms2 D2 hm=>JZ ?_))
 refine rT gJ ?_
 exact h es2 ep2 t2 ms2 D2 hm
end
noncomputable def w3 (w:World) (a b c:Bool):World:=((w.withFollow "comprehension-iter-twice" a).withFollow "set-order" b).withFollow "special-get-raises" c
theorem EB (w:World):∃ a b c,w3 w a b c=w:=by
 refine⟨w.params.followText "comprehension-iter-twice",w.params.followText "set-order",w.params.followText "special-get-raises",?_⟩
 unfold w3
 rw [World.withFollow_self w "comprehension-iter-twice",World.withFollow_self w "set-order",World.withFollow_self w "special-get-raises"]
noncomputable def gX:Env:={ scope:=prog0.main.scope,locals:=mainNs,globals:=mainNs,cells:=[],code := .ref 13,frame:=some 14 }
noncomputable def iX:Code := .body prog0.main.body gX
noncomputable def p0:Pos:=⟨0,0,0,0⟩
noncomputable def stm (i j:Nat):List Stmt:=(prog0.main.body.drop i).take (j-i)
noncomputable abbrev thk (x:Sem Fin) (p:Pos):Thread:=⟨x,iX,p,[topFrame p0]⟩
noncomputable abbrev thr (l:List Stmt) (K:Flow→Sem Fin) (H:Value→Sem Fin) (p:Pos):Thread:=thk ((execs l gX).wrap K H id id) p
noncomputable def kz (P:Params):Kn:=[(0,boot_o_0 P),(1,boot_o_1 P),(2,boot_o_2 P),(4,boot_o_4 P),(5,boot_o_5 P),(6,boot_o_6 P),(7,boot_o_7 P),(8,boot_o_8 P),(9,boot_o_9 P),(10,boot_o_10 P)]
noncomputable def knB (P:Params):Kn:=(3,boot_o_3 P)::kz P
noncomputable def dA:Obj:={ cls := .type "code",data := .fields #[.str (Str.ofString "<module>") 182,.str (Str.ofString "<module>") 183,.str (Str.ofString "/claim/cut.py") 184,.int 1 0,.int 0 0,.int 0 0,.int 0 0,.int 0 0,.ref 11,.bool false,.int 181 0,.ref 12,.none,.none,.none,.none,.int 185 0,.int 1 0,.str (Str.ofString "/claim/cut.py") 186] }
noncomputable def tab (l:List Value):Obj:={ cls := .none,data := .fields ⟨l⟩ }
noncomputable def nm (P:Params) (nv:Value) (l:List (String×Nat×Value)):Obj:={ cls := .type "dict",data := .dict ⟨((("__name__",165,nv):String×Nat×Value)::("__doc__",166,.none)::("__package__",167,.none)::("__loader__",168,.builtin "__main__.__loader__#opaque")::("__spec__",169,.none) ::
 ("__annotations__",170,.ref 6)::("__builtins__",171,.ref 4)::("__file__",173,.str (Str.ofString "/claim/cut.py") 172)::("__cached__",174,.none)::l).map fun x=>⟨PyData.keyHash P (Str.ofString x.1),.str (Str.ofString x.1) x.2.1,x.2.2⟩⟩ (9+l.length) }
set_option maxHeartbeats 4000000 in
theorem GJ (w:World) (f:Nat→Obj) (os:OsState):(goU w [] 11 12 (stT (knB w.params) f 11 #[] 181 os) (topStub prog0)).map (fun r=>(vw [12,13] r.1,r.2))=some ((15,#[],boot_drawn,187,[some (tab []),some dA]),thk (denote treeTable iX) p0):=by kernel_rfl
theorem EC:denote treeTable iX=(execs prog0.main.body gX).wrap doneF (leaveH gX) id id:=by
 unfold iX
 rw [body_wrap]
 have:blockStart prog0.main.body gX=pure ():=by kernel_rfl
 rw [this]
 rfl
noncomputable def kn1 (P:Params):Kn:=(12,tab [])::(13,dA)::(3,boot_o_3 P)::kz P
noncomputable def nv1:Value := .str (Str.ofString "cpy313.tomllib._parser") 194
noncomputable abbrev nmA:List (String×Nat×Value):=[("_wall",193,.ref 21)]
noncomputable def kn2 (P:Params):Kn:=(3,nm P nv1 nmA)::(12,tab [.int 1 0,.int 0 0,.ref 20])::(13,dA)::kz P
set_option maxHeartbeats 4000000 in
theorem k_0 (w:World) (K:Flow→Sem Fin) (H:Value→Sem Fin) (p:Pos) (f:Nat→Obj) (os:OsState) :
  (goU w [3,12] 15 38 (stT (kn1 w.params) f 15 #[] 187 os) (thr (stm 0 2) K H p)).map (fun r=>(vw [3,12] r.1,r.2)) =
   some ((22,#[],boot_drawn,196,[some (nm w.params nv1 nmA),some (tab [.int 1 0,.int 0 0,.ref 20])]),thk (K .next) ⟨4,0,4,8⟩):=by kernel_rfl
noncomputable abbrev Rn:=Option (SharedT×Thread)
noncomputable def Cr:Rn→Array GenState
 |some (s,_)=>s.gens
 |none=>#[]
noncomputable def frK (r:Rn) (i:Nat):Result→Sem Fin:=match r with
 |some (_,t)=>match t.stack[i]? with
  |some (.ret k ..)=>k
  |_=>fun _ => .unsupported ""
 |none=>fun _ => .unsupported ""
noncomputable def lL (a i:Addr):Code := .builtin "set.update.loop" ⟨[.ref a,.ref i],[]⟩
noncomputable def stk (k1 k2 k3:Result→Sem Fin) (a it:Addr) (x:Value) (l:List Value) (p:Pos):List Frame :=
 [.ret k1 none false [.ref a] (.builtin "frozenset.__new__" ⟨[.type "frozenset",x],[]⟩) p [.ref a,.ref it],
  .ret k2 none false [] (.builtin "type.__call__" ⟨[.type "frozenset",x],[]⟩) p [.builtin "frozenset.__new__",.type "frozenset",x,.builtin "frozenset.__new__",.type "frozenset",x],
  .ret k3 none false l iX p [.type "frozenset",x],topFrame p0]
noncomputable def rit (i n:Int):Obj:={ cls := .type "range_iterator",data := .fields #[.int i 0,.int n 0,.int 1 0] }
noncomputable abbrev emp (b:Bool):Obj:=aj "frozenset" #[] 0 (.fresh 0 0 !b)
noncomputable def GK (w:World) (a b c:Bool) (K:Flow→Sem Fin) (H:Value→Sem Fin) (p:Pos) (f:Nat→Obj) (os:OsState):Rn :=
 goU (w3 w a b c) [12] 22 86 (stT (kn2 (w3 w a b c).params) f 22 #[] 196 os) (thr (stm 2 3) K H p)
noncomputable def tb2:Obj:=tab [.int 1 0,.int 0 0,.ref 20,.int 5 0,.int 23 0,.ref 26]
noncomputable def fr2 (P:Params):Obj:={ cls := .type "frame",data := .dict #[⟨PyData.keyHash P (Str.ofString ".0"),.str (Str.ofString ".0") 204,.ref 23⟩] 1 }
noncomputable def Cs:Obj:={ cls := .type "generator",data := .fields #[.int 0 0,.str (Str.ofString "<genexpr>") 205,.str (Str.ofString "<genexpr>") 206] }
noncomputable def w00:World:={ draws:=fun _ _=>0,params:={ strHash:=fun _=>0,shareClass:=fun _=>0,mergeTok:=fun t=>t,idOf:=fun _=>0,idOfShared:=fun _ _=>0,followText:=fun _=>true,idOfImm:=fun _=>0 } }
noncomputable def G0:Array GenState:=Cr (GK w00 true true true (fun _ => .unsupported "") (fun _ => .unsupported "") p0 (fun _=>emp true) {})
noncomputable def kA (K:Flow→Sem Fin) (H:Value→Sem Fin) (i:Nat):Result→Sem Fin:=frK (GK w00 true true true K H p0 (fun _=>emp true) {}) i
set_option maxHeartbeats 4000000 in
theorem JA (w:World) (a b c:Bool) (K:Flow→Sem Fin) (H:Value→Sem Fin) (p:Pos) (f:Nat→Obj) (os:OsState) :
  (GK w a b c K H p f os).map (fun r=>(vw [23,27,28,29,12] r.1,r.2)) =
   some ((30,G0,boot_drawn,207,[some (rit 0 32),some (fr2 (w3 w a b c).params),some Cs,some (emp b),some tb2]),
    ⟨denote treeTable (lL 29 28),lL 29 28,⟨5,13,5,51⟩,stk (kA K H 0) (kA K H 1) (kA K H 2) 29 28 (.ref 28) [] ⟨5,13,5,51⟩⟩):=by
 cases a<;>cases c<;>kernel_rfl
noncomputable def frI (P:Params):Nat→Obj
 |0=>fr2 P
 |i+1=>{ cls := .type "frame",data := .dict #[⟨PyData.keyHash P (Str.ofString ".0"),.str (Str.ofString ".0") 204,.ref 23⟩,⟨PyData.keyHash P (Str.ofString "i"),.str (Str.ofString "i") 208,.int i (207+4*i)⟩] 2 }
noncomputable def kt (P:Params) (i:Nat) (o:Obj):Kn:=(23,rit i (32-i:Nat))::(27,frI P i)::(28,Cs)::(29,o)::(12,tb2)::(3,nm P nv1 nmA)::(13,dA)::kz P
noncomputable def xs2 (i:Nat):Value := .str ⟨#[i]⟩ (209+4*i)
noncomputable def P5:Pos:=⟨5,13,5,51⟩
noncomputable def zi (a it:Addr) (x:Value) (q:Pos) (st:List Frame):Thread:=⟨(holding [x] (setAdd a x)).bind (fun _=>(again (lL a it):Sem Fin)),lL a it,q,st⟩
noncomputable def gY (a it:Addr) (q:Pos) (st:List Frame):Thread:=⟨denote treeTable (lL a it),lL a it,q,st⟩
noncomputable def IK (w:World) (a b c:Bool) (k1 k2 k3:Result→Sem Fin) (o:Obj) (q:Pos) (f:Nat→Obj) (os:OsState):Rn :=
 goU (w3 w a b c) [23,27] 30 (cond a 46 56) (stT (kt (w3 w a b c).params 0 o) f 30 G0 207 os) (gY 29 28 q (stk k1 k2 k3 29 28 (.ref 28) [] P5))
noncomputable def noK:Result→Sem Fin:=fun _ => .unsupported ""
noncomputable def G1:Array GenState:=Cr (IK w00 true true true noK noK noK (emp false) P5 (fun _=>emp false) {})
set_option maxHeartbeats 4000000 in
theorem IL (w:World) (a b c:Bool) (k1 k2 k3:Result→Sem Fin) (es:Array (Int×Value)) (ep:Nat) (t:SetTable) (q:Pos) (f:Nat→Obj) (os:OsState) :
  (IK w a b c k1 k2 k3 (aj "frozenset" es ep t) q f os).map (fun r=>(vw [23,27] r.1,r.2)) =
   some ((30,G1,boot_drawn,210,[some (rit 1 31),some (frI (w3 w a b c).params 1)]),zi 29 28 (xs2 0) q (stk k1 k2 k3 29 28 (.ref 28) [] P5)):=by
 cases a<;>cases c<;>kernel_rfl
noncomputable def JB (w:World) (i:Nat) (k1 k2 k3:Result→Sem Fin) (o:Obj) (q:Pos) (f:Nat→Obj) (os:OsState):Rn :=
 goU w [23,27] 30 45 (stT (kt w.params i o) f 30 G1 (207+4*i) os) (gY 29 28 q (stk k1 k2 k3 29 28 (.ref 28) [] P5))
set_option maxHeartbeats 4000000 in
theorem JC (w:World) (k1 k2 k3:Result→Sem Fin) (es:Array (Int×Value)) (ep:Nat) (t:SetTable) (q:Pos) (f:Nat→Obj) (os:OsState) :
  ((List.range 31).map fun i=>(JB w (i+1) k1 k2 k3 (aj "frozenset" es ep t) q f os).map (fun r=>(vw [23,27] r.1,r.2))) =
   (List.range 31).map fun i=>some ((30,G1,boot_drawn,207+4*(i+1)+3,[some (rit (i+2:Nat) (32-(i+2):Nat)),some (frI w.params (i+2))]),zi 29 28 (xs2 (i+1)) q (stk k1 k2 k3 29 28 (.ref 28) [] P5)):=by
 kernel_rfl
noncomputable def sit (v:Value) (i:Int):Obj:={ cls := .type "str_ascii_iterator",data := .fields #[v,.int i 0] }
noncomputable def j3:Value := .str ⟨#[127]⟩ 336
noncomputable def P6:Pos:=⟨5,54,5,73⟩
noncomputable def P7:Pos:=⟨5,13,5,73⟩
noncomputable abbrev KF:=Flow→Sem Fin
noncomputable abbrev KH:=Value→Sem Fin
noncomputable def IM (w:World) (a b c:Bool) (K:KF) (H:KH) (o:Obj) (q:Pos) (f:Nat→Obj) (os:OsState):Rn :=
 goU (w3 w a b c) [23,27,28] 30 68 (stT (kt (w3 w a b c).params 32 o) f 30 G1 335 os) (gY 29 28 q (stk (kA K H 0) (kA K H 1) (kA K H 2) 29 28 (.ref 28) [] P5))
noncomputable def kB (K:KF) (H:KH) (i:Nat):Result→Sem Fin:=frK (IM w00 true true true K H (emp true) P5 (fun _=>emp true) {}) i
set_option maxHeartbeats 4000000 in
theorem JD (w:World) (a b c:Bool) (K:KF) (H:KH) (es:Array (Int×Value)) (ep:Nat) (t:SetTable) (q:Pos) (f:Nat→Obj) (os:OsState) :
  (IM w a b c K H (aj "frozenset" es ep t) q f os).map (fun r=>(vw [35,34] r.1,r.2)) =
   some ((36,#[.finished],boot_drawn,337,[some (sit j3 0),some (emp b)]),gY 34 35 P6 (stk (kB K H 0) (kB K H 1) (kB K H 2) 34 35 j3 [.ref 29] P6)):=by
 cases c<;>kernel_rfl
noncomputable def kc (P:Params) (o2 o3 oi:Obj):Kn:=(35,oi)::(34,o3)::(29,o2)::(12,tb2)::(3,nm P nv1 nmA)::(13,dA)::kz P
noncomputable def JE (w:World) (k1 k2 k3:Result→Sem Fin) (o2 o3:Obj) (q:Pos) (f:Nat→Obj) (os:OsState):Rn :=
 goU w [35] 36 10 (stT (kc w.params o2 o3 (sit j3 0)) f 36 #[.finished] 337 os) (gY 34 35 q (stk k1 k2 k3 34 35 j3 [.ref 29] P6))
set_option maxHeartbeats 4000000 in
theorem JF (w:World) (k1 k2 k3:Result→Sem Fin) (o2:Obj) (es:Array (Int×Value)) (ep:Nat) (t:SetTable) (q:Pos) (f:Nat→Obj) (os:OsState) :
  (JE w k1 k2 k3 o2 (aj "frozenset" es ep t) q f os).map (fun r=>(vw [35] r.1,r.2)) =
   some ((36,#[.finished],boot_drawn,338,[some (sit j3 1)]),zi 34 35 (.str ⟨#[127]⟩ 337) q (stk k1 k2 k3 34 35 j3 [.ref 29] P6)):=by
 kernel_rfl
noncomputable def opC (id:String) (a b:Addr):Code := .builtin id ⟨[.ref a,.ref b],[]⟩
noncomputable def opS (k:Result→Sem Fin) (id:String) (a b:Addr) (p:Pos):List Frame:=[.ret k none false [.ref a,.ref b,.ref a,.ref b,.ref a,.ref b] iX p [.builtin id,.ref a,.ref b],topFrame p0]
noncomputable def IN (a o:Addr):Sem Value:=do
 let result ← Builtin.Frozenset.copyOf a
 if Value.ref o != .ref a then holding [result] (Builtin.Frozenset.updateFrom "frozenset.__or__" (← Builtin.Frozenset.addrOf result) (.ref o))
 return result
noncomputable def orT (q:Pos) (st:List Frame):Thread:=⟨(IN 29 34).bind (fun v=>(ret v:Sem Fin)),opC "frozenset.__or__" 29 34,q,st⟩
noncomputable def IP (w:World) (a b c:Bool) (K:KF) (H:KH) (o2 o3:Obj) (q:Pos) (f:Nat→Obj) (os:OsState):Rn :=
 goU (w3 w a b c) [35] 36 37 (stT (kc (w3 w a b c).params o2 o3 (sit j3 1)) f 36 #[.finished] 339 os) (gY 34 35 q (stk (kB K H 0) (kB K H 1) (kB K H 2) 34 35 j3 [.ref 29] P6))
noncomputable def kC (K:KF) (H:KH):Result→Sem Fin:=frK (IP w00 true true true K H (emp true) (emp true) P5 (fun _=>emp true) {}) 0
set_option maxHeartbeats 4000000 in
theorem JG (w:World) (a b c:Bool) (K:KF) (H:KH) (es es':Array (Int×Value)) (ep ep':Nat) (t t':SetTable) (q:Pos) (f:Nat→Obj) (os:OsState) :
  (IP w a b c K H (aj "frozenset" es ep t) (aj "frozenset" es' ep' t') q f os).map (fun r=>(vw [] r.1,r.2)) =
   some ((38,#[.finished],boot_drawn,339,[]),orT P7 (opS (kC K H) "frozenset.__or__" 29 34 P7)):=by
 cases c<;>kernel_rfl
noncomputable def kd (P:Params) (o4:Obj):Kn:=(38,o4)::(12,tb2)::(3,nm P nv1 nmA)::(13,dA)::kz P
noncomputable abbrev nmB:List (String×Nat×Value):=nmA++[("ASCII_CTRL",339,.ref 38)]
noncomputable def JH (w:World) (K:KF) (H:KH) (o4:Obj) (q:Pos) (f:Nat→Obj) (os:OsState):Rn :=
 goU w [3] 39 9 (stT (kd w.params o4) f 39 #[.finished] 339 os) ⟨ret (.ref 38),opC "frozenset.__or__" 29 34,q,opS (kC K H) "frozenset.__or__" 29 34 P7⟩
set_option maxHeartbeats 4000000 in
theorem JI (w:World) (K:KF) (H:KH) (o4:Obj) (q:Pos) (f:Nat→Obj) (os:OsState) :
  (JH w K H o4 q f os).map (fun r=>(vw [3] r.1,r.2)) =
   some ((39,#[.finished],boot_drawn,340,[some (nm w.params nv1 nmB)]),thk (K .next) ⟨5,0,5,10⟩):=by
 kernel_rfl
noncomputable def j4:Value := .str (Str.ofString "\t") 340
noncomputable def P8:Pos:=⟨6,39,6,54⟩
noncomputable def P9:Pos:=⟨6,26,6,54⟩
noncomputable def ke (P:Params) (o4:Obj):Kn:=(3,nm P nv1 nmB)::(38,o4)::(12,tb2)::(13,dA)::kz P
noncomputable def IQ (w:World) (a b c:Bool) (K:KF) (H:KH) (p:Pos) (o4:Obj) (f:Nat→Obj) (os:OsState):Rn :=
 goU (w3 w a b c) [] 39 21 (stT (ke (w3 w a b c).params o4) f 39 #[.finished] 340 os) (thr (stm 3 4) K H p)
noncomputable def kD (K:KF) (H:KH) (i:Nat):Result→Sem Fin:=frK (IQ w00 true true true K H p0 (emp true) (fun _=>emp true) {}) i
set_option maxHeartbeats 4000000 in
theorem JJ (w:World) (a b c:Bool) (K:KF) (H:KH) (p:Pos) (es:Array (Int×Value)) (ep:Nat) (t:SetTable) (f:Nat→Obj) (os:OsState) :
  (IQ w a b c K H p (aj "frozenset" es ep t) f os).map (fun r=>(vw [40,39] r.1,r.2)) =
   some ((41,#[.finished],boot_drawn,341,[some (sit j4 0),some (emp b)]),gY 39 40 P8 (stk (kD K H 0) (kD K H 1) (kD K H 2) 39 40 j4 [.ref 38] P8)):=by
 cases c<;>kernel_rfl
noncomputable def kf (P:Params) (o4 o5 oi:Obj):Kn:=(40,oi)::(39,o5)::(3,nm P nv1 nmB)::(38,o4)::(12,tb2)::(13,dA)::kz P
noncomputable def IR (w:World) (k1 k2 k3:Result→Sem Fin) (o4 o5:Obj) (q:Pos) (f:Nat→Obj) (os:OsState):Rn :=
 goU w [40] 41 10 (stT (kf w.params o4 o5 (sit j4 0)) f 41 #[.finished] 341 os) (gY 39 40 q (stk k1 k2 k3 39 40 j4 [.ref 38] P8))
set_option maxHeartbeats 4000000 in
theorem JK (w:World) (k1 k2 k3:Result→Sem Fin) (o4:Obj) (es:Array (Int×Value)) (ep:Nat) (t:SetTable) (q:Pos) (f:Nat→Obj) (os:OsState) :
  (IR w k1 k2 k3 o4 (aj "frozenset" es ep t) q f os).map (fun r=>(vw [40] r.1,r.2)) =
   some ((41,#[.finished],boot_drawn,342,[some (sit j4 1)]),zi 39 40 (.str ⟨#[9]⟩ 341) q (stk k1 k2 k3 39 40 j4 [.ref 38] P8)):=by
 kernel_rfl
noncomputable def JL (q:Pos) (st:List Frame):Thread:=⟨(Builtin.Frozenset.difference "frozenset.__sub__" 38 (.ref 39)).bind (fun v=>(ret v:Sem Fin)),opC "frozenset.__sub__" 38 39,q,st⟩
noncomputable def EW (w:World) (a b c:Bool) (K:KF) (H:KH) (o4 o5:Obj) (q:Pos) (f:Nat→Obj) (os:OsState):Rn :=
 goU (w3 w a b c) [40] 41 37 (stT (kf (w3 w a b c).params o4 o5 (sit j4 1)) f 41 #[.finished] 343 os) (gY 39 40 q (stk (kD K H 0) (kD K H 1) (kD K H 2) 39 40 j4 [.ref 38] P8))
noncomputable def kE (K:KF) (H:KH):Result→Sem Fin:=frK (EW w00 true true true K H (emp true) (emp true) P5 (fun _=>emp true) {}) 0
set_option maxHeartbeats 4000000 in
theorem JM (w:World) (a b c:Bool) (K:KF) (H:KH) (es es':Array (Int×Value)) (ep ep':Nat) (t t':SetTable) (q:Pos) (f:Nat→Obj) (os:OsState) :
  (EW w a b c K H (aj "frozenset" es ep t) (aj "frozenset" es' ep' t') q f os).map (fun r=>(vw [] r.1,r.2)) =
   some ((43,#[.finished],boot_drawn,343,[]),JL P9 (opS (kE K H) "frozenset.__sub__" 38 39 P9)):=by
 cases c<;>kernel_rfl
noncomputable def kg (P:Params) (o4 o6:Obj):Kn:=(43,o6)::(3,nm P nv1 nmB)::(38,o4)::(12,tb2)::(13,dA)::kz P
noncomputable abbrev nmC:List (String×Nat×Value):=nmB++[("ILLEGAL_BASIC_STR_CHARS",343,.ref 43)]
noncomputable def IS (w:World) (K:KF) (H:KH) (o4 o6:Obj) (q:Pos) (f:Nat→Obj) (os:OsState):Rn :=
 goU w [3,38] 44 9 (stT (kg w.params o4 o6) f 44 #[.finished] 343 os) ⟨ret (.ref 43),opC "frozenset.__sub__" 38 39,q,opS (kE K H) "frozenset.__sub__" 38 39 P9⟩
set_option maxHeartbeats 4000000 in
theorem JN (w:World) (K:KF) (H:KH) (o4 o6:Obj) (q:Pos) (f:Nat→Obj) (os:OsState) :
  (IS w K H o4 o6 q f os).map (fun r=>(vw [3] r.1,r.2)) =
   some ((44,#[.finished],boot_drawn,344,[some (nm w.params nv1 nmC)]),thk (K .next) ⟨6,0,6,23⟩):=by
 kernel_rfl
noncomputable def ld:Value := .str (Str.ofString "0123456789abcdefABCDEF") 351
noncomputable def PA:Pos:=⟨11,17,11,37⟩
noncomputable def kh (P:Params) (o6:Obj):Kn:=(3,nm P nv1 nmC)::(43,o6)::(12,tb2)::(13,dA)::kz P
noncomputable abbrev nmD:List (String×Nat×Value):=nmC++[("ILLEGAL_LITERAL_STR_CHARS",344,.ref 43),("ILLEGAL_COMMENT_CHARS",345,.ref 43),("digits",347,.str (Str.ofString "0123456789") 346),("hexdigits",352,ld)]
noncomputable def EX (w:World) (a b c:Bool) (K:KF) (H:KH) (p:Pos) (o6:Obj) (f:Nat→Obj) (os:OsState):Rn :=
 goU (w3 w a b c) [3] 44 73 (stT (kh (w3 w a b c).params o6) f 44 #[.finished] 344 os) (thr (stm 4 9) K H p)
noncomputable def kG (K:KF) (H:KH) (i:Nat):Result→Sem Fin:=frK (EX w00 true true true K H p0 (emp true) (fun _=>emp true) {}) i
set_option maxHeartbeats 4000000 in
theorem JO (w:World) (a b c:Bool) (K:KF) (H:KH) (p:Pos) (o6:Obj) (f:Nat→Obj) (os:OsState) :
  (EX w a b c K H p o6 f os).map (fun r=>(vw [45,44,3] r.1,r.2)) =
   some ((46,#[.finished],boot_drawn,353,[some (sit ld 0),some (emp b),some (nm (w3 w a b c).params nv1 nmD)]),gY 44 45 PA (stk (kG K H 0) (kG K H 1) (kG K H 2) 44 45 ld [] PA)):=by
 cases c<;>kernel_rfl
noncomputable def ki (P:Params) (o6 o7:Obj) (i:Nat):Kn:=(45,sit ld i)::(44,o7)::(3,nm P nv1 nmD)::(43,o6)::(12,tb2)::(13,dA)::kz P
noncomputable def IU (w:World) (i:Nat) (k1 k2 k3:Result→Sem Fin) (o6 o7:Obj) (q:Pos) (f:Nat→Obj) (os:OsState):Rn :=
 goU w [45] 46 10 (stT (ki w.params o6 o7 i) f 46 #[.finished] (353+2*i) os) (gY 44 45 q (stk k1 k2 k3 44 45 ld [] PA))
noncomputable def xh (i:Nat):Value := .str ⟨#[iv.getD i 0]⟩ (353+2*i)
set_option maxHeartbeats 4000000 in
theorem JP (w:World) (k1 k2 k3:Result→Sem Fin) (o6:Obj) (es:Array (Int×Value)) (ep:Nat) (t:SetTable) (q:Pos) (f:Nat→Obj) (os:OsState) :
  ((List.range 22).map fun i=>(IU w i k1 k2 k3 o6 (aj "frozenset" es ep t) q f os).map (fun r=>(vw [45] r.1,r.2))) =
   (List.range 22).map fun i=>some ((46,#[.finished],boot_drawn,354+2*i,[some (sit ld (i+1:Nat))]),zi 44 45 (xh i) q (stk k1 k2 k3 44 45 ld [] PA)):=by
 kernel_rfl
noncomputable abbrev nmE:List (String×Nat×Value):=nmD++[("HEXDIGIT_CHARS",397,.ref 44)]
noncomputable def IV (w:World) (a b c:Bool) (K:KF) (H:KH) (o6 o7:Obj) (q:Pos) (f:Nat→Obj) (os:OsState):Rn :=
 goU (w3 w a b c) [3,45] 46 33 (stT (ki (w3 w a b c).params o6 o7 22) f 46 #[.finished] 397 os) (gY 44 45 q (stk (kG K H 0) (kG K H 1) (kG K H 2) 44 45 ld [] PA))
set_option maxHeartbeats 4000000 in
theorem JQ (w:World) (a b c:Bool) (K:KF) (H:KH) (o6:Obj) (es':Array (Int×Value)) (ep':Nat) (t':SetTable) (q:Pos) (f:Nat→Obj) (os:OsState) :
  (IV w a b c K H o6 (aj "frozenset" es' ep' t') q f os).map (fun r=>(vw [3] r.1,r.2)) =
   some ((48,#[.finished],boot_drawn,398,[some (nm (w3 w a b c).params nv1 nmE)]),thk (K .next) ⟨11,0,11,14⟩):=by
 cases c<;>kernel_rfl
noncomputable def fnO (name:Str) (i:Nat) (pm:Value) (c:Addr):Obj:={ cls := .type "function",data := .func (docDef name (aP i).1 (aP i).2.1 (aP i).2.2 pm (.ref c) .none) }
noncomputable def cdO (l:List Value):Obj:={ cls := .type "code",data := .fields ⟨l⟩ }
noncomputable def zj:Obj:=cdO [.str (Str.ofString "skip_until") 416,.str (Str.ofString "skip_until") 417,.str (Str.ofString "/claim/cut.py") 418,.int 14 0,.int 3 0,.int 0 0,.int 2 0,.int 3 0,.ref 61,.bool true,.int 181 0,.ref 62,.none,.ref 63,.ref 64,.ref 65,.int 425 0,.int 14 0,.str (Str.ofString "/claim/cut.py") 426]
noncomputable def zk:Obj:=cdO [.str (Str.ofString "skip_comment") 428,.str (Str.ofString "skip_comment") 429,.str (Str.ofString "/claim/cut.py") 430,.int 26 0,.int 2 0,.int 0 0,.int 0 0,.int 3 0,.ref 68,.bool true,.int 181 0,.ref 69,.none,.ref 70,.ref 71,.ref 72,.int 434 0,.int 26 0,.str (Str.ofString "/claim/cut.py") 435]
noncomputable def zl:Obj:=cdO [.str (Str.ofString "parse_hex_char") 437,.str (Str.ofString "parse_hex_char") 438,.str (Str.ofString "/claim/cut.py") 439,.int 34 0,.int 3 0,.int 0 0,.int 0 0,.int 3 0,.ref 75,.bool true,.int 181 0,.ref 76,.none,.ref 77,.ref 78,.ref 79,.int 445 0,.int 34 0,.str (Str.ofString "/claim/cut.py") 446]
noncomputable def zm:Obj:=cdO [.str (Str.ofString "parse_literal_str") 448,.str (Str.ofString "parse_literal_str") 449,.str (Str.ofString "/claim/cut.py") 450,.int 43 0,.int 2 0,.int 0 0,.int 0 0,.int 3 0,.ref 82,.bool true,.int 181 0,.ref 83,.none,.ref 84,.ref 85,.ref 86,.int 454 0,.int 43 0,.str (Str.ofString "/claim/cut.py") 455]
noncomputable def uj:Obj:=cdO [.str (Str.ofString "is_unicode_scalar_value") 467,.str (Str.ofString "is_unicode_scalar_value") 468,.str (Str.ofString "/claim/cut.py") 469,.int 60 0,.int 1 0,.int 0 0,.int 0 0,.int 3 0,.ref 96,.bool true,.int 181 0,.ref 97,.none,.ref 98,.ref 99,.ref 100,.int 471 0,.int 60 0,.str (Str.ofString "/claim/cut.py") 472]
noncomputable def uk:Obj:=cdO [.str (Str.ofString "heappush") 476,.str (Str.ofString "heappush") 477,.str (Str.ofString "/claim/cut.py") 478,.int 63 0,.int 2 0,.int 0 0,.int 0 0,.int 3 0,.ref 103,.bool true,.int 181 0,.ref 104,.none,.ref 105,.ref 106,.ref 107,.int 481 0,.int 63 0,.str (Str.ofString "/claim/cut.py") 482]
noncomputable def ul:Obj:=cdO [.str (Str.ofString "heappop") 484,.str (Str.ofString "heappop") 485,.str (Str.ofString "/claim/cut.py") 486,.int 66 0,.int 1 0,.int 0 0,.int 0 0,.int 3 0,.ref 110,.bool true,.int 181 0,.ref 111,.none,.ref 112,.ref 113,.ref 114,.int 490 0,.int 66 0,.str (Str.ofString "/claim/cut.py") 491]
noncomputable def um:Obj:=cdO [.str (Str.ofString "_siftdown") 493,.str (Str.ofString "_siftdown") 494,.str (Str.ofString "/claim/cut.py") 495,.int 74 0,.int 3 0,.int 0 0,.int 0 0,.int 3 0,.ref 117,.bool true,.int 181 0,.ref 118,.none,.ref 119,.ref 120,.ref 121,.int 502 0,.int 74 0,.str (Str.ofString "/claim/cut.py") 503]
noncomputable def uo:Obj:=cdO [.str (Str.ofString "_siftup") 505,.str (Str.ofString "_siftup") 506,.str (Str.ofString "/claim/cut.py") 507,.int 85 0,.int 2 0,.int 0 0,.int 0 0,.int 3 0,.ref 124,.bool true,.int 181 0,.ref 125,.none,.ref 126,.ref 127,.ref 128,.int 515 0,.int 85 0,.str (Str.ofString "/claim/cut.py") 516]
noncomputable def nv4:Value := .str (Str.ofString "abc") 529
noncomputable def nv5:Value := .str (Str.ofString "collections.abc") 555
noncomputable def nv3:Value := .str (Str.ofString "cpy313.heapq") 474
noncomputable def Ct:Obj:=fnO "skip_until" 10 nv1 66
noncomputable def Cu:Obj:=fnO "skip_comment" 11 nv1 73
noncomputable def Cv:Obj:=fnO "parse_hex_char" 12 nv1 80
noncomputable def Cw:Obj:=fnO "parse_literal_str" 13 nv1 87
noncomputable def wQ:Obj:=fnO "is_unicode_scalar_value" 15 nv1 101
noncomputable def wR:Obj:=fnO "heappush" 17 nv3 108
noncomputable def wS:Obj:=fnO "heappop" 18 nv3 115
noncomputable def wT:Obj:=fnO "_siftdown" 19 nv3 122
noncomputable def wU:Obj:=fnO "_siftup" 20 nv3 129
noncomputable abbrev nmF:List (String×Nat×Value):=nmE++[("TOMLDecodeError",415,.ref 57),("skip_until",427,.ref 67),("skip_comment",436,.ref 74),("parse_hex_char",447,.ref 81),("parse_literal_str",456,.ref 88),("suffixed_err",466,.ref 95)]
noncomputable def tb3:Obj:=tab [.int 1 0,.int 0 0,.ref 20,.int 5 0,.int 23 0,.ref 26,.int 12 0,.int 0 0,.ref 53,.int 14 0,.int 0 0,.ref 66,.int 26 0,.int 0 0,.ref 73,.int 34 0,.int 0 0,.ref 80,.int 43 0,.int 0 0,.ref 87,.int 48 0,.int 0 0,.ref 94]
noncomputable def kj0 (P:Params) (o6 o7:Obj):Kn:=(3,nm P nv1 nmE)::(44,o7)::(43,o6)::(12,tb2)::(13,dA)::kz P
noncomputable def IW (w:World) (K:KF) (H:KH) (p:Pos) (o6 o7:Obj) (f:Nat→Obj) (os:OsState):Rn :=
 goU w [3,12] 48 347 (stT (kj0 w.params o6 o7) f 48 #[.finished] 398 os) (thr (stm 9 15) K H p)
set_option maxHeartbeats 4000000 in
theorem k_9 (w:World) (K:KF) (H:KH) (p:Pos) (o6 o7:Obj) (f:Nat→Obj) (os:OsState) :
  (IW w K H p o6 o7 f os).map (fun r=>(vw [3,12,67,74,81,88,66,73,80,87] r.1,r.2)) =
   some ((96,#[.finished],boot_drawn,467,[some (nm w.params nv1 nmF),some (tb3),some (Ct),some (Cu),some (Cv),some (Cw),some (zj),some (zk),some (zl),some (zm)]),thk (K .next) ⟨48,0,59,64⟩):=by
 kernel_rfl
noncomputable abbrev nmG:List (String×Nat×Value):=nmF++[("is_unicode_scalar_value",473,.ref 102),("heappush",483,.ref 109),("heappop",492,.ref 116),("_siftdown",504,.ref 123),("_siftup",517,.ref 130),("_plain_name",528,.ref 137)]
noncomputable def tb4:Obj:=tab [.int 1 0,.int 0 0,.ref 20,.int 5 0,.int 23 0,.ref 26,.int 12 0,.int 0 0,.ref 53,.int 14 0,.int 0 0,.ref 66,.int 26 0,.int 0 0,.ref 73,.int 34 0,.int 0 0,.ref 80,.int 43 0,.int 0 0,.ref 87,.int 48 0,.int 0 0,.ref 94,.int 60 0,.int 0 0,.ref 101,.int 63 0,.int 0 0,.ref 108,.int 66 0,.int 0 0,.ref 115,.int 74 0,.int 0 0,.ref 122,.int 85 0,.int 0 0,.ref 129,.int 100 0,.int 0 0,.ref 136]
noncomputable def kj1 (P:Params) (o6 o7:Obj):Kn:=(3,nm P nv1 nmF)::(12,tb3)::(67,Ct)::(74,Cu)::(81,Cv)::(88,Cw)::(66,zj)::(73,zk)::(80,zl)::(87,zm)::(44,o7)::(43,o6)::(13,dA)::kz P
noncomputable def IX (w:World) (K:KF) (H:KH) (p:Pos) (o6 o7:Obj) (f:Nat→Obj) (os:OsState):Rn :=
 goU w [3,12] 96 217 (stT (kj1 w.params o6 o7) f 96 #[.finished] 467 os) (thr (stm 15 24) K H p)
set_option maxHeartbeats 4000000 in
theorem JR (w:World) (K:KF) (H:KH) (p:Pos) (o6 o7:Obj) (f:Nat→Obj) (os:OsState) :
  (IX w K H p o6 o7 f os).map (fun r=>(vw [3,12,102,109,116,123,130,101,108,115,122,129] r.1,r.2)) =
   some ((138,#[.finished],boot_drawn,531,[some (nm w.params nv4 nmG),some (tb4),some (wQ),some (wR),some (wS),some (wT),some (wU),some (uj),some (uk),some (ul),some (um),some (uo)]),thk (K .next) ⟨105,0,105,8⟩):=by
 kernel_rfl
noncomputable abbrev nmH:List (String×Nat×Value):=nmG++[("ABCMeta",554,.ref 154),("_ABCLike",597,.ref 187)]
noncomputable def tb5:Obj:=tab [.int 1 0,.int 0 0,.ref 20,.int 5 0,.int 23 0,.ref 26,.int 12 0,.int 0 0,.ref 53,.int 14 0,.int 0 0,.ref 66,.int 26 0,.int 0 0,.ref 73,.int 34 0,.int 0 0,.ref 80,.int 43 0,.int 0 0,.ref 87,.int 48 0,.int 0 0,.ref 94,.int 60 0,.int 0 0,.ref 101,.int 63 0,.int 0 0,.ref 108,.int 66 0,.int 0 0,.ref 115,.int 74 0,.int 0 0,.ref 122,.int 85 0,.int 0 0,.ref 129,.int 100 0,.int 0 0,.ref 136,.int 106 0,.int 0 0,.ref 143,.int 111 0,.int 0 0,.ref 162]
noncomputable def kj2 (P:Params) (o6 o7:Obj):Kn:=(3,nm P nv4 nmG)::(12,tb4)::(102,wQ)::(109,wR)::(116,wS)::(123,wT)::(130,wU)::(101,uj)::(108,uk)::(115,ul)::(122,um)::(129,uo)::(67,Ct)::(74,Cu)::(81,Cv)::(88,Cw)::(66,zj)::(73,zk)::(80,zl)::(87,zm)::(44,o7)::(43,o6)::(13,dA)::kz P
noncomputable def IY (w:World) (K:KF) (H:KH) (p:Pos) (o6 o7:Obj) (f:Nat→Obj) (os:OsState):Rn :=
 goU w [3,12] 138 527 (stT (kj2 w.params o6 o7) f 138 #[.finished] 531 os) (thr (stm 24 27) K H p)
set_option maxHeartbeats 4000000 in
theorem JS (w:World) (K:KF) (H:KH) (p:Pos) (o6 o7:Obj) (f:Nat→Obj) (os:OsState) :
  (IY w K H p o6 o7 f os).map (fun r=>(vw [3,12] r.1,r.2)) =
   some ((190,#[.finished],boot_drawn,598,[some (nm w.params nv5 nmH),some (tb5)]),thk (K .next) ⟨111,0,125,16⟩):=by
 kernel_rfl
noncomputable def kj3 (P:Params) (o6 o7:Obj):Kn:=(3,nm P nv5 nmH)::(12,tb5)::(102,wQ)::(109,wR)::(116,wS)::(123,wT)::(130,wU)::(101,uj)::(108,uk)::(115,ul)::(122,um)::(129,uo)::(67,Ct)::(74,Cu)::(81,Cv)::(88,Cw)::(66,zj)::(73,zk)::(80,zl)::(87,zm)::(44,o7)::(43,o6)::(13,dA)::kz P
theorem Is.drop {s:Shared} {n:Nat} {x:Nat×Obj} {kn:Kn} {gens:Array GenState} {toks:Nat} {os:OsState} (I:Is s n (x::kn) gens toks os):Is s n kn gens toks os:={ I with know:=fun p hp=>I.know p (.tail _ hp) }
theorem Is.upd {s s':Shared} {n:Nat} {pre post:Kn} {a:Addr} {o o':Obj} {gens:Array GenState} {toks tk:Nat} {os:OsState} (I:Is s n (pre++(a,o)::post) gens toks os) (hp:(pre.all fun p=>p.1 != a)=true) (hq:(post.all fun p=>p.1 != a)=true) (hf:o'.isFreed=false)
  (e:s'={ s with heap:=s.heap.update a (fun _=>o'),toks:=tk }):Is s' n (pre++(a,o')::post) gens tk os:=by
 subst e
 have ha:s.heap.get? a=some o:=I.know (a,o) (List.mem_append_right _ (.head _))
 have ne:∀ p:Nat×Obj,(p.1 != a)=true→p.1≠a:=fun p h=>by simpa using h
 refine⟨?_,fun p h => ?_,I.gens,I.drawn,rfl,I.os,I.life⟩
 ·show (s.heap.objs.modify a _).size=n
  refine rT Array.size_modify ?_;exact I.size
 ·rcases List.mem_append.mp h with h|h
  ·exact (aA (ne p (Kc.mp hp p h))).trans (I.know p (List.mem_append_left _ h))
  ·rcases KJ.mp h with rfl|h
   ·exact cb ha hf
   ·exact (aA (ne p (Kc.mp hq p h))).trans (I.know p (List.mem_append_right _ (.tail _ h)))
theorem Is.push {s s':Shared} {n:Nat} {kn:Kn} {o':Obj} {gens:Array GenState} {toks:Nat} {os:OsState} (I:Is s n kn gens toks os) (hf:o'.isFreed=false) (e:s'={ s with heap:=s.heap.push o' }):Is s' (n+1) ((n,o')::kn) gens toks os:=by
 subst e
 refine⟨?_,fun p h => ?_,I.gens,I.drawn,I.toks,I.os,I.life⟩
 ·show (s.heap.push o').objs.size=n+1
  refine rT (Heap.size_push ..) ?_;exact rT I.size rfl
 ·rcases KJ.mp h with rfl|h
  ·have:=Kj s.heap (o:=o') hf
   rw [I.size] at this;exact this
  ·exact Kx _ (I.know p h)
noncomputable def GL:Around:={ depth:=400,units:=20 }
theorem GM (k1 k2 k3:Result→Sem Fin) (a it:Addr) (x:Value) (l:List Value) (p:Pos):(Ctx.of (lL a it) (stk k1 k2 k3 a it x l p)).In GL :=
 ⟨rfl,Lj (by kernel_rfl),fun _ h=>(nomatch h),fun _ h=>(nomatch h),Lj (by kernel_rfl)⟩
theorem EY (k:Result→Sem Fin) (id:String) (a b:Addr) (p:Pos) (h:id = "frozenset.__or__" ∨ id = "frozenset.__sub__"):(Ctx.of (opC id a b) (opS k id a b p)).In GL:=by
 rcases h with rfl|rfl<;>exact⟨rfl,Lj (by kernel_rfl),fun _ h=>(nomatch h),fun _ h=>(nomatch h),Lj (by kernel_rfl)⟩
structure ST where
 es:Array (Int×Value)
 ep:Nat
 t:SetTable
noncomputable abbrev ST.o (S:ST):Obj:=aj "frozenset" S.es S.ep S.t
noncomputable abbrev SD (w:World) (S:ST) (ms:List Str):Prop:=au (strKind prog0 w) S.es S.t ms
section
variable {w:World} {s:Shared} {n:Nat} {kn:Kn} {gens:Array GenState} {toks:Nat} {os:OsState}
theorem j5 {P:Prop} {pre post:Kn} {a it:Addr} {k:Str} {tk:Tok} {S:ST} {ns:List Str} {x:Value} {q p:Pos} {l:List Value} (k1 k2 k3:Result→Sem Fin) (I:Is s n (pre++(a,S.o)::post) gens toks os) (D:SD w S ns) (hroom:ns.length<100)
  (hp:(pre.all fun p=>p.1 != a)=true) (hq:(post.all fun p=>p.1 != a)=true)
  (K:∀ s' q' S',SD w S' (br ns k)→Is s' n (pre++(a,S'.o)::post) gens (toks+1) os→cF w s (zi a it (.str k tk) q (stk k1 k2 k3 a it x l p)) s' (gY a it q' (stk k1 k2 k3 a it x l p))→P):P:=by
 have ha:s.heap.get? a=some S.o:=I.know _ (List.mem_append_right _ (.head _))
 refine mb (w:=w) (s:=s) (GM k1 k2 k3 a it x l p) (m:=holding [Value.str k tk] (setAdd a (.str k tk))) (f:=fun _=>(again (lL a it):Sem Fin))
  (Q:=fun _ s'=>∃ S',SD w S' (br ns k)∧s'={ s with heap:=s.heap.update a (fun _=>S'.o),toks:=s.toks+1 }) q (by
   refine JY ?_
   unfold setAdd
   refine JY (JX ((strKind prog0 w).pyHash (k:=k) (strKind_is _ _ _ _) ?_))
   refine hU (s:={ s with toks:=s.toks+1 }) (knd:=strKind prog0 w) ha D (strKind_is _ _ _ _) rfl (by unfold scanBound;lia) fun es' ep' t' D'=>⟨⟨es',ep',t'⟩,D',rfl⟩) fun s' q' b ⟨S',D',e⟩ g=>K s' q' S' D' (I.upd hp hq rfl (by refine rB I.toks ?_;exact e)) (g.trans ?_)
 refine cF.one (by kernel_rfl) ?_
 refine rT table_eq_tree ?_
 rfl
end
noncomputable def ch (c:Nat):Str:=⟨#[c]⟩
theorem vT {a b:Nat} (h:ch a=ch b):a=b:=by
 unfold ch at h
 injection h with h
 injection h with h
 injection h
noncomputable def chL (l:List Nat):List Str:=l.map ch
theorem md {l:List Nat} {c:Nat}:ch c∈chL l↔c∈l:=by
 unfold chL
 refine rP List.mem_map ?_
 exact⟨fun ⟨a,ha,e⟩=>vT e▸ha,fun h=>⟨c,h,rfl⟩⟩
theorem wV {l:List Nat} {c:Nat} (h:c∉l):br (chL l) (ch c)=chL (l++[c]):=by
 unfold br
 refine rT (if_neg (fun q=>h (md.mp q))) ?_
 unfold chL
 refine rT List.map_append ?_;rfl
theorem GN {l:List Nat} (h:l.Nodup):(chL l).Nodup:=by
 unfold chL
 refine rP List.nodup_iff_pairwise_ne ?_;refine rP List.pairwise_map ?_
 exact (List.nodup_iff_pairwise_ne.mp h).imp fun q e=>q (vT e)
section
variable {w:World} {a b c:Bool} {s:Shared} {os:OsState}
theorem IZ:(w3 w a b c).params.followText "set-order" = b:=by kernel_rfl
theorem I9:(w3 w a b c).params.followText "set-order" = true∨(!b)=true:=by refine rT IZ ?_;cases b<;>simp
noncomputable abbrev S0 (b:Bool):ST:=⟨#[],0,SetTable.fresh 0 0 (!b)⟩
theorem iu:SD (w3 w a b c) (S0 b) []:=au.fresh I9
theorem GO {P:Prop} {st:List Frame} {q₀:Pos} (k1 k2 k3:Result→Sem Fin) (hst:st=stk k1 k2 k3 29 28 (.ref 28) [] P5) (I:Is s 30 (kt (w3 w a b c).params 0 (emp b)) G0 207 os) (i:Nat) (hi:i<32) :
  (∀ s' q S,SD (w3 w a b c) S (chL (List.range (i+1)))→Is s' 30 (kt (w3 w a b c).params (i+1) S.o) G1 (207+4*(i+1)) os→cF (w3 w a b c) s (gY 29 28 q₀ st) s' (gY 29 28 q st)→P)→P:=by
 induction i with
 |zero =>
  intro K
  subst hst
  refine dc (kn':=kt (w3 w a b c).params 1 (emp b)) [(23,rit 1 31),(27,frI (w3 w a b c).params 1)] (by kernel_rfl) (fun f os=>IL w a b c k1 k2 k3 #[] 0 _ q₀ f os) (by decide) I fun s1 g1 I1 => ?_
  refine j5 (S:=S0 b) (w:=w3 w a b c) (pre:=[(23,rit 1 31),(27,frI (w3 w a b c).params 1),(28,Cs)]) (post:=(12,tb2)::(3,nm (w3 w a b c).params nv1 nmA)::(13,dA)::kz (w3 w a b c).params) (k:=ch 0) (tk:=209) (it:=28) (x := .ref 28) (l:=[]) (p:=P5) (q:=q₀) k1 k2 k3 I1 iu (by decide) (by kernel_rfl) (by kernel_rfl) fun s2 q2 S D I2 g2=>K s2 q2 S D I2 (g1.trans g2)
 |succ i ih =>
  intro K
  refine ih (Nat.lt_of_succ_lt hi) fun s1 q1 S D I1 g1 => ?_
  subst hst
  have hk:=fun f os=>List.map_inj_left.mp (JC (w3 w a b c) k1 k2 k3 S.es S.ep S.t q1 f os) i (List.mem_range.mpr (Nat.lt_of_succ_lt_succ hi))
  refine dc (kn':=kt (w3 w a b c).params (i+2) S.o) [(23,rit (i+2:Nat) (32-(i+2):Nat)),(27,frI (w3 w a b c).params (i+2))] (by kernel_rfl) hk (by decide) I1 fun s2 g2 I2 => ?_
  refine j5 (S:=S) (w:=w3 w a b c) (pre:=[(23,rit (i+2:Nat) (32-(i+2):Nat)),(27,frI (w3 w a b c).params (i+2)),(28,Cs)]) (post:=(12,tb2)::(3,nm (w3 w a b c).params nv1 nmA)::(13,dA)::kz (w3 w a b c).params) (k:=ch (i+1)) (tk:=209+4*(i+1)) (it:=28) (x := .ref 28) (l:=[]) (p:=P5) (q:=q1) k1 k2 k3 I2 D (by rewrite [chL];refine rT (List.length_map ..) ?_;refine rT List.length_range ?_;exact Kd hi (by decide)) (by kernel_rfl) (by kernel_rfl) fun s3 q3 S' D' I3 g3=>K s3 q3 S' ?_ I3 (g1.trans (g2.trans g3))
  rw [wV (by simp),← List.range_succ] at D';exact D'
end
section
variable {w:World} {a b c:Bool} {s:Shared} {os:OsState}
theorem JT {R:Prop} (K:KF) (H:KH) (p:Pos) (I:Is s 22 (kn2 (w3 w a b c).params) #[] 196 os)
  (k:∀ s' S ms,SD (w3 w a b c) S ms→(∀ k,k∈ms↔k∈chL (List.range 32++[127]))→Is s' 39 (ke (w3 w a b c).params S.o) #[.finished] 340 os→cF (w3 w a b c) s (thr (stm 2 3) K H p) s' (thk (K .next) ⟨5,0,5,10⟩)→R):R:=by
 refine dc (kn':=kt (w3 w a b c).params 0 (emp b)) [(23,rit 0 32),(27,fr2 (w3 w a b c).params),(28,Cs),(29,emp b),(12,tb2)] (by kernel_rfl) (fun f os=>JA w a b c K H p f os) (by decide) I fun s1 g1 I1 => ?_
 refine GO (q₀:=P5) (kA K H 0) (kA K H 1) (kA K H 2) rfl I1 31 (by decide) fun s2 q2 S D2 I2 g2 => ?_
 refine dc (kn':=kc (w3 w a b c).params S.o (emp b) (sit j3 0)) [(35,sit j3 0),(34,emp b)] (by kernel_rfl) (fun f os=>JD w a b c K H S.es S.ep S.t q2 f os) (by decide) I2 fun s3 g3 I3 => ?_
 refine dc (kn':=kc (w3 w a b c).params S.o (emp b) (sit j3 1)) [(35,sit j3 1)] (by kernel_rfl) (fun f os=>JF (w3 w a b c) (kB K H 0) (kB K H 1) (kB K H 2) S.o #[] 0 _ P6 f os) (by decide) I3 fun s4 g4 I4 => ?_
 refine j5 (S:=S0 b) (w:=w3 w a b c) (pre:=[(35,sit j3 1)]) (post:=(29,S.o)::(12,tb2)::(3,nm (w3 w a b c).params nv1 nmA)::(13,dA)::kz (w3 w a b c).params) (k:=ch 127) (tk:=337) (it:=35) (x:=j3) (l:=[.ref 29]) (p:=P6) (q:=P6) (kB K H 0) (kB K H 1) (kB K H 2) I4 iu (by decide) (by kernel_rfl) (by kernel_rfl) fun s5 q5 S3 D5 I5 g5 => ?_
 refine dc (kn':=(34,S3.o)::(29,S.o)::(12,tb2)::(3,nm (w3 w a b c).params nv1 nmA)::(13,dA)::kz (w3 w a b c).params) [] (by kernel_rfl) (fun f os=>JG w a b c K H S.es S3.es S.ep S3.ep S.t S3.t q5 f os) (by decide) I5 fun s6 g6 I6 => ?_
 refine mb (w:=w3 w a b c) (s:=s6) (EY (kC K H) "frozenset.__or__" 29 34 P7 (.inl rfl)) (m:=IN 29 34) (f:=fun v=>(ret v:Sem Fin))
  (Q:=fun v s'=>∃ S ms,SD (w3 w a b c) S ms∧(∀ k,k∈ms↔k∈chL (List.range 32)∨k∈[ch 127])∧v = .ref s6.heap.objs.size∧s'={ s6 with heap:=s6.heap.push S.o }) P7
  (wv (.inr rfl) (.inr rfl) (I6.know (29,S.o) (.tail _ (.head _))) D2 (I6.know (34,S3.o) (.head _)) D5 (by decide) (by decide) fun es ep t ms D hm=>⟨⟨es,ep,t⟩,ms,D,hm,rfl,rfl⟩) fun s7 q7 v h g7 => ?_
 obtain⟨S4,ms4,D7,hm,rfl,e⟩:=h
 rw [I6.size] at g7
 have I7:=I6.drop.drop.push (o':=S4.o) rfl e
 refine dc (kn':=ke (w3 w a b c).params S4.o) [(3,nm (w3 w a b c).params nv1 nmB)] (by kernel_rfl) (fun f os=>JI (w3 w a b c) K H S4.o q7 f os) (by decide) I7 fun s8 g8 I8 => ?_
 refine k s8 S4 ms4 D7 (fun k => ?_) I8 (g1.trans (g2.trans (g3.trans (g4.trans (g5.trans (g6.trans (g7.trans g8)))))))
 refine rP (hm k) ?_
 unfold chL
 refine rT List.map_append ?_;refine rP List.mem_append ?_
 rfl
theorem uq:((List.range 32++[127]).all fun c=>c==9||ill.contains c)=true∧(ill.all fun c=>(List.range 32++[127]).contains c&&c != 9)=true:=by decide
theorem zn (k:Str):(k∈chL (List.range 32++[127])∧k∉[ch 9])↔k∈chL ill:=by
 constructor
 ·rintro⟨h1,h2⟩
  obtain⟨c,hc,rfl⟩:=Kg.mp h1
  rcases (Bool.or_eq_true ..).mp (Kc.mp uq.1 c hc) with e|e
  ·exact absurd (List.mem_singleton.mpr (congrArg ch (eq_of_beq e))) h2
  ·exact md.mpr (List.contains_iff_mem.mp e)
 ·intro h
  obtain⟨c,hc,rfl⟩:=Kg.mp h
  obtain⟨e1,e2⟩:=(Bool.and_eq_true ..).mp (Kc.mp uq.2 c hc)
  exact⟨md.mpr (List.contains_iff_mem.mp e1),fun q=>bne_iff_ne.mp e2 (vT (Ke.mp q))⟩
theorem Cy {A:Around} {E:Value→Shared→Prop} {x y:Addr} {S S3:ST} {ms:List Str} {Q:Value→Shared→Prop} (D:SD (w3 w a b c) S ms) (hm:∀ k,k∈ms↔k∈chL (List.range 32++[127])) (h1:s.heap.get? x=some S.o) (D3:SD (w3 w a b c) S3 [ch 9]) (h2:s.heap.get? y=some S3.o)
  (k:∀ es ep t ms',au (strKind prog0 (w3 w a b c)) es t ms'→(∀ k,k∈ms'↔k∈chL ill)→Q (.ref s.heap.objs.size) { s with heap:=s.heap.push (aj "frozenset" es ep t) }):wpAny (model prog0 (w3 w a b c)) A (Builtin.Frozenset.difference "frozenset.__sub__" x (.ref y)) Q E s:=by
 have hlen:ms.length=33:=Nat.le_antisymm (bP (m:=chL (List.range 32++[127])) D.nd fun k hk=>(hm k).mp hk) (bP (l:=chL (List.range 32++[127])) (GN (by decide)) fun k hk=>(hm k).mpr hk)
 have key:∀ k,(k∈ms∧k∉[ch 9])↔k∈chL ill:=fun k=>by
  refine rP (hm k) ?_
  exact zn k
 refine Cq (.inr rfl) (.inr rfl) h1 D h2 D3 (hlen▸by decide) (by refine rT hlen ?_;decide) (fun ms' hnd hm' => ?_) fun es ep t ms' D' hm'=>k es ep t ms' D' fun k=>(hm' k).trans (key k)
 exact Kv (bP (m:=chL ill) hnd fun k hk=>(key k).mp ((hm' k).mp hk)) (by decide)
theorem JU {R:Prop} (K:KF) (H:KH) (p:Pos) {S:ST} {ms:List Str} (D:SD (w3 w a b c) S ms) (hm:∀ k,k∈ms↔k∈chL (List.range 32++[127])) (I:Is s 39 (ke (w3 w a b c).params S.o) #[.finished] 340 os)
  (k:∀ s' S ms,SD (w3 w a b c) S ms→(∀ k,k∈ms↔k∈chL ill)→Is s' 44 (kh (w3 w a b c).params S.o) #[.finished] 344 os→cF (w3 w a b c) s (thr (stm 3 4) K H p) s' (thk (K .next) ⟨6,0,6,23⟩)→R):R:=by
 refine dc (kn':=kf (w3 w a b c).params S.o (emp b) (sit j4 0)) [(40,sit j4 0),(39,emp b)] (by kernel_rfl) (fun f os=>JJ w a b c K H p S.es S.ep S.t f os) (by decide) I fun s1 g1 I1 => ?_
 refine dc (kn':=kf (w3 w a b c).params S.o (emp b) (sit j4 1)) [(40,sit j4 1)] (by kernel_rfl) (fun f os=>JK (w3 w a b c) (kD K H 0) (kD K H 1) (kD K H 2) S.o #[] 0 _ P8 f os) (by decide) I1 fun s2 g2 I2 => ?_
 refine j5 (S:=S0 b) (w:=w3 w a b c) (pre:=[(40,sit j4 1)]) (post:=(3,nm (w3 w a b c).params nv1 nmB)::(38,S.o)::(12,tb2)::(13,dA)::kz (w3 w a b c).params) (k:=ch 9) (tk:=341) (it:=40) (x:=j4) (l:=[.ref 38]) (p:=P8) (q:=P8) (kD K H 0) (kD K H 1) (kD K H 2) I2 iu (by decide) (by kernel_rfl) (by kernel_rfl) fun s3 q3 S3 D3 I3 g3 => ?_
 refine dc (kn':=(39,S3.o)::(3,nm (w3 w a b c).params nv1 nmB)::(38,S.o)::(12,tb2)::(13,dA)::kz (w3 w a b c).params) [] (by kernel_rfl) (fun f os=>JM w a b c K H S.es S3.es S.ep S3.ep S.t S3.t q3 f os) (by decide) I3 fun s4 g4 I4 => ?_
 refine mb (w:=w3 w a b c) (s:=s4) (EY (kE K H) "frozenset.__sub__" 38 39 P9 (.inr rfl)) (m:=Builtin.Frozenset.difference "frozenset.__sub__" 38 (.ref 39)) (f:=fun v=>(ret v:Sem Fin))
  (Q:=fun v s'=>∃ S ms',SD (w3 w a b c) S ms'∧(∀ k,k∈ms'↔k∈chL ill)∧v = .ref s4.heap.objs.size∧s'={ s4 with heap:=s4.heap.push S.o }) P9
  ?_ fun s5 q5 v h g5 => ?_
 ·exact Cy D hm (I4.know (38,S.o) (.tail _ (.tail _ (.head _)))) D3 (I4.know (39,S3.o) (.head _)) fun es ep t ms' D' hm'=>⟨⟨es,ep,t⟩,ms',D',hm',rfl,rfl⟩
 obtain⟨S5,ms5,D5,hm5,rfl,e⟩:=h
 rw [I4.size] at g5
 have I5:=I4.drop.push (o':=S5.o) rfl e
 refine dc (kn':=kh (w3 w a b c).params S5.o) [(3,nm (w3 w a b c).params nv1 nmC)] (by kernel_rfl) (fun f os=>JN (w3 w a b c) K H S.o S5.o q5 f os) (by decide) I5 fun s6 g6 I6 => ?_
 exact k s6 S5 ms5 D5 hm5 I6 (g1.trans (g2.trans (g3.trans (g4.trans (g5.trans g6)))))
theorem Cz:∀ i,i<22→iv[i]?=some (iv.getD i 0):=by decide
theorem CA:∀ i,i<22→iv.getD i 0∉iv.take i:=by decide
theorem JV (i:Nat):354+2*i+1=353+2*(i+1):=congrArg (·+1) (Kb 353 1 (2*i))
theorem GP {R:Prop} {st:List Frame} {q₀:Pos} (k1 k2 k3:Result→Sem Fin) (o6:Obj) (hst:st=stk k1 k2 k3 44 45 ld [] PA) (I:Is s 46 (ki (w3 w a b c).params o6 (emp b) 0) #[.finished] 353 os) (i:Nat) (hi:i≤22) :
  (∀ s' q S,SD (w3 w a b c) S (chL (iv.take i))→Is s' 46 (ki (w3 w a b c).params o6 S.o i) #[.finished] (353+2*i) os→cF (w3 w a b c) s (gY 44 45 q₀ st) s' (gY 44 45 q st)→R)→R:=by
 induction i with
 |zero=>exact fun K=>K s q₀ (S0 b) iu I (cF.refl _ _ _)
 |succ i ih =>
  intro K
  refine ih (Nat.le_of_succ_le hi) fun s1 q1 S D I1 g1 => ?_
  subst hst
  have hk:=fun f os=>List.map_inj_left.mp (JP (w3 w a b c) k1 k2 k3 o6 S.es S.ep S.t q1 f os) i (List.mem_range.mpr hi)
  refine dc (kn':=ki (w3 w a b c).params o6 S.o (i+1)) [(45,sit ld (i+1:Nat))] (by kernel_rfl) hk (by decide) I1 fun s2 g2 I2 => ?_
  refine j5 (S:=S) (w:=w3 w a b c) (pre:=[(45,sit ld (i+1:Nat))]) (post:=(3,nm (w3 w a b c).params nv1 nmD)::(43,o6)::(12,tb2)::(13,dA)::kz (w3 w a b c).params) (k:=ch (iv.getD i 0)) (tk:=353+2*i) (it:=45) (x:=ld) (l:=[]) (p:=PA) (q:=q1) k1 k2 k3 I2 D (by rewrite [chL];refine rT (List.length_map ..) ?_;exact KQ (List.length_take_le ..) (KZ hi (by decide))) (by kernel_rfl) (by kernel_rfl) fun s3 q3 S' D' I3 g3=>K s3 q3 S' ?_ (JV i▸I3) (g1.trans (g2.trans g3))
  rw [wV (CA i hi)] at D'
  refine rT List.take_succ ?_;refine rT (Cz i hi) ?_
  exact D'
theorem JW {R:Prop} (K:KF) (H:KH) (p:Pos) (o6:Obj) (I:Is s 44 (kh (w3 w a b c).params o6) #[.finished] 344 os)
  (k:∀ s' S,SD (w3 w a b c) S (chL iv)→Is s' 48 (kj0 (w3 w a b c).params o6 S.o) #[.finished] 398 os→cF (w3 w a b c) s (thr (stm 4 9) K H p) s' (thk (K .next) ⟨11,0,11,14⟩)→R):R:=by
 refine dc (kn':=ki (w3 w a b c).params o6 (emp b) 0) [(45,sit ld 0),(44,emp b),(3,nm (w3 w a b c).params nv1 nmD)] (by kernel_rfl) (fun f os=>JO w a b c K H p o6 f os) (by decide) I fun s1 g1 I1 => ?_
 refine GP (q₀:=PA) (kG K H 0) (kG K H 1) (kG K H 2) o6 rfl I1 22 (KX _) fun s2 q2 S D2 I2 g2 => ?_
 refine dc (kn':=kj0 (w3 w a b c).params o6 S.o) [(3,nm (w3 w a b c).params nv1 nmE)] (by kernel_rfl) (fun f os=>JQ w a b c K H o6 S.es S.ep S.t q2 f os) (by decide) I2 fun s3 g3 I3 => ?_
 exact k s3 S D2 I3 (g1.trans (g2.trans g3))
end
noncomputable def f8 (rest:List Stmt) (K:KF) (H:KH):KF:=fun f=>match f with
 |.next=>(execs rest gX).wrap K H id id
 |f=>K f
theorem wW (l rest:List Stmt) (K:KF) (H:KH) (p:Pos):thr (l++rest) K H p=thr l (f8 rest K H) H p:=by
 unfold thr
 refine rT (execs_app_wrap ..) ?_
 rfl
theorem CB (rest:List Stmt) (K:KF) (H:KH) (p:Pos):thk (f8 rest K H .next) p=thr rest K H p:=rfl
noncomputable abbrev r6:List Stmt:=stm 24 27++stm 27 51
noncomputable abbrev r5:List Stmt:=stm 15 24++r6
noncomputable abbrev r4:List Stmt:=stm 9 15++r5
noncomputable abbrev r3:List Stmt:=stm 4 9++r4
noncomputable abbrev r2:List Stmt:=stm 3 4++r3
noncomputable abbrev r1:List Stmt:=stm 2 3++r2
theorem CC:prog0.main.body=stm 0 2++r1:=by kernel_rfl
theorem cF.next {w:World} {l rest:List Stmt} {K:KF} {H:KH} {p:Pos} {th:Thread} {s s':Shared} (g:cF w s th s' (thk (f8 (l++rest) K H .next) p)):cF w s th s' (thr l (f8 rest K H) H p):=by
 rw [CB,wW] at g;exact g
theorem zo (P:Params):(knB P).map (fun p=>(boot_heap P).get? p.1)=(knB P).map fun p=>some p.2:=by kernel_rfl
theorem ED {w:World} {s₀:Shared} (e1:s₀.heap=boot_heap w.params) (e2:s₀.gens=#[]) (e3:s₀.drawn=boot_drawn) (e4:s₀.toks=boot_toks):Is s₀ 11 (knB w.params) #[] 181 s₀.os :=
 ⟨by refine rT e1 ?_;rfl,fun p hp=>by refine rT e1 ?_;exact List.map_inj_left.mp (zo w.params) p hp,e2,e3,e4.trans (by kernel_rfl),rfl,by refine rT e1 ?_;rfl⟩
theorem Ja {R:Prop} (w:World) (a b c:Bool) {s₀:Shared} (e1:s₀.heap=boot_heap (w3 w a b c).params) (e2:s₀.gens=#[]) (e3:s₀.drawn=boot_drawn) (e4:s₀.toks=boot_toks)
  (k:∀ s S6 S7 ms p,SD (w3 w a b c) S6 ms→(∀ k,k∈ms↔k∈chL ill)→SD (w3 w a b c) S7 (chL iv)→Is s 190 (kj3 (w3 w a b c).params S6.o S7.o) #[.finished] 598 s₀.os→cF (w3 w a b c) s₀ (topStub prog0) s (thr (stm 27 51) doneF (leaveH gX) p)→R):R:=by
 have I0:=ED e1 e2 e3 e4
 refine dc (kn':=kn1 (w3 w a b c).params) [(12,tab []),(13,dA)] (by kernel_rfl) (fun f os=>GJ (w3 w a b c) f os) (by decide) I0 fun s1 g1 I1 => ?_
 generalize hH:leaveH gX=H at k
 have hb:thk (denote treeTable iX) p0=thr (stm 0 2) (f8 r1 doneF H) H p0:=by
  refine rT EC ?_;refine rB (wW ..) ?_;refine rB CC ?_;exact rT hH rfl
 rw [hb] at g1
 refine dc (kn':=kn2 (w3 w a b c).params) [(3,nm (w3 w a b c).params nv1 nmA),(12,tab [.int 1 0,.int 0 0,.ref 20])] (by kernel_rfl) (fun f os=>k_0 (w3 w a b c) (f8 r1 doneF H) H p0 f os) (by decide) I1 fun s2 g2 I2 => ?_
 replace g2:=(g1.trans g2).next
 refine JT (f8 r2 doneF H) H ⟨4,0,4,8⟩ I2 fun s3 S3 ms3 D3 hm3 I3 g3 => ?_
 replace g3:=(g2.trans g3).next
 refine JU (f8 r3 doneF H) H ⟨5,0,5,10⟩ D3 hm3 I3 fun s4 S4 ms4 D4 hm4 I4 g4 => ?_
 replace g4:=(g3.trans g4).next
 refine JW (f8 r4 doneF H) H ⟨6,0,6,23⟩ S4.o I4 fun s5 S5 D5 I5 g5 => ?_
 replace g5:=(g4.trans g5).next
 refine dc (kn':=kj1 (w3 w a b c).params S4.o S5.o) [(3,nm (w3 w a b c).params nv1 nmF),(12,tb3),(67,Ct),(74,Cu),(81,Cv),(88,Cw),(66,zj),(73,zk),(80,zl),(87,zm)] (by kernel_rfl) (fun f os=>k_9 (w3 w a b c) (f8 r5 doneF H) H ⟨11,0,11,14⟩ _ _ f os) (by decide) I5 fun s6 g6 I6 => ?_
 replace g6:=(g5.trans g6).next
 refine dc (kn':=kj2 (w3 w a b c).params S4.o S5.o) [(3,nm (w3 w a b c).params nv4 nmG),(12,tb4),(102,wQ),(109,wR),(116,wS),(123,wT),(130,wU),(101,uj),(108,uk),(115,ul),(122,um),(129,uo)] (by kernel_rfl) (fun f os=>JR (w3 w a b c) (f8 r6 doneF H) H ⟨48,0,59,64⟩ _ _ f os) (by decide) I6 fun s7 g7 I7 => ?_
 replace g7:=(g6.trans g7).next
 refine dc (kn':=kj3 (w3 w a b c).params S4.o S5.o) [(3,nm (w3 w a b c).params nv5 nmH),(12,tb5)] (by kernel_rfl) (fun f os=>JS (w3 w a b c) (f8 (stm 27 51) doneF H) H ⟨105,0,105,8⟩ _ _ f os) (by decide) I7 fun s8 g8 I8 => ?_
 exact k s8 S4 S5 ms4 _ D4 hm4 D5 I8 (g7.trans g8)
noncomputable abbrev CD:=Str×Arguments×List Stmt×Scope
noncomputable def CE (l:List Arg):Bool:=l.all fun a=>match a with
 |⟨_,none,_⟩=>true
 |_=>false
theorem wX (env:Env):∀ l:List Arg,CE l=true→annotationsOf l env=[]
 |[],_=>rfl
 |⟨n,none,q⟩::l,h=>wX env l h
 |⟨n,some x,q⟩::l,h=>by cases h
noncomputable def vU (p:Arguments):List Arg:=match p with
 |⟨po,a,va,ko,_,kwa,_⟩=>a++po++va.toList++ko++kwa.toList
noncomputable def vV (name:Str) (params:Arguments) (body:List Stmt) (scope:Scope) (pos:Pos) (L:List (Nat×Nat)) (ns:List Str):Bool :=
 params.defaults.isEmpty&&params.kw_defaults.isEmpty&&CE (vU params)&&(docOf body).isNone&&scope.names.all (fun x=>x.2 != .free)&&prog0.main.scope.names.lookup name==some .local &&
  qualnameIn { scope:=prog0.main.scope,locals:=mainGlobals,globals:=mainGlobals,cells:=[] } name name==name&&name != "__builtins__" && name != "__name__" && !L.contains (pos.line,pos.col)&&!ns.contains name
theorem vW {name:Str} {params:Arguments} {body:List Stmt} {scope:Scope} {pos:Pos} (h1:params.defaults=[]) (h2:params.kw_defaults=[]) (h3:CE (vU params)=true):PlainDefTree name params body scope pos:=fun env=>by
 have ha:annTrees params none env=[]:=by
  obtain⟨po,a,va,ko,kd,kwa,d⟩:=params
  unfold annTrees
  have:=wX env _ h3
  unfold vU at this
  dsimp only at this ⊢
  refine rT this ?_
  rfl
 refine rT (exec_def ..) ?_;refine rT (defaultsOf_eq ..) ?_;refine rT h1 ?_;refine rT h2 ?_;refine rT ha ?_
 rfl
inductive ur:List Value→List (Nat×Nat)→Prop
 |nil:ur [] []
 |cons {a b:Int} {t u:Tok} {v:Value} {r:List Value} {m:List (Nat×Nat)}:ur r m→ur (.int a t :: .int b u::v::r) ((a.toNat,b.toNat)::m)
theorem zp {pos:Pos} {l:List Value} {L:List (Nat×Nat)} (h:ur l L):L.contains (pos.line,pos.col)=false→codeAmong pos l=none:=by
 induction h with
 |nil=>exact fun _=>rfl
 |@cons a b t u v r m _ ih =>
  intro hn
  rw [List.contains_cons,Bool.or_eq_false_iff] at hn
  unfold codeAmong
  have hne:(a==(pos.line:Int)&&b==(pos.col:Int))=false:=by
   refine rB (Bool.not_eq_true ..) ?_
   intro q
   obtain⟨q1,q2⟩:=(Bool.and_eq_true ..).mp q
   rw [eq_of_beq q1,eq_of_beq q2] at hn
   exact absurd hn.1 (by refine rT (show (((pos.line:Nat):Int).toNat,((pos.col:Nat):Int).toNat)=(pos.line,pos.col) from rfl) ?_;refine rT (beq_self_eq_true ..) ?_;exact Bool.noConfusion)
  refine rT hne ?_
  exact ih hn.2
theorem zq {v:Value} {a b:Nat} {l:List Value} {L:List (Nat×Nat)} (h:ur l L):ur (l++[rawInt a,rawInt b,v]) (L++[(a,b)]):=by
 induction h with
 |nil=>exact .cons .nil
 |cons _ ih=>exact .cons ih
inductive Made (n:Nat) (h:Heap) (mg:Str→Option Value) (d:CD):Prop
 |mk (a:Addr) (o:Obj) (pm:Value) (c:Addr):n≤a→mg d.1=some (.ref a)→h.get? a=some o→o.data = .func (docDef d.1 d.2.1 d.2.2.1 d.2.2.2 pm (.ref c) .none)→n≤c→h.CodeRec (.ref c) d.1→Made n h mg d
structure Md (h₀:Heap) (mg₀:Str→Option Value) (h:Heap) (mg:Str→Option Value) (ps:Array Value) (L:List (Nat×Nat)) (items:List CD) (ns:List Str):Prop where
 main:h.Main mg 13 12 ps
 keep:∀ b o,b≠12→b≠mainGlobals→h₀.get? b=some o→h.get? b=some o
 grows:h₀.objs.size≤h.objs.size
 trip:ur ps.toList L
 made:∀ d∈items,Made h₀.objs.size h mg d
 names:∀ x,x∉ns→x ≠ "__name__" → mg x=mg₀ x
 inns:∀ d∈items,d.1∈ns
 nn:("__name__" : Str)∉ns
 low:13<h₀.objs.size
section
variable {w:World} {A:Around} {E:Value→Shared→Prop} {s:Shared} {h₀:Heap} {mg₀ mg:Str→Option Value} {ps:Array Value} {L:List (Nat×Nat)} {items:List CD} {ns:List Str} {Q:Flow→Shared→Prop}
theorem Md.old {h':Heap} {x:Str} {v:Value} (X:Md h₀ mg₀ s.heap mg ps L items ns) (hx:∀ d∈items,d.1≠x) (keep:∀ b o,b≠12→b≠mainGlobals→s.heap.get? b=some o→h'.get? b=some o) :
  ∀ d∈items,Made h₀.objs.size h' (fun y=>if y=x then some v else mg y) d:=fun d hd=>by
 obtain⟨a,o,pm,c',h1,h2,h3,h4,h5,h6⟩:=X.made d hd
 have big:∀ a,h₀.objs.size≤a→a≠12∧a≠mainGlobals:=fun a ha =>
  ⟨Nat.ne_of_gt (KZ (Kd (by decide) X.low) ha),Nat.ne_of_gt (KZ (Kd (by decide) X.low) ha)⟩
 exact⟨a,o,pm,c',h1,(if_neg (hx d hd)).trans h2,keep _ _ (big a h1).1 (big a h1).2 h3,h4,h5,h6.at fun o=>keep _ o (big c' h5).1 (big c' h5).2⟩
theorem Md.def_ {name:Str} {params:Arguments} {body:List Stmt} {scope:Scope} {pos:Pos} (X:Md h₀ mg₀ s.heap mg ps L items ns) (hb:vV name params body scope pos L ns=true)
  (k:∀ h' mg' ps' tk,Md h₀ mg₀ h' mg' ps' (L++[(pos.line,pos.col)]) ((name,params,body,scope)::items) (name::ns)→Q .next { s with heap:=h',toks:=tk }) :
  wpAny (model prog0 w) A (exec (.FunctionDef name params body [] none [] scope none name pos) gX) Q E s:=by
 unfold vV at hb
 simp only [Bool.and_eq_true,List.isEmpty_iff,beq_iff_eq,bne_iff_ne,List.all_eq_true,Option.isNone_iff_eq_none,Bool.not_eq_true',ne_eq] at hb
 obtain⟨⟨⟨⟨⟨⟨⟨⟨⟨⟨h1,h2⟩,h3⟩,h4⟩,h5⟩,h6⟩,h7⟩,h8⟩,h9⟩,h10⟩,h11⟩:=hb
 have hn:name∉ns:=fun q=>by rw [List.contains_iff_mem.mpr q] at h11;cases h11
 refine wpAny_plainDefN (prog:=prog0) (c:=13) (F:=14) (vW h1 h2 h3) h5 h4 h6 h7 X.main (fun a c' h' tk ha hm hf hcd htb keep => ?_) h8 rfl (zp X.trip h10)
 have hx:∀ d∈items,d.1≠name:=fun d hd q=>hn (q▸X.inns d hd)
 refine k h' _ _ tk ⟨hm,fun b o h1 h2 e=>keep b o h1 h2 (X.keep b o h1 h2 e),Kv X.grows (Kv ha (KW (Kw hf))),?_,fun d hd => ?_,fun x hx hx' => ?_,fun d hd => ?_,?_,X.low⟩
 ·refine rT Array.toList_append ?_
  exact zq X.trip
 ·rcases KJ.mp hd with rfl|hd
  ·exact⟨a,_,_,c',Kv X.grows ha,if_pos rfl,hf,rfl,Kv X.grows hcd.1,hcd.2⟩
  ·exact X.old hx keep d hd
 ·rw [List.mem_cons,not_or] at hx
  refine rT (if_neg hx.1) ?_
  exact X.names x hx.2 hx'
 ·rcases KJ.mp hd with rfl|hd
  ·exact .head _
  ·exact .tail _ (X.inns d hd)
 ·refine rP List.mem_cons ?_;refine rP not_or ?_
  exact⟨fun q=>h9 q.symm,X.nn⟩
theorem Md.name_ {v:Str} {kk:Nat} {pc pos' pos:Pos} (X:Md h₀ mg₀ s.heap mg ps L items ns)
  (k:∀ h' mg' tk,Md h₀ mg₀ h' mg' ps L items ns→Q .next { s with heap:=h',toks:=tk }) :
  wpAny (model prog0 w) A (exec (.Assign [.Name "__name__" pos'] (.Constant (.str v) kk pc) pos) gX) Q E s:=by
 refine wpAny_Assign_Name (wpAny_eval_const rfl fun v tk hv => ?_) rfl
 refine wpAny_storeName_local (env:=gX) (by kernel_rfl) X.main.g (fun h' hg' hs' => ?_) rfl
 obtain⟨bm,o,hbm,hne0,hneG,hneP,hbo,hrest⟩:=X.main.bmod
 have hm:h'.Main (fun y=>if y = "__name__" then some v else mg y) 13 12 ps :=
  ⟨hg',X.main.code.sameBut hs' (Nat.ne_of_gt X.main.low.1) (Nat.ne_of_gt X.main.low.2),X.main.low,
   ⟨bm,o,(if_neg (by decide)).trans hbm,hne0,hneG,hneP,(hs'.2 _ hneG).trans hbo,hrest⟩⟩
 refine k h' _ _ ⟨hm,fun b o h1 h2 e=>(hs'.2 _ h2).trans (X.keep b o h1 h2 e),Kv X.grows (Kh hs'.1.symm),X.trip,X.old (fun d hd q=>X.nn (q▸X.inns d hd)) fun b o _ h2 e=>(hs'.2 _ h2).trans e,fun x hx hx' => ?_,X.inns,X.nn,X.low⟩
 refine rT (if_neg hx') ?_
 exact X.names x hx hx'
end
noncomputable def EZ (st:Stmt):Option {p:Str×Arguments×List Stmt×Scope×Pos // st = .FunctionDef p.1 p.2.1 p.2.2.1 [] none [] p.2.2.2.1 none p.1 p.2.2.2.2}:=match st with
 |.FunctionDef name params body [] none [] scope none nm pos=>if h:nm=name then some ⟨(name,params,body,scope,pos),congrArg (fun n=>Stmt.FunctionDef name params body [] none [] scope none n pos) h⟩ else none
 |_=>none
noncomputable def E0 (st:Stmt):Option {p:Str×Nat×Pos×Pos×Pos // st = .Assign [.Name "__name__" p.2.2.1] (.Constant (.str p.1) p.2.1 p.2.2.2.1) p.2.2.2.2}:=match st with
 |.Assign [.Name x p'] (.Constant (.str v) kk pc) pos=>if h:x = "__name__" then some ⟨(v,kk,p',pc,pos),congrArg (fun x=>Stmt.Assign [.Name x p'] (.Constant (.str v) kk pc) pos) h⟩ else none
 |_=>none
noncomputable def ut:List Stmt→List (Nat×Nat)→List Str→Bool
 |[],_,_=>true
 |st::r,L,ns=>(EZ st).elim ((E0 st).elim false fun _=>ut r L ns) fun p=>vV p.1.1 p.1.2.1 p.1.2.2.1 p.1.2.2.2.1 p.1.2.2.2.2 L ns&&ut r (L++[(p.1.2.2.2.2.line,p.1.2.2.2.2.col)]) (p.1.1::ns)
noncomputable def eR:List Stmt→List CD
 |[]=>[]
 |.FunctionDef n a b _ _ _ sc _ _ _::r=>(n,a,b,sc)::eR r
 |_::r=>eR r
theorem CF {w:World} {A:Around} {E:Value→Shared→Prop} {h₀:Heap} {mg₀:Str→Option Value} {Q:Flow→Shared→Prop} (l:List Stmt):∀ (s:Shared) (mg:Str→Option Value) (ps:Array Value) (L:List (Nat×Nat)) (items:List CD) (ns:List Str),ut l L ns=true→Md h₀ mg₀ s.heap mg ps L items ns →
  (∀ h' mg' ps' L' tk,Md h₀ mg₀ h' mg' ps' L' ((eR l).reverseAux items) (((eR l).map (·.1)).reverseAux ns)→Q .next { s with heap:=h',toks:=tk })→wpAny (model prog0 w) A (execs l gX) Q E s:=by
 induction l with
 |nil=>exact fun s mg ps L items ns _ X k=>wpAny_execs_nil (k s.heap mg ps L s.toks X)
 |cons st r ih =>
  intro s mg ps L items ns hb X k
  rw [ut] at hb
  cases e:EZ st with
  |some p =>
   obtain⟨⟨name,params,body,scope,pos⟩,rfl⟩:=p
   rw [e] at hb
   obtain⟨h1,h2⟩:=(Bool.and_eq_true ..).mp hb
   exact wpAny_execs_cons (X.def_ h1 fun h' mg' ps' tk X'=>ih _ mg' ps' _ _ _ h2 X' k)
  |none =>
   rw [e] at hb
   cases e2:E0 st with
   |none=>rw [e2] at hb;cases hb
   |some p =>
    obtain⟨⟨v,kk,p',pc,pos⟩,rfl⟩:=p
    rw [e2] at hb
    exact wpAny_execs_cons (X.name_ fun h' mg' tk X'=>ih _ mg' ps _ _ _ hb X' k)
noncomputable def iC (o:Obj) (n:Str):Option Value:=match o.data with
 |.dict es _=>nsFind es n
 |_=>none
noncomputable def E1 (o:Obj):Bool:=match o.data with
 |.dict es _=>es.all (fun e=>match e.key with | .str _ _=>true|_=>false)
 |_=>false
noncomputable def wY (o:Obj):List Str:=match o.data with
 |.dict es _=>es.toList.filterMap fun e=>match e.key with | .str n _=>some n|_=>none
 |_=>[]
theorem lf {h:Heap} {a:Addr} {o:Obj} (e:h.get? a=some o) (n:Str):h.nsMap a n=iC o n:=by unfold Heap.nsMap iC;refine rT e ?_;rfl
theorem wZ {h:Heap} {a:Addr} {o:Obj} (e:h.get? a=some o):h.isNs a=E1 o:=by unfold Heap.isNs E1;refine rT e ?_;rfl
theorem EE {h:Heap} {a:Addr} {o:Obj} (e:h.get? a=some o):h.nsKeys a=wY o:=by unfold Heap.nsKeys wY;refine rT e ?_;rfl
noncomputable abbrev dd (P:Params):Obj:=nm P nv5 nmH
noncomputable def jq (o:Obj):Array Value:=match o.data with
 |.fields vs=>vs
 |_=>#[]
noncomputable def mf:List Value→List (Nat×Nat)
 |.int a _ :: .int b _::_::r=>(a.toNat,b.toNat)::mf r
 |_=>[]
theorem CG:ur (jq tb5).toList (mf (jq tb5).toList):=by repeat (first|exact .nil|refine .cons ?_)
noncomputable abbrev jr:List Stmt:=stm 27 51
noncomputable def CH:List Str:=((eR jr).map (·.1)).reverse
theorem EF:ut jr (mf (jq tb5).toList) []=true:=by kernel_rfl
theorem EG:(Ctx.of iX [topFrame p0]).In GL:=⟨rfl,Lj (by kernel_rfl),fun _ h=>(nomatch h),fun _ h=>(nomatch h),Lj (by kernel_rfl)⟩
theorem CI (l:List Stmt) (p:Pos):thr l doneF (leaveH gX) p=⟨((execs l gX).onRaise (leaving gX)).bind fun f=>(Sem.pure (Fin.done f):Sem Fin),iX,p,[topFrame p0]⟩:=by
 unfold thr thk
 refine rT (Sem.bind_eq_wrap ..) ?_;refine rT (Sem.onRaise_eq_wrap ..) ?_;refine rT (Sem.wrap_wrap ..) ?_
 rfl
structure aT (w:World) (s₀ s:Shared) (S6 S7:ST):Prop where
 kn:∀ p∈(kj3 w.params S6.o S7.o).tail.tail,s.heap.get? p.1=some p.2
 is:s.heap.isNs mainGlobals=true
 bm:s.heap.BuiltinsAt (s.heap.nsMap mainGlobals) 12
 names:∀ x,x∉CH→x ≠ "__name__" → s.heap.nsMap mainGlobals x=iC (dd w.params) x
 made:∀ d∈eR jr,Made 0 s.heap (s.heap.nsMap mainGlobals) d
 gens:s.gens=#[.finished]
 os:s.os=s₀.os
 life:s.heap.life=s₀.heap.life
 run:∃ n t,schedN (denote table) prog0 w n (.single s₀ (topStub prog0)) = .running (.single s t)∧through t=true
theorem CJ {h:Heap} {a:Addr} {m:Str→Option Value} (x:h.Ns a m):h.isNs a=true:=by
 obtain⟨o,es,ep,ho,hd,hk,_⟩:=x
 unfold Heap.isNs
 refine rT ho ?_;dsimp only;refine rT hd ?_;dsimp only
 refine rP Array.all_eq_true_iff_forall_mem ?_
 intro e he
 obtain⟨n,t,q⟩:=hk e he
 exact rT q rfl
theorem nz (P:Params) (o6 o7:Obj):((kj3 P o6 o7).tail.tail.all fun p=>p.1 != 12&&p.1 != mainGlobals)=true:=by kernel_rfl
theorem vX {R:Prop} (w:World) (a b c:Bool) {s₀:Shared} (e1:s₀.heap=boot_heap (w3 w a b c).params) (e2:s₀.gens=#[]) (e3:s₀.drawn=boot_drawn) (e4:s₀.toks=boot_toks) (z:s₀.asleep)
  (K:∀ s S6 S7 ms,SD (w3 w a b c) S6 ms→(∀ k,k∈ms↔k∈chL ill)→SD (w3 w a b c) S7 (chL iv)→aT (w3 w a b c) s₀ s S6 S7→R):R:=by
 refine Ja w a b c e1 e2 e3 e4 fun s S6 S7 ms p D6 hm6 D7 I g => ?_
 have k3:s.heap.get? mainGlobals=some (dd (w3 w a b c).params):=I.know _ (.head _)
 have k12:s.heap.get? 12=some tb5:=I.know _ (.tail _ (.head _))
 have krest:∀ p∈(kj3 (w3 w a b c).params S6.o S7.o).tail.tail,s.heap.get? p.1=some p.2:=fun p hp=>I.know p (.tail _ (.tail _ hp))
 have k13:s.heap.get? 13=some dA:=krest (13,dA) (KV (i:=20) rfl)
 have k4:s.heap.get? 4=some (boot_o_4 (w3 w a b c).params):=krest (4,boot_o_4 (w3 w a b c).params) (KV (i:=24) rfl)
 have hg:s.heap.isNs mainGlobals=true:=by refine rT (wZ k3) ?_;kernel_rfl
 have hmain:s.heap.Main (s.heap.nsMap mainGlobals) 13 12 (jq tb5) :=
  ⟨.of_isNs hg,⟨dA,_,_,_,_,_,_,_,_,tb5,k13,rfl,rfl,rfl,rfl,rfl,rfl,k12,rfl,trivial,by decide⟩,by decide,⟨4,_,(lf k3 _).trans (by kernel_rfl),by decide,by decide,by decide,k4,rfl,rfl,rfl⟩⟩
 have X:Md s.heap (s.heap.nsMap mainGlobals) s.heap (s.heap.nsMap mainGlobals) (jq tb5) (mf (jq tb5).toList) [] [] :=
  ⟨hmain,fun _ _ _ _ e=>e,KX _,CG,fun _ h=>(nomatch h),fun _ _ _=>rfl,fun _ h=>(nomatch h),List.not_mem_nil,by refine rT I.size ?_;decide⟩
 rw [CI] at g
 refine mb (w:=w3 w a b c) (s:=s) EG (m:=(execs jr gX).onRaise (leaving gX)) (f:=fun f=>(Sem.pure (Fin.done f):Sem Fin))
  (Q:=fun v s'=>v = .next∧∃ h' mg' tk,(∃ ps' L',Md s.heap (s.heap.nsMap mainGlobals) h' mg' ps' L' (eR jr).reverse CH)∧s'={ s with heap:=h',toks:=tk }) p
  (wpAny_onRaise (CF jr s _ _ _ [] [] EF X fun h' mg' ps' L' tk X'=>⟨rfl,h',mg',tk,⟨ps',L',X'⟩,rfl⟩)) fun s' q' v h g' => ?_
 obtain⟨rfl,h',mg',tk,⟨ps',L',X'⟩,rfl⟩:=h
 have g2:cF (w3 w a b c) { s with heap:=h',toks:=tk } ⟨.pure (.done .next),iX,q',[topFrame p0]⟩ { s with heap:=h',toks:=tk } ⟨topAfter (.ok .next),.builtin "claim.caller" {},p0,[]⟩:=cF.one (by kernel_rfl) rfl
 obtain⟨a',b',n,f1,f2,l,r⟩:=(g.trans (g'.trans g2)) s₀ (topStub prog0) rfl rfl z
 obtain rfl:a'={ s with heap:=h',toks:=tk }:=Shared.eq_of_forget_eq' f1 (fun x hx=>by
  refine rT (Ke.mp (show x∈[GenState.finished] from by rw [← show (#[GenState.finished]:Array GenState).toList=[GenState.finished] from rfl,← I.gens];exact Array.mem_toList_iff.mpr hx)) ?_;rfl)
 have hb:through b'=true:=by
  unfold through
  refine rT (show b'.cur=topAfter (.ok .next) from congrArg Thread.cur f2) ?_;refine rT (List.map_eq_nil_iff.mp (show b'.stack.map Frame.forget=[] from congrArg Thread.stack f2)) ?_;rfl
 have hn:=CJ X'.main.g
 have hmg:∀ x,h'.nsMap mainGlobals x=mg' x:=fun x=>(Heap.Ns.of_isNs hn).agree X'.main.g x
 refine K { s with heap:=h',toks:=tk } S6 S7 ms D6 hm6 D7 ⟨fun p hp => ?_,hn,?_,fun x h1 h2=>(hmg x).trans ((X'.names x h1 h2).trans (lf k3 x)),fun d hd => ?_,I.gens,I.os,l,n,b',r,hb⟩
 ·have ne:=(Bool.and_eq_true ..).mp (Kc.mp (nz _ _ _) p hp)
  exact X'.keep _ _ (bne_iff_ne.mp ne.1) (bne_iff_ne.mp ne.2) (krest p hp)
 ·obtain⟨bm,o,hbm,r⟩:=X'.main.bmod
  exact⟨bm,o,(hmg _).trans hbm,r⟩
 ·obtain⟨a,o,pm,c',_,h2,h3,h4,_,h6⟩:=X'.made d (List.mem_reverse.mpr hd)
  exact⟨a,o,pm,c',Nat.zero_le _,(hmg _).trans h2,h3,h4,Nat.zero_le _,h6⟩
noncomputable def oH (k:Nat):Str:=((dL.lookup k).getD ("",0)).1
noncomputable def Jb (k:Nat):Nat:=((dL.lookup k).getD ("",0)).2
theorem vY:∀ q∈dL,oH q.1=q.2.1∧Jb q.1=q.2.2∧q.1<27:=by decide +kernel
noncomputable def rO (h:Heap) (k:Nat):Addr:=match h.nsMap mainGlobals (oH k) with
 |some (.ref a)=>a
 |_=>0
noncomputable def j6 (n:Str):Bool:=!CH.contains n&&n != "__name__"
section
variable {w:World} {s₀ s:Shared} {S6 S7:ST}
theorem aT.free (B:aT w s₀ s S6 S7) {n:Str} (h:j6 n=true):s.heap.nsMap mainGlobals n=iC (dd w.params) n:=by
 unfold j6 at h
 simp only [Bool.and_eq_true,Bool.not_eq_true',bne_iff_ne,ne_eq] at h
 exact B.names n (fun q=>by rw [List.contains_iff_mem.mpr q] at h;cases h.1) h.2
noncomputable abbrev CK (s:Shared) (name:Str) (i:Nat):Prop:=Made 0 s.heap (s.heap.nsMap mainGlobals) (name,aP i)
theorem aT.late (B:aT w s₀ s S6 S7) {name:Str} {i:Nat} (j:Nat) (h:(eR jr)[j]?=some (name,aP i)):CK s name i:=B.made (name,aP i) (KV h)
theorem aT.early (B:aT w s₀ s S6 S7) {name:Str} {i:Nat} {a c:Addr} {pm:Value} {l:List Value} {t:Tok} (j j':Nat) (hf:j6 name=true) (hv:iC (dd w.params) name=some (.ref a))
  (h:(kj3 w.params S6.o S7.o).tail.tail[j]?=some (a,fnO name i pm c)) (h':(kj3 w.params S6.o S7.o).tail.tail[j']?=some (c,cdO l)) (hl:l[1]?=some (.str name t)):CK s name i:=by
 exact⟨a,_,pm,c,Nat.zero_le _,(B.free hf).trans hv,B.kn _ (KV h),rfl,Nat.zero_le _,⟨c,_,⟨l⟩,t,rfl,B.kn _ (KV h'),rfl,(List.getElem?_toArray ..).trans hl⟩⟩
theorem aT.defs (B:aT w s₀ s S6 S7):∀ k,k<27→CK s (oH k) (Jb k)
 |0,_=>B.early (a:=67) (c:=66) (l:=(jq zj).toList) (t:=417) (pm:=nv1) 10 14 (by kernel_rfl) (by kernel_rfl) (by kernel_rfl) (by kernel_rfl) (by kernel_rfl)
 |1,_=>B.early (a:=74) (c:=73) (l:=(jq zk).toList) (t:=429) (pm:=nv1) 11 15 (by kernel_rfl) (by kernel_rfl) (by kernel_rfl) (by kernel_rfl) (by kernel_rfl)
 |2,_=>B.early (a:=81) (c:=80) (l:=(jq zl).toList) (t:=438) (pm:=nv1) 12 16 (by kernel_rfl) (by kernel_rfl) (by kernel_rfl) (by kernel_rfl) (by kernel_rfl)
 |3,_=>B.early (a:=88) (c:=87) (l:=(jq zm).toList) (t:=449) (pm:=nv1) 13 17 (by kernel_rfl) (by kernel_rfl) (by kernel_rfl) (by kernel_rfl) (by kernel_rfl)
 |4,_=>B.early (a:=102) (c:=101) (l:=(jq uj).toList) (t:=468) (pm:=nv1) 0 5 (by kernel_rfl) (by kernel_rfl) (by kernel_rfl) (by kernel_rfl) (by kernel_rfl)
 |5,_=>B.early (a:=109) (c:=108) (l:=(jq uk).toList) (t:=477) (pm:=nv3) 1 6 (by kernel_rfl) (by kernel_rfl) (by kernel_rfl) (by kernel_rfl) (by kernel_rfl)
 |6,_=>B.early (a:=116) (c:=115) (l:=(jq ul).toList) (t:=485) (pm:=nv3) 2 7 (by kernel_rfl) (by kernel_rfl) (by kernel_rfl) (by kernel_rfl) (by kernel_rfl)
 |7,_=>B.early (a:=123) (c:=122) (l:=(jq um).toList) (t:=494) (pm:=nv3) 3 8 (by kernel_rfl) (by kernel_rfl) (by kernel_rfl) (by kernel_rfl) (by kernel_rfl)
 |8,_=>B.early (a:=130) (c:=129) (l:=(jq uo).toList) (t:=506) (pm:=nv3) 4 9 (by kernel_rfl) (by kernel_rfl) (by kernel_rfl) (by kernel_rfl) (by kernel_rfl)
 |9,_=>B.late 1 (by kernel_rfl)
 |10,_=>B.late 3 (by kernel_rfl)
 |11,_=>B.late 4 (by kernel_rfl)
 |12,_=>B.late 5 (by kernel_rfl)
 |13,_=>B.late 6 (by kernel_rfl)
 |14,_=>B.late 7 (by kernel_rfl)
 |15,_=>B.late 8 (by kernel_rfl)
 |16,_=>B.late 9 (by kernel_rfl)
 |17,_=>B.late 10 (by kernel_rfl)
 |18,_=>B.late 11 (by kernel_rfl)
 |19,_=>B.late 12 (by kernel_rfl)
 |20,_=>B.late 13 (by kernel_rfl)
 |21,_=>B.late 14 (by kernel_rfl)
 |22,_=>B.late 15 (by kernel_rfl)
 |23,_=>B.late 16 (by kernel_rfl)
 |24,_=>B.late 17 (by kernel_rfl)
 |25,_=>B.late 18 (by kernel_rfl)
 |26,_=>B.late 19 (by kernel_rfl)
 |k+27,h=>absurd h (by lia)
end
section
variable {w:World} {s₀ s:Shared} {S6 S7:ST}
theorem mh {h:Heap} {k:Nat} {a:Addr} (e:h.nsMap mainGlobals (oH k)=some (.ref a)):rO h k=a:=by unfold rO;exact rT e rfl
theorem aT.fn (B:aT w s₀ s S6 S7) (k:Nat) (name:Str) (i:Nat) (h:(k,name,i)∈dL):Fa ⟨prog0,w,rO s.heap,s.heap⟩ k name (aP i).1 (aP i).2.1 (aP i).2.2:=by
 obtain⟨e1,e2,e3⟩:=vY _ h
 dsimp only at e1 e2 e3
 obtain⟨a,o,pm,c',_,h1,h2,h3,_,h4⟩:=B.defs k e3
 have ea:=mh h1
 rw [e1,e2] at h3
 rw [e1] at h4
 exact⟨o,pm,.ref c',.none,by rw [← ea] at h2;exact h2,h3,h4⟩
noncomputable def Jc (v:Option Value) (l:List Nat):Bool:=(v==some (.ref 43)&&l==ill)||(v==some (.ref 44)&&l==iv)
noncomputable def gB (P:Params) (p:Str×GV):Bool:=match p.2 with
 |.fn k=>Nat.blt k 27&&oH k==p.1
 |.set l=>j6 p.1&&Jc (iC (dd P) p.1) l
 |.ty t=>j6 p.1&&(iC (dd P) p.1).isNone&&iC (boot_o_0 P) p.1==some (.type t)
 |.bi b=>j6 p.1&&(iC (dd P) p.1).isNone&&iC (boot_o_0 P) p.1==some (oK b)
theorem Jd (P:Params):ga.all (gB P)=true:=by kernel_rfl
theorem Je (P:Params):([(("range" : Str),Value.type "range"),("map",.type "map"),("enumerate",.type "enumerate"),("zip",.type "zip")].all fun q:Str×Value=>j6 q.1&&(iC (dd P) q.1).isNone&&iC (boot_o_0 P) q.1==some q.2)=true:=by kernel_rfl
theorem vZ {α β:Type} [BEq α] [LawfulBEq α] {l:List (α×β)} {a:α} {b:β}:l.lookup a=some b→(a,b)∈l:=by
 induction l with
 |nil=>intro h;cases h
 |cons p l ih =>
  obtain⟨j,q⟩:=p
  refine rT List.lookup_cons ?_
  cases e:a==j with
  |true=>intro h;cases h;refine rT (show a=j from by simpa using e) ?_;exact .head _
  |false=>intro h;exact .tail _ (ih h)
theorem aT.at0 (B:aT w s₀ s S6 S7):s.heap.get? builtinsNs=some (boot_o_0 w.params):=B.kn (0,boot_o_0 w.params) (KV (i:=21) rfl)
theorem aT.at2 (B:aT w s₀ s S6 S7):s.heap.get? cStatics=some (boot_o_2 w.params):=B.kn (2,boot_o_2 w.params) (KV (i:=23) rfl)
theorem aT.bl (B:aT w s₀ s S6 S7):s.heap.isNs builtinsNs=true:=by refine rT (wZ B.at0) ?_;kernel_rfl
theorem w4 {X:Cx} {l:List Nat} {S:ST} {ms:List Str} (D:au (strKind X.prog X.w) S.es S.t ms) (hm:∀ k,k∈ms↔k∈chL l):eE X l S.o :=
 ⟨S.es,S.ep,S.t,rfl,D.el,D.b,D.fit,fun c=>(md.symm.trans (hm (ch c)).symm).trans (D.mem (ch c))⟩
theorem aT.bltn (B:aT w s₀ s S6 S7) {n:Str} {v:Value} (f:(j6 n&&(iC (dd w.params) n).isNone&&iC (boot_o_0 w.params) n==some v)=true):s.heap.nsMap mainGlobals n=none∧s.heap.nsMap builtinsNs n=some v:=by
 obtain⟨f1,f2⟩:=(Bool.and_eq_true ..).mp f
 obtain⟨f3,f4⟩:=(Bool.and_eq_true ..).mp f1
 exact⟨(B.free f3).trans (Option.isNone_iff_eq_none.mp f4),(lf B.at0 n).trans (eq_of_beq f2)⟩
theorem aT.gok (B:aT w s₀ s S6 S7) {ms:List Str} (D6:SD w S6 ms) (hm:∀ k,k∈ms↔k∈chL ill) (D7:SD w S7 (chL iv)):GOk ⟨prog0,w,rO s.heap,s.heap⟩ ga:=by
 have fact:∀ n gv,ga.lookup n=some gv→gB w.params (n,gv)=true:=fun n gv h=>Kc.mp (Jd w.params) _ (vZ h)
 refine Gz B.is B.bl (fun n gv h => ?_) (fun q hq => ?_) (fun n k h => ?_)
 ·have f:=fact n gv h
  cases gv with
  |fn k =>
   obtain⟨f1,f2⟩:=(Bool.and_eq_true ..).mp f
   obtain⟨a,o,pm,c',_,h1,h2,h3,_,h4⟩:=B.defs k (Lj f1)
   show s.heap.nsMap mainGlobals n=some (.ref (rO s.heap k))
   refine rT (mh h1) ?_;refine rB (show oH k=n from eq_of_beq f2) ?_;exact h1
  |set l =>
   obtain⟨f1,f2⟩:=(Bool.and_eq_true ..).mp f
   have hv:=B.free f1
   rcases (Bool.or_eq_true ..).mp f2 with q|q
   ·obtain⟨q1,q2⟩:=(Bool.and_eq_true ..).mp q
    refine rT (eq_of_beq q2) ?_
    exact⟨43,_,hv.trans (eq_of_beq q1),B.kn (43,S6.o) (KV (i:=19) rfl),w4 (X:=⟨prog0,w,rO s.heap,s.heap⟩) D6 hm⟩
   ·obtain⟨q1,q2⟩:=(Bool.and_eq_true ..).mp q
    refine rT (eq_of_beq q2) ?_
    exact⟨44,_,hv.trans (eq_of_beq q1),B.kn (44,S7.o) (KV (i:=18) rfl),w4 (X:=⟨prog0,w,rO s.heap,s.heap⟩) D7 fun _=>Iff.rfl⟩
  |ty t=>exact B.bltn f
  |bi b=>exact B.bltn f
 ·obtain⟨n,t⟩:=q
  have f:=Kc.mp (Je w.params) _ hq
  exact B.bltn f
 ·have f:=fact n _ h
  obtain⟨f1,f2⟩:=(Bool.and_eq_true ..).mp f
  obtain⟨a,o,pm,c',_,h1,h2,h3,_,h4⟩:=B.defs k (Lj f1)
  exact⟨o,_,by show s.heap.get? (rO s.heap k)=_;refine rT (mh h1) ?_;exact h2,h3⟩
theorem aT.statics (B:aT w s₀ s S6 S7) (key:Str):staticOf s.heap key=none:=by unfold staticOf;refine rT B.at2 ?_;rfl
theorem EH (P:Params):((wY (dd P)).all fun k=>startupNames.contains k||prog0.boundNames.contains k)=true:=by kernel_rfl
theorem v6:(CH.all fun k=>prog0.boundNames.contains k)=true:=by kernel_rfl
theorem aT.bound (B:aT w s₀ s S6 S7) (x:Str) (v:Value) (h:globalOf s.heap x=some v):x∈startupNames∨x∈prog0.boundNames:=by
 rw [Pin.globalOf_eq B.is] at h
 by_cases h1:x∈CH
 ·exact .inr (List.contains_iff_mem.mp (Kc.mp v6 x h1))
 ·by_cases h2:x = "__name__"
  ·subst h2;exact .inl (by simp [startupNames])
  ·have e:=B.names x h1 h2
   rw [h] at e
   let hp:Heap:=⟨#[dd w.params],{}⟩
   have h0:hp.get? 0=some (dd w.params):=rfl
   have hk:x∈wY (dd w.params):=by
    by_cases hk:x∈hp.nsKeys 0
    ·rw [EE h0] at hk;exact hk
    ·have:=Heap.nsMap_none hk
     rw [lf h0] at this
     rw [this] at e;cases e
   have:=Kc.mp (EH w.params) x hk
   simpa only [Bool.or_eq_true,List.contains_iff_mem] using this
noncomputable def iY (P:Params) (n:Str):Prop:=iC (dd P) n=iC (boot_o_3 P) n
theorem zr (P:Params):iY P "__package__" ∧ iY P "__loader__" ∧ iY P "__spec__" ∧ iY P "__file__" ∧ iY P "__cached__" := ⟨by unfold iY;kernel_rfl,by unfold iY;kernel_rfl,by unfold iY;kernel_rfl,by unfold iY;kernel_rfl,by unfold iY;kernel_rfl⟩
theorem zs:(laidNames.all j6)=true:=by kernel_rfl
theorem Jf:∀ b:Fin 11,b.1≠3→b.1∈[0,1,2,4,5,6,7,8,9,10]:=by decide
theorem CM (P:Params):(kz P).map (fun p=>(boot_heap P).get? p.1)=(kz P).map fun p=>some p.2:=by kernel_rfl
theorem rR (e1:s₀.heap=boot_heap w.params):∀ p∈kz w.params,s₀.heap.get? p.1=some p.2:=fun p hp=>by
 refine rT e1 ?_;exact List.map_inj_left.mp (CM w.params) p hp
theorem aT.topRan (B:aT w s₀ s S6 S7) (e1:s₀.heap=boot_heap w.params):TopRan prog0 w s₀ s:=by
 have st0:∀ key,staticOf s₀.heap key=none:=fun key=>by
  have:s₀.heap.get? cStatics=some (boot_o_2 w.params):=by refine rT e1 ?_;rfl
  unfold staticOf;refine rT this ?_;rfl
 refine⟨B.run,B.life,Shared.rest_eq B.os,fun b o h hn => ?_,fun key v h => ?_,fun mods => .inl ((B.statics _).trans (st0 _).symm),Pin.keysAreStrs_of B.is,fun x hx => ?_,?_,fun g hg => ?_,B.bound,fun x hx => ?_⟩
 ·obtain⟨p,hp,rfl⟩:=Kg.mp (show b∈(kz w.params).map (·.1) from Jf ⟨b,by have:=Kw h;rw [e1] at this;exact this⟩ fun q=>hn (.inl q))
  rw [rR e1 p hp] at h
  refine rB h ?_
  exact B.kn p (by unfold kj3;exact List.mem_append_right [_,_,_,_,_,_,_,_,_,_,_,_,_,_,_,_,_,_,_,_,_] hp)
 ·rw [B.statics] at h;cases h
 ·refine (Pin.builtinOf_eq B.bl x).trans (Heap.of_bltView B.bl ?_ x hx)
  have:s.heap.bltView=Heap.bltView ⟨#[boot_o_0 w.params],{}⟩:=by unfold Heap.bltView Heap.nsPairs;refine rT B.at0 ?_;rfl
  refine rT this ?_
  kernel_rfl
 ·obtain⟨bm,o,h1,_,_,_,h2,h3,h4,_⟩:=B.bm
  exact⟨bm,o,(Pin.globalOf_eq B.is _).trans h1,h2,h3,h4⟩
 ·rw [B.gens] at hg
  simp only [List.mem_toArray,List.mem_singleton] at hg
  refine rT hg ?_;trivial
 ·have hf:=Kc.mp zs x hx
  have g3:s₀.heap.get? mainGlobals=some (boot_o_3 w.params):=by refine rT e1 ?_;rfl
  have hi:s₀.heap.isNs mainGlobals=true:=by refine rT (wZ g3) ?_;kernel_rfl
  refine rT (Pin.globalOf_eq B.is ..) ?_;refine rT (Pin.globalOf_eq hi ..) ?_;refine rT (B.free hf) ?_;refine rT (lf g3 ..) ?_
  obtain⟨l1,l2,l3,l4,l5⟩:=zr w.params
  simp only [laidNames,List.mem_cons,List.not_mem_nil,or_false] at hx
  rcases hx with rfl|rfl|rfl|rfl|rfl
  ·exact l1
  ·exact l2
  ·exact l3
  ·exact l4
  ·exact l5
theorem aT.pin (B:aT w s₀ s S6 S7):isTheDefsW prog0 s.heap ey.name:=by
 obtain⟨a,o,pm,c',_,h1,h2,h3,_,_⟩:=B.defs 26 (by decide)
 have hd:(aP 50).1.defaults=[]:=by kernel_rfl
 have hk:kwWritten? (aP 50).1.kwonlyargs (aP 50).1.kw_defaults=some []:=by kernel_rfl
 exact⟨a,o,_,(aP 50).1,(aP 50).2.1,(aP 50).2.2,(Pin.globalOf_eq B.is _).trans h1,h2,h3,by kernel_rfl,rfl,rfl,rfl,rfl,rfl,rfl,rfl,rfl,.inl ⟨hd,rfl⟩,[],hk,.inl ⟨rfl,rfl⟩⟩
end
theorem CN (w:World) (s₀:Shared) (e1:s₀.heap=boot_heap w.params) (e2:s₀.gens=#[]) (e3:s₀.drawn=boot_drawn) (e4:s₀.toks=boot_toks) (z:s₀.asleep):∃ s₁ F,vQ w s₀ s₁ F:=by
 obtain⟨a,b,c,hw⟩:=EB w
 suffices h:∀ u,u=w3 w a b c→s₀.heap=boot_heap u.params→∃ s₁ F,vQ u s₀ s₁ F from h w hw.symm e1
 rintro _ rfl e1
 refine vX _ a b c e1 e2 e3 e4 z fun s S6 S7 ms D6 hm D7 B => ?_
 obtain⟨x,o,pm,c',_,h1,h2,h3,_,_⟩:=B.defs 26 (by decide)
 refine⟨s,rO s.heap,B.topRan e1,Shared.asleep_of_life B.life z,by refine rT B.gens ?_;kernel_rfl,⟨B.fn,⟨_,Heap.Ns.of_isNs (by refine rT (wZ B.at2) ?_;kernel_rfl),(lf B.at2 _).trans rfl⟩,B.gok D6 hm D7⟩,B.is,?_,B.pin⟩
 show s.heap.nsMap mainGlobals (oH 26)=_
 refine rT (mh h1) ?_;exact h1
theorem law0_holds:Cg.Holds:=Ci IJ uh GE CN
end
end Mine
theorem PySem.Challenge.cw_ik0205_01_holds : PySem.Challenge.rw_ik0205_01.Holds :=
 Mine.law0_holds
