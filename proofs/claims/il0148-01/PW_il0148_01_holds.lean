import PyProof.Rows.All
import Wide.All
import OpenK.AllK
import Wide.FinOn
import Lean
import PySem.Challenge.RW_il0148_01
set_option Elab.async false
set_option maxRecDepth 100000
set_option tactic.hygienic false
set_option linter.all false
noncomputable section
namespace Mine
noncomputable section
open PySem
theorem ns{α:Type}{x:α}{P:Prop}(h:none=some x):P:=nomatch h
theorem jz{P:Prop}(h:false=true):P:=nomatch h
theorem pL{α:Type}{a b c:α}(h:a=b)(n:b≠c):a≠c:=λ q=>n (h.symm.trans q)
theorem lU{P:Prop}(h:∀G:Prop,(P->G)->G):P:=h P id
inductive Bi where
 |abs|len|sorted|iter|issubclass|isinstance|min|max
 |range|tuple|bool|set|type|str|bytes|list|map|enumerate
 deriving DecidableEq
def Bi.val:Bi->Value
 |.abs=>.builtin "abs"|.len=>.builtin "len"|.sorted=>.builtin "sorted"|.iter=>.builtin "iter"|.issubclass=>.builtin "issubclass"|.isinstance=>.builtin "isinstance"
 |.min=>.builtin "min"|.max=>.builtin "max"
 |.range=>.type "range"|.tuple=>.type "tuple"|.bool=>.type "bool"|.set=>.type "set"|.type=>.type "type"|.str=>.type "str"|.bytes=>.type "bytes"
 |.list=>.type "list"|.map=>.type "map"|.enumerate=>.type "enumerate"
inductive Me where
 |join|split|startswith|endswith|rfind|rstrip|lstrip|append|pop|clear|get|values|add
 deriving DecidableEq
inductive V where
 |none|bool (b:Bool)|int (i:Int)|str (s:Str)|ref (n:Nat)|fn (a:Nat)|bi (b:Bi)
 deriving DecidableEq
inductive O where
 |list (xs:List V)|tup (xs:List V)|dict (kvs:List (Str×V)) (ep:Nat)|set (xs:List Str)|bset (bs:List Bool)
 |inst (d:Nat)|node (d:Nat) (fs:List (Option V))
 |cell (v:Option V)|liter (l i:Nat)|eit (l i:Nat)|bnext (it:Nat)|rng (n:Int)|enum (it i:Nat)|mapo (f:Nat) (it:Nat)|view (d:Nat)|any
structure St where
 loc:List (Str×Option V)
 sto:List O
inductive Fl where
 |next|brk|cont|ret (v:V)
inductive yN where
 |stop|cyc
inductive ak(α:Type) where
 |ok (a:α) (Y:St)|exc (e:yN) (Y:St)|bad
def ak.bind{α β:Type}(r:ak α)(k:α->St->ak β):ak β:=match r with
 |.ok a Y=>k a Y
 |.exc e Y=>.exc e Y
 |.bad=>.bad
@[simp] theorem ak.bind_ok {α β:Type}(a:α) (Y:St) (k:α->St->ak β):(ak.ok a Y).bind k=k a Y:=rfl
@[simp] theorem ak.bind_exc {α β:Type}(e:yN) (Y:St) (k:α->St->ak β):(ak.exc e Y:ak α).bind k=.exc e Y:=rfl
@[simp] theorem ak.bind_bad {α β:Type}(k:α->St->ak β):(ak.bad:ak α).bind k=.bad:=rfl
noncomputable def ak.bindN{α β:Type}(r:ak α)(k:α->St->ak β):ak β:=match r with
 |.ok a Y=>k a Y
 |.exc _ _=>.bad
 |.bad=>.bad
@[simp] theorem ak.bindN_ok {α β:Type}(a:α) (Y:St) (k:α->St->ak β):(ak.ok a Y).bindN k=k a Y:=rfl
@[simp] theorem ak.bindN_exc {α β:Type}(e:yN) (Y:St) (k:α->St->ak β):(ak.exc e Y:ak α).bindN k=.bad:=rfl
@[simp] theorem ak.bindN_bad {α β:Type}(k:α->St->ak β):(ak.bad:ak α).bindN k=.bad:=rfl
structure En where
 scope:Scope
 cells:List (Str×Nat)
 free:Bool:=true
 own:Bool:=true
def k0:Nat:=8
def big:Nat:=100000
def wf:Nat:=100000
noncomputable def aZ:List (Str×Option V)->Str->V->List (Str×Option V)
 |[],x,v=>[(x,some v)]
 |(y,o)::r,x,v=>if y==x then(y,some v)::r else(y,o)::aZ r x v
def aN(l:List (Str×Option V))(x:Str):Option V:=(l.lookup x).bind id
def St.new(Y:St)(o:O):ak V:=.ok (.ref Y.sto.length) {Y with sto:=Y.sto++[o]}
noncomputable def St.upd(Y:St)(i:Nat)(o:O):St:={Y with sto:=Y.sto.set i o}
def St.mut(Y:St)(i:Nat)(o:O)(v:V):ak V:=if k0<=i then .ok v (Y.upd i o)else .bad
noncomputable def V.int?:V->Option Int
 |.none|.bool q=>.none
 |.int i=>some i
 |.str q|.ref q|.fn q|.bi q=>.none
def V.str?:V->Option Str
 |.none|.bool q|.int q=>.none
 |.str x=>some x
 |.ref q|.fn q|.bi q=>.none
def V.ref?:V->Option Nat
 |.none|.bool q|.int q|.str q=>.none
 |.ref n=>some n
 |.fn q|.bi q=>.none
def O.list?:O->Option (List V)
 |.list xs=>some xs
 |.tup q|.dict q q1|.set q|.bset q|.inst q|.node q q1|.cell q|.liter q q1|.eit q q1|.bnext q|.rng q|.enum q q1|.mapo q q1|.view q|.any=>none
noncomputable def O.dict?:O->Option (List (Str×V)×Nat)
 |.list q|.tup q=>none
 |.dict kvs ep=>some (kvs,ep)
 |.set q|.bset q|.inst q|.node q q1|.cell q|.liter q q1|.eit q q1|.bnext q|.rng q|.enum q q1|.mapo q q1|.view q|.any=>none
def V.bool?:V->Option Bool
 |.none=>.none
 |.bool b=>some b
 |.int q|.str q|.ref q|.fn q|.bi q=>.none
def O.tup?:O->Option (List V)
 |.list q=>none
 |.tup xs=>some xs
 |.dict q q1|.set q|.bset q|.inst q|.node q q1|.cell q|.liter q q1|.eit q q1|.bnext q|.rng q|.enum q q1|.mapo q q1|.view q|.any=>none
def O.cell?:O->Option V
 |.list q|.tup q|.dict q q1|.set q|.bset q|.inst q|.node q q1=>none
 |.cell v=>v
 |.liter q q1|.eit q q1|.bnext q|.rng q|.enum q q1|.mapo q q1|.view q|.any=>none
def O.eit?:O->Option (Nat×Nat)
 |.list q|.tup q|.dict q q1|.set q|.bset q|.inst q|.node q q1|.cell q|.liter q q1=>none
 |.eit l i=>some (l,i)
 |.bnext q|.rng q|.enum q q1|.mapo q q1|.view q|.any=>none
noncomputable def O.liter?:O->Option (Nat×Nat)
 |.list q|.tup q|.dict q q1|.set q|.bset q|.inst q|.node q q1|.cell q=>none
 |.liter l i=>some (l,i)
 |.eit q q1|.bnext q|.rng q|.enum q q1|.mapo q q1|.view q|.any=>none
def O.bnext?:O->Option Nat
 |.list q|.tup q|.dict q q1|.set q|.bset q|.inst q|.node q q1|.cell q|.liter q q1|.eit q q1=>none
 |.bnext it=>some it
 |.rng q|.enum q q1|.mapo q q1|.view q|.any=>none
def St.get{α:Type}(Y:St)(i:Nat)(f:O->Option α):Option α:=(Y.sto[i]?).bind f
def St.list?(Y:St)(i:Nat):Option (List V):=(Y.sto[i]?).bind O.list?
def St.dict?(Y:St)(i:Nat):Option (List (Str×V)×Nat):=(Y.sto[i]?).bind O.dict?
def O.view?:O->Option Nat
 |.list q|.tup q|.dict q q1|.set q|.bset q|.inst q|.node q q1|.cell q|.liter q q1|.eit q q1|.bnext q|.rng q|.enum q q1|.mapo q q1=>none
 |.view d=>some d
 |.any=>none
noncomputable def O.enum?:O->Option (Nat×Nat)
 |.list q|.tup q|.dict q q1|.set q|.bset q|.inst q|.node q q1|.cell q|.liter q q1|.eit q q1|.bnext q|.rng q=>none
 |.enum k i=>some (k,i)
 |.mapo q q1|.view q|.any=>none
noncomputable def O.seq?:O->Option (List V)
 |.list xs=>some xs
 |.tup xs=>some xs
 |.dict q q1|.set q|.bset q|.inst q|.node q q1|.cell q|.liter q q1|.eit q q1|.bnext q|.rng q|.enum q q1|.mapo q q1|.view q|.any=>none
def V.fn?:V->Option Nat
 |.none|.bool q|.int q|.str q|.ref q=>.none
 |.fn a=>some a
 |.bi q=>.none
def jD{α:Type}(l:List α):Option α:=match l with
 |[]=>none
 |[x]=>some x
 |_::_::_=>none
noncomputable def Ca{α:Type}(l:List α):Option (α×α):=match l with
 |[]=>none
 |x::r=>(jD r).map (x,·)
def zp{α:Type}(l:List α):Option (α×α×α):=match l with
 |[]=>none
 |x::r=>(Ca r).map (x,·)
noncomputable def onS{α β:Type}(o:Option α)(k:α->ak β):ak β:=match o with
 |some a=>k a
 |none=>.bad
def grd{α:Type}(b:Bool)(r:ak α):ak α:=if b then r else .bad
theorem vG{α:Type}{Y:St}{i:Nat}{o:O}(e:Y.sto[i]?=some o)(f:O->Option α):Y.get i f=f o:=by unfold St.get;rw[e];rfl
theorem cA{α β:Type}{o:Option α}{k:α->ak β}{a:α}(e:o=some a):onS o k=k a:=by rw[e];rfl
theorem bZ{Y:St}{i:Nat}{xs:List V}(e:Y.sto[i]?=some (.list xs)):Y.list? i=some xs:=by unfold St.list?;rw[e];rfl
theorem lV{Y:St}{i ep:Nat}{kvs:List (Str×V)}(e:Y.sto[i]?=some (.dict kvs ep)):Y.dict? i=some (kvs,ep):=by unfold St.dict?;rw[e];rfl
theorem bB{α β:Type}{o:Option α}{k:α->Option β}{a:α}(e:o=some a):o.bind k=k a:=by rw[e];rfl
def Gb:List (Str×Nat):=[("TopologicalSorter",137),("_NodeInfo",40),("fspath",214),("commonprefix",221),("_get_sep",235),("join",242),
 ("splitroot",249),("dirname",256),("normpath",263),("abspath",270),("relpath",278),("commonpath",283),("_law_pieces",297),("_law_text",304),
 ("_law_walk",311),("_law_loose",318),("_law_alike",325)]
def Gd:List (Str×Bi):=[("abs",.abs),("range",.range),("len",.len),("sorted",.sorted),("tuple",.tuple),
 ("bool",.bool),("set",.set),("iter",.iter),("type",.type),("issubclass",.issubclass),("str",.str),("bytes",.bytes),
 ("isinstance",.isinstance),("list",.list),("map",.map),("min",.min),("max",.max),("enumerate",.enumerate)]
def V8(x:Str):Option V:=
 match Gb.lookup x with
 |some a=>some (.fn a)
 |none=>match Gd.lookup x with
  |some v=>some (.bi v)
  |none=>if x==("_law_files":Str)then some (.ref 0)else if x==("_NODE_OUT":Str)then some (.int (-1))else if x==("_NODE_DONE":Str)then some (.int (-2))else none
def I6(en:En)(x:Str)(Y:St):ak V:=match en.scope.names.lookup x with
 |some .local=>onS (aN Y.loc x) λ v=>.ok v Y
 |some .cell=>onS (en.cells.lookup x) λ c=>onS (Y.get c O.cell?) λ v=>.ok v Y
 |some .globalImplicit=>onS (V8 x) λ v=>.ok v Y
 |_=>.bad
def aib(c:Nat)(v:V)(Y:St):O->ak Unit
 |.list q|.tup q|.dict q q1|.set q|.bset q|.inst q|.node q q1=>.bad
 |.cell u=>grd (decide (k0<=c)) (.ok () (Y.upd c (.cell (some v))))
 |.liter q q1|.eit q q1|.bnext q|.rng q|.enum q q1|.mapo q q1|.view q|.any=>.bad
def Cd(c:Nat)(v:V)(Y:St):ak Unit:=onS (Y.sto[c]?) (aib c v Y)
def cB(en:En)(x:Str)(v:V)(Y:St):ak Unit:=match en.scope.names.lookup x with
 |some .local=>.ok () {Y with loc:=aZ Y.loc x v}
 |some .cell=>onS (en.cells.lookup x) λ c=>Cd c v Y
 |_=>.bad
noncomputable def dW:List V->Option (List Str)
 |[]=>some []
 |.str s::r=>(dW r).map (s::·)
 |_::_=>none
noncomputable def small(n:Nat):Bool:=n<=big
def jE(a b:V)(Y:St):ak V:=match a with
 |.none|.bool q=>.bad
 |.int i=>onS b.int? λ j=>.ok (.int (i+j)) Y
 |.str x=>onS b.str? λ y=>grd (small (x.length+y.length)) (.ok (.str (x++y)) Y)
 |.ref i=>onS b.ref? λ j=>onS (Y.list? i) λ xs=>onS (Y.list? j) λ ys=>grd (small (xs.length+ys.length)) (Y.new (.list (xs++ys)))
 |.fn q|.bi q=>.bad
def I7(a b:V)(k:Int->Int->ak V):ak V:=onS a.int? λ i=>onS b.int? λ j=>k i j
def zq(a b:V)(Y:St):ak V:=match a with
 |.none|.bool q|.int q=>.bad
 |.str x=>onS b.int? λ j=>grd (decide (x.length=1/\0<=j/\small j.toNat=true)) (.ok (.str (Txt.mul x j)) Y)
 |.ref i=>onS b.int? λ j=>onS (Y.list? i) λ xs=>onS (jD xs) λ x=>grd (small j.toNat&&decide (-1000000<=j)) (Y.new (.list (List.replicate j.toNat x)))
 |.fn q|.bi q=>.bad
def gD(op:Operator)(a b:V)(Y:St):ak V:=match op with
 |.Add=>jE a b Y
 |.Sub=>I7 a b λ i j=>.ok (.int (i - j)) Y
 |.Mult=>zq a b Y
 |.MatMult|.Div=>.bad
 |.Mod=>I7 a b λ i j=>if j=0 then .bad else .ok (.int (i.fmod j)) Y
 |.Pow|.LShift|.RShift|.BitOr|.BitXor|.BitAnd=>.bad
 |.FloorDiv=>I7 a b λ i j=>if j=0\/1000000 < j.natAbs then .bad else .ok (.int (i.fdiv j)) Y
def agi(a b:V)(Y:St):ak V:=match a with
 |.none|.bool q=>.bad
 |.int i=>onS b.int? λ j=>.ok (.int (i+j)) Y
 |.str x=>onS b.str? λ y=>grd (small (x.length+y.length)) (.ok (.str (x++y)) Y)
 |.ref q|.fn q|.bi q=>.bad
def kJ(op:Operator)(a b:V)(Y:St):ak V:=match op with
 |.Add=>agi a b Y
 |.Sub=>I7 a b λ i j=>.ok (.int (i - j)) Y
 |.Mult|.MatMult|.Div|.Mod|.Pow|.LShift|.RShift|.BitOr|.BitXor|.BitAnd|.FloorDiv=>.bad
def V9(i j:Nat)(Y:St)(k:List Str->List Str->Bool):Option Bool:=(Y.list? i).bind λ xs=>(Y.list? j).bind λ ys=>(dW xs).bind λ x=>(dW ys).bind λ y=>if(small x.length&&small y.length)=true then some (k x y)else none
def ad3(a b:V)(Y:St)(fs:Str->Str->Bool)(fi:Int->Int->Bool)(fl:List Str->List Str->Bool):Option Bool:=match a with
 |.none|.bool q=>none
 |.int x=>b.int?.map (fi x)
 |.str x=>b.str?.map (fs x)
 |.ref i=>b.ref?.bind λ j=>V9 i j Y fl
 |.fn q|.bi q=>none
def yw(a b:V)(Y:St):Option Bool:=ad3 a b Y (λ x y=>x==y) (λ x y=>x==y) λ x y=>x==y
def nj(a b:V)(Y:St):Option Bool:=ad3 a b Y (λ x y=>x != y) (λ x y=>x != y) λ x y=>x != y
noncomputable def Mg(a b:V):Option Bool:=match b with
 |.none=>some (decide (a=.none))
 |.bool y=>a.bool?.map λ x=>x==y
 |.int q|.str q|.ref q|.fn q|.bi q=>none
def inO(sets:Bool)(x:Str):O->Option Bool
 |.list ys=>(dW ys).bind λ y=>if small y.length=true then some (y.contains x)else none
 |.tup q=>none
 |.dict kvs u=>some (kvs.any λ p=>p.1==x)
 |.set xs=>if(sets&&decide (xs.length < 4001))=true then some (xs.contains x)else none
 |.bset q|.inst q|.node q q1|.cell q|.liter q q1|.eit q q1|.bnext q|.rng q|.enum q q1|.mapo q q1|.view q|.any=>none
def inD(a b:V)(Y:St)(sets:Bool):Option Bool:=a.str?.bind λ x=>b.ref?.bind λ j=>(Y.sto[j]?).bind (inO sets x)
def inM(a b:V)(Y:St):Option Bool:=inD a b Y true
def RG(a b:V)(Y:St):Option Bool:=(inD a b Y false).map λ t=>!t
def ac0(a b:V)(k:Int->Int->Bool):Option Bool:=a.int?.bind λ i=>b.int?.map (k i)
def rR(op:CmpOp)(a b:V)(Y:St):Option Bool:=match op with
 |.Eq=>yw a b Y
 |.NotEq=>nj a b Y
 |.Lt=>ac0 a b λ x y=>decide (x < y)
 |.LtE|.Gt=>none
 |.GtE=>ac0 a b λ x y=>decide (x>=y)
 |.Is=>Mg a b
 |.IsNot=>(Mg a b).map λ t=>!t
 |.In=>inM a b Y
 |.NotIn=>RG a b Y
def ad4:O->Option Bool
 |.list xs=>if small xs.length=true then some (!xs.isEmpty)else none
 |.tup xs=>if small xs.length=true then some (!xs.isEmpty)else none
 |.dict q q1|.set q|.bset q|.inst q|.node q q1|.cell q|.liter q q1|.eit q q1|.bnext q|.rng q|.enum q q1|.mapo q q1|.view q|.any=>none
def aO(a:V)(Y:St):Option Bool:=match a with
 |.none=>some false
 |.bool b=>some b
 |.int i=>some (i != 0)
 |.str s=>if small s.length=true then some (s.length != 0)else none
 |.ref i=>(Y.sto[i]?).bind ad4
 |.fn q|.bi q=>none
noncomputable def rB(i:Int)(n:Nat):Option Nat:=if i < -1000000\/1000000 < i then none else seqIndex? i n
def agj(i:V):O->Option V
 |.list xs=>i.int?.bind λ k=>if small xs.length then(rB k xs.length).bind (xs[·]?)else none
 |.tup xs=>i.int?.bind λ k=>if small xs.length then(rB k xs.length).bind (xs[·]?)else none
 |.dict kvs u=>i.str?.bind λ x=>kvs.lookup x
 |.set q|.bset q|.inst q|.node q q1|.cell q|.liter q q1|.eit q q1|.bnext q|.rng q|.enum q q1|.mapo q q1|.view q|.any=>none
def cM(a i:V)(Y:St):Option V:=match a with
 |.none|.bool q|.int q=>none
 |.str x=>i.int?.bind λ k=>if small x.length then(rB k x.length).bind λ j=>(x.cps[j]?).map λ c=>.str ⟨#[c]⟩else none
 |.ref l=>(Y.sto[l]?).bind (agj i)
 |.fn q|.bi q=>none
def cut{α:Type}(lo hi:Option Int)(xs:List α):List α:=(xs.drop (W.kms_lo lo xs.length)).take (W.kms_hi hi xs.length - W.kms_lo lo xs.length)
def Ge(a:V)(lo hi:Option Int)(Y:St):ak V:=match a with
 |.none|.bool q|.int q=>.bad
 |.str x=>grd (small x.length) (.ok (.str (Txt.slice x lo hi)) Y)
 |.ref l=>onS (Y.list? l) λ xs=>grd (small xs.length) (Y.new (.list (cut lo hi xs)))
 |.fn q|.bi q=>.bad
noncomputable def jF:V->Option (Option Int)
 |.none=>some none
 |.bool q=>none
 |.int i=>if -1000000<=i/\i<=1000000 then some (some i)else none
 |.str q|.ref q|.fn q|.bi q=>none
noncomputable def lW(kvs:List (Str×V))(x:Str)(v:V):List (Str×V):=
 if kvs.any (λ p=>p.1==x)then kvs.map λ p=>if p.1==x then(p.1,v)else p else kvs++[(x,v)]
def cJ(kvs:List (Str×V))(ep:Nat)(x:Str)(v:V):O:=.dict (lW kvs x v) (if kvs.any (λ p=>p.1==x)then ep else ep+1)
def iV(a i v:V)(Y:St):ak V:=onS a.ref? λ l=>onS i.str? λ x=>onS (Y.dict? l) λ p=>grd (small p.1.length) (Y.mut l (cJ p.1 p.2 x v) .none)
def tG(a i:V)(Y:St):ak V:=onS a.ref? λ l=>onS i.str? λ x=>onS (Y.dict? l) λ q=>grd (small q.1.length&&q.1.any (λ p=>p.1==x)) (Y.mut l (.dict (q.1.filter λ p=>!(p.1==x)) (q.2+1)) .none)
def bT:List Str:=["_node2info","_ready_nodes","_npassedout","_nfinished"]
def vH(x:Str):Option Nat:=if x==("node":Str)then some 0 else if x==("npredecessors":Str)then some 1 else if x==("successors":Str)then some 2 else none
def Wa(i:Nat)(x:Str)(Y:St):O->ak V
 |.list q|.tup q|.dict q q1|.set q|.bset q=>.bad
 |.inst d=>grd (bT.contains x) (onS (Y.dict? d) λ p=>onS (p.1.lookup x) λ v=>.ok v Y)
 |.node u fs=>onS (vH x) λ k=>onS (fs[k]?) λ o=>onS o λ v=>.ok v Y
 |.cell q=>.bad
 |.liter u u2=>grd (x==("__next__":Str)) (Y.new (.bnext i))
 |.eit q q1|.bnext q|.rng q|.enum q q1|.mapo q q1|.view q|.any=>.bad
def bJ(a:V)(x:Str)(Y:St):ak V:=onS a.ref? λ i=>onS (Y.sto[i]?) (Wa i x Y)
def I8(i:Nat)(x:Str)(v:V)(Y:St):O->ak V
 |.list q|.tup q|.dict q q1|.set q|.bset q=>.bad
 |.inst d=>grd (bT.contains x) (onS (Y.dict? d) λ p=>grd (decide (p.1.length < 100)) (Y.mut d (cJ p.1 p.2 x v) .none))
 |.node d fs=>onS (vH x) λ k=>grd (decide (k < fs.length)) (Y.mut i (.node d (fs.set k (some v))) .none)
 |.cell q|.liter q q1|.eit q q1|.bnext q|.rng q|.enum q q1|.mapo q q1|.view q|.any=>.bad
def aX(a:V)(x:Str)(v:V)(Y:St):ak V:=onS a.ref? λ i=>onS (Y.sto[i]?) (I8 i x v Y)
inductive nq where
 |user (f:Nat)|bi (m:Me)
def qt:List (Str×Nat):=[("_get_nodeinfo",80),("add",87),("prepare",92),("get_ready",99),("is_active",106),("done",120),("_find_cycle",127)]
def zu:List (Str×Me):=[("join",.join),("split",.split),("startswith",.startswith),("endswith",.endswith),("rfind",.rfind),("rstrip",.rstrip),("lstrip",.lstrip)]
def vI:List (Str×Me):=[("append",.append),("pop",.pop),("clear",.clear)]
def vJ:List (Str×Me):=[("get",.get),("values",.values)]
def zx:List (Str×Me):=[("add",.add)]
def abx(x:Str)(Y:St):O->Option nq
 |.list u=>(vI.lookup x).map .bi
 |.tup q=>none
 |.dict u u2=>(vJ.lookup x).map .bi
 |.set u=>(zx.lookup x).map .bi
 |.bset q=>none
 |.inst d=>(Y.dict? d).bind λ p=>if p.1.all (λ p=>bT.contains p.1)=true then(qt.lookup x).map .user else none
 |.node q q1|.cell q|.liter q q1|.eit q q1|.bnext q|.rng q|.enum q q1|.mapo q q1|.view q|.any=>none
def iM(ov:V)(x:Str)(Y:St):Option nq:=match ov with
 |.none|.bool q|.int q=>none
 |.str u=>(zu.lookup x).map .bi
 |.ref i=>(Y.sto[i]?).bind (abx x Y)
 |.fn q|.bi q=>none
def aC:Str:="/"
def iW(x y:Str):Bool:=decide (x.cps.toList < y.cps.toList)
noncomputable def bI:List Str->List Str->Bool
 |_,[]=>false
 |[],_::_=>true
 |x::xs,y::ys=>if x==y then bI xs ys else iW x y
def cC(xs:List Str):List Str:=xs.mergeSort λ a b=>!iW b a
noncomputable def bf(xs:List Str):Nat:=(xs.map Str.length).sum
def pM(x y:Str)(k:ak V):ak V:=if y==aC&&small x.length then k else .bad
def Wb(sep:Str)(a:V)(Y:St):ak V:=onS a.ref? λ l=>onS (Y.list? l) λ xs=>onS (dW xs) λ ss=>grd (sep==aC&&small ss.length&&small (bf ss)) (.ok (.str (Str.join sep ss)) Y)
def agk(m:Me)(x y:Str)(Y:St):ak V:=match m with
 |.join=>.bad
 |.split=>pM x y (Y.new (.list ((Txt.split x y).map .str)))
 |.startswith=>pM x y (.ok (.bool (Txt.startswith x y)) Y)
 |.endswith=>pM x y (.ok (.bool (Txt.endswith x y)) Y)
 |.rfind=>pM x y (.ok (.int (Txt.rfind x y)) Y)
 |.rstrip=>pM x y (.ok (.str (Txt.rstripChars x y)) Y)
 |.lstrip=>pM x y (.ok (.str (Txt.lstripChars x y)) Y)
 |.append|.pop|.clear|.get|.values|.add=>.bad
def agl(m:Me)(x:Str)(a:V)(Y:St):ak V:=match a with
 |.none|.bool q|.int q=>.bad
 |.str y=>agk m x y Y
 |.ref l=>if m=.join then Wb x (.ref l) Y else .bad
 |.fn q|.bi q=>.bad
def agm(m:Me)(l:Nat)(xs:List V)(Y:St):ak V:=match m with
 |.join|.split|.startswith|.endswith|.rfind|.rstrip|.lstrip|.append=>.bad
 |.pop=>onS xs.getLast? λ v=>Y.mut l (.list xs.dropLast) v
 |.clear=>Y.mut l (.list []) .none
 |.get|.values|.add=>.bad
def agn(m:Me)(l:Nat)(Y:St):O->ak V
 |.list xs=>grd (small xs.length) (agm m l xs Y)
 |.tup q=>.bad
 |.dict u u2=>grd (decide (m=.values)) (Y.new (.view l))
 |.set q|.bset q|.inst q|.node q q1|.cell q|.liter q q1|.eit q q1|.bnext q|.rng q|.enum q q1|.mapo q q1|.view q|.any=>.bad
def ac1(m:Me)(l:Nat)(Y:St):ak V:=onS (Y.sto[l]?) (agn m l Y)
def ago(m:Me)(l:Nat)(v:V)(Y:St):O->ak V
 |.list xs=>grd (decide (m=.append/\small xs.length=true)) (Y.mut l (.list (xs++[v])) .none)
 |.tup q=>.bad
 |.dict kvs u=>onS v.str? λ x=>grd (decide (m=.get)) (.ok ((kvs.lookup x).getD .none) Y)
 |.set xs=>onS v.str? λ x=>grd (decide (m=.add/\xs.length < 4000)) (Y.mut l (.set (if xs.contains x then xs else xs++[x])) .none)
 |.bset q|.inst q|.node q q1|.cell q|.liter q q1|.eit q q1|.bnext q|.rng q|.enum q q1|.mapo q q1|.view q|.any=>.bad
def ac2(m:Me)(l:Nat)(v:V)(Y:St):ak V:=onS (Y.sto[l]?) (ago m l v Y)
def agp(m:Me)(Y:St)(v:V):ak V:=onS v.ref? λ l=>ac1 m l Y
def agq(m:Me)(v:V)(Y:St)(ov:V):ak V:=match ov with
 |.none|.bool q|.int q=>.bad
 |.str x=>agl m x v Y
 |.ref l=>ac2 m l v Y
 |.fn q|.bi q=>.bad
def cD(m:Me)(ov:V)(args:List V)(Y:St):ak V:=match args with
 |[]=>agp m Y ov
 |[v]=>agq m v Y ov
 |_::_::_=>.bad
def ac3:O->Option Bi
 |.list u=>some .list
 |.tup u=>some .tuple
 |.dict q q1|.set q|.bset q|.inst q|.node q q1|.cell q|.liter q q1|.eit q q1|.bnext q|.rng q|.enum q q1|.mapo q q1|.view q|.any=>none
def CZ(v:V)(Y:St):Option Bi:=match v with
 |.none|.bool q|.int q=>.none
 |.str u=>some .str
 |.ref i=>Y.get i ac3
 |.fn q|.bi q=>.none
open Classical in
def Dc(f m kt l k i:Nat)(xs:List V)(Y:St):Bool:=decide (Y.sto[m]?=some (.mapo f kt)/\Y.sto[kt]?=some (.tup [.ref k])/\Y.sto[k]?=some (.eit l i)/\Y.sto[l]?=some (.list xs))
def dY(cl:Nat->List V->St->ak V)(f m kt l k:Nat)(xs:List V):Nat->List V->St->ak (List V)
 |i,[],Y=>if Dc f m kt l k i xs Y then .ok [] (Y.upd k .any)else .bad
 |i,x::r,Y=>if Dc f m kt l k i xs Y then(cl f [x] (Y.upd k (.eit l (i+1)))).bindN λ y Y=>(dY cl f m kt l k xs (i+1) r Y).bindN λ ys Y=>.ok (y::ys) Y else .bad
def aid(Y:St)(v:V):ak V:=match v with
 |.none|.bool q|.int q=>.bad
 |.str x=>if small x.length then .ok (.int x.length) Y else .bad
 |.ref l=>onS (Y.get l O.seq?) λ xs=>if small xs.length then .ok (.int xs.length) Y else .bad
 |.fn q|.bi q=>.bad
def rU(args:List V)(Y:St):ak V:=onS (jD args) (aid Y)
open Classical in
def aby(v u:V)(Y:St):ak V:=match u with
 |.none|.bool q|.int q|.str q=>.bad
 |.ref t=>if CZ v Y=some .list/\Y.sto[t]?=some (.tup [.bi .list,.bi .tuple])then .ok (.bool true) Y else .bad
 |.fn q=>.bad
 |.bi b=>onS v.str? λ _=>if b=.bytes then .ok (.bool false) Y else .bad
def gF(args:List V)(Y:St):ak V:=onS (Ca args) λ p=>aby p.1 p.2 Y
open Classical in
def Mh(args:List V)(Y:St):ak V:=onS (Ca args) λ p=>onS p.2.ref? λ t=>if p.1=.bi .str/\Y.sto[t]?=some (.tup [.bi .str,.bi .bytes])then .ok (.bool true) Y else .bad
def tH(cl:Nat->List V->St->ak V)(m f kt:Nat)(Y:St):ak V:=onS ((Y.get kt O.tup?).bind jD) λ u=>onS u.ref? λ k=>onS (Y.get k O.eit?) λ p=>onS (Y.list? p.1) λ xs=>
 grd (small xs.length&&decide (k0<=k)&&decide (p.2=0)) ((dY cl f m kt p.1 k xs 0 xs Y).bindN λ ys Y=>Y.new (.tup ys))
def aie(cl:Nat->List V->St->ak V)(m:Nat)(Y:St)(o:O):ak V:=match o with
 |.list xs=>if small xs.length then Y.new (.tup xs)else .bad
 |.tup q|.dict q q1|.set q|.bset q|.inst q|.node q q1|.cell q|.liter q q1|.eit q q1|.bnext q|.rng q|.enum q q1=>.bad
 |.mapo f kt=>tH cl m f kt Y
 |.view q|.any=>.bad
def agr(cl:Nat->List V->St->ak V)(args:List V)(Y:St):ak V:=onS (jD args) λ v=>onS v.ref? λ m=>onS (Y.sto[m]?) (aie cl m Y)
def tK(args:List V)(Y:St)(k:Nat->List V->ak V):ak V:=onS (jD args) λ v=>onS v.ref? λ l=>onS (Y.list? l) (k l)
def Wc(o:O):Option (List Str):=match o with
 |.list q=>none
 |.tup xs=>dW xs
 |.dict kvs u=>some (kvs.map (·.1))
 |.set q|.bset q|.inst q|.node q q1|.cell q|.liter q q1|.eit q q1|.bnext q|.rng q|.enum q q1|.mapo q q1|.view q|.any=>none
def nu(args:List V)(Y:St):ak V:=onS (jD args) λ v=>onS v.ref? λ l=>onS (Y.get l Wc) λ ss=>if ss.length < 64 then Y.new (.list ((cC ss).map .str))else .bad
def qu(Y:St)(a:Nat):Option (List Str):=(Y.list? a).bind dW
def zy(gt:Bool)(args:List V)(Y:St):ak V:=tK args Y λ _ vs=>onS (Ca vs) λ p=>onS p.1.ref? λ a=>onS p.2.ref? λ b=>onS (qu Y a) λ x=>onS (qu Y b) λ y=>.ok (.ref (if(if gt then bI x y else bI y x)then b else a)) Y
def ags(args:List V)(Y:St):ak V:=onS (Ca args) λ p=>onS p.1.fn? λ f=>onS p.2.ref? λ l=>onS (Y.list? l) λ _=>({Y with sto:=Y.sto++[.eit l 0,.tup [.ref Y.sto.length]]}:St).new (.mapo f (Y.sto.length+1))
def ac4(args:List V):Option (Int×Int):=(Ca args).bind λ p=>p.1.int?.bind λ i=>p.2.int?.map (i,·)
def I9(args:List V)(Y:St):ak V:=match ac4 args with
 |some p=>.ok (.int (if p.2 < p.1 then p.2 else p.1)) Y
 |none=>zy false args Y
def ad5(args:List V)(Y:St):ak V:=onS (jD args) λ v=>onS v.int? λ i=>.ok (.int (if i < 0 then -i else i)) Y
def vK(args:List V)(Y:St):ak V:=onS (jD args) λ v=>onS v.int? λ n=>if 0<=n/\n<=1000 then Y.new (.rng n)else .bad
def Wd(args:List V)(Y:St):ak V:=onS (jD args) λ v=>onS (CZ v Y) λ b=>.ok (.bi b) Y
def b8(cl:Nat->List V->St->ak V)(f:Bi)(args:List V)(Y:St):ak V:=match f with
 |.abs=>ad5 args Y
 |.len=>rU args Y
 |.sorted=>nu args Y
 |.iter=>tK args Y λ l _=>Y.new (.liter l 0)
 |.issubclass=>Mh args Y
 |.isinstance=>gF args Y
 |.min=>I9 args Y
 |.max=>zy true args Y
 |.range=>vK args Y
 |.tuple=>agr cl args Y
 |.bool=>tK args Y λ _ xs=>if small xs.length then .ok (.bool (!xs.isEmpty)) Y else .bad
 |.set=>if args.isEmpty then Y.new (.set [])else .bad
 |.type=>Wd args Y
 |.str|.bytes|.list=>.bad
 |.map=>ags args Y
 |.enumerate=>tK args Y λ l _=>({Y with sto:=Y.sto++[.eit l 0]}:St).new (.enum Y.sto.length 0)
def tL(it l i:Nat)(xs:List V)(Y:St):ak V:=match xs[i]? with
 |some v=>Y.mut it (.liter l (i+1)) v
 |none=>if k0<=it then .exc .stop (Y.upd it .any)else .bad
def Dd(k:Nat)(Y:St):ak V:=onS (Y.get k O.bnext?) λ it=>onS (Y.get it O.liter?) λ p=>onS (Y.list? p.1) λ xs=>grd (small xs.length) (tL it p.1 p.2 xs Y)
def zA(cl:Nat->List V->St->ak V)(en:En)(f:V)(args:List V)(Y:St):ak V:=match f with
 |.none|.bool q|.int q|.str q=>.bad
 |.ref k=>if en.free&&en.own&&args.isEmpty then Dd k Y else .bad
 |.fn a=>if en.free&&en.own then cl a args Y else .bad
 |.bi b=>if en.free&&en.own then b8 cl b args Y else .bad
def vL(cl:Nat->List V->St->ak V)(en:En)(c:nq)(ov:V)(args:List V)(Y:St):ak V:=match c with
 |.user f=>if en.free&&en.own then cl f (ov::args) Y else .bad
 |.bi m=>cD m ov args Y
def Mi(Y:St):O->Option (List V)
 |.list xs=>if small xs.length then some xs else none
 |.tup xs=>if small xs.length then some xs else none
 |.dict kvs u=>if small kvs.length then some (kvs.map λ p=>.str p.1)else none
 |.set q|.bset q|.inst q|.node q q1|.cell q|.liter q q1|.eit q q1|.bnext q=>none
 |.rng n=>some ((List.range n.toNat).map λ k:Nat=>V.int (k:Int))
 |.enum q q1|.mapo q q1=>none
 |.view d=>(Y.dict? d).bind λ p=>if small p.1.length then some (p.1.map (·.2))else none
 |.any=>none
def bN(v:V)(Y:St):Option (List V):=match v with
 |.none|.bool q|.int q|.str q=>none
 |.ref i=>(Y.sto[i]?).bind (Mi Y)
 |.fn q|.bi q=>none
open Classical in
def Wh(i:Nat)(Y τ:St):Bool:=decide (τ.sto[i]?=Y.sto[i]?)&&(match Y.get i O.view? with
 |some d=>decide (τ.sto[d]?=Y.sto[d]?)
 |none=>true)
def aR(v:V)(Y τ:St):Bool:=match v.ref? with
 |some i=>Wh i Y τ
 |none=>false
set_option tactic.hygienic true in
def jk(ok:St->Bool)(body:V->St->ak Fl):List V->St->ak Fl
 |[],Y=>if ok Y then .ok .next Y else .bad
 |v::r,Y=>if ok Y then(body v Y).bindN λ fl Y=>match fl with
   |.next|.cont=>jk ok body r Y
   |.brk=>.ok .brk Y
   |.ret v=>.ok (.ret v) Y
  else .bad
set_option tactic.hygienic true in
def gG(test:St->ak Bool)(body orelse:St->ak Fl):Nat->St->ak Fl
 |0,_=>.bad
 |n+1,Y=>(test Y).bindN λ b Y=>if b then(body Y).bindN λ fl Y=>match fl with
   |.next|.cont=>gG test body orelse n Y
   |.brk=>.ok .next Y
   |.ret v=>.ok (.ret v) Y
  else(orelse Y).bindN λ f Y=>.ok f Y
noncomputable def Df(en:En)(scope:Scope):Scope:={scope with names:=scope.names.map λ(n,k)=>if k== .free&&en.scope.names.lookup n==some .cell then(n,.cell)else(n,k)}
noncomputable def Dg(en:En)(scope:Scope):Option (List (Str×Nat)):=(scope.names.filter λ p=>p.2== .free).mapM λ p=>if en.scope.names.lookup p.1==some .cell then(en.cells.lookup p.1).map (p.1,·)else none
def zB(en:En)(scope:Scope):Option En:=if scope.kind== .function&&scope.names.all (λ p=>p.2 != .cell&&(p.2 != .local||scope.names.lookup p.1==some .local))then(Dg en scope).map λ cs=>{scope:=Df en scope,cells:=cs.reverse,free:=en.free,own:=false}else none
def ad6(isl:Bool)(y:V):O->Option O
 |.list ys=>if(isl&&small ys.length)=true then some (.list (ys++[y]))else none
 |.tup q|.dict q q1|.set q=>none
 |.bset bs=>y.bool?.bind λ b=>if(!isl&&decide (bs=[]\/bs=[b]))=true then some (.bset (if bs.contains b then bs else bs++[b]))else none
 |.inst q|.node q q1|.cell q|.liter q q1|.eit q q1|.bnext q|.rng q|.enum q q1|.mapo q q1|.view q|.any=>none
def fD(isl:Bool)(ok:St->Bool)(x:Str)(ifs:St->ak Bool)(elt:St->ak V)(acc:Nat):List V->St->ak Unit
 |[],Y=>grd (ok Y) (.ok () Y)
 |v::r,Y=>grd (ok Y) ((ifs {Y with loc:=aZ Y.loc x v}).bindN λ b Y=>if b then(elt Y).bindN λ y Y=>onS ((Y.sto[acc]?).bind (ad6 isl y)) λ o=>grd (decide (k0<=acc)) (fD isl ok x ifs elt acc r (Y.upd acc o))
   else fD isl ok x ifs elt acc r Y)
def dw:yN->Str
 |.stop=>"StopIteration"
 |.cyc=>"CycleError"
section
variable (cl:Nat->List V->St->ak V)
noncomputable def Mj:Const->St->ak V
 |.none,Y=>.ok .none Y
 |.bool b,Y=>.ok (.bool b) Y
 |.int i,Y=>.ok (.int i) Y
 |.str s,Y=>.ok (.str s) Y
 |_,_=>.bad
def dz(o:Option V)(Y:St):ak V:=onS o λ v=>.ok v Y
def aG(o:Option Bool)(Y:St):ak Bool:=onS o λ b=>.ok b Y
noncomputable def fM(ev:Expr->En->St->ak V):List Expr->En->St->ak (List V)
 |[],_,Y=>.ok [] Y
 |e::r,en,Y=>(ev e en Y).bind λ v Y=>(fM ev r en Y).bind λ vs Y=>.ok (v::vs) Y
def ac5(op:BoolOp)(t:Bool):Bool:=match op with
 |.And=>!t
 |.Or=>t
def Wi(ev:Expr->En->St->ak V)(op:BoolOp):List Expr->En->St->ak V
 |[],_,_=>.bad
 |[e],en,Y=>ev e en Y
 |e::r,en,Y=>(ev e en Y).bind λ v Y=>(aG (aO v Y) Y).bind λ t Y=>if ac5 op t then .ok v Y else Wi ev op r en Y
noncomputable def Gf(te:Expr->En->St->ak Bool)(op:BoolOp):List Expr->En->St->ak Bool
 |[],_,Y=>.ok (op== .And) Y
 |e::r,en,Y=>(te e en Y).bind λ t Y=>if ac5 op t then .ok t Y else Gf te op r en Y
def Ml(ev:Expr->En->St->ak V):Option Expr->En->St->ak V
 |none,_,Y=>.ok .none Y
 |some e,en,Y=>ev e en Y
set_option genInjectivity false in
set_option genSizeOf false in
inductive EV where
 |name (x:Str)|attr (o:Expr) (a:Str) (p:Pos)|sub (o i:Expr)|tup (es:List Expr)|call (f:Expr) (as:List Expr) (ks:List Keyword)|slice (lo hi st:Option Expr)|comp|set|star|other
noncomputable def view(e:Expr):EV:=match e with
 |.BoolOp q q1 q2|.NamedExpr q q1 q2|.BinOp q q1 q2 q3|.UnaryOp q q1 q2|.Lambda q q1 q2 q3|.IfExp q q1 q2 q3|.Dict q q1 q2=>.other
 |.Set u u2 u3=>.set
 |.ListComp u u2 u3 u4=>.comp
 |.SetComp u u2 u3 u4=>.comp
 |.DictComp u u2 u3 u4 u5=>.comp
 |.GeneratorExp q q1 q2 q3|.Await q q1|.Yield q q1|.YieldFrom q q1|.Compare q q1 q2 q3=>.other
 |.Call f a k u=>.call f a k
 |.FormattedValue q q1 q2 q3|.JoinedStr q q1|.Constant q q1 q2=>.other
 |.Attribute o a p=>.attr o a p
 |.Subscript o i u=>.sub o i
 |.Starred u u2=>.star
 |.Name x u=>.name x
 |.List q q1=>.other
 |.Tuple es u u2=>.tup es
 |.Slice lo hi st u=>.slice lo hi st
def EV.Is:EV->Expr->Prop
 |.name x=>λ e=>∃p,e=.Name x p
 |.attr o a p=>λ e=>e=.Attribute o a p
 |.sub o i=>λ e=>∃p,e=.Subscript o i p
 |.tup es=>λ e=>∃c p,e=.Tuple es c p
 |.call f a k=>λ e=>∃p,e=.Call f a k p
 |.slice lo hi st=>λ e=>∃p,e=.Slice lo hi st p
 |.comp|.set|.star|.other=>λ _=>True
theorem jl(e:Expr):(view e).Is e:=by
 induction e using PySem.Expr.casesOn<;>first|trivial|exact⟨_,rfl⟩|exact⟨_,_,rfl⟩|rfl
noncomputable def EV.tag:EV->Nat
 |.name _=>0
 |.attr .. =>1
 |.sub .. =>2
 |.tup _=>3
 |.call .. =>4
 |.slice .. =>5
 |.comp=>6
 |.set=>7
 |.star=>8
 |.other=>9
noncomputable def EV.name?:EV->Option Str
 |.name x=>some x
 |.attr q q1 q2|.sub q q1|.tup q|.call q q1 q2|.slice q q1 q2|.comp|.set|.star|.other=>none
def EV.sub?:EV->Option (Expr×Expr)
 |.name q|.attr q q1 q2=>none
 |.sub o i=>if Nat.beq (view i).tag 5 then none else some (o,i)
 |.tup q|.call q q1 q2|.slice q q1 q2|.comp|.set|.star|.other=>none
noncomputable def EV.tup?:EV->Option (List Expr)
 |.name q|.attr q q1 q2|.sub q q1=>none
 |.tup es=>some es
 |.call q q1 q2|.slice q q1 q2|.comp|.set|.star|.other=>none
def EV.plain:EV->Bool
 |.name q|.attr q q1 q2|.sub q q1|.tup q=>true
 |.call f as ks=>!((view f).name?.isSome&&as.isEmpty&&ks.isEmpty)
 |.slice q q1 q2|.comp|.set|.star|.other=>true
def EV.call2:EV->Option (Str×List Expr)
 |.name q|.attr q q1 q2|.sub q q1|.tup q=>none
 |.call f as ks=>if ks.isEmpty&&as.length==2 then(view f).name?.map λ x=>(x,as)else none
 |.slice q q1 q2|.comp|.set|.star|.other=>none
def gH(e:Expr):Option Str:=(view e).name?
def iQ:List Expr->Option (List Str)
 |[]=>some []
 |e::r=>(gH e).bind λ x=>(iQ r).map (x::·)
def tM(e:Expr):Bool:=Nat.beq (view e).tag 5
def Wj(e:Expr):Option (Expr×Expr):=(view e).sub?
def Wk(e:Expr):Option (List Expr):=(view e).tup?
def Jc(e:Expr):Bool:=Nat.beq (view e).tag 3
def aif(g:Comprehension):Option (Str×Expr×List Expr):=if g.is_async=0 then(gH g.target).map λ x=>(x,g.iter,g.ifs)else none
def ac6(gs:List Comprehension):Option (Str×Expr×List Expr):=(jD gs).bind aif
def Mp(e:Expr):Bool:=Nat.beq (view e).tag 4
def oU(e:Expr):Bool:=Nat.beq (view e).tag 7
def Gg(e:Expr):Bool:=Nat.beq (view e).tag 6
def qw(e:Expr):Bool:=(view e).plain
def rW:List Expr->Bool
 |[]=>true
 |e::r=>cond (Nat.beq (view e).tag 8) false (rW r)
def QG(ev:Expr->En->St->ak V)(f:Expr)(args:List Expr)(en:En)(Y:St):ak V:=
 if rW args then(ev f en Y).bind λ fv Y=>(fM ev args en Y).bind λ vs Y=>zA cl en fv vs Y else .bad
def QH(op:UnaryOp)(a:V)(Y:St):ak V:=match op with
 |.Invert=>.bad
 |.Not=>(aG (aO a Y) Y).bind λ t Y=>.ok (.bool !t) Y
 |.UAdd=>.bad
 |.USub=>(match a with|.int i=>.ok (.int (-i)) Y|_=>.bad)
def vM(isl:Bool):O:=if isl then .list []else .bset []
def eF(isl:Bool)(x:Str)(ifs:St->ak Bool)(elt:St->ak V)(v:V)(Y:St):ak V:=match bN v Y with
 |some xs=>(fD isl (aR v Y) x ifs elt Y.sto.length xs {loc:=[],sto:=Y.sto++[vM isl]}).bindN λ _ τ=>.ok (.ref Y.sto.length) {loc:=Y.loc,sto:=τ.sto}
 |none=>.bad
def kO(isl:Bool)(te:Expr->En->St->ak Bool)(ev:Expr->En->St->ak V)(x:Str)(iter elt:Expr)(ifs:List Expr)(scope:Scope)(en:En)(v:V)(Y:St):ak V:=match zB en scope with
 |some cen=>if en.free&&!oU iter&&(cen.scope.names.lookup x==some .local)then eF isl x (Gf te .And ifs cen) (ev elt cen) v Y else .bad
 |none=>.bad
def xN(isl:Bool)(ev:Expr->En->St->ak V)(te:Expr->En->St->ak Bool)(elt:Expr)(gens:List Comprehension)(scope:Scope)(en:En)(Y:St):ak V:=match ac6 gens with
 |some (x,iter,ifs)=>(ev iter en Y).bind (kO isl te ev x iter elt ifs scope en)
 |none=>.bad
noncomputable def zE{α:Type}(ev:Expr->En->St->ak V)(l r:Expr)(en:En)(k:V->V->St->ak α)(Y:St):ak α:=(ev l en Y).bind λ a Y=>(ev r en Y).bind λ b Y=>k a b Y
def abz{α:Type}(ev:Expr->En->St->ak V)(l:Expr)(ops:List CmpOp)(rs:List Expr)(en:En)(k:Bool->St->ak α)(Y:St):ak α:=onS (jD ops) λ op=>onS (jD rs) λ r=>if oU r then .bad else zE ev l r en (λ a b Y=>(aG (rR op a b Y) Y).bind k) Y
def Wl(ev:Expr->En->St->ak V)(o:Expr)(name:Str)(apos pos:Pos)(args:List Expr)(en:En)(Y:St):ak V:=
 if rW args&&qw o&&decide (args.length < 30)&&apos.endLine==pos.line then(ev o en Y).bind λ ov Y=>match iM ov name Y with
    |some c=>(fM ev args en Y).bind λ vs Y=>vL cl en c ov vs Y
    |none=>.bad
   else .bad
def Wm(ev:Expr->En->St->ak V)(f:Expr)(args:List Expr)(pos:Pos)(en:En)(Y:St):ak V:=match view f with
 |.name u=>QG cl ev f args en Y
 |.attr o name apos=>Wl cl ev o name apos pos args en Y
 |.sub u u2=>QG cl ev f args en Y
 |.tup q|.call q q1 q2|.slice q q1 q2|.comp|.set|.star|.other=>.bad
def Wn(ev:Expr->En->St->ak V)(o:Expr)(lo hi st:Option Expr)(en:En)(Y:St):ak V:=if st.isSome then .bad else
 (ev o en Y).bind λ ov Y=>(Ml ev lo en Y).bind λ l Y=>(Ml ev hi en Y).bind λ h Y=>onS (jF l) λ l=>onS (jF h) λ h=>Ge ov l h Y
def ad7(ev:Expr->En->St->ak V)(o i:Expr)(en:En)(Y:St):ak V:=match view i with
 |.name q|.attr q q1 q2|.sub q q1|.tup q|.call q q1 q2=>zE ev o i en (λ ov iv Y=>dz (cM ov iv Y) Y) Y
 |.slice lo hi st=>Wn ev o lo hi st en Y
 |.comp|.set|.star|.other=>zE ev o i en (λ ov iv Y=>dz (cM ov iv Y) Y) Y
def QJ(ev:Expr->En->St->ak V)(es:List Expr)(en:En)(mk:List V->O)(Y:St):ak V:=if rW es&&small es.length then(fM ev es en Y).bind λ vs Y=>Y.new (mk vs)else .bad
def Wo(ev:Expr->En->St->ak V)(te:Expr->En->St->ak Bool)(e:Expr)(en:En)(Y:St):ak V:=match e with
  |.BoolOp op es u=>Wi ev op es en Y
  |.NamedExpr t v u=>(match gH t with
   |some x=>(ev v en Y).bind λ a Y=>(cB en x a Y).bind λ _ Y=>.ok a Y
   |none=>.bad)
  |.BinOp l op r u=>zE ev l r en (gD op) Y
  |.UnaryOp op x u=>(ev x en Y).bind (QH op)
  |.Lambda q q1 q2 q3=>.bad
  |.IfExp t b o u=>(te t en Y).bind λ c Y=>if c then ev b en Y else ev o en Y
  |.Dict ks vs u=>if ks.isEmpty&&vs.isEmpty then Y.new (.dict [] 0)else .bad
  |.Set q q1 q2=>.bad
  |.ListComp elt gens scope u=>xN true ev te elt gens scope en Y
  |.SetComp elt gens scope u=>xN false ev te elt gens scope en Y
  |.DictComp q q1 q2 q3 q4|.GeneratorExp q q1 q2 q3|.Await q q1|.Yield q q1|.YieldFrom q q1=>.bad
  |.Compare l ops rs u=>abz ev l ops rs en (λ t Y=>.ok (.bool t) Y) Y
  |.Call f args kws pos=>if kws.isEmpty then Wm cl ev f args pos en Y else .bad
  |.FormattedValue q q1 q2 q3=>.bad
  |.JoinedStr es u=>(match es with
   |[e]=>ev e en Y
   |_=>.bad)
  |.Constant c u u2=>Mj c Y
  |.Attribute o a u=>if qw o then(ev o en Y).bind λ ov Y=>bJ ov a Y else .bad
  |.Subscript o i u=>ad7 ev o i en Y
  |.Starred q q1=>.bad
  |.Name id u=>if id==("__debug__":Str)then .bad else I6 en id Y
  |.List es u=>QJ ev es en .list Y
  |.Tuple es u u2=>QJ ev es en .tup Y
  |.Slice q q1 q2 q3=>.bad
def Mq(ev:Expr->En->St->ak V)(e:Expr)(en:En)(Y:St):ak Bool:=(ev e en Y).bind λ a Y=>aG (aO a Y) Y
def Wq(ev:Expr->En->St->ak V)(te:Expr->En->St->ak Bool)(e:Expr)(en:En)(Y:St):ak Bool:=match e with
  |.BoolOp op es u=>Gf te op es en Y
  |.NamedExpr q q1 q2|.BinOp q q1 q2 q3=>Mq ev e en Y
  |.UnaryOp op x u=>if op== .Not then(te x en Y).bind λ t Y=>.ok (!t) Y else Mq ev e en Y
  |.Lambda q q1 q2 q3=>Mq ev e en Y
  |.IfExp u u2 u3 u4=>.bad
  |.Dict q q1 q2|.Set q q1 q2|.ListComp q q1 q2 q3|.SetComp q q1 q2 q3|.DictComp q q1 q2 q3 q4|.GeneratorExp q q1 q2 q3|.Await q q1|.Yield q q1|.YieldFrom q q1=>Mq ev e en Y
  |.Compare l ops rs u=>abz ev l ops rs en (λ t Y=>.ok t Y) Y
  |.Call q q1 q2 q3|.FormattedValue q q1 q2 q3|.JoinedStr q q1|.Constant q q1 q2|.Attribute q q1 q2|.Subscript q q1 q2|.Starred q q1|.Name q q1|.List q q1|.Tuple q q1 q2|.Slice q q1 q2 q3=>Mq ev e en Y
def Dh:Nat->(Expr->En->St->ak V)×(Expr->En->St->ak Bool)
 |0=>(λ _ _ _=>.bad,λ _ _ _=>.bad)
 |n+1=>(Wo cl (Dh n).1 (Dh n).2,Wq (Dh n).1 (Dh n).2)
def dj(n:Nat):Expr->En->St->ak V:=(Dh cl n).1
def xO(n:Nat):Expr->En->St->ak Bool:=(Dh cl n).2
theorem ad8(n:Nat):dj cl (n+1)=Wo cl (dj cl n) (xO cl n):=rfl
theorem ad9(n:Nat):xO cl (n+1)=Wq (dj cl n) (xO cl n):=rfl
end
section
variable (cl:Nat->List V->St->ak V)
def abA(xs:List Str)(en:En)(Y:St):O->ak Unit
 |.list q=>.bad
 |.tup vs=>onS (zp vs) λ v=>onS (zp xs) λ x=>(cB en x.1 v.1 Y).bind λ _ Y=>(cB en x.2.1 v.2.1 Y).bind λ _ Y=>cB en x.2.2 v.2.2 Y
 |.dict q q1|.set q=>.bad
 |.bset bs=>onS (jD bs) λ b=>onS (jD xs) λ x=>cB en x (.bool b) Y
 |.inst q|.node q q1|.cell q|.liter q q1|.eit q q1|.bnext q|.rng q|.enum q q1|.mapo q q1|.view q|.any=>.bad
def QK(xs:List Str)(v:V)(en:En)(Y:St):ak Unit:=onS v.ref? λ i=>onS (Y.sto[i]?) (abA xs en Y)
def Gh(n:Nat)(t:Expr)(v:V)(en:En)(Y:St):ak Unit:=match view t with
 |.name x=>cB en x v Y
 |.attr o a u=>(dj cl n o en Y).bind λ ov Y=>(aX ov a v Y).bind λ _ Y=>.ok () Y
 |.sub o i=>if tM i then .bad else zE (dj cl n) o i en (λ ov iv Y=>(iV ov iv v Y).bind λ _ Y=>.ok () Y) Y
 |.tup es=>if en.free then onS (iQ es) λ xs=>QK xs v en Y else .bad
 |.call q q1 q2|.slice q q1 q2|.comp|.set|.star|.other=>.bad
def gJ(n:Nat):List Expr->V->En->St->ak Unit
 |[],_,_,Y=>.ok () Y
 |t::r,v,en,Y=>(Gh cl n t v en Y).bind λ _ Y=>gJ n r v en Y
set_option tactic.hygienic true in
noncomputable def aK(ex:Stmt->En->St->ak Fl):List Stmt->En->St->ak Fl
 |[],_,Y=>.ok .next Y
 |s::r,en,Y=>(ex s en Y).bind λ fl Y=>match fl with
  |.next=>aK ex r en Y
  |f=>.ok f Y
open Classical in
set_option tactic.hygienic true in
def fG(e k l:Nat)(xs:List V)(body:Nat->V->St->ak Fl):Nat->List V->St->ak Fl
 |i,[],Y=>if Y.sto[e]?=some (.enum k i)/\Y.sto[k]?=some (.eit l i)/\Y.sto[l]?=some (.list xs)then .ok .next (Y.upd k .any)else .bad
 |i,v::r,Y=>if Y.sto[e]?=some (.enum k i)/\Y.sto[k]?=some (.eit l i)/\Y.sto[l]?=some (.list xs)then(body i v ((Y.upd k (.eit l (i+1))).upd e (.enum k (i+1)))).bindN λ fl Y=>match fl with
   |.next|.cont=>fG e k l xs body (i+1) r Y
   |.brk=>.ok .brk Y
   |.ret v=>.ok (.ret v) Y
  else .bad
set_option tactic.hygienic true in
def dB(r:ak Fl)(o:St->ak Fl):ak Fl:=r.bindN λ fl Y=>match fl with
 |.next=>(o Y).bindN λ f Y=>.ok f Y
 |.brk=>.ok .next Y
 |f=>.ok f Y
def aea(n:Nat)(t:Expr)(op:Operator)(e:Expr)(en:En)(Y:St):ak Fl:=match view t with
 |.name x=>(I6 en x Y).bind λ old Y=>(dj cl n e en Y).bind λ v Y=>(kJ op old v Y).bind λ w Y=>(cB en x w Y).bind λ _ Y=>.ok .next Y
 |.attr o a u=>(dj cl n o en Y).bind λ ov Y=>(bJ ov a Y).bind λ old Y=>(dj cl n e en Y).bind λ v Y=>(kJ op old v Y).bind λ w Y=>(aX ov a w Y).bind λ _ Y=>.ok .next Y
 |.sub q q1|.tup q|.call q q1 q2|.slice q q1 q2|.comp|.set|.star|.other=>.bad
def agt(n:Nat)(ts:List Expr)(en:En)(Y:St):ak Fl:=onS (jD ts) λ t=>onS (Wj t) λ p=>zE (dj cl n) p.1 p.2 en (λ ov iv Y=>(tG ov iv Y).bind λ _ Y=>.ok .next Y) Y
def aeb(ex:Stmt->En->St->ak Fl)(x:Str)(b o:List Stmt)(en:En)(v:V)(Y:St):ak Fl:=match bN v Y with
 |some xs=>dB (jk (aR v Y) (λ c Y=>(cB en x c Y).bind λ _ Y=>aK ex b en Y) xs Y) (aK ex o en)
 |none=>.bad
def Gi(i:Nat)(Y:St):Option (Nat×Nat×List V):=(Y.get i O.enum?).bind λ p=>if p.2=0 then(Y.get p.1 O.eit?).bind λ q=>if q.2=0 then(Y.list? q.1).map λ xs=>(p.1,q.1,xs)else none else none
def ac7(ex:Stmt->En->St->ak Fl)(x y:Str)(b o:List Stmt)(en:En)(v:V)(Y:St):ak Fl:=onS v.ref? λ i=>onS (Gi i Y) λ p=>grd (small p.2.2.length&&decide (k0<=i)&&decide (k0<=p.1)&&!(x==y)) (dB (fG i p.1 p.2.1 p.2.2 (λ j c Y=>(cB en x (.int j) Y).bind λ _ Y=>(cB en y c Y).bind λ _ Y=>aK ex b en Y) 0 p.2.2 Y) (aK ex o en))
def aec(n:Nat)(ex:Stmt->En->St->ak Fl)(t it:Expr)(b o:List Stmt)(en:En)(Y:St):ak Fl:=match gH t with
 |some x=>(dj cl n it en Y).bind (aeb ex x b o en)
 |none=>onS ((Wk t).bind iQ) λ xs=>onS (Ca xs) λ p=>(dj cl n it en Y).bind (ac7 ex p.1 p.2 b o en)
def Jd(e:Option Expr):Option (Str×List Expr):=e.bind λ e=>(view e).call2
def Mr(n:Nat)(e:Option Expr)(en:En)(Y:St):ak Fl:=match Jd e with
 |some (x,args)=>if x==("CycleError":Str)&&rW args&&en.free&&en.own&&en.scope.names.lookup x==some .globalImplicit then(fM (dj cl n) args en Y).bind λ _ Y=>.exc .cyc Y else .bad
 |none=>.bad
def Wr(h:ExceptHandler):Option (Str×List Stmt):=match h with
 |.ExceptHandler t nm hb _=>t.bind λ t=>if nm.isSome||hb.isEmpty then none else(gH t).map λ x=>(x,hb)
def lX(hs:List ExceptHandler):Option (Str×List Stmt):=(jD hs).bind Wr
set_option tactic.hygienic true in
def RJ(ex:Stmt->En->St->ak Fl)(b:List Stmt)(hs:List ExceptHandler)(o:List Stmt)(en:En)(Y:St):ak Fl:=match aK ex b en Y with
 |.ok .next Y=>aK ex o en Y
 |.ok f Y=>.ok f Y
 |.exc e Y=>(match lX hs with
  |some (x,hb)=>if x==dw e&&en.scope.names.lookup x==some .globalImplicit then(aK ex hb {en with free:=false} Y).bindN λ f Y=>.ok f Y else .bad
  |none=>.bad)
 |.bad=>.bad
def zF(n:Nat)(ex:Stmt->En->St->ak Fl)(s:Stmt)(en:En)(Y:St):ak Fl:=match s with
  |.FunctionDef q q1 q2 q3 q4 q5 q6 q7 q8 q9|.AsyncFunctionDef q q1 q2 q3 q4 q5 q6 q7 q8 q9|.ClassDef q q1 q2 q3 q4 q5 q6 q7 q8 q9 q10=>.bad
  |.Return e u=>(Ml (dj cl n) e en Y).bind λ v Y=>.ok (.ret v) Y
  |.Delete ts u=>agt cl n ts en Y
  |.Assign ts e u=>if Jc e then .bad else(dj cl n e en Y).bind λ v Y=>(gJ cl n ts v en Y).bind λ _ Y=>.ok .next Y
  |.TypeAlias q q1 q2 q3 q4 q5 q6=>.bad
  |.AugAssign t op e u=>aea cl n t op e en Y
  |.AnnAssign q q1 q2 q3 q4=>.bad
  |.For t it b o u=>if en.free&&!oU it then aec cl n ex t it b o en Y else .bad
  |.AsyncFor q q1 q2 q3 q4=>.bad
  |.While t b o u=>if en.free then gG (xO cl n t en) (aK ex b en) (aK ex o en) wf Y else .bad
  |.If t b o u=>(xO cl n t en Y).bind λ c Y=>if c then aK ex b en Y else aK ex o en Y
  |.With q q1 q2|.AsyncWith q q1 q2|.Match q q1 q2=>.bad
  |.Raise e c u=>if c.isNone then Mr cl n e en Y else .bad
  |.Try b hs o f u=>if f.isEmpty&&en.free&&en.own&&!hs.isEmpty then RJ ex b hs o en Y else .bad
  |.TryStar q q1 q2 q3 q4|.Assert q q1 q2|.Import q q1|.ImportFrom q q1 q2 q3|.Global q q1|.Nonlocal q q1=>.bad
  |.Expr e u=>if Mp e then(dj cl n e en Y).bind λ _ Y=>.ok .next Y else .bad
  |.Pass u=>.ok .next Y
  |.Break u=>.ok .brk Y
  |.Continue u=>.ok .cont Y
def cG:Nat->Stmt->En->St->ak Fl
 |0=>λ _ _ _=>.bad
 |n+1=>zF cl n (cG n)
theorem aed(n:Nat):cG cl (n+1)=zF cl n (cG cl n):=rfl
end
structure Fn where
 params:Arguments
 body:List Stmt
 scope:Scope
noncomputable def Gj(i:Nat):Stmt:=(PySem.Challenge.pw_il0148_01.main.body[i]?).getD (.Pass default)
noncomputable def ac8(s:Stmt):Option (Fn ⊕ List Stmt):=match s with
 |.FunctionDef u a b u2 u3 u4 sc u5 u6 u7=>some (.inl ⟨a,b,sc⟩)
 |.AsyncFunctionDef q q1 q2 q3 q4 q5 q6 q7 q8 q9=>none
 |.ClassDef u u2 u3 b u4 u5 u6 u7 u8 u9 u10=>some (.inr b)
 |.Return q q1|.Delete q q1|.Assign q q1 q2|.TypeAlias q q1 q2 q3 q4 q5 q6|.AugAssign q q1 q2 q3|.AnnAssign q q1 q2 q3 q4|.For q q1 q2 q3 q4|.AsyncFor q q1 q2 q3 q4|.While q q1 q2 q3|.If q q1 q2 q3|.With q q1 q2|.AsyncWith q q1 q2|.Match q q1 q2|.Raise q q1 q2|.Try q q1 q2 q3 q4|.TryStar q q1 q2 q3 q4|.Assert q q1 q2|.Import q q1|.ImportFrom q q1 q2 q3|.Global q q1|.Nonlocal q q1|.Expr q q1|.Pass q|.Break q|.Continue q=>none
def agu(s:Stmt):Option Fn:=(ac8 s).bind Sum.getLeft?
def aee(i j:Nat):Option Fn:=(ac8 (Gj i)).bind λ s=>s.getRight?.bind λ b=>(b[j]?).bind agu
def zG:List (Nat×Nat):=[(214,15),(221,17),(235,20),(242,21),(249,22),(256,23),(263,24),(270,25),(278,26),(283,27),(297,30),(304,31),(311,32),(318,33),(325,34),(330,35)]
def yO:List (Nat×Nat×Nat):=[(36,4,1),(73,6,0),(80,6,1),(87,6,2),(92,6,3),(99,6,4),(106,6,5),(120,6,7),(127,6,8)]
def jG(a:Nat):Option Fn:=match zG.lookup a with
 |some i=>agu (Gj i)
 |none=>match yO.lookup a with
  |some (i,j)=>aee i j
  |none=>none
noncomputable def xP(f:Fn)(args:List V)(Y:St):Option (List (Str×V)×St):=
 if f.params.posonlyargs.isEmpty&&f.params.kwonlyargs.isEmpty&&f.params.kwarg.isNone&&args.length<=1000 then match f.params.vararg with
  |none=>if args.length=f.params.args.length then some ((f.params.args.map (·.arg)).zip args,Y)
    else if args.length+1=f.params.args.length&&f.params.defaults.length==1 then some ((f.params.args.map (·.arg)).zip (args++[.none]),Y)else none
  |some r=>if f.params.args.length<=args.length then some ((f.params.args.map (·.arg)).zip args++[(r.arg,.ref Y.sto.length)],{Y with sto:=Y.sto++[.tup (args.drop f.params.args.length)]})else none
 else none
def bM(sc:Scope):List Str:=(sc.names.filter λ p=>p.2== .cell).map (·.1)
noncomputable def fH(ns:List Str)(k:Nat):List (Str×Nat):=match ns with
 |[]=>[]
 |x::r=>(x,k)::fH r (k+1)
noncomputable def rY(sc:Scope):List (Str×Option V):=(sc.names.filter λ p=>p.2== .local).map λ p=>(p.1,none)
def pN:List (Str×V)->List (Str×Option V)->List (Str×Option V)
 |[],l=>l
 |(x,v)::r,l=>pN r (aZ l x v)
set_option tactic.hygienic true in
def ao:Nat->Nat->List V->St->ak V
 |0,_,_,_=>.bad
 |d+1,a,args,Y=>
  if a=137 then(if args.isEmpty then
    (ao d 73 [.ref (Y.sto.length+1)] {Y with sto:=Y.sto++[.dict [] 0,.inst Y.sto.length]}).bind λ v τ=>if v=.none then .ok (.ref (Y.sto.length+1)) τ else .bad else .bad)
  else if a=40 then(match args with
   |[x]=>(ao d 36 [.ref (Y.sto.length+1),x] {Y with sto:=Y.sto++[.dict [] 0,.node Y.sto.length [none,none,none]]}).bind λ v τ=>if v=.none then .ok (.ref (Y.sto.length+1)) τ else .bad
   |_=>.bad)
  else match jG a with
   |none=>.bad
   |some f=>match xP f args Y with
    |none=>.bad
    |some (bs,σ₁)=>
     let cs:=bM f.scope
     match aK (cG (ao d) 60) f.body {scope:=f.scope,cells:=fH cs σ₁.sto.length} {loc:=pN bs (rY f.scope),sto:=σ₁.sto++cs.map λ _=>.cell none}with
     |.ok (.ret v) τ=>.ok v {loc:=Y.loc,sto:=τ.sto}
     |.ok .next τ=>.ok .none {loc:=Y.loc,sto:=τ.sto}
     |.ok _ _=>.bad
     |.exc e τ=>.exc e {loc:=Y.loc,sto:=τ.sto}
     |.bad=>.bad
theorem Gk{α β:Type}{Y:St}{i:Nat}{o:O}{f:O->Option α}{k:α->ak β}{a:α}(e:Y.sto[i]?=some o)(h:f o=some a):onS (Y.get i f) k=k a:=cA ((vG e f).trans h)
open Classical in
theorem Ws{m d:Nat}{o:O}{Y τ:St}(h:Y.sto[m]?=some o)(h':τ.sto[m]?=some o)(g:o.view? =some d)(e:τ.sto[d]?=Y.sto[d]?):aR (.ref m) Y τ=true:=
 Bool.and_eq_true_iff.mpr ⟨decide_eq_true (h'.trans h.symm),by rw[vG h O.view?,g];exact decide_eq_true e⟩
open Classical in
theorem tO{m:Nat}{o:O}{Y τ:St}(h:Y.sto[m]?=some o)(h':τ.sto[m]?=some o)(g:o.view? =none):aR (.ref m) Y τ=true:=
 Bool.and_eq_true_iff.mpr ⟨decide_eq_true (h'.trans h.symm),by rw[vG h O.view?,g]⟩
theorem fJ{α:Type}{xs:List α}{x:α}(h:jD xs=some x):xs=[x]:=by
 induction xs with
 |nil=>exact ns h
 |cons a r=>induction r with
  |nil=>cases h;rfl
  |cons _ _=>exact ns h
theorem pO{α:Type}{xs:List α}{x:α×α}(h:Ca xs=some x):xs=[x.1,x.2]:=by
 induction xs with
 |nil=>exact ns h
 |cons a r=>obtain⟨b,h1,h2⟩:=Option.map_eq_some_iff.mp (show(jD r).map (a,·)=some x from h);rw[fJ h1,<-h2]
theorem zH{α:Type}{xs:List α}{x:α×α×α}(h:zp xs=some x):xs=[x.1,x.2.1,x.2.2]:=by
 induction xs with
 |nil=>exact ns h
 |cons a r=>obtain⟨b,h1,h2⟩:=Option.map_eq_some_iff.mp (show(Ca r).map (a,·)=some x from h);rw[pO h1,<-h2]
theorem yP{α:Type}{c:Prop}[Decidable c]{o:Option α}{a:α}(h:(if c then o else none)=some a):c/\o=some a:=by
 by_cases q:c
 ·rw[if_pos q]at h;exact⟨q,h⟩
 ·rw[if_neg q]at h;exact ns h
theorem gY{e:Expr}{x:Str}(h:gH e=some x):∃p,e=.Name x p:=by
 unfold gH at h;have k:=jl e;generalize view e=w at h k;induction w with
 |name y=>cases h;exact k
 |_=>exact ns h
theorem tQ{e:Expr}{r:List Expr}{l:List Str}(h:iQ (e::r)=some l):∃x p xs,e=.Name x p/\l=x::xs/\iQ r=some xs:=by
 obtain⟨y,h1,h2⟩:=Option.bind_eq_some_iff.mp (show(gH e).bind (λ x=>(iQ r).map (x::·))=some l from h);obtain⟨ys,h3,h4⟩:=Option.map_eq_some_iff.mp h2;obtain⟨p,h5⟩:=gY h1;exact⟨y,p,ys,h5,h4.symm,h3⟩
theorem gZ{x:Str}{xs:List Str}{es:List Expr}(h:iQ es=some (x::xs)):∃p r,es=.Name x p::r/\iQ r=some xs:=by
 induction es with
 |nil=>cases h
 |cons e r=>
  obtain⟨y,p,ys,h5,h6,h7⟩:=tQ h;cases h6;exact⟨p,r,by rw[h5],h7⟩
theorem pP{es:List Expr}(h:iQ es=some []):es=[]:=by
 induction es with
 |nil=>rfl
 |cons e r=>obtain⟨_,_,_,_,h,_⟩:=tQ h;exact nomatch h
theorem Wt{e o i:Expr}(h:Wj e=some (o,i)):∃p,e=.Subscript o i p/\tM i=false:=by
 unfold Wj at h;have k:=jl e;generalize view e=w at h k;induction w with
 |sub o' i'=>
  have h:(if tM i'=true then none else some (o',i'))=some (o,i):=h;induction hs:tM i' with
  |true=>rw[hs]at h;exact ns h
  |false=>rw[hs]at h;cases h;exact k.imp λ p q=>⟨q,hs⟩
 |_=>exact ns h
theorem Wu{e:Expr}{es:List Expr}(h:Wk e=some es):∃c p,e=.Tuple es c p:=by
 unfold Wk at h;have k:=jl e;generalize view e=w at h k;induction w with
 |tup es'=>cases h;exact k
 |_=>exact ns h
theorem Je{gs:List Comprehension}{x:Str}{it:Expr}{ifs:List Expr}(h:ac6 gs=some (x,it,ifs)):∃p,gs=[⟨.Name x p,it,ifs,0⟩]:=by
 obtain⟨⟨t,a,b,c⟩,h1,h2⟩:=Option.bind_eq_some_iff.mp h;obtain⟨h3,h4⟩:=yP h2;obtain⟨y,h5,h6⟩:=Option.map_eq_some_iff.mp h4;obtain⟨p,h7⟩:=gY h5;cases h6;exact⟨p,(fJ h1).trans (by rw[<-h7,<-h3])⟩
theorem RK{e:Expr}(h:Mp e=true):∃f a k p,e=.Call f a k p:=by
 unfold Mp at h;have k:=jl e;generalize view e=w at h k;induction w with
 |call f a ks=>exact⟨f,a,ks,k⟩
 |_=>exact jz h
theorem Wv{w:EV}{x:Str}{args:List Expr}{e:Expr}(h:w.call2=some (x,args))(k:w.Is e):∃q p,e=.Call (.Name x q) args [] p/\args.length=2:=by
 induction w with
 |call f a ks=>
  obtain⟨hc,h⟩:=yP (show(if(ks.isEmpty&&a.length==2)=true then(gH f).map λ x=>(x,a)else none)=some (x,args)from h);obtain⟨y,h1,h2⟩:=Option.map_eq_some_iff.mp h;obtain⟨q,h3⟩:=gY h1;cases h2;obtain⟨p,rfl⟩:=k;obtain⟨h4,h5⟩:=Bool.and_eq_true_iff.mp hc;exact⟨q,p,by rw[h3,List.isEmpty_iff.mp h4],eq_of_beq h5⟩
 |_=>exact ns h
theorem Jf{e:Option Expr}{x:Str}{args:List Expr}(h:Jd e=some (x,args)):∃q p,e=some (.Call (.Name x q) args [] p)/\args.length=2:=by
 induction e with
 |none=>exact ns h
 |some e=>obtain⟨q,p,h1,hl⟩:=Wv h (jl e);exact⟨q,p,congrArg some h1,hl⟩
theorem Gl{hs:List ExceptHandler}{x:Str}{hb:List Stmt}(h:lX hs=some (x,hb)):∃q p,hs=[.ExceptHandler (some (.Name x q)) none hb p]/\hb≠[]:=by
 obtain⟨⟨t,nm,hb',p⟩,h1,h2⟩:=Option.bind_eq_some_iff.mp h;obtain⟨t,rfl,h3⟩:=Option.bind_eq_some_iff.mp (show t.bind (λ t=>if(nm.isSome||hb'.isEmpty)=true then none else(gH t).map λ x=>(x,hb'))=some (x,hb)from h2);clear h2;induction hc:nm.isSome||hb'.isEmpty with
 |true=>rw[hc]at h3;exact ns h3
 |false=>
  rw[hc]at h3;obtain⟨y,h5,h6⟩:=Option.map_eq_some_iff.mp (show(gH t).map (λ x=>(x,hb'))=some (x,hb)from h3);obtain⟨q,h7⟩:=gY h5;cases h6;obtain⟨h8,h9⟩:=Bool.or_eq_false_iff.mp hc;exact⟨q,p,(fJ h1).trans (by rw[<-h7,Option.isSome_eq_false_iff.mp h8|>Option.isNone_iff_eq_none.mp]),λ q=>by rw[q]at h9;exact jz h9.symm⟩
theorem zJ{Y:St}{k:Nat}{ys:List V}(e:Y.sto[k]?=some (.list ys)):bN (.ref k) Y=if small ys.length=true then some ys else none:=bB e
theorem Gm{Y:St}{k:Nat}{ys:List V}(e:Y.sto[k]?=some (.tup ys)):bN (.ref k) Y=if small ys.length=true then some ys else none:=bB e
theorem zK{Y:St}{k ep:Nat}{kvs:List (Str×V)}(e:Y.sto[k]?=some (.dict kvs ep)):bN (.ref k) Y=if small kvs.length=true then some (kvs.map λ p=>.str p.1)else none:=bB e
theorem Gn{Y:St}{k:Nat}{n:Int}(e:Y.sto[k]?=some (.rng n)):bN (.ref k) Y=some ((List.range n.toNat).map λ k:Nat=>V.int (k:Int)):=bB e
theorem zL{Y:St}{k d ep:Nat}{kvs:List (Str×V)}(e:Y.sto[k]?=some (.view d))(e':Y.sto[d]?=some (.dict kvs ep)):bN (.ref k) Y=if small kvs.length=true then some (kvs.map (·.2))else none:=(bB e).trans (bB (lV e'))
end
end Mine
namespace Mine
open PySem
def kW(a b:Str):Bool:=!iW b a
theorem g8{a b:Str}:kW a b=true↔a.cps.toList<=b.cps.toList:=by
 unfold kW iW;rw[Bool.not_eq_true',decide_eq_false_iff_not,List.not_lt]
theorem xQ(a b c:Str)(h1:kW a b=true)(h2:kW b c=true):kW a c=true:=
 g8.mpr (List.le_trans (g8.mp h1) (g8.mp h2))
theorem Jg(a b:Str):(kW a b||kW b a)=true:=by
 rw[Bool.or_eq_true,g8,g8];exact List.le_total _ _
theorem zM{a b:Str}(h1:kW a b=true)(h2:kW b a=true):a=b:=by
 have:=List.le_antisymm (g8.mp h1) (g8.mp h2);exact congrArg (λ z=>Str.mk (Array.mk z)) this
theorem tR(xs:List Str):(cC xs).Pairwise λ a b=>kW a b=true:=List.pairwise_mergeSort xQ Jg xs
theorem fO(xs:List Str):(cC xs).Perm xs:=List.mergeSort_perm ..
theorem tU{xs ys:List Str}(hp:ys.Perm xs)(hs:ys.Pairwise λ a b=>kW a b=true):ys=cC xs:=
 List.Perm.eq_of_pairwise (λ _ _ _ _ h1 h2=>zM h1 h2) hs (tR xs) (hp.trans (fO xs).symm)
end Mine
namespace Mine
open PySem PySem.W PyProof.Rows
inductive aU{α β:Type}(R:α->β->Prop):List α->List β->Prop
 |nil:aU R [] []
 |cons {a:α}{b:β}{as:List α}{bs:List β}:R a b->aU R as bs->aU R (a::as) (b::bs)
namespace aU
variable {α β:Type}{R S:α->β->Prop}
theorem length{as:List α}{bs:List β}(h:aU R as bs):as.length=bs.length:=by induction h<;>simp_all
theorem mono(hRS:∀a b,R a b->S a b){as:List α}{bs:List β}(h:aU R as bs):aU S as bs:=by
 induction h with
 |nil=>exact .nil
 |cons h _ ih=>exact .cons (hRS _ _ h) ih
theorem append{as as':List α}{bs bs':List β}(h:aU R as bs)(h':aU R as' bs'):aU R (as++as') (bs++bs'):=by
 induction h with
 |nil=>exact h'
 |cons h _ ih=>exact .cons h ih
theorem get{as:List α}{bs:List β}(h:aU R as bs):∀{i:Nat}{a:α},as[i]?=some a->∃b,bs[i]?=some b/\R a b:=by
 induction h with
 |nil=>intro i a e;contradiction
 |cons h _ ih=>
  intro i a e;induction i with
  |zero=>simp at e;subst e;exact⟨_,rfl,h⟩
  |succ i=>simp at e ⊢;exact ih e
theorem getR{as:List α}{bs:List β}(h:aU R as bs):∀{i:Nat}{b:β},bs[i]?=some b->∃a,as[i]?=some a/\R a b:=by
 induction h with
 |nil=>intro i a e;contradiction
 |cons h _ ih=>
  intro i a e;induction i with
  |zero=>simp at e;subst e;exact⟨_,rfl,h⟩
  |succ i=>simp at e ⊢;exact ih e
theorem take{as:List α}{bs:List β}(h:aU R as bs)(n:Nat):aU R (as.take n) (bs.take n):=by
 induction h generalizing n with
 |nil=>simp;exact .nil
 |cons h _ ih=>induction n with
  |zero=>exact .nil
  |succ n=>exact .cons h (ih n)
theorem drop{as:List α}{bs:List β}(h:aU R as bs)(n:Nat):aU R (as.drop n) (bs.drop n):=by
 induction h generalizing n with
 |nil=>simp;exact .nil
 |cons h t ih=>induction n with
  |zero=>exact .cons h t
  |succ n=>exact ih n
theorem dropLast{as:List α}{bs:List β}(h:aU R as bs):aU R as.dropLast bs.dropLast:=by
 rw[List.dropLast_eq_take,List.dropLast_eq_take,h.length];exact h.take _
theorem replicate{a:α}{b:β}(h:R a b)(n:Nat):aU R (List.replicate n a) (List.replicate n b):=by
 induction n with
 |zero=>exact .nil
 |succ n ih=>exact .cons h ih
theorem set{as:List α}{bs:List β}(h:aU R as bs){i:Nat}{a:α}{b:β}(hab:R a b):aU R (as.set i a) (bs.set i b):=by
 induction h generalizing i with
 |nil=>exact .nil
 |cons h t ih=>induction i with
  |zero=>exact .cons hab t
  |succ i=>exact .cons h (ih)
end aU
theorem aU.nil_inv{α β:Type}{R:α->β->Prop}{bs:List β}(h:aU R [] bs):bs=[]:=by cases h;rfl
theorem aU.cons_inv{α β:Type}{R:α->β->Prop}{a:α}{as:List α}{bs:List β}(h:aU R (a::as) bs):∃b bs',bs=b::bs'/\R a b/\aU R as bs':=by
 cases h with|cons h1 h2=>exact⟨_,_,rfl,h1,h2⟩
theorem aU.two{α β:Type}{R:α->β->Prop}{a b:α}{bs:List β}(h:aU R [a,b] bs):∃c d,bs=[c,d]/\R a c/\R b d:=by
 obtain⟨c,_,e,h1,h⟩:=h.cons_inv;obtain⟨d,_,e2,h2,h⟩:=h.cons_inv;exact⟨c,d,by rw[e,e2,h.nil_inv],h1,h2⟩
theorem aU.three{α β:Type}{R:α->β->Prop}{a b c:α}{bs:List β}(h:aU R [a,b,c] bs):∃d e f,bs=[d,e,f]/\R a d/\R b e/\R c f:=by
 obtain⟨d,_,e,h1,h⟩:=h.cons_inv;obtain⟨x,y,e2,h2,h3⟩:=h.two;exact⟨d,x,y,by rw[e,e2],h1,h2,h3⟩
theorem vN{α:Type}{cs:Array α}{l:List α}(h:cs.toList=l):cs=l.toArray:=by subst h;rfl
noncomputable def VR(ρ:List Addr):V->Value->Prop
 |.none,c=>c=.none
 |.bool b,c=>c=.bool b
 |.int i,c=>∃t,c=.int i t
 |.str s,c=>∃t,c=.str s t
 |.ref n,c=>∃a,ρ[n]?=some a/\c=.ref a
 |.fn a,c=>c=.ref a
 |.bi b,c=>c=b.val
theorem aH{α:Type}{l l':List α}{i:Nat}{a:α}(h:l[i]?=some a):(l++l')[i]?=some a:=by
 obtain⟨hl,_⟩:=List.getElem?_eq_some_iff.mp h;rw[List.getElem?_append_left hl];exact h
theorem VR.mono{ρ ρ':List Addr}{v:V}{c:Value}(h:VR ρ v c):VR (ρ++ρ') v c:=by
 induction v<;>first|exact h|(obtain⟨a,h1,h2⟩:=h;exact⟨a,aH h1,h2⟩)
noncomputable def Di(ρ:List Addr)(p:Str×V)(q:Str×Value):Prop:=p.1=q.1/\VR ρ p.2 q.2
theorem Di.mono{ρ ρ':List Addr}{p:Str×V}{q:Str×Value}(h:Di ρ p q):Di (ρ++ρ') p q:=⟨h.1,h.2.mono⟩
noncomputable def zN(ρ:List Addr):Option V->Option Value->Prop
 |none,c=>c=none
 |some v,c=>∃x,c=some x/\VR ρ v x
theorem zN.mono{ρ ρ':List Addr}{v:Option V}{c:Option Value}(h:zN ρ v c):zN (ρ++ρ') v c:=by
 induction v with
 |none=>exact h
 |some v=>obtain⟨x,h1,h2⟩:=h;exact⟨x,h1,h2.mono⟩
inductive agv(prog:Program)(w:World)(ρ:List Addr)(kvs:List (Str×V))(ep:Nat)(co:Obj):Prop
 |mk (es:Array DictEntry) (ckvs:List (Str×Value)) (e:co={cls:=.type "dict",dict:=none,data:=.dict es ep,slots:=#[]}) (hk:KeysOf (strKind prog w) es) (hp:Pairs (strKind prog w) es.toList ckvs) (hn:(ckvs.map (·.1)).Nodup) (hv:aU (Di ρ) kvs ckvs)
theorem Jh{prog:Program}{w:World}{A:Around}{E:Value->Shared->Prop}{s:Shared}{b:Bool}{Q:Int->Shared->Prop}(h:Q (hashInt (if b then 1 else 0)) {s with toks:=s.toks+1}):
  wpAny (model prog w) A (pyHash (.bool b)) Q E s:=by
 have hT:s.TypeIs (.bool b) "bool":=rfl;have hr:=rawHash_range (if b then 1 else 0);refine wpAny_bind ?_;rw[cRoomFor];refine wpAny_pure ?_;show wpAny _ _ (callSpecialIfBoundUnlessNone? (.bool b) "__hash__" _ >>= _) Q E s;refine wpAny_bind (wpAny_callSpecialIfBoundUnlessNone?_slot hT F.slot_bool_hash
  (wpAny_call_entry F.slot_bool_hash hT F.entry_int_hash
   (show wpAny _ _ (do ret (<-mkInt (rawHash (if b then 1 else 0)))) _ _ s from wpAny_ret_mkInt ?_) (args_int_hash _)))
 show wpAny _ _ (if(decide (-(2:Int) ^ 63<=rawHash (if b then 1 else 0))&&decide (rawHash (if b then 1 else 0) < 2 ^ 63))=true then _ else _) Q E _;rw[if_pos (by rw[decide_eq_true hr.1,decide_eq_true hr.2];rfl)];exact wpAny_pure h
theorem Ji{prog:Program}{w:World}{A:Around}{E:Value->Shared->Prop}{s:Shared}{a b:Bool}{Q:Bool->Shared->Prop}(h:Q (decide (a=b)) s):
  wpAny (model prog w) A (eqBool (.bool a) (.bool b)) Q E s:=
 SeqAt.EqAt.bool_bool a b prog w E Q (by induction a<;>induction b<;>exact h)
noncomputable def agw(w:World):Bool:=!w.params.followText "set-order"
noncomputable def Ww(led:Bool):List Bool->Option Data
 |[]=>some (.set #[] 0 (.fresh 0 0 led))
 |[b]=>some (.set #[(hashInt (if b then 1 else 0),.bool b)] 1 (layNew (.fresh 0 0 led) #[] (hashInt (if b then 1 else 0)) (.bool b)).2.1)
 |_=>none
inductive agx(ρ:List Addr)(xs:List V)(co:Obj):Prop
 |mk (cs:Array Value) (n:Nat) (e:co={cls:=.type "list",dict:=none,data:=.seq cs n,slots:=#[]}) (h:aU (VR ρ) xs cs.toList)
inductive aii(ρ:List Addr)(xs:List V)(co:Obj):Prop
 |mk (cs:Array Value) (n:Fin 1) (e:co={cls:=.type "tuple",dict:=none,data:=.seq cs n.val,slots:=#[]}) (h:aU (VR ρ) xs cs.toList)
inductive agy(ρ:List Addr)(d:Nat)(fs:List (Option V))(co:Obj):Prop
 |mk (hl:fs.length=3) (dx:Addr) (sl:Array (Option Value)) (hd:ρ[d]?=some dx) (e:co={cls:=.ref 40,dict:=some dx,data:=.plain,slots:=sl}) (hs:∀(i:Nat) v,fs[i]?=some v->zN ρ v (sl[i]?).join)
inductive agz(ρ:List Addr)(k i:Nat)(co:Obj):Prop
 |mk (ita:Addr) (old:Value) (hk:ρ[k]?=some ita) (e:co={cls:=.type "enumerate",dict:=none,data:=.fields #[.none,.bool false,.ref ita,rawInt i,.none,old],slots:=#[]})
inductive aef(ρ:List Addr)(l i:Nat)(co:Obj):Prop
 |mk (la:Addr) (hl:ρ[l]?=some la) (h1:co.cls=.type "list_iterator") (h2:co.dict=none) (h3:co.data=.fields #[.ref la,.int i 0])
inductive aij(ρ:List Addr)(l i:Nat)(co:Obj):Prop
 |mk (la:Addr) (hl:ρ[l]?=some la) (h1:co.cls=.type "list_iterator") (h3:co.data=.fields #[.ref la,.int i 0])
noncomputable def OR(prog:Program)(w:World)(ρ:List Addr):O->Obj->Prop
 |.list xs,co=>agx ρ xs co
 |.tup xs,co=>aii ρ xs co
 |.dict kvs ep,co=>agv prog w ρ kvs ep co
 |.set xs,co=>co.SetObjOf (strKind prog w) (λ k=>xs.contains k) xs.length
 |.bset bs,co=>∃d,Ww (agw w) bs=some d/\co={cls:=.type "set",dict:=none,data:=d,slots:=#[]}
 |.inst d,co=>∃dx,ρ[d]?=some dx/\co=instObj 137 dx
 |.node d fs,co=>agy ρ d fs co
 |.cell v,co=>∃cv:Option Value,co.data=.cell cv/\zN ρ v cv
 |.liter l i,co=>aef ρ l i co
 |.eit l i,co=>aij ρ l i co
 |.bnext i,co=>∃ita,ρ[i]?=some ita/\co={cls:=.type "method-wrapper",dict:=none,data:=.fields #[.builtin "list_iterator.__next__",.ref ita],slots:=#[]}
 |.rng n,co=>∃t u v,co={cls:=.type "range",dict:=none,data:=.fields #[.int 0 t,.int n u,.int 1 v],slots:=#[]}/\0<=n/\n<=1000
 |.enum k i,co=>agz ρ k i co
 |.mapo f k,co=>∃ta,ρ[k]?=some ta/\co={cls:=.type "map",dict:=none,data:=.fields #[.ref ta,.ref f],slots:=#[]}
 |.view d,co=>∃dx,ρ[d]?=some dx/\co.cls=.type "dict_values"/\co.data=.fields #[.ref dx]/\co.dict=none
 |.any,_=>True
theorem OR.mono{prog:Program}{w:World}{ρ ρ':List Addr}{o:O}{co:Obj}(h:OR prog w ρ o co):OR prog w (ρ++ρ') o co:=by
 induction o with
 |list xs=>obtain⟨cs,n,h1,h2⟩:=h;exact⟨cs,n,h1,h2.mono λ _ _=>VR.mono⟩
 |tup xs=>obtain⟨cs,n,h1,h2⟩:=h;exact⟨cs,n,h1,h2.mono λ _ _=>VR.mono⟩
 |dict kvs ep=>obtain⟨es,ckvs,h1,h2,h3,h4,h5⟩:=h;exact⟨es,ckvs,h1,h2,h3,h4,h5.mono λ _ _=>Di.mono⟩
 |inst d=>obtain⟨dx,h1,h2⟩:=h;exact⟨dx,aH h1,h2⟩
 |node d fs=>obtain⟨h0,dx,sl,h2,h1,h3⟩:=h;exact⟨h0,dx,sl,aH h2,h1,λ i v e=>(h3 i v e).mono⟩
 |cell v=>obtain⟨cv,h1,h2⟩:=h;exact⟨cv,h1,h2.mono⟩
 |liter l i=>obtain⟨la,h1,h2,h3,h4⟩:=h;exact⟨la,aH h1,h2,h3,h4⟩
 |view d=>obtain⟨la,h1,h2⟩:=h;exact⟨la,aH h1,h2⟩
 |eit l i=>obtain⟨la,h1,h2,h3⟩:=h;exact⟨la,aH h1,h2,h3⟩
 |bnext i=>obtain⟨la,h1,h2⟩:=h;exact⟨la,aH h1,h2⟩
 |mapo f k=>obtain⟨la,h1,h2⟩:=h;exact⟨la,aH h1,h2⟩
 |enum k i=>obtain⟨la,old,h1,h2⟩:=h;exact⟨la,old,aH h1,h2⟩
 |any=>trivial
 |_=>exact h
noncomputable def pK(ρ:List Addr)(loc:List (Str×Option V))(m:Str->Option Value):Prop:=∀x v,loc.lookup x=some (some v)->∃c,m x=some c/\VR ρ v c
theorem pK.mono{ρ ρ':List Addr}{loc:List (Str×Option V)}{m:Str->Option Value}(h:pK ρ loc m):pK (ρ++ρ') loc m:=λ x v e=>let ⟨c,a,b⟩:=h x v e;⟨c,a,b.mono⟩
theorem Ce(loc:List (Str×Option V))(x y:Str)(v:V):(aZ loc x v).lookup y=if y=x then some (some v)else loc.lookup y:=by
 induction loc with
 |nil=>
  by_cases h:y=x
  ·subst h;simp[aZ]
  ·have:(y==x)=false:=by simpa using h
   simp[aZ,List.lookup,h,this]
 |cons p r ih=>
  obtain⟨z,o⟩:=p;by_cases hz:z=x
  ·clear ih;subst hz;simp only[aZ,beq_self_eq_true,if_true];by_cases h:y=z
   ·subst h;simp
   ·have:(y==z)=false:=by simpa using h
    simp[List.lookup,this,h]
  ·have hz':(z==x)=false:=by simpa using hz
   simp only[aZ,hz',Bool.false_eq_true,if_false,List.lookup];clear hz';by_cases h:y=z
   ·subst h;simp[hz]
   ·have:(y==z)=false:=by simpa using h
    rw[this];exact ih
theorem pK.set{ρ:List Addr}{loc:List (Str×Option V)}{m:Str->Option Value}(h:pK ρ loc m){x:Str}{v:V}{c:Value}(hv:VR ρ v c):
  pK ρ (aZ loc x v) λ y=>if y=x then some c else m y:=by
 intro y u e;rw[Ce]at e;by_cases hy:y=x
 ·rw[if_pos hy]at e;cases e;exact⟨c,if_pos hy,hv⟩
 ·rw[if_neg hy]at e;obtain⟨d,h1,h2⟩:=h y u e;exact⟨d,(if_neg hy).trans h1,h2⟩
noncomputable abbrev yQ:=List (Env×(Str->Option Value))
structure Wx(h₀:Heap)(L:Addr)(ρ:List Addr)(h:Heap)(p:Env×(Str->Option Value))(a:Addr):Prop where
 frame:p.1.locals=a
 ns:h.Ns a p.2
 new:h₀.get? a=none
 notL:a≠L
 notIn:a∉ρ
 fn:p.1.scope.kind=.function
inductive ac9(h:Heap)(L:Addr)(ρ:List Addr)(loc:List (Str×Option V)):Prop
 |mk (m:Str->Option Value) (hn:h.Ns L m) (hl:pK ρ loc m)
structure Rep(prog:Program)(w:World)(h₀:Heap)(FS:yQ)(L:Addr)(ρ:List Addr)(h:Heap)(Y:St):Prop where
 keep:∀b o,h₀.get? b=some o->h.get? b=some o
 loc:ac9 h L ρ Y.loc
 newL:h₀.get? L=none
 len:ρ.length=Y.sto.length
 nodup:ρ.Nodup
 notL:L∉ρ
 fresh:∀(i:Nat) a,k0<=i->ρ[i]?=some a->h₀.get? a=none
 objs:∀(i:Nat) o a,Y.sto[i]?=some o->ρ[i]?=some a->∃co,h.get? a=some co/\OR prog w ρ o co
 callers:∀p∈FS,∃a,Wx h₀ L ρ h p a
 sysIn:(h₀.get? sysModules).isSome=true
 sys:∀a∈ρ,(a==sysModules)=false
 fsnd:(FS.map λ p=>p.1.locals).Nodup
section
variable {prog:Program}{w:World}{h₀ h h':Heap}{FS:yQ}{L:Addr}{ρ:List Addr}{Y:St}
inductive aeg(prog:Program)(w:World)(h:Heap)(ρ:List Addr)(i:Nat)(o:O):Prop
 |mk (a:Addr) (co:Obj) (h1:ρ[i]?=some a) (h2:h.get? a=some co) (h3:OR prog w ρ o co)
theorem Rep.addr(R:Rep prog w h₀ FS L ρ h Y){i:Nat}{o:O}(e:Y.sto[i]?=some o):aeg prog w h ρ i o:=by
 obtain⟨hl,_⟩:=List.getElem?_eq_some_iff.mp e;have hl':i < ρ.length:=by rw[R.len];exact hl
 obtain⟨co,h1,h2⟩:=R.objs i o _ e (List.getElem?_eq_getElem hl');exact⟨_,co,List.getElem?_eq_getElem hl',h1,h2⟩
theorem Rep.lt(R:Rep prog w h₀ FS L ρ h Y){a:Addr}(ha:a∈ρ):a < h.objs.size:=by
 obtain⟨i,hi,rfl⟩:=List.getElem_of_mem ha;have hi':i < Y.sto.length:=by rw[<-R.len];exact hi
 obtain⟨co,h1,_⟩:=R.objs i _ _ (List.getElem?_eq_getElem hi') (List.getElem?_eq_getElem hi);exact Heap.lt_size h1
theorem Rep.ltL(R:Rep prog w h₀ FS L ρ h Y):L < h.objs.size:=let ⟨_,a,_⟩:=R.loc;a.lt
theorem Rep.junk(R:Rep prog w h₀ FS L ρ h Y)(hk:∀b o,h.get? b=some o->h'.get? b=some o):Rep prog w h₀ FS L ρ h' Y where
 keep:=λ b o e=>hk _ _ (R.keep b o e)
 loc:=let ⟨m,a,b⟩:=R.loc;⟨m,a.keeps hk,b⟩
 newL:=R.newL
 len:=R.len
 nodup:=R.nodup
 notL:=R.notL
 fresh:=R.fresh
 objs:=λ i o a e e'=>let ⟨co,x,y⟩:=R.objs i o a e e';⟨co,hk _ _ x,y⟩
 callers:=λ p hp=>let ⟨a,x⟩:=R.callers p hp;⟨a,x.frame,x.ns.keeps hk,x.new,x.notL,x.notIn,x.fn⟩
 sysIn:=R.sysIn
 sys:=R.sys
 fsnd:=R.fsnd
theorem Rep.size(R:Rep prog w h₀ FS L ρ h Y){a:Addr}(e:h.get? a=none):h₀.get? a=none:=by
 induction q:h₀.get? a with
 |none=>rfl
 |some o=>have:=R.keep a o q;rw[e]at this;cases this
theorem Rep.new(R:Rep prog w h₀ FS L ρ h Y)(hk:∀b o,h.get? b=some o->h'.get? b=some o){a:Addr}{o:O}{co:Obj}(ha:h.get? a=none)(hc:h'.get? a=some co)(ho:OR prog w (ρ++[a]) o co):
  Rep prog w h₀ FS L (ρ++[a]) h' {Y with sto:=Y.sto++[o]}:=by
 have J:=R.junk hk;have an:a∉ρ:=λ q=>by
  obtain⟨i,hi,e⟩:=List.getElem_of_mem q;have hi':i < Y.sto.length:=by rw[<-R.len];exact hi
  obtain⟨co',h1,_⟩:=R.objs i _ _ (List.getElem?_eq_getElem hi') (List.getElem?_eq_getElem hi);rw[e,ha]at h1;contradiction
 have aL:a≠L:=λ q=>by
  obtain⟨m,⟨_,_,_,x,_⟩,_⟩:=R.loc;rw[<-q,ha]at x;contradiction
 refine⟨J.keep,?_,R.newL,by simp[R.len],?_,?_,?_,?_,?_,R.sysIn,?_,R.fsnd⟩
 ·obtain⟨m,x,y⟩:=J.loc;exact⟨m,x,y.mono⟩
 ·rw[List.nodup_append];refine⟨R.nodup,by simp,λ x hx y hy=>?_⟩;simp only[List.mem_singleton]at hy;clear ha hc ho aL;subst hy;exact λ q=>an (q▸hx)
 ·simp only[List.mem_append,List.mem_singleton,not_or];exact⟨R.notL,λ q=>aL q.symm⟩
 ·intro i b hi e;by_cases hl:i < ρ.length
  ·rw[List.getElem?_append_left hl]at e;exact R.fresh i b hi e
  ·rw[List.getElem?_append_right (Nat.le_of_not_lt hl)]at e;have:b=a:=by
    induction q:i - ρ.length with
    |zero=>rw[q]at e;simpa using e.symm
    |succ n=>rw[q]at e;contradiction
   rw[this];exact R.size ha
 ·intro i o' b e e';by_cases hl:i < ρ.length
  ·rw[List.getElem?_append_left hl]at e';rw[List.getElem?_append_left (by rw[<-R.len];exact hl)]at e;obtain⟨co',x,y⟩:=J.objs i o' b e e';exact⟨co',x,y.mono⟩
  ·rw[List.getElem?_append_right (Nat.le_of_not_lt hl)]at e';rw[List.getElem?_append_right (by rw[<-R.len];exact Nat.le_of_not_lt hl),<-R.len]at e;induction q:i - ρ.length with
   |zero=>
    rw[q]at e e';simp at e e';subst e e';exact⟨co,hc,ho⟩
   |succ n=>rw[q]at e;contradiction
 ·intro p hp;obtain⟨b,x⟩:=J.callers p hp;refine⟨b,x.frame,x.ns,x.new,x.notL,?_,x.fn⟩;simp only[List.mem_append,List.mem_singleton,not_or];refine⟨x.notIn,λ q=>?_⟩;obtain⟨b',x'⟩:=R.callers p hp;obtain rfl:b=b':=x.frame.symm.trans x'.frame;obtain⟨_,_,_,y,_⟩:=x'.ns;rw[q,ha]at y;contradiction
 ·intro b hb;rcases List.mem_append.mp hb with hb|hb
  ·exact R.sys b hb
  ·rw[List.mem_singleton.mp hb,beq_eq_false_iff_ne];intro q;have:=R.size ha;rw[q]at this;have z:=R.sysIn;rw[this]at z;contradiction
theorem Rep.push(R:Rep prog w h₀ FS L ρ h Y){o:O}{co:Obj}(hf:co.isFreed=false)(ho:OR prog w (ρ++[h.objs.size]) o co):
  Rep prog w h₀ FS L (ρ++[h.objs.size]) (h.push co) {Y with sto:=Y.sto++[o]}:=
 R.new (λ _ _ e=>Heap.get?_push_of_some _ e) (Heap.get?_none_of_le (Nat.le_refl _)) (Heap.get?_push_size _ hf) ho
theorem Rep.upd(R:Rep prog w h₀ FS L ρ h Y){i:Nat}{a:Addr}{o:O}{co:Obj}(hi:k0<=i)(ha:ρ[i]?=some a)(hs:Heap.SameBut a h h')(hc:h'.get? a=some co)(ho:OR prog w ρ o co):
  Rep prog w h₀ FS L ρ h' (Y.upd i o):=by
 have hm:a∈ρ:=List.mem_of_getElem? ha;refine⟨λ b o e=>(hs.2 b ((λ b o e q=>by rw[q,(R.fresh i a hi ha)]at e;contradiction) b o e)).trans (R.keep b o e),?_,R.newL,by simp[St.upd,R.len],R.nodup,R.notL,R.fresh,?_,?_,R.sysIn,R.sys,R.fsnd⟩
 ·obtain⟨m,x,y⟩:=R.loc;exact⟨m,x.sameBut hs (λ q=>R.notL (q▸hm)),y⟩
 ·intro j o' b e e';clear hi;by_cases hj:j=i
  ·subst hj;obtain rfl:a=b:=Option.some.inj (ha.symm.trans e');obtain⟨hl,_⟩:=List.getElem?_eq_some_iff.mp e';rw[St.upd,List.getElem?_set_self (by rw[<-R.len];exact hl)]at e;cases e;exact⟨co,hc,ho⟩
  ·rw[St.upd,List.getElem?_set_ne (λ q=>hj q.symm)]at e;obtain⟨co',x,y⟩:=R.objs j o' b e e';refine⟨co',(hs.2 b λ q=>hj ?_).trans x,y⟩;clear hs hc hm;subst q;exact(List.getElem?_inj (List.getElem?_eq_some_iff.mp e').1 R.nodup).mp (e'.trans ha.symm)
 ·intro p hp;obtain⟨b,x⟩:=R.callers p hp;exact⟨b,x.frame,x.ns.sameBut hs (λ q=>x.notIn (q▸hm)),x.new,x.notL,x.notIn,x.fn⟩
theorem Rep.setLoc(R:Rep prog w h₀ FS L ρ h Y){m':Str->Option Value}{l:List (Str×Option V)}(hn:h'.Ns L m')(hs:Heap.SameBut L h h')(hl:pK ρ l m'):
  Rep prog w h₀ FS L ρ h' {Y with loc:=l}:=by
 refine⟨λ b o e=>(hs.2 b ((λ b o e q=>by rw[q,R.newL]at e;contradiction) b o e)).trans (R.keep b o e),⟨m',hn,hl⟩,R.newL,R.len,R.nodup,R.notL,R.fresh,?_,?_,R.sysIn,R.sys,R.fsnd⟩
 ·intro j o b e e';obtain⟨co,x,y⟩:=R.objs j o b e e';exact⟨co,(hs.2 b λ q=>R.notL (q▸List.mem_of_getElem? e')).trans x,y⟩
 ·intro p hp;obtain⟨b,x⟩:=R.callers p hp;exact⟨b,x.frame,x.ns.sameBut hs x.notL,x.new,x.notL,x.notIn,x.fn⟩
end
end Mine
namespace Mine
open PySem PySem.W PySem.Calls PyProof.Rows
structure Cx where
 prog:Program
 w:World
 h₀:Heap
 FS:yQ
 L:Addr
 room:Nat
noncomputable def Cx.Rep(C:Cx)(ρ:List Addr)(h:Heap)(Y:St):Prop:=Mine.Rep C.prog C.w C.h₀ C.FS C.L ρ h Y
noncomputable def nC:yN->Value
 |.stop=>.type "StopIteration"
 |.cyc=>.ref 55
inductive Cx.XR(C:Cx)(x:yN)(ρ:List Addr)(Y:St)(e:Value)(h:Heap):Prop
 |mk (base:Heap) (a:Addr) (m:Str->Option Value) (he:e=.ref a) (hn:base.get? a=none) (hr:∀h',base.StaysIn h'->h'.Ns C.L m->(∀p∈C.FS,h'.Ns p.1.locals p.2)->C.Rep ρ h' Y)
  (bL:base.get? C.L=none) (bF:∀p∈C.FS,base.get? p.1.locals=none) (hb:base.StaysIn h) (nL:h.Ns C.L m) (nF:∀p∈C.FS,h.Ns p.1.locals p.2) (hl:pK ρ Y.loc m)
  (hc:(∃hp args,base.StaysIn hp/\hp.Ns C.L m/\(∀p∈C.FS,hp.Ns p.1.locals p.2)/\Heap.MadeExcOf hp h a (nC x) args)\/∃a0,h.TracedW base a (nC x) a0)
inductive Cx.Ret(C:Cx){α β:Type}(ρ:List Addr)(s:Shared)(r:ak α)(rel:List Addr->α->β->Prop)(b:β)(s':Shared):Prop
 |mk (a:α) (Y':St) (h':Heap) (tk:Nat) (ρ':List Addr) (er:r=.ok a Y') (es:s'={s with heap:=h',toks:=tk}) (R:C.Rep (ρ++ρ') h' Y') (x:rel (ρ++ρ') a b)
inductive Cx.Exn(C:Cx){α:Type}(ρ:List Addr)(s:Shared)(r:ak α)(e:Value)(s':Shared):Prop
 |mk (x:yN) (Y':St) (h':Heap) (tk:Nat) (ρ':List Addr) (er:r=.exc x Y') (es:s'={s with heap:=h',toks:=tk}) (X:C.XR x (ρ++ρ') Y' e h')
noncomputable def Cx.Snd(C:Cx)(A:Around){α β:Type}(t:Sem β)(ρ:List Addr)(r:ak α)(rel:List Addr->α->β->Prop)(s:Shared):Prop:=
 r≠.bad->wpAny (model C.prog C.w) A t (C.Ret ρ s r rel) (C.Exn ρ s r) s
section
variable {C:Cx}{A:Around}{α α' β β':Type}{t:Sem β}{ρ:List Addr}{r:ak α}{rel:List Addr->α->β->Prop}{rel':List Addr->α'->β'->Prop}{s:Shared}{Y:St}
theorem Cx.ret0{a:α}{b:β}{h':Heap}{tk:Nat}(R:C.Rep ρ h' Y)(x:rel ρ a b):C.Ret ρ s (.ok a Y) rel b {s with heap:=h',toks:=tk}:=
 ⟨a,Y,h',tk,[],rfl,rfl,by rw[List.append_nil];exact R,by rw[List.append_nil];exact x⟩
theorem Cx.ret1{a:α}{b:β}{h':Heap}{tk:Nat}{ρ':List Addr}(R:C.Rep (ρ++ρ') h' Y)(x:rel (ρ++ρ') a b):C.Ret ρ s (.ok a Y) rel b {s with heap:=h',toks:=tk}:=
 ⟨a,Y,h',tk,ρ',rfl,rfl,R,x⟩
theorem Cx.Snd.bad(h:r=.bad):C.Snd A t ρ r rel s:=λ q=>absurd h q
theorem Cx.Snd.of_bad:C.Snd A t ρ (.bad:ak α) rel s:=λ q=>absurd rfl q
theorem Cx.Snd.onS{γ:Type}{o:Option γ}{k:γ->ak α}(h:∀a,o=some a->C.Snd A t ρ (k a) rel s):C.Snd A t ρ (onS o k) rel s:=by
 induction o with
 |none=>exact .of_bad
 |some a=>exact h a rfl
theorem Cx.Snd.grd{b:Bool}(h:b=true->C.Snd A t ρ r rel s):C.Snd A t ρ (grd b r) rel s:=by
 induction b with
 |false=>exact .of_bad
 |true=>exact h rfl
theorem Cx.Snd.cond{c:Prop}[Decidable c](h:c->C.Snd A t ρ r rel s):C.Snd A t ρ (if c then r else .bad) rel s:=by
 by_cases q:c
 ·rw[if_pos q];exact h q
 ·rw[if_neg q];exact .of_bad
theorem Cx.Snd.onB{γ δ:Type}{o:Option γ}{k:γ->Option δ}{f:δ->ak α}(h:∀a,o=some a->C.Snd A t ρ (Mine.onS (k a) f) rel s):C.Snd A t ρ (Mine.onS (o.bind k) f) rel s:=by
 induction o with
 |none=>exact .of_bad
 |some a=>exact h a rfl
theorem Cx.Snd.onM{γ δ:Type}{o:Option γ}{k:γ->δ}{f:δ->ak α}(h:∀a,o=some a->C.Snd A t ρ (f (k a)) rel s):C.Snd A t ρ (Mine.onS (o.map k) f) rel s:=by
 induction o with
 |none=>exact .of_bad
 |some a=>exact h a rfl
theorem Cx.Snd.onM'{γ δ ε:Type}{o:Option γ}{k:γ->Option δ}{g:δ->ε}{f:ε->ak α}(h:∀a,o=some a->C.Snd A t ρ (Mine.onS (k a) λ x=>f (g x)) rel s):C.Snd A t ρ (Mine.onS ((o.bind k).map g) f) rel s:=by
 induction o with
 |none=>exact .of_bad
 |some a=>
  have h:=h a rfl;show C.Snd A t ρ (Mine.onS ((k a).map g) f) rel s;induction q:k a with
  |none=>exact .of_bad
  |some x=>rw[q]at h;exact h
theorem Cx.Snd.onI{δ:Type}{b:Bool}{x:Option δ}{f:δ->ak α}(h:b=true->C.Snd A t ρ (Mine.onS x f) rel s):C.Snd A t ρ (Mine.onS (if b=true then x else none) f) rel s:=by
 induction b with
 |false=>exact .of_bad
 |true=>exact h rfl
theorem Cx.Ret.up{ρ1:List Addr}{hH:Heap}{tk1:Nat}{b:β}{s':Shared}(h:C.Ret (ρ++ρ1) {s with heap:=hH,toks:=tk1} r rel b s'):C.Ret ρ s r rel b s':=by
 obtain⟨a,Y',h',tk,ρ',e,rfl,R,x⟩:=h;rw[List.append_assoc]at R x;exact⟨a,Y',h',tk,ρ1++ρ',e,rfl,R,x⟩
theorem Cx.Exn.up{ρ1:List Addr}{hH:Heap}{tk1:Nat}{e:Value}{s':Shared}(h:C.Exn (ρ++ρ1) {s with heap:=hH,toks:=tk1} r e s'):C.Exn ρ s r e s':=by
 obtain⟨x,Y',h',tk,ρ',e,rfl,X⟩:=h;rw[List.append_assoc]at X;exact⟨x,Y',h',tk,ρ1++ρ',e,rfl,X⟩
theorem Cx.Ret.same{hH:Heap}{tk1:Nat}{b:β}{s':Shared}(h:C.Ret ρ {s with heap:=hH,toks:=tk1} r rel b s'):C.Ret ρ s r rel b s':=
 let ⟨a,Y',h',tk,ρ',e,es,R,x⟩:=h;⟨a,Y',h',tk,ρ',e,es,R,x⟩
theorem Cx.Exn.same{hH:Heap}{tk1:Nat}{e:Value}{s':Shared}(h:C.Exn ρ {s with heap:=hH,toks:=tk1} r e s'):C.Exn ρ s r e s':=
 let ⟨x,Y',h',tk,ρ',e,es,X⟩:=h;⟨x,Y',h',tk,ρ',e,es,X⟩
theorem Cx.same{M:Model}{hH:Heap}{tk1:Nat}{sA:Shared}(h:wpAny M A t (C.Ret ρ {s with heap:=hH,toks:=tk1} r rel) (C.Exn ρ {s with heap:=hH,toks:=tk1} r) sA):wpAny M A t (C.Ret ρ s r rel) (C.Exn ρ s r) sA:=
 wpAny_mono h (λ _ _=>.same) λ _ _=>.same
theorem Cx.Snd.told{a:α}{Y':St}{Q:β->Shared->Prop}{E:Value->Shared->Prop}(h:C.Snd A t ρ r rel s)(e:r=.ok a Y')
  (k:∀b h' tk ρ',C.Rep (ρ++ρ') h' Y'->rel (ρ++ρ') a b->Q b {s with heap:=h',toks:=tk}):wpAny (model C.prog C.w) A t Q E s:=by
 subst e;refine wpAny_mono (h λ q=>by contradiction) ?_ ?_
 ·rintro b s' ⟨a,Y',h',tk,ρ',e,rfl,R,x⟩;obtain⟨rfl,rfl⟩:=ak.ok.inj e;exact k b h' tk ρ' R x
 ·rintro e s' ⟨x,Y',h',tk,ρ',e1,_⟩;contradiction
theorem Cx.Snd.thrown{Y':St}{Q:β->Shared->Prop}{E:Value->Shared->Prop}(h:C.Snd A t ρ r rel s){x:yN}(e:r=.exc x Y')
  (k:∀e h' tk ρ',C.XR x (ρ++ρ') Y' e h'->E e {s with heap:=h',toks:=tk}):wpAny (model C.prog C.w) A t Q E s:=by
 subst e;refine wpAny_mono (h λ q=>by contradiction) ?_ ?_
 ·rintro b s' ⟨a,Y',h',tk,ρ',e,_⟩;contradiction
 ·rintro e s' ⟨x,Y',h',tk,ρ',e1,rfl,X⟩;obtain⟨rfl,rfl⟩:=ak.exc.inj e1;exact k e h' tk ρ' X
theorem Cx.Snd.pure{a:α}{b:β}(R:C.Rep ρ s.heap Y)(x:rel ρ a b):C.Snd A (pure b) ρ (.ok a Y) rel s:=λ _=>wpAny_pure (Cx.ret0 R x)
theorem Cx.Snd.bind{f:β->Sem β'}{rk:α->St->ak α'}(h:C.Snd A t ρ r rel s)
  (k:∀a Y' b h' tk ρ',r=.ok a Y'->C.Rep (ρ++ρ') h' Y'->rel (ρ++ρ') a b->C.Snd A (f b) (ρ++ρ') (rk a Y') rel' {s with heap:=h',toks:=tk}):
  C.Snd A (t >>= f) ρ (r.bind rk) rel' s:=by
 intro hb;induction r with
 |bad=>exact absurd rfl hb
 |exc x Y'=>exact wpAny_bind (h.thrown rfl λ e h' tk ρ' X=>⟨x,Y',h',tk,ρ',rfl,rfl,X⟩)
 |ok a Y'=>exact wpAny_bind (h.told rfl λ b h' tk ρ' R x=>wpAny_mono (k a Y' b h' tk ρ' rfl R x hb) (λ _ _=>.up) λ _ _=>.up)
theorem Cx.Snd.map{rel2:List Addr->α->β'->Prop}{f:β->Sem β'}(h:C.Snd A t ρ r rel s)
  (k:∀a Y' b h' tk ρ',r=.ok a Y'->C.Rep (ρ++ρ') h' Y'->rel (ρ++ρ') a b->C.Snd A (f b) (ρ++ρ') (.ok a Y') rel2 {s with heap:=h',toks:=tk}):
  C.Snd A (t >>= f) ρ r rel2 s:=by
 rw[(by clear h k;induction r<;>rfl:r=r.bind λ a Y=>.ok a Y)];exact h.bind k
theorem Cx.Snd.holding{vs:List Value}(h:C.Snd A t ρ r rel s):C.Snd A (PySem.holding vs t) ρ r rel s:=λ q=>wpAny_holding (h q)
theorem Cx.Snd.unhold{vs:List Value}{f:β->Sem β'}{r:ak α'}{rel:List Addr->α'->β'->Prop}(h:C.Snd A (t >>= f) ρ r rel s):C.Snd A (PySem.holding vs t >>= f) ρ r rel s:=λ q Γ p hΓ=>by
 have:=h q Γ p hΓ;simp only[Sem.wp_bind',Sem.wp_holding]at this ⊢;exact this
theorem Cx.Snd.first{f:Unit->Sem β}{u:Sem Unit}(hu:∀{E}{Q:Unit->Shared->Prop},Q () s->wpAny (model C.prog C.w) A u Q E s)(h:C.Snd A (f ()) ρ r rel s):C.Snd A (u >>= f) ρ r rel s:=λ q=>wpAny_bind (hu (h q))
theorem Cx.Snd.at{f:Unit->Sem β}{p:Pos}(h:C.Snd A (f ()) ρ r rel s):C.Snd A (standAt p >>= f) ρ r rel s:=λ q=>wpAny_bind (wpAny_standAt (h q))
theorem Cx.Snd.mono{rel2:List Addr->α->β->Prop}(h:C.Snd A t ρ r rel s)(hr:∀ρ' a b,rel ρ' a b->rel2 ρ' a b):C.Snd A t ρ r rel2 s:=
 λ q=>wpAny_mono (h q) (λ _ _ ⟨a,Y',h',tk,ρ',e1,e2,e3,e4⟩=>⟨a,Y',h',tk,ρ',e1,e2,e3,hr _ _ _ e4⟩) λ _ _ x=>x
end
noncomputable abbrev aj7:List Addr->V->Value->Prop:=VR
noncomputable abbrev Wy:List Addr->Bool->Bool->Prop:=λ _ a b=>a=b
noncomputable abbrev jH{α:Type}:List Addr->α->Unit->Prop:=λ _ _ _=>True
section
variable {C:Cx}{A:Around}{ρ:List Addr}{s:Shared}{Y:St}
theorem jJ{M:Model}{E:Value->Shared->Prop}{keep:List Value}:∀{vs:List Value}{Q:Unit->Shared->Prop},Q () s->wpAny M A (release vs keep) Q E s:=by
 intro vs Q h;unfold release;generalize(vs.filter λ|.ref _=>true|_=>false)=l;induction l with
 |nil=>exact wpAny_pure h
 |cons a r ih=>
  induction r with
  |nil=>exact wpAny_pure h
  |cons b r=>exact wpAny_bind (wpAny_holding (wpAny_point ih))
theorem Cx.Snd.operate{vs:List Value}{t:Sem Value}{α:Type}{r:ak α}{rel:List Addr->α->Value->Prop}(h:C.Snd A t ρ r rel s):C.Snd A (PySem.operate vs t) ρ r rel s:=by
 refine Cx.Snd.map h.holding λ a Y' b h' tk ρ' e R x=>?_
 exact λ _=>wpAny_bind (jJ (wpAny_pure (Cx.ret0 R x)))
end
theorem dJ{n:Nat}(h:small n=true):n<=100000:=of_decide_eq_true h
theorem cF{n:Nat}(h:small n=true):n<=sizeLine:=Nat.le_trans (dJ h) (by decide)
theorem qx{n:Nat}(h:small n=true):(n:Int) < 2 ^ 63:=by have:=dJ h;lia
section
variable {C:Cx}{A:Around}{ρ:List Addr}{s:Shared}{Y:St}
inductive aeh(h:Heap)(ρ:List Addr)(a:Addr)(xs:List V):Prop
 |mk (cs:Array Value) (n:Nat) (h1:IsL h a cs n) (h2:aU (VR ρ) xs cs.toList)
inductive agA(h:Heap)(ρ:List Addr)(a:Addr)(xs:List V):Prop
 |mk (cs:Array Value) (n:Fin 1) (h1:h.get? a=some {cls:=.type "tuple",dict:=none,data:=.seq cs n.val,slots:=#[]}) (h2:aU (VR ρ) xs cs.toList)
theorem Cx.Rep.list(R:C.Rep ρ s.heap Y){i:Nat}{a:Addr}{xs:List V}(e:Y.sto[i]?=some (.list xs))(ha:ρ[i]?=some a):aeh s.heap ρ a xs:=by
 obtain⟨co,h1,cs,n,rfl,h2⟩:=R.objs i _ a e ha;exact⟨cs,n,h1,h2⟩
theorem Cx.Rep.tup(R:C.Rep ρ s.heap Y){i:Nat}{a:Addr}{xs:List V}(e:Y.sto[i]?=some (.tup xs))(ha:ρ[i]?=some a):agA s.heap ρ a xs:=by
 obtain⟨co,h1,cs,n,rfl,h2⟩:=R.objs i _ a e ha;exact⟨cs,n,h1,h2⟩
theorem Cx.Rep.new1(R:C.Rep ρ s.heap Y){o:O}{co:Obj}(hf:co.isFreed=false)(ho:OR C.prog C.w (ρ++[s.heap.objs.size]) o co):
  C.Rep (ρ++[s.heap.objs.size]) (s.heap.push co) {Y with sto:=Y.sto++[o]}:=Mine.Rep.push R hf ho
theorem Cx.Rep.lenEq(R:C.Rep ρ s.heap Y):ρ.length=Y.sto.length:=Mine.Rep.len R
theorem lB{x:Addr}{n:Nat}(e:ρ.length=n):VR (ρ++[x]) (.ref n) (.ref x):=⟨x,by subst e;simp,rfl⟩
theorem qy(R:C.Rep ρ s.heap Y){t:Sem Value}{o:O}{co:Obj}(hf:co.isFreed=false)(ho:OR C.prog C.w (ρ++[s.heap.objs.size]) o co)
  (h:∀{E:Value->Shared->Prop}{Q:Value->Shared->Prop},(∀tk,Q (.ref s.heap.objs.size) {s with heap:=s.heap.push co,toks:=tk})->wpAny (model C.prog C.w) A t Q E s):
  C.Snd A t ρ (Y.new o) VR s:=λ _=>h λ _=>Cx.ret1 (R.new1 hf ho) (lB R.lenEq)
theorem gK{v:V}{c:Value}{i:Int}(h:VR ρ v c)(e:v.int? =some i):∃t,c=.int i t:=by
 induction v<;>first|exact ns e|(cases e;exact h)
theorem lC{v:V}{c:Value}{x:Str}(h:VR ρ v c)(e:v.str? =some x):∃t,c=.str x t:=by
 induction v<;>first|exact ns e|(cases e;exact h)
theorem nD{v:V}{c:Value}{n:Nat}(h:VR ρ v c)(e:v.ref? =some n):∃a,ρ[n]?=some a/\c=.ref a:=by
 induction v<;>first|exact ns e|(cases e;exact h)
theorem Wz{o:O}{x:List V}(h:o.list? =some x):o=.list x:=by induction o<;>first|exact ns h|(cases h;rfl)
theorem WD{o:O}{x:List (Str×V)×Nat}(h:o.dict? =some x):o=.dict x.1 x.2:=by induction o<;>first|exact ns h|(cases h;rfl)
theorem ahC{o:O}{x:List V}(h:o.tup? =some x):o=.tup x:=by induction o<;>first|exact ns h|(cases h;rfl)
theorem WK{o:O}{x:V}(h:o.cell? =some x):o=.cell (some x):=by induction o<;>first|exact ns h|exact congrArg O.cell h
theorem ahD{o:O}{x:Nat×Nat}(h:o.eit? =some x):o=.eit x.1 x.2:=by induction o<;>first|exact ns h|(cases h;rfl)
theorem RL{o:O}{x:Nat×Nat}(h:o.liter? =some x):o=.liter x.1 x.2:=by induction o<;>first|exact ns h|(cases h;rfl)
theorem Dj{o:O}{x:Nat}(h:o.bnext? =some x):o=.bnext x:=by induction o<;>first|exact ns h|(cases h;rfl)
theorem lY{α:Type}{f:O->Option α}{g:α->O}(hg:∀o x,f o=some x->o=g x){i:Nat}{a:α}(h:(Y.sto[i]?).bind f=some a):Y.sto[i]?=some (g a):=
 let ⟨_,e,q⟩:=Option.bind_eq_some_iff.mp h;e.trans (congrArg some (hg _ _ q))
theorem cV{i:Nat}{xs:List V}(h:Y.list? i=some xs):Y.sto[i]?=some (.list xs):=lY (g:=.list) (λ _ _=>Wz) h
theorem ig{i:Nat}{p:List (Str×V)×Nat}(h:Y.dict? i=some p):Y.sto[i]?=some (.dict p.1 p.2):=lY (g:=λ p=>.dict p.1 p.2) (λ _ _=>WD) h
theorem qz{a b:V}{ca cb:Value}(ha:VR ρ a ca)(hb:VR ρ b cb){t:Sem Value}{k:Int->Int->ak V}(h:∀i j t' u,ca=.int i t'->cb=.int j u->C.Snd A t ρ (k i j) VR s):C.Snd A t ρ (I7 a b k) VR s:=
 .onS λ i e1=>.onS λ j e2=>let ⟨t',q1⟩:=gK ha e1;let ⟨u,q2⟩:=gK hb e2;h i j t' u q1 q2
theorem WL(R:C.Rep ρ s.heap Y){a b:V}{ca cb:Value}(ha:VR ρ a ca)(hb:VR ρ b cb):C.Snd A (binaryOp .Add ca cb) ρ (jE a b Y) VR s:=by
 induction a with
 |int i=>
  obtain⟨t,rfl⟩:=ha;refine .onS λ j e=>?_
  obtain⟨u,rfl⟩:=gK hb e;exact λ _=>P.add_int (Cx.ret0 R ⟨_,rfl⟩)
 |str x=>
  obtain⟨t,rfl⟩:=ha;refine .onS λ j e=>.grd λ hs=>?_
  obtain⟨u,rfl⟩:=lC hb e;exact λ _=>PyProof.Rows.add_str (λ t' tk=>Cx.ret0 R ⟨_,rfl⟩) (cF hs)
 |ref i=>
  obtain⟨a,ha,rfl⟩:=ha;refine .onS λ j e=>.onS λ xs e1=>.onS λ ys e2=>.grd λ hs=>?_
  obtain⟨b',hb',rfl⟩:=nD hb e;obtain⟨cs,n,h1,h2⟩:=R.list (cV e1) ha;obtain⟨ds,m,h3,h4⟩:=R.list (cV e2) hb';have hl:cs.size+ds.size<=sizeLine:=by
   rw[<-Array.length_toList,<-Array.length_toList,<-h2.length,<-h4.length];exact cF hs
  exact qy R rfl ⟨_,_,rfl,by rw[Array.toList_append];exact(h2.append h4).mono λ _ _=>VR.mono⟩ λ q=>P.add_list h1 h3 (q s.toks) hl
 |_=>exact .of_bad
theorem RM(c:Value)(n:Nat):∀acc:List Value,List.foldl (λ x1 x2=>x1++x2) acc.toArray (List.replicate n #[c])=(acc++List.replicate n c).toArray:=by
 induction n with
 |zero=>intro acc;simp
 |succ n ih=>
  intro acc;rw[List.replicate_succ,List.foldl_cons,show acc.toArray++#[c]=(acc++[c]).toArray by simp,ih,List.replicate_succ,List.append_assoc];rfl
theorem RN(R:C.Rep ρ s.heap Y){a b:V}{ca cb:Value}(ha:VR ρ a ca)(hb:VR ρ b cb):C.Snd A (binaryOp .Mult ca cb) ρ (zq a b Y) VR s:=by
 induction a with
 |ref i=>
  obtain⟨a,ha,rfl⟩:=ha;refine .onS λ j e=>.onS λ xs e1=>.onS λ x e2=>.grd λ hs=>?_
  obtain⟨u,rfl⟩:=gK hb e;simp only[Bool.and_eq_true]at hs;obtain⟨cs,n,h1,h2⟩:=R.list (cV e1) ha;have hj:j.toNat<=100000:=dJ hs.1;rw[fJ e2]at h2;obtain⟨c,_,ec,hc,h2⟩:=h2.cons_inv;rw[h2.nil_inv]at ec;cases vN ec;refine qy R (co:={cls:=.type "list",data:=.seq (List.replicate j.toNat c).toArray}) rfl ⟨_,_,rfl,by exact(aU.replicate hc _).mono λ _ _=>VR.mono⟩ λ q=>?_
  have:=q s.toks;refine wpAny_binaryOp_repeat_ref (T:="list") (U:="int") (by decide) ⟨_,h1,rfl⟩ (λ s'=>typeIs_int s' j u) noFill_list_mul F.fills_int_mul F.slot_int_rmul repeat_list F.slot_int_index.lookup
   (call_meets F.slot_int_rmul (typeIs_int s j u) F.entry_int_rmul (F.args_int_rmul_2 _ _) (int___rmul___int_list j u a _ n)
    ⟨h1,rfl,⟨_,h1,rfl⟩,call_meets F.slot_list_mul ⟨_,h1,rfl⟩ F.entry_list_mul (F.args_list_mul_2 _ _)
     (AutoListH.list___mul___list_int_3 a _ n j u (by simp[Builtin.List.listFitsIndex];lia) (by simp;lia) (by simp[Builtin.List.listTooLong,sizeLine];lia))
     ⟨h1,by rw[show(List.foldl (λ x1 x2=>x1++x2) #[] (List.replicate (if(#[c]:Array Value).isEmpty=true then 0 else j.toNat) #[c]))=(List.replicate j.toNat c).toArray from RM c j.toNat []];exact this⟩⟩)
 |str x=>
  obtain⟨t,rfl⟩:=ha;refine .onS λ j e=>.grd λ hs=>?_
  obtain⟨u,rfl⟩:=gK hb e;have:=dJ (of_decide_eq_true hs).2.2;exact λ _=>SB.mul (mulOk_of 1 100000 (by lia) (by lia) (by lia) (by simp) (by lia)) λ t' k=>Cx.ret0 R ⟨_,rfl⟩
 |_=>exact .of_bad
set_option tactic.hygienic true in
theorem WM(R:C.Rep ρ s.heap Y){op:Operator}{a b:V}{ca cb:Value}(ha:VR ρ a ca)(hb:VR ρ b cb):C.Snd A (binaryOp op ca cb) ρ (gD op a b Y) VR s:=by
 induction op
 case Add=>exact WL R ha hb
 case Sub=>exact qz ha hb λ i j t u e3 e4=>by subst e3 e4;exact λ _=>P.sub_int (Cx.ret0 R ⟨_,rfl⟩)
 case Mult=>exact RN R ha hb
 case FloorDiv=>
  refine qz ha hb λ i j t u e3 e4=>?_
  subst e3 e4;split
  ·exact .of_bad
  ·rename_i hj
   exact λ _=>floordiv_int (by lia) (Cx.ret0 R ⟨_,rfl⟩) (.inl (PyProof.noPylong_small (by lia)))
 case Mod=>
  refine qz ha hb λ i j t u e3 e4=>?_
  subst e3 e4;split
  ·exact .of_bad
  ·rename_i hj
   exact λ _=>mod_int' hj (Cx.ret0 R ⟨_,rfl⟩)
 all_goals exact .of_bad
theorem Dk(R:C.Rep ρ s.heap Y){op:Operator}{a b:V}{ca cb:Value}(ha:VR ρ a ca)(hb:VR ρ b cb):C.Snd A (inplaceOp op ca cb) ρ (kJ op a b Y) VR s:=by
 induction op
 case Add=>
  induction a with
  |int i=>
   obtain⟨t,rfl⟩:=ha;refine .onS λ j e=>?_
   obtain⟨u,rfl⟩:=gK hb e;exact λ _=>P.iadd_int (Cx.ret0 R ⟨_,rfl⟩)
  |str x=>
   obtain⟨t,rfl⟩:=ha;refine .onS λ j e=>.grd λ hs=>?_
   obtain⟨u,rfl⟩:=lC hb e;exact λ _=>PyProof.Rows.iadd_str (λ t' tk=>Cx.ret0 R ⟨_,rfl⟩) (cF hs)
  |_=>exact .of_bad
 case Sub=>exact qz ha hb λ i j t u e3 e4=>by clear hb;subst e3 e4;exact λ _=>P.isub_int (Cx.ret0 R ⟨_,rfl⟩)
 all_goals exact .of_bad
noncomputable def SR(y:Str)(c:Value):Prop:=∃t,c=.str y t
theorem jK:∀{xs:List V}{ys:List Str}{cs:List Value},dW xs=some ys->aU (VR ρ) xs cs->aU SR ys cs:=by
 intro xs;induction xs with
 |nil=>intro ys cs e h;cases e;cases h;exact .nil
 |cons x r ih=>
  intro ys cs e h;cases h with
  |cons h1 h2=>
   induction x with
   |str y=>
    obtain⟨l,e1,rfl⟩:=Option.map_eq_some_iff.mp (show(dW r).map (y::·)=some ys from e);exact .cons h1 (ih e1 h2)
   |_=>exact ns e
theorem aei{y z:Str}(h:y.cps.toList=z.cps.toList):y=z:=by
 obtain⟨y⟩:=y;obtain⟨z⟩:=z;simp only[Str.mk.injEq];exact Array.toList_inj.mp h
theorem QL(y z:Str):(y.cps.toList==z.cps.toList)=decide (y=z):=by
 by_cases hyz:y=z
 ·subst hyz;simp
 ·have:(y.cps.toList==z.cps.toList)=false:=by
   rw[beq_eq_false_iff_ne];exact λ e=>hyz (aei e)
  simp only[this,decide_eq_false hyz]
theorem Dl{ys:List Str}{cs:Array Value}{zs:List Str}{ds:Array Value}(h:aU SR ys cs.toList)(h':aU SR zs ds.toList){j:Nat}(h1:j < cs.size)(h2:j < ds.size)(A:Around)(s:Shared):
  SeqAt.EqAt A s cs[j] ds[j] (decide (ys[j]?=zs[j]?)):=by
 obtain⟨y,e1,t,e2⟩:=h.getR (i:=j) (b:=cs[j]) (by simp[h1]);obtain⟨z,e3,u,e4⟩:=h'.getR (i:=j) (b:=ds[j]) (by simp[h2]);simp only[e2,e4,e1,e3];have:=(SeqRoads2.EqGives.str y z t u).at A s;simp only[QL]at this;simpa using this
theorem tV{ys zs:List Str}(h:ys.length=zs.length){n:Nat}(hn:n=ys.length):((List.range n).all λ j=>decide (ys[j]?=zs[j]?))=(ys==zs):=by
 subst hn;by_cases e:ys=zs
 ·subst e;simp
 ·have:(ys==zs)=false:=by simpa using e
  simp only[this];rw[List.all_eq_false];apply Classical.byContradiction
  intro q;refine e (List.ext_getElem? λ i=>?_);by_cases hi:i < ys.length
  ·apply Classical.byContradiction
   intro q';exact q ⟨i,List.mem_range.mpr hi,by simpa using q'⟩
  ·rw[List.getElem?_eq_none (by lia),List.getElem?_eq_none (by lia)]
noncomputable def QM(x:Str)(c:Value):Bool:=match c with
 |.str y _=>decide (y=x)
 |_=>false
theorem Jj{ys:List Str}{cs:List Value}(h:aU SR ys cs)(x:Str):cs.any (QM x)=ys.contains x:=by
 induction h with
 |nil=>rfl
 |@cons y c ys cs h1 h2 ih=>
  obtain⟨t,rfl⟩:=h1;simp only[List.any_cons];congr 1;show decide (y=x)=(x==y);clear ih;by_cases e:y=x
  ·subst e;simp
  ·have e':¬ x=y:=λ q=>e q.symm
   simp[e,e']
theorem WN{ys:List Str}{cs:List Value}(h:aU SR ys cs){c:Value}(hc:c∈cs):∃y t,c=.str y t:=by
 induction h with
 |nil=>first|exact ns hc|exact jz hc|cases hc
 |cons h1 _ ih=>
  cases hc with
  |head=>obtain⟨t,rfl⟩:=h1;exact⟨_,t,rfl⟩
  |tail _ hc=>exact ih hc
end
noncomputable abbrev tW:List Addr->Bool->Value->Prop:=λ _ b c=>c=.bool b
noncomputable def AUn(A:Around):Prop:=A.units+100 < cLine
section
variable {C:Cx}{A:Around}{ρ:List Addr}{s:Shared}{Y:St}
theorem Cx.Rep.dict(R:C.Rep ρ s.heap Y){i:Nat}{a:Addr}{kvs:List (Str×V)}{ep:Nat}(e:Y.sto[i]?=some (.dict kvs ep))(ha:ρ[i]?=some a):
  ∃ckvs,Heap.DictAt (strKind C.prog C.w) s.heap a ckvs ep/\aU (Di ρ) kvs ckvs:=by
 obtain⟨co,h1,es,ckvs,rfl,h2,h3,h4,h5⟩:=R.objs i _ a e ha;exact⟨ckvs,⟨_,es,h1,⟨rfl,rfl,rfl⟩,rfl,h2,h3,h4⟩,h5⟩
theorem iY{kvs:List (Str×V)}{ckvs:List (Str×Value)}(h:aU (Di ρ) kvs ckvs)(x:Str):match kvs.lookup x with
  |some v=>∃c,valueAt ckvs x=some c/\VR ρ v c
  |none=>valueAt ckvs x=none:=by
 induction h with
 |nil=>rfl
 |@cons p q kvs ckvs h1 h2 ih=>
  obtain⟨k,v⟩:=p;obtain⟨k',c⟩:=q;obtain⟨e,hv⟩:=h1;dsimp only at e hv;subst e;by_cases hk:x=k
  ·subst hk;rw[List.lookup,beq_self_eq_true];exact⟨c,by simp[valueAt],hv⟩
  ·have h1:(x==k)=false:=by simpa using hk
   have h2:¬ k=x:=λ e=>hk e.symm
   rw[List.lookup,h1,(by simp[valueAt,h2]:valueAt ((k,c)::ckvs) x=valueAt ckvs x)];exact ih
theorem Ms{α:Type}(kvs:List (Str×α))(x:Str):(kvs.any λ p=>p.1==x)=(kvs.lookup x).isSome:=by
 induction kvs with
 |nil=>rfl
 |cons p r ih=>
  obtain⟨k,v⟩:=p;by_cases hk:x=k
  ·subst hk;simp
  ·have h1:(x==k)=false:=by simpa using hk
   simp only[List.any_cons,(by simpa using λ e:k=x=>hk e.symm:(k==x)=false),List.lookup,h1];exact ih
theorem lD{kvs:List (Str×V)}{ckvs:List (Str×Value)}(h:aU (Di ρ) kvs ckvs)(x:Str):(valueAt ckvs x).isSome=kvs.any λ p=>p.1==x:=by
 have:=iY h x;rw[Ms];induction e:kvs.lookup x with
 |none=>rw[e]at this;rw[this];rfl
 |some v=>rw[e]at this;obtain⟨c,h1,_⟩:=this;rw[h1];rfl
theorem cg{xs:List V}{cs:Array Value}(h:aU (VR ρ) xs cs.toList):cs.size=xs.length:=by rw[h.length];simp
theorem rC{xs:List Str}{cs:Array Value}(h:aU SR xs cs.toList):cs.size=xs.length:=by rw[h.length];simp
theorem ada(x:Str)(t:Tok){cs:Array Value}{ys:List Str}(h:aU SR ys cs.toList):∀y,y∈cs->MeetsSeq.EqGives y (.str x t) (QM x y):=by
 intro y hy;obtain⟨z,u,rfl⟩:=WN h (Array.mem_toList_iff.mpr hy);have:=SeqRoads2.EqGives.str z x u t;simp only[QL]at this;exact this
theorem abB{v:V}{c:Value}(h:VR ρ v c):(c==Value.none)=decide (v=V.none):=by
 induction v with
 |none=>subst h;rfl
 |bool b=>subst h;rfl
 |int i=>obtain⟨t,rfl⟩:=h;rfl
 |str x=>obtain⟨t,rfl⟩:=h;rfl
 |ref n=>obtain⟨a,_,rfl⟩:=h;rfl
 |fn a=>subst h;rfl
 |bi b=>subst h;induction b<;>rfl
theorem QR(R:C.Rep ρ s.heap Y){a b:V}{ca cb:Value}(ha:VR ρ a ca)(hb:VR ρ b cb){t:Sem Value}{f:Bool->Bool}(h1:cb=.none->C.Snd A t ρ (.ok (f (ca==Value.none)) Y) tW s)(h2:∀x y,ca=.bool x->cb=.bool y->C.Snd A t ρ (.ok (f (x==y)) Y) tW s):C.Snd A t ρ (onS (Mg a b) λ b=>.ok (f b) Y) tW s:=by
 induction b with
 |none=>rw[abB ha]at h1;exact h1 hb
 |bool y=>induction a with
  |bool x=>exact h2 x y ha hb
  |_=>exact .of_bad
 |_=>exact .of_bad
theorem Jk(R:C.Rep ρ s.heap Y){a b:V}{ca cb:Value}(ha:VR ρ a ca)(hb:VR ρ b cb){t:Value->Value->Sem Value}{fs:Str->Str->Bool}{fi:Int->Int->Bool}{fl:List Str->List Str->Bool}
  (h1:∀x y t' u,C.Snd A (t (.str x t') (.str y u)) ρ (.ok (fs x y) Y) tW s) (h2:∀i j t' u,C.Snd A (t (.int i t') (.int j u)) ρ (.ok (fi i j) Y) tW s)
  (h3:∀a b x y (cs ds:Array Value) n m,IsL s.heap a cs n->IsL s.heap b ds m->aU SR x cs.toList->aU SR y ds.toList->C.Snd A (t (.ref a) (.ref b)) ρ (.ok (fl x y) Y) tW s):C.Snd A (t ca cb) ρ (aG (ad3 a b Y fs fi fl) Y) tW s:=by
 induction a with
 |str x=>
  obtain⟨t',rfl⟩:=ha;refine .onM λ y e=>?_
  obtain⟨u,rfl⟩:=lC hb e;exact h1 x y t' u
 |int x=>
  obtain⟨t',rfl⟩:=ha;refine .onM λ y e=>?_
  obtain⟨u,rfl⟩:=gK hb e;exact h2 x y t' u
 |ref i=>
  obtain⟨a,ha,rfl⟩:=ha;refine .onB λ j e=>.onB λ xs e1=>.onB λ ys e2=>.onB λ x e3=>.onB λ y e4=>.onI λ _=>?_
  obtain⟨b',hb',rfl⟩:=nD hb e;obtain⟨cs,n,q1,q2⟩:=R.list (cV e1) ha;obtain⟨ds,m,q3,q4⟩:=R.list (cV e2) hb';exact h3 _ _ _ _ _ _ _ _ q1 q3 (jK e3 q2) (jK e4 q4)
 |_=>exact .of_bad
theorem Jl(R:C.Rep ρ s.heap Y)(hA:AUn A){op:CmpOp}{a b:V}{ca cb:Value}(ha:VR ρ a ca)(hb:VR ρ b cb):
  C.Snd A (compareOp op ca cb) ρ (aG (rR op a b Y) Y) tW s:=by
 have hu:A.units < cLine:=Nat.lt_of_le_of_lt (Nat.le_add_right _ _) hA;induction op
 case Eq=>
  refine Jk (t:=compareOp .Eq) R ha hb (λ _ _ _ _=>λ _=>PyProof.Rows.eq_str (Cx.ret0 R rfl)) (λ _ _ _ _=>λ _=>P.eq_int (Cx.ret0 R rfl)) λ a b x y cs ds n m h1 h3 h2 h4=>?_
  by_cases hl:x.length=y.length
  ·refine λ _=>SeqAt.eq_listAt h1.isList h3.isList (by rw[rC h2,rC h4,hl]) hu (λ j q1 q2=>Dl h2 h4 q1 q2 _ _) (Cx.ret0 R ?_)
   rw[tV hl (rC h2)]
  ·exact λ _=>SeqAt.eq_list_lengthsAt h1.isList h3.isList (by rw[rC h2,rC h4];exact bne_iff_ne.mpr hl) hu (Cx.ret0 R (congrArg Value.bool (beq_eq_false_iff_ne.mpr λ e=>hl (by rw[e])).symm))
 case NotEq=>
  refine Jk (t:=compareOp .NotEq) R ha hb (λ _ _ _ _=>λ _=>PyProof.Rows.ne_str (Cx.ret0 R rfl)) (λ _ _ _ _=>λ _=>P.ne_int (Cx.ret0 R rfl)) λ a b x y cs ds n m h1 h3 h2 h4=>?_
  by_cases hl:x.length=y.length
  ·refine λ _=>SeqAt.RcNeAt.lists h1.isList h3.isList (by rw[rC h2,rC h4,hl]) hu (λ j q1 q2=>Dl h2 h4 q1 q2 _ _) _ _ _ _ (Cx.ret0 R ?_)
   rw[tV hl (rC h2)];rfl
  ·exact λ _=>SeqAt.RcNeAt.lists_lengths h1.isList h3.isList (by rw[rC h2,rC h4];exact bne_iff_ne.mpr hl) hu _ _ _ _ (Cx.ret0 R (congrArg Value.bool (bne_iff_ne.mpr λ e=>hl (by rw[e])).symm))
 case Lt=>
  refine .onB λ i e1=>.onM λ j e2=>?_
  obtain⟨t,rfl⟩:=gK ha e1;obtain⟨u,rfl⟩:=gK hb e2;exact λ _=>P.lt_int (Cx.ret0 R rfl)
 case GtE=>
  refine .onB λ i e1=>.onM λ j e2=>?_
  obtain⟨t,rfl⟩:=gK ha e1;obtain⟨u,rfl⟩:=gK hb e2;exact λ _=>P.ge_int (Cx.ret0 R rfl)
 case Is=>exact QR (f:=λ b=>b) R ha hb (λ e=>by subst e;exact λ _=>is_none_gen (Cx.ret0 R rfl)) λ x y e1 e2=>by subst e1 e2;exact λ _=>PyProof.Rows.is_bool (Cx.ret0 R rfl)
 case IsNot=>
  refine(?_:C.Snd A _ ρ (onS ((Mg a b).map λ t=>!t) λ b=>.ok b Y) tW s);have:=QR (f:=λ b=>!b) R ha hb (A:=A) (t:=compareOp .IsNot ca cb) (λ e=>by subst e;exact λ _=>isnot_none_gen (Cx.ret0 R rfl)) λ x y e1 e2=>by subst e1 e2;exact λ _=>PyProof.Rows.isnot_bool (Cx.ret0 R rfl)
  induction q:Mg a b with
  |none=>exact .of_bad
  |some r=>rw[q]at this;exact this
 case In=>
  refine .onB λ x e1=>.onB λ j e2=>.onB λ o e=>?_
  obtain⟨t,rfl⟩:=lC ha e1;obtain⟨b',hb',rfl⟩:=nD hb e2;induction o with
  |dict kvs ep=>
   obtain⟨ckvs,h1,h2⟩:=R.dict e hb';exact λ _=>wpAny_in_of (strKind_is _ _ _ _) (Mine.Rep.sys R _ (List.mem_of_getElem? hb')) h1.dictOf.mapOf (Cx.ret0 R (by rw[lD h2]))
  |set xs=>
   refine .onI λ hs=>?_
   obtain⟨co,hco,hf⟩:=R.objs _ _ _ e hb';exact λ _=>wpAny_inSet_of (strKind_is _ _ _ _) rfl (hf.setOf hco (by unfold scanBound;lia)) (Cx.ret0 R rfl)
  |list ys=>
   refine .onB λ y e2=>.onI λ _=>?_
   obtain⟨cs,n,h1,h2⟩:=R.list e hb';have h2:=jK e2 h2;refine λ _=>SeqRoads2.in_list _ (ada _ _ h2) h1 (Cx.ret0 R ?_)
   rw[<-Jj h2,Array.any_toList]
  |_=>exact .of_bad
 case NotIn=>
  refine .onM' λ x e1=>.onB λ j e2=>.onB λ o e=>?_
  obtain⟨t,rfl⟩:=lC ha e1;obtain⟨b',hb',rfl⟩:=nD hb e2;induction o with
  |dict kvs ep=>
   obtain⟨ckvs,h1,h2⟩:=R.dict e hb';exact λ _=>wpAny_notIn_of (strKind_is _ _ _ _) (Mine.Rep.sys R _ (List.mem_of_getElem? hb')) h1.dictOf.mapOf (Cx.ret0 R (by rw[lD h2]))
  |list ys=>
   refine .onB λ y e2=>.onI λ _=>?_
   obtain⟨cs,n,h1,h2⟩:=R.list e hb';have h2:=jK e2 h2;refine λ _=>SeqRoads2.notIn_list _ (ada _ _ h2) h1 (Cx.ret0 R ?_)
   rw[<-Jj h2,Array.any_toList]
  |_=>exact .of_bad
 all_goals exact .of_bad
theorem zO{xs:List V}{cs:Array Value}(h:aU (VR ρ) xs cs.toList):(!xs.isEmpty)=!cs.isEmpty:=by
 obtain⟨l⟩:=cs;cases h<;>rfl
theorem rZ(R:C.Rep ρ s.heap Y){a:V}{ca:Value}(ha:VR ρ a ca):C.Snd A (truthy ca) ρ (aG (aO a Y) Y) Wy s:=by
 induction a with
 |none=>subst ha;exact λ _=>truthy_none (Cx.ret0 R rfl)
 |bool b=>subst ha;exact λ _=>wpAny_truthy_bool (Cx.ret0 R rfl)
 |int i=>obtain⟨t,rfl⟩:=ha;exact λ _=>P.truthy_int (Cx.ret0 R rfl)
 |str x=>
  obtain⟨t,rfl⟩:=ha;refine .onI λ hs=>?_
  have:=dJ hs;refine λ _=>P.truthy_str (by lia) (Cx.ret0 R ?_)
  generalize x.length=n;induction n<;>rfl
 |ref i=>
  obtain⟨a,ha,rfl⟩:=ha;refine .onB λ o e1=>?_
  induction o with
  |list xs=>
   refine .onI λ hs=>?_
   obtain⟨cs,n,h1,h2⟩:=R.list e1 ha;exact λ _=>wpAny_truthy_list h1.isList (by rw[cg h2];exact qx hs) (Cx.ret0 R (zO h2))
  |tup xs=>
   refine .onI λ hs=>?_
   obtain⟨cs,n,h1,h2⟩:=R.tup e1 ha;exact λ _=>truthy_tuple ⟨_,h1,rfl,_,rfl⟩ (by rw[cg h2];exact qx hs) (Cx.ret0 R (zO h2))
  |_=>exact .of_bad
 |_=>exact .of_bad
theorem sE{i:Int}{n j:Nat}(h:rB i n=some j): -(2 ^ 63:Int)<=i/\i < 2 ^ 63/\seqIndex? i n=some j:=by
 unfold rB at h;split at h
 ·first|exact ns h|exact jz h|cases h
 ·exact⟨by lia,by lia,h⟩
set_option tactic.hygienic true in
theorem Cg{prog:Program}{w:World}{A:Around}{E:Value->Shared->Prop}{s:Shared}{l:Addr}{items:Array Value}{i:Int}{t:Tok}{j:Nat}{x:Value}{Q:Value->Shared->Prop}
  (hl:s.heap.IsList l items) (h0: -(2 ^ 63:Int)<=i) (h1:i < 2 ^ 63) (hj:seqIndex? i items.size=some j) (hx:items[j]?=some x) (h:Q x s):wpAny (model prog w) A (getItem (.ref l) (.int i t)) Q E s:=by
 unfold seqIndex? at hj;by_cases hi:i < 0
 ·rw[if_pos hi]at hj;dsimp only at hj;split at hj
  ·rename_i q
   simp only[Bool.and_eq_true,decide_eq_true_eq]at q;cases hj;exact wpAny_getItem_list_neg hl hi (by lia) h0 hx h
  ·first|exact ns hj|exact jz hj|cases hj
 ·rw[if_neg hi]at hj;dsimp only at hj;split at hj
  ·first|exact ns hj|exact jz hj|cases hj
   exact wpAny_getItem_list hl (by lia) h1 hx h
  ·first|exact ns hj|exact jz hj|cases hj
theorem RP(R:C.Rep ρ s.heap Y){a b:V}{ca cb:Value}(ha:VR ρ a ca)(hb:VR ρ b cb):C.Snd A (getItem ca cb) ρ (dz (cM a b Y) Y) VR s:=by
 induction a with
 |ref l=>
  obtain⟨a,ha,rfl⟩:=ha;refine .onB λ o e1=>?_
  induction o with
  |list xs=>
   refine .onB λ k e=>.onI λ _=>.onB λ j hj=>.onS λ v hx=>?_
   obtain⟨u,rfl⟩:=gK hb e;obtain⟨cs,n,h1,h2⟩:=R.list e1 ha;obtain⟨q0,q1,q2⟩:=sE hj;obtain⟨c,hc,hv⟩:=h2.get hx;rw[Array.getElem?_toList]at hc;exact λ _=>Cg h1.isList q0 q1 (by rw[cg h2];exact q2) hc (Cx.ret0 R hv)
  |tup xs=>
   refine .onB λ k e=>.onI λ _=>.onB λ j hj=>.onS λ v hx=>?_
   obtain⟨u,rfl⟩:=gK hb e;obtain⟨cs,n,h1,h2⟩:=R.tup e1 ha;obtain⟨q0,q1,q2⟩:=sE hj;obtain⟨c,hc,hv⟩:=h2.get hx;rw[Array.getElem?_toList]at hc;exact λ _=>PyProof.Rows.getItem_tuple ⟨_,h1,rfl,_,rfl⟩ q0 q1 (by rw[cg h2];exact q2) hc (Cx.ret0 R hv)
  |dict kvs ep=>
   refine .onB λ x e=>.onS λ v hr=>?_
   obtain⟨u,rfl⟩:=lC hb e;obtain⟨ckvs,h1,h2⟩:=R.dict e1 ha;have:=iY h2 x;rw[hr]at this;obtain⟨c,hc,hv⟩:=this;exact λ _=>wpAny_getItem_of (strKind_is _ _ _ _) h1.dictOf.mapOf hc (Cx.ret0 R hv)
  |_=>exact .of_bad
 |str x=>
  obtain⟨t,rfl⟩:=ha;refine .onB λ k e=>.onI λ _=>.onB λ j hj=>.onM λ c hc=>?_
  obtain⟨u,rfl⟩:=gK hb e;obtain⟨q0,q1,q2⟩:=sE hj;refine λ _=>P.getItem_str ?_ (by rw[q2];exact hc) (Cx.ret0 R ⟨_,rfl⟩)
  lia
 |_=>exact .of_bad
end
section
variable {C:Cx}{A:Around}{ρ:List Addr}{s:Shared}{Y:St}
section
variable {prog:Program}{w:World}{E:Value->Shared->Prop}{s:Shared}{A:Around}
theorem Mt{d:Addr}{kvs:List (Str×Value)}{ep:Nat}{x:Str}{t:Tok}{v:Value}{Q:Unit->Shared->Prop}(hm:s.heap.DictAt (strKind prog w) d kvs ep)
  (hQ:∀h',h'.DictAt (strKind prog w) d (stored kvs x v) (if kvs.any (λ kv=>kv.1=x)then ep else ep+1)->Heap.SameBut d s.heap h'->Q () {s with heap:=h',toks:=s.toks+1})
  (hsz:kvs.length<=sizeLine):
  wpAny (model prog w) A (dictSet d (.str x t) v) Q E s:=by
 obtain⟨o,es,ho,hc,hd,hk,hp,hn⟩:=hm;have hkey:(strKind prog w).is x (.str x t)=true:=strKind_is _ _ _ _;have hes:es.size<=sizeLine:=by
  have e1:=hp.length;have e2:es.toList.length=es.size:=by simp
  lia
 refine wpAny_holding ?_;refine wpAny_bind ((strKind prog w).pyHash hkey ?_);refine wpAny_holding ?_;refine wpAny_bind (wpAny_dictFind_of (s:={s with toks:=s.toks+1}) hkey ho hd hk ?_);have hidx:(es.findIdx? λ e=>(strKind prog w).is x e.key)=kvs.findIdx? λ kv=>decide (kv.1=x):=by
  rw[<-hp.findIdx x];obtain⟨l⟩:=es;simp
 induction hi:es.findIdx? λ e=>(strKind prog w).is x e.key with
 |some i=>
  have ha:=any_of_findIdx_some (hidx▸hi);refine wpAny_bind (wpAny_rule (wpAny_bind (wpAny_updateDict (s:={s with toks:=s.toks+1}) ho hd (wpAny_point (hQ _ ⟨_,_,Heap.get?_update_self _ ho (Obj.isFreed_of_dict (Obj.data_mapDict hd _)),
   hc.mapDict _,?_,hk.modify i v,?_,?_⟩ (Heap.SameBut.update ..))))))
  ·rw[Obj.data_mapDict hd,if_pos ha]
  ·rw[stored,if_pos ha];have:=hp.modify hn (by clear hd hk hp hes;rw[<-hi];obtain⟨l⟩:=es;simp:(es.toList.findIdx? λ e=>(strKind prog w).is x e.key)=some i) v;simpa using this
  ·rw[stored,if_pos ha,keys_map_store];exact hn
 |none=>
  have hnot:x∉kvs.map (·.1):=not_mem_of_findIdx_none (hidx▸hi);have hany:¬ (kvs.any λ kv=>decide (kv.1=x))=true:=by
   rw[List.any_eq_true];rintro⟨kv,hkv,he⟩;exact hnot (List.mem_map.mpr ⟨kv,hkv,of_decide_eq_true he⟩)
  refine wpAny_bind (wpAny_rule (wpAny_updateDictKeys (hz:=hes) (s:={s with toks:=s.toks+1}) ho hd (hQ _ ⟨_,_,Heap.get?_update_self _ ho (Obj.isFreed_of_dict (Obj.data_mapDictKeys hd _)),
   hc.mapDictKeys _,?_,hk.push hkey v,?_,?_⟩ (Heap.SameBut.update ..))))
  ·rw[Obj.data_mapDictKeys hd,if_neg hany]
  ·rw[stored,if_neg hany];have:=hp.append hkey ((strKind prog w).hash x) v;simpa using this
  ·rw[stored,if_neg hany,List.map_append,List.nodup_append];refine⟨hn,by simp,?_⟩;intro a ha b hb;rw[List.map_cons,List.map_nil,List.mem_singleton]at hb;clear hd hk hp hes hidx hi;subst hb;exact λ e=>hnot (e▸ha)
theorem Mu{d:Addr}{kvs:List (Str×Value)}{ep:Nat}{x:Str}{t:Tok}{v:Value}{Q:Unit->Shared->Prop}(hm:s.heap.DictAt (strKind prog w) d kvs ep)
  (hQ:∀h',h'.DictAt (strKind prog w) d (stored kvs x v) (if kvs.any (λ kv=>kv.1=x)then ep else ep+1)->Heap.SameBut d s.heap h'->Q () {s with heap:=h',toks:=s.toks+1})
  (hsz:kvs.length<=sizeLine):
  wpAny (model prog w) A (setItem (.ref d) (.str x t) v) Q E s:=by
 have hT:=hm.dictOf.typeIs;refine wpAny_holding ?_;refine wpAny_bind (wpAny_sequenceKey hT (by decide) ?_);refine wpAny_bind (wpAny_callSpecial?_slot (name:=Str.ofString "__setitem__") hT slot_dict_setitem
  (wpAny_call_entry slot_dict_setitem hT entry_dict_setitem ?_ (args_dict_setitem _ _ _)))
 refine wpAny_bind (wpAny_notOrdered_dict hT ?_);show wpAny _ _ (dictSet d (.str x t) v >>= _) _ _ s;exact wpAny_bind (Mt hm (λ h' hm' hs'=>wpAny_pure ⟨.none,rfl,wpAny_pure (hQ h' hm' hs')⟩) hsz)
theorem Mv{d:Addr}{kvs:List (Str×Value)}{ep:Nat}{x:Str}{t:Tok}{Q:Option DictEntry->Shared->Prop}(hm:s.heap.DictAt (strKind prog w) d kvs ep)(hin:(valueAt kvs x).isSome=true)
  (hQ:∀e h',h'.DictAt (strKind prog w) d (without kvs x) (ep+1)->Heap.SameBut d s.heap h'->Q (some e) {s with heap:=h',toks:=s.toks+1})
  (hsz:kvs.length<=sizeLine):
  wpAny (model prog w) A (Builtin.Dict.takeOut d (.str x t)) Q E s:=by
 obtain⟨o,es,ho,hc,hd,hk,hp,hn⟩:=hm;have hkey:(strKind prog w).is x (.str x t)=true:=strKind_is _ _ _ _;have hes:es.size<=sizeLine:=by
  have e1:=hp.length;have e2:es.toList.length=es.size:=by simp
  lia
 refine wpAny_bind ((strKind prog w).pyHash hkey ?_);refine wpAny_bind (wpAny_dictFind_of (s:={s with toks:=s.toks+1}) hkey ho hd hk ?_);induction hi:es.findIdx? λ e=>(strKind prog w).is x e.key with
 |none=>
  rw[<-hp.find x]at hin;have:(es.toList.find? λ e=>(strKind prog w).is x e.key)=none:=by
   rw[List.find?_eq_none];intro e he;have:=Array.findIdx?_eq_none_iff.mp hi e (Array.mem_toList_iff.mp he);simpa using this
  rw[this]at hin;contradiction
 |some i=>
  have hl:(es.toList.findIdx? λ e=>(strKind prog w).is x e.key)=some i:=by rw[<-hi];obtain⟨l⟩:=es;simp
  obtain⟨e,he,hek,hev⟩:=hp.at hl;refine wpAny_bind (wpAny_dictEntries (s:={s with toks:=s.toks+1}) ho hd ?_);rw[(by clear hd hk hp hes hi;rw[<-he];obtain⟨l⟩:=es;simp:es[i]?=some e)];refine wpAny_bind (wpAny_updateDictKeys (hz:=hes) (s:={s with toks:=s.toks+1}) ho hd (wpAny_pure (hQ e _ ⟨_,_,Heap.get?_update_self _ ho (Obj.isFreed_of_dict (Obj.data_mapDictKeys hd _)),
   hc.mapDictKeys _,Obj.data_mapDictKeys hd _,hk.erase _,?_,nodup_without hn x⟩ (Heap.SameBut.update ..))))
  have:=hp.erase hn hl;simpa using this
end
set_option tactic.hygienic true in
theorem zP{kvs:List (Str×V)}{ckvs:List (Str×Value)}(h:aU (Di ρ) kvs ckvs){x:Str}{v:V}{c:Value}(hv:VR ρ v c):
  aU (Di ρ) (lW kvs x v) (stored ckvs x c)/\(ckvs.any λ kv=>decide (kv.1=x))=kvs.any λ p=>p.1==x:=by
 have e:(ckvs.any λ kv=>decide (kv.1=x))=kvs.any λ p=>p.1==x:=by
  induction h with
  |nil=>rfl
  |@cons p q kvs ckvs h1 h2 ih=>simp only[List.any_cons,ih,h1.1];rfl
 refine⟨?_,e⟩;unfold lW stored;rw[e];split
 ·rename_i q
  clear q e;induction h with
  |nil=>exact .nil
  |@cons p q kvs ckvs h1 h2 ih=>
   simp only[List.map_cons];refine .cons ?_ ih;rw[h1.1];by_cases hq:q.1=x
   ·simp only[hq,beq_self_eq_true];exact⟨rfl,hv⟩
   ·have:(q.1==x)=false:=by simpa using hq
    simp only[this,hq];exact h1
 ·exact h.append (.cons ⟨rfl,hv⟩ .nil)
theorem Jm{kvs:List (Str×V)}{ckvs:List (Str×Value)}(h:aU (Di ρ) kvs ckvs)(x:Str):aU (Di ρ) (kvs.filter λ p=>!(p.1==x)) (without ckvs x):=by
 unfold without;induction h with
 |nil=>exact .nil
 |@cons p q kvs ckvs h1 h2 ih=>
  simp only[List.filter_cons,h1.1];by_cases hq:q.1=x
  ·simp only[hq,beq_self_eq_true,ne_eq,if_false];exact ih
  ·have:(q.1==x)=false:=by simpa using hq
   simp only[this,hq,ne_eq,if_true];exact .cons h1 ih
theorem DictAt.or{kvs:List (Str×V)}{ckvs:List (Str×Value)}{ep:Nat}{h:Heap}{d:Addr}(hd:h.DictAt (strKind C.prog C.w) d ckvs ep)(hr:aU (Di ρ) kvs ckvs):
  ∃co,h.get? d=some co/\OR C.prog C.w ρ (.dict kvs ep) co:=by
 obtain⟨o,es,ho,⟨c1,c2,c3⟩,hdd,hk,hp,hn⟩:=hd;refine⟨o,ho,es,ckvs,?_,hk,hp,hn,hr⟩;clear ho;obtain⟨cls,dict,data,slots⟩:=o;subst c1;subst c2;subst c3;subst hdd;rfl
theorem Cx.Rep.upd(R:C.Rep ρ s.heap Y){i:Nat}{a:Addr}{o:O}{co:Obj}{h':Heap}(hi:k0<=i)(ha:ρ[i]?=some a)(hs:Heap.SameBut a s.heap h')(hc:h'.get? a=some co)(ho:OR C.prog C.w ρ o co):
  C.Rep ρ h' (Y.upd i o):=Mine.Rep.upd R hi ha hs hc ho
theorem eY{kvs:List (Str×V)}{ckvs:List (Str×Value)}(h:aU (Di ρ) kvs ckvs):ckvs.length=kvs.length:=h.length.symm
theorem kZ{α:Type}{t:Sem α}{i:Nat}{o:O}{v:V}{rel:List Addr->V->α->Prop}(h:k0<=i->C.Snd A t ρ (.ok v (Y.upd i o)) rel s):C.Snd A t ρ (Y.mut i o v) rel s:=by
 unfold St.mut;split
 ·exact h (by assumption)
 ·exact .of_bad
theorem Gp(R:C.Rep ρ s.heap Y){a i v:V}{ca ci cv:Value}(ha:VR ρ a ca)(hi:VR ρ i ci)(hv:VR ρ v cv):C.Snd A (setItem ca ci cv) ρ (iV a i v Y) jH s:=by
 refine .onS λ l e1=>.onS λ x e2=>.onS λ p e3=>.grd λ hs=>kZ λ hk=>λ _=>?_
 obtain⟨a',ha',rfl⟩:=nD ha e1;obtain⟨u,rfl⟩:=lC hi e2;obtain⟨ckvs,h1,h2⟩:=R.dict (ig e3) ha';obtain⟨q1,q2⟩:=zP h2 hv;refine Mu h1 (λ h' hm' hs'=>?_) (by rw[eY h2];exact cF hs);rw[q2]at hm';obtain⟨co,x,y⟩:=DictAt.or hm' q1;exact Cx.ret0 (R.upd hk ha' hs' x y) trivial
theorem Gq{prog:Program}{w:World}{E:Value->Shared->Prop}{d:Addr}{kvs:List (Str×Value)}{ep:Nat}{x:Str}{t:Tok}{Q:Unit->Shared->Prop}(hm:s.heap.DictAt (strKind prog w) d kvs ep)(hin:(valueAt kvs x).isSome=true)
  (hQ:∀h',h'.DictAt (strKind prog w) d (without kvs x) (ep+1)->Heap.SameBut d s.heap h'->Q () {s with heap:=h',toks:=s.toks+1})
  (hsz:kvs.length<=sizeLine):wpAny (model prog w) A (delItem (.ref d) (.str x t)) Q E s:=by
 have hT:=hm.dictOf.typeIs;refine wpAny_delItem_slot hT (by decide) F.slot_dict_delitem (wpAny_call_entry F.slot_dict_delitem hT F.entry_dict_delitem ?_ (F.args_dict_delitem_2 _ _));refine wpAny_bind ?_;refine wpAny_bind (wpAny_notOrdered_dict hT ?_);refine wpAny_pure ?_;show wpAny _ _ (Builtin.Dict.takeOut d (.str x t) >>= _) _ _ s;exact wpAny_bind (Mv hm hin (λ e h' hm' hs'=>wpAny_bind (wpAny_letGo (wpAny_pure ⟨.none,rfl,hQ h' hm' hs'⟩))) hsz)
theorem Gr(R:C.Rep ρ s.heap Y){a i:V}{ca ci:Value}(ha:VR ρ a ca)(hi:VR ρ i ci):C.Snd A (delItem ca ci) ρ (tG a i Y) jH s:=by
 refine .onS λ l e1=>.onS λ x e2=>.onS λ p e3=>.grd λ hs=>kZ λ hk=>λ _=>?_
 obtain⟨a',ha',rfl⟩:=nD ha e1;obtain⟨u,rfl⟩:=lC hi e2;obtain⟨ckvs,h1,h2⟩:=R.dict (ig e3) ha';rw[Bool.and_eq_true]at hs;refine Gq h1 (by rw[lD h2];exact hs.2) (λ h' hm' hs'=>?_) (by rw[eY h2];exact cF hs.1);obtain⟨co,x,y⟩:=DictAt.or hm' (Jm h2 _);exact Cx.ret0 (R.upd hk ha' hs' x y) trivial
end
section
variable {C:Cx}{A:Around}{ρ:List Addr}{s:Shared}{Y:St}
theorem agC{α β:Type}{R:α->β->Prop}{a:α}{bs:List β}(h:aU R [a] bs):∃b,bs=[b]/\R a b:=by
 cases h with
 |cons h1 h2=>cases h2;exact⟨_,rfl,h1⟩
theorem Jo{ys:List Str}{cs:List Value}(h:aU SR ys cs):∃l:List (Str×Tok),cs=strValues l/\l.map (·.1)=ys:=by
 induction h with
 |nil=>exact⟨[],rfl,rfl⟩
 |cons h1 _ ih=>
  clear a_1;obtain⟨l,rfl,rfl⟩:=ih;obtain⟨t,rfl⟩:=h1;exact⟨(_,t)::l,rfl,rfl⟩
theorem Gs{ys:List Str}(h1:small ys.length=true)(h2:small (bf ys)=true):JoinOk aC ys=true:=by
 have h1:=dJ h1;have h2:=dJ h2;unfold JoinOk;rw[StrLaws.joinTotal];have e:aC.length=1:=rfl;rw[e];unfold bf at h2;have:¬ ((ys.map Str.length).sum+ys.length*1 > sizeLine):=by rw[sizeLine_eq];lia
 unfold Builtin.Str.tooLong;rw[decide_eq_false this];rfl
theorem RQ{h:Heap}{a:Addr}{cs:Array Value}{n:Nat}(e:h.get? a=some {cls:=.type "list",dict:=none,data:=.seq cs n,slots:=#[]}):h.IsList a cs:=⟨_,e,rfl,n,rfl⟩
theorem tX(ρ:List Addr):∀(xs:List Str) (t:Tok),aU (VR ρ) (xs.map .str) (strsFrom t xs)
 |[],_=>.nil
 |_::r,t=>.cons ⟨t,rfl⟩ (tX ρ r (t+1))
theorem Mw{prog:Program}{w:World}{E:Value->Shared->Prop}{x:Str}{t u:Tok}{Q:Value->Shared->Prop}(hx:small x.length=true)
  (h:∀(cs:List Value) tk,(∀ρ,aU (VR ρ) ((Txt.split x aC).map .str) cs)->Q (.ref s.heap.objs.size) {s with heap:=s.heap.push {cls:=.type "list",data:=.seq cs.toArray},toks:=tk}):
  wpAny (model prog w) A (call (.builtin "str.split") [.str x t,.str aC u]) Q E s:=by
 have hx':=dJ hx;have hl:=split_le x aC;unfold Txt.split at h hl;by_cases h1:(decide (x.length < aC.length)||decide (Builtin.Str.strKind x < Builtin.Str.strKind aC))=true
 ·rw[h1]at h;exact call_meets F.slot_str_split (typeIs_str _ _ _) F.entry_str_split (F.args_str_split_2 _ _) (meets_str_split_cannot_occur x aC t u h1) (h [.str x t] s.toks λ ρ=>.cons ⟨t,rfl⟩ .nil)
 ·have h1':=Bool.eq_false_iff.mpr h1;by_cases h2:(Builtin.Str.occurrences x aC 0 x.length (x.length+1)).isEmpty=true
  ·rw[h1',h2]at h;exact call_meets F.slot_str_split (typeIs_str _ _ _) F.entry_str_split (F.args_str_split_2 _ _) (meets_str_split_not_found x aC t u h1' rfl h2) (h [.str x t] s.toks λ ρ=>.cons ⟨t,rfl⟩ .nil)
  ·have h2':=Bool.eq_false_iff.mpr h2;simp only[h1',h2',if_false]at h hl;exact call_meets F.slot_str_split (typeIs_str _ _ _) F.entry_str_split (F.args_str_split_2 _ _) (meets_str_split_sep x aC t u h1' rfl h2' (cF hx) (by rw[sizeLine_eq];lia))
    (h _ _ λ ρ=>tX ρ _ _)
noncomputable def RT(m:Me):String:=match m with
 |.join=>"str.join"|.split=>"str.split"|.startswith=>"str.startswith"|.endswith=>"str.endswith"|.rfind=>"str.rfind"|.rstrip=>"str.rstrip"|.lstrip=>"str.lstrip"
 |.append=>"list.append"|.pop=>"list.pop"|.clear=>"list.clear"|.get=>"dict.get"|.values=>"dict.values"|.add=>"set.add"
theorem RV{h:Heap}{a:Addr}{S:Str->Bool}{n:Nat}{xs:List Str}(hS:h.SetOf (strKind C.prog C.w) a S n)(e:S=λ k=>xs.contains k)(en:n=xs.length):∃co,h.get? a=some co/\OR C.prog C.w ρ (.set xs) co:=by
 subst e en;exact hS.objOf
set_option tactic.hygienic true in
theorem iu{t:Sem Value}{x y:Str}{k:ak V}(h:y=aC->small x.length=true->C.Snd A t ρ k VR s):C.Snd A t ρ (pM x y k) VR s:=by
 unfold pM;split
 ·rename_i hs
  rw[Bool.and_eq_true,beq_iff_eq]at hs;exact h hs.1 hs.2
 ·exact .of_bad
theorem WQ(R:C.Rep ρ s.heap Y){m:Me}{x y:Str}{t u:Tok}:C.Snd A (call (.builtin (RT m)) [.str x t,.str y u]) ρ (agk m x y Y) VR s:=by
 induction m
 case split=>
  refine iu λ e hs=>?_
  subst e;exact λ _=>Mw hs λ cs tk hc=>Cx.ret1 (R.new1 rfl ⟨_,_,rfl,hc _⟩) (lB R.lenEq)
 case startswith=>exact iu λ _ _=>λ _=>SC.startswith (Cx.ret0 R rfl)
 case endswith=>exact iu λ _ _=>λ _=>SC.endswith (Cx.ret0 R rfl)
 case rfind=>exact iu λ _ _=>λ _=>SC.rfind (Cx.ret0 R ⟨_,rfl⟩)
 case rstrip=>exact iu λ _ hs=>λ _=>SC.rstripChars (λ t' k=>Cx.ret0 R ⟨_,rfl⟩) (cF hs)
 case lstrip=>exact iu λ _ hs=>λ _=>SC.lstripChars (λ t' k=>Cx.ret0 R ⟨_,rfl⟩) (cF hs)
 all_goals exact .of_bad
theorem RW(R:C.Rep ρ s.heap Y){sep:Str}{t:Tok}{v:V}{c:Value}(hv:VR ρ v c):C.Snd A (call (.builtin "str.join") [.str sep t,c]) ρ (Wb sep v Y) VR s:=by
 refine .onS λ l e=>.onS λ xs e1=>.onS λ ss e2=>.grd λ hs=>?_
 obtain⟨a,ha,rfl⟩:=nD hv e;obtain⟨hs,hs2⟩:=Bool.and_eq_true_iff.mp hs;obtain⟨hs0,hs1⟩:=Bool.and_eq_true_iff.mp hs;cases beq_iff_eq.mp hs0;obtain⟨cs,n,h1,h2⟩:=R.list (cV e1) ha;obtain⟨l,e3,e4⟩:=Jo (jK e2 h2);exact λ _=>SC.join (by rw[<-e3];exact RQ h1) e4 (Gs hs1 hs2) λ t' k=>Cx.ret0 R ⟨t',by rw[<-StrLaws.glued_eq_join];rfl⟩
theorem RX(R:C.Rep ρ s.heap Y){m:Me}{l:Nat}{a:Addr}(ha:ρ[l]?=some a):C.Snd A (call (.builtin (RT m)) [.ref a]) ρ (ac1 m l Y) VR s:=by
 refine .onS λ o e1=>?_
 induction o with
 |list xs=>
  refine .grd λ hs=>?_
  obtain⟨cs,n,h1,h2⟩:=R.list e1 ha;have hz:cs.size<=sizeLine:=by rw[cg h2];exact cF hs
  induction m
  case pop=>
   refine .onS λ v e2=>kZ λ hk=>λ _=>?_
   rw[List.getLast?_eq_getElem?]at e2;obtain⟨c,hc,hv⟩:=h2.get e2;rw[Array.getElem?_toList,<-cg h2]at hc;refine call_meets F.slot_list_pop ⟨_,h1,rfl⟩ F.entry_list_pop (F.args_list_pop_1 _) (MeetsSeq.list_pop_last a cs n c hc hz) ⟨h1,?_⟩;refine Cx.ret0 (R.upd hk ha (Heap.SameBut.update ..) (IsL.update h1 _) ⟨_,_,rfl,?_⟩) hv;have:(cs.eraseIdxIfInBounds (cs.size - 1)).toList=cs.toList.dropLast:=by
    clear h1 h2 hz hc;obtain⟨l⟩:=cs;simp[List.eraseIdx_length_sub_one]
   rw[this];exact h2.dropLast
  case clear=>
   refine kZ λ hk=>λ _=>?_
   refine call_meets F.slot_list_clear ⟨_,h1,rfl⟩ F.entry_list_clear (F.args_list_clear_1 _) (AutoSeq1.list_clear_list_0 a cs n hz) ⟨h1,?_⟩;exact Cx.ret0 (R.upd hk ha (Heap.SameBut.update ..) (IsL.update h1 _) ⟨_,_,rfl,.nil⟩) rfl
  all_goals exact .of_bad
 |dict kvs ep=>
  refine .grd λ hm=>?_
  cases of_decide_eq_true hm;obtain⟨ckvs,h1,h2⟩:=R.dict e1 ha;refine λ _=>call_meetsIn F.slot_dict_values h1.dictOf.typeIs F.entry_dict_values (F.args_dict_values_1 _) (meets_dict_values (strKind C.prog C.w) a (Mine.Rep.sys R _ (List.mem_of_getElem? ha))) ⟨⟨_,h1.dictOf⟩,?_⟩
  exact Cx.ret1 (R.new1 rfl ⟨a,aH ha,rfl,rfl,rfl⟩) (lB R.lenEq)
 |_=>exact .of_bad
theorem Dm(xs:List Str)(x:Str):(λ k'=>xs.contains k'||decide (k'=x))=(λ k=>(if xs.contains x then xs else xs++[x]).contains k)/\(if xs.contains x=true then xs.length else xs.length+1)=(if xs.contains x then xs else xs++[x]).length:=by
 induction hc:xs.contains x
 ·refine⟨funext λ k=>?_,by rw[if_neg Bool.false_ne_true,if_neg Bool.false_ne_true,List.length_append];rfl⟩;simp
 ·refine⟨funext λ k=>?_,rfl⟩;by_cases h:k=x
  ·subst h;simpa using hc
  ·simp[h]
theorem RZ(R:C.Rep ρ s.heap Y){m:Me}{l:Nat}{a:Addr}(ha:ρ[l]?=some a){v:V}{c:Value}(hv:VR ρ v c):C.Snd A (call (.builtin (RT m)) [.ref a,c]) ρ (ac2 m l v Y) VR s:=by
 refine .onS λ o e1=>?_
 induction o with
 |list xs=>
  refine .grd λ hs=>?_
  replace hs:=of_decide_eq_true hs;obtain⟨cs,n,h1,h2⟩:=R.list e1 ha;obtain⟨rfl,hs⟩:=hs;refine kZ λ hk=>λ _=>?_
  refine call_meets F.slot_list_append ⟨_,h1,rfl⟩ F.entry_list_append (F.args_list_append_2 _ _) (list_append a cs n _ (by rw[cg h2];exact cF hs)) ⟨h1,?_⟩;exact Cx.ret0 (R.upd hk ha (Heap.SameBut.update ..) (IsL.update h1 _) ⟨_,_,rfl,by rw[Array.toList_push];exact h2.append (.cons hv .nil)⟩) rfl
 |dict kvs ep=>
  refine .onS λ x e=>.grd λ hm=>?_
  cases of_decide_eq_true hm;obtain⟨u,rfl⟩:=lC hv e;obtain⟨ckvs,h1,h2⟩:=R.dict e1 ha;refine λ _=>call_meetsIn F.slot_dict_get h1.dictOf.typeIs F.entry_dict_get (F.args_dict_get_2 _ _) (meets_dict_get (strKind C.prog C.w) a (strKind_is _ _ _ _) (Mine.Rep.sys R _ (List.mem_of_getElem? ha))) ⟨_,h1.dictOf.mapOf,Cx.ret0 R ?_⟩
  have:=iY h2 x;induction e:kvs.lookup x with
  |none=>rw[e]at this;rw[this];rfl
  |some v=>rw[e]at this;obtain⟨c,h3,h4⟩:=this;rw[h3];exact h4
 |set xs=>
  refine .onS λ x e=>.grd λ hs=>?_
  obtain⟨u,rfl⟩:=lC hv e;replace hs:=of_decide_eq_true hs;obtain⟨rfl,hs⟩:=hs;obtain⟨co,hco,hf⟩:=R.objs _ _ _ e1 ha;refine kZ λ hk=>λ _=>?_
  refine call_set_add (strKind_is _ _ _ _) rfl (hf.setOf hco (by unfold scanBound;lia)) (by unfold scanBound;lia) λ h' hs' hS'=>?_
  obtain⟨co',x',y'⟩:=RV (C:=C) (ρ:=ρ) hS' (Dm xs x).1 (Dm xs x).2;exact Cx.ret0 (R.upd hk ha hs' x' y') rfl
 |_=>exact .of_bad
theorem Dn(R:C.Rep ρ s.heap Y){m:Me}{ov:V}{vs:List V}{cov:Value}{cvs:List Value}(hov:VR ρ ov cov)(hvs:aU (VR ρ) vs cvs):
  C.Snd A (call (.builtin (RT m)) (cov::cvs)) ρ (cD m ov vs Y) VR s:=by
 cases vs with
 |nil=>
  rw[hvs.nil_inv];induction ov with
  |ref l=>obtain⟨a,ha,rfl⟩:=hov;exact RX R ha
  |_=>exact .of_bad
 |cons v r=>induction r with
  |cons _ _=>exact .of_bad
  |nil=>
   obtain⟨c,_,e,hv,q⟩:=hvs.cons_inv;rw[e,q.nil_inv];clear hvs;clear e;induction ov with
   |ref l=>obtain⟨a,ha,rfl⟩:=hov;exact RZ R ha hv
   |str x=>
    obtain⟨t,rfl⟩:=hov;induction v with
    |str y=>obtain⟨u,rfl⟩:=hv;exact WQ R
    |ref l=>
     show C.Snd A _ ρ (if m=.join then Wb x (.ref l) Y else .bad) VR s;by_cases hm:m=.join
     ·subst hm;exact RW R hv
     ·rw[if_neg hm];exact .of_bad
    |_=>exact .of_bad
   |_=>exact .of_bad
end
noncomputable def lZ:Addr:=290
structure WR(prog:Program)(w:World)(hb:Heap):Prop where
 glob:∃mg mb,hb.Ns mainGlobals mg/\hb.Ns builtinsNs mb/\∀x v,V8 x=some v->∃c,(mg x=some c\/mg x=none/\mb x=some c)/\∀ρ:List Addr,ρ[0]?=some lZ->VR ρ v c
inductive agD(hb:Heap)(a:Nat)(f:Fn):Prop
 |mk (o:Obj) (fd:FuncData) (ho:hb.get? a=some o) (hd:o.data=.func fd) (hp:fd.params=f.params) (hbo:fd.body=.stmts f.body) (hs:fd.scope=f.scope) (hg:fd.globals=mainGlobals) (hc:fd.closure=[]) (hbu:fd.builtins=builtinsNs) (hcr:hb.CodeRec fd.code fd.qualname)
  (dl:Option (Array Value)) (hdl:∀(M:Model),Looks M hb (seqItems? fd.defaults) dl) (hd1:f.params.defaults.length=1->dl=some #[.none])
structure R0(hb:Heap)(a:Nat)(f:Fn):Prop where
 obj:agD hb a f
 co:f.scope.isCoroutine=false
 gen:f.scope.isGenerator=false
 kind:f.scope.kind=.function
 names:(f.params.args.map (·.arg)).Nodup
 locals:∀x,(x∈f.params.args.map (·.arg)\/∃r,f.params.vararg=some r/\x=r.arg)->f.scope.names.lookup x=some .local
 cells:(bM f.scope).Nodup
 kinds:∀x∈bM f.scope,f.scope.names.lookup x=some .cell
noncomputable def yR(K:Frag)(x:Str):Bool:=findIn K (.ref 137) x==some none&&takerIn K 137 x==some none
noncomputable def Mx(K:Frag)(p:Str×Nat):Bool:=findIn K (.ref 137) p.1==some (some (.ref p.2))&&isFn K (.ref p.2)
noncomputable def qC:List (Str×Nat×Nat):=[("node",41,0),("npredecessors",42,1),("successors",43,2)]
noncomputable def Gu(K:Frag)(q:Str×Nat×Nat):Bool:=findIn K (.ref 40) q.1==some (some (.ref q.2.1))&&specialIn K (.ref q.2.1) "__get__"==some (some (.builtin "member_descriptor.__get__"))&&takesIn K (.ref q.2.1)==some true&&slotIn K q.2.1 40==some q.2.2&&
 takerIn K 40 q.1==some (some (.ref q.2.1))&&typeIn K (.ref q.2.1)==some (.type "member_descriptor")
noncomputable def Dp(K:Frag)(C:Addr)(fI:Nat):Bool:=plainGet K C ""&&isClsIn K C&&plainOver K C&&findIn K (.ref C) "__setattr__"==some (some (.builtin "object.__setattr__"))&&makesIn K C&&findIn K (.ref C) "__init__"==some (some (.ref fI))&&isFn K (.ref fI)&&keepIn K (.ref C)
noncomputable def R6(K:Frag):Bool:=Dp K 137 73&&Dp K 40 36&&hasDictIn K 137&&bT.all (yR K)&&qt.all (Mx K)&&qC.all (Gu K)&&zG.all (λ p=>keepIn K (.ref p.1))&&yO.all (λ p=>keepIn K (.ref p.1))
structure Mz(prog:Program)(w:World)(hb:Heap):Prop where
 names:∀x:yN,∃mg mb,hb.Ns mainGlobals mg/\hb.Ns builtinsNs mb/\(mg (dw x)=some (nC x)\/mg (dw x)=none/\mb (dw x)=some (nC x))
 tuple:∀x:yN,Looks (model prog w) hb (isInstance (nC x) (.type "tuple")) false
 isExc:∀x:yN,Looks (model prog w) hb (isExcClass (nC x)) true
 sub:∀x:yN,Looks (model prog w) hb (isSubtype (nC x) (nC x)) true
 cyc:∃nm q N bs hdct sn sub ab col dd k0 k1 k2 k3 k5 mN,hb.get? 55=some (excClassObj nm q 55 N bs [.type "ValueError",.type "Exception",.type "BaseException",.type "object"] hdct sn sub ab col dd k0 k1 k2 k3 k5 "ValueError.__new__")/\hb.Ns N mN/\mN "__init__"=none
 ko:∃K:Frag,K.In hb/\R6 K=true
 fns:∀a f,jG a=some f->R0 hb a f
 lim:hb.NoLimit
inductive WfH(prog:Program)(w:World)(h₀:Heap):Prop
 |mk (hb:Heap) (F:WR prog w hb) (kb:∀b o,hb.get? b=some o->h₀.get? b=some o) (F2:Mz prog w hb)
noncomputable def Wf(C:Cx):Prop:=WfH C.prog C.w C.h₀
structure aW(C:Cx)(A:Around)(ρ:List Addr)(en:En)(env:Env):Prop where
 scope:env.scope=en.scope
 kind:env.scope.kind=.function
 locals:env.locals=C.L
 globals:env.globals=mainGlobals
 builtins:env.builtins=builtinsNs
 cells:∀x k,en.cells.lookup x=some k->∃a,env.cells.lookup x=some a/\ρ[k]?=some a
 free:en.free=true->A.handled=none
 units:AUn A
 room:A.units+10*C.room+100 < cLine/\A.depth+C.room < recursionLimit
 files:ρ[0]?=some lZ
 stat:k0<=ρ.length
 own:en.own=true->env.frame=some C.L/\A.frames=some (env::C.FS.map (·.1))/\∀p∈C.FS,p.1.frame=some p.1.locals
theorem aW.mono{C:Cx}{A:Around}{ρ:List Addr}{en:En}{env:Env}(h:aW C A ρ en env)(ρ':List Addr):aW C A (ρ++ρ') en env:=
 ⟨h.scope,h.kind,h.locals,h.globals,h.builtins,λ x k e=>let ⟨a,b,c⟩:=h.cells x k e;⟨a,b,aH c⟩,h.free,h.units,h.room,aH h.files,by have:=h.stat;simp;exact Nat.lt_add_right _ (by assumption),h.own⟩
section
variable {C:Cx}{A:Around}{ρ:List Addr}{s:Shared}{Y:St}{en:En}{env:Env}
theorem Cx.Rep.loc(R:C.Rep ρ s.heap Y):ac9 s.heap C.L ρ Y.loc:=Mine.Rep.loc R
theorem Jp{l:List (Str×Option V)}{x:Str}{v:V}(h:aN l x=some v):l.lookup x=some (some v):=by
 unfold aN at h;induction e:l.lookup x with
 |none=>rw[e]at h;cases h
 |some o=>rw[e]at h;simp at h;rw[h]
theorem Dq(W:Wf C)(EV:aW C A ρ en env)(R:C.Rep ρ s.heap Y)(x:Str):C.Snd A (loadName env x) ρ (I6 en x Y) VR s:=by
 unfold I6;induction hk:en.scope.names.lookup x with
 |none=>exact .of_bad
 |some k=>
  have hk:=(λ k e=>by unfold Env.kindOf;rw[EV.scope];exact e:∀k,en.scope.names.lookup x=some k->env.kindOf x=some k) _ hk;induction k with
  |«local»=>
   refine .onS λ v hv=>?_
   obtain⟨m,h1,h2⟩:=R.loc;obtain⟨c,h3,h4⟩:=h2 x v (Jp hv);exact λ _=>wpAny_loadName_local EV.kind hk (by rw[EV.locals];exact h1) h3 (Cx.ret0 R h4)
  |cell=>
   refine .onS λ k hc=>.onS λ v e=>?_
   obtain⟨a,ha,hr⟩:=EV.cells _ _ hc;obtain⟨co,h1,cv,h2,c,h3,h4⟩:=R.objs _ _ _ (lY (g:=λ v=>.cell (some v)) (λ _ _=>WK) e) hr;subst h3;exact λ _=>wpAny_loadName_cell EV.kind hk ha ⟨co,h1,h2⟩ (Cx.ret0 R h4)
  |globalImplicit=>
   refine .onS λ v hv=>?_
   obtain⟨hb,W,kb,_⟩:=W;obtain⟨mg,mb,g,b,hg⟩:=W.glob;obtain⟨c,h1,h2⟩:=hg x v hv;have h2:=h2 ρ EV.files;refine λ _=>lU λ G toG=>?_
   unfold loadName at toG;simp only[Env.blockKind,EV.kind,hk,ScopeKind.isAnnotationScope,Bool.false_eq_true,if_false]at toG;have kp:=λ b o e=>Mine.Rep.keep R b o (kb b o e)
   rcases h1 with h1|⟨h1,h1'⟩
   ·exact toG (loadGlobal_global (by rw[EV.globals];exact g.keeps kp) h1 (Cx.ret0 R h2))
   ·exact toG (loadGlobal_builtin (by rw[EV.globals];exact g.keeps kp) h1 (by rw[EV.builtins];exact b.keeps kp) h1' (Cx.ret0 R h2))
  |_=>exact .of_bad
theorem Ci(EV:aW C A ρ en env)(R:C.Rep ρ s.heap Y)(x:Str){v:V}{c:Value}(hv:VR ρ v c):C.Snd A (storeName env x c) ρ (cB en x v Y) jH s:=by
 unfold cB;induction hk:en.scope.names.lookup x with
 |none=>exact .of_bad
 |some k=>
  have hk:=(λ k e=>by unfold Env.kindOf;rw[EV.scope];exact e:∀k,en.scope.names.lookup x=some k->env.kindOf x=some k) _ hk;induction k with
  |«local»=>
   obtain⟨m,h1,h2⟩:=R.loc;refine λ _=>wpAny_storeName_local hk (by rw[EV.locals];exact h1) (λ h' hn hs=>?_) (by rw[EV.kind];rfl)
   rw[EV.locals]at hn hs;exact Cx.ret0 (Mine.Rep.setLoc R hn hs (h2.set hv)) trivial
  |cell=>
   refine .onS λ k hc=>.onS λ o e=>?_
   obtain⟨a,ha,hr⟩:=EV.cells _ _ hc;induction o with
   |cell v=>
    obtain⟨co,h1,cv,h2,h3⟩:=R.objs _ _ _ e hr;refine .grd λ hkk=>?_
    refine λ _=>wpAny_storeName_cell EV.kind hk ha ⟨co,h1,h2⟩ λ h' hv' hs=>?_
    obtain⟨o',ho',hd'⟩:=hv';exact Cx.ret0 (R.upd (of_decide_eq_true hkk) hr hs ho' ⟨_,hd',c,rfl,hv⟩) trivial
   |_=>exact .of_bad
  |_=>exact .of_bad
theorem dD(EV:aW C A ρ en env)(R:C.Rep ρ s.heap Y)(x:Str){v:V}{c:Value}(hv:VR ρ v c):C.Snd A (bindName env x c) ρ (cB en x v Y) jH s:=
 λ q=>wpAny_bindName (Ci EV R x hv q)
theorem MF(R:C.Rep ρ s.heap Y)(c:Const):C.Snd A (constValue env c) ρ (Mj c Y) VR s:=by
 unfold Mj;split
 ·exact λ _=>wpAny_pure (Cx.ret0 R rfl)
 ·exact λ _=>wpAny_pure (Cx.ret0 R rfl)
 ·exact λ _=>wpAny_mkInt (Cx.ret0 R ⟨_,rfl⟩)
 ·exact λ _ _ _ _=>Cx.ret0 (tk:=s.toks+1) R ⟨_,rfl⟩
 ·exact .of_bad
end
noncomputable def xR(C:Cx)(f:Value)(h:Heap):Prop:=∃k,(k=Keeper.frame\/k=Keeper.machine\/k=Keeper.boundFrame)/\Looks (model C.prog C.w) h (keeperOf f) k
noncomputable def pQ:nq->Value
 |.user f=>.ref f
 |.bi m=>.builtin (RT m)
structure Ops(C:Cx)(A:Around)(en:En)(env:Env)(cl:Nat->List V->St->ak V):Prop where
 wf:Wf C
 attr:∀{ρ}{s:Shared} {Y v c x},C.Rep ρ s.heap Y->VR ρ v c->C.Snd A (getAttr c x true) ρ (bJ v x Y) VR s
 setAttr:∀{ρ}{s:Shared} {Y v c x u d},C.Rep ρ s.heap Y->VR ρ v c->VR ρ u d->C.Snd A (setAttr c x d) ρ (aX v x u Y) jH s
 callee:∀{ρ}{s:Shared} {Y v c x cal}(pl:Sem Bool),C.Rep ρ s.heap Y->VR ρ v c->iM v x Y=some cal->C.Snd A (getMethod c x pl) ρ (.ok () Y) (λ _ _ p=>p=(pQ cal,[c])) s
 keep:∀{ρ}{s:Shared} {Y f cf vs},C.Rep ρ s.heap Y->VR ρ f cf->zA cl en f vs Y≠.bad->xR C cf s.heap
 call:∀{ρ}{s:Shared} {Y f cf vs cvs},aW C A ρ en env->C.Rep ρ s.heap Y->VR ρ f cf->aU (VR ρ) vs cvs->C.Snd A (call cf cvs) ρ (zA cl en f vs Y) VR s
 keepU:∀{ρ}{s:Shared} {Y f c vs},C.Rep ρ s.heap Y->vL cl en (.user f) c vs Y≠.bad->xR C (.ref f) s.heap
 callU:∀{ρ}{s:Shared} {Y f v c vs cvs},aW C A ρ en env->C.Rep ρ s.heap Y->VR ρ v c->aU (VR ρ) vs cvs->C.Snd A (PySem.call (.ref f) (c::cvs)) ρ (vL cl en (.user f) v vs Y) VR s
section
variable {C:Cx}{A:Around}{ρ:List Addr}{s:Shared}{Y:St}{en:En}{env:Env}{cl:Nat->List V->St->ak V}{ev:Expr->En->St->ak V}{te:Expr->En->St->ak Bool}
noncomputable def yS(C:Cx)(A:Around)(en:En)(env:Env)(ev:Expr->En->St->ak V):Prop:=
 ∀(e:Expr) {ρ}{s:Shared} {Y},aW C A ρ en env->C.Rep ρ s.heap Y->C.Snd A (eval e env) ρ (ev e en Y) VR s
noncomputable def TeS(C:Cx)(A:Around)(en:En)(env:Env)(te:Expr->En->St->ak Bool):Prop:=
 ∀(e:Expr) {ρ}{s:Shared} {Y},aW C A ρ en env->C.Rep ρ s.heap Y->C.Snd A (isTrue e env (eval e env)) ρ (te e en Y) Wy s
theorem VR.app{ρ':List Addr}{v:V}{c:Value}(h:VR ρ v c):VR (ρ++ρ') v c:=h.mono
theorem WT{vs:List V}{cvs:List Value}{ρ':List Addr}(h:aU (VR ρ) vs cvs):aU (VR (ρ++ρ')) vs cvs:=h.mono λ _ _=>VR.mono
theorem Cx.Snd.bind'{α α' β β':Type}{t:Sem β}{f:β->Sem β'}{r:ak α}{rk:α->St->ak α'}{rel:List Addr->α->β->Prop}{rel':List Addr->α'->β'->Prop}(h:C.Snd A t ρ r rel s)
  (k:∀a Y' b h' tk ρ',C.Rep (ρ++ρ') h' Y'->rel (ρ++ρ') a b->C.Snd A (f b) (ρ++ρ') (rk a Y') rel' {s with heap:=h',toks:=tk}):
  C.Snd A (t >>= f) ρ (r.bind rk) rel' s:=h.bind λ a Y' b h' tk ρ' _=>k a Y' b h' tk ρ'
theorem dZ(pos:Pos)(env:Env):∀{es:List Expr},rW es=true->backTo pos (starEach es env)=es.map λ e=>(false,eval e env):=by
 intro es;induction es with
 |nil=>exact λ _=>rfl
 |cons e r ih=>
  intro h;rw[(by induction e using PySem.Expr.casesOn<;>first|rfl|contradiction:starEach (e::r) env=(false,eval e env)::starEach r env),List.map_cons,<-(ih (by induction e using PySem.Expr.casesOn<;>first|exact h|contradiction))];rfl
theorem MJ(x:Sem Value)(rest:List (Bool×Sem Value)):spliced ((false,x)::rest)=(do let v <-x;let vs <-holding [v] (spliced rest);pure (v::vs)):=by
 rw[spliced];rfl
theorem rD{ev:Expr->En->St->ak V}{en:En}:∀{es:List Expr}{Y Y':St}{vs:List V},fM ev es en Y=.ok vs Y'->vs.length=es.length:=by
 intro es;induction es with
 |nil=>intro Y Y' vs e;cases e;rfl
 |cons x r ih=>
  intro Y Y' vs e;dsimp only[fM]at e;induction h1:ev x en Y with
  |bad=>rw[h1]at e;contradiction
  |exc _ _=>rw[h1]at e;contradiction
  |ok v σ₁=>
   simp only[h1,ak.bind_ok]at e;induction h2:fM ev r en σ₁ with
   |bad=>rw[h2]at e;contradiction
   |exc _ _=>rw[h2]at e;contradiction
   |ok us σ₂=>
    rw[h2,ak.bind_ok]at e;simp only[ak.ok.injEq]at e;simp only[<-e.1,List.length_cons,ih h2]
theorem vO(hev:yS C A en env ev):∀(es:List Expr) {ρ}{s:Shared} {Y},aW C A ρ en env->C.Rep ρ s.heap Y->
  C.Snd A (spliced (es.map λ e=>(false,eval e env))) ρ (fM ev es en Y) (λ ρ vs cs=>aU (VR ρ) vs cs) s:=by
 intro es;induction es with
 |nil=>exact λ EV R _=>wpAny_pure (Cx.ret0 R .nil)
 |cons e es ih=>
  intro ρ s Y EV R;show C.Snd A (spliced ((false,eval e env)::es.map λ e=>(false,eval e env))) ρ _ _ s;rw[MJ];refine Cx.Snd.bind' (hev e EV R) λ v σ₁ c hH tk1 ρ1 RA hv=>?_
  refine Cx.Snd.bind' (Cx.Snd.holding (ih (EV.mono _) RA)) λ vs σ₂ cs hV tk2 ρ2 RC hvs=>?_
  exact λ _=>wpAny_pure (Cx.ret0 RC (.cons hv.mono hvs))
theorem tY{pos:Pos}{f:Value}{first:List Value}{es:List Expr}{rk:List V->St->ak V}(hst:rW es=true)(hev:yS C A en env ev)(EV:aW C A ρ en env)(R:C.Rep ρ s.heap Y)
  (hk:∀vs Y' h' tk ρ' cvs,C.Rep (ρ++ρ') h' Y'->aU (VR (ρ++ρ')) vs cvs->rk vs Y'≠.bad->xR C f h'/\C.Snd A (PySem.call f (first++cvs)) (ρ++ρ') (rk vs Y') VR {s with heap:=h',toks:=tk}):
  C.Snd A (callWith pos f first (backTo pos (starEach es env)) (backToKw pos (keywordEach [] env))) ρ ((fM ev es en Y).bind rk) VR s:=by
 rw[dZ pos env hst];intro hb;have hplain:((es.map λ e=>(false,eval e env)).any (·.1)||([]:List (Option Str×Sem Value)).any (·.1.isNone))=false:=by
  simp
 have main:∀(r:ak (List V)),fM ev es en Y=r->wpAny (model C.prog C.w) A (spliced (es.map λ e=>(false,eval e env)))
   (λ cvs sA=>xR C f sA.heap/\wpAny (model C.prog C.w) A (PySem.call f (first++cvs)) (C.Ret ρ s ((fM ev es en Y).bind rk) VR) (C.Exn ρ s ((fM ev es en Y).bind rk)) sA)
   (C.Exn ρ s ((fM ev es en Y).bind rk)) s:=by
  intro r hr;refine wpAny_mono (vO hev es EV R (λ e=>hb (by rw[e];rfl))) ?_ ?_
  ·rintro cvs sA ⟨vs,σ₁,hH,tk1,ρ1,e1,rfl,RA,hvs⟩;rw[e1]at hb ⊢;obtain⟨k1,k2⟩:=hk vs σ₁ hH tk1 ρ1 cvs RA hvs hb;refine⟨k1,wpAny_mono (k2 hb) ?_ ?_⟩
   ·rintro b' s' ⟨a',Y'',h'',tk',ρ'',e,rfl,R',x'⟩;exact⟨a',Y'',h'',tk',ρ1++ρ'',e,rfl,by rw[<-List.append_assoc];exact R',by rw[<-List.append_assoc];exact x'⟩
   ·rintro e s' ⟨x',Y'',h'',tk',ρ'',e1,rfl,e3⟩;exact⟨x',Y'',h'',tk',ρ1++ρ'',e1,rfl,by rw[<-List.append_assoc];exact e3⟩
  ·rintro e s' ⟨x',Y'',h',tk,ρ',e1,e2,e3⟩;rw[e1];exact⟨x',Y'',h',tk,ρ',rfl,e2,e3⟩
 refine callWith_of (P:=xR C f) hplain (λ h hP=>hP) ?_;clear hst hplain;induction es with
 |nil=>
  obtain⟨k1,k2⟩:=hk [] Y s.heap s.toks [] [] (by rw[List.append_nil];exact R) .nil hb;have k3:=k2 hb;rw[List.append_nil ρ]at k3;refine evalArgs_nil3 ⟨k1,?_⟩;exact k3
 |cons e r=>exact evalArgs_plain (main _ rfl)
theorem R7(hev:yS C A en env ev)(op:BoolOp)(pos:Pos):∀(es:List Expr) {ρ}{s:Shared} {Y},aW C A ρ en env->C.Rep ρ s.heap Y->C.Snd A (boolOp pos op (evalEach es env)) ρ (Wi ev op es en Y) VR s:=by
 intro es;induction es with
 |nil=>exact λ EV R=>.of_bad
 |cons e r ih=>
  intro ρ s Y EV R;rcases r with _|⟨e2,r⟩
  ·exact hev e EV R
  refine Cx.Snd.bind' (hev e EV R) λ v σ₁ c hH tk1 ρ1 RA hv=>?_
  refine Cx.Snd.at ?_;refine Cx.Snd.bind' (Cx.Snd.holding (rZ RA hv)) λ t σ₂ b hV tk2 ρ2 RC ht=>?_
  subst ht;have ih:=ih (s:={s with heap:=hV,toks:=tk2}) ((EV.mono _).mono _) RC;induction op<;>induction t<;>first|exact ih|exact λ _=>wpAny_pure (Cx.ret0 RC hv.mono)
theorem WW(hte:TeS C A en env te)(op:BoolOp):∀(es:List Expr) {ρ}{s:Shared} {Y},aW C A ρ en env->C.Rep ρ s.heap Y->C.Snd A (allTrue op es env) ρ (Gf te op es en Y) Wy s:=by
 intro es;induction es with
 |nil=>exact λ EV R _=>wpAny_pure (Cx.ret0 R rfl)
 |cons e r ih=>
  intro ρ s Y EV R;rw[arm_allTrue_cons];refine Cx.Snd.bind' (hte e EV R) λ t σ₂ b hV tk2 ρ2 RC ht=>?_
  subst ht;have ih:=ih (s:={s with heap:=hV,toks:=tk2}) (EV.mono _) RC;induction op<;>induction t<;>first|exact ih|exact λ _=>wpAny_pure (Cx.ret0 RC rfl)
set_option tactic.hygienic true in
theorem tZ{o:Expr}(h:qw o=true)(attr:Str)(env:Env)(whole:Sem Value):attributeBase o attr env whole=whole:=by
 induction o using PySem.Expr.casesOn
 case Call f args kws p=>
  induction f using PySem.Expr.casesOn
  case Name y q=>
   rcases args with _|⟨a,r⟩
   ·rcases kws with _|⟨a,r⟩
    ·exact jz h
    ·rfl
   ·rfl
  all_goals rfl
 all_goals rfl
set_option tactic.hygienic true in
theorem yx(slice:Expr)(o i:Value):∃ops,subscripted slice false o i=operate ops (getItem o i):=by
 induction slice using PySem.Expr.casesOn
 case Slice l u st p=>induction st<;>exact⟨_,rfl⟩
 all_goals exact⟨_,rfl⟩
noncomputable def abC(s:Shared)(o:Value):Prop:=∃T id,s.TypeIs o T/\typeLookup (.type T) "__getitem__"=pure (some (.builtin id))
theorem zQ{value slice:Expr}{o i:Value}{α:Type}{r:ak α}{rel:List Addr->α->Value->Prop}(hT:r≠.bad->abC s o)(h:C.Snd A (getItem o i) ρ r rel s):C.Snd A (subscriptTail value slice o i) ρ r rel s:=by
 obtain⟨ops,hs⟩:=yx slice o i;intro hb;obtain⟨T,id,h1,h2⟩:=hT hb;exact tail_any h1 h2 (h hb) hs
end
section
variable {C:Cx}{A:Around}{ρ:List Addr}{s:Shared}{Y:St}{en:En}{env:Env}{cl:Nat->List V->St->ak V}{ev:Expr->En->St->ak V}{te:Expr->En->St->ak Bool}
theorem Gv(R:C.Rep ρ s.heap Y){value slice:Expr}{a b:V}{ca cb:Value}(ha:VR ρ a ca)(hb:VR ρ b cb):C.Snd A (subscriptTail value slice ca cb) ρ (dz (cM a b Y) Y) VR s:=by
 refine zQ (λ q=>?_) (RP R ha hb);induction a with
 |ref l=>
  obtain⟨x,hx,rfl⟩:=ha;induction e:Y.sto[l]? with
  |none=>exact absurd (show dz ((Y.sto[l]?).bind _) Y=.bad by rw[e];rfl) q
  |some o=>
   induction o with
   |list xs=>obtain⟨cs,n,h1,h2⟩:=R.list e hx;exact⟨"list",_,⟨_,h1,rfl⟩,list_getitem_lookup⟩
   |tup xs=>obtain⟨cs,n,h1,h2⟩:=R.tup e hx;exact⟨"tuple",_,⟨_,h1,rfl⟩,slot_tuple_getitem.lookup⟩
   |dict kvs ep=>obtain⟨ckvs,h1,h2⟩:=R.dict e hx;exact⟨"dict",_,h1.dictOf.typeIs,slot_dict_getitem.lookup⟩
   |_=>exact absurd (show dz ((Y.sto[l]?).bind _) Y=.bad by rw[e];rfl) q
 |str x=>obtain⟨t,rfl⟩:=ha;exact⟨"str",_,typeIs_str _ _ _,F.slot_str_getitem.lookup⟩
 |_=>exact absurd rfl q
inductive Jq:Option Int->Value->Prop
 |none:Jq none .none
 |int (i:Int) (t:Tok):Jq (some i) (.int i t)
theorem xT{v:V}{c:Value}{l:Option Int}(hv:VR ρ v c)(h:jF v=some l):Jq l c:=by
 induction v with
 |none=>cases h;subst hv;exact .none
 |int i=>
  obtain⟨t,rfl⟩:=hv;by_cases q: -1000000<=i/\i<=1000000
  ·cases(if_pos q).symm.trans h;exact .int i t
  ·exact ns ((if_neg q).symm.trans h)
 |_=>exact ns h
theorem Jq.part{l:Option Int}{c:Value}(h:Jq l c):IsPart c l:=by
 induction h with
 |none=>exact .none
 |int i t=>exact .int _ _
theorem lg(h₀:Heap):KeptH λ h'=>∀b o,h₀.get? b=some o->h'.get? b=some o:=λ _ ob x b o e=>Heap.get?_push_of_some ob (x b o e)
theorem Cx.Rep.junk(R:C.Rep ρ s.heap Y){h':Heap}(hk:∀b o,s.heap.get? b=some o->h'.get? b=some o):C.Rep ρ h' Y:=Mine.Rep.junk R hk
theorem t8{M:Model}{E:Value->Shared->Prop}{o i:Value}{Q:Value->Shared->Prop}(h:ItemOn M A E o i Q s):wpAny M A (getItem o i) Q E s:=let ⟨_,_,_,_,q⟩:=h;q
theorem R8(R:C.Rep ρ s.heap Y){value:Expr}{lo up:Option Expr}{p:Pos}{a l u:V}{ca cl' cu:Value}{li ui:Option Int}(ha:VR ρ a ca)(hl:VR ρ l cl')(hu:VR ρ u cu)(el:jF l=some li)(eu:jF u=some ui):
  C.Snd A (subscriptTail value (.Slice lo up none p) ca (.ref s.heap.objs.size)) ρ (Ge a li ui Y) VR {s with heap:=s.heap.push {cls:=.type "slice",data:=.fields #[cl',cu,.none]}}:=by
 have pl:=xT hl el;have pu:=xT hu eu;clear hl hu el eu;induction a with
 |str x=>
  obtain⟨t,rfl⟩:=ha;refine .grd λ hs=>zQ (λ _=>⟨"str",_,typeIs_str _ _ _,F.slot_str_getitem.lookup⟩) λ _=>?_
  have kj:∀{li ui cl' cu h' t' k},(∀b o,s.heap.get? b=some o->h'.get? b=some o)->
    C.Ret ρ {s with heap:=s.heap.push {cls:=.type "slice",data:=.fields #[cl',cu,.none]}} (.ok (.str (Txt.slice x li ui)) Y) VR (.str (Txt.slice x li ui) t') {s with heap:=h',toks:=k}:=
   λ hk=>Cx.ret0 (R.junk hk) ⟨_,rfl⟩
  have hz:=cF hs;clear R;induction pl with
  |none=>
   induction pu with
   |none=>exact t8 (SBH.sliceItem_nn (lg s.heap) (λ _ _ e=>e) (λ _ _ _=>kj) hz)
   |int j uj=>exact t8 (SBH.sliceItem_ns (lg s.heap) (λ _ _ e=>e) (λ _ _ _=>kj) hz)
  |int i ui=>
   induction pu with
   |none=>exact t8 (SBH.sliceItem_sn (lg s.heap) (λ _ _ e=>e) (λ _ _ _=>kj) hz)
   |int j uj=>exact t8 (SBH.sliceItem_ss (lg s.heap) (λ _ _ e=>e) (λ _ _ _=>kj) hz)
 |ref n=>
  obtain⟨x,hx,rfl⟩:=ha;refine .onS λ xs e5=>.grd λ hs=>?_
  have R':=R.junk (h':=s.heap.push {cls:=.type "slice",data:=.fields #[cl',cu,.none]}) λ _ _ e=>Heap.get?_push_of_some _ e
  obtain⟨cs,m,h1,h2⟩:=R'.list (s:={s with heap:=s.heap.push {cls:=.type "slice",data:=.fields #[cl',cu,.none]}}) (cV e5) hx;refine zQ (λ _=>⟨"list",_,⟨_,h1,rfl⟩,list_getitem_lookup⟩) ?_;refine qy R' rfl (o:=.list (cut li ui xs)) ⟨_,_,rfl,?_⟩ λ q=>wpAny_getItem_list_slice h1.isList (Heap.IsSliceOf.new ..) pl.part pu.part .none (by simp) (q s.toks) (by rw[cg h2];exact cF hs)
  rw[kms_pick_eq];unfold kms_pick cut;rw[h2.length];exact((h2.drop _).take _).mono λ _ _=>VR.mono
 |_=>exact .of_bad
end
section
variable {C:Cx}{A:Around}{ρ:List Addr}{s:Shared}{Y:St}{en:En}{env:Env}{cl:Nat->List V->St->ak V}{ev:Expr->En->St->ak V}{te:Expr->En->St->ak Bool}
noncomputable def adf(C:Cx)(A:Around)(en:En)(env:Env)(cl:Nat->List V->St->ak V)(ev:Expr->En->St->ak V)(te:Expr->En->St->ak Bool):Prop:=
 ∀(elt:Expr) (gens:List Comprehension) (scope:Scope) (p:Pos) {ρ}{s:Shared} {Y},aW C A ρ en env->C.Rep ρ s.heap Y->
  C.Snd A (eval (.ListComp elt gens scope p) env) ρ (xN true ev te elt gens scope en Y) VR s/\
  C.Snd A (eval (.SetComp elt gens scope p) env) ρ (xN false ev te elt gens scope en Y) VR s
set_option tactic.hygienic true in
theorem Dr(O:Ops C A en env cl)(hev:yS C A en env ev)(EV:aW C A ρ en env)(R:C.Rep ρ s.heap Y){f:Expr}{args:List Expr}{pos:Pos}
  (he:eval (.Call f args [] pos) env=(do callWith pos (<-eval f env) [] (backTo pos (starEach args env)) (backToKw pos (keywordEach [] env)))):
  C.Snd A (eval (.Call f args [] pos) env) ρ (QG cl ev f args en Y) VR s:=by
 unfold QG;split
 ·rename_i hst
  simp only[he];refine Cx.Snd.bind' (hev f EV R) λ fv σ₁ c hH tk1 ρ1 RA hv=>?_
  refine tY hst hev (EV.mono _) RA λ vs σ₂ hV tk2 ρ2 cvs RC hvs hb=>⟨?_,?_⟩
  ·exact O.keep (s:={s with heap:=hV,toks:=tk2}) RC hv.mono hb
  ·exact O.call (s:={s with heap:=hV,toks:=tk2}) ((EV.mono _).mono _) RC hv.mono hvs
 ·exact .of_bad
theorem Jr(hev:yS C A en env ev)(EV:aW C A ρ en env)(R:C.Rep ρ s.heap Y)(o:Option Expr):C.Snd A (valueOrNone (evalOpt o env)) ρ (Ml ev o en Y) VR s:=by
 induction o with
 |none=>exact λ _=>wpAny_pure (Cx.ret0 R rfl)
 |some e=>exact hev e EV R
theorem WX(m:Me)(h:Heap):xR C (.builtin (RT m)) h:=⟨.machine,.inr (.inl rfl),Looks.now⟩
theorem R9(R:C.Rep ρ s.heap Y):C.Snd A (dictDisplay []) ρ (Y.new (.dict [] 0)) VR s:=by
 refine qy R (o:=.dict [] 0) (co:={cls:=.type "dict",data:=.dict #[]}) rfl ⟨#[],[],rfl,λ _ h=>by simp at h,.nil,.nil,.nil⟩ λ q=>?_
 have:=q s.toks;show wpAny _ A newDict _ _ s;exact wpAny_bind (wpAny_alloc (wpAny_pure this))
theorem QS{α β:Type}{l r:Expr}{k:V->V->St->ak α}{rel:List Addr->α->β->Prop}{t1:Sem Value}{t2:Value->Sem Value}{t3:Value->Value->Sem β}(EV:aW C A ρ en env)
  (h1:C.Snd A t1 ρ (ev l en Y) VR s) (h2:∀c ρ (s:Shared) Y,aW C A ρ en env->C.Rep ρ s.heap Y->C.Snd A (t2 c) ρ (ev r en Y) VR s)
  (h3:∀{u v:V}{Y':St}{cu cv:Value}{ρ':List Addr}{s':Shared},aW C A (ρ++ρ') en env->C.Rep (ρ++ρ') s'.heap Y'->VR (ρ++ρ') u cu->VR (ρ++ρ') v cv->C.Snd A (t3 cu cv) (ρ++ρ') (k u v Y') rel s'):
  C.Snd A (t1 >>= λ a=>t2 a >>= λ b=>t3 a b) ρ (zE ev l r en k Y) rel s:=by
 refine Cx.Snd.bind' h1 λ v σ₁ c hH tk1 ρ1 RA hv=>?_
 refine Cx.Snd.bind' (h2 c _ {s with heap:=hH,toks:=tk1} _ (EV.mono _) RA) λ u σ₂ d hV tk2 ρ2 RC hu=>?_
 have:=h3 (ρ':=ρ1++ρ2) (s':={s with heap:=hV,toks:=tk2}) (EV.mono _) (by rw[<-List.append_assoc];exact RC) (by rw[<-List.append_assoc];exact hv.mono) (by rw[<-List.append_assoc];exact hu);rw[List.append_assoc];exact this
theorem jL(hev:yS C A en env ev)(EV:aW C A ρ en env)(R:C.Rep ρ s.heap Y){l r:Expr}{α β:Type}{k:V->V->St->ak α}{rel:List Addr->α->β->Prop}{t3:Value->Value->Sem β}
  (h3:∀{u v:V}{Y':St}{cu cv:Value}{ρ':List Addr}{s':Shared},aW C A (ρ++ρ') en env->C.Rep (ρ++ρ') s'.heap Y'->VR (ρ++ρ') u cu->VR (ρ++ρ') v cv->C.Snd A (t3 cu cv) (ρ++ρ') (k u v Y') rel s'):
  C.Snd A (eval l env >>= λ a=>PySem.holding [a] (eval r env) >>= λ b=>t3 a b) ρ (zE ev l r en k Y) rel s:=
 QS EV (hev l EV R) (λ _ _ _ _ EV R=>Cx.Snd.holding (hev r EV R)) h3
theorem Ds{op:CmpOp}{r:Expr}(hr:oU r=false):markedEach [op] [r] (evalEach [r] env)=[eval r env]:=by
 show [markedBehindIn op r (eval r env)]=_;dsimp only[markedBehindIn];have:behindInMarks op r=false:=by induction r using PySem.Expr.casesOn<;>first|rfl|contradiction
 rw[this]
set_option tactic.hygienic true in
theorem Js{α β:Type}{l:Expr}{ops:List CmpOp}{rs:List Expr}{k:Bool->St->ak α}{rel:List Addr->α->β->Prop}{t:Sem β}
  (h:∀op r,ops=[op]->rs=[r]->oU r=false->C.Snd A t ρ (zE ev l r en (λ a b Y=>(aG (rR op a b Y) Y).bind k) Y) rel s):C.Snd A t ρ (abz ev l ops rs en k Y) rel s:=by
 unfold abz;refine .onS λ op e1=>.onS λ r e2=>?_
 cases fJ e1;cases fJ e2;induction hr:oU r with
 |true=>exact .of_bad
 |false=>exact h _ _ rfl rfl hr
set_option tactic.hygienic true in
theorem Dt(hev:yS C A en env ev)(EV:aW C A ρ en env)(R:C.Rep ρ s.heap Y){es:List Expr}{pos:Pos}{mk:List V->O}{t:List Value->Sem Value}
  (h:∀{ρ}{s:Shared}{Y:St}{vs:List V}{cs:List Value},C.Rep ρ s.heap Y->aU (VR ρ) vs cs->cs.length<=sizeLine->C.Snd A (t cs) ρ (Y.new (mk vs)) VR s):C.Snd A (spliced (backTo pos (starEach es env)) >>= t) ρ (QJ ev es en mk Y) VR s:=by
 unfold QJ;split
 ·rename_i hs
  rw[Bool.and_eq_true]at hs;rw[dZ _ _ hs.1];have hz:=cF hs.2;refine Cx.Snd.bind (vO hev _ EV R) λ vs σ₁ cs hH tk1 ρ1 e1 RA hv=>?_
  exact h (s:={s with heap:=hH,toks:=tk1}) RA hv (by rw[<-hv.length,(rD e1)];exact hz)
 ·exact .of_bad
set_option tactic.hygienic true in
theorem Sd(O:Ops C A en env cl)(hev:yS C A en env ev)(EV:aW C A ρ en env)(R:C.Rep ρ s.heap Y){o:Expr}{name:Str}{apos pos:Pos}{args:List Expr}:
  C.Snd A (eval (.Call (.Attribute o name apos) args [] pos) env) ρ (Wl cl ev o name apos pos args en Y) VR s:=by
 unfold Wl;split
 ·rename_i hs
  simp only[Bool.and_eq_true]at hs;obtain⟨⟨⟨hs1,hs2⟩,hs3⟩,hs4⟩:=hs;simp only[arm_eval_Call,tZ hs2];refine Cx.Snd.bind' (hev _ EV R) λ ov σ₁ c hH tk1 ρ1 RA hv=>?_
  refine Cx.Snd.at ?_;split
  ·rename_i cal hcal
   dsimp only[methodCall];have hf:methodCallForm (args.length+([]:List Keyword).length) (backTo pos (starEach args env)) (backToKw pos (keywordEach [] env))=true:=by
    rw[dZ _ _ hs1];unfold methodCallForm;simp[hs3,backToKw,keywordEach]
   rw[hf];refine Cx.Snd.bind' (r:=.ok () σ₁) (rk:=λ _ Y=>(fM ev args en Y).bind λ vs Y=>vL cl en cal ov vs Y) (Cx.Snd.holding (O.callee _ RA hv hcal)) λ _ σ₂ fp hV tk2 ρ2 RC hfp=>?_
   clear hcal;subst hfp;have hp:methodCallPos true o env apos pos=pure pos:=by
    unfold methodCallPos;simp[hs4]
   simp only[hp];refine tY hs1 hev (((EV.mono _).mono _)) RC λ vs Y3 hW tk3 ρ3 cvs RE hvs hb=>?_
   induction cal with
   |user f=>exact⟨O.keepU (s:={s with heap:=hW,toks:=tk3}) RE hb,O.callU (s:={s with heap:=hW,toks:=tk3}) (((EV.mono _).mono _).mono _) RE hv.mono.mono hvs⟩
   |bi m=>exact⟨WX m _,Dn (s:={s with heap:=hW,toks:=tk3}) RE hv.mono.mono hvs⟩
  ·exact .of_bad
 ·exact .of_bad
theorem Sg(O:Ops C A en env cl)(hev:yS C A en env ev)(EV:aW C A ρ en env)(R:C.Rep ρ s.heap Y){f:Expr}{args:List Expr}{pos:Pos}:
  C.Snd A (eval (.Call f args [] pos) env) ρ (Wm cl ev f args pos en Y) VR s:=by
 unfold Wm;have k:=jl f;generalize view f=w at k ⊢;induction w with
 |attr o a p=>cases k;exact Sd O hev EV R
 |name x=>obtain⟨p,rfl⟩:=k;exact Dr O hev EV R rfl
 |sub o i=>obtain⟨p,rfl⟩:=k;exact Dr O hev EV R rfl
 |_=>exact .of_bad
set_option tactic.hygienic true in
theorem MK(hev:yS C A en env ev)(EV:aW C A ρ en env)(R:C.Rep ρ s.heap Y){o:Expr}{lo up st:Option Expr}{p pos:Pos}:
  C.Snd A (eval (.Subscript o (.Slice lo up st p) pos) env) ρ (Wn ev o lo up st en Y) VR s:=by
 induction st with
 |some _=>exact .of_bad
 |none=>
 show C.Snd A _ _ ((ev o en Y).bind λ ov Y=>(Ml ev lo en Y).bind λ l Y=>(Ml ev up en Y).bind λ h Y=>onS (jF l) λ l=>onS (jF h) λ h=>Ge ov l h Y) _ _;rw[arm_eval_Subscript];refine Cx.Snd.bind' (hev _ EV R) λ v σ₁ c hH tk1 ρ1 RA hv=>?_
 refine Cx.Snd.unhold ?_;rw[arm_eval_Slice];simp only[bind_assoc];refine Cx.Snd.bind' (Jr hev (EV.mono _) RA lo) λ l σ₂ cl' hV tk2 ρ2 RC hl=>?_
 refine Cx.Snd.bind' (Cx.Snd.holding (Jr hev ((EV.mono _).mono _) RC up)) λ u Y3 cu hW tk3 ρ3 RE hu=>?_
 refine Cx.Snd.unhold ?_;have hn:valueOrNone (evalOpt none env)=pure .none:=rfl;rw[hn,pure_bind];refine .onS λ li e1=>.onS λ ui e2 hb=>?_
 refine wpAny_bind ?_;unfold newFields;refine wpAny_newObj_type ?_;exact wpAny_bind (wpAny_standAt (Cx.same (R8 (s:={s with heap:=hW,toks:=tk3}) (value:=o) (lo:=lo) (up:=up) (p:=p) RE hv.mono.mono hl.mono hu e1 e2 hb)))
theorem WY(hev:yS C A en env ev)(EV:aW C A ρ en env)(R:C.Rep ρ s.heap Y){o i:Expr}{pos:Pos}:
  C.Snd A (eval (.Subscript o i pos) env) ρ (ad7 ev o i en Y) VR s:=by
 have main:C.Snd A (eval (.Subscript o i pos) env) ρ (zE ev o i en (λ ov iv Y=>dz (cM ov iv Y) Y) Y) VR s:=by
  rw[arm_eval_Subscript];exact jL hev EV R λ _ R hv hu=>Cx.Snd.at (Gv R hv hu)
 unfold ad7;have k:=jl i;generalize view i=w at k ⊢;induction w with
 |slice lo up st=>obtain⟨p,rfl⟩:=k;exact MK hev EV R
 |_=>exact main
theorem abD(R:C.Rep ρ s.heap Y){op:UnaryOp}{v:V}{c:Value}(hv:VR ρ v c):C.Snd A (PySem.unaryOp op c) ρ (QH op v Y) VR s:=by
 induction op
 case Not=>
  show C.Snd A (PySem.holding [c] (truthy c >>= λ t=>pure (.bool (!t)))) _ _ VR _;refine Cx.Snd.holding (Cx.Snd.bind' (rZ R hv) λ t σ₂ b hV tk2 ρ2 RC ht=>?_);subst ht;exact λ _=>wpAny_pure (Cx.ret0 RC rfl)
 case USub=>
  unfold QH;dsimp only;split
  ·obtain⟨t,rfl⟩:=hv;exact λ _=>P.neg_int (Cx.ret0 R ⟨_,rfl⟩)
  ·exact .of_bad
 all_goals exact .of_bad
set_option tactic.hygienic true in
theorem Sh(O:Ops C A en env cl)(hev:yS C A en env ev)(hte:TeS C A en env te)(hcomp:adf C A en env cl ev te):yS C A en env (Wo cl ev te):=by
 intro e ρ s Y EV R;induction e using PySem.Expr.casesOn
 case Constant=>exact MF R _
 case Name id pos=>
  show C.Snd A _ _ (if id==("__debug__":Str)then .bad else I6 en id Y) _ _;split
  ·exact .of_bad
  ·rename_i hd
   refine Cx.Snd.at ?_;rw[if_neg hd];exact Dq O.wf EV R id
 case BoolOp=>exact R7 hev _ _ _ EV R
 case NamedExpr t v p=>
  show C.Snd A _ _ (match gH t with
   |some x=>(ev v en Y).bind λ a Y=>(cB en x a Y).bind λ _ Y=>.ok a Y
   |none=>.bad) _ _
  split
  ·rename_i x hx
   obtain⟨q,rfl⟩:=gY hx;refine Cx.Snd.bind' (hev _ EV R) λ v σ₁ c hH tk1 ρ1 RA hv=>?_
   refine Cx.Snd.bind' (rel:=jH) (Cx.Snd.holding ?_) λ _ σ₂ _ hV tk2 ρ2 RC _=>λ _=>wpAny_pure (Cx.ret0 RC hv.mono)
   exact Cx.Snd.at (dD (EV.mono _) RA _ hv)
  ·exact .of_bad
 case BinOp l op r p=>
  exact jL hev EV R λ _ R hv hu=>Cx.Snd.at (Cx.Snd.operate (WM R hv hu))
 case UnaryOp op x p=>
  refine Cx.Snd.bind' (hev _ EV R) λ v σ₁ c hH tk1 ρ1 RA hv=>?_
  refine Cx.Snd.at (Cx.Snd.holding ?_);exact abD (s:={s with heap:=hH,toks:=tk1}) RA hv
 case IfExp t b o p=>
  refine Cx.Snd.bind' (hte _ EV R) λ v σ₁ c hH tk1 ρ1 RA hv=>?_
  subst hv;split
  ·exact hev _ (EV.mono _) RA
  ·exact hev _ (EV.mono _) RA
 case Dict ks vs p=>
  show C.Snd A _ _ (if ks.isEmpty&&vs.isEmpty then Y.new (.dict [] 0)else .bad) _ _;split
  ·rename_i hs
   rw[Bool.and_eq_true,List.isEmpty_iff,List.isEmpty_iff]at hs;obtain⟨rfl,rfl⟩:=hs;exact Cx.Snd.at (R9 R)
  ·exact .of_bad
 case List es p=>
  exact Cx.Snd.at (Dt hev EV R λ R hv hz=>qy R (o:=.list _) rfl ⟨_,0,rfl,by exact hv.mono λ _ _=>VR.mono⟩ λ q=>wpAny_newList (q _) hz)
 case Tuple es c p=>
  exact Cx.Snd.at (Dt hev EV R λ R hv hz=>qy R (o:=.tup _) rfl ⟨_,0,rfl,by exact hv.mono λ _ _=>VR.mono⟩ λ q=>wpAny_newTuple (q _) hz)
 case ListComp elt gens scope p=>exact(hcomp elt gens scope p EV R).1
 case SetComp elt gens scope p=>exact(hcomp elt gens scope p EV R).2
 case Compare l ops rs p=>
  refine Js λ op r e1 e2 hr=>?_
  subst e1 e2;rw[arm_eval_Compare,Ds hr];refine jL hev EV R λ{v u σ₂ _ _ _ sB} EV R hv hu=>Cx.Snd.at (Cx.Snd.operate ?_)
  have:=Jl R EV.units (op:=op) hv hu;induction e:rR op v u σ₂ with
  |none=>exact .of_bad
  |some b=>rw[e]at this;exact λ q=>wpAny_mono (this nofun) (λ _ _ ⟨a,Y',h',tk,ρ',e1,e2,e3,e4⟩=>by
    cases e1;exact⟨_,_,h',tk,ρ',rfl,e2,e3,e4⟩) λ _ _ ⟨x,Y',h',tk,ρ',e1,_,_⟩=>by contradiction
 case Call f args kws pos=>
  induction kws with
  |nil=>exact Sg O hev EV R
  |cons _ _=>exact .of_bad
 case JoinedStr es p=>
  show C.Snd A _ _ (match es with
   |[e]=>ev e en Y
   |_=>.bad) _ _
  split
  ·simp only[arm_eval_JoinedStr];exact hev _ EV R
  ·exact .of_bad
 case Attribute o a p=>
  show C.Snd A _ _ (if qw o then(ev o en Y).bind λ ov Y=>bJ ov a Y else .bad) _ _;split
  ·rename_i hs
   simp only[arm_eval_Attribute,tZ hs];refine Cx.Snd.bind' (hev _ EV R) λ v σ₁ c hH tk1 ρ1 RA hv=>?_
   refine Cx.Snd.at (Cx.Snd.map (Cx.Snd.holding (O.attr RA hv)) λ u σ₂ d hV tk2 ρ2 _ RC hu=>?_);exact λ _=>wpAny_bind (wpAny_letTemporaryGo (wpAny_pure (Cx.ret0 RC hu)))
  ·exact .of_bad
 case Subscript=>exact WY hev EV R
 all_goals exact .of_bad
end
section
variable {C:Cx}{A:Around}{ρ:List Addr}{s:Shared}{Y:St}{en:En}{env:Env}{cl:Nat->List V->St->ak V}{ev:Expr->En->St->ak V}{te:Expr->En->St->ak Bool}
theorem abE{α:Type}(r:ak α):(r.bind λ t Y=>.ok t Y)=r:=by induction r<;>rfl
theorem xU(hev:yS C A en env ev)(EV:aW C A ρ en env)(R:C.Rep ρ s.heap Y){e:Expr}(he:isTrue e env (eval e env)=(do let v <-eval e env;standAt e.pos;PySem.holding [v] (truthy v))):
  C.Snd A (isTrue e env (eval e env)) ρ (Mq ev e en Y) Wy s:=by
 rw[he];refine Cx.Snd.bind' (hev _ EV R) λ v σ₁ c hH tk1 ρ1 RA hv=>?_
 exact Cx.Snd.at (Cx.Snd.holding (rZ RA hv))
set_option tactic.hygienic true in
theorem Sq(hev:yS C A en env ev)(hte:TeS C A en env te):TeS C A en env (Wq ev te):=by
 intro e ρ s Y EV R;induction e using PySem.Expr.casesOn
 case UnaryOp op x p=>
  show C.Snd A _ _ (if op== .Not then(te x en Y).bind λ t Y=>.ok (!t) Y else Mq ev (.UnaryOp op x p) en Y) _ _;split
  ·rename_i h
   induction op<;>first|cases h|skip
   refine Cx.Snd.bind' (hte _ EV R) λ v σ₁ c hH tk1 ρ1 RA hv=>?_
   subst hv;exact λ _=>wpAny_pure (Cx.ret0 RA rfl)
  ·rename_i h
   refine xU hev EV R ?_;induction op<;>first|rfl|exact absurd rfl h
 case BoolOp op es p=>
  exact WW hte _ _ EV R
 case Compare l ops rs p=>
  refine Js λ op r e1 e2 hr=>?_
  subst e1 e2;rw[arm_isTrue_Compare,Ds hr];refine jL hev EV R λ EV R hv hu=>Cx.Snd.at ?_
  rw[abE];refine Cx.Snd.map (Cx.Snd.operate (Jl R EV.units hv hu)) λ b Y3 cE hW tk3 ρ3 _ RE hb=>?_
  subst hb;exact Cx.Snd.holding λ _=>wpAny_truthy_bool (Cx.ret0 RE rfl)
 case IfExp=>exact .of_bad
 all_goals exact xU hev EV R rfl
end
set_option tactic.hygienic true in
noncomputable def m9(ρ:List Addr):Fl->Flow->Prop
 |.next,f=>f=.next
 |.brk,f=>f=.brk
 |.cont,f=>f=.cont
 |.ret v,f=>∃c,f=.ret c/\VR ρ v c
theorem m9.mono{ρ ρ':List Addr}{a:Fl}{f:Flow}(h:m9 ρ a f):m9 (ρ++ρ') a f:=by
 induction a<;>first|exact h|(obtain⟨c,h1,h2⟩:=h;exact⟨c,h1,h2.mono⟩)
namespace SI
theorem entry_iter:entryFor table "set.__iter__"=some Builtin.«frozenset.__iter__»:=entryFor_alias (id':="frozenset.__iter__") (by kernel_rfl) (by decide+kernel) (by decide+kernel) (by kernel_rfl)
theorem slot_next:Slot "set_iterator" "__next__" "set_iterator.__next__":=
 .of (owner:="set_iterator") (n:="__next__") (by rw[typeLookup_type];kernel_rfl) (by decide+kernel) (by decide+kernel) (by decide+kernel)
  (by first|exact .inl (by decide+kernel)|exact .inr (by decide+kernel)) (by rw[isSubtype_type];kernel_rfl)
theorem entry_next:entryFor table "set_iterator.__next__"=some Builtin.«set_iterator.__next__»:=entryFor_of_tree (by kernel_rfl)
theorem args_next(a:Value):argsOk "set_iterator.__next__" ⟨[a],[]⟩:=by unfold argsOk;kernel_rfl
end SI
noncomputable def lE(led b:Bool):SetTable:=(layNew (.fresh 0 0 led) #[] (hashInt (if b then 1 else 0)) (.bool b)).2.1
noncomputable def Gw(b:Bool):Array (Int×Value):=#[(hashInt (if b then 1 else 0),.bool b)]
theorem mj(led b:Bool):(lE led b).fits (Gw b).size=true:=by cases led<;>induction b<;>decide+kernel
theorem Du(led b:Bool):(lE led b).plain=true:=by cases led<;>induction b<;>decide+kernel
theorem abF(led b:Bool):(lE led b).led=led:=by cases led<;>induction b<;>decide+kernel
noncomputable abbrev Gx(a:Addr)(slot i:Nat):Obj:={cls:=.type "set_iterator",dict:=none,data:=.fields #[rawInt slot,rawInt i,.ref a,rawInt 1,rawInt 1],slots:=#[]}
section
variable {prog:Program}{w:World}{A:Around}{E:Value->Shared->Prop}{s:Shared}
noncomputable abbrev zR(led b:Bool):Obj:={cls:=.type "set",dict:=none,data:=.set (Gw b) 1 (lE led b),slots:=#[]}
theorem Ss{a:Addr}{led b:Bool}(ha:s.heap.get? a=some (zR led b)){Q:Bool->Shared->Prop}(h:Q false s):wpAny (model prog w) A (setDrawn a) Q E s:=by
 refine wpAny_bind (wpAny_setState_of ha rfl (mj led b) ?_);refine wpAny_bind (wpAny_bind (wpAny_askSetting (wpAny_pure ?_)));show wpAny _ _ (pure (!w.params.followText "set-order"&&(!(lE led b).plain&&decide ((Gw b).size > 1)))) _ _ _;simp only[Du,Bool.not_true,Bool.false_and,Bool.and_false];exact wpAny_pure h
theorem W0{a:Addr}{led b:Bool}(ha:s.heap.get? a=some (zR led b)){Q:Value->Shared->Prop}(h:Q (.ref s.heap.objs.size) {s with heap:=s.heap.push (Gx a 0 0)}):wpAny (model prog w) A (pyIter (.ref a)) Q E s:=by
 have hT:s.TypeIs (.ref a) "set":=⟨_,ha,rfl⟩;refine wpAny_pyIter_slot hT PySem.F.slot_set_iter (wpAny_call_entry PySem.F.slot_set_iter hT SI.entry_iter ?_ (PySem.F.args_set_iter_1 _));refine wpAny_bind (wpAny_bind (wpAny_pure (wpAny_pure ?_)));refine wpAny_bind (wpAny_bind (wpAny_setEntries_of ha rfl (mj led b) (wpAny_pure ?_)));refine wpAny_bind (Ss ha ?_);refine wpAny_bind (wpAny_pure ?_);refine wpAny_bind (wpAny_setEpoch_of ha rfl (mj led b) ?_);exact wpAny_bind (wpAny_newObj_type (wpAny_pure ⟨_,rfl,"set_iterator",_,⟨_,Heap.get?_push_size _ rfl,rfl⟩,SI.slot_next.lookup,h⟩))
noncomputable def Sv(w:World)(b:Bool):Nat:=if w.params.followText "set-order" then 0 else((lE true b).place.getD 0 0)+1
theorem W2{α:Type}(f:Nat->Nat)(x:α):pickOrder f #[x]=#[x]:=by
 show(match [x][f 0 % 1]? with
  |some y=>pickOrder.go f 0 1 ([x].eraseIdx (f 0 % 1)) (#[].push y)
  |none=>#[])=_
 rw[Nat.mod_one];rfl
theorem W3{a:Addr}{b:Bool}(k:Nat)(hk:k < 2)(ha:s.heap.get? a=some (zR (!w.params.followText "set-order") b)){Q:Option (Value×Nat)->Shared->Prop}
  (h:Q (if k=0 then some (.bool b,Sv w b)else none) s):wpAny (model prog w) A (setNext a (if k=0 then 0 else Sv w b) k 1) Q E s:=by
 unfold setNext;refine wpAny_bind (wpAny_setState_of ha rfl (mj _ b) ?_);unfold setsByText;refine wpAny_bind (wpAny_bind (wpAny_askSetting (wpAny_pure ?_)));unfold Sv at*;induction q:w.params.followText "set-order" with
 |true=>
  rw[q]at h ha;show wpAny _ _ (if w.params.followText "set-order"=true then _ else _) _ _ _;rw[if_pos q,if_neg (show ¬ ((1:Nat) != 1)=true by decide)];unfold setWalk;refine wpAny_bind (wpAny_bind (wpAny_setState_of ha rfl (mj _ b) ?_));unfold setsByText;refine wpAny_bind (wpAny_bind (wpAny_askSetting (wpAny_pure ?_)));show wpAny _ _ (if w.params.followText "set-order"=true then _ else _) _ _ _;rw[if_pos q];refine wpAny_bind (wpAny_askSetting (wpAny_pure (wpAny_pure ?_)));have e:∀f:Nat->Nat,pickOrder f (Gw b)=Gw b:=λ f=>W2 f _
  rw[e];rcases k with _|_|k
  ·exact h
  ·exact h
  ·assumption
 |false=>
  rw[q]at h ha;show wpAny _ _ (if w.params.followText "set-order"=true then _ else _) _ _ _;rw[if_neg (by rw[q];decide)];show wpAny _ _ (if(!(lE (!false) b).plain&&decide ((Gw b).size > 1))=true then _ else _) _ _ _;rw[Du,Bool.not_true,Bool.false_and,if_neg Bool.false_ne_true];show wpAny _ _ ((if(!(lE (!false) b).led&&!(Gw b).isEmpty)=true then _ else pure ()) >>= _) _ _ _;rw[abF,Bool.not_not,Bool.false_and,if_neg Bool.false_ne_true];refine wpAny_bind (wpAny_pure (wpAny_pure ?_));rcases k with _|_|k
  ·have e:SetTable.below (lE true b).place 0=0:=by induction b<;>decide+kernel
   have e2:(lE true b).place[0]?=some ((lE true b).place.getD 0 0):=by induction b<;>decide+kernel
   show Q (match(Gw b)[SetTable.below (lE true b).place 0]?,(lE true b).place[SetTable.below (lE true b).place 0]? with|some (_,x),some j=>some (x,j+1)|_,_=>none) s;rw[e,e2];exact h
  ·have e:SetTable.below (lE true b).place ((lE true b).place.getD 0 0+1)=1:=by induction b<;>decide+kernel
   show Q (match(Gw b)[SetTable.below (lE true b).place ((lE true b).place.getD 0 0+1)]?,(lE true b).place[SetTable.below (lE true b).place ((lE true b).place.getD 0 0+1)]? with|some (_,x),some j=>some (x,j+1)|_,_=>none) s;rw[e];exact h
  ·lia
theorem Jt{a it:Addr}{b:Bool}(k:Nat)(hk:k < 2)(hh:A.handled=none)(ha:s.heap.get? a=some (zR (!w.params.followText "set-order") b))(hi:s.heap.get? it=some (Gx a (if k=0 then 0 else Sv w b) k)){Q:Option Value->Shared->Prop}
  (h:∀h',Heap.ExtBut it s.heap h'->(k=0->h'.get? it=some (Gx a (Sv w b) 1))->Q (if k=0 then some (.bool b)else none) {s with heap:=h'}):wpAny (model prog w) A (pyNext (.ref it)) Q E s:=by
 have hT:s.TypeIs (.ref it) "set_iterator":=⟨_,hi,rfl⟩;refine wpAny_bind (wpAny_attempt (wpAny_callSpecial?_slot (name:=Str.ofString "__next__") hT SI.slot_next (wpAny_call_entry SI.slot_next hT SI.entry_next ?_ (SI.args_next _))));refine wpAny_bind (wpAny_pure ?_);refine wpAny_bind (wpAny_fieldsOf hi rfl ?_);refine wpAny_bind (wpAny_setEntries_of ha rfl (mj _ b) ?_);refine wpAny_bind (W3 k hk ha ?_);rcases k with _|_|k
 ·rw[if_pos rfl];refine wpAny_bind (wpAny_setField hi rfl (by simp) ?_);have h1:=Heap.get?_update_self (Obj.mapFields (·.setIfInBounds 0 (rawInt (Sv w b)))) hi rfl;refine wpAny_bind (wpAny_setField h1 rfl (by simp) ?_);refine wpAny_pure ⟨_,rfl,wpAny_pure (h _ ((Heap.SameBut.update ..).extBut.trans (Heap.SameBut.update ..).extBut) λ _=>?_)⟩;exact(Heap.get?_update_self (Obj.mapFields (·.setIfInBounds 1 (rawInt (((0:Nat):Int)+1)))) h1 rfl)
 ·rw[if_neg (by decide)];refine wpAny_bind (wpAny_setField hi rfl (by simp) ?_);refine wpAny_bind ?_;refine wpAny_bind (m:=firstArgMember _ _) (wpAny_of_eq (a:=Value.none) (by first|rfl|(simp only[firstArgMember];rfl)) ?_);refine wpAny_newObj_type ?_ (by size_fits);refine wpAny_bind (wpAny_handled ?_);rw[show A.in1.handled=none from hh];refine wpAny_bind (wpAny_pure (wpAny_throw ?_));refine wpAny_bind (wpAny_isInstance (T:="StopIteration") (b:=true) ⟨_,Heap.get?_push_size _ rfl,rfl⟩ isSubtype_stop ?_);exact wpAny_pure (h _ (((Heap.SameBut.update ..).extBut.push _).push _) λ z=>by contradiction)
 ·lia
theorem MN{a:Addr}{b:Bool}{Q:List Value->Shared->Prop}(hh:A.handled=none)(ha:s.heap.get? a=some (zR (!w.params.followText "set-order") b))
  (h:∀h',(∀x o,s.heap.get? x=some o->h'.get? x=some o)->Q [.bool b] {s with heap:=h'}):wpAny (model prog w) A (unpackItems (.ref a) 1 none) Q E s:=by
 refine wpAny_bind (wpAny_bind (wpAny_specialOf (⟨_,ha,rfl⟩) PySem.F.slot_set_iter.lookup ?_));refine wpAny_pure ?_;refine wpAny_bind (wpAny_holding (W0 ha ?_));refine wpAny_bind (wpAny_holding ?_);refine wpAny_bind (Jt (s:={s with heap:=s.heap.push (Gx a 0 0)}) (a:=a) 0 (by simp) hh (Heap.get?_push_of_some _ ha) (Heap.get?_push_size _ rfl) λ h2 k2 e2=>?_);refine wpAny_bind (wpAny_holding (wpAny_pure (wpAny_pure ?_)));refine wpAny_bind (wpAny_holding (Jt (s:={s with heap:=h2}) (a:=a) 1 (by simp) hh (k2 a _ (Nat.ne_of_lt (Heap.lt_size ha)) (Heap.get?_push_of_some _ ha)) (e2 rfl) λ h3 k3 _=>?_));exact wpAny_pure (h h3 λ x o e=>k3 x o (Nat.ne_of_lt (Heap.lt_size e)) (k2 x o (Nat.ne_of_lt (Heap.lt_size e)) (Heap.get?_push_of_some _ e)))
end
section
variable {C:Cx}{A:Around}{ρ:List Addr}{s:Shared}{Y:St}{en:En}{env:Env}{cl:Nat->List V->St->ak V}{n:Nat}{ex:Stmt->En->St->ak Fl}
noncomputable def ExS(C:Cx)(A:Around)(en:En)(env:Env)(ex:Stmt->En->St->ak Fl):Prop:=
 ∀(t:Stmt) {ρ}{s:Shared} {Y},aW C A ρ en env->C.Rep ρ s.heap Y->C.Snd A (exec t env) ρ (ex t en Y) m9 s
set_option tactic.hygienic true in
theorem cU(hex:ExS C A en env ex):∀(ts:List Stmt) {ρ}{s:Shared} {Y},aW C A ρ en env->C.Rep ρ s.heap Y->C.Snd A (execs ts env) ρ (aK ex ts en Y) m9 s:=by
 intro ts;induction ts with
 |nil=>exact λ EV R _=>wpAny_pure (Cx.ret0 R rfl)
 |cons t r ih=>
  intro ρ s Y EV R;refine Cx.Snd.bind' (hex t EV R) λ fl σ₁ f hH tk1 ρ1 RA hf=>?_
  induction fl with
  |next=>subst hf;exact(ih (s:={s with heap:=hH,toks:=tk1}) (EV.mono _) RA)
  |brk=>subst hf;exact λ _=>wpAny_pure (Cx.ret0 RA rfl)
  |cont=>subst hf;exact λ _=>wpAny_pure (Cx.ret0 RA rfl)
  |ret v=>obtain⟨c,rfl,hv⟩:=hf;exact λ _=>wpAny_pure (Cx.ret0 RA ⟨c,rfl,hv⟩)
theorem vP{prog:Program}{w:World}{E:Value->Shared->Prop}{a:Addr}{b:Bool}{co:Obj}{Q:List Value->Shared->Prop}(hh:A.handled=none)(hco:s.heap.get? a=some co)(hb:OR prog w ρ (.bset [b]) co)
  (h:∀h',(∀x o,s.heap.get? x=some o->h'.get? x=some o)->Q [.bool b] {s with heap:=h'}):wpAny (model prog w) A (unpackItems (.ref a) 1 none) Q E s:=by
 obtain⟨d,hd,rfl⟩:=hb;cases hd;exact MN hh hco h
theorem jM{n:Str}{px:Pos}{u:V}{d:Value}(EV:aW C A ρ en env)(R:C.Rep ρ s.heap Y)(hv:VR ρ u d):C.Snd A (assign (.Name n px) env d) ρ (cB en n u Y) jH s:=by
 rw[arm_assign_Name];exact Cx.Snd.at (dD EV R _ hv)
theorem Ju{es:List Expr}{xs:List Str}{k:Nat}{tp:Pos}(hx:iQ es=some xs)(hA:A.handled=none)(EV:aW C A ρ en env)(R:C.Rep ρ s.heap Y){v:V}{c:Value}(hv:VR ρ v c):
  C.Snd A (assign (.Tuple es k tp) env c) ρ (QK xs v en Y) jH s:=by
 refine .onS λ i e=>.onS λ o e1=>?_
 obtain⟨a,ha,rfl⟩:=nD hv e;induction o with
 |tup vs=>
  refine .onS λ v q1=>.onS λ x q2=>?_
  obtain⟨x,y,z⟩:=x;rw[zH q1]at e1;simp only[zH q2]at hx;obtain⟨px,r,rfl,hx1⟩:=gZ hx;obtain⟨py,r,rfl,hx2⟩:=gZ hx1;clear hx1 hx;obtain⟨pz,r,rfl,hx3⟩:=gZ hx2;obtain⟨cs,m,h1,h2⟩:=R.tup e1 ha;cases pP hx3;obtain⟨ca,cb,cc,ec,ha,hb,hc⟩:=h2.three;cases vN ec;intro hbad;refine assign_Tuple_tuple hA ⟨_,h1,rfl,_,rfl⟩ rfl rfl λ h' hx=>?_
  have R':=R.junk (h':=h') λ b o e=>hx b o (Nat.ne_of_lt (Heap.lt_size e)) e
  refine Cx.same ((?_:C.Snd A (assignInOrder [assign (.Name x px) env,assign (.Name y py) env,assign (.Name z pz) env] [ca,cb,cc]) ρ _ jH {s with heap:=h'}) hbad);refine Cx.Snd.bind' (Cx.Snd.holding (jM EV R' ha)) λ _ σ₁ _ hH tk1 ρ1 RA _=>?_
  refine Cx.Snd.bind' (Cx.Snd.holding (jM (EV.mono _) RA hb.mono)) λ _ σ₂ _ hV tk2 ρ2 RC _=>?_
  refine Cx.Snd.map (Cx.Snd.holding (jM ((EV.mono _).mono _) RC hc.mono.mono)) λ _ Y3 _ hW tk3 ρ3 _ RE _=>?_
  exact λ _=>wpAny_pure (Cx.ret0 RE trivial)
 |bset bs=>
  refine .onS λ b q1=>.onS λ x q2=>?_
  rw[fJ q1]at e1;rw[fJ q2]at hx;obtain⟨px,r,rfl,hx1⟩:=gZ hx;obtain⟨co,h1,h2⟩:=R.objs _ _ _ e1 ha;cases pP hx1;refine Cx.Snd.at λ hbad=>?_
  unfold unpack;refine wpAny_bind (wpAny_holding (vP hA h1 h2 λ h' hx=>?_));have R':=R.junk (h':=h') hx;refine Cx.same ((?_:C.Snd A (assignInOrder [assign (.Name x px) env] [.bool b]) ρ _ jH {s with heap:=h'}) hbad);exact Cx.Snd.map (rel:=jH) (Cx.Snd.holding (jM EV R' rfl)) λ _ Y3 _ hW tk3 ρ3 _ RE _=>λ _=>wpAny_pure (Cx.ret0 RE trivial)
 |_=>exact .of_bad
set_option tactic.hygienic true in
theorem xV(O:Ops C A en env cl)(hev:yS C A en env (dj cl n))(t:Expr)(EV:aW C A ρ en env)(R:C.Rep ρ s.heap Y){v:V}{c:Value}(hv:VR ρ v c):
  C.Snd A (assign t env c) ρ (Gh cl n t v en Y) jH s:=by
 unfold Gh;have k:=jl t;generalize view t=w at k ⊢;induction w
 case name=>obtain⟨p,rfl⟩:=k;exact jM EV R hv
 case attr=>
  cases k;rw[arm_assign_Attribute];refine Cx.Snd.bind' (Cx.Snd.holding (hev _ EV R)) λ ov σ₁ oc hH tk1 ρ1 RA ho=>Cx.Snd.at ?_
  refine Cx.Snd.bind' (Cx.Snd.holding (O.setAttr RA ho hv.mono)) λ _ σ₂ _ hV tk2 ρ2 RC _=>?_
  exact λ _=>jJ (Cx.ret0 RC trivial)
 case sub o i=>
  obtain⟨p,rfl⟩:=k;show C.Snd A _ _ (if tM i then .bad else zE (dj cl n) o i en (λ ov iv Y=>(iV ov iv v Y).bind λ _ Y=>.ok () Y) Y) _ _;split
  ·exact .of_bad
  ·rw[arm_assign_Subscript];refine QS EV (Cx.Snd.holding (hev _ EV R)) (λ _ _ _ _ EV R=>Cx.Snd.holding (hev _ EV R)) λ EV R ho hi=>Cx.Snd.at ?_
   refine Cx.Snd.bind' (Cx.Snd.holding (Gp R ho hi hv.mono)) λ _ Y3 _ hW tk3 ρ3 RE _=>?_
   exact λ _=>jJ (Cx.ret0 RE trivial)
 case tup es=>
  obtain⟨k,tp,rfl⟩:=k;exact .cond λ hfree=>.onS λ xs hx=>Ju hx (EV.free hfree) EV R hv
 all_goals exact .of_bad
end
section
variable {C:Cx}{A:Around}{ρ:List Addr}{s:Shared}{Y:St}{en:En}{env:Env}{ex:Stmt->En->St->ak Fl}
theorem Cx.Snd.calm{α β:Type}{t:Sem β}{r:ak α}{rel:List Addr->α->β->Prop}{Q:β->Shared->Prop}{E:Value->Shared->Prop}(h:C.Snd A t ρ r rel s)(hn:r≠.bad)(he:∀x Y',r≠.exc x Y')
  (k:∀a Y' b h' tk ρ',r=.ok a Y'->C.Rep (ρ++ρ') h' Y'->rel (ρ++ρ') a b->Q b {s with heap:=h',toks:=tk}):wpAny (model C.prog C.w) A t Q E s:=by
 refine wpAny_mono (h hn) ?_ ?_
 ·rintro b s' ⟨a,Y',h',tk,ρ',e,rfl,R,x⟩;exact k a Y' b h' tk ρ' e R x
 ·rintro e s' ⟨x,Y',h',tk,ρ',e1,_,_⟩;exact absurd e1 (he x Y')
theorem bindN_ok{α β:Type}{r:ak α}{k:α->St->ak β}(h:r.bindN k≠.bad):∃a Y',r=.ok a Y'/\r.bindN k=k a Y':=by
 induction r with
 |ok a Y'=>exact⟨a,Y',rfl,rfl⟩
 |exc _ _=>exact absurd rfl h
 |bad=>exact absurd rfl h
set_option tactic.hygienic true in
theorem Jv(test:St->ak Bool)(body orelse:St->ak Fl)(n:Nat)(Y:St):gG test body orelse (n+1) Y=(test Y).bindN λ b Y=>if b then(body Y).bindN λ fl Y=>match fl with
   |.next|.cont=>gG test body orelse n Y
   |.brk=>.ok .next Y
   |.ret v=>.ok (.ret v) Y
  else(orelse Y).bindN λ f Y=>.ok f Y:=rfl
inductive aej(C:Cx)(ρ:List Addr)(s:Shared)(W:Nat->St->ak Fl)(F:ak Fl)(k:Nat)(s':Shared):Prop
 |mk (Y':St) (ρ':List Addr) (h:Heap) (tk:Nat) (e:s'={s with heap:=h,toks:=tk}) (R:C.Rep (ρ++ρ') h Y') (hk:W k Y'=F)
set_option tactic.hygienic true in
theorem Sw{F rest:ak Fl}{fb:Fl}{σb:St}{Q:Flow->Shared->Prop}{ρ5:List Addr}{hX:Heap}{tk5:Nat}{f:Flow}{again:Prop}
  (hQ:∀fl Y' f h' tk ρ',F=.ok fl Y'->C.Rep (ρ++ρ') h' Y'->m9 (ρ++ρ') fl f->Q f {s with heap:=h',toks:=tk})
  (hf:(match fb with
   |.next|.cont=>rest
   |.brk=>.ok .next σb
   |.ret v=>.ok (.ret v) σb)=F) (R:C.Rep (ρ++ρ5) hX σb) (hfl:m9 (ρ++ρ5) fb f) (ag:rest=F->again):match(generalizing:=false) f with
   |.next|.cont=>again
   |.brk=>Q .next {s with heap:=hX,toks:=tk5}
   |.ret v=>Q (.ret v) {s with heap:=hX,toks:=tk5}:=by
 induction fb with
 |next=>subst hfl;exact ag hf
 |cont=>subst hfl;exact ag hf
 |brk=>subst hfl;exact hQ .next _ .next hX tk5 _ hf.symm R rfl
 |ret v=>obtain⟨c,rfl,hc⟩:=hfl;exact hQ (.ret v) _ _ hX tk5 _ hf.symm R ⟨c,rfl,hc⟩
theorem Sx{te:Expr->En->St->ak Bool}(hte:TeS C A en env te)(hex:ExS C A en env ex){test:Expr}{body orelse:List Stmt}{n:Nat}(EV:aW C A ρ en env)(R:C.Rep ρ s.heap Y)
  {Q:Flow->Shared->Prop}{E:Value->Shared->Prop}(hr:gG (te test en) (aK ex body en) (aK ex orelse en) n Y≠.bad)
  (hQ:∀fl Y' f h' tk ρ',gG (te test en) (aK ex body en) (aK ex orelse en) n Y=.ok fl Y'->C.Rep (ρ++ρ') h' Y'->m9 (ρ++ρ') fl f->Q f {s with heap:=h',toks:=tk}):
  codeAny (model C.prog C.w) A (.whileLoop test body orelse env) (λ r s'=>match r with|.ok f=>Q f s'|.error e=>E e s') s:=by
 have hS:=Jv (te test en) (aK ex body en) (aK ex orelse en);have hZ:∀Y,gG (te test en) (aK ex body en) (aK ex orelse en) 0 Y=.bad:=λ _=>rfl
 generalize gG (te test en) (aK ex body en) (aK ex orelse en)=W at*;generalize hF:W n Y=F at*;refine codeAny_whileLoop (aej C ρ s W F) (λ k s' I=>?_) n ⟨Y,[],s.heap,s.toks,rfl,by rw[List.append_nil];exact R,hF⟩;obtain⟨Y',ρ',h,tk,rfl,R',hk⟩:=I;refine lU λ G toG=>?_
 induction k with
 |zero=>exact absurd (hk.symm.trans (hZ _)) hr
 |succ k=>
  replace hk:=(hS k Y').symm.trans hk;obtain⟨b,σ₁,e1,e2⟩:=bindN_ok (pL hk hr);replace hk:=e2.symm.trans hk;refine toG (Cx.Snd.calm (hte test (s:={s with heap:=h,toks:=tk}) (EV.mono _) R') (by rw[e1];nofun) (by rw[e1];nofun) λ b' σ'1 c hH tk1 ρ1 e3 RA hc=>lU λ G toG=>?_);have e8:=ak.ok.inj (e1.symm.trans e3);simp only[<-e8.2]at RA;rw[<-hc,<-e8.1]at toG;clear e1 e2 e8;induction b with
  |false=>
   obtain⟨f,σ₂,e4,e5⟩:=bindN_ok (pL hk hr);refine toG (Cx.Snd.calm (cU hex orelse (s:={s with heap:=hH,toks:=tk1}) ((EV.mono _).mono _) RA) (by rw[e4];nofun) (by rw[e4];nofun) λ fl σ'2 f' hV tk2 ρ2 e6 RC hf=>?_);rw[List.append_assoc (ρ++ρ'),List.append_assoc]at RC hf;have e8:=ak.ok.inj (e4.symm.trans e6);exact hQ fl σ'2 f' hV tk2 _ ((e5.symm.trans hk).symm.trans (by rw[e8.1,e8.2])) RC hf
  |true=>
   obtain⟨f,σ₂,e4,e5⟩:=bindN_ok (pL hk hr);replace hk:=e5.symm.trans hk;refine toG (Cx.Snd.calm (cU hex body (s:={s with heap:=hH,toks:=tk1}) ((EV.mono _).mono _) RA) (by rw[e4];nofun) (by rw[e4];nofun) λ fl σ'2 f' hV tk2 ρ2 e6 RC hf=>?_);have e8:=ak.ok.inj (e4.symm.trans e6);rw[List.append_assoc (ρ++ρ'),List.append_assoc,<-e8.1]at hf;rw[List.append_assoc (ρ++ρ'),List.append_assoc,<-e8.2]at RC;exact Sw hQ hk RC hf λ q=>⟨k,Nat.lt_succ_self k,σ₂,_,hV,tk2,rfl,RC,q⟩
theorem Sy{te:Expr->En->St->ak Bool}(hte:TeS C A en env te)(hex:ExS C A en env ex){test:Expr}{body orelse:List Stmt}{pos:Pos}{n:Nat}(EV:aW C A ρ en env)(R:C.Rep ρ s.heap Y):
  C.Snd A (exec (.While test body orelse pos) env) ρ (gG (te test en) (aK ex body en) (aK ex orelse en) n Y) m9 s:=by
 intro hb;refine wpAny_While (Sx hte hex EV R hb λ fl Y' f h' tk ρ' e R' hf=>?_);exact⟨fl,Y',h',tk,ρ',e,rfl,R',hf⟩
end
noncomputable def Cx.on(C:Cx)(g:Heap):Cx:={C with h₀:=g}
noncomputable def Sub(h h':Heap):Prop:=∀b o,h.get? b=some o->h'.get? b=some o
section
variable {C:Cx}{A:Around}{ρ:List Addr}{s:Shared}{Y:St}{en:En}{env:Env}{ex:Stmt->En->St->ak Fl}{h:Heap}
theorem dF{h h':Heap}(x:Sub h h'){a:Addr}(e:h'.get? a=none):h.get? a=none:=by
 induction q:h.get? a with
 |none=>rfl
 |some o=>have:=x a o q;rw[e]at this;cases this
theorem Rep.weak{g:Heap}(x:Sub C.h₀ g)(hs:(C.h₀.get? sysModules).isSome=true)(R:(C.on g).Rep ρ h Y):C.Rep ρ h Y where
 keep:=λ b o e=>Mine.Rep.keep R b o (x b o e)
 loc:=Mine.Rep.loc R
 newL:=dF x (Mine.Rep.newL R)
 len:=Mine.Rep.len R
 nodup:=Mine.Rep.nodup R
 notL:=Mine.Rep.notL R
 fresh:=λ i a hi e=>dF x (Mine.Rep.fresh R i a hi e)
 objs:=Mine.Rep.objs R
 callers:=λ p hp=>let ⟨a,y⟩:=Mine.Rep.callers R p hp;⟨a,y.frame,y.ns,dF x y.new,y.notL,y.notIn,y.fn⟩
 sysIn:=hs
 sys:=Mine.Rep.sys R
 fsnd:=Mine.Rep.fsnd R
structure cW(C:Cx)(ρ:List Addr)(a:Addr):Prop where
 notIn:a∉ρ
 notL:a≠C.L
 notF:∀p∈C.FS,p.1.locals≠a
inductive abG(C:Cx)(ρ:List Addr)(h:Heap)(Y:St):Prop
 |mk (g:Heap) (h1:Sub C.h₀ g) (h2:Sub g h) (R:(C.on g).Rep ρ h Y) (h3:∀a o,h.get? a=some o->cW C ρ a->g.get? a=some o)
theorem Rep.strong(R:C.Rep ρ h Y):abG C ρ h Y:=by
 let l:=C.L::(ρ.drop k0++C.FS.map (·.1.locals))
 have hl:∀a,(∃o,C.h₀.get? a=some o)->a∉l:=by
  rintro a ⟨o,e⟩ hm;rcases List.mem_cons.mp hm with q|q
  ·rw[q,Mine.Rep.newL R]at e;contradiction
  rcases List.mem_append.mp q with q|q
  ·obtain⟨i,hi,e'⟩:=List.getElem_of_mem q;rw[List.getElem_drop]at e';have:=Mine.Rep.fresh R (k0+i) a (by simp) (by rw[<-e'];exact List.getElem?_eq_getElem _);rw[this]at e;contradiction
  ·obtain⟨p,hp,e'⟩:=List.mem_map.mp q;obtain⟨b,y⟩:=Mine.Rep.callers R p hp;rw[y.frame]at e';induction e';have:=y.new;rw[this]at e;contradiction
 have sub:Sub C.h₀ (hideAll h l):=λ b o e=>hideAll_get l ((Mine.Rep.keep R) b o e) (hl b ⟨o,e⟩)
 refine⟨hideAll h l,sub,λ b o e=>of_hideAll l e,⟨λ b o e=>of_hideAll l e,Mine.Rep.loc R,hideAll_none l (.head _),Mine.Rep.len R,Mine.Rep.nodup R,Mine.Rep.notL R,λ i a hi e=>?_,Mine.Rep.objs R,λ p hp=>?_,?_,Mine.Rep.sys R,Mine.Rep.fsnd R⟩,λ a o e ap=>hideAll_get l e λ hm=>?_⟩
 ·refine hideAll_none l (.tail _ (List.mem_append_left _ ?_));have:(ρ.drop k0)[i - k0]?=some a:=by rw[List.getElem?_drop,show k0+(i - k0)=i by lia];exact e
  exact List.mem_of_getElem? this
 ·obtain⟨a,y⟩:=Mine.Rep.callers R p hp;exact⟨a,y.frame,y.ns,hideAll_none l (.tail _ (List.mem_append_right _ (List.mem_map.mpr ⟨p,hp,y.frame⟩))),y.notL,y.notIn,y.fn⟩
 ·have:=Mine.Rep.sysIn R;induction q:C.h₀.get? sysModules with
  |none=>rw[q]at this;contradiction
  |some o=>show((hideAll h l).get? sysModules).isSome=true;rw[sub _ _ q];rfl
 ·rcases List.mem_cons.mp hm with q|q
  ·exact ap.notL q
  rcases List.mem_append.mp q with q|q
  ·exact ap.notIn (List.mem_of_mem_drop q)
  ·obtain⟨p,hp,e'⟩:=List.mem_map.mp q;exact ap.notF p hp e'
theorem cW.new(R:C.Rep ρ h Y){a:Addr}(e:h.get? a=none):cW C ρ a:=by
 refine⟨λ q=>?_,λ q=>?_,λ p hp q=>?_⟩
 ·obtain⟨i,hi,e'⟩:=List.getElem_of_mem q;have hi':i < Y.sto.length:=by rw[<-Mine.Rep.len R];exact hi
  obtain⟨co,h1,_⟩:=Mine.Rep.objs R i _ _ (List.getElem?_eq_getElem hi') (List.getElem?_eq_getElem hi);rw[e',e]at h1;contradiction
 ·obtain⟨m,⟨_,_,_,x,_⟩,_⟩:=Mine.Rep.loc R;rw[<-q,e]at x;contradiction
 ·obtain⟨b,y⟩:=Mine.Rep.callers R p hp;obtain⟨_,_,_,x,_⟩:=y.ns;rw[y.frame]at q;induction q;rw[e]at x;contradiction
theorem cW.stay{g:Heap}{ρ':List Addr}{a:Addr}(ap:cW C ρ a){o:Obj}(e:g.get? a=some o)(R:(C.on g).Rep (ρ++ρ') h Y)(hk:k0<=ρ.length):cW C (ρ++ρ') a:=by
 refine⟨λ q=>?_,ap.notL,ap.notF⟩;rcases List.mem_append.mp q with q|q
 ·exact ap.notIn q
 ·obtain⟨i,hi,e'⟩:=List.getElem_of_mem q;have:=Mine.Rep.fresh R (ρ.length+i) a (by exact Nat.lt_add_right _ (by assumption)) (by rw[List.getElem?_append_right (by simp),show ρ.length+i - ρ.length=i by simp,<-e'];exact List.getElem?_eq_getElem _);have:g.get? a=none:=this;rw[this]at e;contradiction
theorem Rep.other(R:C.Rep ρ h Y){a:Addr}{h':Heap}(hs:Heap.ExtBut a h h')(ap:cW C ρ a)(hn:C.h₀.get? a=none):C.Rep ρ h' Y where
 keep:=λ b o e=>hs b o (λ q=>by rw[q,hn]at e;contradiction) (Mine.Rep.keep R b o e)
 loc:=let ⟨m,x,y⟩:=Mine.Rep.loc R;⟨m,x.extBut hs (λ q=>ap.notL q.symm),y⟩
 newL:=Mine.Rep.newL R
 len:=Mine.Rep.len R
 nodup:=Mine.Rep.nodup R
 notL:=Mine.Rep.notL R
 fresh:=Mine.Rep.fresh R
 objs:=λ i o b e e'=>let ⟨co,x,y⟩:=Mine.Rep.objs R i o b e e';⟨co,hs b co (λ q=>ap.notIn (q▸List.mem_of_getElem? e')) x,y⟩
 callers:=λ p hp=>let ⟨b,y⟩:=Mine.Rep.callers R p hp;⟨b,y.frame,y.ns.extBut hs (λ q=>ap.notF p hp (q▸y.frame)),y.new,y.notL,y.notIn,y.fn⟩
 sysIn:=Mine.Rep.sysIn R
 sys:=Mine.Rep.sys R
 fsnd:=Mine.Rep.fsnd R
inductive jN(ρ:List Addr)(h:Heap)(Y:St):V->Addr->Nat->Prop
 |list {k:Nat}{xs:List V}{la it:Addr}{i:Nat}(e:Y.sto[k]?=some (.list xs)) (ha:ρ[k]?=some la) (I:h.IsListIter it la i):jN ρ h Y (.ref k) it i
 |tup {k:Nat}{xs:List V}{la it:Addr}{i:Nat}(e:Y.sto[k]?=some (.tup xs)) (ha:ρ[k]?=some la) (I:h.IsTupleIter it la i):jN ρ h Y (.ref k) it i
 |dict {k ep:Nat}{kvs:List (Str×V)}{la it:Addr}{i:Nat}(e:Y.sto[k]?=some (.dict kvs ep)) (ha:ρ[k]?=some la) (I:h.IsKeyIter it la i kvs.length ep):jN ρ h Y (.ref k) it i
 |rng {k:Nat}{n:Int}{it:Addr}{i:Nat}(e:Y.sto[k]?=some (.rng n)) (I:IsRangeIter h it (i:Int) (n - (i:Int)) 1):jN ρ h Y (.ref k) it i
 |view {k j ep:Nat}{kvs:List (Str×V)}{la it:Addr}{i:Nat}(e:Y.sto[k]?=some (.view j)) (e':Y.sto[j]?=some (.dict kvs ep)) (ha:ρ[j]?=some la) (I:h.IsValIter it la i kvs.length ep):jN ρ h Y (.ref k) it i
theorem jN.obj{v:V}{it:Addr}{i:Nat}(x:jN ρ h Y v it i):∃o,h.get? it=some o:=by
 induction x with
 |list _ _ I|tup _ _ I|dict _ _ I|view _ _ _ I=>obtain⟨o,e,_⟩:=I;exact⟨o,e⟩
 |rng _ I=>exact⟨_,I⟩
inductive aek(v:V)(Y τ:St):Prop
 |mk (k:Nat) (e:v=.ref k) (h1:τ.sto[k]?=Y.sto[k]?) (h2:∀d,Y.sto[k]?=some (.view d)->τ.sto[d]?=Y.sto[d]?)
open Classical in
set_option tactic.hygienic true in
theorem nG{v:V}{Y τ:St}(e:aR v Y τ=true):aek v Y τ:=by
 induction v with
 |ref k=>
  obtain⟨e1,e2⟩:=Bool.and_eq_true_iff.mp (show Wh k Y τ=true from e);refine⟨k,rfl,of_decide_eq_true e1,λ d hd=>?_⟩;rw[vG hd O.view?]at e2;exact of_decide_eq_true e2
 |_=>exact jz e
theorem Gy{v:V}{Y τ:St}(e:aR v Y τ=true):bN v τ=bN v Y:=by
 obtain⟨k,rfl,e1,e2⟩:=nG e;show(τ.sto[k]?).bind (Mi τ)=(Y.sto[k]?).bind (Mi Y);rw[e1];induction q:Y.sto[k]? with
 |none=>rfl
 |some o=>induction o<;>first|rfl|(show((τ.sto[_]?).bind O.dict?).bind _=_;rw[e2 _ q];rfl)
theorem jN.move{h':Heap}{ρ':List Addr}{Y':St}{v:V}{it:Addr}{i:Nat}{o:Obj}(x:jN ρ h Y v it i)(e:h.get? it=some o)(e':h'.get? it=some o)(hs:aR v Y Y'=true):jN (ρ++ρ') h' Y' v it i:=by
 have e:=e'.trans e.symm;clear e';obtain⟨k,ek,e1,e2⟩:=nG hs;clear hs;induction x with
 |list q a I=>cases ek;obtain⟨o',b,c⟩:=I;exact .list (e1.trans q) (aH a) ⟨o',e.trans b,c⟩
 |tup q a I=>cases ek;obtain⟨o',b,c⟩:=I;exact .tup (e1.trans q) (aH a) ⟨o',e.trans b,c⟩
 |dict q a I=>cases ek;obtain⟨o',b,c⟩:=I;exact .dict (e1.trans q) (aH a) ⟨o',e.trans b,c⟩
 |rng q I=>cases ek;exact .rng (e1.trans q) (e.trans I)
 |view q q' a I=>cases ek;obtain⟨o',b,c⟩:=I;exact .view (e1.trans q) ((e2 _ q).trans q') (aH a) ⟨o',e.trans b,c⟩
end
section
variable {C:Cx}{A:Around}{ρ:List Addr}{s:Shared}{Y:St}{en:En}{env:Env}{ex:Stmt->En->St->ak Fl}{h:Heap}
theorem zT{h:Heap}{a:Addr}{cs:Array Value}{n:Nat}(e:h.get? a=some {cls:=.type "tuple",dict:=none,data:=.seq cs n,slots:=#[]}):h.IsTuple a cs:=⟨_,e,rfl,n,rfl⟩
theorem SJ{n:Int}(h0:0<=n)(h1:n<=1000):Builtin.Range.small 0 n 1=true/\Builtin.Range.rangeSize 0 n 1=n:=by
 have e:Builtin.Range.rangeSize 0 n 1=n:=by
  unfold Builtin.Range.rangeSize;simp only[show(1:Int) > 0 by decide,if_true,Int.ediv_one];split<;>lia
 refine⟨?_,e⟩;delta Builtin.Range.small Builtin.Range.rangeFitsLong
 rw[e];simp;lia
inductive vQ(Y:St):V->List V->Prop
 |list {k:Nat}{xs:List V}(e:Y.sto[k]?=some (.list xs)):vQ Y (.ref k) xs
 |tup {k:Nat}{xs:List V}(e:Y.sto[k]?=some (.tup xs)):vQ Y (.ref k) xs
 |dict {k ep:Nat}{kvs:List (Str×V)}(e:Y.sto[k]?=some (.dict kvs ep)):vQ Y (.ref k) (kvs.map λ p=>.str p.1)
 |rng {k:Nat}{n:Int}(e:Y.sto[k]?=some (.rng n)):vQ Y (.ref k) ((List.range n.toNat).map λ k:Nat=>V.int (k:Int))
 |view {k j ep:Nat}{kvs:List (Str×V)}(e:Y.sto[k]?=some (.view j)) (e':Y.sto[j]?=some (.dict kvs ep)):vQ Y (.ref k) (kvs.map (·.2))
theorem d7{α:Type}{b:Bool}{a x:α}(h:(if b=true then some a else none)=some x):a=x:=by
 induction b with
 |true=>exact Option.some.inj h
 |false=>first|exact ns h|exact jz h|cases h
theorem SM{v:V}{xs:List V}(hx:bN v Y=some xs):vQ Y v xs:=by
 induction v with
 |ref k=>
  obtain⟨o,e,hx⟩:=Option.bind_eq_some_iff.mp hx;induction o with
  |list ys=>cases d7 hx;exact .list e
  |tup ys=>cases d7 hx;exact .tup e
  |dict kvs ep=>induction d7 hx;exact .dict e
  |rng n=>cases hx;exact .rng e
  |view d=>
   obtain⟨p,e',hx⟩:=Option.bind_eq_some_iff.mp hx;induction d7 hx
   exact .view e (ig e')
  |_=>exact ns hx
 |_=>exact ns hx
theorem QT(R:C.Rep ρ s.heap Y){v:V}{c:Value}{xs:List V}(hv:VR ρ v c)(hx:bN v Y=some xs){Q:Value->Shared->Prop}{E:Value->Shared->Prop}
  (hQ:∀it h',s.heap.get? it=none->Sub s.heap h'->jN ρ h' Y v it 0->Q (.ref it) {s with heap:=h'}):wpAny (model C.prog C.w) A (pyIter c) Q E s:=by
 refine lU λ G toG=>?_
 have hQ:∀o,jN ρ (s.heap.push o) Y v s.heap.objs.size 0->Q (.ref s.heap.objs.size) {s with heap:=s.heap.push o}:=λ o x=>hQ _ _ (Heap.get?_none_of_le (Nat.le_refl _)) (λ _ _ e=>Heap.get?_push_of_some _ e) x
 induction(SM hx)with
 |list e=>
  obtain⟨a,ha,rfl⟩:=hv;obtain⟨cs,n,h1,h2⟩:=R.list e ha;exact toG (wpAny_pyIter_list h1.isList (hQ _ (.list e ha ⟨_,Heap.get?_push_size _ rfl,rfl,rfl⟩)))
 |tup e=>
  obtain⟨a,ha,rfl⟩:=hv;obtain⟨cs,n,h1,h2⟩:=R.tup e ha;exact toG (wpAny_pyIter_tuple (zT h1) (hQ _ (.tup e ha ⟨_,Heap.get?_push_size _ rfl,rfl,rfl⟩)))
 |dict e=>
  obtain⟨a,ha,rfl⟩:=hv;obtain⟨ckvs,h1,h2⟩:=R.dict e ha;exact toG (wpAny_pyIter_dict (Mine.Rep.sys R _ (List.mem_of_getElem? ha)) h1 (hQ _ (.dict e ha ⟨_,Heap.get?_push_size _ rfl,rfl,by rw[eY h2];rfl⟩)))
 |rng e=>
  obtain⟨a,ha,rfl⟩:=hv;obtain⟨co,h1,t,u,w',rfl,n0,n1⟩:=R.objs _ _ _ e ha;obtain⟨q1,q2⟩:=SJ n0 n1;refine toG (wpAny_pyIter_range h1 q1 (hQ _ (.rng e ?_)));show Heap.get? _ _=_;rw[Heap.get?_push_size _ rfl,q2,show((0:Nat):Int)=0 from rfl,Int.sub_zero]
 |view e e'=>
  obtain⟨a,ha,rfl⟩:=hv;obtain⟨co,h1,dx,hd,c1,c2,c3⟩:=R.objs _ _ _ e ha;obtain⟨ckvs,h3,h4⟩:=R.dict e' hd;exact toG (wpAny_pyIter_values ⟨co,h1,c1,c2⟩ h3 (hQ _ (.view e e' hd ⟨_,Heap.get?_push_size _ rfl,rfl,by rw[eY h4];rfl⟩)))
theorem W4{kvs:List (Str×V)}{ckvs:List (Str×Value)}(h:aU (Di ρ) kvs ckvs){i:Nat}{p:Str×V}(e:kvs[i]?=some p):∃c,ckvs[i]?=some (p.1,c)/\VR ρ p.2 c:=by
 obtain⟨q,h1,h2,h3⟩:=h.get e;obtain⟨k,c⟩:=q;exact⟨c,by rw[h1,h2],h3⟩
theorem abH(R:C.Rep ρ s.heap Y){v x:V}{it:Addr}{xs:List V}{i:Nat}(hx:bN v Y=some xs)(hi:xs[i]?=some x)(I:jN ρ s.heap Y v it i){Q:Option Value->Shared->Prop}{E:Value->Shared->Prop}
  (hQ:∀c h' tk,Heap.SameBut it s.heap h'->jN ρ h' Y v it (i+1)->VR ρ x c->Q (some c) {s with heap:=h',toks:=tk}):wpAny (model C.prog C.w) A (pyNext (.ref it)) Q E s:=by
 refine lU λ G toG=>?_
 have hQ:∀{c h' tk},VR ρ x c->Heap.SameBut it s.heap h'->jN ρ h' Y v it (i+1)->Q (some c) {s with heap:=h',toks:=tk}:=λ a b c=>hQ _ _ _ b c a
 induction I with
 |list e ha I=>
  rw[zJ e]at hx;cases d7 hx;obtain⟨cs,n,h1,h2⟩:=R.list e ha;obtain⟨c,hc,hv⟩:=h2.get hi;exact toG (wpAny_pyNext_list_item I h1.isList (by rw[<-Array.getElem?_toList];exact hc) λ h' I' hs=>hQ (tk:=s.toks) hv hs (.list e ha I'))
 |tup e ha I=>
  rw[Gm e]at hx;cases d7 hx;obtain⟨cs,n,h1,h2⟩:=R.tup e ha;obtain⟨c,hc,hv⟩:=h2.get hi;exact toG (wpAny_pyNext_tuple_item I (zT h1) (by rw[<-Array.getElem?_toList];exact hc) λ h' I' hs=>hQ (tk:=s.toks) hv hs (.tup e ha I'))
 |dict e ha I=>
  rw[zK e]at hx;induction d7 hx
  obtain⟨ckvs,h1,h2⟩:=R.dict e ha;rw[List.getElem?_map,Option.map_eq_some_iff]at hi;obtain⟨p,hp,rfl⟩:=hi;obtain⟨c,hc,hv⟩:=W4 h2 hp;rw[<-eY h2]at I;refine toG (wpAny_pyNext_dict_item I h1 hc λ key h' hk I' hs=>?_);obtain⟨t,rfl⟩:=Value.isStrOf_shape hk;exact hQ (tk:=s.toks) ⟨t,rfl⟩ hs (.dict e ha (by rw[<-eY h2];exact I'))
 |rng e I=>
  rw[Gn e]at hx;cases hx;rw[List.getElem?_map,Option.map_eq_some_iff]at hi;obtain⟨j,hj,rfl⟩:=hi;obtain⟨q1,q2⟩:=List.getElem?_eq_some_iff.mp hj;rw[List.length_range]at q1;rw[List.getElem_range]at q2;subst q2;refine toG (wpAny_pyNext_range_item I (by clear toG hQ I hj e;lia) λ h' I' hs=>?_);rw[Int.sub_sub]at I';exact hQ ⟨_,rfl⟩ hs (.rng e I')
 |view e e' ha I=>
  rw[zL e e']at hx;obtain⟨ckvs,h1,h2⟩:=R.dict e' ha;induction d7 hx
  rw[List.getElem?_map,Option.map_eq_some_iff]at hi;obtain⟨p,hp,rfl⟩:=hi;obtain⟨c,hc,hv⟩:=W4 h2 hp;rw[<-eY h2]at I;exact toG (wpAny_pyNext_values_item I h1 hc λ h' I' hs=>hQ (tk:=s.toks) hv hs (.view e e' ha (by rw[<-eY h2];exact I')))
theorem ael(R:C.Rep ρ s.heap Y)(hA:A.handled=none){v:V}{it:Addr}{xs:List V}{i:Nat}(hx:bN v Y=some xs)(hi:xs[i]?=none)(I:jN ρ s.heap Y v it i){Q:Option Value->Shared->Prop}{E:Value->Shared->Prop}
  (hQ:∀h',Heap.ExtBut it s.heap h'->Q none {s with heap:=h'}):wpAny (model C.prog C.w) A (pyNext (.ref it)) Q E s:=by
 refine lU λ G toG=>?_
 have hi:=List.getElem?_eq_none_iff.mp hi;induction I with
 |list e ha I=>
  rw[zJ e]at hx;cases d7 hx;obtain⟨cs,n,h1,h2⟩:=R.list e ha;exact toG (wpAny_pyNext_list_end hA I h1.isList (by rw[Array.getElem?_eq_none_iff,cg h2];exact hi) hQ)
 |tup e ha I=>
  rw[Gm e]at hx;cases d7 hx;obtain⟨cs,n,h1,h2⟩:=R.tup e ha;exact toG (wpAny_pyNext_tuple_end hA I (zT h1) (by rw[Array.getElem?_eq_none_iff,cg h2];exact hi) hQ)
 |dict e ha I=>
  rw[zK e]at hx;induction d7 hx
  obtain⟨ckvs,h1,h2⟩:=R.dict e ha;rw[<-eY h2]at I;rw[List.length_map,<-eY h2]at hi;exact toG (wpAny_pyNext_dict_end hA I h1 (List.getElem?_eq_none_iff.mpr hi) hQ)
 |rng e I=>
  rw[Gn e]at hx;cases hx;rw[List.length_map,List.length_range]at hi;exact toG (wpAny_pyNext_range_end hA I (by clear toG hQ I e;lia) hQ)
 |view e e' ha I=>
  rw[zL e e']at hx;induction d7 hx
  obtain⟨ckvs,h1,h2⟩:=R.dict e' ha;rw[<-eY h2]at I;rw[List.length_map,<-eY h2]at hi;exact toG (wpAny_pyNext_values_end hA I h1 (List.getElem?_eq_none_iff.mpr hi) hQ)
end
section
variable {C:Cx}{A:Around}{ρ:List Addr}{s:Shared}{Y:St}{en:En}{env:Env}{ex:Stmt->En->St->ak Fl}{h:Heap}
theorem aW.on{g:Heap}(x:aW C A ρ en env):aW (C.on g) A ρ en env:=⟨x.scope,x.kind,x.locals,x.globals,x.builtins,x.cells,x.free,x.units,x.room,x.files,x.stat,x.own⟩
open Classical in
theorem jO{k:Nat}{Y τ:St}:aR (.ref k) Y τ=true↔τ.sto[k]?=Y.sto[k]?/\∀d,Y.sto[k]?=some (.view d)->τ.sto[d]?=Y.sto[d]?:=by
 refine⟨λ e=>?_,λ⟨e1,e2⟩=>?_⟩
 ·obtain⟨k',hk,a,b⟩:=nG e;cases hk;exact⟨a,b⟩
 ·refine Bool.and_eq_true_iff.mpr ⟨decide_eq_true e1,?_⟩;induction q:Y.get k O.view? with
  |none=>rfl
  |some d=>
   obtain⟨o,h1,h2⟩:=Option.bind_eq_some_iff.mp q;exact decide_eq_true (e2 _ (h1.trans (by induction o<;>first|exact ns h2|(cases h2;rfl))))
theorem GC{v:V}{a b c:St}(h1:aR v a b=true)(h2:aR v a c=true):aR v b c=true:=by
 obtain⟨k,rfl,_⟩:=nG h1;obtain⟨x1,x2⟩:=jO.mp h1;obtain⟨y1,y2⟩:=jO.mp h2;refine jO.mpr ⟨y1.trans x1.symm,λ d hd=>?_⟩;rw[x1]at hd;exact(y2 d hd).trans (x2 d hd).symm
set_option tactic.hygienic true in
theorem uc{ok:St->Bool}{body:V->St->ak Fl}{v:V}{r:List V}{Y:St}(h:jk ok body (v::r) Y≠.bad):ok Y=true/\∃f Y',body v Y=.ok f Y'/\jk ok body (v::r) Y=(match f with
   |.next|.cont=>jk ok body r Y'
   |.brk=>.ok .brk Y'
   |.ret v=>.ok (.ret v) Y'):=by
 have e:jk ok body (v::r) Y=if ok Y then(body v Y).bindN λ fl Y=>match fl with
   |.next|.cont=>jk ok body r Y
   |.brk=>.ok .brk Y
   |.ret v=>.ok (.ret v) Y
  else .bad:=rfl
 rw[e]at h ⊢;split at h
 ·rename_i hok
  rw[if_pos hok];obtain⟨f,Y',e1,e2⟩:=bindN_ok h;exact⟨hok,f,Y',e1,e2⟩
 ·exact absurd rfl h
set_option tactic.hygienic true in
theorem xW{ok:St->Bool}{body:V->St->ak Fl}{Y:St}(h:jk ok body [] Y≠.bad):ok Y=true/\jk ok body [] Y=.ok .next Y:=by
 have e:jk ok body [] Y=if ok Y then .ok .next Y else .bad:=rfl
 rw[e]at h ⊢;split at h
 ·rename_i hok;rw[if_pos hok];exact⟨hok,rfl⟩
 ·exact absurd rfl h
theorem xX{r:ak Fl}{o:St->ak Fl}(h:dB r o≠.bad):∃f Y',r=.ok f Y':=by
 obtain⟨f,Y',e,_⟩:=bindN_ok (r:=r) h;exact⟨f,Y',e⟩
set_option tactic.hygienic true in
theorem Jw{F rest:ak Fl}{o:St->ak Fl}{fb:Fl}{σb:St}{RR:Result->Shared->Prop}{ρ5:List Addr}{hX:Heap}{tk5:Nat}{f:Flow}{again:Prop}
  (hQ:∀fl Y' f h' tk ρ',dB F o=.ok fl Y'->C.Rep (ρ++ρ') h' Y'->m9 (ρ++ρ') fl f->RR (.ok f) {s with heap:=h',toks:=tk})
  (hf:(match fb with
   |.next|.cont=>rest
   |.brk=>.ok .brk σb
   |.ret v=>.ok (.ret v) σb)=F) (R:C.Rep (ρ++ρ5) hX σb) (hfl:m9 (ρ++ρ5) fb f) (ag:rest=F->again):match(generalizing:=false) f with
   |.next|.cont=>again
   |.brk=>RR (.ok .next) {s with heap:=hX,toks:=tk5}
   |.ret v=>RR (.ok (.ret v)) {s with heap:=hX,toks:=tk5}:=by
 induction fb with
 |next=>subst hfl;exact ag hf
 |cont=>subst hfl;exact ag hf
 |brk=>subst hfl;exact hQ .next _ .next hX tk5 _ (by rw[<-hf];rfl) R rfl
 |ret v=>obtain⟨c,rfl,hc⟩:=hfl;exact hQ (.ret v) _ _ hX tk5 _ (by rw[<-hf];rfl) R ⟨c,rfl,hc⟩
inductive pR(C:Cx)(s:Shared)(ρ:List Addr)(Y:St)(kv:Nat)(it:Addr)(xs:List V)(f:List V->St->Prop)(n:Nat)(s':Shared):Prop
 |mk (i:Nat) (Y':St) (ρ':List Addr) (h:Heap) (tk:Nat) (σp:St) (ρp:List Addr) (hp:Heap) (ρq:List Addr) (op:Obj) (e:s'={s with heap:=h,toks:=tk}) (R:C.Rep (ρ++ρ') h Y') (I:jN ρp hp σp (.ref kv) it i) (e1:hp.get? it=some op) (e2:h.get? it=some op) (e3:ρ++ρ'=ρp++ρq)
  (e4:aR (.ref kv) Y σp=true) (ap:cW C (ρ++ρ') it) (en:n=xs.length - i) (hf:f (xs.drop i) Y'):pR C s ρ Y kv it xs f n s'
theorem pR.start{ρ1 ρ0:List Addr}{σ₁:St}{kv:Nat}{it:Addr}{xs:List V}{f:List V->St->Prop}(R:C.Rep (ρ1++ρ0) s.heap Y)(I:jN ρ1 s.heap σ₁ (.ref kv) it 0)(ap:cW C (ρ1++ρ0) it)(hf:f xs Y)(hs:aR (.ref kv) σ₁ σ₁=true):pR C s (ρ1++ρ0) σ₁ kv it xs f xs.length s:=by
 obtain⟨op,hop⟩:=I.obj;exact⟨0,Y,[],s.heap,s.toks,σ₁,ρ1,s.heap,ρ0,op,rfl,by rw[List.append_nil];exact R,I,hop,hop,by rw[List.append_nil],hs,by rw[List.append_nil];exact ap,rfl,hf⟩
theorem pR.next{kv:Nat}{it:Addr}{xs:List V}{f:List V->St->Prop}{n:Nat}{s':Shared}(L:pR C s ρ Y kv it xs f n s')(hx:bN (.ref kv) Y=some xs)(hn:C.h₀.get? it=none)(hk:k0<=ρ.length)(hA:A.handled=none)(hok:∀r Y',f r Y'->aR (.ref kv) Y Y'=true){Q:Option Value->Shared->Prop}{E:Value->Shared->Prop}
  (hend:∀Y' ρ' h tk,f [] Y'->C.Rep (ρ++ρ') h Y'->Q none {s with heap:=h,toks:=tk})
  (hnext:∀x r g c Y' ρ' h tk,f (x::r) Y'->Sub C.h₀ g->(C.on g).Rep (ρ++ρ') h Y'->VR (ρ++ρ') x c->
   (∀YA hY tk4 ρ4,(C.on g).Rep ((ρ++ρ')++ρ4) hY YA->C.Rep (ρ++(ρ'++ρ4)) hY YA/\(f r YA->∃m,m < n/\pR C s ρ Y kv it xs f m {s with heap:=hY,toks:=tk4}))->Q (some c) {s with heap:=h,toks:=tk}):
  wpAny (model C.prog C.w) A (pyNext (.ref it)) Q E s':=by
 obtain⟨i,Y',ρ',h,tk,σp,ρp,hp,ρq,op,rfl,R,I,e1,e2,e3,e4,ap,rfl,hf⟩:=L;have hok':=hok _ _ hf;have hx':bN (.ref kv) Y'=some xs:=by rw[Gy hok'];exact hx
 have I2:jN (ρ++ρ') h Y' (.ref kv) it i:=by rw[e3];exact I.move e1 e2 (GC e4 hok')
 induction hi:xs[i]? with
 |none=>
  rw[List.drop_eq_nil_of_le (List.getElem?_eq_none_iff.mp hi)]at hf;exact ael (s:={s with heap:=h,toks:=tk}) R hA hx' hi I2 λ hH hs=>hend Y' ρ' hH tk hf (Rep.other R hs ap hn)
 |some x=>
  obtain⟨hil,hxe⟩:=List.getElem?_eq_some_iff.mp hi;rw[List.drop_eq_getElem_cons hil,hxe]at hf;refine abH (s:={s with heap:=h,toks:=tk}) R hx' hi I2 λ c hH tk1 hs I3 hc=>?_
  have RA:C.Rep (ρ++ρ') hH Y':=Rep.other R hs.extBut ap hn;obtain⟨g,g1,g2,Rg,g3⟩:=Rep.strong RA;obtain⟨oit,hoit⟩:=I3.obj;have hgit:=g3 it oit hoit ap;refine hnext x _ g c Y' ρ' hH tk1 hf g1 Rg hc λ YA hY tk4 ρ4 RF=>?_
  have RH:C.Rep (ρ++(ρ'++ρ4)) hY YA:=by rw[<-List.append_assoc];exact Rep.weak (C:=C) g1 (Mine.Rep.sysIn RA) RF
  refine⟨RH,λ hf'=>⟨xs.length - (i+1),by omega,⟨i+1,YA,ρ'++ρ4,hY,tk4,Y',ρ++ρ',hH,ρ4,oit,rfl,RH,I3,hoit,Mine.Rep.keep RF it oit hgit,(List.append_assoc ..).symm,hok',?_,rfl,hf'⟩⟩⟩;rw[<-List.append_assoc];exact cW.stay ap hgit RF (by rw[List.length_append];exact Nat.lt_add_right _ (by assumption))
theorem vR{v:V}{xs:List V}(hx:bN v Y=some xs):∃k,v=.ref k:=by
 induction v<;>first|exact ns hx|exact⟨_,rfl⟩
theorem zU(kv:Nat)(Y:St):aR (.ref kv) Y Y=true:=jO.mpr ⟨rfl,λ _ _=>rfl⟩
theorem bind_some{α β:Type}{r:ak α}{k:α->St->ak β}{b:β}{τ:St}(h:r.bind k=.ok b τ):∃a Y,r=.ok a Y/\k a Y=.ok b τ:=by
 induction r with
 |ok a Y=>exact⟨a,Y,rfl,h⟩
 |exc e Y=>first|exact ns h|exact jz h|contradiction
 |bad=>first|exact ns h|exact jz h|contradiction
theorem yU{o:St->ak Fl}(h:dB (.ok .next Y) o≠.bad):o Y≠.bad/\∀y Y',o Y≠.exc y Y':=by
 refine⟨λ q=>h ?_,λ y Y'' q=>h ?_⟩<;>(show(o Y).bindN _=.bad;rw[q];rfl)
noncomputable def abI(ok:St->Bool)(B:V->St->ak Fl)(F:ak Fl)(r:List V)(Y:St):Prop:=ok Y=true/\jk ok B r Y=F
theorem QV{ok:St->Bool}{B:V->St->ak Fl}{F:ak Fl}{r:List V}(e:jk ok B r Y=F)(hF:F≠.bad):abI ok B F r Y:=by
 refine⟨?_,e⟩;induction r with
 |nil=>exact(xW (by rw[e];exact hF)).1
 |cons v r=>exact(uc (by rw[e];exact hF)).1
set_option tactic.hygienic true in
theorem Jx(hex:∀g,Sub C.h₀ g->ExS (C.on g) A en env ex)(hA:A.handled=none){x:Str}{px:Pos}{body orelse:List Stmt}(EV:aW C A ρ en env)(R:C.Rep ρ s.heap Y){v:V}{xs:List V}{it:Addr}
  (hk:k0<=ρ.length) (hx:bN v Y=some xs) (I:jN ρ s.heap Y v it 0) (ap:cW C ρ it) (hn:C.h₀.get? it=none) {RR:Result->Shared->Prop}
  {B:V->St->ak Fl}(hB:∀c Y,B c Y=(cB en x c Y).bind λ _ Y=>aK ex body en Y) (hr:dB (jk (aR v Y) B xs Y) (aK ex orelse en)≠.bad)
  (hQ:∀fl Y' f h' tk ρ',dB (jk (aR v Y) B xs Y) (aK ex orelse en)=.ok fl Y'->C.Rep (ρ++ρ') h' Y'->m9 (ρ++ρ') fl f->RR (.ok f) {s with heap:=h',toks:=tk}):
  codeAny (model C.prog C.w) A (.forLoop (.Name x px) (.ref it) body orelse env) RR s:=by
 obtain⟨kv,rfl⟩:=vR hx;generalize hF:jk (aR (.ref kv) Y) B xs Y=F at*;have hF0:F≠.bad:=let ⟨_,_,q⟩:=xX hr;by rw[q];nofun
 have h0:pR C s ρ Y kv it xs (abI (aR (.ref kv) Y) B F) xs.length s:=by
  have:=pR.start (C:=C) (s:=s) (ρ0:=[]) (f:=abI (aR (.ref kv) Y) B F) (by rw[List.append_nil];exact R) I (by rw[List.append_nil];exact ap) (QV hF hF0) (zU kv Y);rw[List.append_nil]at this;exact this
 refine codeAny_forLoop (pR C s ρ Y kv it xs (abI (aR (.ref kv) Y) B F)) (λ n s' L=>?_) xs.length h0;refine L.next hx hn hk hA (λ _ _ q=>q.1) (λ Y' ρ' h tk hf R'=>lU λ G toG=>?_) λ xv r g c Y' ρ' h tk hf g1 Rg hc hz=>lU λ G toG=>?_
 ·have hf:=hf.2.symm.trans (xW (pL hf.2 hF0)).2;rw[hf]at hr;refine toG (Cx.Snd.calm (cU (hex C.h₀ λ _ _ e=>e) orelse (s:={s with heap:=h,toks:=tk}) (EV.mono _) R') (yU hr).1 (yU hr).2 λ fl σ₂ f hV tk2 ρ2 e6 RC hfl=>?_);rw[List.append_assoc]at RC hfl;refine hQ fl σ₂ f hV tk2 (ρ'++ρ2) ?_ RC hfl;rw[hf];show(aK ex orelse en _).bindN _=_;rw[e6];rfl
 ·obtain⟨-,fb,σb,hbody,hb2⟩:=uc (pL hf.2 hF0);rw[hB]at hbody;obtain⟨u,σs,hst,hbody⟩:=bind_some hbody;have asg:(C.on g).Snd A (assign (.Name x px) env c) (ρ++ρ') (cB en x xv Y') jH {s with heap:=h,toks:=tk}:=by
   exact Cx.Snd.at (dD (EV.on.mono _) Rg x hc)
  refine toG (Cx.Snd.calm (C:=C.on g) asg (by rw[hst];nofun) (by rw[hst];nofun) λ _ σs' _ hV tk2 ρ2 e6 RC _=>?_);simp only[<-(ak.ok.inj (hst.symm.trans e6)).2]at RC;refine Cx.Snd.calm (C:=C.on g) (cU (hex g g1) body (s:={s with heap:=hV,toks:=tk2}) ((EV.on.mono _).mono _) RC) (by rw[hbody];nofun) (by rw[hbody];nofun) λ fl Y3 f hW tk3 ρ3 e7 RE hfl=>?_
  have e8:=ak.ok.inj (hbody.symm.trans e7);rw[List.append_assoc (ρ++ρ'),<-e8.2]at RE;rw[List.append_assoc (ρ++ρ'),List.append_assoc,<-e8.1]at hfl;exact Jw hQ (hb2.symm.trans hf.2) (hz σb hW tk3 (ρ2++ρ3) RE).1 hfl λ q=>(hz σb hW tk3 (ρ2++ρ3) RE).2 (QV q hF0)
theorem vU{e:Expr}(h:oU e=false)(env:Env)(x:Value):foldedSetIterable e env x=pure x:=by
 induction e using PySem.Expr.casesOn<;>first|rfl|contradiction
set_option tactic.hygienic true in
theorem abJ{ev:Expr->En->St->ak V}(hev:yS C A en env ev)(hex:∀g,Sub C.h₀ g->ExS (C.on g) A en env ex)(hA:A.handled=none){x:Str}{px:Pos}{iter:Expr}{body orelse:List Stmt}{pos:Pos}(EV:aW C A ρ en env)(R:C.Rep ρ s.heap Y)(hs:oU iter=false):
  C.Snd A (exec (.For (.Name x px) iter body orelse pos) env) ρ ((ev iter en Y).bind (aeb ex x body orelse en)) m9 s:=by
 refine Cx.Snd.at ?_;refine Cx.Snd.bind' (hev iter EV R) λ v σ₁ c hH tk1 ρ1 RA hv=>?_
 rw[vU hs];refine Cx.Snd.at ?_;unfold aeb;split
 ·rename_i xs hx
  intro hb;refine wpAny_bind (wpAny_holding ?_);refine QT (s:={s with heap:=hH,toks:=tk1}) RA hv hx λ it hV hnone hsub I=>wpAny_runOwn ?_
  refine Jx (s:={s with heap:=hV,toks:=tk1}) hex hA (EV.mono _) (RA.junk (s:={s with heap:=hH,toks:=tk1}) hsub) (EV.mono _).stat hx I (cW.new RA hnone) (dF (λ b o e=>Mine.Rep.keep RA b o e) hnone) (λ _ _=>rfl) hb λ fl Y' f h' tk ρ' e R' hf=>?_
  exact⟨fl,Y',h',tk,ρ',e,rfl,R',hf⟩
 ·exact .of_bad
end
section
variable {C:Cx}{A:Around}{ρ:List Addr}{s:Shared}{Y:St}{en:En}{env:Env}{ex:Stmt->En->St->ak Fl}{h:Heap}
theorem adh{h h':Heap}{L:Addr}{m:Str->Option Value}(x:h.Ns L m)(e:∀o,h.get? L=some o->h'.get? L=some o):h'.Ns L m:=x.at e
theorem Rep.upd2(R:C.Rep ρ h Y){i j:Nat}{a b:Addr}{oi oj:O}{ci cj:Obj}{h':Heap}(hi:k0<=i)(hj:k0<=j)(ha:ρ[i]?=some a)(hb:ρ[j]?=some b)
  (hs:∀c o,c≠a->c≠b->h.get? c=some o->h'.get? c=some o) (hca:h'.get? a=some ci) (hcb:h'.get? b=some cj) (hoi:i≠j->OR C.prog C.w ρ oi ci) (hoj:OR C.prog C.w ρ oj cj):
  C.Rep ρ h' ((Y.upd i oi).upd j oj):=by
 have na:a∈ρ:=List.mem_of_getElem? ha;have nb:b∈ρ:=List.mem_of_getElem? hb;refine⟨λ c o e=>hs c o (λ q=>by rw[q,(Mine.Rep.fresh R i a hi ha)]at e;contradiction) (λ q=>by rw[q,(Mine.Rep.fresh R j b hj hb)]at e;contradiction) (Mine.Rep.keep R c o e),?_,Mine.Rep.newL R,by simp[St.upd,Mine.Rep.len R],Mine.Rep.nodup R,Mine.Rep.notL R,Mine.Rep.fresh R,?_,?_,Mine.Rep.sysIn R,Mine.Rep.sys R,Mine.Rep.fsnd R⟩
 ·obtain⟨m,x,y⟩:=Mine.Rep.loc R;exact⟨m,adh x λ o e=>hs _ o (λ q=>Mine.Rep.notL R (q▸na)) (λ q=>Mine.Rep.notL R (q▸nb)) e,y⟩
 ·intro n o c e e';have hn:=(List.getElem?_eq_some_iff.mp e').1;have hl:n < Y.sto.length:=by rw[<-Mine.Rep.len R];exact hn
  have inj:∀{m d},ρ[m]?=some d->c=d->n=m:=λ{m d} e2 q=>by
   subst q;exact(List.getElem?_inj hn (Mine.Rep.nodup R)).mp (e'.trans e2.symm)
  clear hi;by_cases hnj:n=j
  ·subst hnj;obtain rfl:b=c:=Option.some.inj (hb.symm.trans e');simp only[St.upd]at e;rw[List.getElem?_set_self (by simpa using hl)]at e;cases e;exact⟨cj,hcb,hoj⟩
  ·by_cases hni:n=i
   ·subst hni;obtain rfl:a=c:=Option.some.inj (ha.symm.trans e');simp only[St.upd]at e;rw[List.getElem?_set_ne (λ q=>hnj q.symm),List.getElem?_set_self hl]at e;cases e;exact⟨ci,hca,hoi hnj⟩
   ·simp only[St.upd]at e;rw[List.getElem?_set_ne (λ q=>hnj q.symm),List.getElem?_set_ne (λ q=>hni q.symm)]at e;obtain⟨co,x,y⟩:=Mine.Rep.objs R n o c e e';exact⟨co,hs c co (λ q=>hni (inj ha q)) (λ q=>hnj (inj hb q)) x,y⟩
 ·intro p hp;obtain⟨c,y⟩:=Mine.Rep.callers R p hp;exact⟨c,y.frame,adh y.ns λ o e=>hs _ o (λ q=>y.notIn (q▸na)) (λ q=>y.notIn (q▸nb)) e,y.new,y.notL,y.notIn,y.fn⟩
theorem Rep.upd1(R:C.Rep ρ h Y){i:Nat}{a:Addr}{oi:O}{ci:Obj}{h':Heap}(hi:k0<=i)(ha:ρ[i]?=some a)(hs:Heap.ExtBut a h h')(hca:h'.get? a=some ci)(hoi:OR C.prog C.w ρ oi ci):C.Rep ρ h' (Y.upd i oi):=by
 have:=Rep.upd2 R (oi:=oi) (oj:=oi) hi hi ha ha (λ c o q _ e=>hs c o q e) hca hca (λ q=>absurd rfl q) hoi;rw[(by simp[St.upd]:(Y.upd i oi).upd i oi=Y.upd i oi)]at this;exact this
open Classical in
set_option tactic.hygienic true in
theorem Cj{e k l:Nat}{xs:List V}{body:Nat->V->St->ak Fl}{i:Nat}{v:V}{r:List V}{Y:St}(h:fG e k l xs body i (v::r) Y≠.bad):
  (Y.sto[e]?=some (.enum k i)/\Y.sto[k]?=some (.eit l i)/\Y.sto[l]?=some (.list xs))/\∃f Y',body i v ((Y.upd k (.eit l (i+1))).upd e (.enum k (i+1)))=.ok f Y'/\fG e k l xs body i (v::r) Y=(match f with
   |.next|.cont=>fG e k l xs body (i+1) r Y'
   |.brk=>.ok .brk Y'
   |.ret v=>.ok (.ret v) Y'):=by
 have e':fG e k l xs body i (v::r) Y=if Y.sto[e]?=some (.enum k i)/\Y.sto[k]?=some (.eit l i)/\Y.sto[l]?=some (.list xs)then(body i v ((Y.upd k (.eit l (i+1))).upd e (.enum k (i+1)))).bindN λ fl Y=>match fl with
   |.next|.cont=>fG e k l xs body (i+1) r Y
   |.brk=>.ok .brk Y
   |.ret v=>.ok (.ret v) Y
  else .bad:=rfl
 rw[e']at h ⊢;split at h
 ·rename_i hok
  rw[if_pos hok];obtain⟨f,Y',e1,e2⟩:=bindN_ok h;exact⟨hok,f,Y',e1,e2⟩
 ·exact absurd rfl h
open Classical in
set_option tactic.hygienic true in
theorem GD{e k l:Nat}{xs:List V}{body:Nat->V->St->ak Fl}{i:Nat}{Y:St}(h:fG e k l xs body i [] Y≠.bad):
  (Y.sto[e]?=some (.enum k i)/\Y.sto[k]?=some (.eit l i)/\Y.sto[l]?=some (.list xs))/\fG e k l xs body i [] Y=.ok .next (Y.upd k .any):=by
 have e':fG e k l xs body i [] Y=if Y.sto[e]?=some (.enum k i)/\Y.sto[k]?=some (.eit l i)/\Y.sto[l]?=some (.list xs)then .ok .next (Y.upd k .any)else .bad:=rfl
 rw[e']at h ⊢;split at h
 ·rename_i hok;rw[if_pos hok];exact⟨hok,rfl⟩
 ·exact absurd rfl h
section
variable {prog:Program}{w:World}{E:Value->Shared->Prop}
theorem zV{it l:Addr}{i:Nat}{items:Array Value}{Q:Value->Shared->Prop}(hh:A.handled=none)
  (hit:s.heap.IsListIter it l i) (hl:s.heap.IsList l items) (hx:items[i]?=none)
  (hE:∀h' e,Heap.ExtBut it s.heap h'->(∃o,h'.get? it=some o)->(∃o,h'.get? e=some o/\o.cls=.type "StopIteration")->E (.ref e) {s with heap:=h'}):
  wpAny (model prog w) A (Builtin.SmallTypes.nextOf (.ref it)) Q E s:=by
 obtain⟨o,ho,hc,hd⟩:=id hit;obtain⟨ol,hol,_,nl,hdl⟩:=hl;refine wpAny_bind (wpAny_callSpecial?_slot (name:=Str.ofString "__next__") hit.typeIs slot_listiter_next
  (wpAny_call_entry slot_listiter_next hit.typeIs entry_listiter_next ?_ (args_listiter_next _)))
 show wpAny _ _ (field (.ref it) 0 >>= _) _ _ s;refine wpAny_bind (wpAny_field ho hd (x:=.ref l) rfl ?_);refine wpAny_bind (wpAny_field ho hd (x:=.int i 0) rfl ?_);refine wpAny_bind (wpAny_seqItems hol hdl ?_);simp only[Int.toNat_natCast,hx];refine wpAny_bind (wpAny_rule (wpAny_bind (wpAny_setField ho hd (by simp) ?_)));refine wpAny_bind ?_;refine wpAny_bind (m:=firstArgMember _ _) (wpAny_of_eq (a:=Value.none) (by first|rfl|(simp only[firstArgMember];rfl)) ?_);refine wpAny_newObj_type ?_ (by size_fits);refine wpAny_bind (wpAny_handled ?_);first|rw[show A.in1.handled=none from hh]|rw[hh]
 refine wpAny_bind (wpAny_pure (wpAny_throw ?_));refine hE _ _ (((Heap.SameBut.update ..).extBut.push _).push _) ⟨_,Heap.get?_push_of_some _ (Heap.get?_push_of_some _ (Heap.get?_update_self _ ho ?_))⟩ ⟨_,Heap.get?_push_size _ rfl,rfl⟩;exact Obj.isFreed_of_fields (Obj.data_mapFields hd _)
theorem W5{e it l:Addr}{i:Nat}{items:Array Value}{old:Value}{Q:Option Value->Shared->Prop}(hh:A.handled=none)
  (he:IsEnum s.heap e it i old) (hit:s.heap.IsListIter it l i) (hl:s.heap.IsList l items) (hx:items[i]?=none)
  (hQ:∀h',Heap.ExtBut it s.heap h'->(∃o,h'.get? it=some o)->Q none {s with heap:=h'}):wpAny (model prog w) A (pyNext (.ref e)) Q E s:=by
 have hT:s.TypeIs (.ref e) "enumerate":=⟨_,he,rfl⟩;refine wpAny_bind (wpAny_attempt (wpAny_callSpecial?_slot (name:=Str.ofString "__next__") hT F.slot_enumerate_next
  (wpAny_call_entry F.slot_enumerate_next hT F.entry_enumerate_next ?_ (F.args_enumerate_next_1 _))))
 show wpAny _ _ (field (.ref e) 2 >>= _) _ _ _;refine wpAny_bind (wpAny_field he rfl (x:=.ref it) rfl ?_);refine wpAny_bind (zV hh hit hl hx λ h' x he' hi' hx'=>?_);obtain⟨o,ho,hc⟩:=hx';refine wpAny_bind (wpAny_isInstance (T:="StopIteration") (b:=true) ⟨o,ho,hc⟩ isSubtype_stop ?_);exact wpAny_pure (hQ _ he' hi')
end
inductive adi(C:Cx)(s:Shared)(ρ:List Addr)(xs:List V)(f:Nat->List V->St->Prop)(n:Nat)(s':Shared):Prop
 |mk (i:Nat) (Y':St) (ρ':List Addr) (h:Heap) (tk:Nat) (e:s'={s with heap:=h,toks:=tk}) (R:C.Rep (ρ++ρ') h Y') (en:n=xs.length - i) (hf:f i (xs.drop i) Y'):adi C s ρ xs f n s'
noncomputable def agE(e k l:Nat)(xs:List V)(B:Nat->V->St->ak Fl)(F:ak Fl)(i:Nat)(r:List V)(Y:St):Prop:=fG e k l xs B i r Y=F
theorem Dv{e k l i:Nat}{ae:Addr}{xs:List V}(R:C.Rep ρ s.heap Y)(q1:Y.sto[e]?=some (.enum k i))(q2:Y.sto[k]?=some (.eit l i))(q3:Y.sto[l]?=some (.list xs))(hae:ρ[e]?=some ae){P:Prop}
  (K:∀ita la old cs,IsEnum s.heap ae ita i old->ρ[k]?=some ita->s.heap.IsListIter ita la i->ρ[l]?=some la->s.heap.IsList la cs->aU (VR ρ) xs cs.toList->ae≠ita->P):P:=by
 obtain⟨ce,g1,ita,old,g2,rfl⟩:=Mine.Rep.objs R e _ ae q1 hae;obtain⟨ci,g3,la,g4,g5,g6⟩:=Mine.Rep.objs R k _ ita q2 g2;obtain⟨cs,m,h1,h2⟩:=Cx.Rep.list R q3 g4;refine K ita la old cs g1 g2 ⟨ci,g3,g5,g6⟩ g4 h1.isList h2 λ q=>?_
 clear g1 g3;subst q;exact(λ q=>by clear K g2;subst q;rw[q1]at q2;cases q2) ((List.getElem?_inj (List.getElem?_eq_some_iff.mp hae).1 (Mine.Rep.nodup R)).mp (hae.trans g2.symm))
theorem SN{e k l i:Nat}{ae:Addr}{xs:List V}{xv:V}(hA:A.handled=none)(R:C.Rep ρ s.heap Y)(he:k0<=e)(hk:k0<=k)(q1:Y.sto[e]?=some (.enum k i))(q2:Y.sto[k]?=some (.eit l i))(q3:Y.sto[l]?=some (.list xs))(hae:ρ[e]?=some ae)(hi:xs[i]?=some xv){x y:Str}{px py tp:Pos}{tk0:Nat}{K:Unit->Shared->Prop}{N:Shared->Prop}{E:Value->Shared->Prop}
  (hK:∀c hW tk,C.Rep ρ hW ((Y.upd k (.eit l (i+1))).upd e (.enum k (i+1)))->VR ρ xv c->wpAny (model C.prog C.w) A (assignInOrder [assign (.Name x px) env,assign (.Name y py) env] [.int i tk,c]) K E {s with heap:=hW,toks:=tk+1}):
  wpAny (model C.prog C.w) A (pyNext (.ref ae)) (λ r sA=>match r with
   |none=>N sA
   |some v=>wpAny (model C.prog C.w) A (letOwnedTupleGo (.Tuple [.Name x px,.Name y py] tk0 tp) (.ref ae) v) (λ _ s'1=>wpAny (model C.prog C.w) A (assign (.Tuple [.Name x px,.Name y py] tk0 tp) env v) K E s'1) E sA) E s:=by
 refine Dv R q1 q2 q3 hae λ ita la old cs g1 g2 hit g4 hl h2 hei=>?_
 obtain⟨c,hc,hv⟩:=h2.get hi;refine wpAny_pyNext_enum_item g1 hit hl (by rw[<-Array.getElem?_toList];exact hc) hei λ hH heo hit1 ht1 hzA hk1=>?_
 refine wpAny_letOwnedTupleGo_enum heo λ hV he2 hsA=>?_
 replace hsA:Heap.SameBut ae hH hV:=hsA;obtain⟨oit,ho1,ho2,ho3⟩:=hit1;have RC:C.Rep ρ hV ((Y.upd k (.eit l (i+1))).upd e (.enum k (i+1))):=by
  refine Rep.upd2 R (ci:=oit) hk he g2 hae (λ d o d1 d2 ed=>(hsA.2 d d2).trans (hk1 d o d2 d1 ed)) ((hsA.2 _ (Ne.symm hei)).trans ho1) he2 (λ _=>⟨la,g4,ho2,ho3⟩) ⟨ita,c,g2,?_⟩;rw[show((i+1:Nat):Int)=(i:Int)+1 from rfl]
 exact assign_Tuple_tuple hA (⟨_,(hsA.2 _ (Nat.ne_of_gt (Heap.lt_size g1))).trans ht1,rfl,_,rfl⟩) rfl rfl λ hW hx=>hK c hW s.toks (Cx.Rep.junk (s:={s with heap:=hV,toks:=s.toks+1}) RC λ b o e=>hx b o (Nat.ne_of_lt (Heap.lt_size e)) e) hv
theorem MT(EV:aW C A ρ en env)(R:C.Rep ρ s.heap Y){x y:Str}{px py:Pos}{i:Int}{tk:Nat}{v:V}{c:Value}(hv:VR ρ v c):
  C.Snd A (assignInOrder [assign (.Name x px) env,assign (.Name y py) env] [.int i tk,c]) ρ ((cB en x (.int i) Y).bind λ _ Y=>cB en y v Y) jH s:=by
 refine Cx.Snd.bind' (rel:=jH) (Cx.Snd.holding ?_) λ _ σ₁ _ hH tk1 ρ1 RA _=>?_
 ·simp only[arm_assign_Name];exact Cx.Snd.at (dD EV R x ⟨tk,rfl⟩)
 ·refine Cx.Snd.map (rel:=jH) (Cx.Snd.holding ?_) λ _ Y3 _ hW tk3 ρ3 _ RE _=>λ _=>wpAny_pure (Cx.ret0 RE trivial)
  exact Cx.Snd.at (dD (EV.mono _) RA y hv.mono)
theorem Jy(exC:ExS C A en env ex)(hA:A.handled=none){x y:Str}{px py tp:Pos}{tk0:Nat}{body orelse:List Stmt}(EV:aW C A ρ en env)(R:C.Rep ρ s.heap Y){xs:List V}{e k l:Nat}{ae:Addr}
  (he:k0<=e) (hk:k0<=k) (hae:ρ[e]?=some ae) {RR:Result->Shared->Prop}
  {B:Nat->V->St->ak Fl}(hB:∀j c Y,B j c Y=(cB en x (.int j) Y).bind λ _ Y=>(cB en y c Y).bind λ _ Y=>aK ex body en Y) (hr:dB (fG e k l xs B 0 xs Y) (aK ex orelse en)≠.bad)
  (hQ:∀fl Y' f h' tk ρ',dB (fG e k l xs B 0 xs Y) (aK ex orelse en)=.ok fl Y'->C.Rep (ρ++ρ') h' Y'->m9 (ρ++ρ') fl f->RR (.ok f) {s with heap:=h',toks:=tk}):
  codeAny (model C.prog C.w) A (.forLoop (.Tuple [.Name x px,.Name y py] tk0 tp) (.ref ae) body orelse env) RR s:=by
 generalize hF:fG e k l xs B 0 xs Y=F at*;have hF0:F≠.bad:=let ⟨_,_,q⟩:=xX hr;by rw[q];nofun
 refine codeAny_forLoop_any (adi C s ρ xs (agE e k l xs B F)) ?_ xs.length ⟨0,Y,[],s.heap,s.toks,rfl,by rw[List.append_nil];exact R,rfl,hF⟩;rintro n s' ⟨i,Y',ρ',h,tk,rfl,R',rfl,hf⟩;refine lU λ G toG=>?_
 have hae':(ρ++ρ')[e]?=some ae:=aH hae;induction hi:xs[i]? with
 |none=>
  simp only[List.drop_eq_nil_of_le (List.getElem?_eq_none_iff.mp hi)]at hf;obtain⟨⟨q1,q2,q3⟩,hb2⟩:=GD (pL hf hF0);refine Dv (s:={s with heap:=h,toks:=tk}) R' q1 q2 q3 hae' λ ita la old cs g1 g2 hit g4 hl h2 _=>?_
  refine toG (W5 hA g1 hit hl (by rw[Array.getElem?_eq_none_iff,cg h2];exact List.getElem?_eq_none_iff.mp hi) λ hH hs hoi=>?_);refine lU λ G toG=>?_
  obtain⟨oi',hoi'⟩:=hoi;have hf:=hf.symm.trans hb2;rw[hf]at hr;refine toG (Cx.Snd.calm (cU exC orelse (s:={s with heap:=hH,toks:=tk}) (EV.mono _) (Rep.upd1 R' hk g2 hs hoi' trivial:C.Rep (ρ++ρ') hH (Y'.upd k .any))) (yU hr).1 (yU hr).2 λ fl σ₂ f hV tk2 ρ2 e6 RC hfl=>?_);rw[List.append_assoc]at RC hfl;refine hQ fl σ₂ f hV tk2 (ρ'++ρ2) ?_ RC hfl;rw[hf];show(aK ex orelse en _).bindN _=_;rw[e6];rfl
 |some xv=>
  obtain⟨hil,hxe⟩:=List.getElem?_eq_some_iff.mp hi;simp only[List.drop_eq_getElem_cons hil,hxe]at hf;obtain⟨⟨q1,q2,q3⟩,fb,σb,hbody,hb2⟩:=Cj (pL hf hF0);have hf2:=hb2.symm.trans hf;rw[hB]at hbody;refine toG (SN (s:={s with heap:=h,toks:=tk}) hA R' he hk q1 q2 q3 hae' hi λ c hW tk3 RE hv=>?_);have asg:=MT (x:=x) (y:=y) (px:=px) (py:=py) (i:=i) (tk:=tk3) (s:={s with heap:=hW,toks:=tk3+1}) (EV.mono _) RE hv;refine lU λ G toG=>?_
  obtain⟨u,σs,hst,hbody⟩:=bind_some hbody;obtain⟨u2,σs2,hst2,hbody⟩:=bind_some hbody;simp only[hst,ak.bind_ok,hst2]at asg;refine toG (Cx.Snd.calm asg nofun nofun λ _ σs' _ hY tk4 ρ4 e6 RF _=>?_);simp only[<-(ak.ok.inj e6).2]at RF;refine Cx.Snd.calm (cU exC body (s:={s with heap:=hY,toks:=tk4}) ((EV.mono _).mono _) RF) (by rw[hbody];nofun) (by rw[hbody];nofun) λ fl YE f hX tk5 ρ5 e7 RH hfl=>?_
  have e8:=ak.ok.inj (hbody.symm.trans e7);rw[List.append_assoc (ρ++ρ'),List.append_assoc,<-e8.1]at hfl;rw[List.append_assoc (ρ++ρ'),List.append_assoc,<-e8.2]at RH;exact Jw hQ hf2 RH hfl λ q=>⟨xs.length - (i+1),by omega,⟨i+1,_,_,hX,tk5,rfl,RH,rfl,q⟩⟩
theorem Jz{i:Nat}{p:Nat×Nat×List V}(h:Gi i Y=some p):Y.sto[i]?=some (.enum p.1 0):=by
 obtain⟨⟨k,j⟩,h1,h2⟩:=Option.bind_eq_some_iff.mp h;obtain⟨o,h3,h4⟩:=Option.bind_eq_some_iff.mp h1;obtain⟨rfl,h6⟩:=yP h2;obtain⟨q,_,h7⟩:=Option.bind_eq_some_iff.mp h6;obtain⟨_,h8⟩:=yP h7;obtain⟨xs,_,rfl⟩:=Option.map_eq_some_iff.mp h8;exact h3.trans (by induction o<;>first|exact ns h4|(cases h4;rfl))
set_option tactic.hygienic true in
theorem W6{ev:Expr->En->St->ak V}(hev:yS C A en env ev)(exC:ExS C A en env ex)(hA:A.handled=none){x y:Str}{px py tp:Pos}{tk0:Nat}{iter:Expr}{body orelse:List Stmt}{pos:Pos}(EV:aW C A ρ en env)(R:C.Rep ρ s.heap Y)(hs:oU iter=false):
  C.Snd A (exec (.For (.Tuple [.Name x px,.Name y py] tk0 tp) iter body orelse pos) env) ρ ((ev iter en Y).bind (ac7 ex x y body orelse en)) m9 s:=by
 rw[arm_exec_For];refine Cx.Snd.at ?_;refine Cx.Snd.bind' (hev iter EV R) λ v σ₁ c hH tk1 ρ1 RA hv=>?_
 rw[vU hs,pure_bind];refine Cx.Snd.at ?_;refine .onS λ i e0=>.onS λ p e1=>.grd λ hc=>?_
 obtain⟨ae,hae,rfl⟩:=nD hv e0;simp only[Bool.and_eq_true,decide_eq_true_eq]at hc;intro hb;obtain⟨ce,g1,ita,old,g2,rfl⟩:=Mine.Rep.objs RA i _ ae (Jz e1) hae;refine wpAny_bind (wpAny_holding (wpAny_pyIter_enum (s:={s with heap:=hH,toks:=tk1}) g1 (wpAny_runOwn ?_)));refine Jy (s:={s with heap:=hH,toks:=tk1}) exC hA (EV.mono _) RA hc.1.1.2 hc.1.2 hae (λ _ _ _=>rfl) hb λ fl Y' f h' tk ρ' e R' hf=>?_
 exact⟨fl,Y',h',tk,ρ',e,rfl,R',hf⟩
end
section
variable {C:Cx}{A:Around}{ρ:List Addr}{s:Shared}{Y:St}{en:En}{env:Env}{h:Heap}
theorem QW(I:jN ρ s.heap Y v it i){prog:Program}{w:World}{Q:Value->Shared->Prop}{E:Value->Shared->Prop}(h:Q (.ref it) s):wpAny (model prog w) A (pyIter (.ref it)) Q E s:=by
 induction I with
 |list _ _ I=>exact wpAny_pyIter_listiter I h
 |tup _ _ I=>exact wpAny_pyIter_tupleiter I h
 |dict _ _ I=>exact wpAny_pyIter_keyiter I h
 |rng _ I=>exact wpAny_pyIter_rangeiter I h
 |view _ _ _ I=>exact wpAny_pyIter_valiter I h
noncomputable def Cx.inn(C:Cx)(L':Addr)(env:Env)(m:Str->Option Value):Cx:={C with L:=L',FS:=(env,m)::C.FS}
theorem Rep.enter(R:C.Rep ρ h Y){m m':Str->Option Value}{L':Addr}{h':Heap}{l:List (Str×Option V)}(hm:h.Ns C.L m)(hf:h.get? L'=none)(hk:Sub h h')(hn:h'.Ns L' m')(hl:pK ρ l m')(hL:env.locals=C.L)(hkind:env.scope.kind=.function):
  (C.inn L' env m).Rep ρ h' {Y with loc:=l}:=by
 have ap:=cW.new R hf;have J:C.Rep ρ h' Y:=Mine.Rep.junk R hk;refine⟨Mine.Rep.keep J,⟨m',hn,hl⟩,dF (λ b o e=>Mine.Rep.keep R b o e) hf,(Mine.Rep.len R:ρ.length=Y.sto.length),Mine.Rep.nodup R,ap.notIn,Mine.Rep.fresh R,λ i o a e e'=>Mine.Rep.objs J i o a e e',?_,Mine.Rep.sysIn R,Mine.Rep.sys R,?_⟩
 ·intro p hp;rcases List.mem_cons.mp hp with rfl|hp
  ·exact⟨C.L,hL,hm.keeps hk,Mine.Rep.newL R,λ q=>ap.notL q.symm,Mine.Rep.notL R,hkind⟩
  ·obtain⟨a,y⟩:=Mine.Rep.callers J p hp;exact⟨a,y.frame,y.ns,y.new,λ q=>ap.notF p hp (y.frame.trans q),y.notIn,y.fn⟩
 ·show(env.locals::C.FS.map λ p=>p.1.locals).Nodup;refine List.nodup_cons.mpr ⟨λ q=>?_,Mine.Rep.fsnd R⟩;obtain⟨p,hp,e⟩:=List.mem_map.mp q;obtain⟨a,y⟩:=Mine.Rep.callers R p hp;exact y.notL (y.frame.symm.trans (e.trans hL))
theorem Rep.leave{m:Str->Option Value}{L':Addr}{h':Heap}(R:(C.inn L' env m).Rep ρ h Y){l:List (Str×Option V)}(hl:pK ρ l m)(hL:env.locals=C.L)(hs:Heap.SameBut L' h h'):C.Rep ρ h' {Y with loc:=l}:=by
 obtain⟨a,y⟩:=Mine.Rep.callers R (env,m) (.head _);have ea:a=C.L:=by rw[<-y.frame];exact hL
 subst ea;refine⟨λ b o e=>(hs.2 b λ q=>?_).trans (Mine.Rep.keep R b o e),⟨m,y.ns.sameBut hs y.notL,hl⟩,y.new,(Mine.Rep.len R:ρ.length=Y.sto.length),Mine.Rep.nodup R,y.notIn,Mine.Rep.fresh R,λ i o b e e'=>?_,λ p hp=>?_,Mine.Rep.sysIn R,Mine.Rep.sys R,(List.nodup_cons.mp (Mine.Rep.fsnd R)).2⟩
 ·have:=Mine.Rep.newL R;have this:C.h₀.get? L'=none:=this;rw[q,this]at e;contradiction
 ·obtain⟨co,x,z⟩:=Mine.Rep.objs R i o b e e';exact⟨co,(hs.2 b ((λ b hb q=>Mine.Rep.notL R (q▸hb):∀b,b∈ρ->b≠L') b (List.mem_of_getElem? e'))).trans x,z⟩
 ·obtain⟨b,z⟩:=Mine.Rep.callers R p (.tail _ hp);refine⟨b,z.frame,z.ns.sameBut hs z.notL,z.new,λ q=>?_,z.notIn,z.fn⟩;have:=(List.nodup_cons.mp (Mine.Rep.fsnd R)).1;exact this (List.mem_map.mpr ⟨p,hp,by show p.1.locals=env.locals;rw[z.frame,q,hL]⟩)
end
noncomputable def qD(d:Nat)(C:Cx):Prop:=Wf C/\d<=C.room
noncomputable def HEv(d:Nat)(ev:Expr->En->St->ak V):Prop:=∀(C:Cx) (A:Around) (en:En) (env:Env),qD d C->yS C A en env ev
noncomputable def HTe(d:Nat)(te:Expr->En->St->ak Bool):Prop:=∀(C:Cx) (A:Around) (en:En) (env:Env),qD d C->TeS C A en env te
theorem Wf.on{C:Cx}(x:Wf C){g:Heap}(hs:Sub C.h₀ g):Wf (C.on g):=let ⟨hb,f,k,f2⟩:=x;⟨hb,f,λ b o e=>hs b o (k b o e),f2⟩
theorem Wf.inn{C:Cx}(x:Wf C)(L':Addr)(env:Env)(m:Str->Option Value):Wf (C.inn L' env m):=x
theorem qD.on{d:Nat}{C:Cx}(x:qD d C){g:Heap}(hs:Sub C.h₀ g):qD d (C.on g):=⟨x.1.on hs,x.2⟩
theorem qD.inn{d:Nat}{C:Cx}(x:qD d C)(L':Addr)(env:Env)(m:Str->Option Value):qD d (C.inn L' env m):=x
section
variable {C:Cx}{A:Around}{ρ:List Addr}{s:Shared}{Y:St}{en:En}{env:Env}{h:Heap}{te:Expr->En->St->ak Bool}{ev:Expr->En->St->ak V}
noncomputable abbrev nH(ifs:List Expr)(b:Bool)(env:Env):Sem Bool:=forIn ifs b λ c r=>if r=true then do let ok <-isTrue c env (eval c env);pure (ForInStep.yield ok)else pure (ForInStep.yield r)
theorem SQ(ifs:List Expr)(env:Env):nH ifs false env=pure false:=by
 induction ifs with
 |nil=>rfl
 |cons c r ih=>
  unfold nH at ih ⊢;rw[List.forIn_cons];exact ih
theorem abK(hte:TeS C A en env te):∀(ifs:List Expr) {ρ}{s:Shared} {Y},aW C A ρ en env->C.Rep ρ s.heap Y->C.Snd A (nH ifs true env) ρ (Gf te .And ifs en Y) Wy s:=by
 intro ifs;induction ifs with
 |nil=>exact λ EV R _=>wpAny_pure (Cx.ret0 R rfl)
 |cons c r ih=>
  intro ρ s Y EV R;have e:nH (c::r) true env=(isTrue c env (eval c env) >>= λ ok=>nH r ok env):=by
   unfold nH;rw[List.forIn_cons];simp only[if_true,bind_assoc,pure_bind]
  rw[e];refine Cx.Snd.bind' (hte c EV R) λ t σ₂ b hV tk2 ρ2 RC ht=>?_
  subst ht;induction t with
  |true=>exact(ih (s:={s with heap:=hV,toks:=tk2}) (EV.mono _) RC)
  |false=>rw[SQ];exact λ _=>wpAny_pure (Cx.ret0 RC rfl)
inductive W7(acc:Nat)(Y:St):Bool->V->St->Prop
 |list {ys:List V}{y:V}(e:Y.sto[acc]?=some (.list ys)) (hs:small ys.length=true):W7 acc Y true y (Y.upd acc (.list (ys++[y])))
 |bset {bs:List Bool}{b:Bool}(e:Y.sto[acc]?=some (.bset bs)) (hs:bs=[]\/bs=[b]):W7 acc Y false (.bool b) (Y.upd acc (.bset (if bs.contains b then bs else bs++[b])))
inductive W8(isl:Bool)(elt:St->ak V)(acc:Nat)(k:St->Prop)(σ₁:St):Bool->Prop
 |skip (h:k σ₁):W8 isl elt acc k σ₁ false
 |put {y:V}{σ₂ Y3:St}(e:elt σ₁=.ok y σ₂) (hk:k0<=acc) (p:W7 acc σ₂ isl y Y3) (h:k Y3):W8 isl elt acc k σ₁ true
inductive agF(isl:Bool)(ifs:St->ak Bool)(elt:St->ak V)(acc:Nat)(k:St->Prop)(Y:St):Prop
 |mk (b:Bool) (σ₁:St) (e:ifs Y=.ok b σ₁) (h:W8 isl elt acc k σ₁ b)
theorem zW{α:Type}{b:Bool}{r F:ak α}(h:grd b r=F)(hF:F≠.bad):b=true/\r=F:=by
 induction b with
 |false=>exact absurd h.symm hF
 |true=>exact⟨rfl,h⟩
theorem vV{α β:Type}{o:Option α}{k:α->ak β}{F:ak β}(h:onS o k=F)(hF:F≠.bad):∃a,o=some a/\k a=F:=by
 induction o with
 |none=>exact absurd h.symm hF
 |some a=>exact⟨a,rfl,h⟩
theorem Nb{isl:Bool}{ok:St->Bool}{x:Str}{ifs:St->ak Bool}{elt:St->ak V}{acc:Nat}{l:List V}{Y:St}{F:ak Unit}(h:fD isl ok x ifs elt acc l Y=F)(hF:F≠.bad):ok Y=true:=by
 induction l<;>exact(zW h hF).1
theorem GF{isl:Bool}{ok:St->Bool}{x:Str}{ifs:St->ak Bool}{elt:St->ak V}{acc:Nat}{Y:St}{F:ak Unit}(h:fD isl ok x ifs elt acc [] Y=F)(hF:F≠.bad):F=.ok () Y:=(zW h hF).2.symm
theorem abL{isl:Bool}{acc:Nat}{y:V}{Y:St}{o o':O}(e:Y.sto[acc]?=some o)(h:ad6 isl y o=some o'):W7 acc Y isl y (Y.upd acc o'):=by
 induction o with
 |list ys=>
  induction isl with
  |false=>exact ns h
  |true=>
   induction q:small ys.length with
   |false=>exact ns (h.symm.trans (if_neg (by rw[q];exact Bool.false_ne_true))).symm
   |true=>cases(if_pos (by rw[q];rfl)).symm.trans h;exact .list e q
 |bset bs=>
  obtain⟨b,hb,h⟩:=Option.bind_eq_some_iff.mp h;clear h;induction y<;>first|exact ns hb|cases hb
  induction isl with
  |true=>exact ns h
  |false=>
   induction q:decide (bs=[]\/bs=[b])with
   |false=>exact ns (h.symm.trans (if_neg (by rw[q];exact Bool.false_ne_true))).symm
   |true=>cases(if_pos (by rw[q];rfl)).symm.trans h;exact .bset e (of_decide_eq_true q)
 |_=>exact ns h
theorem SX{isl:Bool}{ok:St->Bool}{x:Str}{ifs:St->ak Bool}{elt:St->ak V}{acc:Nat}{v:V}{r:List V}{Y:St}{F:ak Unit}(h:fD isl ok x ifs elt acc (v::r) Y=F)(hF:F≠.bad):
  agF isl ifs elt acc (λ τ=>fD isl ok x ifs elt acc r τ=F) {Y with loc:=aZ Y.loc x v}:=by
 have h:=(zW h hF).2;obtain⟨b,σ₁,e1,e2⟩:=bindN_ok (pL h hF);replace h:=e2.symm.trans h;refine⟨b,σ₁,e1,?_⟩;clear e1 e2;induction b with
 |false=>exact .skip h
 |true=>
  obtain⟨y,σ₂,e3,e4⟩:=bindN_ok (pL h hF);obtain⟨o',e5,h⟩:=vV (e4.symm.trans h) hF;obtain⟨o,e,q⟩:=Option.bind_eq_some_iff.mp e5;obtain⟨hk,h⟩:=zW h hF;exact .put e3 (of_decide_eq_true hk) (abL e q) h
theorem abM(led b:Bool):layNew (.fresh 0 0 led) #[] (hashInt (if b then 1 else 0)) (.bool b)=(#[(hashInt (if b then 1 else 0),.bool b)],(layNew (.fresh 0 0 led) #[] (hashInt (if b then 1 else 0)) (.bool b)).2.1,false,false):=by
 induction led<;>induction b<;>decide+kernel
theorem JB(led b:Bool):(layNew (.fresh 0 0 led) #[] (hashInt (if b then 1 else 0)) (.bool b)).2.1.fits 1=true:=by cases led<;>induction b<;>decide+kernel
theorem W9(led b:Bool):(layNew (.fresh 0 0 led) #[] (hashInt (if b then 1 else 0)) (.bool b)).2.1.tooFull=false:=by cases led<;>induction b<;>decide+kernel
theorem agg(led b:Bool):(layNew (.fresh 0 0 led) #[] (hashInt (if b then 1 else 0)) (.bool b)).2.1.plain=true:=by cases led<;>induction b<;>decide+kernel
theorem xY(b:Bool)(es:Array (Int×Value))(h:es=#[]\/∃k c,es=#[(k,.bool c)]):byScan (.bool b) es=true:=by
 rcases h with rfl|⟨k,c,rfl⟩<;>simp only[byScan,List.all_toArray]<;>rfl
theorem adk(b:Bool):hashByValue 8 (.bool b)=pure true:=rfl
theorem JC(R:C.Rep ρ s.heap Y){i:Nat}{a:Addr}{bs:List Bool}{b:Bool}(e1:Y.sto[i]?=some (.bset bs))(ha:ρ[i]?=some a)(hs:bs=[]\/bs=[b])(hk:k0<=i):
  C.Snd A (call (.builtin "set.add") [.ref a,.bool b]) ρ (.ok V.none (Y.upd i (.bset (if bs.contains b then bs else bs++[b])))) VR s:=λ _=>by
 obtain⟨co,hco,d,hd,rfl⟩:=R.objs _ _ _ e1 ha;have key:wpAny (model C.prog C.w) A.in1 (setAddHashed a (.bool b) (hashInt (if b then 1 else 0))) (λ _ s'=>C.Ret ρ s (.ok V.none (Y.upd i (.bset (if bs.contains b then bs else bs++[b])))) VR .none s') (C.Exn ρ s (.ok V.none (Y.upd i (.bset (if bs.contains b then bs else bs++[b]))))) {s with toks:=s.toks+1}:=by
  rcases hs with rfl|rfl
  ·first|exact ns hd|exact jz hd|cases hd
   refine wpAny_holding (wpAny_bind (wpAny_setState_of hco rfl rfl ?_));dsimp only;rw[xY b _ (.inl rfl)];refine wpAny_bind (wpAny_bind (wpAny_rule ?_));refine wpAny_bind (wpAny_pure ?_);rw[abM];dsimp only;refine wpAny_bind (wpAny_pure ?_);refine wpAny_bind (wpAny_pure ?_);rw[if_pos rfl];refine wpAny_bind (wpAny_storeSet_of hco rfl ?_ (show(1:Nat)<=sizeLine by decide));rw[W9];refine wpAny_pure (wpAny_pure (Cx.ret0 (R.upd hk ha (Heap.SameBut.update ..) (Heap.get?_update_self _ hco ?_) ⟨_,rfl,?_⟩) rfl))
   ·rw[putSet_of _ _ rfl];rfl
   ·rw[putSet_of _ _ rfl]
  ·first|exact ns hd|exact jz hd|cases hd
   refine wpAny_holding (wpAny_bind (wpAny_setState_of hco rfl (JB _ _) ?_));dsimp only;rw[xY b _ (.inr ⟨_,_,rfl⟩)];refine wpAny_bind (wpAny_bind (wpAny_rule ?_));show wpAny _ _ (setScanFrom a (.bool b) (hashInt (if b then 1 else 0)) true [(hashInt (if b then 1 else 0),.bool b)] 0 >>= _) _ _ _;unfold setScanFrom;rw[if_pos (by simp)];refine wpAny_bind (wpAny_bind (wpAny_setEpoch_of hco rfl (JB _ _) ?_));refine wpAny_bind (Ji ?_);rw[decide_eq_true rfl];refine wpAny_pure (wpAny_pure (wpAny_pure ?_));have:Y.upd i (.bset (if [b].contains b then [b]else [b]++[b]))=Y:=by
    simp only[List.contains_cons,BEq.rfl,Bool.true_or,if_true];obtain⟨hl,e⟩:=List.getElem?_eq_some_iff.mp e1;unfold St.upd;simp only[<-e,List.set_getElem_self hl]
   rw[this];exact Cx.ret0 R rfl
 refine wpAny_call_entry PySem.F.slot_set_add (⟨_,hco,rfl⟩) PySem.F.entry_set_add ?_ (PySem.F.args_set_add_2 _ _);unfold Builtin.«set.add» Builtin.Frozenset.oneOther;simp only[List.isEmpty_nil,bind_assoc];refine wpAny_bind (wpAny_pure ?_);refine wpAny_bind (wpAny_pure ?_);try dsimp only
 refine wpAny_bind (wpAny_holding (wpAny_bind (Jh (wpAny_mono key (λ _ s' x=>?_) λ _ _ x=>x))));exact wpAny_pure ⟨_,rfl,x⟩
end
section
variable {prog:Program}{w:World}{A:Around}{E:Value->Shared->Prop}{R:Result->Shared->Prop}{s:Shared}
noncomputable def zX(prog:Program)(w:World)(A:Around)(R:Result->Shared->Prop)(em:String)(x:Str)(px:Pos)(ifs:List Expr)(elt:Expr)(it acc:Value)(env:Env)(I:Nat->Shared->Prop):Prop:=
 ∀n s,I n s->wpAny (model prog w) A (pyNext it) (λ r sA=>match r with
   |none=>R (.ok .next) sA
   |some v=>wpAny (model prog w) A (assign (.Name x px) env v) (λ _ sB=>
     wpAny (model prog w) A (nH ifs true env) (λ ok s₃=>
      if ok=true then wpAny (model prog w) A (eval elt env) (λ x sC=>
       wpAny (model prog w) A (call (.builtin em) [acc,x]) (λ _ sD=>∃m,m < n/\I m sD) (notedBy (model prog w) A env λ e s'=>R (.error e) s') sC) (notedBy (model prog w) A env λ e s'=>R (.error e) s') s₃
      else ∃m,m < n/\I m s₃) (notedBy (model prog w) A env λ e s'=>R (.error e) s') sB) (notedBy (model prog w) A env λ e s'=>R (.error e) s') sA) (notedBy (model prog w) A env λ e s'=>R (.error e) s') s
theorem GJ(elt target iter:Expr)(ifs:List Expr)(scope:Scope)(pos:Pos)(it acc:Value)(env:Env):
  compTurn (.SetComp elt [⟨target,iter,ifs,0⟩] scope pos) 0 it acc env=(do
   standAt iter.pos
   match <-pyNext it with
   |none=>pure (.done .next)
   |some v=>
    letOwnedTupleGo target it v
    assign target env v
    let mut ok:=true
    for c in ifs do
     if ok then ok <-isTrue c env (eval c env)
    if ok then
     (do let v <-eval elt env;standAt elt.pos;let _ <-call (.builtin "set.add") [acc,v])
    again (.compLoop (.SetComp elt [⟨target,iter,ifs,0⟩] scope pos) 0 it acc env)):=by rfl
theorem rE{x:Str}{px:Pos}{elt iter:Expr}{ifs:List Expr}{scope:Scope}{pos:Pos}{it acc:Value}{env:Env}{I:Nat->Shared->Prop}(turn:zX prog w A R "list.append" x px ifs elt it acc env I)
  {n:Nat}(h:I n s):codeAny (model prog w) A (.compLoop (.ListComp elt [⟨.Name x px,iter,ifs,0⟩] scope pos) 0 it acc env) R s:=
 codeAny_compLoop_tests I turn n h
theorem ud{x:Str}{px:Pos}{elt iter:Expr}{ifs:List Expr}{scope:Scope}{pos:Pos}{it acc:Value}{env:Env}{I:Nat->Shared->Prop}(turn:zX prog w A R "set.add" x px ifs elt it acc env I)
  {n:Nat}(h:I n s):codeAny (model prog w) A (.compLoop (.SetComp elt [⟨.Name x px,iter,ifs,0⟩] scope pos) 0 it acc env) R s:=by
 refine codeAny_loop rfl I (λ n s hI=>?_) n h;show wpAny _ A ((compTurn (.SetComp elt [⟨.Name x px,iter,ifs,0⟩] scope pos) 0 it acc env).onRaise (λ x=>do noteFrame x env;theTreesLotGoes x)) _ _ s;refine wpAny_noted ?_;rw[GJ];refine wpAny_bind (wpAny_standAt (wpAny_bind (wpAny_mono (turn n s hI) (λ r sA hH=>?_) λ _ _ h'=>h')));induction r with
 |none=>exact wpAny_pure hH
 |some v=>
  refine wpAny_bind (wpAny_of_eq (a:=()) rfl ?_);refine wpAny_bind (wpAny_mono hH (λ _ sB hV=>wpAny_bind (wpAny_mono hV (λ ok s₃ hW=>?_) λ _ _ h'=>h')) λ _ _ h'=>h');induction ok with
  |false=>exact wpAny_pure ⟨rfl,hW⟩
  |true=>
   exact wpAny_bind (wpAny_bind (wpAny_mono hW (λ x sC hY=>wpAny_bind (wpAny_standAt (wpAny_bind (wpAny_mono hY (λ _ sD hX=>wpAny_pure (wpAny_pure ⟨rfl,hX⟩)) λ _ _ h'=>h')))) λ _ _ h'=>h'))
theorem Ck{elt target iter ifs rest scope pos it acc env}
  (h0:codeAny (model prog w) A (.compLoop (.SetComp elt (⟨target,iter,ifs,0⟩::rest) scope pos) 0 it acc env) R s)
  (h:wpAny (model prog w) A (pyIter it) (λ it' s'=>codeAny (model prog w) A (.compLoop (.SetComp elt (⟨target,iter,ifs,0⟩::rest) scope pos) 0 it' acc env) R s')
   (notedBy (model prog w) A env λ x s'=>R (.error x) s') s):
  codeAny (model prog w) A (.compStart (.SetComp elt (⟨target,iter,ifs,0⟩::rest) scope pos) 0 it acc env) R s:=by
 refine codeAny_of_tree ?_;refine wpAny_notedAt ?_;refine wpAny_bind (wpAny_askSetting (wpAny_ite ?_));split
 ·first
   |exact wpAny_bind (wpAny_pure (wpAny_pure (And.intro rfl h0)))
   |exact wpAny_pure (And.intro rfl h0)
 ·first
   |exact wpAny_bind (wpAny_rule (wpAny_bind (wpAny_standAt (wpAny_bind (wpAny_mono h (λ it' s' h'=>wpAny_pure (And.intro rfl h')) λ _ _ x=>x)))))
   |(refine wpAny_bind (wpAny_rule ?_);show wpAny _ _ (standAt iter.pos >>= _) _ _ s;exact wpAny_bind (wpAny_standAt (wpAny_bind (wpAny_mono h (λ it' s' h'=>wpAny_pure (And.intro rfl h')) λ _ _ x=>x))))
end
section
variable {d:Nat}{C:Cx}{A:Around}{ρ:List Addr}{s:Shared}{Y:St}{en:En}{env:Env}{h:Heap}{te:Expr->En->St->ak Bool}{ev:Expr->En->St->ak V}
structure Xa(C:Cx)(ρ ρ1:List Addr)(σ₁:St)(v:V)(it:Addr)(kacc:Nat)(s:Shared)(Y:St):Prop where
 rep:C.Rep ρ s.heap Y
 iter:jN ρ1 s.heap σ₁ v it 0
 apart:cW C ρ it
 none:C.h₀.get? it=none
 stat:k0<=ρ.length
 pre:∃ρ',ρ=ρ1++ρ'
noncomputable def adl(isl:Bool)(ok:St->Bool)(x:Str)(G:St->ak Bool)(el:St->ak V)(k:Nat)(F:ak Unit)(r:List V)(Y:St):Prop:=ok Y=true/\fD isl ok x G el k r Y=F
theorem zY{isl:Bool}{ok:St->Bool}{x:Str}{G:St->ak Bool}{el:St->ak V}{k:Nat}{F:ak Unit}{r:List V}{Y:St}(e:fD isl ok x G el k r Y=F)(hF:F≠.bad):adl isl ok x G el k F r Y:=⟨Nb e hF,e⟩
set_option tactic.hygienic true in
theorem Xb{C:Cx}{s:Shared}{isl:Bool}{k:Nat}{a:Addr}{y:V}{YA YE:St}{cy:Value}(R:C.Rep ρ s.heap YA)(ha:ρ[k]?=some a)(hk:k0<=k)(hy:VR ρ y cy)(p:W7 k YA isl y YE){Q:Value->Shared->Prop}{E:Value->Shared->Prop}
  (hQ:∀c h tk ρ',C.Rep (ρ++ρ') h YE->Q c {s with heap:=h,toks:=tk}):wpAny (model C.prog C.w) A (call (.builtin (if isl then "list.append" else "set.add")) [.ref a,cy]) Q E s:=by
 induction p with
 |list e9 hsm=>
  rename_i ys y
  have em:cD .append (.ref k) [y] YA=.ok .none (YA.upd k (.list (ys++[y]))):=by
   exact(cA e9).trans ((if_pos (decide_eq_true ⟨rfl,hsm⟩)).trans (if_pos hk))
  have ap:=Dn (A:=A) R (m:=.append) (ov:=.ref k) (vs:=[y]) ⟨a,ha,rfl⟩ (.cons hy .nil);rw[em]at ap;refine Cx.Snd.calm ap nofun nofun λ _ YI c hX tk5 ρ5 e11 RH _=>hQ c hX tk5 ρ5 ?_
  simp only[(ak.ok.inj e11).2];exact RH
 |bset e9 hsm=>
  subst hy;refine Cx.Snd.calm (JC (A:=A) R e9 ha hsm hk) nofun nofun λ _ YI c hX tk5 ρ5 e11 RH _=>hQ c hX tk5 ρ5 ?_
  rw[(ak.ok.inj e11).2];exact RH
set_option tactic.hygienic true in
theorem JD(hte:HTe d te)(hev:HEv d ev)(W:qD d C)(hA:A.handled=none){isl:Bool}{x:Str}{px:Pos}{elt:Expr}{ifs:List Expr}(EV:aW C A ρ en env){v:V}{xs:List V}{it aacc:Addr}{kacc:Nat}{ρ1:List Addr}{σ₁:St}
  (T:Xa C ρ ρ1 σ₁ v it kacc s Y) (hx:bN v σ₁=some xs) (hacc:ρ[kacc]?=some aacc) {RR:Result->Shared->Prop}
  (hnm:en.scope.names.lookup x=some .local)
  (hr:fD isl (aR v σ₁) x (Gf te .And ifs en) (ev elt en) kacc xs Y≠.bad)
  (hQ:∀Y' h' tk ρ',fD isl (aR v σ₁) x (Gf te .And ifs en) (ev elt en) kacc xs Y=.ok () Y'->C.Rep (ρ++ρ') h' Y'->RR (.ok .next) {s with heap:=h',toks:=tk}):
  ∃I:Nat->Shared->Prop,zX C.prog C.w A RR (if isl then "list.append" else "set.add") x px ifs elt (.ref it) (.ref aacc) env I/\I xs.length s:=by
 obtain⟨ρ0,rfl⟩:=T.pre;obtain⟨kv,rfl⟩:=vR hx;generalize hL:ev elt en=el at*;generalize hG:Gf te .And ifs en=G at*;generalize hF:fD isl (aR (.ref kv) σ₁) x G el kacc xs Y=F at*;refine⟨pR C s (ρ1++ρ0) σ₁ kv it xs (adl isl (aR (.ref kv) σ₁) x G el kacc F),?_,pR.start T.rep T.iter T.apart (zY hF hr) (zU kv σ₁)⟩;intro n s' L;refine L.next hx T.none T.stat hA (λ _ _ q=>q.1) (λ Y' ρ' h tk hf R'=>hQ Y' h tk ρ' (GF hf.2 hr) R') λ xv r g c Y' ρ' h tk hf g1 Rg hc hz=>lU λ G' toG=>?_
 obtain⟨b,σ₂,hifs,hb⟩:=SX hf.2 hr;have Wg:=W.on g1;have hst:cB en x xv Y'=.ok () {Y' with loc:=aZ Y'.loc x xv}:=by
  unfold cB;rw[hnm]
 have asg:(C.on g).Snd A (assign (.Name x px) env c) ((ρ1++ρ0)++ρ') (cB en x xv Y') jH {s with heap:=h,toks:=tk}:=by
  exact Cx.Snd.at (dD (EV.on.mono _) Rg x hc)
 simp only[hst]at asg;refine toG (Cx.Snd.calm (C:=C.on g) asg nofun nofun λ _ σs' _ hV tk2 ρ2 e6 RC _=>?_);rw[<-(ak.ok.inj e6).2]at RC;have sif:=abK (hte (C.on g) A en env Wg) ifs (s:={s with heap:=hV,toks:=tk2}) ((EV.on.mono _).mono _) RC;simp only[hG,hifs]at sif;refine Cx.Snd.calm (C:=C.on g) sif nofun nofun λ bb Y3 b' hW tk3 ρ3 e7 RE hbb=>lU λ G' toG=>?_
 simp only[<-(ak.ok.inj e7).2]at RE;simp only[<-show bb=b' from hbb,<-(ak.ok.inj e7).1]at toG;clear hifs sif e7;induction hb with
 |skip hb=>
  rw[List.append_assoc (_++ρ')]at RE;exact toG ((hz σ₂ hW tk3 (ρ2++ρ3) RE).2 (zY hb hr))
 |put he hk p hb=>
  have sel:=hev (C.on g) A en env Wg elt (s:={s with heap:=hW,toks:=tk3}) (((EV.on.mono _).mono _).mono _) RE;simp only[hL,he]at sel;refine toG (Cx.Snd.calm (C:=C.on g) sel nofun nofun λ yv YE cy hY tk4 ρ4 e8 RF hy=>?_);rw[<-(ak.ok.inj e8).2]at RF;rw[<-(ak.ok.inj e8).1]at hy;refine Xb (C:=C.on g) (s:={s with heap:=hY,toks:=tk4}) RF (aH (aH (aH (aH hacc)))) hk hy p λ _ hX tk5 ρ5 RH=>?_
  rw[List.append_assoc (((_++ρ')++ρ2)++ρ3),List.append_assoc ((_++ρ')++ρ2),List.append_assoc (_++ρ')]at RH;exact(hz _ hX tk5 _ RH).2 (zY hb hr)
end
noncomputable def CR(ρ:List Addr)(p:Str×Nat)(q:Str×Addr):Prop:=p.1=q.1/\ρ[p.2]?=some q.2
theorem aU.reverse{α β:Type}{R:α->β->Prop}{as:List α}{bs:List β}(h:aU R as bs):aU R as.reverse bs.reverse:=by
 induction h with
 |nil=>exact .nil
 |cons h _ ih=>rw[List.reverse_cons,List.reverse_cons];exact ih.append (.cons h .nil)
theorem S5{ρ:List Addr}{cs:List (Str×Nat)}{cl:List (Str×Addr)}(h:aU (CR ρ) cs cl){x:Str}{k:Nat}(e:cs.lookup x=some k):∃a,cl.lookup x=some a/\ρ[k]?=some a:=by
 induction h with
 |nil=>first|exact ns e|exact jz e|induction e
 |@cons p q as bs h1 h2 ih=>
  obtain⟨y,n⟩:=p;obtain⟨z,a⟩:=q;obtain⟨e1,e2⟩:=h1;dsimp only at e1 e2;subst e1;by_cases hx:x=y
  ·subst hx;simp only[List.lookup,beq_self_eq_true]at e ⊢;cases e;exact⟨a,rfl,e2⟩
  ·have:(x==y)=false:=by simpa using hx
   simp only[List.lookup,this]at e ⊢;exact ih e
section
variable {C:Cx}{A:Around}{ρ:List Addr}{s:Shared}{Y:St}{en:En}{env:Env}{h:Heap}{te:Expr->En->St->ak Bool}{ev:Expr->En->St->ak V}
theorem GK{f:Str×NameKind->Option (Str×Nat)}{g:Str×NameKind->List (Str×Addr)->Sem (ForInStep (List (Str×Addr)))}(h1:∀p r,(p.2== .free)=false->g p r=pure (.yield r))(h2:∀p r c,(p.2== .free)=true->f p=some c->∃a,g p r=pure (.yield ((p.1,a)::r))/\CR ρ c (p.1,a))(names:List (Str×NameKind)):
  ∀(cs:List (Str×Nat)) (acc:List (Str×Addr)),(names.filter λ p=>p.2== .free).mapM f=some cs->∃cl,forIn names acc g=pure (cl.reverse++acc)/\aU (CR ρ) cs cl:=by
 induction names with
 |nil=>
  intro cs acc e;cases e;exact⟨[],rfl,.nil⟩
 |cons p r ih=>
  intro cs acc e;rw[List.forIn_cons];induction hk:p.2== .free with
  |true=>
   rw[List.filter_cons,if_pos hk,List.mapM_cons]at e;obtain⟨c,e1,e⟩:=Option.bind_eq_some_iff.mp e;obtain⟨a,h3,h4⟩:=h2 p acc c hk e1;obtain⟨cs',e2,e⟩:=Option.bind_eq_some_iff.mp e;cases e;obtain⟨cl,h5,h6⟩:=ih cs' ((p.1,a)::acc) e2;refine⟨(p.1,a)::cl,?_,.cons h4 h6⟩;rw[h3];refine h5.trans ?_;rw[List.reverse_cons,List.append_assoc];rfl
  |false=>
   rw[List.filter_cons,if_neg (by rw[hk];exact Bool.false_ne_true)]at e;obtain⟨cl,h5,h6⟩:=ih cs acc e;refine⟨cl,?_,h6⟩;rw[h1 p acc hk];exact h5
theorem Nf(EV:aW C A ρ en env)(names:List (Str×NameKind))(cs:List (Str×Nat))(acc:List (Str×Addr))
  (e:((names.filter λ p=>p.2== .free).mapM λ p=>if en.scope.names.lookup p.1==some .cell then(en.cells.lookup p.1).map (p.1,·)else none)=some cs):
  ∃cl,(forIn names acc λ(p:Str×NameKind) (r:List (Str×Addr))=>(if(p.2== .free)=true then do let a <-cellOf env p.1;pure (ForInStep.yield ((p.1,a)::r))else pure (ForInStep.yield r):Sem (ForInStep (List (Str×Addr)))))=pure (cl.reverse++acc)/\aU (CR ρ) cs cl:=by
 refine GK (λ p r h=>if_neg (by rw[h];exact Bool.false_ne_true)) (λ p r c h e=>?_) names cs acc e;induction hc:en.scope.names.lookup p.1==some .cell with
 |false=>rw[hc]at e;contradiction
 |true=>
  rw[hc]at e;obtain⟨k,hl,rfl⟩:=Option.map_eq_some_iff.mp e;obtain⟨a,q1,q2⟩:=EV.cells _ _ hl;refine⟨a,(if_pos h).trans ?_,rfl,q2⟩;rw[show cellOf env p.1=pure a by unfold cellOf;rw[q1],pure_bind]
inductive agG(env:Env)(scope:Scope)(en cen:En)(ρ:List Addr):Prop
 |mk (cl:List (Str×Addr)) (h1:closureFor scope env=pure cl) (h2:scope.kind=.function) (h3:∀x∈scope.names,x.2=.local->scope.names.lookup x.1=some .local) (h4:∀x∈scope.names,x.2≠.cell)
  (h5:relabel scope env=cen.scope) (h6:cen.free=en.free) (h7:cen.own=false) (h8:∀x k,cen.cells.lookup x=some k->∃a,cl.lookup x=some a/\ρ[k]?=some a)
set_option tactic.hygienic true in
theorem GP(EV:aW C A ρ en env){scope:Scope}{cen:En}(h:zB en scope=some cen):agG env scope en cen ρ:=by
 unfold zB at h;split at h
 ·rename_i hc
  simp only[Bool.and_eq_true,beq_iff_eq,List.all_eq_true,Bool.or_eq_true,bne_iff_ne,ne_eq]at hc;obtain⟨hkind,hall⟩:=hc;induction hcs:Dg en scope with
  |none=>rw[hcs]at h;contradiction
  |some cs=>
   rw[hcs]at h;obtain⟨cl,h1,h2⟩:=Nf EV scope.names cs [] hcs;cases h;refine⟨cl.reverse,?_,hkind,λ x hx hl=>?_,λ x hx=>(hall x hx).1,?_,rfl,rfl,λ x k e=>S5 h2.reverse e⟩
   ·simp only[List.append_nil]at h1;refine(congrArg (λ t=>t >>= λ r=>pure r) h1).trans ?_;rw[pure_bind]
   ·rcases(hall x hx).2 with q|q
    ·exact absurd hl q
    ·exact q
   ·dsimp only[relabel,Df];rw[EV.kind,EV.scope.symm];simp[Env.kindOf]
 ·first|exact ns h|exact jz h|cases h
end
section
variable {d:Nat}{C:Cx}{A:Around}{ρ:List Addr}{s:Shared}{Y:St}{en:En}{env:Env}{h:Heap}{te:Expr->En->St->ak Bool}{ev:Expr->En->St->ak V}
noncomputable def pW(isl:Bool)(elt:Expr)(gens:List Comprehension)(scope:Scope)(pos:Pos):Expr:=if isl then .ListComp elt gens scope pos else .SetComp elt gens scope pos
noncomputable def zZ(isl:Bool):Sem Value:=if isl then newList []else newSet (.type "set")
theorem S8{prog:Program}{w:World}{isl:Bool}{Q:Value->Shared->Prop}{E:Value->Shared->Prop}(h:∀co:Obj,co.isFreed=false->(∀ρ,OR prog w ρ (vM isl) co)->Q (.ref s.heap.objs.size) {s with heap:=s.heap.push co}):wpAny (model prog w) A (zZ isl) Q E s:=by
 induction isl with
 |true=>
  refine wpAny_newList (h {cls:=.type "list",data:=.seq #[]} rfl λ ρ=>⟨#[],0,rfl,.nil⟩) (by decide)
 |false=>
  refine wpAny_bind (wpAny_bind (wpAny_askSetting (wpAny_pure ?_)));exact wpAny_bind (wpAny_alloc (wpAny_pure (h {cls:=.type "set",dict:=none,data:=.set #[] 0 (.fresh 0 0 (agw w))} rfl λ ρ=>⟨_,rfl,rfl⟩)))
inductive agH(isl:Bool)(te:Expr->En->St->ak Bool)(ev:Expr->En->St->ak V)(x:Str)(iter elt:Expr)(ifs:List Expr)(scope:Scope)(en:En)(v:V)(Y:St)(r:ak V):Prop
 |mk (cen:En) (xs:List V) (Y':St) (hc:zB en scope=some cen) (hf:en.free=true) (hs:oU iter=false) (hn:cen.scope.names.lookup x=some .local) (hx:bN v Y=some xs)
  (hr:fD isl (aR v Y) x (Gf te .And ifs cen) (ev elt cen) Y.sto.length xs {loc:=[],sto:=Y.sto++[vM isl]}=.ok () Y') (e:r=.ok (.ref Y.sto.length) {loc:=Y.loc,sto:=Y'.sto})
theorem JF{isl:Bool}{x:Str}{iter elt:Expr}{ifs:List Expr}{scope:Scope}{v:V}(hr:kO isl te ev x iter elt ifs scope en v Y≠.bad):agH isl te ev x iter elt ifs scope en v Y (kO isl te ev x iter elt ifs scope en v Y):=by
 unfold kO at hr ⊢;induction hc:zB en scope with
 |none=>rw[hc]at hr;exact absurd rfl hr
 |some cen=>
  rw[hc]at hr;dsimp only at hr ⊢;by_cases hd:(en.free&&!oU iter&&(cen.scope.names.lookup x==some .local))=true
  ·rw[if_pos hd]at hr ⊢;simp only[Bool.and_eq_true,Bool.not_eq_true',beq_iff_eq]at hd;unfold eF at hr ⊢;induction hx:bN v Y with
   |none=>rw[hx]at hr;exact absurd rfl hr
   |some xs=>
    rw[hx]at hr;obtain⟨u,Y',h1,h2⟩:=bindN_ok hr;exact⟨cen,xs,Y',hc,hd.1.1,hd.1.2,hd.2,hx,h1,h2⟩
  ·rw[if_neg hd]at hr;exact absurd rfl hr
theorem JG{v:V}{xs:List V}(hx:bN v Y=some xs):aR v Y Y=true:=by
 obtain⟨kv,rfl⟩:=vR hx;exact jO.mpr ⟨rfl,λ _ _=>rfl⟩
theorem Ng{s₃:Shared}{hH hV:Heap}{isl:Bool}{co:Obj}{it:Addr}{v:V}{xs:List V}{m':Str->Option Value}(EV:aW C A ρ en env)(R:C.Rep ρ hH Y)(hnone:hH.get? it=none)(hsub:Sub hH hV)(I:jN ρ hV Y v it 0)(hx:bN v Y=some xs)
  (hfz:co.isFreed=false) (hco:∀ρ,OR C.prog C.w ρ (vM isl) co) (hns:s₃.heap.Ns (hV.push co).objs.size m') (hsub3:Sub (hV.push co) s₃.heap):
  ∃m,pK ρ Y.loc m/\Xa (C.inn (hV.push co).objs.size env m) (ρ++[hV.objs.size]) ρ Y v it Y.sto.length s₃ {loc:=[],sto:=Y.sto++[vM isl]}:=by
 have RC:C.Rep ρ hV Y:=Mine.Rep.junk R hsub;have RE:C.Rep (ρ++[hV.objs.size]) (hV.push co) {Y with sto:=Y.sto++[vM isl]}:=Cx.Rep.new1 (s:={s₃ with heap:=hV}) RC hfz (hco _);have hnoneL:(hV.push co).get? (hV.push co).objs.size=none:=Heap.get?_none_of_le (Nat.le_refl _);obtain⟨m,hm,hml⟩:=Mine.Rep.loc RC;obtain⟨oit,hoit⟩:=I.obj;have hoit2:=Heap.get?_push_of_some co hoit;have apC:=cW.new R hnone;refine⟨m,hml,Rep.enter RE (hm.keeps λ b o e=>Heap.get?_push_of_some _ e) hnoneL hsub3 hns (λ y u e=>by contradiction) EV.locals EV.kind,by simpa using I.move (ρ':=[]) hoit (hsub3 _ _ hoit2) (JG hx),⟨λ q=>?_,λ q=>?_,List.forall_mem_cons.mpr ⟨λ q=>apC.notL (q.symm.trans EV.locals),apC.notF⟩⟩,dF (λ b o e=>Mine.Rep.keep R b o e) hnone,by have:=EV.stat;simp;exact Nat.le_succ_of_le (by assumption),⟨_,rfl⟩⟩
 ·rcases List.mem_append.mp q with q|q
  ·exact apC.notIn q
  ·rw[List.mem_singleton.mp q,(Heap.get?_none_of_le (Nat.le_refl _))]at hoit;contradiction
 ·have q:it=(hV.push co).objs.size:=q;rw[q,hnoneL]at hoit2;contradiction
theorem abN(EV:aW C A ρ en env){scope:Scope}{cen:En}{cl:List (Str×Addr)}{L' D:Addr}{m:Str->Option Value}(hf:en.free=true)(hkind:scope.kind=.function)(hrel:relabel scope env=cen.scope)(hown:cen.own=false)(hcl:∀x k,cen.cells.lookup x=some k->∃a,cl.lookup x=some a/\ρ[k]?=some a):
  aW (C.inn L' env m) A (ρ++[D]) cen {newEnv scope L' env.globals cl env.qual none Value.none (some env) builtinsNs with scope:=relabel scope env}:=
 ⟨hrel,hkind,rfl,EV.globals,EV.builtins,λ y k e=>let ⟨a,q1,q2⟩:=hcl y k e;⟨a,q1,aH q2⟩,λ _=>EV.free hf,EV.units,EV.room,aH EV.files,by have:=EV.stat;simp;exact Nat.le_succ_of_le (by assumption),λ q=>by rw[hown]at q;cases q⟩
theorem Dw(hte:HTe d te)(hev:HEv d ev)(W:qD d C){isl:Bool}{x:Str}{px:Pos}{iter elt:Expr}{ifs:List Expr}{scope:Scope}{pos ps:Pos}(EV:aW C A ρ en env)(R:C.Rep ρ s.heap Y){use:Option (Value->Sem Unit)}{Q:Value->Shared->Prop}{E:Value->Shared->Prop}
  (hr:(ev iter en Y).bind (kO isl te ev x iter elt ifs scope en)≠.bad)
  (hE:∀e s',C.Exn ρ s (ev iter en Y) e s'->E e s')
  (hfin:∀(v:V) (σ₁:St) (ρ1:List Addr) (L' D:Addr) (m:Str->Option Value) (Y':St) (h':Heap) (tk:Nat) (ρ':List Addr),ev iter en Y=.ok v σ₁->kO isl te ev x iter elt ifs scope en v σ₁=.ok (.ref σ₁.sto.length) {loc:=σ₁.loc,sto:=Y'.sto}->
   (C.inn L' env m).Rep (ρ++ρ1++[D]++ρ') h' Y'->pK (ρ++ρ1++[D]++ρ') σ₁.loc m->VR (ρ++ρ1++[D]++ρ') (.ref σ₁.sto.length) (.ref D)->
   compPost (model C.prog C.w) A E use Q (.ref D) L' (.ok .next) {s with heap:=h',toks:=tk}):
  wpAny (model C.prog C.w) A (comprehension (pW isl elt [⟨.Name x px,iter,ifs,0⟩] scope pos) scope env ps (zZ isl) false (eval iter env) use) Q E s:=by
 refine lU λ G toG=>?_
 have hi:=hev C A en env W iter EV R;generalize ev iter en Y=r0 at hr hi hE hfin;induction r0 with
 |bad=>exact absurd rfl hr
 |exc y σ₁=>
  exact toG<|wpAny_bind (wpAny_mono (hi nofun) (λ b s' ⟨a,Y',h',tk,ρ',e,_,_,_⟩=>nomatch e) λ e s' he=>hE e s' he)
 |ok v σ₁=>
  obtain⟨cen,xs,Y',hcen,hfree,hset,hnm,hx,hcomp,hres⟩:=JF hr;obtain⟨cl,hclos,hkind,hnames,hcell,hrel,hfr,hown,hcl⟩:=GP EV hcen;refine toG<|wpAny_comprehension_free (g:=⟨.Name x px,iter,ifs,0⟩) (gs:=[]) (cl:=cl) (by clear toG hr hfin hcomp hres;induction isl<;>rfl) (λ y=>vU hset env y) hclos hkind hnames (hi.told rfl λ c hH tk1 ρ1 RA hv=>?_)
  refine QT (s:={s with heap:=hH,toks:=tk1}) RA hv hx λ it hV hnone hsub I=>S8 λ co hfz hco=>wpAny_newFunctionEnv hcell (by intro y hy;simp at hy) (λ hW hns hsb=>lU λ G toG=>?_) hkind
  have EV1:aW C A (ρ++ρ1) en env:=EV.mono ρ1;obtain⟨m,hml,T⟩:=Ng (s₃:={s with heap:=hW,toks:=tk1}) EV1 RA hnone hsub I hx hfz hco hns λ b o e=>hsb.extBut b o (λ q=>by rw[q,show(hV.push co).get? (hV.push co).objs.size=none from Heap.get?_none_of_le (Nat.le_refl _)]at e;contradiction) (Heap.get?_push_of_some _ e)
  have hkacc:(ρ++ρ1++[hV.objs.size])[σ₁.sto.length]?=some hV.objs.size:=by rw[<-(Mine.Rep.len RA)];simp
  obtain⟨J,turn,hJ⟩:=JD (RR:=compPost (model C.prog C.w) A E use Q (.ref hV.objs.size) (hV.push co).objs.size) hte hev (W.inn _ env m) (EV.free hfree) (isl:=isl) (x:=x) (px:=px) (elt:=elt) (ifs:=ifs) (abN EV1 hfree hkind hrel hown λ y k e=>let ⟨a,b,c⟩:=hcl y k e;⟨a,b,aH c⟩) T hx hkacc hnm (by rw[hcomp];nofun) (λ Y'' h' tk ρ' e6 R'=>by
    obtain⟨_,rfl⟩:=ak.ok.inj (hcomp.symm.trans e6);exact hfin v σ₁ ρ1 _ _ m Y' h' tk ρ' rfl hres R' hml.mono.mono ⟨_,aH hkacc,rfl⟩)
  induction isl with
  |true=>exact toG<|codeAny_compStart_list (rE turn hJ) (QW T.iter (rE turn hJ))
  |false=>exact toG<|Ck (ud turn hJ) (QW T.iter (ud turn hJ))
set_option tactic.hygienic true in
theorem S9(hte:HTe d te)(hev:HEv d ev)(W:qD d C){cl:Nat->List V->St->ak V}:adf C A en env cl ev te:=by
 intro elt gens scope p ρ s Y EV R;have key:∀isl,C.Snd A (eval (pW isl elt gens scope p) env) ρ (xN isl ev te elt gens scope en Y) VR s:=by
  intro isl;unfold xN;split
  ·rename_i x iter ifs hg
   obtain⟨px,rfl⟩:=Je hg;have main:∀ps,C.Snd A (comprehension (pW isl elt [⟨.Name x px,iter,ifs,0⟩] scope p) scope env ps (zZ isl) false (eval iter env) none) ρ ((ev iter en Y).bind (kO isl te ev x iter elt ifs scope en)) VR s:=by
    intro ps hb;refine Dw hte hev W EV R hb ?_ ?_
    ·rintro e s' ⟨x',Y',h',tk,ρ',e1,e2,e3⟩;exact⟨x',Y',h',tk,ρ',by rw[e1];rfl,e2,e3⟩
    ·intro v σ₁ ρ1 L' D m Y' h' tk ρ' e1 e2 R' hl hv;obtain⟨mi,hmi,_⟩:=Mine.Rep.loc R';refine⟨mi,hmi,λ h'' hs=>⟨.ref σ₁.sto.length,{loc:=σ₁.loc,sto:=Y'.sto},h'',tk,ρ1++[D]++ρ',?_,rfl,?_,?_⟩⟩
     ·rw[e1];exact e2
     ·have:=Rep.leave R' hl EV.locals hs;simpa only[List.append_assoc]using this
     ·simpa only[List.append_assoc]using hv
   induction isl
   ·exact main _
   ·exact main _
  ·exact .of_bad
 exact⟨key true,key false⟩
end
noncomputable def HEx(d:Nat)(ex:Stmt->En->St->ak Fl):Prop:=∀(C:Cx) (A:Around) (en:En) (env:Env),qD d C->ExS C A en env ex
noncomputable def sG(d:Nat)(cl:Nat->List V->St->ak V):Prop:=∀(C:Cx) (A:Around) (en:En) (env:Env),qD d C->Ops C A en env cl
theorem nJ{d:Nat}{cl:Nat->List V->St->ak V}(hO:sG d cl):∀n,HEv d (dj cl n)/\HTe d (xO cl n)
 |0=>⟨λ _ _ _ _ _ _ _ _ _ _ _=>.of_bad,λ _ _ _ _ _ _ _ _ _ _ _=>.of_bad⟩
 |n+1=>by
  obtain⟨h1,h2⟩:=nJ hO n;exact⟨λ C A en env W=>Sh (hO C A en env W) (h1 C A en env W) (h2 C A en env W) (S9 h2 h1 W),λ C A en env W=>Sq (h1 C A en env W) (h2 C A en env W)⟩
section
variable {d:Nat}{C:Cx}{A:Around}{ρ:List Addr}{s:Shared}{Y:St}{en:En}{env:Env}{cl:Nat->List V->St->ak V}{n:Nat}{ex:Stmt->En->St->ak Fl}
theorem oV{t:Expr}(h:∀e p,t≠.Starred e p)(rest:List Expr)(env:Env):assignEach (t::rest) env=(false,assign t env)::assignEach rest env:=by
 induction t using PySem.Expr.casesOn<;>first|rfl|exact absurd rfl (h _ _)
theorem Cm(O:Ops C A en env cl)(hev:yS C A en env (dj cl n)):∀(ts:List Expr) {ρ}{s:Shared} {Y}{v:V}{c:Value},aW C A ρ en env->C.Rep ρ s.heap Y->VR ρ v c->
  C.Snd A (assignAll c ((assignEach ts env).map (·.2))) ρ (gJ cl n ts v en Y) jH s:=by
 intro ts;induction ts with
 |nil=>exact λ EV R hv _=>wpAny_pure (Cx.ret0 R trivial)
 |cons t r ih=>
  intro ρ s Y v c EV R hv;dsimp only[gJ];by_cases hst:∃e p,t=.Starred e p
  ·obtain⟨e,p,rfl⟩:=hst;exact .of_bad
  ·have hst:∀e p,t≠.Starred e p:=λ e p q=>hst ⟨e,p,q⟩
   rw[oV hst];cases r with
   |nil=>
    have:=xV O hev t EV R hv;intro hb;refine wpAny_mono (this (λ q=>hb (by rw[q];rfl))) ?_ ?_
    ·rintro b s' ⟨a,Y',h',tk,ρ',e,rfl,R',x⟩;exact⟨(),Y',h',tk,ρ',by rw[e];rfl,rfl,R',trivial⟩
    ·rintro e s' ⟨x',Y',h',tk,ρ',e1,e2,e3⟩;exact⟨x',Y',h',tk,ρ',by rw[e1];rfl,e2,e3⟩
   |cons t2 r2=>
    have hne:∃q l,(assignEach (t2::r2) env).map (·.2)=q::l:=by
     by_cases hst2:∃e p,t2=.Starred e p
     ·obtain⟨e,p,rfl⟩:=hst2;exact⟨_,_,rfl⟩
     ·rw[oV λ e p q=>hst2 ⟨e,p,q⟩];exact⟨_,_,rfl⟩
    obtain⟨q,l,hq⟩:=hne;show C.Snd A (assignAll c (assign t env::(assignEach (t2::r2) env).map (·.2))) ρ _ jH s;rw[hq]at ih ⊢;refine Cx.Snd.bind' (Cx.Snd.holding (xV O hev t EV R hv)) λ _ σ₁ _ hH tk1 ρ1 RA _=>?_
    exact ih (EV.mono _) RA hv.mono
theorem Xc(hev:yS C A en env (dj cl n))(EV:aW C A ρ en env)(R:C.Rep ρ s.heap Y){f:Expr}{args:List Expr}{kw:List Keyword}{p pos:Pos}:
  C.Snd A (exec (.Expr (.Call f args kw p) pos) env) ρ ((dj cl n (.Call f args kw p) en Y).bind λ _ Y=>.ok .next Y) m9 s:=by
 simp only[arm_exec_Expr];have hs:swapsWith (.Call f args kw p) none pos.line env=pure false:=rfl;rw[(by unfold interactive;rw[EV.kind];rfl:interactive env=false),hs];refine Cx.Snd.at ?_;simp only[if_false,pure_bind];refine Cx.Snd.bind' (hev _ EV R) λ v σ₁ c hH tk1 ρ1 RA hv=>?_
 exact λ _=>wpAny_dropValue (Cx.ret0 RA rfl)
theorem JH{e:Expr}(h:Gg e=false)(t:Option Expr)(l:Nat):swapsWith e t l env=pure false:=by
 induction e using PySem.Expr.casesOn<;>first|rfl|exact jz h|contradiction
set_option tactic.hygienic true in
theorem JK(t e:Expr)(l:Nat):∃b,swapsWith e (some t) l env=pure b/\(b=true->(∃y py,t=.Name y py)/\Gg e=true):=by
 refine lU λ G toG=>?_
 induction hc:Gg e with
 |false=>exact toG ⟨false,JH hc _ l,nofun⟩
 |true=>
  have hs:∃sc,swapsWith e (some t) l env=(match some t with
   |none=>swapsWith e none l env
   |some (.Name t pos)=>(pure (env.blockKind== .function&&env.kindOf t==some .local&&pos.line==e.pos.line&&!(Scope.names sc).any λ(n,k)=>n==t&&(k== .local||k== .cell)):Sem Bool)
   |some _=>pure false):=by
   clear toG;induction e using PySem.Expr.casesOn
   case ListComp _ _ sc _=>exact⟨sc,rfl⟩
   case SetComp _ _ sc _=>exact⟨sc,rfl⟩
   case DictComp _ _ _ sc _=>exact⟨sc,rfl⟩
   all_goals first|exact ns hc|exact jz hc|cases hc
  obtain⟨sc,hs⟩:=hs;induction hn:gH t with
  |some y=>obtain⟨py,rfl⟩:=gY hn;exact toG ⟨_,hs,λ _=>⟨⟨y,py,rfl⟩,hc⟩⟩
  |none=>exact toG ⟨false,(by clear toG;rw[hs];induction t using PySem.Expr.casesOn<;>first|rfl|exact ns hn|exact jz hn|(contradiction;done)),nofun⟩
theorem Tc{ts:List Expr}{e:Expr}(h:Jc e=false)(env:Env):swappedStores ts e env=pure none:=by
 rcases ts with _|⟨a,_|⟨b,r⟩⟩
 ·rfl
 all_goals induction a using PySem.Expr.casesOn<;>first|rfl|(induction e using PySem.Expr.casesOn<;>first|rfl|exact jz h.symm)
theorem Cp(O:Ops C A en env cl)(hev:yS C A en env (dj cl n))(EV:aW C A ρ en env)(R:C.Rep ρ s.heap Y){ts:List Expr}{e:Expr}(hs:Jc e=false):
  C.Snd A (eval e env >>= λ v=>swappedStores ts e env >>= λ sw=>assignStores env v sw ((assignEach ts env).map (·.2))) ρ ((dj cl n e en Y).bind λ v Y=>(gJ cl n ts v en Y).bind λ _ Y=>.ok .next Y) m9 s:=by
 rw[Tc hs];refine Cx.Snd.bind' (hev _ EV R) λ v σ₁ c hH tk1 ρ1 RA hv=>?_
 show C.Snd A (assignAll c ((assignEach ts env).map (·.2)) >>= λ _=>pure .next) _ _ m9 _;refine Cx.Snd.bind' (Cm O hev ts (EV.mono _) RA hv) λ _ σ₂ _ hV tk2 ρ2 RC _=>λ _=>wpAny_pure (Cx.ret0 RC rfl)
theorem Dy{m:Str->Option Value}{L':Addr}{h:Heap}(R:(C.inn L' env m).Rep ρ h Y)(hL:env.locals=C.L):cW C ρ L':=by
 refine⟨Mine.Rep.notL R,λ q=>?_,λ p hp q=>?_⟩
 ·obtain⟨a,y⟩:=Mine.Rep.callers R (env,m) (.head _);exact y.notL (y.frame.symm.trans (hL.trans q.symm))
 ·obtain⟨a,y⟩:=Mine.Rep.callers R p (.tail _ hp);exact y.notL (y.frame.symm.trans q)
theorem JL{α β:Type}{o:Option α}{k:α->ak β}{z:yN}{τ:St}(h:∀a,k a≠.exc z τ):onS o k≠.exc z τ:=by
 induction o with
 |none=>nofun
 |some a=>exact h a
theorem Nh{en:En}{x:Str}{v:V}{Y Y'':St}{z:yN}{P:Prop}(q:cB en x v Y=.exc z Y''):P:=by
 unfold cB at q;induction e:en.scope.names.lookup x with
 |none=>rw[e]at q;contradiction
 |some k=>
  rw[e]at q;clear e;induction k<;>try first|exact ns q|exact jz q|contradiction
  refine absurd q (JL λ c=>JL λ o=>?_);intro q;induction o<;>try first|exact ns q|exact jz q|contradiction
  replace q:grd (decide (k0<=c)) _=_:=q;generalize decide (k0<=c)=b at q;induction b<;>first|exact ns q|exact jz q|contradiction
theorem Cq(hO:sG d cl)(W:qD d C)(EV:aW C A ρ en env)(R:C.Rep ρ s.heap Y){y:Str}{py:Pos}{isl:Bool}{x:Str}{px:Pos}{iter elt:Expr}{ifs:List Expr}{scope:Scope}{pos ps:Pos}:
  C.Snd A (comprehension (pW isl elt [⟨.Name x px,iter,ifs,0⟩] scope pos) scope env ps (zZ isl) false (eval iter env) (some λ v=>assignAll v ((assignEach [.Name y py] env).map (·.2))) >>= λ _=>(pure .next:Sem Flow)) ρ
   (((dj cl n iter en Y).bind (kO isl (xO cl n) (dj cl n) x iter elt ifs scope en)).bind λ v Y=>(gJ cl (n+1) [.Name y py] v en Y).bind λ _ Y=>.ok .next Y) m9 s:=by
 obtain⟨hev,hte⟩:=nJ hO n;intro hb;refine wpAny_bind (Dw hte hev W EV R (λ q=>hb (by rw[q];rfl)) ?_ ?_)
 ·rintro e s' ⟨x',Y',h',tk,ρ',e1,e2,e3⟩;exact⟨x',Y',h',tk,ρ',by rw[e1];rfl,e2,e3⟩
 ·intro v σ₁ ρ1 L' D m Y' h' tk ρ' e1 e2 R' hl hv;simp only[e1,e2,ak.bind_ok]at hb ⊢;refine lU λ Gz toG=>?_
  have R5:C.Rep (ρ++ρ1++[D]++ρ') h' {loc:=σ₁.loc,sto:=Y'.sto}:=Rep.leave R' hl EV.locals (Heap.SameBut.refl ..);obtain⟨g,g1,g2,Rg,g3⟩:=Rep.strong R5;obtain⟨mi,⟨oL,es,ep,hL1,hL2⟩,_⟩:=Mine.Rep.loc R';have ap:=Dy R' EV.locals;have hgL:=g3 L' oL hL1 ap;have EV5:aW C A (ρ++ρ1++[D]++ρ') en env:=((EV.mono _).mono _).mono _;have asg:(C.on g).Snd A (assign (.Name y py) env (.ref D)) (ρ++ρ1++[D]++ρ') (cB en y (.ref σ₁.sto.length) {loc:=σ₁.loc,sto:=Y'.sto}) jH {s with heap:=h',toks:=tk}:=by
   exact Cx.Snd.at (dD EV5.on Rg y hv)
  have hst:gJ cl (n+1) [.Name y py] (.ref σ₁.sto.length) en {loc:=σ₁.loc,sto:=Y'.sto}=(cB en y (.ref σ₁.sto.length) {loc:=σ₁.loc,sto:=Y'.sto}).bind λ _ Y=>.ok () Y:=rfl
  have hns:cB en y (.ref σ₁.sto.length) {loc:=σ₁.loc,sto:=Y'.sto}≠.bad:=λ q=>hb (by rw[hst,q];rfl)
  have hnx:∀z Y'',cB en y (.ref σ₁.sto.length) {loc:=σ₁.loc,sto:=Y'.sto}≠.exc z Y'':=by
   intro z Y'' q;exact Nh q
  refine toG (Cx.Snd.calm (C:=C.on g) asg hns hnx λ _ YI _ h₆ tk6 ρ6 e6 RI _=>?_);refine⟨mi,⟨oL,es,ep,Mine.Rep.keep RI L' oL hgL,hL2⟩,λ h'' hs=>?_⟩;refine wpAny_pure ⟨.next,YI,h'',tk6,ρ1++[D]++ρ'++ρ6,?_,rfl,by simpa only[List.append_assoc]using (Rep.other (Rep.weak (C:=C) g1 (Mine.Rep.sysIn R) RI) hs.extBut (cW.stay ap hgL RI EV5.stat) (Mine.Rep.newL R')),rfl⟩;rw[hst,e6];rfl
end
structure agI(d:Nat)(cl:Nat->List V->St->ak V)(n:Nat)(ex:Stmt->En->St->ak Fl):Prop where
 try_:∀(C:Cx) (A:Around) (en:En) (env:Env),qD d C->∀(b:List Stmt) (hs:List ExceptHandler) (o f:List Stmt) (p:Pos) {ρ}{s:Shared} {Y},aW C A ρ en env->C.Rep ρ s.heap Y->
  C.Snd A (exec (.Try b hs o f p) env) ρ (zF cl n ex (.Try b hs o f p) en Y) m9 s
 raise_:∀(C:Cx) (A:Around) (en:En) (env:Env),qD d C->∀(e c:Option Expr) (p:Pos) {ρ}{s:Shared} {Y},aW C A ρ en env->C.Rep ρ s.heap Y->
  C.Snd A (exec (.Raise e c p) env) ρ (zF cl n ex (.Raise e c p) en Y) m9 s
section
variable {d:Nat}{C:Cx}{A:Around}{ρ:List Addr}{s:Shared}{Y:St}{en:En}{env:Env}{cl:Nat->List V->St->ak V}{n:Nat}{ex:Stmt->En->St->ak Fl}
theorem Ni(ts:List Expr)(e:Expr)(l:Nat):∃b,swapsWithSole ts e l env=pure b/\(b=true->(∃y py,ts=[.Name y py])/\Gg e=true):=by
 match ts with
 |[]=>exact⟨false,rfl,nofun⟩
 |[t]=>
  obtain⟨b,h1,h2⟩:=JK (env:=env) t e l;refine⟨b,h1,λ q=>?_⟩;obtain⟨⟨y,py,rfl⟩,h4⟩:=h2 q;exact⟨⟨y,py,rfl⟩,h4⟩
 |_::_::_=>exact⟨false,rfl,nofun⟩
set_option tactic.hygienic true in
theorem z6(hO:sG d cl)(W:qD d C)(EV:aW C A ρ en env)(R:C.Rep ρ s.heap Y){y:Str}{py:Pos}(isl:Bool){elt:Expr}{gens:List Comprehension}{scope:Scope}{p:Pos}{k:Nat}{t:Sem Flow}
  (ht:∀x px iter ifs,gens=[⟨.Name x px,iter,ifs,0⟩]->∃ps,t=(comprehension (pW isl elt [⟨.Name x px,iter,ifs,0⟩] scope p) scope env ps (zZ isl) false (eval iter env) (some λ v=>assignAll v ((assignEach [.Name y py] env).map (·.2))) >>= λ _=>(pure .next:Sem Flow))):
  C.Snd A t ρ ((xN isl (dj cl k) (xO cl k) elt gens scope en Y).bind λ v Y=>(gJ cl (k+1) [.Name y py] v en Y).bind λ _ Y=>.ok .next Y) m9 s:=by
 unfold xN;split
 ·rename_i x iter ifs hg
  obtain⟨px,rfl⟩:=Je hg;obtain⟨ps,rfl⟩:=ht _ _ _ _ rfl;exact Cq hO W EV R
 ·exact .of_bad
set_option tactic.hygienic true in
theorem Nj(hO:sG d cl)(W:qD d C)(EV:aW C A ρ en env)(R:C.Rep ρ s.heap Y){ts:List Expr}{e:Expr}{pos:Pos}(hs:Jc e=false):
  C.Snd A (exec (.Assign ts e pos) env) ρ ((dj cl n e en Y).bind λ v Y=>(gJ cl n ts v en Y).bind λ _ Y=>.ok .next Y) m9 s:=by
 obtain⟨b,h1,h2⟩:=Ni (env:=env) ts e pos.line;refine Cx.Snd.at ?_;rw[h1];induction b with
 |false=>exact Cp (hO C A en env W) (((nJ hO n).1) C A en env W) EV R (ts:=ts) (e:=e) hs
 |true=>
  obtain⟨⟨y,py,rfl⟩,hc⟩:=h2 rfl;cases n with
  |zero=>exact .of_bad
  |succ k=>
   rw[pure_bind,if_pos rfl];refine lU λ G toG=>?_
   induction e using PySem.Expr.casesOn
   case ListComp elt gens scope p=>
    refine toG (z6 hO W EV R (p:=p) true λ x px iter ifs q=>?_);clear hs hc h1 h2 toG;subst q;exact⟨_,by rw[arm_evalThenUse_ListComp];simp only[bind_assoc];rfl⟩
   case SetComp elt gens scope p=>
    refine toG (z6 hO W EV R (p:=p) false λ x px iter ifs q=>?_);clear hs hc h1 h2 toG;subst q;exact⟨_,by rw[arm_evalThenUse_SetComp];simp only[bind_assoc];rfl⟩
   case DictComp=>exact toG .of_bad
   all_goals first|exact ns hc|exact jz hc|cases hc
end
section
variable {d:Nat}{C:Cx}{A:Around}{ρ:List Addr}{s:Shared}{Y:St}{en:En}{env:Env}{cl:Nat->List V->St->ak V}{n:Nat}{ex:Stmt->En->St->ak Fl}
set_option tactic.hygienic true in
theorem Xd(hO:sG d cl)(W:qD d C)(EV:aW C A ρ en env)(R:C.Rep ρ s.heap Y){t e:Expr}{op:Operator}{p:Pos}:C.Snd A (exec (.AugAssign t op e p) env) ρ (aea cl n t op e en Y) m9 s:=by
 have hev:=(nJ hO n).1 C A en env W;have O:=hO C A en env W;unfold aea;have k:=jl t;generalize view t=w at k ⊢;induction w
 case name x=>
  obtain⟨px,rfl⟩:=k;rw[arm_exec_AugAssign];refine Cx.Snd.at ?_;refine Cx.Snd.bind' (Dq W.1 EV R _) λ v σ₁ c hH tk1 ρ1 RA hv=>?_
  refine Cx.Snd.bind' (Cx.Snd.holding (hev _ (EV.mono _) RA)) λ u σ₂ d hV tk2 ρ2 RC hu=>?_
  refine Cx.Snd.at (Cx.Snd.bind' (Cx.Snd.operate (Dk RC hv.mono hu)) λ w' Y3 e hW tk3 ρ3 RE hw=>?_);refine Cx.Snd.at (Cx.Snd.bind' (dD (((EV.mono _).mono _).mono _) RE _ hw) λ _ YA _ hY tk4 ρ4 RF _=>?_);exact λ _=>wpAny_pure (Cx.ret0 RF rfl)
 case attr o a p=>
  cases k;rw[arm_exec_AugAssign_2];refine Cx.Snd.at ?_;refine Cx.Snd.bind' (hev _ EV R) λ ov σ₁ c hH tk1 ρ1 RA hv=>?_
  refine Cx.Snd.unhold ?_;simp only[bind_assoc];refine Cx.Snd.at ?_;refine Cx.Snd.bind' (O.attr RA hv) λ old σ₂ d hV tk2 ρ2 RC hu=>?_
  refine Cx.Snd.bind' (Cx.Snd.holding (hev _ ((EV.mono _).mono _) RC)) λ u Y3 e hW tk3 ρ3 RE hw=>?_
  refine Cx.Snd.at (Cx.Snd.bind' (Cx.Snd.operate (Dk RE hu.mono hw)) λ w' YA f hY tk4 ρ4 RF hw'=>?_);refine Cx.Snd.at (Cx.Snd.bind' (Cx.Snd.holding (O.setAttr RF hv.mono.mono.mono hw')) λ _ YE _ hX tk5 ρ5 RH _=>?_);exact λ _=>wpAny_bind (jJ (wpAny_pure (Cx.ret0 RH rfl)))
 all_goals exact .of_bad
set_option tactic.hygienic true in
theorem Xe(hev:yS C A en env (dj cl n))(EV:aW C A ρ en env)(R:C.Rep ρ s.heap Y){ts:List Expr}{p:Pos}:C.Snd A (exec (.Delete ts p) env) ρ (agt cl n ts en Y) m9 s:=by
 refine .onS λ t e1=>.onS λ p e2=>?_
 cases fJ e1;obtain⟨q,rfl,-⟩:=Wt e2;rw[arm_exec_Delete];refine Cx.Snd.at ?_;show C.Snd A ((delete (.Subscript _ _ _) env >>= λ _=>pure ()) >>= λ _=>pure .next) ρ _ m9 s;rw[arm_delete_Subscript];simp only[bind_assoc,pure_bind];refine jL hev EV R λ EV R hv hu=>Cx.Snd.at ?_
 refine Cx.Snd.bind' (Cx.Snd.holding (Gr R hv hu)) λ _ Y3 _ hW tk3 ρ3 RE _=>?_
 exact λ _=>wpAny_bind (jJ (wpAny_pure (Cx.ret0 RE rfl)))
set_option tactic.hygienic true in
theorem Xf(hO:sG d cl)(hex:HEx d ex)(W:qD d C)(hA:A.handled=none)(EV:aW C A ρ en env)(R:C.Rep ρ s.heap Y){t it:Expr}{b o:List Stmt}{p:Pos}(hs:oU it=false):
  C.Snd A (exec (.For t it b o p) env) ρ (aec cl n ex t it b o en Y) m9 s:=by
 have hev:=(nJ hO n).1 C A en env W;unfold aec;induction hx:gH t with
 |some x=>
  obtain⟨q,rfl⟩:=gY hx;exact abJ hev (λ g hg=>hex (C.on g) A en env (W.on hg)) hA EV R hs
 |none=>
  refine .onB λ es h1=>.onS λ xs h2=>.onS λ p h3=>?_
  obtain⟨c,q,rfl⟩:=Wu h1;rw[pO h3]at h2;obtain⟨px,r,rfl,h3⟩:=gZ h2;obtain⟨py,r,rfl,h4⟩:=gZ h3;cases pP h4;exact W6 hev (hex C A en env W) hA EV R hs
theorem Xh(hev:yS C A en env (dj cl n))(EV:aW C A ρ en env)(R:C.Rep ρ s.heap Y){e:Option Expr}{p:Pos}:C.Snd A (exec (.Return e p) env) ρ ((Ml (dj cl n) e en Y).bind λ v Y=>.ok (.ret v) Y) m9 s:=by
 refine Cx.Snd.at ?_;induction e with
 |none=>exact λ _=>wpAny_pure (Cx.ret0 R ⟨_,rfl,rfl⟩)
 |some e=>
  exact Cx.Snd.bind' (hev _ EV R) λ v σ₁ c hH tk1 ρ1 RA hv=>λ _=>wpAny_pure (Cx.ret0 RA ⟨_,rfl,hv⟩)
theorem z7{t:Sem Flow}{c:Bool}{r:ak Fl}(h:c=true->C.Snd A t ρ r m9 s):C.Snd A t ρ (if c then r else .bad) m9 s:=by
 induction c with
 |true=>exact h rfl
 |false=>exact .of_bad
set_option tactic.hygienic true in
theorem Td(hO:sG d cl)(hex:HEx d ex)(T:agI d cl n ex):HEx d (zF cl n ex):=by
 obtain⟨hev0,hte0⟩:=nJ hO n;intro C A en env W t ρ s Y EV R;have hev:=hev0 C A en env W;have hte:=hte0 C A en env W;have hexC:=hex C A en env W;cases t;case Expr e p=>
  refine z7 λ h=>?_
  obtain⟨f,a,k,q,rfl⟩:=RK h;exact Xc hev EV R
 case Pass=>rw[arm_exec_Pass];exact Cx.Snd.at λ _=>wpAny_pure (Cx.ret0 R rfl)
 case Break=>rw[arm_exec_Break];exact Cx.Snd.at λ _=>wpAny_pure (Cx.ret0 R rfl)
 case Continue=>rw[arm_exec_Continue];exact Cx.Snd.at λ _=>wpAny_pure (Cx.ret0 R rfl)
 case Return=>exact Xh hev EV R
 case Assign ts e p=>
  show C.Snd A _ _ (if Jc e then .bad else _) _ _;split
  ·exact .of_bad
  ·rename_i h
   exact Nj hO W EV R (by simpa using h)
 case AugAssign=>exact Xd hO W EV R
 case Delete=>exact Xe hev EV R
 case If t b o p=>
  refine Cx.Snd.at ?_;refine Cx.Snd.bind' (hte _ EV R) λ b σ₁ c hH tk1 ρ1 RA hv=>?_
  subst hv;split
  ·exact cU hexC _ (EV.mono _) RA
  ·exact cU hexC _ (EV.mono _) RA
 case While=>exact z7 λ _=>Sy hte hexC EV R
 case For t it b o p=>
  refine z7 λ h=>?_
  simp only[Bool.and_eq_true,Bool.not_eq_true']at h;exact Xf hO hex W (EV.free h.1) EV R h.2
 case Raise=>exact T.raise_ C A en env W _ _ _ EV R
 case Try=>exact T.try_ C A en env W _ _ _ _ _ EV R
 all_goals exact .of_bad
end
inductive XRf(C:Cx)(x:yN)(ρ:List Addr)(Y:St)(a:Addr)(fl:Value)(h:Heap):Prop
 |mk (base:Heap) (m:Str->Option Value) (hn:base.get? a=none) (hr:∀h',base.StaysIn h'->h'.Ns C.L m->(∀p∈C.FS,h'.Ns p.1.locals p.2)->C.Rep ρ h' Y)
  (bL:base.get? C.L=none) (bF:∀p∈C.FS,base.get? p.1.locals=none) (hb:base.StaysIn h) (nL:h.Ns C.L m) (nF:∀p∈C.FS,h.Ns p.1.locals p.2) (hl:pK ρ Y.loc m) (a0:Value) (t:h.TracedAtW base a (nC x) a0 fl)
section
variable {C:Cx}{A:Around}{ρ:List Addr}{s:Shared}{Y:St}{en:En}{env:Env}{x:yN}{h:Heap}
theorem XRf.rep{a:Addr}{fl:Value}(X:XRf C x ρ Y a fl h):C.Rep ρ h Y:=let ⟨_,_,_,f,_,_,b,n,p,_,_,_⟩:=X;f h b n p
theorem XRf.cls{a:Addr}{fl:Value}(X:XRf C x ρ Y a fl h):∃o,h.get? a=some o/\o.cls=nC x:=let ⟨_,_,_,_,_,_,_,_,_,_,_,t⟩:=X;t.there
theorem sH{o:Obj}{es ep}(h:o.data=.dict es ep):∀vs,o.data≠.fields vs:=λ vs q=>by rw[h]at q;cases q
theorem GQ{base h:Heap}:∀{l:List (Env×(Str->Option Value))},(∀p∈l,p.1.scope.kind=.function/\p.1.frame=some p.1.locals/\base.get? p.1.locals=none/\h.Ns p.1.locals p.2)->h.FunFrames base (l.map (·.1)):=by
 intro l;induction l with
 |nil=>exact λ _=>trivial
 |cons p r ih=>
  intro hp;obtain⟨h1,h2,h3,⟨o,es,ep,ho,hd,_⟩⟩:=hp p (.head _);exact⟨by rw[h1];decide,⟨_,o,h2,h3,ho,sH hd⟩,ih λ q hq=>hp q (.tail _ hq)⟩
theorem Te(EV:aW C A ρ en env)(hown:en.own=true){base:Heap}{m:Str->Option Value}(R:C.Rep ρ h Y){h':Heap}(bL:base.get? C.L=none)(bF:∀p∈C.FS,base.get? p.1.locals=none)(nL:h'.Ns C.L m)(nF:∀p∈C.FS,h'.Ns p.1.locals p.2):
  h'.FunFrames base (env::C.FS.map (·.1)):=by
 have:=GQ (base:=base) (h:=h') (l:=(env,m)::C.FS) λ p hp=>by
  rcases List.mem_cons.mp hp with rfl|hp
  ·exact⟨EV.kind,by rw[(EV.own hown).1];exact congrArg some EV.locals.symm,by show base.get? env.locals=none;rw[EV.locals];exact bL,by show h'.Ns env.locals m;rw[EV.locals];exact nL⟩
  ·obtain⟨b,y⟩:=Mine.Rep.callers R p hp;exact⟨y.fn,(EV.own hown).2.2 p hp,bF p hp,nF p hp⟩
 exact this
theorem QX{hp:Heap}{a:Addr}{args:List Value}(R:C.Rep ρ hp Y)(M:Heap.MadeExcOf hp h a (nC x) args):C.XR x ρ Y (.ref a) h:=by
 obtain⟨m,hm,hl⟩:=Mine.Rep.loc R;let l:=C.L::C.FS.map (·.1.locals)
 have hcal:∀p∈C.FS,hp.Ns p.1.locals p.2/\p.1.locals≠C.L/\C.h₀.get? p.1.locals=none/\p.1.locals∉ρ/\p.1.scope.kind=.function:=λ p hp'=>by
  obtain⟨b,y⟩:=Mine.Rep.callers R p hp';have:=y.frame;subst this;exact⟨y.ns,y.notL,y.new,y.notIn,y.fn⟩
 have sub:Sub (hideAll hp l) hp:=λ b o e=>of_hideAll l e
 have stay:∀b o,hp.get? b=some o->b∉l->(hideAll hp l).get? b=some o:=λ b o e n=>hideAll_get l e n
 have inρ:∀b,b∈ρ->b∉l:=λ b hb q=>by
  rcases List.mem_cons.mp q with q|q
  ·exact Mine.Rep.notL R (q▸hb)
  ·obtain⟨p,hp',e⟩:=List.mem_map.mp q;exact(hcal p hp').2.2.2.1 (e▸hb)
 have in0:∀b o,C.h₀.get? b=some o->b∉l:=λ b o e q=>by
  rcases List.mem_cons.mp q with q|q
  ·rw[q,Mine.Rep.newL R]at e;contradiction
  ·obtain⟨p,hp',e'⟩:=List.mem_map.mp q;rw[<-e',(hcal p hp').2.2.1]at e;contradiction
 refine⟨hideAll hp l,a,m,rfl,dF sub M.new,λ h' hb hn hf=>?_,hideAll_none l (.head _),λ p hp'=>hideAll_none l (.tail _ (List.mem_map.mpr ⟨p,hp',rfl⟩)),λ b o e=>M.keeps b o (sub b o e),hm.keeps M.keeps,λ p hp'=>(hcal p hp').1.keeps M.keeps,hl,
  .inl ⟨hp,args,sub,hm,λ p hp'=>(hcal p hp').1,M⟩⟩
 refine⟨λ b o e=>hb b o (stay b o (Mine.Rep.keep R b o e) (in0 b o e)),⟨m,hn,hl⟩,Mine.Rep.newL R,Mine.Rep.len R,Mine.Rep.nodup R,Mine.Rep.notL R,Mine.Rep.fresh R,λ i o b e e'=>?_,λ p hp'=>?_,Mine.Rep.sysIn R,Mine.Rep.sys R,Mine.Rep.fsnd R⟩
 ·obtain⟨co,z,y⟩:=Mine.Rep.objs R i o b e e';exact⟨co,hb b co (stay b co z (inρ b (List.mem_of_getElem? e'))),y⟩
 ·obtain⟨_,q2,q3,q4,q5⟩:=hcal p hp';exact⟨p.1.locals,rfl,hf p hp',q3,q2,q4,q5⟩
theorem aem{h h':Heap}(u:h.UpToSlots h'){a:Addr}{m:Str->Option Value}(n:h.Ns a m):h'.Ns a m:=u.ns n
theorem Dz(EV:aW C A ρ en env)(hown:en.own=true){e:Value}(X:C.XR x ρ Y e s.heap){Q:Unit->Shared->Prop}{E:Value->Shared->Prop}{M:Model}
  (h:∀a fl h',e=.ref a->XRf C x ρ Y a fl h'->Q () {s with heap:=h'}):wpAny M A (noteFrame e env) Q E s:=by
 obtain⟨hf,hfr,hfs⟩:=EV.own hown;obtain⟨base,a,m,rfl,hna,hrep,bL,bF,hb,nL,nF,hl,hc⟩:=X;have ff:=Te EV hown (hrep s.heap hb nL nF) bL bF nL nF;have kj:∀a0 fl h',Heap.NotedW base (env::C.FS.map (·.1)) a (nC x) a0 fl s.heap h'->Q () {s with heap:=h'}:=λ a0 fl h' ⟨k1,k2,k3,k4⟩=>by
  have u:s.heap.UpToSlots h':=k4;exact h a fl h' rfl ⟨base,m,hna,hrep,bL,bF,k1,u.ns nL,λ p hp=>u.ns (nF p hp),hl,a0,k3⟩
 rcases hc with⟨hp,args,hbp,nLp,nFp,M⟩|⟨a0,ht⟩
 ·obtain⟨t,he,htn,ht⟩:=M.there;dsimp only[noteFrame];rw[hf];refine wpAny_bind (wpAny_field he rfl (x:=Value.none) rfl ?_);exact wpAny_entryW hfr ff hf he hb hna rfl (by simp) rfl λ h' hN=>kj _ _ h' hN
 ·exact wpAny_noteFrame_onW hfr ff hf ht hb hna λ h' hN=>kj _ _ h' hN
theorem pY{a:Addr}{fl:Value}(X:XRf C x ρ Y a fl s.heap){Q:Unit->Shared->Prop}{E:Value->Shared->Prop}{M:Model}
  (h:∀h',XRf C x ρ Y a .none h'->Q () {s with heap:=h'}):wpAny M A (setFlight (.ref a) none) Q E s:=by
 obtain⟨base,m,hna,hrep,bL,bF,hb,nL,nF,hl,a0,ht⟩:=X;refine wpAny_setFlight_noneW (l:=[]) hb trivial ht λ h' k1 _ k3 k4=>?_
 have u:s.heap.UpToSlots h':=λ b o hb hn=>⟨o.slots,k4 b o hb hn⟩
 exact h h' ⟨base,m,hna,hrep,bL,bF,k1,u.ns nL,λ p hp=>u.ns (nF p hp),hl,a0,k3.at⟩
theorem JM{m:Str->Option Value}{L':Addr}{C':Cx}(hC':C'.prog=C.prog/\C'.w=C.w/\C'.h₀=C.h₀/\C'.L=L'/\C'.FS=(env,m)::C.FS){A':Around}{en':En}{env':Env}{Y':St}(EV':aW C' A' ρ en' env')(hown:en'.own=true){e:Value}(X:C'.XR x ρ Y' e s.heap)
  (hL:env.locals=C.L) {l:List (Str×Option V)}(hl:pK ρ l m) {Q:Unit->Shared->Prop}{E:Value->Shared->Prop}{M:Model}
  (h:∀h',C.XR x ρ {Y' with loc:=l} e h'->Q () {s with heap:=h'}):wpAny M A' (leaving env' e) Q E s:=by
 obtain⟨prog,w,h0,FS,LL,room⟩:=C';obtain⟨rfl,rfl,rfl,rfl,rfl⟩:=hC';refine wpAny_bind (Dz EV' hown X λ a fl hH he X1=>?_);clear X;subst he;refine pY (s:={s with heap:=hH}) X1 λ hV X2=>h hV (lU λ G toG=>?_)
 have R':=X2.rep;obtain⟨base,m',hna,hrep,bL,bF,hb,nL,nF,_,a0,ht⟩:=X2;have hin:(env,m)∈((env,m)::C.FS:yQ):=.head _;obtain⟨oe,vs,T,oT,ts,q1,q2,q3,q4,q5,q6,q7,q8,q9⟩:=id ht;let ll:=C.L::a::T::C.FS.map (·.1.locals)
 obtain⟨oL,es,ep,nL1,nL2,nL3⟩:=nL;have notll:∀b o,base.get? b=some o->b∉ll:=λ b o e q=>by
  rcases List.mem_cons.mp q with q|q
  ·rw[q,(by have:=bF _ hin;rw[<-hL];exact this:base.get? C.L=none)]at e;contradiction
  rcases List.mem_cons.mp q with q|q
  ·rw[q,hna]at e;contradiction
  rcases List.mem_cons.mp q with q|q
  ·rw[q,q5]at e;contradiction
  obtain⟨p,hp,e'⟩:=List.mem_map.mp q;rw[<-e',bF p (.tail _ hp)]at e;contradiction
 have ap:=Dy R' hL;have Lll:LL∉ll:=λ q=>by
  rcases List.mem_cons.mp q with q|q
  ·exact ap.notL q
  rcases List.mem_cons.mp q with q|q
  ·rw[q,q1]at nL1;cases nL1;exact sH nL2 _ q3
  rcases List.mem_cons.mp q with q|q
  ·rw[q,q7]at nL1;cases nL1;exact sH nL2 _ q8
  obtain⟨p,hp,e'⟩:=List.mem_map.mp q;exact ap.notF p hp e'
 refine toG ⟨hideAll hV ll,a,m,rfl,hideAll_none ll (.tail _ (.head _)),λ h' b1 b2 b3=>?_,hideAll_none ll (.head _),λ p hp=>hideAll_none ll (.tail _ (.tail _ (.tail _ (List.mem_map.mpr ⟨p,hp,rfl⟩)))),λ b o e=>of_hideAll ll e,(by have:=nF _ hin;rw[<-hL];exact this),λ p hp=>nF p (.tail _ hp),hl,
  .inr ⟨a0,oe,vs,T,oT,ts,q1,q2,q3,q4,hideAll_none ll (.tail _ (.tail _ (.head _))),q6,q7,q8,q9⟩⟩
 have R3:(C.inn LL env m).Rep ρ h' Y':=hrep h' (λ b o e=>b1 b o ((λ b o e=>hideAll_get ll (hb b o e) (notll b o e)) b o e)) (⟨oL,es,ep,b1 _ _ (hideAll_get ll nL1 Lll),nL2,nL3⟩) λ p hp=>by
  rcases List.mem_cons.mp hp with rfl|hp
  ·show h'.Ns env.locals m;rw[hL];exact b2
  ·exact b3 p hp
 exact Rep.leave R3 hl hL (Heap.SameBut.refl ..)
end
section
variable {d:Nat}{C:Cx}{A:Around}{ρ:List Addr}{s:Shared}{Y:St}{en:En}{env:Env}{x:yN}{h:Heap}{cl:Nat->List V->St->ak V}{n:Nat}{ex:Stmt->En->St->ak Fl}
theorem JN(W:Wf C)(EV:aW C A ρ en env){A':Around}(R:C.Rep ρ s.heap Y)(hk:en.scope.names.lookup (dw x)=some .globalImplicit){p:Pos}{M:Model}{Q:Value->Shared->Prop}{E:Value->Shared->Prop}(hq:Q (nC x) s):
  wpAny M A' (eval (.Name (dw x) p) env) Q E s:=by
 obtain⟨hb,_,kb,F⟩:=W;obtain⟨mg,mb,g,b,hg⟩:=F.names x;have kp:=λ b o e=>Mine.Rep.keep R b o (kb b o e)
 refine Name_function_global EV.kind (by unfold Env.kindOf;rw[EV.scope];exact hk) ?_ (by clear hk hq hg;induction x<;>decide);rcases hg with h1|⟨h1,h2⟩
 ·exact loadGlobal_global (by rw[EV.globals];exact g.keeps kp) h1 hq
 ·exact loadGlobal_builtin (by rw[EV.globals];exact g.keeps kp) h1 (by rw[EV.builtins];exact b.keeps kp) h2 hq
theorem Nk{a:Addr}{o:Obj}(e:s.heap.get? a=some o)(hc:o.cls=nC x){M:Model}{Q:Value->Shared->Prop}{E:Value->Shared->Prop}(hq:Q (nC x) s):wpAny M A (typeOf (.ref a)) Q E s:=
 wpAny_typeOf_ref e (by rw[hc];exact hq)
theorem JP(W:Wf C){A':Around}(R:C.Rep ρ s.heap Y){a:Addr}{o:Obj}(e:s.heap.get? a=some o)(hc:o.cls=nC x){Q:Bool->Shared->Prop}{E:Value->Shared->Prop}(hq:Q true s):
  wpAny (model C.prog C.w) A' (excMatches (.ref a) (nC x)) Q E s:=by
 obtain⟨hb,_,kb,F⟩:=W;have kp:∀b o,hb.get? b=some o->s.heap.get? b=some o:=λ b o e=>Mine.Rep.keep R b o (kb b o e)
 refine wpAny_bind ((F.tuple x) _ _ _ _ kp ?_);simp only[List.forIn_cons,List.forIn_nil,bind_assoc,pure_bind];refine wpAny_bind ((F.isExc x) _ _ _ _ kp ?_);simp only[Bool.not_true,Bool.false_eq_true,if_false,pure_bind];refine wpAny_bind (Nk e hc ?_);refine wpAny_bind ((F.sub x) _ _ _ _ kp ?_);exact wpAny_pure hq
theorem Xi(W:Wf C)(EV:aW C A ρ en env){A':Around}{a:Addr}{fl:Value}(X:XRf C x ρ Y a fl s.heap)(hk:en.scope.names.lookup (dw x)=some .globalImplicit){p q:Pos}{RO:Result->Shared->Prop}(k:RO (.ok .brk) s):
  codeAny (model C.prog C.w) A' (.handlers (.ref a) [.ExceptHandler (some (.Name (dw x) p)) none [] q] env) RO s:=by
 obtain⟨ob,ho,hoc⟩:=X.cls;exact codeAny_handlers_test (JN W EV X.rep hk (JP W X.rep ho hoc k))
theorem Tf(hex:HEx d ex)(W:qD d C)(EV:aW C A ρ en env){a:Addr}{fl:Value}(X:XRf C x ρ Y a fl s.heap){b:Stmt}{l:List Stmt}{f:Fl}{Y':St}(e:aK ex (b::l) {en with free:=false} Y=.ok f Y'){q:Pos}{RO:Result->Shared->Prop}
  (k:∀f' h' tk ρ',C.Rep (ρ++ρ') h' Y'->m9 (ρ++ρ') f f'->RO (.ok f') {s with heap:=h',toks:=tk}):
  codeAny (model C.prog C.w) (A.mark (some (.ref a))) (.handlers (.ref a) [.ExceptHandler none none (b::l) q] env) RO s:=by
 refine codeAny_handlers_suite (pY X λ h' X'=>?_);have EVh:aW C (A.mark (some (.ref a))) ρ {en with free:=false} env:=⟨EV.scope,EV.kind,EV.locals,EV.globals,EV.builtins,EV.cells,λ q=>(by contradiction),EV.units,EV.room,EV.files,EV.stat,EV.own⟩;exact Cx.Snd.told (s:={s with heap:=h'}) (cU (hex C _ _ env W) (b::l) EVh X'.rep) e λ f' hX tk5 ρ5 RH hf=>k f' hX tk5 ρ5 RH hf
theorem Xj(hex:HEx d ex)(W:qD d C)(hown:en.own=true)(EV:aW C A ρ en env){e:Value}(X:C.XR x ρ Y e s.heap){hs:List ExceptHandler}{hh:List Stmt}(hp:lX hs=some (dw x,hh))(hk:en.scope.names.lookup (dw x)=some .globalImplicit){f:Fl}{Y':St}(e':aK ex hh {en with free:=false} Y=.ok f Y')
  {Q:Flow->Shared->Prop}{E:Value->Shared->Prop}(k:∀f' h' tk ρ',C.Rep (ρ++ρ') h' Y'->m9 (ρ++ρ') f f'->Q f' {s with heap:=h',toks:=tk}):
  wpAny (model C.prog C.w) A (noteFrame e env) (λ _ sB=>wpAny (model C.prog C.w) A (setFlight e none) (λ _ s₃=>wpAny (model C.prog C.w) A (handleBy e env hs) Q E s₃) E sB) E s:=by
 obtain⟨xp,px,hq,hne⟩:=Gl hp;clear hp;subst hq;cases hh with
 |nil=>exact absurd rfl hne
 |cons b l=>
  refine Dz EV hown X λ a fl hV he X2=>?_
  clear X;subst he;exact pY (s:={s with heap:=hV}) X2 λ hW XA=>wpAny_handleBy_cons (Xi (s:={s with heap:=hW}) W.1 EV XA hk (Tf (s:={s with heap:=hW}) hex W EV XA e' k)) (by intro q;contradiction)
inductive abQ(ex:Stmt->En->St->ak Fl)(b:List Stmt)(hs:List ExceptHandler)(o:List Stmt)(en:En)(Y:St):ak Fl->Prop
 |next {σ₁}:aK ex b en Y=.ok .next σ₁->abQ ex b hs o en Y (aK ex o en σ₁)
 |out {f σ₁}:aK ex b en Y=.ok f σ₁->f≠.next->abQ ex b hs o en Y (.ok f σ₁)
 |caught {x σ₁ hh f σ₂}:aK ex b en Y=.exc x σ₁->lX hs=some (dw x,hh)->en.scope.names.lookup (dw x)=some .globalImplicit->aK ex hh {en with free:=false} σ₁=.ok f σ₂->abQ ex b hs o en Y (.ok f σ₂)
set_option tactic.hygienic true in
theorem Xk{b o:List Stmt}{hs:List ExceptHandler}(hb:RJ ex b hs o en Y≠.bad):abQ ex b hs o en Y (RJ ex b hs o en Y):=by
 unfold RJ at hb ⊢;induction e:aK ex b en Y with
 |bad=>rw[e]at hb;exact absurd rfl hb
 |ok f σ₁=>induction f with
  |next=>exact .next e
  |brk=>exact .out e nofun
  |cont=>exact .out e nofun
  |ret v=>exact .out e nofun
 |exc x σ₁=>
  rw[e]at hb;induction hp:lX hs with
  |none=>rw[hp]at hb;exact absurd rfl hb
  |some pr=>
   obtain⟨xn,hh⟩:=pr;rw[hp]at hb;dsimp only at hb ⊢;by_cases hxc:(xn==dw x&&en.scope.names.lookup xn==some .globalImplicit)=true
   ·rw[if_pos hxc]at hb ⊢;rw[Bool.and_eq_true,beq_iff_eq,beq_iff_eq]at hxc;obtain⟨fh,σh,eh,eh2⟩:=bindN_ok hb;obtain⟨rfl,hkn⟩:=hxc;rw[eh2];exact .caught e hp hkn eh
   ·rw[if_neg hxc]at hb;exact absurd rfl hb
set_option tactic.hygienic true in
theorem m9.out{P:Flow->Prop}{fl:Flow}{f:Fl}{Q:Prop}(h:m9 ρ f fl)(hn:f≠.next)(k:P fl):(match(generalizing:=false) fl with|.next=>Q|fl=>P fl):=by
 induction f with
 |next=>exact absurd rfl hn
 |brk=>subst h;exact k
 |cont=>subst h;exact k
 |ret v=>obtain⟨c,rfl,hv⟩:=h;exact k
set_option tactic.hygienic true in
theorem Xl(hex:HEx d ex)(W:qD d C)(hown:en.own=true)(EV:aW C A ρ en env)(R:C.Rep ρ s.heap Y){b:List Stmt}{h₀:ExceptHandler}{hr:List ExceptHandler}{o:List Stmt}{p:Pos}:
  C.Snd A (exec (.Try b (h₀::hr) o [] p) env) ρ (RJ ex b (h₀::hr) o en Y) m9 s:=by
 intro hb;have I:=Xk hb;have hx:=cU (hex C A en env W) b EV R;refine wpAny_Try_except ?_;generalize RJ ex b (h₀::hr) o en Y=r at hb I;induction I with
 |next e=>
  refine hx.told e λ fl hH tk1 ρ1 RA hf=>?_
  subst hf;exact wpAny_mono (cU (hex C A en env W) o (s:={s with heap:=hH,toks:=tk1}) (EV.mono _) RA hb) (λ _ _=>.up) λ _ _=>.up
 |out e hn=>exact hx.told e λ fl hH tk1 ρ1 RA hf=>m9.out hf hn (Cx.ret1 RA hf)
 |caught e hp hk e'=>
  exact hx.thrown e λ e hH tk1 ρ1 X=>Xj (s:={s with heap:=hH,toks:=tk1}) hex W hown (EV.mono _) X hp hk e' λ f' hX tk5 ρ5 RH hf=>Cx.Ret.up (Cx.ret1 RH hf)
theorem abR(hex:HEx d ex)(W:qD d C)(EV:aW C A ρ en env)(R:C.Rep ρ s.heap Y){b:List Stmt}{hs:List ExceptHandler}{o f:List Stmt}{p:Pos}:
  C.Snd A (exec (.Try b hs o f p) env) ρ (zF cl n ex (.Try b hs o f p) en Y) m9 s:=by
 refine z7 λ hc=>?_
 simp only[Bool.and_eq_true,List.isEmpty_iff]at hc;obtain⟨⟨⟨rfl,hfree⟩,hown⟩,hne⟩:=hc;induction hs with
 |nil=>first|exact ns hne|exact jz hne|cases hne
 |cons h₀ hr=>exact Xl hex W hown EV R
end
section
variable {d:Nat}{C:Cx}{A:Around}{ρ:List Addr}{s:Shared}{Y:St}{en:En}{env:Env}{x:yN}{h:Heap}{cl:Nat->List V->St->ak V}{n:Nat}{ex:Stmt->En->St->ak Fl}
set_option tactic.hygienic true in
theorem Np(hO:sG d cl)(W:qD d C)(EV:aW C A ρ en env)(R:C.Rep ρ s.heap Y){e:Option Expr}{p:Pos}:
  C.Snd A (exec (.Raise e none p) env) ρ (Mr cl n e en Y) m9 s:=by
 unfold Mr;split
 ·rename_i xn args hr
  obtain⟨px,pc,rfl,hlen⟩:=Jf hr;refine z7 λ hc=>?_
  simp only[Bool.and_eq_true,beq_iff_eq]at hc;obtain⟨⟨⟨⟨rfl,hst⟩,hfree⟩,hown⟩,hkn⟩:=hc;intro hbad;refine lU λ Gz toG=>?_
  obtain⟨hb,_,kb,G⟩:=W.1;obtain⟨nm,q,N,bs,hdct,sn,sub,ab,col,dd,k0',k1,k2,k3,k5,mN,hC,hN,hni⟩:=G.cyc;refine toG<|wpAny_Raise_call_sub (C:=55) (nm:=nm) (q:=q) (N:=N) (bs:=bs) (hdct:=hdct) (sn:=sn) (sub:=sub) (ab:=ab) (col:=col) (dd:=dd) (k0:=k0') (k1:=k1) (k2:=k2) (k3:=k3) (k5:=k5) F.excBase_ValueError (mN:=mN) (EV.free hfree) ?_ hni ?_
  ·rw[dZ _ _ hst];simp
  ·refine JN (x:=.cyc) W.1 EV R hkn ⟨rfl,?_⟩;rw[dZ _ _ hst];induction args with
   |nil=>first|exact ns hlen|exact jz hlen|contradiction
   |cons a0 r=>
    refine evalArgs_plain (wpAny_mono (vO ((nJ hO n).1 C A en env W) (a0::r) EV R (λ q=>hbad (by rw[q];rfl))) ?_ ?_)
    ·rintro cvs sA ⟨vs,σ₁,hH,tk1,ρ1,e1,rfl,RA,hvs⟩;have kp:∀b o,hb.get? b=some o->hH.get? b=some o:=λ b o e=>Mine.Rep.keep RA b o (kb b o e)
     refine⟨rfl,?_,kp _ _ hC,hN.keeps kp,λ h' a hm=>?_⟩
     ·show cvs.length<=sizeLine;rw[<-hvs.length,(rD e1),hlen];decide
     ·rw[e1];exact⟨.cyc,σ₁,h',tk1,ρ1,rfl,rfl,QX RA hm⟩
    ·rintro e s' ⟨x',Y',h',tk,ρ',e1,e2,e3⟩;rw[e1];exact⟨x',Y',h',tk,ρ',rfl,e2,e3⟩
 ·exact .of_bad
theorem Tg(hO:sG d cl)(W:qD d C)(EV:aW C A ρ en env)(R:C.Rep ρ s.heap Y){e c:Option Expr}{p:Pos}:
  C.Snd A (exec (.Raise e c p) env) ρ (zF cl n ex (.Raise e c p) en Y) m9 s:=by
 induction c with
 |none=>exact Np hO W EV R
 |some _=>exact .of_bad
theorem abS(hO:sG d cl)(hex:HEx d ex):agI d cl n ex:=
 ⟨λ C A en env W b hs o f p ρ s Y EV R=>abR hex W EV R,λ C A en env W e c p ρ s Y EV R=>Tg hO W EV R⟩
theorem GR(hO:sG d cl):∀n,HEx d (cG cl n)
 |0=>λ _ _ _ _ _ _ _ _ _ _ _=>.of_bad
 |n+1=>by
  have ih:=GR hO n;exact Td hO ih (abS hO ih)
end
theorem sI:∀{ns:List Str}{vs:List Value},ns.Nodup->∀{i:Nat}{n:Str}{v:Value},ns[i]?=some n->vs[i]?=some v->(ns.zip vs).lookup n=some v:=by
 intro ns;induction ns with
 |nil=>intro _ _ _ _ _ e _;exact Mine.ns e
 |cons n0 ns ih=>
  intro vs hn i n v e1 e2;rcases vs with _|⟨v0,vs⟩
  ·exact Mine.ns e2
  rw[List.nodup_cons]at hn;induction i with
  |zero=>
   simp at e1 e2;subst e1 e2;simp
  |succ i=>
   have:n≠n0:=λ q=>hn.1 (q▸List.mem_of_getElem? e1)
   simp only[List.zip_cons_cons,List.lookup,(by simpa using this:(n==n0)=false)];exact ih hn.2 e1 e2
theorem rF{ns:List Str}{vs:List Value}{l:List (Str×Value)}(hl:ns.length=vs.length)(h:∀(i:Nat) n v,ns[i]?=some n->vs[i]?=some v->l.lookup n=some v):
  (ns.filterMap λ n=>(l.lookup n).map (n,·))=ns.zip vs:=by
 induction ns generalizing vs with
 |nil=>rfl
 |cons n ns ih=>induction vs with
  |nil=>first|exact ns hl|exact jz hl|contradiction
  |cons v vs=>
   simp only[List.filterMap_cons,(h 0 n v rfl rfl),Option.map_some,List.zip_cons_cons];rw[ih (by simpa using hl) λ i n' v' e1 e2=>h (i+1) n' v' (by simpa using e1) (by simpa using e2)]
theorem oW{ns:List Str}{vs:List Value}(hn:ns.Nodup){n:Str}{i:Nat}(h:ns[i]?=some n)(hi:i < vs.length):((ns.zip vs).lookup n).isSome=true:=by
 rw[sI hn h (List.getElem?_eq_getElem hi)];rfl
theorem Ti{ns:List Str}:∀{l:List (Str×Value)}{z:List (Str×Value)},(∀p∈l,(z.lookup p.1).isSome=true)->
  (forIn l z λ(x:Str×Value) (r:List (Str×Value))=>(if(r.lookup x.1).isNone=true then pure (ForInStep.yield (r++[(x.1,x.2)]))else pure (ForInStep.yield r):Sem (ForInStep (List (Str×Value)))))=pure z:=by
 intro l;induction l with
 |nil=>exact λ _=>rfl
 |cons p l ih=>
  intro z h;rw[List.forIn_cons];have:=h p (.head _);simp only[(by induction q:z.lookup p.1<;>simp_all:((z.lookup p.1).isNone)=false),if_false];exact ih λ q hq=>h q (.tail _ hq)
theorem Xm{α β:Type}:∀(l:List α) (m:List β),l.zip m=l.zip (m.take l.length):=by
 intro l;induction l with
 |nil=>exact λ m=>rfl
 |cons a l ih=>
  intro m;rcases m with _|⟨b,m⟩
  ·rfl
  ·exact congrArg ((a,b)::·) (ih m)
theorem mq:∀{ns:List Str}{vs:List Value},ns.Nodup->∀{i:Nat}{n:Str},ns[i]?=some n->vs.length<=i->(ns.zip vs).lookup n=none:=by
 intro ns;induction ns with
 |nil=>intro _ _ _ _ e _;exact Mine.ns e
 |cons n0 ns ih=>
  intro vs hn i n e hi;rcases vs with _|⟨v0,vs⟩
  ·rfl
  rw[List.nodup_cons]at hn;induction i with
  |zero=>simp at hi
  |succ i=>
   simp at e hi;have:n≠n0:=λ q=>hn.1 (q▸List.mem_of_getElem? e)
   simp only[List.zip_cons_cons,List.lookup,(by simpa using this:(n==n0)=false)];exact ih hn.2 e hi
theorem Cr{l:List (Str×Value)}{n m:Str}{v:Value}:(l++[(m,v)]).lookup n=match l.lookup n with
  |some u=>some u
  |none=>if n==m then some v else none:=by
 induction l with
 |nil=>dsimp only[List.nil_append,List.lookup];induction n==m<;>rfl
 |cons p l ih=>
  obtain⟨k,u⟩:=p;dsimp only[List.cons_append,List.lookup];induction n==k
  ·exact ih
  ·rfl
theorem xZ{α β:Type}:∀{l:List α}{m:List β}{p:α×β},p∈l.zip m->p.1∈l:=λ h=>(List.of_mem_zip h).1
noncomputable def qF(ns:List Str)(pos:List Value)(va:Option Arg)(df:List Value):Sem (List (Str×Value)):=
 (forIn ((ns.drop (ns.length - df.length)).zip df) (ns.zip pos) λ x z=>if(z.lookup x.1).isNone=true then pure (.yield (z++[(x.1,x.2)]))else pure (.yield z)) >>= λ z=>match va with
 |some a=>newTuple (pos.drop ns.length) >>= λ t=>pure ((ns++[]).filterMap (λ n=>(z.lookup n).map (n,·))++[(a.arg,t)])
 |_=>pure ((ns++[]).filterMap λ n=>(z.lookup n).map (n,·))
noncomputable def adm(ns:List Str)(pos:List Value)(va:Option Arg)(r1 r2:Sem (List (Str×Value)))(df:List Value):Sem (List (Str×Value)):=
 if(decide (pos.length > ns.length)&&va.isNone)=true then r1 else
 if(!((ns.take (ns.length - df.length)).filter λ n=>((ns.zip pos).lookup n).isNone).isEmpty)=true then r2 else qF ns pos va df
theorem Tj{fd:FuncData}{pos:List Value}(hpo:fd.params.posonlyargs=[])(hko:fd.params.kwonlyargs=[])(hkw:fd.params.kwarg=none):∃r1 r2:Option (Array Value)->Sem (List (Str×Value)),bindArgs fd ⟨pos,[]⟩=seqItems? fd.defaults >>= λ dl=>adm (fd.params.args.map (·.arg)) pos fd.params.vararg (r1 dl) (r2 dl) ((dl.getD #[]).toList.drop ((dl.getD #[]).toList.length - (fd.params.args.map (·.arg)).length)):=by
 obtain⟨n1,n2,p,n3,n4,n5,n6,n7,n8,n9,n10,n11,n12,n13,n14⟩:=fd;obtain⟨po,ar,va,ko,kd,kw,de⟩:=p;obtain rfl:po=[]:=hpo;obtain rfl:ko=[]:=hko;obtain rfl:kw=none:=hkw;refine⟨?r1,?r2,(pure_bind _ _).trans ?_⟩;rotate_left 2;refine bind_congr λ dl=>?_
 refine ite_congr rfl (λ _=>?_) λ _=>?_
 ·rfl
 refine ite_congr rfl (λ _=>?_) λ _=>?_
 ·rfl
 refine bind_congr λ z=>?_
 induction va<;>exact rfl
section
variable {M:Model}{A:Around}{E:Value->Shared->Prop}{s:Shared}
theorem Cu{α:Type}{o:Option α}(h:o.isSome=true):¬o.isNone=true:=by induction o<;>revert h<;>nofun
theorem vW{fd:FuncData}{pos:List Value}{dl:Option (Array Value)}{ns:List Str}{va:Option Arg}{Q:List (Str×Value)->Shared->Prop}(hpo:fd.params.posonlyargs=[])(hko:fd.params.kwonlyargs=[])(hkw:fd.params.kwarg=none)(hva:fd.params.vararg=va)(hns:fd.params.args.map (·.arg)=ns)
  (hdef:∀{Q:Option (Array Value)->Shared->Prop},Q dl s->wpAny M A (seqItems? fd.defaults) Q E s)
  (hc:(decide (pos.length > ns.length)&&va.isNone)=false) (h:∀df,(dl.getD #[]).toList.drop ((dl.getD #[]).toList.length - ns.length)=df->(∀n∈ns.take (ns.length - df.length),((ns.zip pos).lookup n).isSome=true)/\wpAny M A (qF ns pos va df) Q E s):
  wpAny M A (bindArgs fd ⟨pos,[]⟩) Q E s:=by
 obtain⟨h1,h2⟩:=h _ rfl;obtain⟨r1,r2,e⟩:=Tj (pos:=pos) hpo hko hkw;rw[e,hva,hns];refine wpAny_bind (hdef ?_);unfold adm;rw[if_neg (by rw[hc];nofun),if_neg]
 ·exact h2
 ·rw[List.filter_eq_nil_iff.mpr λ n hn=>Cu (h1 n hn)];nofun
theorem vX{ns:List Str}{pos:List Value}(hnd:ns.Nodup)(hlen:ns.length<=pos.length){n:Str}(hn:n∈ns):((ns.zip pos).lookup n).isSome=true:=by
 obtain⟨i,hi⟩:=List.getElem?_of_mem hn;exact oW hnd hi (Nat.lt_of_lt_of_le (List.getElem?_eq_some_iff.mp hi).1 hlen)
theorem DG{ns:List Str}{pos df:List Value}(hnd:ns.Nodup)(hlen:ns.length<=pos.length){va:Option Arg}:qF ns pos va df=match va with
  |some a=>newTuple (pos.drop ns.length) >>= λ t=>pure (ns.zip pos++[(a.arg,t)])
  |none=>pure (ns.zip pos):=by
 unfold qF;have e:(ns.filterMap λ n=>((ns.zip pos).lookup n).map (n,·))=ns.zip pos:=by
  rw[Xm ns pos];exact rF (by rw[List.length_take,Nat.min_eq_left hlen]) λ i n v e1 e2=>sI hnd e1 e2
 rw[Ti (ns:=ns) λ p hp=>vX hnd hlen (List.mem_of_mem_drop (xZ hp)),pure_bind,List.append_nil,e];induction va<;>rfl
theorem z8{fd:FuncData}{pos:List Value}{dl:Option (Array Value)}{Q:List (Str×Value)->Shared->Prop}(hpo:fd.params.posonlyargs=[])(hko:fd.params.kwonlyargs=[])(hkw:fd.params.kwarg=none)(hva:fd.params.vararg=none)
  (hnd:(fd.params.args.map (·.arg)).Nodup) (hlen:pos.length=fd.params.args.length)
  (hdef:∀{Q:Option (Array Value)->Shared->Prop},Q dl s->wpAny M A (seqItems? fd.defaults) Q E s) (h:Q ((fd.params.args.map (·.arg)).zip pos) s):
  wpAny M A (bindArgs fd ⟨pos,[]⟩) Q E s:=by
 have hl:pos.length=(fd.params.args.map (·.arg)).length:=by rw[hlen,List.length_map]
 refine vW hpo hko hkw hva rfl hdef (by rw[hl];simp) λ df _=>⟨λ n hn=>vX hnd (Nat.le_of_eq hl.symm) (List.mem_of_mem_take hn),?_⟩
 simp only[DG hnd (Nat.le_of_eq hl.symm)];exact wpAny_pure h
theorem Tn{fd:FuncData}{pos:List Value}{dl:Option (Array Value)}{r:Arg}{Q:List (Str×Value)->Shared->Prop}(hpo:fd.params.posonlyargs=[])(hko:fd.params.kwonlyargs=[])(hkw:fd.params.kwarg=none)(hva:fd.params.vararg=some r)
  (hnd:(fd.params.args.map (·.arg)).Nodup) (hlen:fd.params.args.length<=pos.length) (hsz:pos.length<=sizeLine)
  (hdef:∀{Q:Option (Array Value)->Shared->Prop},Q dl s->wpAny M A (seqItems? fd.defaults) Q E s)
  (h:Q ((fd.params.args.map (·.arg)).zip pos++[(r.arg,.ref s.heap.objs.size)]) {s with heap:=s.heap.push {cls:=.type "tuple",data:=.seq (pos.drop fd.params.args.length).toArray}}):
  wpAny M A (bindArgs fd ⟨pos,[]⟩) Q E s:=by
 rw[<-(List.length_map ..:(fd.params.args.map (·.arg)).length=fd.params.args.length)]at hlen h;refine vW hpo hko hkw hva rfl hdef (Bool.and_false _) λ df _=>⟨λ n hn=>vX hnd hlen (List.mem_of_mem_take hn),?_⟩
 rw[DG hnd hlen];exact wpAny_bind (wpAny_newTuple (wpAny_pure h) (by rw[List.length_drop];lia))
theorem Tp{α:Type}{l:List α}{n:Nat}{a:α}(h:l.length=n+1)(e:l[n]?=some a):l.drop n=[a]:=by
 obtain⟨h1,rfl⟩:=List.getElem?_eq_some_iff.mp e;rw[List.drop_eq_getElem_cons h1,List.drop_eq_nil_of_le (by lia)]
theorem Tq{ns:List Str}{pos:List Value}{last:Str}{w:Value}(hnd:ns.Nodup)(hlen:ns.length=pos.length+1)(hl:ns[pos.length]?=some last)(i:Nat)(n:Str)(v:Value)(e1:ns[i]?=some n)(e2:(pos++[w])[i]?=some v):((ns.zip pos)++[(last,w)]).lookup n=some v:=by
 rw[Cr];by_cases hi:i < pos.length
 ·rw[List.getElem?_append_left hi]at e2;rw[sI hnd e1 e2]
 ·obtain rfl:i=pos.length:=by have:=(List.getElem?_eq_some_iff.mp e1).1;lia
  obtain rfl:=Option.some.inj (hl.symm.trans e1);rw[mq hnd hl (Nat.le_refl _)];simpa using e2
theorem GX{ns:List Str}{pos:List Value}{w:Value}(hnd:ns.Nodup)(hlen:ns.length=pos.length+1):qF ns pos none [w]=pure (ns.zip (pos++[w])):=by
 obtain⟨last,hl⟩:∃a,ns[pos.length]?=some a:=⟨_,List.getElem?_eq_getElem (by lia)⟩;dsimp only[qF];rw[show ns.length - [w].length=pos.length by simp[hlen],Tp hlen hl,List.append_nil];show(ForIn.forIn [(last,w)] (ns.zip pos) _ >>= _)=_;rw[List.forIn_cons,mq hnd hl (Nat.le_refl _)];exact congrArg (λ l=>(pure l:Sem _)) (rF (by simp[hlen]) (Tq hnd hlen hl))
theorem GZ{fd:FuncData}{pos:List Value}{Q:List (Str×Value)->Shared->Prop}(hpo:fd.params.posonlyargs=[])(hko:fd.params.kwonlyargs=[])(hkw:fd.params.kwarg=none)(hva:fd.params.vararg=none)
  (hnd:(fd.params.args.map (·.arg)).Nodup) (hlen:pos.length+1=fd.params.args.length)
  (hdef:∀{Q:Option (Array Value)->Shared->Prop},Q (some #[.none]) s->wpAny M A (seqItems? fd.defaults) Q E s) (h:Q ((fd.params.args.map (·.arg)).zip (pos++[.none])) s):
  wpAny M A (bindArgs fd ⟨pos,[]⟩) Q E s:=by
 have hl:(fd.params.args.map (·.arg)).length=pos.length+1:=by rw[hlen,List.length_map]
 refine vW hpo hko hkw hva rfl hdef (by rw[hl];simp) λ df e=>?_
 obtain rfl:[Value.none]=df:=by
  rw[<-e,hl,show(some #[Value.none] |>.getD #[]).toList.length - (pos.length+1)=0 from Nat.sub_eq_zero_of_le (Nat.le_add_left 1 _)];rfl
 rw[GX hnd hl];refine⟨λ n hn=>?_,wpAny_pure h⟩;obtain⟨i,hi⟩:=List.getElem?_of_mem hn;rw[hl,List.getElem?_take]at hi;split at hi
 ·exact oW hnd hi ‹_›
 ·first|exact ns hi|exact jz hi|cases hi
end
section
variable {d:Nat}{C:Cx}{A:Around}{ρ:List Addr}{s:Shared}{Y:St}{en:En}{env:Env}{x:yN}{h:Heap}{cl:Nat->List V->St->ak V}{n:Nat}{ex:Stmt->En->St->ak Fl}
theorem Rep.add(R:C.Rep ρ h Y){a:Addr}{o:O}{co:Obj}(hc:h.get? a=some co)(ap:cW C ρ a)(h0:C.h₀.get? a=none)(ho:OR C.prog C.w (ρ++[a]) o co):C.Rep (ρ++[a]) h {Y with sto:=Y.sto++[o]}:=by
 refine⟨Mine.Rep.keep R,let ⟨m,z,y⟩:=Mine.Rep.loc R;⟨m,z,y.mono⟩,Mine.Rep.newL R,by simp[Mine.Rep.len R],?_,?_,?_,?_,?_,Mine.Rep.sysIn R,?_,Mine.Rep.fsnd R⟩
 ·rw[List.nodup_append];refine⟨Mine.Rep.nodup R,by simp,λ u hu v hv=>?_⟩;simp only[List.mem_singleton]at hv;clear hc h0 ho;subst hv;exact λ q=>ap.notIn (q▸hu)
 ·simp only[List.mem_append,List.mem_singleton,not_or];exact⟨Mine.Rep.notL R,λ q=>ap.notL q.symm⟩
 ·intro i b hi e;by_cases hl:i < ρ.length
  ·rw[List.getElem?_append_left hl]at e;exact Mine.Rep.fresh R i b hi e
  ·rw[List.getElem?_append_right (Nat.le_of_not_lt hl)]at e;have:b=a:=by
    induction q:i - ρ.length with
    |zero=>rw[q]at e;simpa using e.symm
    |succ n=>rw[q]at e;contradiction
   rw[this];exact h0
 ·intro i o' b e e';have hl0:ρ.length=Y.sto.length:=Mine.Rep.len R;by_cases hl:i < ρ.length
  ·rw[List.getElem?_append_left hl]at e';rw[List.getElem?_append_left (by rw[<-hl0];exact hl)]at e;obtain⟨co',z,y⟩:=Mine.Rep.objs R i o' b e e';exact⟨co',z,y.mono⟩
  ·rw[List.getElem?_append_right (Nat.le_of_not_lt hl)]at e';rw[List.getElem?_append_right (by rw[<-hl0];exact Nat.le_of_not_lt hl),<-hl0]at e;induction q:i - ρ.length with
   |zero=>
    rw[q]at e e';simp at e e';subst e e';exact⟨co,hc,ho⟩
   |succ n=>rw[q]at e;contradiction
 ·intro p hp;obtain⟨b,z⟩:=Mine.Rep.callers R p hp;refine⟨b,z.frame,z.ns,z.new,z.notL,?_,z.fn⟩;simp only[List.mem_append,List.mem_singleton,not_or];exact⟨z.notIn,λ q=>ap.notF p hp (z.frame.trans q)⟩
 ·intro b hb;rcases List.mem_append.mp hb with hb|hb
  ·exact Mine.Rep.sys R b hb
  ·rw[List.mem_singleton.mp hb,beq_eq_false_iff_ne];intro q;rw[q]at h0;have:=Mine.Rep.sysIn R;rw[h0]at this;contradiction
theorem cW.add{a b:Addr}(ap:cW C ρ b)(hne:b≠a):cW C (ρ++[a]) b:=
 ⟨by simp only[List.mem_append,List.mem_singleton,not_or];exact⟨ap.notIn,hne⟩,ap.notL,ap.notF⟩
theorem Rep.addCells:∀{cs:List Addr}{ρ:List Addr}{Y:St},C.Rep ρ h Y->(∀a∈cs,(∃co,h.get? a=some co/\co.data=.cell none)/\cW C ρ a/\C.h₀.get? a=none)->cs.Nodup->C.Rep (ρ++cs) h {Y with sto:=Y.sto++cs.map λ _=>.cell none}:=by
 intro cs;induction cs with
 |nil=>intro ρ Y R _ _;simpa using R
 |cons a cs ih=>
  intro ρ Y R hc hn;rw[List.nodup_cons]at hn;obtain⟨⟨co,h1,h2⟩,h3,h4⟩:=hc a (.head _);have:=ih (Rep.add R (o:=.cell none) h1 h3 h4 ⟨none,h2,rfl⟩) (λ b hb=>⟨(hc b (.tail _ hb)).1,(hc b (.tail _ hb)).2.1.add λ q=>hn.1 (q▸hb),(hc b (.tail _ hb)).2.2⟩) hn.2;simpa using this
theorem z9:∀(names:List (Str×NameKind)) (n:Nat) (acc:List (Str×Addr)),
  ∃l:List (Str×Addr),cellsFrom n names acc=l.reverse++acc/\l.map (·.1)=(names.filter λ p=>p.2== .cell).map (·.1)/\l.map (·.2)=(List.range l.length).map (n+·):=by
 intro names;induction names with
 |nil=>exact λ n acc=>⟨[],rfl,rfl,rfl⟩
 |cons p r ih=>
  intro n acc;obtain⟨x,k⟩:=p;dsimp only[cellsFrom];by_cases hk:(k==NameKind.cell)=true
  ·rw[if_pos hk];obtain⟨l,h1,h2,h3⟩:=ih (n+1) ((x,n)::acc);refine⟨(x,n)::l,by rw[h1];simp,by simp[hk,h2],?_⟩;simp only[h3,List.length_cons,List.range_succ_eq_map,List.map_cons,List.map_map];simp only[Nat.add_zero,List.cons.injEq,true_and];apply List.map_congr_left
   intro i _;simp;lia
  ·rw[if_neg hk];obtain⟨l,h1,h2,h3⟩:=ih n acc;exact⟨l,h1,by simp[hk,h2],h3⟩
end
set_option tactic.hygienic true in
noncomputable def vY(loc:List (Str×Option V))(r:ak Fl):ak V:=match r with
 |.ok (.ret v) τ=>.ok v {loc:=loc,sto:=τ.sto}
 |.ok .next τ=>.ok .none {loc:=loc,sto:=τ.sto}
 |.ok _ _=>.bad
 |.exc e τ=>.exc e {loc:=loc,sto:=τ.sto}
 |.bad=>.bad
noncomputable def oX(cl:Nat->List V->St->ak V)(f:Fn)(args:List V)(Y:St):ak V:=match xP f args Y with
 |none=>.bad
 |some (bs,σ₁)=>vY Y.loc (aK (cG cl 60) f.body {scope:=f.scope,cells:=fH (bM f.scope) σ₁.sto.length} {loc:=pN bs (rY f.scope),sto:=σ₁.sto++(bM f.scope).map λ _=>.cell none})
section
variable {d:Nat}{C:Cx}{A:Around}{ρ:List Addr}{s:Shared}{Y:St}{en:En}{env:Env}{x:yN}{h:Heap}{cl:Nat->List V->St->ak V}{n:Nat}{ex:Stmt->En->St->ak Fl}
set_option tactic.hygienic true in
theorem Aa{kindOf:Str->Option NameKind}:∀{bs:List (Str×V)}{binds:List (Str×Value)}{l:List (Str×Option V)}{m:Str->Option Value},aU (Di ρ) bs binds->(∀p∈bs,kindOf p.1=some .local)->pK ρ l m->pK ρ (pN bs l) (bindL kindOf binds m):=by
 intro bs;induction bs with
 |nil=>intro _ l m h _ hl;cases h;exact hl
 |cons p r ih=>
  intro _ l m h hk hl;obtain⟨y,v⟩:=p;cases h with
  |cons h1 h2=>
   rename_i q qs
   obtain⟨z,c⟩:=q;obtain⟨e,hv⟩:=h1;dsimp only at e hv;subst e;have:=hk (y,v) (.head _);dsimp only[pN,bindL];rw[if_pos this];exact ih h2 (λ p hp=>hk p (.tail _ hp)) (hl.set hv)
theorem yc{sc:Scope}{y:Str}{v:V}(h:(rY sc).lookup y=some (some v)):False:=by
 unfold rY at h;generalize(sc.names.filter λ p=>p.2== .local)=l at h;induction l with
 |nil=>first|exact ns h|exact jz h|cases h
 |cons p l ih=>
  rw[List.map_cons,List.lookup]at h;induction q:y==p.1 with
  |true=>rw[q]at h;nomatch h
  |false=>rw[q]at h;exact ih h
theorem G3{ns:List Str}:∀{vs:List V}{cs:List Value},aU (VR ρ) vs cs->aU (Di ρ) (ns.zip vs) (ns.zip cs):=by
 induction ns with
 |nil=>intro vs cs h;simp;exact .nil
 |cons n ns ih=>
  intro vs cs h;induction h with
  |nil=>simp;exact .nil
  |cons h1 h2=>exact .cons ⟨rfl,h1⟩ (ih h2)
set_option tactic.hygienic true in
theorem Xn{hb:Heap}{a:Nat}{f:Fn}{args:List V}{cvs:List Value}{bs:List (Str×V)}{σ₁:St}(F:R0 hb a f)(kb:∀b o,hb.get? b=some o->s.heap.get? b=some o)(R:C.Rep ρ s.heap Y)(hv:aU (VR ρ) args cvs)(hbm:xP f args Y=some (bs,σ₁))
  {fd:FuncData}(hp:fd.params=f.params) {dl:Option (Array Value)}(hdl:∀M:Model,Looks M hb (seqItems? fd.defaults) dl) (hd1:f.params.defaults.length=1->dl=some #[.none])
  (hQ:∀binds ρ' h',Sub s.heap h'->C.Rep (ρ++ρ') h' σ₁->aU (Di (ρ++ρ')) bs binds->(∀p∈bs,f.scope.names.lookup p.1=some .local)->σ₁.loc=Y.loc->Q binds {s with heap:=h'}):wpAny M A' (bindArgs fd ⟨cvs,[]⟩) Q E s:=by
 have hlen:cvs.length=args.length:=hv.length.symm;have hdef:∀{Q:Option (Array Value)->Shared->Prop},Q dl s->wpAny M A' (seqItems? fd.defaults) Q E s:=λ q=>hdl M _ _ _ _ kb q
 have locz:∀{us:List V},∀p∈(f.params.args.map (·.arg)).zip us,f.scope.names.lookup p.1=some .local:=λ p hp=>F.locals p.1 (.inl (xZ hp))
 unfold xP at hbm;split at hbm
 ·rename_i hc
  simp only[Bool.and_eq_true,List.isEmpty_iff,decide_eq_true_eq,Option.isNone_iff_eq_none]at hc;obtain⟨⟨⟨h1,h2⟩,h3⟩,h4⟩:=hc;split at hbm
  ·rename_i hva
   split at hbm
   ·rename_i hl
    cases hbm;refine z8 (by rw[hp];exact h1) (by rw[hp];exact h2) (by rw[hp];exact h3) (by rw[hp];exact hva) (by rw[hp];exact F.names) (by rw[hp,hlen,hl]) hdef ?_;rw[hp];exact hQ _ [] s.heap (λ _ _ e=>e) (by rw[List.append_nil];exact R) (by rw[List.append_nil];exact G3 hv) locz rfl
   ·split at hbm
    ·rename_i hl
     rw[Bool.and_eq_true,decide_eq_true_eq,beq_iff_eq]at hl;cases hbm;rw[hd1 hl.2]at hdef;refine GZ (by rw[hp];exact h1) (by rw[hp];exact h2) (by rw[hp];exact h3) (by rw[hp];exact hva) (by rw[hp];exact F.names) (by rw[hp,hlen,hl.1]) hdef ?_;rw[hp];exact hQ _ [] s.heap (λ _ _ e=>e) (by rw[List.append_nil];exact R) (by rw[List.append_nil];exact G3 (hv.append (.cons rfl .nil))) locz rfl
    ·first|exact ns hbm|exact jz hbm|cases hbm
  ·rename_i r hva
   split at hbm
   ·rename_i hl
    cases hbm;refine Tn (by rw[hp];exact h1) (by rw[hp];exact h2) (by rw[hp];exact h3) (by rw[hp];exact hva) (by rw[hp];exact F.names) (by rw[hp,hlen];exact hl) (by rw[hlen];exact Nat.le_trans h4 (by decide)) hdef ?_;rw[hp];refine hQ _ [s.heap.objs.size] _ (λ _ _ e=>Heap.get?_push_of_some _ e) (R.new1 (o:=.tup (args.drop f.params.args.length)) rfl ⟨_,0,rfl,by exact(hv.drop _).mono λ _ _=>VR.mono⟩) ?_ ?_ rfl
    ·refine(G3 (WT hv)).append (.cons ⟨rfl,lB R.lenEq⟩ .nil)
    ·intro p hp';rcases List.mem_append.mp hp' with q|q
     ·exact locz p q
     ·rw[List.mem_singleton.mp q];exact F.locals _ (.inr ⟨r,hva,rfl⟩)
   ·first|exact ns hbm|exact jz hbm|cases hbm
 ·first|exact ns hbm|exact jz hbm|cases hbm
end
section
variable {d:Nat}{C:Cx}{A:Around}{ρ:List Addr}{s:Shared}{Y:St}{en:En}{env:Env}{x:yN}{h:Heap}{cl:Nat->List V->St->ak V}
theorem yC:∀{ns:List Str}{k:Nat}{y:Str}{j:Nat},(fH ns k).lookup y=some j->∃i,ns[i]?=some y/\j=k+i:=by
 intro ns;induction ns with
 |nil=>exact λ e=>Mine.ns e
 |cons n r ih=>
  intro k y j e;dsimp only[fH]at e;dsimp only[List.lookup]at e;induction q:y==n with
  |true=>
   rw[q]at e;cases e;exact⟨0,by simp;exact(eq_of_beq q).symm,rfl⟩
  |false=>
   rw[q]at e;obtain⟨i,h1,h2⟩:=ih e;exact⟨i+1,by simpa using h1,by lia⟩
theorem vZ{l:List (Str×Addr)}{i:Nat}{p:Str×Addr}(hn:(l.map (·.1)).Nodup)(e:l[i]?=some p):l.lookup p.1=some p.2:=by
 induction l generalizing i with
 |nil=>contradiction
 |cons q l ih=>
  rw[List.map_cons,List.nodup_cons]at hn;induction i with
  |zero=>
   simp at e;clear ih;subst e;simp[List.lookup]
  |succ i=>
   simp at e;have:p.1≠q.1:=λ z=>hn.1 (z▸List.mem_map_of_mem (List.mem_of_getElem? e))
   simp only[List.lookup,(by simpa using this:(p.1==q.1)=false)];exact ih hn.2 e
theorem Ab{l:List (Str×Addr)}(hn:(l.map (·.1)).Nodup){i:Nat}{p:Str×Addr}(e:l[i]?=some p):l.reverse.lookup p.1=some p.2:=by
 have hi:=(List.getElem?_eq_some_iff.mp e).1;refine vZ (i:=l.length - 1 - i) (by rw[List.map_reverse];unfold List.Nodup;rw[List.pairwise_reverse];exact hn.imp λ h=>h.symm) ?_;rw[List.getElem?_reverse (Nat.lt_of_le_of_lt (Nat.sub_le ..) (Nat.sub_one_lt_of_lt hi)),Nat.sub_sub_self (Nat.le_sub_one_of_lt hi)];exact e
theorem Nq{kindOf:Str->Option NameKind}{y:Str}:∀{bb:List (Str×Value)}{mm:Str->Option Value},(∀q∈bb,kindOf q.1=some .local)->mm y=none->bindC kindOf bb mm y=none:=by
 intro bb;induction bb with
 |nil=>exact λ _ e=>e
 |cons q r ih=>
  intro mm hq e;dsimp only[bindC];rw[if_pos (hq q (.head _))];exact ih (λ q' h'=>hq q' (.tail _ h')) e
structure yV(f:Fn)(g:Heap)(binds:List (Str×Value))(L':Addr)(cenv:Env)(hV:Heap):Prop where
 scope:cenv.scope=f.scope
 locals:cenv.locals=L'
 globals:cenv.globals=mainGlobals
 builtins:cenv.builtins=builtinsNs
 frame:cenv.frame=some L'
 cells:cenv.cells=cellsFrom (L'+1) f.scope.names []
 keep:Sub g hV
 fresh:∀b,L'<=b->g.get? b=none
 ns:hV.Ns L' (bindL (λ y=>f.scope.names.lookup y) binds λ _=>none)
 cell:∀y b,(cellsFrom (L'+1) f.scope.names []).lookup y=some b->hV.IsCell b none
theorem DK{prog:Program}{w:World}{RO:Result->Shared->Prop}{a:Nat}{f:Fn}{cvs:List Value}{hb:Heap}(F:R0 hb a f)(hlim:hb.NoLimit)(kb:Sub hb s.heap)(hdp:A.depth < recursionLimit)
  (h:∀{fd:FuncData} {dl},fd.params=f.params->(∀M:Model,Looks M hb (seqItems? fd.defaults) dl)->(f.params.defaults.length=1->dl=some #[.none])->∀Q:List (Str×Value)->Shared->Prop,
   (∀binds hH,Sub s.heap hH->(∀p∈binds,f.scope.names.lookup p.1=some .local)->(∀cenv L' hV tk2,yV f hH binds L' cenv hV->codeAny (model prog w) A (.func f.body cenv) RO {s with heap:=hV,toks:=tk2})->Q binds {s with heap:=hH})->
   wpAny (model prog w) A.in1 (bindArgs fd ⟨cvs,[]⟩) Q (λ e s'=>RO (.error e) s') s):
  codeAny (model prog w) A (.call (.ref a) ⟨cvs,[]⟩) RO s:=by
 obtain⟨o,fd,ho,hd,hpar,hbody,hsc,hgl,hcl,hbu,⟨c,oc,vs,tq,c1,c2,c3⟩,dl,hdl,hd1⟩:=F.obj;refine codeAny_call_function hdp (kb _ _ ho) hd (by rw[hsc];exact F.co) (by rw[hsc];exact F.gen) hbody ⟨c,oc,vs,tq,c1,kb _ _ c2,c3⟩ (h hpar hdl hd1 _ λ binds hH hsub hkl k=>?_);rw[hsc,hgl,hcl,hbu];refine wpAny_newFunctionEnv_cells F.kind (λ p hp=>.inl (hkl p hp)) λ cenv hcenv sB x=>?_
 obtain⟨hV,tk2,rfl,hk2⟩:=x.done;refine⟨hlim.keeps λ b o e=>hk2 b o (hsub b o (kb b o e)),k cenv hH.objs.size hV tk2 ?_⟩;subst hcenv;refine⟨rfl,rfl,rfl,rfl,rfl,rfl,hk2,λ b hb=>Heap.get?_none_of_le hb,x.toInCall.ns,λ y b e=>?_⟩;have q:=x.cell y b e;rw[Nq (kindOf:=Env.kindOf _) hkl rfl]at q;exact q
inductive abT(sc:Scope)(L':Addr):Prop
 |mk (cs:List Addr) (h1:cs.Nodup) (h2:cs.length=(bM sc).length) (h3:∀b∈cs,L' < b) (h4:∀(i:Nat) y,(bM sc)[i]?=some y->∃b,cs[i]?=some b/\(cellsFrom (L'+1) sc.names []).lookup y=some b)
theorem Nr{sc:Scope}(hc:(bM sc).Nodup)(L':Addr):abT sc L':=by
 obtain⟨l,hl1,hl2,hl3⟩:=z9 sc.names (L'+1) [];rw[List.append_nil]at hl1;have hl2':l.map (·.1)=bM sc:=hl2;refine⟨l.map (·.2),by rw[hl3];exact List.Pairwise.map _ (λ i j (h:i≠j) (e:L'+1+i=L'+1+j)=>h (by lia)) List.nodup_range,by rw[<-hl2',List.length_map,List.length_map],λ b hb=>?_,λ i y e=>?_⟩
 ·rw[hl3]at hb;obtain⟨j,_,rfl⟩:=List.mem_map.mp hb;exact Nat.le_add_right _ _
 ·rw[<-hl2',List.getElem?_map,Option.map_eq_some_iff]at e;obtain⟨p,hp,rfl⟩:=e;exact⟨p.2,by rw[List.getElem?_map,hp];rfl,by rw[hl1];exact Ab (by rw[hl2'];exact hc) hp⟩
theorem yV.rep{C1:Cx}{f:Fn}{g hV:Heap}{binds:List (Str×Value)}{L':Addr}{cenv:Env}{L:List (Str×Option V)}{S:List O}(X:yV f g binds L' cenv hV)(hc:(bM f.scope).Nodup)(R:C1.Rep ρ hV ⟨L,S⟩)(hap:∀b,L' < b->cW C1 ρ b/\C1.h₀.get? b=none):
  ∃cs,C1.Rep (ρ++cs) hV ⟨L,S++(bM f.scope).map λ _=>.cell none⟩/\∀y k,(fH (bM f.scope) S.length).lookup y=some k->∃b,cenv.cells.lookup y=some b/\(ρ++cs)[k]?=some b:=by
 obtain⟨cs,h1,h2,h3,h4⟩:=Nr hc L';refine⟨cs,?_,λ y k e=>?_⟩
 ·have:=Rep.addCells R (λ b hb=>?_) h1
  ·rw[show(cs.map λ _=>O.cell none)=(bM f.scope).map λ _=>O.cell none by rw[List.map_const',List.map_const',h2]]at this;exact this
  ·obtain⟨i,hi⟩:=List.getElem?_of_mem hb;obtain⟨b',e,hlk⟩:=h4 i _ (List.getElem?_eq_getElem (by rw[<-h2];exact(List.getElem?_eq_some_iff.mp hi).1));obtain rfl:=Option.some.inj (e.symm.trans hi);obtain⟨p1,p2⟩:=hap b' (h3 _ hb);exact⟨X.cell _ _ hlk,p1,p2⟩
 ·obtain⟨i,e1,rfl⟩:=yC e;obtain⟨b,e2,e3⟩:=h4 i y e1;exact⟨b,by rw[X.cells];exact e3,by rw[<-(Mine.Rep.len R),List.getElem?_append_right (Nat.le_add_right ..),Nat.add_sub_cancel_left];exact e2⟩
theorem JQ{f:Fn}{args:List V}(hbad:oX cl f args Y≠.bad):∃bs σ₁,xP f args Y=some (bs,σ₁)/\oX cl f args Y=vY Y.loc (aK (cG cl 60) f.body {scope:=f.scope,cells:=fH (bM f.scope) σ₁.sto.length} {loc:=pN bs (rY f.scope),sto:=σ₁.sto++(bM f.scope).map λ _=>.cell none}):=by
 unfold oX at hbad ⊢;induction q:xP f args Y with
 |none=>rw[q]at hbad;exact absurd rfl hbad
 |some pr=>exact⟨pr.1,pr.2,rfl,rfl⟩
set_option tactic.hygienic true in
theorem Tr{C':Cx}{m:Str->Option Value}{L':Addr}{ρ1:List Addr}{en':En}{cenv:Env}{body:List Stmt}{r:ak Fl}{l:List (Str×Option V)}{hV:Heap}{tk2:Nat}(hC':C'.prog=C.prog/\C'.w=C.w/\C'.h₀=C.h₀/\C'.L=L'/\C'.FS=(env,m)::C.FS)(EV':aW C' (A.deeper cenv) (ρ++ρ1) en' cenv)(hown:en'.own=true)(hL:env.locals=C.L)(hl:pK (ρ++ρ1) l m)
  (hb:vY l r≠.bad) (h:C'.Snd (A.deeper cenv) (execs body cenv) (ρ++ρ1) r m9 {s with heap:=hV,toks:=tk2}):
  codeAny (model C.prog C.w) A (.func body cenv) (wants (C.Ret ρ s (vY l r) VR) (C.Exn ρ s (vY l r))) {s with heap:=hV,toks:=tk2}:=by
 have h:=h λ q=>hb (by rw[q];rfl)
 rw[hC'.1,hC'.2.1]at h;refine codeAny_func (wpAny_mono h ?_ ?_)
 ·rintro fl s' ⟨fl',Y',h',tk,ρ',rfl,rfl,RE,hf⟩;have RF:C.Rep (ρ++ρ1++ρ') h' {Y' with loc:=l}:=by
   have RE:Mine.Rep C'.prog C'.w C'.h₀ C'.FS C'.L (ρ++ρ1++ρ') h' Y':=RE;simp only[hC'.1,hC'.2.1,hC'.2.2.1,hC'.2.2.2.1,hC'.2.2.2.2]at RE;exact Rep.leave (h:=h') (L':=L') (m:=m) (env:=env) RE hl.mono hL (Heap.SameBut.refl ..)
  rw[List.append_assoc]at RF hf;induction fl' with
  |next=>subst hf;exact Cx.ret1 RF rfl
  |ret v=>
   obtain⟨c,rfl,hc⟩:=hf;exact Cx.ret1 RF hc
  |brk=>exact absurd rfl hb
  |cont=>exact absurd rfl hb
 ·rintro e s' ⟨x',Y',h',tk,ρ',rfl,rfl,X⟩;refine JM hC' (EV'.mono ρ') hown (s:={s with heap:=h',toks:=tk}) X hL hl.mono λ h'' X'=>?_
  rw[List.append_assoc]at X';exact⟨x',_,h'',tk,ρ1++ρ',rfl,rfl,X'⟩
noncomputable def Cx.callee(C:Cx)(L':Addr)(env:Env)(m:Str->Option Value):Cx:={C.inn L' env m with room:=C.room - 1}
theorem DN(hO:sG d cl)(W:qD (d+1) C){A₀:Around}(EV:aW C A₀ ρ en env)(hown:en.own=true)(hh:A.handled=none)(hfr:A.frames=A₀.frames)(hun:A.units+10*C.room+93 < cLine)(hdp:A.depth+C.room < recursionLimit)
  (R:C.Rep ρ s.heap Y) {a:Nat}{f:Fn}{args:List V}{cvs:List Value}(hv:aU (VR ρ) args cvs)
  {hb:Heap}(kb:∀b o,hb.get? b=some o->C.h₀.get? b=some o) (F:R0 hb a f) (hlim:hb.NoLimit) (hbad:oX cl f args Y≠.bad):
  codeAny (model C.prog C.w) A (.call (.ref a) ⟨cvs,[]⟩) (wants (C.Ret ρ s (oX cl f args Y) VR) (C.Exn ρ s (oX cl f args Y))) s:=by
 have kbs:Sub hb s.heap:=λ b o e=>Mine.Rep.keep R b o (kb b o e)
 obtain⟨bs,σ₁,hbm,e⟩:=JQ hbad;rw[e]at hbad ⊢;refine DK F hlim kbs (by lia) λ hpar hdl hd1 Q hQ=>Xn F kbs R hv hbm hpar hdl hd1 λ binds ρ1 hH hsub RA hbinds hloc hσ=>hQ binds hH hsub (λ p hp=>?_) λ cenv L' hV tk2 X=>?_
 ·obtain⟨i,hi⟩:=List.getElem?_of_mem hp;obtain⟨q,hq,h1,_⟩:=hbinds.getR hi;rw[<-h1];exact hloc q (List.mem_of_getElem? hq)
 obtain⟨m,hm,hml⟩:=Mine.Rep.loc RA;have enterR:(C.inn L' env m).Rep (ρ++ρ1) hV {σ₁ with loc:=pN bs (rY f.scope)}:=
  Rep.enter RA hm (X.fresh L' (Nat.le_refl _)) X.keep X.ns (Aa hbinds hloc λ y u e=>(yc e).elim) EV.locals EV.kind
 obtain⟨cs,RC,hcs⟩:=X.rep F.cells enterR λ b hlt=>by
  have hnb:=X.fresh b (Nat.le_of_lt hlt);have ap:=cW.new RA hnb;exact⟨⟨ap.notIn,Nat.ne_of_gt hlt,List.forall_mem_cons.mpr ⟨λ z=>ap.notL (z.symm.trans EV.locals),ap.notF⟩⟩,dF (λ b o e=>Mine.Rep.keep RA b o e) hnb⟩
 have hdr:=W.2;have EV':aW (C.callee L' env m) (A.deeper cenv) (ρ++ρ1++cs) {scope:=f.scope,cells:=fH (bM f.scope) σ₁.sto.length} cenv:=by
  refine⟨X.scope,X.scope▸F.kind,X.locals,X.globals,X.builtins,hcs,λ _=>hh,?_,?_,aH (aH EV.files),by have:=EV.stat;simp;exact Nat.lt_add_right _ (by assumption),λ _=>⟨X.frame,?_,List.forall_mem_cons.mpr ⟨?_,(EV.own hown).2.2⟩⟩⟩
  ·show A.units+3+100 < cLine;lia
  ·show A.units+3+10*(C.room - 1)+100 < cLine/\A.depth+1+(C.room - 1) < recursionLimit;lia
  ·show A.frames.map _=some _;rw[hfr,(EV.own hown).2.1];rfl
  ·show env.frame=some env.locals;rw[(EV.own hown).1,EV.locals]
 rw[List.append_assoc]at EV' RC;refine Tr (C':=C.callee L' env m) ⟨rfl,rfl,rfl,rfl,rfl⟩ EV' rfl EV.locals (by rw[<-hσ,<-List.append_assoc];exact hml.mono) hbad (cU (C:=C.callee L' env m) (GR hO 60 _ _ _ _ ⟨W.1,by show d<=C.room - 1;lia⟩) f.body EV' RC)
theorem agJ(hO:sG d cl)(W:qD (d+1) C)(EV:aW C A ρ en env)(hfree:en.free=true)(hown:en.own=true)(R:C.Rep ρ s.heap Y){a:Nat}{f:Fn}{args:List V}{cvs:List Value}(hv:aU (VR ρ) args cvs)
  {hb:Heap}(kb:∀b o,hb.get? b=some o->C.h₀.get? b=some o) (F:R0 hb a f) (hlim:hb.NoLimit):C.Snd A (PySem.call (.ref a) cvs) ρ (oX cl f args Y) VR s:=λ hbad=>
 wpAny_call (codeAny_mono (DN hO W EV hown (EV.free hfree) rfl (by have:=EV.room.1;lia) EV.room.2 R hv kb F hlim hbad) λ r s' x=>by
  induction r with
  |error e=>exact x
  |ok f=>induction f<;>exact x)
end
end Mine
set_option maxHeartbeats 4000000
namespace Mine
open PySem PySem.W PySem.Calls PyProof.Rows Builtin Builtin.ObjectAttr Builtin.Getset_descriptor
section
variable {prog:Program}{w:World}{A:Around}{E:Value->Shared->Prop}{s:Shared}{K:Frag}{x C dx p:Addr}{ox od:Obj}{name:Str}{v:Value}{es:List DictEntry}{n i:Nat}{Q:Unit->Shared->Prop}
set_option tactic.hygienic true in
theorem Xo(X:K.In s.heap)(I:InstAt s.heap x ox C (some (dictOf es n)))(hd:ox.dict=some dx)
  (hs:findIn K (.ref C) "__setattr__"=some (some (.builtin "object.__setattr__"))) (hp:plainOver K C=true) (ht:takerIn K C name=some none) (hh:hasDictIn K C=true)
  (hl:(lookIn name (dictOf es n)).isSome=true) (hz:(putL name (PyData.keyHash w.params name) (.str name (s.toks+1)) v es).length<=1000)
  (h:∀h',Heap.SameBut dx s.heap h'->h'.get? dx=some (dictOf (putL name (PyData.keyHash w.params name) (.str name (s.toks+1)) v es) (putN name es n))->Q () {s with heap:=h',toks:=s.toks+2}):
  wpAny (model prog w) A (setAttr (.ref x) name v) Q E s:=by
 obtain⟨cd,hc,hd'⟩:=any_some hh;obtain⟨oc,odi,oda,osl⟩:=ox;obtain⟨hh0,g0,d0,t0,os0⟩:=s;dsimp only at X I hl hz h;refine set_plain X I hs ?_;dsimp only;refine osa_open X I hp ht λ b=>?_
 obtain⟨hx,hcl,hn,hdx⟩:=I;clear hn;dsimp only at hcl hd hdx;subst hcl hd;have D:hh0.get? dx=some (dictOf es n):=hdx;refine wpAny_bind (wpAny_pure (wpAny_bind (wpAny_bind (wpAny_loadPart hx (wpAny_bind ((looks_clsIn X hc).here ?_))))));rw[hd'];refine wpAny_pure (a:=some dx) (wpAny_bind (wpAny_pure (wpAny_bind ?_)));refine wpAny_bind (wpAny_bind (wpAny_askSetting (wpAny_pure (wpAny_bind (wpAny_mkText (wpAny_bind (wpAny_loadPart D ?_)))))));unfold lookIn at hl;dsimp only at hl ⊢;have c:(!es.toArray.any (·.key.isStr name)&&es.toArray.any (·.refKey))=false:=by
  rw[<-Array.any_toList,<-Array.any_toList];split at hl
  ·rename_i en he
   rw[List.any_eq_true.mpr ⟨en,List.mem_of_find?_eq_some he,List.find?_some he⟩];rfl
  ·split at hl
   ·first|exact ns hl|exact jz hl|cases hl
   ·rename_i z;rw[Bool.not_eq_true]at z;rw[z,Bool.and_false]
 rw[aRefKeyMayBeTheName_at,c];refine wpAny_updatePart D ?_;have e:=putName_dict name (PyData.keyHash w.params name) (.str name (t0+1)) v es n;have D':(hh0.update dx (Obj.putName name (PyData.keyHash w.params name) (.str name (t0+1)) v)).get? dx=some (dictOf (putL name (PyData.keyHash w.params name) (.str name (t0+1)) v es) (putN name es n)):=by
  rw[<-e];exact Heap.get?_update_self _ D (by rw[e];rfl)
 refine wpAny_bind (wpAny_lookBehind D' (pastItsLine_dict (by rw[List.size_toArray,sizeLine_eq];omega)) ?_);exact wpAny_pure (h _ (Heap.SameBut.update ..) D')
theorem Nt{od:Option Obj}(X:K.In s.heap)(I:InstAt s.heap x ox C od)
  (hs:findIn K (.ref C) "__setattr__"=some (some (.builtin "object.__setattr__"))) (hp:plainOver K C=true) (ht:takerIn K C name=some (some (.ref p))) (hT:typeIn K (.ref p)=some (.type "member_descriptor")) (hi:slotIn K p C=some i) (hz:i < 1000)
  (hf:({ox with slots:=(ox.slots++Array.replicate (i+1 - ox.slots.size) none).setIfInBounds i (some v)}:Obj).isFreed=false)
  (h:∀h',Heap.SameBut x s.heap h'->h'.get? x=some {ox with slots:=(ox.slots++Array.replicate (i+1 - ox.slots.size) none).setIfInBounds i (some v)}->Q () {s with heap:=h',toks:=s.toks+1}):
  wpAny (model prog w) A (setAttr (.ref x) name v) Q E s:=by
 refine set_plain X I hs (osa_descr (s:={s with toks:=s.toks+1}) KF.slot_mset X I hp ht hT (lU λ Gz toG=>?_));obtain⟨hh,g,dr,t,os⟩:=s;obtain⟨n,tn,owner,behind,tb,d,sl,cd,ho,hc,hm,hb,rfl⟩:=slot_of X hi;have L0:=I.type (M:=model prog w);have L1:=looks_mroIn (M:=model prog w) X hm;have L2:Looks (model prog w) hh (Slots.slotNamesOf (.ref C)) cd.slotNames:=(looks_clsIn X hc).andThen .now;have hx:=I.at_;dsimp only at ho hx L0 L1;have f0:=looks_field (M:=model prog w) ho 0 (v:=.str n tn) rfl;have f1:=looks_field (M:=model prog w) ho 1 (v:=owner) rfl;have f3:=looks_field (M:=model prog w) ho 3 (v:=.builtin "proto.slot#set") rfl;have f4:=looks_field (M:=model prog w) ho 4 (v:=.int behind tb) rfl;refine toG<|codeAny_call_builtin KF.slot_mset.plain KF.entry_mset (KF.slot_mset.check _ _ _ _ _ _ _ _ ⟨_,ho,rfl⟩ (KF.args_mset _ _ _) ?_)
 have f5:Looks (model prog w) hh (descrItself (.ref p)) [.ref p]:=((Looks.ld (part:=none) ho).andThen .now).andThen (Looks.of_pure (by kernel_rfl));repeat lk
 refine⟨Code.quiet_builtin _ (by decide+kernel),codeAny_builtin KF.entry_slotset ?_⟩;repeat lk
 rw[if_neg hb];refine wpAny_pure (wpAny_bind ?_);unfold setSlotAt;dsimp only;rw[if_neg (by rw[sizeLine_eq];omega)];exact wpAny_updatePart hx (wpAny_pure (h _ (Heap.SameBut.update ..) (Heap.get?_update_self _ hx hf)))
end
end Mine
namespace Mine
open PySem PySem.W PySem.Calls PyProof.Rows
section
variable {C:Cx}{A:Around}{ρ:List Addr}{s:Shared}{Y:St}{en:En}{env:Env}
theorem Xp{prog:Program}{w:World}{v:Value}{k n:Str}(h:(strKind prog w).is k v=true):v.isStr n=(strKind prog w).is n v:=by
 obtain⟨t,rfl⟩:=Value.isStrOf_shape h;rfl
theorem Ac{prog:Program}{w:World}{es:Array DictEntry}{ckvs:List (Str×Value)}(hk:KeysOf (strKind prog w) es)(hp:Pairs (strKind prog w) es.toList ckvs)(name:Str)(n:Nat):lookIn name ({cls:=.type "dict",dict:=none,data:=.dict es n,slots:=#[]}:Obj)=some (valueAt ckvs name):=by
 have hall:∀e∈es.toList,e.key.isStr name=(strKind prog w).is name e.key:=λ e he=>by
  obtain⟨k,h1,_⟩:=hk e (Array.mem_toList_iff.mp he);exact Xp h1
 have hf:es.toList.find? (·.key.isStr name)=es.toList.find? λ e=>(strKind prog w).is name e.key:=by
  generalize es.toList=l at hall;induction l with
  |nil=>rfl
  |cons a l ih=>
   rw[List.find?_cons,List.find?_cons,hall a (.head _),ih λ e he=>hall e (.tail _ he)]
 have hr:es.toList.any (·.refKey)=false:=by
  rw[List.any_eq_false];intro e he;obtain⟨k,h1,_⟩:=hk e (Array.mem_toList_iff.mp he);obtain⟨t,ht⟩:=Value.isStrOf_shape h1;unfold DictEntry.refKey;rw[ht];simp
 unfold lookIn;dsimp only;rw[hf,<-hp.find name];induction q:es.toList.find? λ e=>(strKind prog w).is name e.key with
 |none=>simp only[hr];rfl
 |some e=>rfl
theorem DP{v:V}{c:Value}(h:VR ρ v c):handedIn c=true:=by
 induction v with
 |none=>subst h;rfl
 |bool b=>subst h;rfl
 |int i=>obtain⟨t,rfl⟩:=h;rfl
 |str x=>obtain⟨t,rfl⟩:=h;rfl
 |ref n=>obtain⟨a,_,rfl⟩:=h;rfl
 |fn a=>subst h;rfl
 |bi b=>subst h;induction b<;>first|rfl|decide+kernel
end
section
variable {C:Cx}{A:Around}{ρ:List Addr}{s:Shared}{Y:St}{en:En}{env:Env}
theorem Wf.ko(W:Wf C):∃K:Frag,K.In C.h₀/\R6 K=true:=by
 obtain⟨hb,_,kb,F⟩:=W;obtain⟨K,h1,h2⟩:=F.ko;exact⟨K,h1.keeps kb,h2⟩
structure aen(K:Frag):Prop where
 c1:Dp K 137 73=true
 c2:Dp K 40 36=true
 dict:hasDictIn K 137=true
 field:∀x,bT.contains x=true->yR K x=true
 meth:∀p∈qt,Mx K p=true
 slot:∀q∈qC,Gu K q=true
 top:∀p∈zG,keepIn K (.ref p.1)=true
 mth:∀p∈yO,keepIn K (.ref p.1)=true
theorem R6.split{K:Frag}(h:R6 K=true):aen K:=by
 unfold R6 at h;simp only[Bool.and_eq_true]at h;obtain⟨⟨⟨⟨⟨⟨⟨h1,h2⟩,h3⟩,h4⟩,h5⟩,h6⟩,h7⟩,h8⟩:=h;exact⟨h1,h2,h3,λ x hx=>List.all_eq_true.mp h4 x (by simpa using hx),List.all_eq_true.mp h5,List.all_eq_true.mp h6,List.all_eq_true.mp h7,List.all_eq_true.mp h8⟩
structure JR(K:Frag)(D:Addr)(fI:Nat):Prop where
 get:plainGet K D ""=true
 cls:isClsIn K D=true
 over:plainOver K D=true
 set:findIn K (.ref D) "__setattr__"=some (some (.builtin "object.__setattr__"))
 makes:makesIn K D=true
 init:findIn K (.ref D) "__init__"=some (some (.ref fI))
 fn:isFn K (.ref fI)=true
 keep:keepIn K (.ref D)=true
theorem dG{K:Frag}{D:Addr}{fI:Nat}(h:Dp K D fI=true):JR K D fI:=by
 unfold Dp at h;simp only[Bool.and_eq_true,beq_iff_eq]at h;obtain⟨⟨⟨⟨⟨⟨⟨h1,h2⟩,h3⟩,h4⟩,h5⟩,h6⟩,h7⟩,h8⟩:=h;exact⟨h1,h2,h3,h4,h5,h6,h7,h8⟩
theorem Nu{K:Frag}{D:Addr}(h:plainGet K D ""=true):findIn K (.ref D) "__getattribute__"=some (some (.builtin "object.__getattribute__"))/\findIn K (.ref D) "__getattr__"=some none:=plainGet_of (name:="") h
theorem G4(R:C.Rep ρ s.heap Y){i d:Nat}{a:Addr}{kvs:List (Str×V)}{ep:Nat}(e1:Y.sto[i]?=some (.inst d))(ha:ρ[i]?=some a)(e2:Y.sto[d]?=some (.dict kvs ep)):
  ∃dx es ckvs,ρ[d]?=some dx/\InstAt s.heap a (instObj 137 dx) 137 (some (dictOf es ep))/\KeysOf (strKind C.prog C.w) es.toArray/\Pairs (strKind C.prog C.w) es ckvs/\(ckvs.map (·.1)).Nodup/\aU (Di ρ) kvs ckvs:=by
 obtain⟨co,h1,dx,h2,rfl⟩:=R.objs _ _ _ e1 ha;obtain⟨co2,h3,es,ckvs,rfl,h4,h5,h6,h7⟩:=R.objs _ _ _ e2 h2;exact⟨dx,es.toList,ckvs,h2,⟨h1,rfl,rfl,by simpa [dictOf]using h3⟩,by simpa using h4,h5,h6,h7⟩
set_option tactic.hygienic true in
theorem Ad{x:Str}{k:Nat}(h:vH x=some k):∃p,(x,p,k)∈qC:=by
 unfold vH at h;split at h
 ·rename_i e;cases h;rw[eq_of_beq e];exact⟨41,by simp[qC]⟩
 ·split at h
  ·rename_i e;cases h;rw[eq_of_beq e];exact⟨42,by simp[qC]⟩
  ·split at h
   ·rename_i e;cases h;rw[eq_of_beq e];exact⟨43,by simp[qC]⟩
   ·first|exact ns h|exact jz h|cases h
theorem uf{K:Frag}{x:Str}{p i:Nat}(h:Gu K (x,p,i)=true):findIn K (.ref 40) x=some (some (.ref p))/\specialIn K (.ref p) "__get__"=some (some (.builtin "member_descriptor.__get__"))/\takesIn K (.ref p)=some true/\slotIn K p 40=some i/\
  takerIn K 40 x=some (some (.ref p))/\typeIn K (.ref p)=some (.type "member_descriptor"):=by
 dsimp only[Gu]at h;simp only[Bool.and_eq_true,beq_iff_eq]at h;obtain⟨⟨⟨⟨⟨h1,h2⟩,h3⟩,h4⟩,h5⟩,h6⟩:=h;exact⟨h1,h2,h3,h4,h5,h6⟩
theorem DQ(R:C.Rep ρ s.heap Y){d:Nat}{dx:Addr}(hd:ρ[d]?=some dx):∃co,s.heap.get? dx=some co:=by
 obtain⟨hl,_⟩:=List.getElem?_eq_some_iff.mp hd;obtain⟨co,h,_⟩:=R.objs d _ dx (List.getElem?_eq_getElem (by rw[<-R.lenEq];exact hl)) hd;exact⟨co,h⟩
theorem Tt(W:Wf C)(R:C.Rep ρ s.heap Y){i:Nat}{c:Value}{x:Str}(hv:VR ρ (.ref i) c)(hx:∀l j,Y.sto[i]?≠some (.liter l j)):C.Snd A (getAttr c x true) ρ (bJ (.ref i) x Y) VR s:=by
 obtain⟨a,ha,rfl⟩:=hv;obtain⟨K,X0,hK⟩:=W.ko;have S:=R6.split hK;have X:K.In s.heap:=X0.keeps λ b o e=>Mine.Rep.keep R b o e
 refine(Cx.Snd.onS λ o e1=>?_:C.Snd A _ ρ (onS (Y.sto[i]?) (Wa i x Y)) VR s);induction o with
 |inst d=>
  refine .grd λ hf=>.onS λ p e2=>.onS λ v e3=>?_
  obtain⟨kvs,ep⟩:=p;obtain⟨dx,es,ckvs,h1,I,h3,h4,h5,h6⟩:=G4 R e1 ha (ig e2);have T:=dG S.c1;obtain⟨g1,g2⟩:=Nu T.get;have hfo:=S.field x hf;unfold yR at hfo;simp only[Bool.and_eq_true,beq_iff_eq]at hfo;have hl:=Ac h3 h4 x ep;have hva:=iY h6 x;rw[show kvs.lookup x=some v from e3]at hva;obtain⟨c,hc,hv⟩:=hva;rw[hc]at hl;exact λ _=>get_value X I g1 (findObj_own S.dict hfo.1 rfl hl) (DP hv) (Cx.ret0 R hv)
 |node di fs=>
  refine .onS λ k hk=>.onS λ o e2=>.onS λ v e3=>?_
  obtain⟨p,hp⟩:=Ad hk;obtain⟨q1,q2,q3,q4,q5,q6⟩:=uf (S.slot _ hp);obtain⟨co,h1,hlen,dx,sl,hdx,rfl,hsl⟩:=R.objs _ _ _ e1 ha;subst e3;obtain⟨cv,h2,hv⟩:=hsl k (some v) e2;have T:=dG S.c2;obtain⟨g1,g2⟩:=Nu T.get;obtain⟨cod,hcod⟩:=DQ R hdx;have I:InstAt s.heap a {cls:=.ref 40,dict:=some dx,data:=.plain,slots:=sl} 40 (some cod):=⟨h1,rfl,rfl,hcod⟩;refine λ _=>get_bind X I g1 ?_ g2 (wpAny_call (slot_get (s:={s with toks:=s.toks+1}) X I q4 h2 (handed_on (DP hv) (Cx.ret0 R hv))))
  obtain⟨cd,hcd⟩:=Option.isSome_iff_exists.mp T.cls;unfold findObj;simp only[hcd,q1];simp[q2,q3]
 |liter l j=>exact absurd e1 (hx l j)
 |_=>exact .of_bad
end
section
variable {C:Cx}{A:Around}{ρ:List Addr}{s:Shared}{Y:St}{en:En}{env:Env}
theorem Xq{prog:Program}{w:World}{es:List DictEntry}{ckvs:List (Str×Value)}{x:Str}{t:Tok}{c:Value}(hk:KeysOf (strKind prog w) es.toArray)(hp:Pairs (strKind prog w) es ckvs)(hn:(ckvs.map (·.1)).Nodup):
  KeysOf (strKind prog w) (putL x (PyData.keyHash w.params x) (.str x t) c es).toArray/\Pairs (strKind prog w) (putL x (PyData.keyHash w.params x) (.str x t) c es) (stored ckvs x c)/\((stored ckvs x c).map (·.1)).Nodup/\(es.any (·.key.isStr x))=ckvs.any λ kv=>decide (kv.1=x):=by
 have hall:∀e∈es,e.key.isStr x=(strKind prog w).is x e.key:=λ e he=>by
  obtain⟨k,h1,_⟩:=hk e (by simpa using he);exact Xp h1
 have hfi:(es.findIdx? λ e=>e.key.isStr x)=es.findIdx? λ e=>(strKind prog w).is x e.key:=by
  clear hk hp;induction es with
  |nil=>rfl
  |cons a l ih=>
   simp only[List.findIdx?_cons,hall a (.head _),ih λ e he=>hall e (.tail _ he)]
 have hkey:(strKind prog w).is x (.str x t)=true:=strKind_is _ _ _ _;have hidx:(es.findIdx? λ e=>(strKind prog w).is x e.key)=ckvs.findIdx? λ kv=>decide (kv.1=x):=hp.findIdx x
 have hany:=any_of_findIdx x es;rw[hfi]at hany;rw[<-putL_find,hfi];induction hi:es.findIdx? λ e=>(strKind prog w).is x e.key with
 |some i=>
  have ha:=any_of_findIdx_some (hidx▸hi);rw[hi]at hany;dsimp only;refine⟨?_,?_,?_,?_⟩
  ·have:=hk.modify i c;simpa using this
  ·rw[stored,if_pos ha];exact hp.modify hn hi c
  ·rw[stored,if_pos ha,keys_map_store];exact hn
  ·rw[<-hany,ha];rfl
 |none=>
  have hnot:x∉ckvs.map (·.1):=not_mem_of_findIdx_none (hidx▸hi);have hna:¬ (ckvs.any λ kv=>decide (kv.1=x))=true:=by
   rw[List.any_eq_true];rintro⟨kv,hkv,he⟩;exact hnot (List.mem_map.mpr ⟨kv,hkv,of_decide_eq_true he⟩)
  rw[hi]at hany;dsimp only;refine⟨?_,?_,?_,?_⟩
  ·have:=hk.push hkey c;have eh:PyData.keyHash w.params x=(strKind prog w).hash x:=rfl;rw[eh];simpa using this
  ·rw[stored,if_neg hna];exact hp.append hkey _ c
  ·rw[stored,if_neg hna,List.map_append,List.nodup_append];refine⟨hn,by simp,?_⟩;intro a ha b hb;rw[List.map_cons,List.map_nil,List.mem_singleton]at hb;clear hall hfi hkey hidx hany hi hna;subst hb;exact λ e=>hnot (e▸ha)
  ·rw[<-hany,Bool.eq_false_iff.mpr hna];rfl
theorem Xr(x:Str)(hsh:Int)(k c:Value):∀es:List DictEntry,(putL x hsh k c es).length<=es.length+1:=by
 intro es;induction es with
 |nil=>exact Nat.le_refl 1
 |cons e r ih=>
  dsimp only[putL];split
  ·simp
  ·have:=ih;simp;assumption
theorem Tv{sl:Array (Option Value)}{fs:List (Option V)}{k:Nat}{u:V}{d:Value}(hsl:∀(j:Nat) (v:Option V),fs[j]?=some v->zN ρ v (sl[j]?).join)(hlt:k < fs.length)(hu:VR ρ u d){j:Nat}{v:Option V}(e:(fs.set k (some u))[j]?=some v):
  zN ρ v (((sl++Array.replicate (k+1 - sl.size) none).setIfInBounds k (some d))[j]?).join:=by
 by_cases hj:j=k
 ·subst hj;rw[List.getElem?_set_self hlt]at e;cases e;refine⟨d,?_,hu⟩;rw[Array.getElem?_setIfInBounds_self_of_lt (by simp;omega)];rfl
 ·rw[List.getElem?_set_ne (λ q=>hj q.symm)]at e;have:=hsl j v e;rw[Array.getElem?_setIfInBounds_ne (λ q=>hj q.symm)];have hjoin:((sl++Array.replicate (k+1 - sl.size) none)[j]?).join=(sl[j]?).join:=by
   by_cases hjs:j < sl.size
   ·rw[Array.getElem?_append_left hjs]
   ·rw[Array.getElem?_append_right (by lia),Array.getElem?_eq_none (xs:=sl) (by lia),Array.getElem?_replicate];split<;>rfl
  rw[hjoin];exact this
theorem G5(W:Wf C)(R:C.Rep ρ s.heap Y){i:Nat}{c d:Value}{x:Str}{u:V}(hv:VR ρ (.ref i) c)(hu:VR ρ u d):C.Snd A (setAttr c x d) ρ (aX (.ref i) x u Y) jH s:=by
 obtain⟨a,ha,rfl⟩:=hv;obtain⟨K,X0,hK⟩:=W.ko;have S:=R6.split hK;have X:K.In s.heap:=X0.keeps λ b o e=>Mine.Rep.keep R b o e
 refine(Cx.Snd.onS λ o e1=>?_:C.Snd A _ ρ (onS (Y.sto[i]?) (I8 i x u Y)) jH s);induction o with
 |inst di=>
  refine .grd λ hf=>.onS λ p e2=>.grd λ hs=>kZ λ hkd=>λ _=>?_
  obtain⟨kvs,ep⟩:=p;obtain⟨dx,es,ckvs,h1,I,h3,h4,h5,h6⟩:=G4 R e1 ha (ig e2);have T:=dG S.c1;obtain⟨k1,k2,k3,k4⟩:=Xq (w:=C.w) (prog:=C.prog) (x:=x) (t:=s.toks+1) (c:=d) h3 h4 h5;have hfo:=S.field x hf;unfold yR at hfo;simp only[Bool.and_eq_true,beq_iff_eq]at hfo;obtain⟨q1,q2⟩:=zP h6 (x:=x) hu;have hlen:es.length < 100:=by
   rw[h4.length,<-h6.length];exact of_decide_eq_true hs
  refine Xo X I rfl T.set T.over hfo.2 S.dict (by rw[Ac h3 h4 x ep];rfl) (Nat.le_trans (Xr ..) (Nat.le_trans (Nat.succ_le_succ (Nat.le_of_lt hlen)) (by decide))) λ h' hs' hd'=>?_
  refine Cx.ret0 (R.upd hkd h1 hs' hd' ⟨_,stored ckvs x d,?_,k1,k2,k3,q1⟩) trivial;unfold putN;rw[k4,q2]
 |node di fs=>
  refine .onS λ k hk=>.grd λ hlt=>kZ λ hki=>λ _=>?_
  replace hlt:=of_decide_eq_true hlt;obtain⟨p,hp⟩:=Ad hk;obtain⟨q1,q2,q3,q4,q5,q6⟩:=uf (S.slot _ hp);obtain⟨co,h1,hlen,dx,sl,hdx,rfl,hsl⟩:=R.objs _ _ _ e1 ha;obtain⟨cod,hcod⟩:=DQ R hdx;have T:=dG S.c2;have I:InstAt s.heap a {cls:=.ref 40,dict:=some dx,data:=.plain,slots:=sl} 40 (some cod):=⟨h1,rfl,rfl,hcod⟩;refine Nt X I T.set T.over q5 q6 q4 (by rw[hlen]at hlt;exact Nat.lt_of_lt_of_le hlt (by decide)) rfl λ h' hs' hd'=>?_
  refine Cx.ret0 (R.upd hki ha hs' hd' ⟨by rw[List.length_set];exact hlen,dx,_,hdx,rfl,λ j v e=>?_⟩) trivial;exact Tv hsl hlt hu e
 |_=>exact .of_bad
end
section
variable {C:Cx}{A:Around}{ρ:List Addr}{s:Shared}{Y:St}{en:En}{env:Env}
theorem eH{α:Type}:∀{l:List (Str×α)}{x:Str}{y:α},l.lookup x=some y->(x,y)∈l:=by
 intro l;induction l with
 |nil=>exact λ e=>ns e
 |cons p r ih=>
  intro x y e;obtain⟨k,v⟩:=p;dsimp only[List.lookup]at e;induction q:x==k with
  |true=>rw[q]at e;cases e;rw[eq_of_beq q];exact .head _
  |false=>rw[q]at e;exact .tail _ (ih e)
theorem Nv(W:Wf C)(R:C.Rep ρ s.heap Y){v:V}{c:Value}{x:Str}{cal:nq}(pl:Sem Bool)(hv:VR ρ v c)(h:iM v x Y=some cal):C.Snd A (getMethod c x pl) ρ (.ok () Y) (λ _ _ p=>p=(pQ cal,[c])) s:=by
 intro _;have kj:∀cal,C.Ret ρ s (.ok () Y) (λ _ _ p=>p=(pQ cal,[c])) (pQ cal,[c]) s:=λ cal=>⟨(),Y,s.heap,s.toks,[],rfl,rfl,by rw[List.append_nil];exact R,rfl⟩
 refine lU λ G toG=>?_
 induction v with
 |str y=>
  obtain⟨m,hm,rfl⟩:=Option.map_eq_some_iff.mp h;obtain⟨t,rfl⟩:=hv;have all:∀p∈zu,wpAny (model C.prog C.w) A (getMethod (.str y t) p.1 pl) (C.Ret ρ s (.ok () Y) (λ _ _ q=>q=(pQ (.bi p.2),[.str y t]))) (C.Exn ρ s (.ok () Y)) s:=
   List.forall_mem_cons.mpr ⟨GM.join (kj _),List.forall_mem_cons.mpr ⟨GM.split (kj _),List.forall_mem_cons.mpr ⟨GM.startswith (kj _),List.forall_mem_cons.mpr ⟨GM.endswith (kj _),List.forall_mem_cons.mpr ⟨GM.rfind (kj _),List.forall_mem_cons.mpr ⟨GM.rstrip (kj _),List.forall_mem_cons.mpr ⟨GM.lstrip (kj _),nofun⟩⟩⟩⟩⟩⟩⟩
  exact toG (all (x,m) (eH hm))
 |ref i=>
  obtain⟨o,e1,h⟩:=Option.bind_eq_some_iff.mp h;obtain⟨a,ha,rfl⟩:=hv;induction o with
  |list xs=>
   obtain⟨cs,n,h1,h2⟩:=R.list e1 ha;obtain⟨m,hm,rfl⟩:=Option.map_eq_some_iff.mp h;have nd:∀b,Value.ref a=.ref b->∃o,s.heap.get? b=some o/\o.dict=none:=λ b e=>by cases e;exact⟨_,h1,rfl⟩
   have all:∀p∈vI,wpAny (model C.prog C.w) A (getMethod (.ref a) p.1 pl) (C.Ret ρ s (.ok () Y) (λ _ _ q=>q=(pQ (.bi p.2),[.ref a]))) (C.Exn ρ s (.ok () Y)) s:=
    List.forall_mem_cons.mpr ⟨getMethod_builtin ⟨_,h1,rfl⟩ F.plainAttrs_list F.slot_list_append F.type_list_append nd (kj _),List.forall_mem_cons.mpr ⟨getMethod_builtin ⟨_,h1,rfl⟩ F.plainAttrs_list F.slot_list_pop F.type_list_pop nd (kj _),List.forall_mem_cons.mpr ⟨getMethod_builtin ⟨_,h1,rfl⟩ F.plainAttrs_list F.slot_list_clear F.type_list_clear nd (kj _),nofun⟩⟩⟩
   exact toG (all (x,m) (eH hm))
  |dict kvs ep=>
   obtain⟨ckvs,h1,h2⟩:=R.dict e1 ha;obtain⟨m,hm,rfl⟩:=Option.map_eq_some_iff.mp h;have nd:=h1.dictOf.mapOf.noDict;have all:∀p∈vJ,wpAny (model C.prog C.w) A (getMethod (.ref a) p.1 pl) (C.Ret ρ s (.ok () Y) (λ _ _ q=>q=(pQ (.bi p.2),[.ref a]))) (C.Exn ρ s (.ok () Y)) s:=
    List.forall_mem_cons.mpr ⟨getMethod_builtin h1.dictOf.typeIs F.plainAttrs_dict F.slot_dict_get F.type_dict_get nd (kj _),List.forall_mem_cons.mpr ⟨getMethod_builtin h1.dictOf.typeIs F.plainAttrs_dict F.slot_dict_values F.type_dict_values nd (kj _),nofun⟩⟩
   exact toG (all (x,m) (eH hm))
  |set xs=>
   obtain⟨co,h1,h2⟩:=R.objs _ _ _ e1 ha;obtain⟨m,hm,rfl⟩:=Option.map_eq_some_iff.mp h;obtain⟨hex,_⟩:=h2;have all:∀p∈zx,wpAny (model C.prog C.w) A (getMethod (.ref a) p.1 pl) (C.Ret ρ s (.ok () Y) (λ _ _ q=>q=(pQ (.bi p.2),[.ref a]))) (C.Exn ρ s (.ok () Y)) s:=
    List.forall_mem_cons.mpr ⟨getMethod_builtin ⟨_,h1,hex.1⟩ F.plainAttrs_set F.slot_set_add F.type_set_add (λ b e=>by cases e;exact⟨_,h1,hex.2.1⟩) (kj _),nofun⟩
   exact toG (all (x,m) (eH hm))
  |inst d=>
   obtain⟨p,e2,h⟩:=Option.bind_eq_some_iff.mp h;obtain⟨kvs,ep⟩:=p;replace e2:=ig e2;induction hall:kvs.all (λ p=>bT.contains p.1)with
   |false=>exact ns ((if_neg (show ¬ kvs.all (λ p=>bT.contains p.1)=true by rw[hall];exact Bool.false_ne_true)).symm.trans h)
   |true=>
   obtain⟨f,hm,rfl⟩:=Option.map_eq_some_iff.mp ((if_pos hall).symm.trans h);obtain⟨K,X0,hK⟩:=W.ko;have S:=R6.split hK;have X:K.In s.heap:=X0.keeps λ b o e=>Mine.Rep.keep R b o e
   obtain⟨dx,es,ckvs,h1,I,h3,h4,h5,h6⟩:=G4 R e1 ha e2;have T:=dG S.c1;obtain⟨g1,g2⟩:=Nu T.get;have hmem:=eH hm;have hmo:=S.meth _ hmem;unfold Mx at hmo;simp only[Bool.and_eq_true,beq_iff_eq]at hmo;refine toG (method_fn X I g1 g2 hmo.1 (beq_iff_eq.mp hmo.2) ?_ (kj _));unfold shadowIn;dsimp only;rw[show lookIn x (dictOf es ep)=some (valueAt ckvs x)from Ac h3 h4 x ep];have hno:kvs.lookup x=none:=by
    induction q:kvs.lookup x with
    |none=>rfl
    |some u=>
     exfalso
     have hk:=eH q;have hf:bT.contains x=true:=List.all_eq_true.mp hall _ hk;have:∀p∈qt,bT.contains p.1=false:=by decide
     rw[this _ hmem]at hf;cases hf
   have:=iY h6 x;rw[hno]at this;rw[this];rfl
  |_=>exact ns h
 |_=>exact ns h
set_option tactic.hygienic true in
theorem QZ(W:Wf C)(R:C.Rep ρ s.heap Y){a:Nat}(h:a=137\/a=40\/∃f,jG a=some f):xR C (.ref a) s.heap:=by
 obtain⟨K,X0,hK⟩:=W.ko;have S:=R6.split hK;refine keeps_K ?_ s.heap (X0.keeps λ b o e=>Mine.Rep.keep R b o e);rcases h with rfl|rfl|⟨f,hf⟩
 ·exact(dG S.c1).keep
 ·exact(dG S.c2).keep
 ·unfold jG at hf;split at hf
  ·rename_i i e
   have:(a,i)∈zG:=by
    have:∀{l:List (Nat×Nat)},l.lookup a=some i->(a,i)∈l:=by
     intro l;induction l with
     |nil=>intro e;contradiction
     |cons p r ih=>
      obtain⟨k,v⟩:=p;intro e;simp only[List.lookup]at e;induction q:a==k with
      |true=>rw[q]at e;cases e;rw[eq_of_beq q];exact .head _
      |false=>rw[q]at e;exact .tail _ (ih e)
    exact this e
   exact S.top _ this
  ·split at hf
   ·rename_i i j e
    have:∀{l:List (Nat×Nat×Nat)},l.lookup a=some (i,j)->(a,i,j)∈l:=by
     intro l;induction l with
     |nil=>intro e;contradiction
     |cons p r ih=>
      obtain⟨k,v⟩:=p;intro e;simp only[List.lookup]at e;induction q:a==k with
      |true=>rw[q]at e;cases e;rw[eq_of_beq q];exact .head _
      |false=>rw[q]at e;exact .tail _ (ih e)
    exact S.mth _ (this e)
   ·first|exact ns hf|exact jz hf|cases hf
end
section
variable {C:Cx}{A:Around}{ρ:List Addr}{s:Shared}{Y:St}{en:En}{env:Env}
theorem abU(R:C.Rep ρ s.heap Y){i:Int}{c:Value}(h:VR ρ (.int i) c):C.Snd A (call (.builtin "abs") [c]) ρ (.ok (.int (if i < 0 then -i else i)) Y) VR s:=by
 obtain⟨t,rfl⟩:=h;exact λ _=>call_abs_int λ u tk=>Cx.ret0 R ⟨u,rfl⟩
theorem Nx(R:C.Rep ρ s.heap Y){x:Str}{c:Value}(h:VR ρ (.str x) c)(hs:small x.length=true):C.Snd A (call (.builtin "len") [c]) ρ (.ok (.int x.length) Y) VR s:=by
 obtain⟨t,rfl⟩:=h;have:=dJ hs;exact λ _=>P.len_str (by lia) (Cx.ret0 R ⟨_,rfl⟩)
theorem JS(R:C.Rep ρ s.heap Y){l:Nat}{xs:List V}{c:Value}(h:VR ρ (.ref l) c)(e:Y.sto[l]?=some (.list xs))(hs:small xs.length=true):C.Snd A (call (.builtin "len") [c]) ρ (.ok (.int xs.length) Y) VR s:=by
 obtain⟨a,ha,rfl⟩:=h;obtain⟨cs,n,h1,h2⟩:=R.list e ha;have hz:=cg h2;exact λ _=>call_len_list h1.isList (by rw[hz];exact qx hs) (Cx.ret0 R ⟨_,by rw[hz]⟩)
theorem Ny(R:C.Rep ρ s.heap Y){l:Nat}{xs:List V}{c:Value}(h:VR ρ (.ref l) c)(e:Y.sto[l]?=some (.tup xs))(hs:small xs.length=true):C.Snd A (call (.builtin "len") [c]) ρ (.ok (.int xs.length) Y) VR s:=by
 obtain⟨a,ha,rfl⟩:=h;obtain⟨cs,n,h1,h2⟩:=R.tup e ha;have hz:=cg h2;exact λ _=>len_tuple ⟨_,h1,rfl,_,rfl⟩ (by rw[hz];exact qx hs) (Cx.ret0 R ⟨_,by rw[hz]⟩)
theorem Tw(R:C.Rep ρ s.heap Y){n:Int}{c:Value}(h:VR ρ (.int n) c)(h0:0<=n)(h1:n<=1000):C.Snd A (call (.type "range") [c]) ρ (Y.new (.rng n)) VR s:=by
 obtain⟨t,rfl⟩:=h;exact λ _=>call_range_1 (Cx.ret1 (R.new1 (o:=.rng n) rfl ⟨_,_,_,rfl,h0,h1⟩) (lB R.lenEq))
theorem Ae(R:C.Rep ρ s.heap Y){x:Str}{c:Value}(h:VR ρ (.str x) c):C.Snd A (call (.builtin "isinstance") [c,.type "bytes"]) ρ (.ok (.bool false) Y) VR s:=by
 obtain⟨t,rfl⟩:=h;exact λ _=>call_isinstance (isinstance_false_str (by decide+kernel) F.isi_meta_bytes F.sub_str_bytes) (Cx.ret0 R rfl)
theorem JT(R:C.Rep ρ s.heap Y){l:Nat}{xs:List V}{c:Value}(h:VR ρ (.ref l) c)(e:Y.sto[l]?=some (.list xs))(hs:small xs.length=true):C.Snd A (call (.type "tuple") [c]) ρ (Y.new (.tup xs)) VR s:=by
 obtain⟨a,ha,rfl⟩:=h;obtain⟨cs,n,h1,h2⟩:=R.list e ha;refine λ _=>call_tuple_list h1.isList (λ h' hk=>?_) (by rw[cg h2];exact cF hs)
 exact Cx.ret1 (Cx.Rep.new1 (s:={s with heap:=h'}) (R.junk hk) (o:=.tup xs) rfl ⟨cs,0,rfl,h2.mono λ _ _=>VR.mono⟩) (lB R.lenEq)
theorem Xu(R:C.Rep ρ s.heap Y):C.Snd A (call (.type "set") []) ρ (Y.new (.set [])) VR s:=
 λ _=>call_set_0 λ led=>Cx.ret1 (R.new1 (o:=.set []) rfl (setObjOf_fresh led)) (lB R.lenEq)
end
section
variable {C:Cx}{A:Around}{ρ:List Addr}{s:Shared}{Y:St}{en:En}{env:Env}
noncomputable def aeo:Bi->String
 |.str=>"str"|.list=>"list"|.tuple=>"tuple"|_=>""
set_option tactic.hygienic true in
theorem yd(R:C.Rep ρ s.heap Y){v:V}{c:Value}(h:VR ρ v c){b:Bi}(e:CZ v Y=some b):s.TypeIs c (aeo b)/\(b=.str\/b=.list\/b=.tuple):=by
 induction v with
 |str x=>
  obtain⟨t,rfl⟩:=h;cases e;exact⟨rfl,.inl rfl⟩
 |ref i=>
  obtain⟨a,ha,rfl⟩:=h;obtain⟨o,e',e⟩:=Option.bind_eq_some_iff.mp (show Y.get i ac3=some b from e);induction o with
  |list xs=>
   cases e;obtain⟨cs,n,h1,h2⟩:=R.list e' ha;exact⟨⟨_,h1,rfl⟩,.inr (.inl rfl)⟩
  |tup xs=>
   cases e;obtain⟨cs,n,h1,h2⟩:=R.tup e' ha;exact⟨⟨_,h1,rfl⟩,.inr (.inr rfl)⟩
  |_=>exact ns e
 |_=>exact ns e
theorem Nz(R:C.Rep ρ s.heap Y){v:V}{c:Value}(h:VR ρ v c){b:Bi}(e:CZ v Y=some b):C.Snd A (call (.type "type") [c]) ρ (.ok (.bi b) Y) VR s:=by
 obtain⟨h1,h2⟩:=yd R h e;clear e;rcases h2 with rfl|rfl|rfl
 ·exact λ _=>call_type_of h1 (by decide+kernel) (Cx.ret0 R rfl)
 ·exact λ _=>call_type_of h1 (by decide+kernel) (Cx.ret0 R rfl)
 ·exact λ _=>call_type_of h1 (by decide+kernel) (Cx.ret0 R rfl)
theorem Xv(R:C.Rep ρ s.heap Y){i j:Int}{c c':Value}(h:VR ρ (.int i) c)(h':VR ρ (.int j) c')(hh:A.handled=none):C.Snd A (call (.builtin "min") [c,c']) ρ (.ok (.int (if j < i then j else i)) Y) VR s:=by
 obtain⟨t,rfl⟩:=h;obtain⟨u,rfl⟩:=h';refine λ _=>min_two_ints hh λ h1 tk hk=>Cx.ret0 (R.junk hk) ?_
 by_cases q:j < i
 ·rw[if_pos q,if_pos q];exact⟨_,rfl⟩
 ·rw[if_neg q,if_neg q];exact⟨_,rfl⟩
end
section
variable {C:Cx}{A:Around}{ρ:List Addr}{s:Shared}{Y:St}{en:En}{env:Env}
theorem Xx(R:C.Rep ρ s.heap Y){l:Nat}{xs:List V}{c:Value}(h:VR ρ (.ref l) c)(e:Y.sto[l]?=some (.list xs)):
  C.Snd A (call (.type "enumerate") [c]) ρ (({Y with sto:=Y.sto++[.eit l 0]}:St).new (.enum Y.sto.length 0)) VR s:=by
 obtain⟨a,ha,rfl⟩:=h;obtain⟨cs,n,h1,h2⟩:=R.list e ha;have n0:s.heap.get? s.heap.objs.size=none:=Heap.get?_none_of_le (Nat.le_refl _);have n1:s.heap.get? (s.heap.objs.size+1)=none:=Heap.get?_none_of_le (Nat.le_succ _);refine λ _=>call_enumerate_list h1.isList λ h' he hi hz hk=>?_
 obtain⟨oi,g1,g2,g3⟩:=hi;have k0n:∀b,s.heap.get? b=none->C.h₀.get? b=none:=λ b q=>by
  induction w:C.h₀.get? b with
  |none=>rfl
  |some o=>rw[Mine.Rep.keep R _ _ w]at q;contradiction
 have hl:ρ.length=Y.sto.length:=R.lenEq;have R3:C.Rep (ρ++[s.heap.objs.size,s.heap.objs.size+1]) h' {Y with sto:=Y.sto++[.eit l 0]++[.enum Y.sto.length 0]}:=by
  have:=(Rep.add (Rep.add (R.junk hk) (a:=s.heap.objs.size) (o:=.eit l 0) g1 (cW.new R n0) (k0n _ n0) ⟨a,aH ha,g2,g3⟩) (a:=s.heap.objs.size+1) (o:=.enum Y.sto.length 0) he (cW.add (cW.new R n1) (Nat.succ_ne_self _)) (k0n _ n1) ⟨s.heap.objs.size,.none,by rw[<-hl];simp,rfl⟩);rw[List.append_assoc]at this;exact this
 refine Cx.ret1 R3 ⟨_,?_,rfl⟩;simp[<-hl]
end
section
variable {C:Cx}{A:Around}{ρ:List Addr}{s:Shared}{Y:St}{en:En}{env:Env}
theorem Cv(R:C.Rep ρ s.heap Y){v:V}{c ct:Value}{t:Nat}(h:VR ρ v c)(e:CZ v Y=some .list)(ht:VR ρ (.ref t) ct)(et:Y.sto[t]?=some (.tup [.bi .list,.bi .tuple])):
  C.Snd A (call (.builtin "isinstance") [c,ct]) ρ (.ok (.bool true) Y) VR s:=by
 obtain⟨h1,-⟩:=yd R h e;obtain⟨a,ha,rfl⟩:=ht;obtain⟨cs,n,g1,g2⟩:=R.tup et ha;obtain rfl:n=0:=Subsingleton.elim _ _;obtain⟨_,_,ec,u1,u2⟩:=g2.two;rw[u1,u2]at ec;cases vN ec;have hc:∃b,c=.ref b:=by
  clear h1;induction v with
  |ref i=>obtain⟨b,_,rfl⟩:=h;exact⟨b,rfl⟩
  |_=>first|exact ns e|exact jz e|cases e
 clear h;obtain⟨b,rfl⟩:=hc;have ans:AnswersAll (λ s=>s.TypeIs (.ref b) "list") (.ref b) [.type "list",.type "tuple"] [true,false]:=
  .cons (Answers.of_true F.isi_meta_list F.sub_list_list) (.cons (Answers.of_false_list (by decide+kernel) F.isi_meta_tuple F.sub_list_tuple) .nil)
 exact λ _=>call_isinstance (isinstance_tuple ans) ⟨h1,g1,λ tk=>Cx.ret0 R rfl⟩
theorem Xy(R:C.Rep ρ s.heap Y){l:Nat}{xs:List V}{c:Value}(h:VR ρ (.ref l) c)(e:Y.sto[l]?=some (.list xs)):
  C.Snd A (call (.builtin "iter") [c]) ρ (Y.new (.liter l 0)) VR s:=by
 obtain⟨a,ha,rfl⟩:=h;obtain⟨cs,n,h1,h2⟩:=R.list e ha;intro hb;refine call_function_entry (by decide+kernel) (by decide+kernel) (b:=Builtin.«iter») (entryFor_of_tree (by kernel_rfl)) (by unfold argsOk;kernel_rfl) ?_;show wpAny _ _ (pyIter (.ref a) >>= _) _ _ _;refine wpAny_bind (wpAny_pyIter_list h1.isList ?_);exact wpAny_pure ⟨_,rfl,Cx.ret1 (R.new1 (o:=.liter l 0) rfl ⟨a,aH ha,rfl,rfl,rfl⟩) (lB R.lenEq)⟩
end
section
variable {C:Cx}{A:Around}{ρ:List Addr}{s:Shared}{Y:St}{en:En}{env:Env}
theorem yD(l:Addr)(items:Array Value)(hfit:items.size<=1000000):
  Meets (Builtin.«bool.__new__» ⟨[.type "bool",.ref l],[]⟩) (λ _ R s=>s.heap.IsList l items/\R (.ok (.ret (.bool !items.isEmpty))) {s with toks:=s.toks+1+1}):=
 Meets.of_wp λ prog w A R s hs=>by
  obtain⟨h1,h2⟩:=hs;have f1:=F.conv_sub_bool;repeat (any_goals (first|assumption|(with_reducible refine wpAny_truthy_list h1 (by lia) ?_)|wp_step))
  all_goals first|exact⟨_,rfl,h2⟩|exact h2|skip
theorem G6(R:C.Rep ρ s.heap Y){l:Nat}{xs:List V}{c:Value}(h:VR ρ (.ref l) c)(e:Y.sto[l]?=some (.list xs))(hs:small xs.length=true):
  C.Snd A (call (.type "bool") [c]) ρ (.ok (.bool (!xs.isEmpty)) Y) VR s:=by
 obtain⟨a,ha,rfl⟩:=h;obtain⟨cs,n,h1,h2⟩:=R.list e ha;have hz:=cg h2;have hq:=dJ hs;refine λ _=>call_bool_1 (yD a cs (by lia)) ⟨h1.isList,rfl,Cx.ret0 R ?_⟩
 show Value.bool _=Value.bool _;induction xs with
 |nil=>simp[Array.isEmpty,hz]
 |cons x r=>simp[Array.isEmpty,hz]
end
end Mine
namespace Mine
open PySem PySem.W PySem.Calls PyProof.Rows
theorem nM:builtinKind "issubclass.nested"=none:=by decide+kernel
theorem mz:plainId "issubclass.nested"=true:=by decide+kernel
theorem lF(a b c:Value):argsOk "issubclass.nested" ⟨[a,b,c],[]⟩:=by unfold argsOk;kernel_rfl
theorem yE(dep:Int)(tk:Tok):Meets (Builtin.«issubclass.nested» ⟨[.type "str",.type "str",.int dep tk],[]⟩) (λ _ R s=>R (.ok (.ret (.bool true))) s):=
 Meets.of_wp λ prog w A R s hs=>by
  have hm:=F.isi_meta_str;repeat (any_goals (first|assumption|(rw[F.sub_str_str])|wp_step))
  all_goals first|exact⟨_,rfl,hs⟩|exact hs|skip
theorem JV{prog:Program}{w:World}{A:Around}{E:Value->Shared->Prop}{tp:Addr}{cs:List Value}{c:Value}{tk:Tok}{s:Shared}{Q:Fin->Shared->Prop}(hcs:cs=[.type "str",c])(htp:s.heap.get? tp=some {cls:=.type "tuple",data:=.seq cs.toArray})
  (hq:Q (.done (.ret (.bool true))) s):wpAny (model prog w) A (Builtin.«issubclass.nested» ⟨[.type "str",.ref tp,.int 0 tk],[]⟩) Q E s:=by
 obtain⟨h,g,d,t,os⟩:=s;have hT2:(⟨h,g,d,t,os⟩:Shared).TypeIs (.ref tp) "tuple":=⟨_,htp,rfl⟩;have f1:=F.isi_sub_tuple;repeat (any_goals (first|assumption|wp_step))
 refine wpAny_arrayLoop ?_;dsimp only[Option.getD_some];clear htp;subst hcs;rw[List.forIn_cons];refine wpAny_bind (wpAny_bind (call_function_meets nM mz F.entry_issubclass_nested (lF _ _ _) (yE _ _) ?_));refine wpAny_bind (wpAny_pure (wpAny_pure (wpAny_pure ?_)));repeat (any_goals (first|assumption|wp_step))
end Mine
namespace Mine
open PySem PySem.W PySem.Calls PyProof.Rows
section
variable {C:Cx}{A:Around}{ρ:List Addr}{s:Shared}{Y:St}
theorem wg(tp:Addr)(c:Value):Meets (Builtin.«issubclass» ⟨[.type "str",.ref tp],[]⟩) (λ _ R s=>s.heap.get? tp=some {cls:=.type "tuple",data:=.seq #[.type "str",c]}/\R (.ok (.ret (.bool true))) s):=
 λ _ _ _ _ _ hs=>issubclass_outer (JV rfl hs.1 hs.2)
theorem Tz(R:C.Rep ρ s.heap Y){ct:Value}{t:Nat}(ht:VR ρ (.ref t) ct)(et:Y.sto[t]?=some (.tup [.bi .str,.bi .bytes])):
  C.Snd A (call (.builtin "issubclass") [.type "str",ct]) ρ (.ok (.bool true) Y) VR s:=by
 obtain⟨a,ha,rfl⟩:=ht;obtain⟨cs,n,g1,g2⟩:=R.tup et ha;obtain rfl:n=0:=Subsingleton.elim _ _;obtain⟨_,_,ec,u1,u2⟩:=g2.two;rw[u1]at ec;cases vN ec;exact λ _=>call_issubclass (wg a _) ⟨g1,Cx.ret0 R rfl⟩
end
end Mine
namespace Mine
open PySem PySem.W PySem.Calls PyProof.Rows PySem.Spec
theorem JW:∀{r:List Str}{p:Str},risingS p r=true->(∀a∈r,kW p a=true)/\r.Pairwise λ a b=>kW a b=true:=by
 intro r;induction r with
 |nil=>exact λ _=>⟨nofun,.nil⟩
 |cons x r ih=>
  intro p h;have h:(!ltCps x.cps.toList p.cps.toList&&risingS x r)=true:=h;rw[Bool.and_eq_true,ltCps_eq]at h;obtain⟨h1,h2⟩:=ih h.2;have hp:kW p x=true:=h.1;refine⟨λ a ha=>?_,.cons h1 h2⟩;rcases List.mem_cons.mp ha with rfl|ha
  ·exact hp
  ·exact xQ _ _ _ hp (h1 a ha)
theorem Af{xs ys:List Str}(hp:ys.Perm xs)(hs:sortedS ys=true):ys=cC xs:=by
 refine tU hp ?_;induction ys with
 |nil=>exact .nil
 |cons x r=>obtain⟨h1,h2⟩:=JW (show risingS x r=true from hs);exact .cons h1 h2
section
variable {prog:Program}{w:World}{A:Around}{E:Value->Shared->Prop}{s:Shared}
theorem ug{x:Value}{ss:List Str}{Q:Value->Shared->Prop}
  (hcol:∀{Q:List Value->Shared->Prop} {E},(∀h' tk vs,Sub s.heap h'->StrsAre vs ss->Q vs {s with heap:=h',toks:=tk})->wpAny (model prog w) A.in1 (collect x) Q E s) (h64:ss.length < 64)
  (h:∀h' h'' tk out e,Sub s.heap h'->Sub h' h''->h'.get? h'.objs.size=none->h''.get? h'.objs.size=some (seqObj "list" out e)->StrsAre out.toList (cC ss)->Q (.ref h'.objs.size) {s with heap:=h'',toks:=tk}):
  wpAny (model prog w) A (call (.builtin "sorted") [x]) Q E s:=by
 refine Calls.call_function_entry kind_sorted plain_sorted entry_sorted (args_sorted1 _) ?_;refine wpAny_bind (m:=checkCount "sorted" 1 1 _) (wpAny_pure ?_);refine wpAny_bind (hcol λ h' tk vs hk hS=>?_);have hl:vs.length=ss.length:=by rw[<-hS.strs,List.length_map]
 refine wpAny_bind (wpAny_newList ?_ (by rw[sizeLine_eq];lia));have hoL:(h'.push (seqObj "list" vs.toArray 0)).get? h'.objs.size=some (seqObj "list" vs.toArray 0):=Heap.get?_push_size _ rfl;refine wpAny_bind (wpAny_holding (wpAny_call_entry slot_list_sort ⟨_,hoL,rfl⟩ entry_list_sort
  (list_sort_treeK strKind_oneLt hoL hS.keysOf (λ v1 v2 rest e=>keyKind_strs (by rw[<-e];exact hS)) (by lia) λ st' a1 a2=>⟨_,rfl,?_⟩) (args_list_sort _)))
 obtain⟨ss',h1,h2,h3⟩:=sorted_out_str hS a1 a2;obtain rfl:=Af h2 h3;obtain⟨e,he⟩:=sortedHeap_at (out:=(arrOf st').map (·.2)) hoL;refine wpAny_pure ⟨_,rfl,h h' _ tk _ e hk (λ b o q=>?_) (Heap.get?_none_of_le (Nat.le_refl _)) he h1⟩;have hb:b < h'.objs.size:=Heap.lt_size q;rw[sortedHeap_old (Nat.ne_of_lt hb) (by rw[size_push'];exact Nat.lt_succ_of_lt hb)];exact Heap.get?_push_of_some _ q
end
section
variable {C:Cx}{A:Around}{ρ:List Addr}{s:Shared}{Y:St}{en:En}{env:Env}
theorem Ag:∀{ss:List Str}{vs:List Value},StrsAre vs ss->aU (VR ρ) (ss.map V.str) vs
 |_,_,.nil=>.nil
 |_,_,.cons x t h=>.cons ⟨t,rfl⟩ (Ag h)
set_option tactic.hygienic true in
theorem nO:∀{xs:List V}{ss:List Str}{vs:List Value},dW xs=some ss->aU (VR ρ) xs vs->StrsAre vs ss
 |[],ss,_,e,.nil=>by cases e;exact .nil
 |x::r,ss,_,e,.cons h1 h2=>by
  induction x<;>first|exact ns e|exact jz e|(induction e;done)|skip
  rename_i t
  obtain⟨y,hy,rfl⟩:=Option.map_eq_some_iff.mp (show(dW r).map (t::·)=some ss from e);obtain⟨u,rfl⟩:=h1;exact .cons t u (nO hy h2)
theorem Ah(R:C.Rep ρ s.heap Y){ss:List Str}{h' h'':Heap}{tk e:Nat}{out:Array Value}(k1:Sub s.heap h')(k2:Sub h' h'')(n:h'.get? h'.objs.size=none)(e1:h''.get? h'.objs.size=some (seqObj "list" out e))(e2:StrsAre out.toList (cC ss)):
  C.Ret ρ s (Y.new (.list ((cC ss).map .str))) VR (.ref h'.objs.size) {s with heap:=h'',toks:=tk}:=by
 exact Cx.ret1 (Rep.new (R.junk k1) k2 n e1 ⟨_,_,rfl,Ag e2⟩) (lB R.lenEq)
theorem Cw(R:C.Rep ρ s.heap Y){l:Nat}{xs:List V}{ss:List Str}{c:Value}(h:VR ρ (.ref l) c)(e:Y.sto[l]?=some (.tup xs))(hs:dW xs=some ss)(h64:ss.length < 64):
  C.Snd A (call (.builtin "sorted") [c]) ρ (Y.new (.list ((cC ss).map .str))) VR s:=by
 obtain⟨a,ha,rfl⟩:=h;obtain⟨cs,n,h1,h2⟩:=R.tup e ha;have hS:=nO hs h2;exact λ _=>ug (λ hQ=>wpAny_collect_seq (hsz:=by rw[(by rw[<-hS.strs,List.length_map,Array.length_toList]:cs.size=ss.length),sizeLine_eq];lia) a (.inr rfl) h1 rfl rfl λ h' hk=>hQ h' s.toks _ hk hS) h64 λ h' h'' tk out e k1 k2 n e1 e2=>Ah R k1 k2 n e1 e2
set_option tactic.hygienic true in
theorem Ai(R:C.Rep ρ s.heap Y)(hA:A.handled=none){l:Nat}{kvs:List (Str×V)}{ep:Nat}{c:Value}(h:VR ρ (.ref l) c)(e:Y.sto[l]?=some (.dict kvs ep))(h64:kvs.length < 64):
  C.Snd A (call (.builtin "sorted") [c]) ρ (Y.new (.list ((cC (kvs.map (·.1))).map .str))) VR s:=by
 obtain⟨a,ha,rfl⟩:=h;obtain⟨ckvs,h1,h2⟩:=R.dict e ha;have hl:=eY h2;refine λ _=>ug (λ{Q E} hQ=>kdu_collect (A:=A.in1) (kdl_dict (Mine.Rep.sys R _ (List.mem_of_getElem? ha))) hA h1 (by rw[hl,sizeLine_eq];lia) λ h' tk acc hk hacc=>hQ h' tk _ hk ?_) (by rw[List.length_map];exact h64) λ h' h'' tk out e k1 k2 n e1 e2=>Ah R k1 k2 n e1 e2
 have:∀{kvs:List (Str×V)}{ckvs:List (Str×Value)}{acc:List Value},aU (Di ρ) kvs ckvs->acc.length=ckvs.length->(∀(j:Nat) (v:Value),acc[j]?=some v->∃k x,ckvs[j]?=some (k,x)/\(strKind C.prog C.w).is k v=true)->StrsAre acc (kvs.map (·.1)):=by
  intro kvs ckvs acc h;induction h generalizing acc with
  |nil=>intro hl _;cases acc with
   |nil=>exact .nil
   |cons=>first|exact ns hl|exact jz hl|contradiction
  |cons h1 h2 ih=>
   intro hl hj;cases acc with
   |nil=>first|exact ns hl|exact jz hl|contradiction
   |cons v acc=>
    obtain⟨k,x,g1,g2⟩:=hj 0 v rfl;cases g1;obtain⟨t,rfl⟩:=Value.isStrOf_shape g2;rw[List.map_cons,h1.1];exact .cons _ _ (ih (by simpa using hl) λ j v e=>hj (j+1) v e)
 exact this h2 (by rw[Array.length_toList];exact hacc.1) λ j v e=>hacc.2 j v (by rw[<-Array.getElem?_toList];exact e)
end
end Mine
namespace Mine
open PySem PySem.W PySem.Calls PyProof.Rows PySem.Spec
section
open AutoSeq1 (wpAny_loadPart')
open MeetsSeq MeetsSeq2 MeetsSeq3 PySem.SeqAt
noncomputable def JX(gt:Bool):CmpOp:=if gt then .Gt else .Lt
noncomputable def wi(gt:Bool)(x y:List Str):Bool:=if gt then bI y x else bI x y
theorem pZ:∀{vs:List Value}{ss:List Str}(_:StrsAre vs ss) (i:Nat),vs[i]?=none/\ss[i]?=none\/∃x t,vs[i]?=some (.str x t)/\ss[i]?=some x
 |_,_,.nil,i=>.inl ⟨rfl,rfl⟩
 |_,_,.cons x t h,0=>.inr ⟨x,t,rfl,rfl⟩
 |_,_,.cons x t h,i+1=>pZ h i
theorem abV(gt:Bool){prog:Program}{w:World}{A:Around}{E:Value->Shared->Prop}{s:Shared}{x y:Str}{t u:Tok}{Q:Value->Shared->Prop}(h:Q (.bool (if gt then iW y x else iW x y)) s):
  wpAny (model prog w) A (richCompare (JX gt) (.str x t) (.str y u)) Q E s:=by
 induction gt
 ·exact P.lt_str (by simpa [iW]using h)
 ·exact P.gt_str (by simpa [iW]using h)
noncomputable def JZ(gt:Bool)(m n:Nat):Value:=.bool (if gt then decide (m > n)else decide (m < n))
noncomputable def abW(gt:Bool)(l b:Value)(i:Int):Sem Fin:=do
 let xs <-Builtin.List.listItems l
 let ys <-Builtin.List.listItems b
 match xs[i.toNat]?,ys[i.toNat]? with
 |some x,some y=>do
  if <-eqBool x y then return <-again (.builtin "list.__eq__.loop" ⟨[l,b,rawInt (i+1),rawInt (if gt then 4 else 0)],[]⟩)
  let xs <-Builtin.List.listItems l
  let ys <-Builtin.List.listItems b
  match xs[i.toNat]?,ys[i.toNat]? with
  |some x,some y=>ret (<-richCompare (JX gt) x y)
  |_,_=>rule "list.compare.shrunk";ret (JZ gt xs.size ys.size)
 |_,_=>do
  let xs <-Builtin.List.listItems l
  let ys <-Builtin.List.listItems b
  ret (JZ gt xs.size ys.size)
theorem iw{α β:Type}(x:Sem α){f g:α->Sem β}(h:∀a,f a=g a):(x >>= f)=(x >>= g):=by rw[show f=g from funext h]
theorem DR(gt:Bool)(l b:Value)(i:Int):Builtin.«list.__eq__.loop» ⟨[l,b,rawInt i,rawInt (if gt then 4 else 0)],[]⟩=abW gt l b i:=by
 induction gt
 all_goals
  refine iw (Builtin.List.listItems l) λ xs=>iw (Builtin.List.listItems b) λ ys=>?_
  induction xs[i.toNat]?<;>induction ys[i.toNat]?<;>first|rfl|skip
  refine iw (eqBool _ _) λ c=>?_
  induction c
  ·refine iw (Builtin.List.listItems l) λ xs=>iw (Builtin.List.listItems b) λ ys=>?_
   induction xs[i.toNat]?<;>induction ys[i.toNat]?<;>rfl
  ·rfl
theorem Xz(gt:Bool)(l b:Addr)(cs cs2:Array Value)(n n2:Nat)(xs ys:List Str)(h1:StrsAre cs.toList xs)(h2:StrsAre cs2.toList ys)(k:Nat):
  ∀i:Nat,xs.length - i=k->i<=xs.length->i<=ys.length->Meets (Builtin.«list.__eq__.loop» ⟨[.ref l,.ref b,rawInt i,rawInt (if gt then 4 else 0)],[]⟩)
   (λ _ R s=>s.heap.get? l=some {cls:=.type "list",dict:=none,data:=.seq cs n,slots:=#[]}/\s.heap.get? b=some {cls:=.type "list",dict:=none,data:=.seq cs2 n2,slots:=#[]}/\
    R (.ok (.ret (.bool (wi gt (xs.drop i) (ys.drop i))))) s):=by
 have z1:cs.size=xs.length:=by rw[<-h1.strs,List.length_map,Array.length_toList]
 have z2:cs2.size=ys.length:=by rw[<-h2.strs,List.length_map,Array.length_toList]
 have ends:∀i,i<=xs.length->i<=ys.length->(xs.drop i=[]\/ys.drop i=[])->wi gt (xs.drop i) (ys.drop i)=if gt then decide (cs.size > cs2.size)else decide (cs.size < cs2.size):=by
  intro i hx hy h;have l1:(xs.drop i).length=xs.length - i:=List.length_drop;have l2:(ys.drop i).length=ys.length - i:=List.length_drop;rw[z1,z2];cases q:xs.drop i<;>cases q':ys.drop i<;>rw[q]at l1<;>rw[q']at l2<;>simp at l1 l2<;>first|(simp_all;done)|(induction gt<;>simp[wi,bI]<;>lia)
 induction k with
 |zero=>
  intro i hk hix hiy prog w A R s h;obtain⟨hp,g,d,tk,os⟩:=s;obtain⟨hl,hb,h⟩:=h;have hx:xs.drop i=[]:=List.drop_eq_nil_of_le (by lia);rw[ends i hix hiy (.inl hx)]at h;rw[DR];refine wpAny_bind (listItems_at hl rfl (wpAny_bind (listItems_at hb rfl ?_)));rw[(by rw[Array.getElem?_eq_none_iff,z1];simp;lia:cs[((i:Nat):Int).toNat]?=none)];exact wpAny_bind (listItems_at hl rfl (wpAny_bind (listItems_at hb rfl (wpAny_pure h))))
 |succ k ih=>
  intro i hk hix hiy prog w A R s h;obtain⟨hp,g,d,tk,os⟩:=s;obtain⟨hl,hb,h⟩:=h;obtain⟨q1,q2⟩|⟨x,t,q1,q2⟩:=pZ h1 i
  ·rw[List.getElem?_eq_none_iff]at q2;lia
  rw[Array.getElem?_toList]at q1;have q1':cs[((i:Nat):Int).toNat]?=some (.str x t):=q1;rw[DR];refine wpAny_bind (listItems_at hl rfl (wpAny_bind (listItems_at hb rfl ?_)));obtain⟨q3,q4⟩|⟨y,u,q3,q4⟩:=pZ h2 i
  ·rw[Array.getElem?_toList]at q3;have q3':cs2[((i:Nat):Int).toNat]?=none:=q3;rw[ends i hix hiy (.inr (List.drop_eq_nil_of_le (List.getElem?_eq_none_iff.mp q4)))]at h;rw[q1',q3'];exact wpAny_bind (listItems_at hl rfl (wpAny_bind (listItems_at hb rfl (wpAny_pure h))))
  ·rw[Array.getElem?_toList]at q3;have q3':cs2[((i:Nat):Int).toNat]?=some (.str y u):=q3;have hsome:=List.getElem?_eq_some_iff.mp q4;rw[(by rw[List.drop_eq_getElem_cons (by lia),(List.getElem?_eq_some_iff.mp q2).2]:xs.drop i=x::xs.drop (i+1)),List.drop_eq_getElem_cons hsome.1,hsome.2]at h;have step:wi gt (x::xs.drop (i+1)) (y::ys.drop (i+1))=if decide (x=y)then wi gt (xs.drop (i+1)) (ys.drop (i+1))else if gt then iW y x else iW x y:=by
    clear q3 q4 q3' hsome;clear ends ih h;by_cases e:x=y
    ·subst e;induction gt<;>simp[wi,bI]
    ·have e':¬ y=x:=λ z=>e z.symm
     induction gt<;>simp[wi,bI,e,e']
   rw[step]at h;have eqS:EqAt A.in1 ⟨hp,g,d,tk,os⟩ (.str x t) (.str y u) (decide (x=y)):=SeqAt.EqAt.str_str x t y u;rw[q1',q3'];refine wpAny_bind (eqS prog w _ _ ?_);by_cases e:x=y
   ·rw[decide_eq_true e]at h ⊢;rw[if_pos rfl]at h ⊢;rw[(by push_cast;rfl:((i:Int)+1)=((i+1:Nat):Int))];exact wpAny_pure ⟨plainId_quiet plain_eq_loop _,codeAny_builtin entry_eq_loop (by rw[Around.under_plainId plain_eq_loop _];exact ih (i+1) (by lia) (by lia) hsome.1 prog w A R ⟨hp,g,d,tk,os⟩ ⟨hl,hb,h⟩)⟩
   ·rw[decide_eq_false e]at h ⊢;rw[if_neg Bool.false_ne_true]at h ⊢;refine wpAny_bind (listItems_at hl rfl (wpAny_bind (listItems_at hb rfl ?_)));rw[q1',q3'];exact wpAny_bind (abV gt (wpAny_pure h))
end
end Mine
namespace Mine
open PySem PySem.W PySem.Calls PyProof.Rows PySem.Spec
section
open MeetsSeq MeetsSeq2 MeetsSeq3
noncomputable abbrev mC(cs:Array Value)(n:Nat):Obj:={cls:=.type "list",dict:=none,data:=.seq cs n,slots:=#[]}
noncomputable def aik(gt:Bool):Builtin:=if gt then Builtin.«list.__gt__» else Builtin.«list.__lt__»
theorem TG(gt:Bool)(l b:Addr)(cs cs2:Array Value)(n n2:Nat)(xs ys:List Str)(h1:StrsAre cs.toList xs)(h2:StrsAre cs2.toList ys):
  Meets (aik gt ⟨[.ref l,.ref b],[]⟩) (λ _ R s=>s.heap.get? l=some (mC cs n)/\s.heap.get? b=some (mC cs2 n2)/\R (.ok (.ret (.bool (wi gt xs ys)))) s):=by
 intro prog w A R s h;have kj:codeAny (model prog w) A (.builtin "list.__eq__.loop" ⟨[.ref l,.ref b,rawInt 0,rawInt (if gt then 4 else 0)],[]⟩) R s:=
  codeAny_builtin entry_eq_loop (by rw[Around.under_plainId plain_eq_loop _];exact Xz gt l b cs cs2 n n2 xs ys h1 h2 _ 0 rfl (Nat.zero_le _) (Nat.zero_le _) prog w A R s h)
 obtain⟨hl,hb,h⟩:=h;have f3:=AutoSeq1.sub_list_list;clear h;induction gt
 ·show wpAny _ _ (Builtin.«list.__lt__» _) _ _ _;wp_walk
  exact⟨plainId_quiet plain_eq_loop _,kj⟩
 ·show wpAny _ _ (Builtin.«list.__gt__» _) _ _ _;wp_walk
  exact⟨plainId_quiet plain_eq_loop _,kj⟩
variable {prog:Program}{w:World}{A:Around}{E:Value->Shared->Prop}{s:Shared}
theorem XC(gt:Bool){l b:Addr}{cs cs2:Array Value}{n n2:Nat}{xs ys:List Str}(h1:StrsAre cs.toList xs)(h2:StrsAre cs2.toList ys)(hl:s.heap.get? l=some (mC cs n))(hb:s.heap.get? b=some (mC cs2 n2))(hu:A.units < cLine)
  {Q:Value->Shared->Prop}(h:Q (.bool (wi gt xs ys)) s):wpAny (model prog w) A (richCompare (JX gt) (.ref l) (.ref b)) Q E s:=by
 have hT:s.TypeIs (.ref l) "list":=⟨_,hl,rfl⟩;have hT':s.TypeIs (.ref b) "list":=⟨_,hb,rfl⟩;have m:=TG gt l b cs cs2 n n2 xs ys h1 h2;induction gt
 ·exact richCompare_meets_room hT hT' PySem.F.slot_list_lt PySem.F.entry_list_lt (PySem.F.args_list_lt_2 _ _) m ⟨hl,hb,nofun,h⟩ hu
 ·exact richCompare_meets_room hT hT' PySem.F.slot_list_gt PySem.F.entry_list_gt (PySem.F.args_list_gt_2 _ _) m ⟨hl,hb,nofun,h⟩ hu
end
end Mine
namespace Mine
open PySem PySem.W PySem.Calls PyProof.Rows PySem.Spec
noncomputable def XD(name:String)(op:CmpOp)(it:Value)(best:Addr):Sem Fin:=do
 let old:=((<-seqItems? (.ref best)).getD #[]).toList
 let failing {α:Type}(first:List Value) (m:Sem α):Sem α:=m.tryCatch λ e=>do
  updateSeq best λ _=>#[]
  letGo (first++old.reverse) [e]
  throw e
 match <-failing [] (pyNext it)with
 |none=>
  match old with
  |[item,val]=>updateSeq best λ _=>#[];letGo [val] [item];ret item
  |_=>rule s!"{name}.empty";raiseError "ValueError" s!"{name}() iterable argument is empty"
 |some item=>
  let val <-pure item
  match old with
  |[oldItem,oldVal]=>
   let better <-failing [val,item]<|PySem.holding [item,val] do
    let answer <-richCompare op val oldVal
    let yes <-PySem.holding [answer] (truthy answer)
    letGo [answer]
    pure yes
   if better then
    updateSeq best λ _=>#[item,val]
    letGo [oldVal,oldItem]
   else letGo [item,val]
  |_=>updateSeq best λ _=>#[item,val]
  again (.builtin s!"{name}.loop" ⟨[it,.none,.ref best],[]⟩)
noncomputable def NK(gt:Bool):String:=if gt then "max" else "min"
noncomputable def TJ(gt:Bool):String:=if gt then "max.loop" else "min.loop"
noncomputable def mmB(gt:Bool):Builtin:=if gt then Builtin.«max.loop» else Builtin.«min.loop»
theorem abX(gt:Bool)(it:Value)(best:Addr):mmB gt ⟨[it,.none,.ref best],[]⟩=XD (NK gt) (JX gt) it best:=by
 induction gt
 all_goals
  refine iw (seqItems? (.ref best)) λ q=>?_
  refine iw (Sem.tryCatch (pyNext it) _) λ r=>?_
  induction r
  ·dsimp only;generalize(q.getD #[]).toList=old;rcases old with _|⟨a,_|⟨b,_|⟨c,r⟩⟩⟩<;>rfl
  ·rfl
section
variable {prog:Program}{w:World}{A:Around}{E:Value->Shared->Prop}{s:Shared}
theorem G7(gt:Bool){it:Value}{best:Addr}{R:Result->Shared->Prop}(h:wpAny (model prog w) A.in1 (XD (NK gt) (JX gt) it best) (λ kj s'=>match kj with
  |.done f=>R (.ok f) s'
  |.again c=>c.quiet=true/\codeAny (model prog w) A c R s') (λ e s'=>R (.error e) s') s):codeAny (model prog w) A (.builtin (TJ gt) ⟨[it,.none,.ref best],[]⟩) R s:=by
 rw[<-abX]at h;induction gt
 ·show codeAny _ _ (.builtin "min.loop" _) _ _;exact codeAny_builtin PySem.F.entry_min_loop (by rw[Around.under_plainId PySem.F.plain_min_loop _];exact h)
 ·show codeAny _ _ (.builtin "max.loop" _) _ _;exact codeAny_builtin PySem.F.entry_max_loop (by rw[Around.under_plainId PySem.F.plain_max_loop _];exact h)
theorem J6(gt:Bool)(args:Args):(Code.builtin (toString (NK gt)++toString ".loop") args)=.builtin (TJ gt) args:=by induction gt<;>rfl
theorem Aj(gt:Bool)(args:Args):(Code.builtin (TJ gt) args).quiet=true:=by
 induction gt
 ·exact plainId_quiet PySem.F.plain_min_loop _
 ·exact plainId_quiet PySem.F.plain_max_loop _
theorem XF(gt:Bool)(hh:A.handled=none){l S I:Addr}{items:Array Value}{v:Value}{c:Nat}(hl:s.heap.IsList l items)(hI:s.heap.IsListIter I l items.size)(hS:s.heap.get? S=some (mC #[v,v] c))(hSI:S≠I){R:Result->Shared->Prop}
  (hR:∀h',(∀d o,d≠I->d≠S->s.heap.get? d=some o->h'.get? d=some o)->R (.ok (.ret v)) {s with heap:=h'}):
  codeAny (model prog w) A (.builtin (TJ gt) ⟨[.ref I,.none,.ref S],[]⟩) R s:=by
 refine G7 gt ?_;refine wpAny_bind (wpAny_seqItems hS rfl ?_);refine wpAny_bind (wpAny_tryCatch (wpAny_pyNext_list_end hh hI hl (by simp) λ h1 hs1=>?_));exact wpAny_bind (wpAny_updateSeq (hs1 _ _ hSI hS) rfl (wpAny_bind (wpAny_letGo (wpAny_pure (hR _ λ d o n m e=>(Heap.get?_update_other _ _ (Ne.symm m)).trans (hs1 d o n e))))))
theorem aep(gt:Bool)(hh:A.handled=none)(hu:A.units+10 < cLine){l a b S I:Addr}{ca cb:Array Value}{na nb c:Nat}{xs ys:List Str}(hx:StrsAre ca.toList xs)(hy:StrsAre cb.toList ys)
  (hl:s.heap.IsList l #[.ref a,.ref b]) (ha:s.heap.get? a=some (mC ca na)) (hb:s.heap.get? b=some (mC cb nb)) (hI:s.heap.IsListIter I l 0) (hS:s.heap.get? S=some (mC #[] c))
  (hSl:S≠l) (hSa:S≠a) (hSb:S≠b) (hSI:S≠I) (hIl:I≠l) (hIa:I≠a) (hIb:I≠b) {R:Result->Shared->Prop}
  (hR:∀h',(∀d o,d≠I->d≠S->s.heap.get? d=some o->h'.get? d=some o)->R (.ok (.ret (.ref (if wi gt ys xs then b else a)))) {s with heap:=h'}):
  codeAny (model prog w) A (.builtin (TJ gt) ⟨[.ref I,.none,.ref S],[]⟩) R s:=by
 refine G7 gt ?_;refine wpAny_bind (wpAny_seqItems hS rfl ?_);refine wpAny_bind (wpAny_tryCatch (wpAny_pyNext_list_item hI hl (x:=.ref a) rfl λ h1 hI1 hs1=>?_));have k1:∀d o,d≠I->s.heap.get? d=some o->h1.get? d=some o:=λ d o n e=>(hs1.2 d n).trans e
 refine wpAny_bind (wpAny_pure ?_);have hS1:=k1 S _ hSI hS;refine wpAny_bind (wpAny_updateSeq hS1 rfl ?_);rw[J6];refine wpAny_pure ⟨Aj gt _,G7 gt ?_⟩;have hS2:=Heap.get?_update_self (Obj.mapSeq λ _=>#[Value.ref a,Value.ref a]) hS1 rfl;generalize hh2:h1.update S (Obj.mapSeq λ _=>#[Value.ref a,Value.ref a])=h2 at*;have k2:∀d o,d≠I->d≠S->s.heap.get? d=some o->h2.get? d=some o:=λ d o n m e=>by rw[<-hh2];exact(Heap.get?_update_other _ _ (Ne.symm m)).trans (k1 d o n e)
 refine wpAny_bind (wpAny_seqItems hS2 rfl ?_);refine wpAny_bind (wpAny_tryCatch (wpAny_pyNext_list_item (s:={s with heap:=h2}) (by obtain⟨o,e,x⟩:=hI1;exact⟨o,by rw[<-hh2];exact(Heap.get?_update_other _ _ hSI).trans e,x⟩) (hl.at λ o e=>k2 _ _ (Ne.symm hIl) (Ne.symm hSl) e) (x:=.ref b) rfl λ h3 hI3 hs3=>?_));have k3:∀d o,d≠I->d≠S->s.heap.get? d=some o->h3.get? d=some o:=λ d o n m e=>(hs3.2 d n).trans (k2 d o n m e)
 have hS3:=(hs3.2 S hSI).trans hS2;have hl3:h3.IsList l #[.ref a,.ref b]:=hl.at λ o e=>k3 _ _ (Ne.symm hIl) (Ne.symm hSl) e
 refine wpAny_bind (wpAny_pure ?_);refine wpAny_bind (wpAny_tryCatch (wpAny_holding (wpAny_bind (XC (s:={s with heap:=h3}) gt hy hx (k3 _ _ (Ne.symm hIb) (Ne.symm hSb) hb) (k3 _ _ (Ne.symm hIa) (Ne.symm hSa) ha) (by show A.units+1 < cLine;lia) ?_))));refine wpAny_bind (wpAny_holding (wpAny_truthy_bool ?_));refine wpAny_bind (wpAny_letGo (wpAny_pure ?_));rw[J6];induction q:wi gt ys xs with
 |true=>
  rw[q]at hR;refine wpAny_bind (wpAny_updateSeq hS3 rfl (wpAny_bind (wpAny_letGo (wpAny_pure ⟨Aj gt _,?_⟩))));refine XF gt hh (s:={s with heap:=h3.update S (Obj.mapSeq λ _=>#[Value.ref b,Value.ref b])}) (hl3.at λ o e=>(Heap.get?_update_other _ _ hSl).trans e) (v:=.ref b) ?_ (Heap.get?_update_self _ hS3 rfl) hSI λ h' k=>hR h' λ d o n m e=>k d o n m ?_
  ·obtain⟨o,e,x⟩:=hI3;exact⟨o,(Heap.get?_update_other _ _ hSI).trans e,x⟩
  ·exact(Heap.get?_update_other _ _ (Ne.symm m)).trans (k3 d o n m e)
 |false=>
  rw[q]at hR;refine wpAny_bind (wpAny_letGo (wpAny_pure ⟨Aj gt _,?_⟩));exact XF gt hh (s:={s with heap:=h3}) hl3 (v:=.ref a) hI3 hS3 hSI λ h' k=>hR h' λ d o n m e=>k d o n m (k3 d o n m e)
end
section
variable {prog:Program}{w:World}{A:Around}{E:Value->Shared->Prop}{s:Shared}
noncomputable def mmV(gt:Bool):Value:=if gt then .builtin "max" else .builtin "min"
theorem abY(gt:Bool){x:Value}{Q:Value->Shared->Prop}
  (h:wpAny (model prog w) A.in1 (pyIter x) (λ it sB=>∀S hW,hW=sB.heap.push (mC #[] 0)->S=sB.heap.objs.size->codeAny (model prog w) A (.builtin (TJ gt) ⟨[it,.none,.ref S],[]⟩) (wants Q E) {sB with heap:=hW}) E s):
  wpAny (model prog w) A (call (mmV gt) [x]) Q E s:=by
 induction gt
 ·refine call_function_tree PySem.F.kind_min PySem.F.plain_min PySem.F.entry_min (PySem.F.args_min1 _) ?_;refine wpAny_bind (wpAny_of_eq (show Builtin.Builtins.bindParams "min" ["key","default"] 0 ⟨[],[]⟩=pure [none,none]from rfl) ?_);refine wpAny_bind (wpAny_pure ?_);refine wpAny_bind (wpAny_mono h (λ it sB hV=>?_) λ _ _ e=>e);refine wpAny_bind (wpAny_newObj_type ?_);exact wpAny_pure ⟨plainId_quiet PySem.F.plain_min_loop _,hV _ _ rfl rfl⟩
 ·refine call_function_tree PySem.F.kind_max PySem.F.plain_max PySem.F.entry_max (PySem.F.args_max1 _) ?_;refine wpAny_bind (wpAny_of_eq (show Builtin.Builtins.bindParams "max" ["key","default"] 0 ⟨[],[]⟩=pure [none,none]from rfl) ?_);refine wpAny_bind (wpAny_pure ?_);refine wpAny_bind (wpAny_mono h (λ it sB hV=>?_) λ _ _ e=>e);refine wpAny_bind (wpAny_newObj_type ?_);exact wpAny_pure ⟨plainId_quiet PySem.F.plain_max_loop _,hV _ _ rfl rfl⟩
end
section
variable {C:Cx}{A:Around}{ρ:List Addr}{s:Shared}{Y:St}{en:En}{env:Env}
theorem aer(gt:Bool)(R:C.Rep ρ s.heap Y)(hA:A.handled=none)(hu:AUn A){l i j:Nat}{vs us:List V}{xs ys:List Str}{c:Value}(h:VR ρ (.ref l) c)(e:Y.sto[l]?=some (.list [.ref i,.ref j]))
  (e1:Y.sto[i]?=some (.list vs)) (e2:Y.sto[j]?=some (.list us)) (h1:dW vs=some xs) (h2:dW us=some ys):
  C.Snd A (call (mmV gt) [c]) ρ (.ok (.ref (if wi gt ys xs then j else i)) Y) VR s:=by
 obtain⟨a,ha,rfl⟩:=h;obtain⟨cs,n,g1,g2⟩:=R.list e ha;obtain⟨_,_,ec,⟨b,hb,rfl⟩,⟨d,hd,rfl⟩⟩:=g2.two;obtain⟨cb,nb,b1,b2⟩:=R.list e1 hb;cases vN ec;obtain⟨cd,nd,d1,d2⟩:=R.list e2 hd;intro _;have lt:∀{x:Addr}{o:Obj},s.heap.get? x=some o->x < s.heap.objs.size:=Heap.lt_size;refine abY gt (wpAny_pyIter_list (IsL.isList g1) λ S hW e3 eS=>?_);have z:(s.heap.push {cls:=.type "list_iterator",data:=.fields #[.ref a,.int 0 0]}).objs.size=s.heap.objs.size+1:=Heap.size_push ..;replace eS:S=s.heap.objs.size+1:=eS.trans z;have k:∀x o,s.heap.get? x=some o->hW.get? x=some o:=λ x o e=>by rw[e3];exact Heap.get?_push_of_some _ (Heap.get?_push_of_some _ e)
 have hI:hW.get? s.heap.objs.size=some {cls:=.type "list_iterator",data:=.fields #[.ref a,.int 0 0]}:=by rw[e3];exact Heap.get?_push_of_some _ (Heap.get?_push_size _ rfl)
 have ne:∀{x:Addr}{o:Obj},s.heap.get? x=some o->S≠x/\s.heap.objs.size≠x:=λ e=>⟨by rw[eS];exact Nat.ne_of_gt (Nat.lt_succ_of_lt (lt e)),Nat.ne_of_gt (lt e)⟩
 refine aep gt (s:={s with heap:=hW}) (l:=a) (a:=b) (b:=d) (S:=S) (I:=s.heap.objs.size) (ca:=cb) (cb:=cd) hA (by have:A.units+100 < cLine:=hu;show A.units+10 < cLine;lia)
  (nO h1 b2) (nO h2 d2) ((IsL.isList g1).at λ o e=>k _ _ e) (k _ _ b1) (k _ _ d1) ⟨_,hI,rfl,rfl⟩ (by rw[eS,e3,<-z];exact Heap.get?_push_size _ rfl) (ne g1).1 (ne b1).1 (ne d1).1 (by rw[eS];exact Nat.succ_ne_self _) (ne g1).2 (ne b1).2 (ne d1).2 λ h' hk=>?_
 refine Cx.ret0 (R.junk λ x o e=>hk x o (Ne.symm (ne e).2) (Ne.symm (ne e).1) (k x o e)) ?_;induction wi gt ys xs
 ·exact⟨b,hb,rfl⟩
 ·exact⟨d,hd,rfl⟩
end
noncomputable abbrev uh(it:Addr):Obj:={cls:=.type "method-wrapper",dict:=none,data:=.fields #[.builtin "list_iterator.__next__",.ref it],slots:=#[]}
theorem adn(it:Addr):checkBoundCall "list_iterator.__next__" ⟨[.ref it],[]⟩=pure ():=by kernel_rfl
theorem J7:plainId "list_iterator.__next__"=true:=by decide+kernel
section
variable {prog:Program}{w:World}{A:Around}{E:Value->Shared->Prop}{s:Shared}
theorem TP{x it:Addr}(hx:s.heap.get? x=some (uh it)){Q:Value->Shared->Prop}
  (h:wpAny (model prog w) A.in1 (Builtin.«list_iterator.__next__» ⟨[.ref it],[]⟩) (λ kj s'=>∃v,kj=.done (.ret v)/\Q v s') E s):wpAny (model prog w) A (call (.ref x) []) Q E s:=by
 refine wpAny_call (codeAny_of_tree ?_);refine wpAny_bind (wpAny_load hx ?_);refine wpAny_bind (wpAny_pure (wpAny_pure ⟨plainId_quiet J7 _,codeAny_builtin entry_listiter_next ?_⟩));exact wpAny_mono h (λ _ _ ⟨_,e,q⟩=>by rw[e];exact q) λ _ _ q=>q
end
section
variable {C:Cx}{A:Around}{ρ:List Addr}{s:Shared}{Y:St}{en:En}{env:Env}
theorem TQ{x it:Addr}{h:Heap}(hx:h.get? x=some (uh it)):xR C (.ref x) h:=by
 refine⟨.machine,.inr (.inl rfl),λ A Q E s k q=>?_⟩;refine wpAny_bind (wpAny_load (k _ _ hx) ?_);exact wpAny_pure q
theorem Ak(f:Array Value->Array Value)(o:Obj):(Obj.mapFields f o).dict=o.dict:=by
 obtain⟨_,_,d,_⟩:=o;induction d<;>rfl
theorem XH(R:C.Rep ρ s.heap Y)(hA:A.handled=none){k:Nat}{c:Value}(h:VR ρ (.ref k) c):C.Snd A (call c []) ρ (Dd k Y) VR s:=by
 obtain⟨x,hx,rfl⟩:=h;refine .onS λ it e=>.onS λ p e1=>.onS λ xs e2=>.grd λ hs=>?_
 obtain⟨l,i⟩:=p;obtain⟨co,g1,ita,g2,rfl⟩:=R.objs _ _ _ (lY (g:=.bnext) (λ _ _=>Dj) e) hx;obtain⟨ci,c1,la,c2,c3,c4,c5⟩:=R.objs _ _ _ (lY (g:=λ p=>.liter p.1 p.2) (λ _ _=>RL) e1) g2;obtain⟨cs,n,d1,d2⟩:=R.list (cV e2) c2;intro hb;refine TP g1 ?_;show wpAny _ _ (field (.ref ita) 0 >>= _) _ _ s;refine wpAny_bind (wpAny_field c1 c5 (x:=.ref la) rfl ?_);refine wpAny_bind (wpAny_field c1 c5 (x:=.int i 0) rfl ?_);refine wpAny_bind (wpAny_seqItems d1 rfl ?_);have fr:∀f:Array Value->Array Value,(Obj.mapFields f ci).isFreed=false:=λ f=>Obj.isFreed_of_fields (Obj.data_mapFields c5 f)
 induction q:xs[i]? with
 |some v=>
  obtain⟨cv,hc,hv⟩:=d2.get q;have hc':cs[i]?=some cv:=by rw[<-Array.getElem?_toList];exact hc
  simp only[Int.toNat_natCast,hc'];have hk:k0<=it:=Decidable.byContradiction λ hn=>hb (by unfold tL;rw[q];exact if_neg hn)
  rw[show tL it (l,i).1 (l,i).2 xs Y=.ok v (Y.upd it (.liter l (i+1)))by unfold tL;rw[q];exact if_pos hk];refine wpAny_bind (wpAny_setField c1 c5 (by simp) (wpAny_pure ⟨cv,rfl,?_⟩));refine Cx.ret0 (R.upd hk g2 (Heap.SameBut.update ..) (Heap.get?_update_self _ c1 (fr _)) ⟨la,c2,(Obj.cls_mapFields ..).trans c3,?_,?_⟩) hv
  ·rw[<-c4];exact Ak ..
  ·rw[Obj.data_mapFields c5];simp[rawInt]
 |none=>
  have hc':cs[i]?=none:=by
   rw[Array.getElem?_eq_none_iff,cg d2];exact List.getElem?_eq_none_iff.mp q
  simp only[Int.toNat_natCast,hc'];have hk:k0<=it:=Decidable.byContradiction λ hn=>hb (by unfold tL;rw[q];exact if_neg hn)
  rw[show tL it (l,i).1 (l,i).2 xs Y=.exc .stop (Y.upd it .any)by unfold tL;rw[q];exact if_pos hk];refine wpAny_bind (wpAny_rule (wpAny_bind (wpAny_setField c1 c5 (by simp) ?_)));refine wpAny_bind ?_;refine wpAny_bind (m:=firstArgMember _ _) (wpAny_of_eq (a:=Value.none) (by first|rfl|(simp only[firstArgMember];rfl)) ?_);refine wpAny_newObj_type ?_ (by size_fits);refine wpAny_bind (wpAny_handled ?_);rw[show A.in1.handled=none from hA];refine wpAny_bind (wpAny_pure (wpAny_throw ?_));refine⟨.stop,_,_,s.toks,[],rfl,rfl,?_⟩;rw[List.append_nil];refine QX (args:=[]) (R.upd hk g2 (Heap.SameBut.update s.heap ita (Obj.mapFields λ a=>a.setIfInBounds 0 Value.none)) (Heap.get?_update_self _ c1 (fr _)) trivial) ⟨λ b o e=>Heap.get?_push_of_some _ (Heap.get?_push_of_some _ e),?_,(s.heap.update ita (Obj.mapFields λ a=>a.setIfInBounds 0 Value.none)).objs.size,?_⟩
  ·exact Heap.get?_none_of_le (by rw[Heap.size_push];exact Nat.le_succ _)
  ·refine⟨Heap.get?_push_size _ rfl,Heap.get?_none_of_le (Nat.le_refl _),Heap.get?_push_of_some _ (Heap.get?_push_size _ rfl)⟩
end
namespace LI
theorem slot_ga:Slot "list_iterator" "__getattribute__" "object.__getattribute__":=
 .of (owner:="object") (n:="__getattribute__") (by rw[typeLookup_type];kernel_rfl) (by decide+kernel) (by decide+kernel) (by decide+kernel)
  (by first|exact .inl (by decide+kernel)|exact .inr (by decide+kernel)) (by rw[isSubtype_type];kernel_rfl)
theorem entry_ga:entryFor table "object.__getattribute__"=some Builtin.«object.__getattribute__»:=entryFor_of_tree (by kernel_rfl)
theorem args_ga(a b:Value):argsOk "object.__getattribute__" ⟨[a,b],[]⟩:=by unfold argsOk;kernel_rfl
theorem next_lk:typeLookup (.type "list_iterator") "__next__"=pure (some (.builtin "list_iterator.__next__")):=by rw[typeLookup_type,builtinLookup_eq_fast];kernel_rfl
theorem next_type:typeOf (.builtin "list_iterator.__next__")=pure (.type "wrapper_descriptor"):=by show builtinType _=_;rw[builtinType_eq_fast];kernel_rfl
theorem wd_set:typeLookup (.type "wrapper_descriptor") "__set__"=pure none:=by rw[typeLookup_type,builtinLookup_eq_fast];kernel_rfl
theorem wd_del:typeLookup (.type "wrapper_descriptor") "__delete__"=pure none:=by rw[typeLookup_type,builtinLookup_eq_fast];kernel_rfl
theorem slot_wd:Slot "wrapper_descriptor" "__get__" "wrapper_descriptor.__get__":=
 .of (owner:="wrapper_descriptor") (n:="__get__") (by rw[typeLookup_type];kernel_rfl) (by decide+kernel) (by decide+kernel) (by decide+kernel)
  (by first|exact .inl (by decide+kernel)|exact .inr (by decide+kernel)) (by rw[isSubtype_type];kernel_rfl)
theorem entry_wd:entryFor table "wrapper_descriptor.__get__"=some Builtin.«wrapper_descriptor.__get__»:=entryFor_of_tree (by kernel_rfl)
theorem args_wd(a b c:Value):argsOk "wrapper_descriptor.__get__" ⟨[a,b,c],[]⟩:=by unfold argsOk;kernel_rfl
theorem li_own:isSubtype (.type "list_iterator") (.type (".".intercalate ("list_iterator.__next__".cutAt '.').dropLast))=pure true:=by
 rw[show ".".intercalate ("list_iterator.__next__".cutAt '.').dropLast="list_iterator" by decide+kernel,isSubtype_type];kernel_rfl
theorem ahG:typeLookup (.type "list_iterator") "__getattr__"=pure none:=by rw[typeLookup_type,builtinLookup_eq_fast];kernel_rfl
end LI
theorem XJ(a:Addr):Meets (Builtin.«wrapper_descriptor.__get__» ⟨[.builtin "list_iterator.__next__",.ref a,.type "list_iterator"],[]⟩) (λ _ R s=>s.TypeIs (.ref a) "list_iterator"/\R (.ok (.ret (.ref s.heap.objs.size))) {s with heap:=s.heap.push (uh a)}):=
 Meets.of_wp λ prog w A R s hs=>by
  obtain⟨hT,hs⟩:=hs;have f1:=LI.li_own;repeat (any_goals (first|assumption|wp_step))
  exact⟨_,rfl,hs⟩
theorem XK(a:Addr)(u:Tok):Meets (Builtin.«object.__getattribute__» ⟨[.ref a,.str "__next__" u],[]⟩) (λ _ R s=>(∃fs sl,s.heap.get? a=some {cls:=.type "list_iterator",dict:=none,data:=.fields fs,slots:=sl})/\R (.ok (.ret (.ref s.heap.objs.size))) {s with heap:=s.heap.push (uh a)}):=
 Meets.of_wp λ prog w A R s hs=>by
  obtain⟨⟨fs,sl,hx⟩,hs⟩:=hs;obtain⟨hp,g,d,tk,os⟩:=s;have hT:(⟨hp,g,d,tk,os⟩:Shared).TypeIs (.ref a) "list_iterator":=⟨_,hx,rfl⟩;have f1:=LI.next_lk;have f2:=LI.next_type;have f3:=LI.wd_set;have f4:=LI.wd_del;have f5:=LI.slot_wd.lookup;repeat (any_goals (first|assumption|((with_reducible show wpAny _ _ (call (Value.builtin "wrapper_descriptor.__get__") _ _) _ _ _);refine call_meets LI.slot_wd LI.next_type LI.entry_wd (LI.args_wd _ _ _) (XJ a) ⟨hT,?_⟩)|wp_step))
  exact wpAny_pure ⟨_,rfl,hs⟩
section
variable {prog:Program}{w:World}{A:Around}{E:Value->Shared->Prop}{s:Shared}
theorem G8{a:Addr}{o:Obj}(hx:s.heap.get? a=some o)(hc:o.cls=.type "list_iterator")(hd:o.dict=none){fs:Array Value}(hf:o.data=.fields fs){Q:Value->Shared->Prop}
  (h:∀tk,Q (.ref s.heap.objs.size) {s with heap:=s.heap.push (uh a),toks:=tk}):wpAny (model prog w) A (getAttr (.ref a) "__next__" true) Q E s:=by
 obtain⟨c,dct,dat,sl⟩:=o;obtain⟨hp,g,d,tk,os⟩:=s;simp only at hc hd hf;subst hc hd hf;have hT:∀tk',(⟨hp,g,d,tk',os⟩:Shared).TypeIs (.ref a) "list_iterator":=λ _=>⟨_,hx,rfl⟩
 have f3:=LI.slot_ga.lookup;have f4:=LI.slot_ga.bind (.ref a);repeat (any_goals (first|assumption|exact hT _|((with_reducible show wpAny _ _ (call (Value.builtin "object.__getattribute__") _ _) _ _ _);refine call_meets LI.slot_ga (hT _) LI.entry_ga (LI.args_ga _ _) (XK a _) ⟨⟨_,_,hx⟩,?_⟩)|wp_step))
 exact wpAny_pure (h _)
end
section
variable {C:Cx}{A:Around}{ρ:List Addr}{s:Shared}{Y:St}
theorem TV(R:C.Rep ρ s.heap Y){k l i:Nat}{c:Value}(h:VR ρ (.ref k) c)(e:Y.sto[k]?=some (.liter l i)):C.Snd A (getAttr c "__next__" true) ρ (Y.new (.bnext k)) VR s:=by
 obtain⟨a,ha,rfl⟩:=h;obtain⟨co,h1,la,h2,h3,h4,h5⟩:=R.objs _ _ _ e ha;exact λ _=>G8 h1 h3 h4 h5 λ tk=>Cx.ret1 (R.new1 (o:=.bnext k) rfl ⟨a,aH ha,rfl⟩) (lB R.lenEq)
end
noncomputable def lG(d:Nat):Prop:=∀{C:Cx}{A A₀:Around}{en:En}{env:Env}{ρ:List Addr}{s:Shared}{Y:St}{a:Nat}{args:List V}{cvs:List Value},qD d C->aW C A₀ ρ en env->en.own=true->A.handled=none->A.frames=A₀.frames->
 A.units+10*C.room+93 < cLine->A.depth+C.room < recursionLimit->C.Rep ρ s.heap Y->aU (VR ρ) args cvs->ao d a args Y≠.bad->
 codeAny (model C.prog C.w) A (.call (.ref a) ⟨cvs,[]⟩) (wants (C.Ret ρ s (ao d a args Y) VR) (C.Exn ρ s (ao d a args Y))) s
theorem aes(a:Nat)(args:List V)(Y:St):ao 0 a args Y=.bad:=rfl
theorem aeu(d:Nat)(args:List V)(Y:St):ao (d+1) 137 args Y=if args.isEmpty then
    (ao d 73 [.ref (Y.sto.length+1)] {Y with sto:=Y.sto++[.dict [] 0,.inst Y.sto.length]}).bind λ v τ=>if v=.none then .ok (.ref (Y.sto.length+1)) τ else .bad else .bad:=rfl
theorem aev(d:Nat)(args:List V)(Y:St):ao (d+1) 40 args Y=match args with
   |[x]=>(ao d 36 [.ref (Y.sto.length+1),x] {Y with sto:=Y.sto++[.dict [] 0,.node Y.sto.length [none,none,none]]}).bind λ v τ=>if v=.none then .ok (.ref (Y.sto.length+1)) τ else .bad
   |_=>.bad:=rfl
theorem sJ(d a:Nat)(args:List V)(Y:St)(h1:a≠137)(h2:a≠40):ao (d+1) a args Y=match jG a with
   |none=>.bad
   |some f=>oX (ao d) f args Y:=by
 show(if a=137 then _ else if a=40 then _ else _)=_;rw[if_neg h1,if_neg h2];induction jG a<;>rfl
theorem aW.lower{C:Cx}{A:Around}{ρ:List Addr}{en:En}{env:Env}(h:aW C A ρ en env):aW {C with room:=C.room - 1} A ρ en env:=
 ⟨h.scope,h.kind,h.locals,h.globals,h.builtins,h.cells,h.free,h.units,by have:=h.room;show A.units+10*(C.room - 1)+100 < cLine/\A.depth+(C.room - 1) < recursionLimit;lia,h.files,h.stat,h.own⟩
set_option tactic.hygienic true in
theorem Ka{d:Nat}(ih:lG d){C:Cx}{A A₀:Around}{en:En}{env:Env}{ρ:List Addr}{s:Shared}{Y:St}{D fI:Nat}{args:List V}{cvs:List Value}(hD:D=137/\fI=73\/D=40/\fI=36){o:O}(W:qD (d+1) C)(EV:aW C A₀ ρ en env)(hown:en.own=true)(hh:A.handled=none)(hfr:A.frames=A₀.frames)
  (hun:A.units+10*C.room+93 < cLine) (hdp:A.depth+C.room < recursionLimit) (R:C.Rep ρ s.heap Y) (hv:aU (VR ρ) args cvs) (ho:∀ρ' dx,ρ'[Y.sto.length]?=some dx->OR C.prog C.w ρ' o (instObj D dx)) {r:ak V}
  (hr:r=(ao d fI (.ref (Y.sto.length+1)::args) {Y with sto:=Y.sto++[.dict [] 0,o]}).bind λ v τ=>if v=.none then .ok (.ref (Y.sto.length+1)) τ else .bad) (hbad:r≠.bad):
  codeAny (model C.prog C.w) A (.call (.ref D) ⟨cvs,[]⟩) (wants (C.Ret ρ s r VR) (C.Exn ρ s r)) s:=by
 obtain⟨K,X0,hK⟩:=(let ⟨_,_,kb,f2⟩:=W.1;let ⟨K,X,h⟩:=f2.ko;⟨K,X.keeps kb,h⟩:∃K:Frag,K.In C.h₀/\R6 K=true);have S:=R6.split hK;have X:K.In s.heap:=X0.keeps λ b o e=>Mine.Rep.keep R b o e
 have T:JR K D fI:=by
  clear ho;clear hr;rcases hD with⟨rfl,rfl⟩|⟨rfl,rfl⟩
  ·exact dG S.c1
  ·exact dG S.c2
 obtain⟨hp,g,dr,tk,os⟩:=s;have hlen:ρ.length=Y.sto.length:=R.lenEq;refine make_core (rest:=cvs) (kw:=[]) (init:=.ref fI) (makes_of X T.makes) (looks_findIn X T.init) (λ self=>bind_fn X self (beq_iff_eq.mp T.fn)) (.inl rfl) ?_;have R1:C.Rep (ρ++[hp.objs.size]) (hp.push emptyDict) {Y with sto:=Y.sto++[.dict [] 0]}:=Rep.push R rfl ⟨#[],[],rfl,λ _ h=>by simp at h,.nil,.nil,.nil⟩;have R2:C.Rep (ρ++[hp.objs.size]++[hp.objs.size+1]) ((hp.push emptyDict).push (instObj D hp.objs.size)) {Y with sto:=Y.sto++[.dict [] 0]++[o]}:=by
  have:=Rep.push (co:=instObj D hp.objs.size) (o:=o) R1 rfl (ho _ _ (by rw[<-hlen];simp));rwa [Heap.size_push]at this
 have R3:C.Rep (ρ++[hp.objs.size,hp.objs.size+1]) ((hp.push emptyDict).push (instObj D hp.objs.size)) {Y with sto:=Y.sto++[.dict [] 0,o]}:=by
  simpa only[List.append_assoc,List.cons_append,List.nil_append]using R2
 have hself:(ρ++[hp.objs.size,hp.objs.size+1])[Y.sto.length+1]?=some (hp.objs.size+1):=by rw[<-hlen];simp
 have hne:ao d fI (.ref (Y.sto.length+1)::args) {Y with sto:=Y.sto++[.dict [] 0,o]}≠.bad:=λ q=>hbad (by rw[hr,q];rfl)
 have hw:(Code.builtin "type.__call__" ⟨.ref D::cvs,[]⟩).weight=1:=rfl;have hroom:1<=C.room:=by have:=W.2;lia
 have hcu:(Code.builtin "type.__call__" ⟨.ref D::cvs,[]⟩).cUnits<=10:=Nat.le_of_ble_eq_true rfl;have hun':(A.under (.builtin "type.__call__" ⟨.ref D::cvs,[]⟩)).units+10*(C.room - 1)+93 < cLine:=by
  show A.units+_+10*(C.room - 1)+93 < cLine;lia
 have hdp':(A.under (.builtin "type.__call__" ⟨.ref D::cvs,[]⟩)).depth+(C.room - 1) < recursionLimit:=by
  show A.depth+_+(C.room - 1) < recursionLimit;rw[hw];lia
 have key:=ih (C:={C with room:=C.room - 1}) (A:=A.under (.builtin "type.__call__" ⟨.ref D::cvs,[]⟩)) (A₀:=A₀) (s:=⟨(hp.push emptyDict).push (instObj D hp.objs.size),g,dr,tk,os⟩) (a:=fI) (args:=.ref (Y.sto.length+1)::args) (cvs:=.ref (hp.objs.size+1)::cvs) ⟨W.1,by have:=W.2;show d<=C.room - 1;lia⟩
  (EV.lower.mono [hp.objs.size,hp.objs.size+1]) hown hh (by rw[<-hfr];exact rfl) hun' hdp' R3 (.cons ⟨_,hself,rfl⟩ (hv.mono λ _ _=>VR.mono)) hne
 refine codeAny_mono key λ r' s' x=>?_
 induction r' with
 |error e=>
  obtain⟨x',Y',h',tk',ρ',e1,e2,e3⟩:=x;refine⟨x',Y',h',tk',[hp.objs.size,hp.objs.size+1]++ρ',?_,e2,?_⟩
  ·rw[hr,e1];rfl
  ·rw[<-List.append_assoc];exact let ⟨a1,a2,a3,a4,a5,a6,a7,a8,a9,b1,b2,b3,b4⟩:=e3;⟨a1,a2,a3,a4,a5,a6,a7,a8,a9,b1,b2,b3,b4⟩
 |ok f=>
  induction f with
  |ret v=>
   obtain⟨v',Y',h',tk',ρ',e1,e2,e3,e4⟩:=x;simp only[e1,ak.bind_ok]at hr;clear e1;split at hr
   ·rename_i hn
    subst hn;refine⟨e4,_,Y',h',tk',[hp.objs.size,hp.objs.size+1]++ρ',hr,e2,?_,?_⟩
    ·rw[<-List.append_assoc];exact e3
    ·exact⟨_,by rw[<-List.append_assoc];exact aH hself,rfl⟩
   ·exact absurd hr hbad
  |_=>exact x
theorem Kc:lG 0:=by
 intro C A A₀ en env ρ s Y a args cvs W EV hown hh hfr hun hdp R hv hbad;exact absurd rfl hbad
theorem Kd{d:Nat}(hO:sG d (ao d))(ih:lG d):lG (d+1):=by
 intro C A A₀ en env ρ s Y a args cvs W EV hown hh hfr hun hdp R hv hbad;by_cases h1:a=137
 ·subst h1;induction args with
  |cons _ _=>exact absurd rfl hbad
  |nil=>exact Ka (o:=.inst Y.sto.length) ih (.inl ⟨rfl,rfl⟩) W EV hown hh hfr hun hdp R hv (λ ρ' dx e=>⟨dx,e,rfl⟩) rfl hbad
 by_cases h2:a=40
 ·clear h1;subst h2;rcases args with _|⟨x,_|⟨y,r⟩⟩
  ·exact absurd rfl hbad
  ·refine Ka (o:=.node Y.sto.length [none,none,none]) ih (.inr ⟨rfl,rfl⟩) W EV hown hh hfr hun hdp R hv (λ ρ' dx e=>⟨rfl,dx,#[],e,rfl,λ i v q=>?_⟩) rfl hbad;rcases i with _|_|_|i
   ·cases q;rfl
   ·cases q;rfl
   ·cases q;rfl
   ·first|exact ns q|exact jz q|cases q
  ·exact absurd rfl hbad
 rw[sJ _ _ _ _ h1 h2]at hbad ⊢;induction hf:jG a with
 |none=>rw[hf]at hbad;exact absurd rfl hbad
 |some f=>
  rw[hf]at hbad;obtain⟨hb,f1,kb,f2⟩:=W.1;exact DN hO W EV hown hh hfr hun hdp R hv kb (f2.fns a f hf) f2.lim hbad
namespace MP
theorem TX:Slot "map" "__init__" "object.__init__":=
 .of (owner:="object") (n:="__init__") (by rw[typeLookup_type];kernel_rfl) (by decide+kernel) (by decide+kernel) (by decide+kernel)
  (by first|exact .inl (by decide+kernel)|exact .inr (by decide+kernel)) (by rw[isSubtype_type];kernel_rfl)
theorem mro:mroOf (.type "map")=pure [.type "map",.type "object"]:=by rw[mroOf_type];kernel_rfl
theorem NP:typeLookup (.type "map") "__new__"=pure (some (.builtin "map.__new__")):=by rw[typeLookup_type,builtinLookup_eq_fast];kernel_rfl
theorem called:TypeCalled "map" "map.__new__" "object.__init__":=
 ⟨by decide+kernel,by decide+kernel,⟨_,_,mro⟩,madeBy_type mro NP (by decide+kernel),by decide+kernel,by rw[isSubtype_type];kernel_rfl,TX⟩
theorem typeCall(a b:Value):checkTypeCall "map" ⟨[a,b],[]⟩=pure ():=by kernel_rfl
theorem newCall(a b:Value):checkBuiltinCall "map.__new__" ⟨[.type "map",a,b],[]⟩=pure ():=by kernel_rfl
theorem entry_new:entryFor table "map.__new__"=some Builtin.«map.__new__»:=entryFor_of_tree (by kernel_rfl)
theorem sub:isSubtype (.type "map") (.type "map")=pure true:=by rw[isSubtype_type];kernel_rfl
theorem slot_iter:Slot "map" "__iter__" "map.__iter__":=
 .of (owner:="map") (n:="__iter__") (by rw[typeLookup_type];kernel_rfl) (by decide+kernel) (by decide+kernel) (by decide+kernel)
  (by first|exact .inl (by decide+kernel)|exact .inr (by decide+kernel)) (by rw[isSubtype_type];kernel_rfl)
theorem entry_iter:entryFor table "map.__iter__"=some Builtin.«dict_keyiterator.__iter__»:=entryFor_alias (id':="dict_keyiterator.__iter__") (by kernel_rfl) (by decide+kernel) (by decide+kernel) (by kernel_rfl)
theorem args_iter(a:Value):argsOk "map.__iter__" ⟨[a],[]⟩:=by unfold argsOk;kernel_rfl
theorem slot_next:Slot "map" "__next__" "map.__next__":=
 .of (owner:="map") (n:="__next__") (by rw[typeLookup_type];kernel_rfl) (by decide+kernel) (by decide+kernel) (by decide+kernel)
  (by first|exact .inl (by decide+kernel)|exact .inr (by decide+kernel)) (by rw[isSubtype_type];kernel_rfl)
theorem entry_next:entryFor table "map.__next__"=some Builtin.«map.__next__»:=entryFor_of_tree (by kernel_rfl)
theorem args_next(a:Value):argsOk "map.__next__" ⟨[a],[]⟩:=by unfold argsOk;kernel_rfl
theorem no_len:typeLookup (.type "map") "__len__"=pure none:=by rw[typeLookup_type,builtinLookup_eq_fast];kernel_rfl
theorem no_hint:typeLookup (.type "map") "__length_hint__"=pure none:=by rw[typeLookup_type,builtinLookup_eq_fast];kernel_rfl
end MP
noncomputable abbrev abZ(h:Heap)(f l:Addr):Heap:=((h.push {cls:=.type "list_iterator",data:=.fields #[.ref l,.int 0 0]}).push {cls:=.type "tuple",data:=.seq #[.ref h.objs.size]}).push
 {cls:=.type "map",data:=.fields #[.ref (h.push {cls:=.type "list_iterator",data:=.fields #[.ref l,.int 0 0]}).objs.size,.ref f]}
theorem Cy(f l:Addr)(xs:Array Value):Meets (Builtin.«map.__new__» ⟨[.type "map",.ref f,.ref l],[]⟩) (λ _ R s=>s.heap.IsList l xs/\R (.ok (.ret (.ref (s.heap.objs.size+2)))) {s with heap:=abZ s.heap f l}):=
 .of_wp λ prog w A R s h=>by
  obtain⟨hp,g,d,tk,os⟩:=s;obtain⟨hl1,h⟩:=h;have hsub:=MP.sub;have z:((hp.push {cls:=.type "list_iterator",data:=.fields #[.ref l,.int 0 0]}).push {cls:=.type "tuple",data:=.seq #[.ref hp.objs.size]}).objs.size=hp.objs.size+2:=by rw[Heap.size_push,Heap.size_push]
  wp_walk using wpAny_pyIter_list hl1
  rw[<-z]at h;exact⟨_,rfl,h⟩
section
variable {C:Cx}{A:Around}{ρ:List Addr}{s:Shared}{Y:St}
theorem ab0(R:C.Rep ρ s.heap Y){l f:Nat}{xs:List V}{c:Value}(h:VR ρ (.ref l) c)(e:Y.sto[l]?=some (.list xs)):
  C.Snd A (call (.type "map") [.ref f,c]) ρ (({Y with sto:=Y.sto++[.eit l 0,.tup [.ref Y.sto.length]]}:St).new (.mapo f (Y.sto.length+1))) VR s:=by
 obtain⟨a,ha,rfl⟩:=h;obtain⟨cs,n,h1,h2⟩:=R.list e ha;have hl:ρ.length=Y.sto.length:=R.lenEq;refine λ _=>callType_new MP.called (by decide) (MP.typeCall _ _) (MP.newCall _ _) (λ obj=>PySem.F.args_object_init_3 obj _ _) MP.entry_new (Cy f a cs) ⟨h1.isList,?_⟩
 have z1:(s.heap.push {cls:=.type "list_iterator",data:=.fields #[.ref a,.int 0 0]}).objs.size=s.heap.objs.size+1:=Heap.size_push ..;have z2:((s.heap.push {cls:=.type "list_iterator",data:=.fields #[.ref a,.int 0 0]}).push {cls:=.type "tuple",data:=.seq #[.ref s.heap.objs.size]}).objs.size=s.heap.objs.size+2:=by rw[Heap.size_push,z1]
 have g3:(abZ s.heap f a).get? _=some _:=Heap.get?_push_size _ rfl;rw[z2]at g3;refine⟨⟨_,g3,rfl⟩,?_⟩;have R1:C.Rep (ρ++[s.heap.objs.size]) _ {Y with sto:=Y.sto++[.eit l 0]}:=Rep.push (co:={cls:=.type "list_iterator",data:=.fields #[.ref a,.int 0 0]}) R rfl ⟨a,aH ha,rfl,rfl⟩;have R3:=Rep.push (co:={cls:=.type "map",data:=.fields #[.ref (s.heap.objs.size+1),.ref f]}) (o:=.mapo f (Y.sto.length+1)) (Rep.push (co:={cls:=.type "tuple",data:=.seq #[.ref s.heap.objs.size]}) (o:=.tup [.ref Y.sto.length]) R1 rfl ⟨#[.ref s.heap.objs.size],0,rfl,.cons ⟨_,by rw[<-hl];simp,rfl⟩ .nil⟩) rfl ⟨s.heap.objs.size+1,by rw[<-hl];simp,rfl⟩;simp only[z1,z2]at R3;have R4:C.Rep (ρ++[s.heap.objs.size,s.heap.objs.size+1,s.heap.objs.size+2]) (abZ s.heap f a) {Y with sto:=Y.sto++[.eit l 0,.tup [.ref Y.sto.length]]++[.mapo f (Y.sto.length+1)]}:=by
  unfold abZ;rw[z1];simp only[List.append_assoc,List.cons_append,List.nil_append]at R3 ⊢;exact R3
 refine Cx.ret1 R4 ⟨_,?_,rfl⟩;simp[<-hl]
end
noncomputable abbrev nP(t f:Addr):Obj:={cls:=.type "map",dict:=none,data:=.fields #[.ref t,.ref f],slots:=#[]}
noncomputable abbrev XM(it:Addr)(n:Nat):Obj:={cls:=.type "tuple",dict:=none,data:=.seq #[.ref it] n,slots:=#[]}
section
variable {prog:Program}{w:World}{A:Around}{E:Value->Shared->Prop}{s:Shared}
theorem XQ{m t f it l:Addr}{i:Nat}{items:Array Value}{c:Value}{n:Nat}(hm:s.heap.get? m=some (nP t f))(ht:s.heap.get? t=some (XM it n))
  (hit:s.heap.IsListIter it l i) (hl:s.heap.IsList l items) (hx:items[i]?=some c) (hmi:m≠it) {Q:Value->Shared->Prop}
  (h:∀h',h'.IsListIter it l (i+1)->Heap.SameBut it s.heap h'->wpAny (model prog w) A (call (.ref f) [c]) Q E {s with heap:=h'}):
  wpAny (model prog w) A (Builtin.«map.__next__» ⟨[.ref m],[]⟩) (λ kj s'=>∃v,kj=.done (.ret v)/\Q v s') E s:=by
 show wpAny _ _ (field (.ref m) 0 >>= _) _ _ _;refine wpAny_bind (wpAny_field hm rfl (x:=.ref t) rfl ?_);refine wpAny_bind (wpAny_seqItems ht rfl ?_);refine wpAny_bind (wpAny_arrayLoop ?_);rw[List.forIn_cons];refine wpAny_bind (wpAny_bind (wpAny_holding (wpAny_nextOf_list_item hit hl hx λ h' hit' hs=>?_)));refine wpAny_pure ?_;refine wpAny_pure ?_;refine wpAny_bind (wpAny_field (s:={s with heap:=h'}) ((hs.2 m hmi).trans hm) rfl (x:=.ref f) rfl ?_);refine wpAny_bind (wpAny_holding (wpAny_mono (h h' hit' hs) (λ v s' q=>?_) λ _ _ q=>q));exact wpAny_bind (wpAny_letGo (wpAny_pure ⟨_,rfl,q⟩))
theorem ab1{m t f it l:Addr}{i:Nat}{items:Array Value}{n:Nat}(hh:A.handled=none)(hm:s.heap.get? m=some (nP t f))(ht:s.heap.get? t=some (XM it n))
  (hit:s.heap.IsListIter it l i) (hl:s.heap.IsList l items) (hx:items[i]?=none) {Q:Fin->Shared->Prop}
  (hE:∀h' e,Heap.ExtBut it s.heap h'->(∃o,h'.get? it=some o)->(∃o,h'.get? e=some o/\o.cls=.type "StopIteration")->E (.ref e) {s with heap:=h'}):
  wpAny (model prog w) A (Builtin.«map.__next__» ⟨[.ref m],[]⟩) Q E s:=by
 show wpAny _ _ (field (.ref m) 0 >>= _) _ _ _;refine wpAny_bind (wpAny_field hm rfl (x:=.ref t) rfl ?_);refine wpAny_bind (wpAny_seqItems ht rfl ?_);refine wpAny_bind (wpAny_arrayLoop ?_);rw[List.forIn_cons];exact wpAny_bind (wpAny_bind (wpAny_holding (zV hh hit hl hx hE)))
theorem TY{m t f it l:Addr}{i:Nat}{items:Array Value}{c:Value}{n:Nat}(hm:s.heap.get? m=some (nP t f))(ht:s.heap.get? t=some (XM it n))
  (hit:s.heap.IsListIter it l i) (hl:s.heap.IsList l items) (hx:items[i]?=some c) (hmi:m≠it) {Q:Option Value->Shared->Prop}
  (h:∀h',h'.IsListIter it l (i+1)->Heap.SameBut it s.heap h'->wpAny (model prog w) A.in1 (call (.ref f) [c]) (λ v s'=>Q (some v) s') (λ _ _=>False) {s with heap:=h'}):
  wpAny (model prog w) A (pyNext (.ref m)) Q E s:=by
 have hT:s.TypeIs (.ref m) "map":=⟨_,hm,rfl⟩;refine wpAny_bind (wpAny_attempt (wpAny_callSpecial?_slot (name:=Str.ofString "__next__") hT MP.slot_next (wpAny_call_entry MP.slot_next hT MP.entry_next
  (XQ hm ht hit hl hx hmi λ h' a b=>wpAny_mono (h h' a b) (λ v s' q=>?_) λ _ _ q=>q.elim) (MP.args_next _))))
 exact wpAny_pure q
theorem XS{m t f it l:Addr}{i:Nat}{items:Array Value}{n:Nat}(hh:A.handled=none)(hm:s.heap.get? m=some (nP t f))(ht:s.heap.get? t=some (XM it n))
  (hit:s.heap.IsListIter it l i) (hl:s.heap.IsList l items) (hx:items[i]?=none) {Q:Option Value->Shared->Prop}
  (h:∀h',Heap.ExtBut it s.heap h'->(∃o,h'.get? it=some o)->Q none {s with heap:=h'}):
  wpAny (model prog w) A (pyNext (.ref m)) Q E s:=by
 have hT:s.TypeIs (.ref m) "map":=⟨_,hm,rfl⟩;refine wpAny_bind (wpAny_attempt (wpAny_callSpecial?_slot (name:=Str.ofString "__next__") hT MP.slot_next (wpAny_call_entry MP.slot_next hT MP.entry_next
  (ab1 (A:=A.in1) hh hm ht hit hl hx λ h' e a b c=>?_) (MP.args_next _))))
 obtain⟨o,ho,hc⟩:=c;exact wpAny_bind (wpAny_isInstance (T:="StopIteration") (b:=true) ⟨o,ho,hc⟩ isSubtype_stop (wpAny_pure (h h' a b)))
end
section
variable {C:Cx}{A:Around}{ρ:List Addr}{s:Shared}{Y:St}{cl:Nat->List V->St->ak V}
theorem ado{α:Type}{c:Bool}{r:ak α}(h:(if c=true then r else .bad)≠.bad):c=true:=by
 induction c with
 |false=>exact absurd rfl h
 |true=>rfl
open Classical in
theorem Ke{f m kt l k i:Nat}{xs:List V}{ma:Addr}{ρ:List Addr}{Y:St}(R:C.Rep ρ s.heap Y)(hok:Dc f m kt l k i xs Y=true)(hm:ρ[m]?=some ma){P:Prop}
  (K:∀ta ita n la cs nl,s.heap.get? ma=some (nP ta f)->s.heap.get? ta=some (XM ita n)->ρ[k]?=some ita->s.heap.IsListIter ita la i->IsL s.heap la cs nl->aU (VR ρ) xs cs.toList->ρ[l]?=some la->ma≠ita->P):P:=by
 obtain⟨o1,o2,o3,o4⟩:=of_decide_eq_true hok;obtain⟨cm,m1,ta,m2,rfl⟩:=Mine.Rep.objs R m _ ma o1 hm;obtain⟨ct,t1,cs,nt,rfl,t3⟩:=Mine.Rep.objs R kt _ ta o2 m2;obtain⟨_,_,ec,⟨ita,i0,rfl⟩,t3⟩:=t3.cons_inv;rw[t3.nil_inv]at ec;cases vN ec;obtain⟨ci,i1,la,i2,i3,i4⟩:=Mine.Rep.objs R k _ ita o3 i0;obtain⟨cl',nl,l1,l2⟩:=Cx.Rep.list R o4 i2;refine K ta ita _ la cl' nl m1 t1 i0 ⟨ci,i1,i3,i4⟩ l1 l2 i2 λ q=>?_
 clear t1 ec i1;subst q;induction(List.getElem?_inj (List.getElem?_eq_some_iff.mp hm).1 (Mine.Rep.nodup R)).mp (hm.trans i0.symm)
 rw[o1]at o3;cases o3
theorem X3{f m kt l k:Nat}{xs:List V}{S ma:Addr}{res:Value}{R:Result->Shared->Prop}(hh:A.handled=none)(hsm:xs.length<=big)(hk0:k0<=ρ.length)(hfi:ρ[0]?=some lZ)(hm:ρ[m]?=some ma)(hkk:k0<=k)(hn:C.h₀.get? S=none)(hsys:(C.h₀.get? sysModules).isSome=true)
  (hcall:∀g,Sub C.h₀ g->∀{ρ s Y x c},k0<=ρ.length->ρ[0]?=some lZ->(C.on g).Rep ρ s.heap Y->VR ρ x c->(C.on g).Snd A.in1.in1 (call (.ref f) [c]) ρ (cl f [x] Y) VR s):
  ∀(r:List V) (i:Nat) (Y':St) (ρ':List Addr) (h:Heap) (tk:Nat) (acc:Array Value) (n:Nat) (ys:List V),xs.drop i=r->i<=xs.length->C.Rep (ρ++ρ') h Y'->cW C (ρ++ρ') S->h.get? S=some (mC acc n)->aU (VR (ρ++ρ')) ys acc.toList->ys.length=i->
   dY cl f m kt l k xs i r Y'≠.bad->
   (∀zs τ ρ'' h' tk' acc' n',dY cl f m kt l k xs i r Y'=.ok zs τ->C.Rep (ρ++ρ'') h' τ->h'.get? S=some (mC acc' n')->aU (VR (ρ++ρ'')) (ys++zs) acc'.toList->R (.ok (.ret res)) {s with heap:=h',toks:=tk'})->
   codeAny (model C.prog C.w) A (.builtin "list.extend.loop" ⟨[.ref S,.ref ma,res],[]⟩) R {s with heap:=h,toks:=tk}:=by
 intro r;induction r with
 |nil=>
  intro i Y' ρ' h tk acc n ys hd hi R' ap hS hys hyl hb hR;refine lU λ G toG=>?_
  have hok:Dc f m kt l k i xs Y'=true:=ado hb;refine Ke (s:={s with heap:=h,toks:=tk}) R' hok (aH hm) λ ta ita nt la cl' nl m1 t1 i0 hit l1 l2 i2 _=>?_
  refine toG (codeAny_builtin PySem.F.entry_extend_loop ?_);refine wpAny_bind (XS (A:=A.in1) (s:={s with heap:=h,toks:=tk}) hh m1 t1 hit (IsL.isList l1) ?_ λ hH hs hoi=>?_)
  ·rw[Array.getElem?_eq_none_iff,cg l2];exact List.drop_eq_nil_iff.mp hd
  obtain⟨oi,hoi⟩:=hoi;exact wpAny_pure (hR [] _ ρ' hH tk acc n (if_pos hok) (Rep.upd1 R' hkk i0 hs hoi trivial) (hs S _ (λ q=>ap.notIn (q▸List.mem_of_getElem? i0)) hS) (by rw[List.append_nil];exact hys))
 |cons x r ih=>
  intro i Y' ρ' h tk acc n ys hd hi R' ap hS hys hyl hb hR;refine lU λ G toG=>?_
  have hok:Dc f m kt l k i xs Y'=true:=ado hb;refine Ke (s:={s with heap:=h,toks:=tk}) R' hok (aH hm) λ ta ita nt la cl' nl m1 t1 i0 hit l1 l2 i2 hmi=>?_
  have hil:i < xs.length:=Nat.lt_of_not_le λ q=>by rw[List.drop_eq_nil_of_le q]at hd;contradiction
  rw[List.drop_eq_getElem_cons hil]at hd;obtain⟨c,hc,hcv⟩:=l2.get ((List.getElem?_eq_getElem hil).trans (congrArg some (List.cons.inj hd).1));have e0:dY cl f m kt l k xs i (x::r) Y'=_:=if_pos hok;obtain⟨y,σ₁,hy,e1⟩:=bindN_ok (pL e0.symm hb);replace e0:=e0.trans e1;obtain⟨zs0,τ0,hz,-⟩:=bindN_ok (pL e0.symm hb);refine toG (codeAny_builtin PySem.F.entry_extend_loop ?_);show wpAny _ A.in1 (pyNext (.ref ma) >>= _) _ _ _;refine wpAny_bind (TY (s:={s with heap:=h,toks:=tk}) m1 t1 hit (IsL.isList l1) (by rw[<-Array.getElem?_toList];exact hc) hmi λ hH hit1 hs=>lU λ G toG=>?_);obtain⟨oi,q1,q2,q3⟩:=hit1;obtain⟨g,g1,g2,Rg,g3⟩:=Rep.strong (Rep.upd1 R' hkk i0 hs.extBut q1 ⟨la,i2,q2,q3⟩:C.Rep (ρ++ρ') hH (Y'.upd k (.eit l (i+1))));have hgS:=g3 S _ ((hs.2 S (λ q=>ap.notIn (q▸List.mem_of_getElem? i0))).trans hS) ap;refine toG (Cx.Snd.calm (C:=C.on g) (hcall g g1 (s:={s with heap:=hH,toks:=tk}) (by rw[List.length_append];exact Nat.le_trans hk0 (Nat.le_add_right ..)) (aH hfi) Rg hcv) (by rw[hy];nofun) (by rw[hy];nofun) λ y' σ₂ cy hV tk2 ρ2 e6 RC hvy=>?_);simp only[<-(ak.ok.inj (hy.symm.trans e6)).2]at RC;rw[<-(ak.ok.inj (hy.symm.trans e6)).1]at hvy;have hS2:hV.get? S=some (mC acc n):=Mine.Rep.keep RC S _ hgS;have ap2:cW C (ρ++ρ'++ρ2) S:=cW.stay ap hgS RC (by rw[List.length_append];exact Nat.le_trans hk0 (Nat.le_add_right ..));have hz0:acc.size=i:=by rw[<-Array.length_toList,<-hys.length,hyl]
  have hbig:i+1<=sizeLine:=Nat.le_trans (Nat.le_trans hil hsm) (by decide);refine wpAny_bind (wpAny_updateSeq hS2 rfl (wpAny_pure ⟨plainId_quiet PySem.F.plain_extend_loop _,?_⟩) (by rw[hz0];exact Nat.le_of_succ_le hbig) (by rw[Array.size_push,hz0];exact Nat.le_succ_of_le hbig));have RE:C.Rep (ρ++ρ'++ρ2) (hV.update S (Obj.mapSeq (·.push cy))) σ₁:=Rep.other (Rep.weak (C:=C) g1 hsys RC) (Heap.SameBut.update ..).extBut ap2 hn;rw[List.append_assoc]at RE ap2;refine ih (i+1) σ₁ (ρ'++ρ2) _ tk2 (acc.push cy) _ (ys++[y]) ((List.cons.inj hd).2) hil RE ap2 (Heap.get?_update_self (Obj.mapSeq (·.push cy)) hS2 rfl) ?_ (by rw[List.length_append,hyl];rfl) (by rw[hz];nofun) λ zs τ ρ'' h' tk' acc' n' e RF hS4 hv4=>hR (y::zs) τ ρ'' h' tk' acc' n' (e0.trans (by rw[e];rfl)) RF hS4 (by rw[List.append_assoc]at hv4;exact hv4)
  rw[Array.toList_push,<-List.append_assoc];exact(hys.mono λ _ _=>VR.mono).append (.cons hvy .nil)
end
section
variable {prog:Program}{w:World}{A:Around}{E:Value->Shared->Prop}{s:Shared}
theorem X4{m t f:Addr}(hm:s.heap.get? m=some (nP t f)){Q:Value->Shared->Prop}(h:Q (.ref m) s):wpAny (model prog w) A (pyIter (.ref m)) Q E s:=by
 have hT:s.TypeIs (.ref m) "map":=⟨_,hm,rfl⟩;refine wpAny_pyIter_slot hT MP.slot_iter (wpAny_call_entry MP.slot_iter hT MP.entry_iter ?_ (MP.args_iter _));exact wpAny_pure ⟨_,rfl,"map",_,hT,MP.slot_next.lookup,h⟩
theorem Kf{m t f:Addr}(hm:s.heap.get? m=some (nP t f)){Q:List Value->Shared->Prop}
  (h:∀h',Sub s.heap h'->h'.get? s.heap.objs.size=some (mC #[] 2)->codeAny (model prog w) A (.builtin "list.extend.loop" ⟨[.ref s.heap.objs.size,.ref m,.ref s.heap.objs.size],[]⟩)
   (λ r s'=>∃acc n,r=.ok (.ret (.ref s.heap.objs.size))/\s'.heap.get? s.heap.objs.size=some (mC acc n)/\Q acc.toList s') {s with heap:=h'}):wpAny (model prog w) A (collect (.ref m)) Q E s:=by
 have hm1:(s.heap.push {cls:=.type "list",data:=.seq ([]:List Value).toArray}).get? m=some (nP t f):=Heap.get?_push_of_some _ hm;have hT1:({s with heap:=s.heap.push {cls:=.type "list",data:=.seq ([]:List Value).toArray}}:Shared).TypeIs (.ref m) "map":=⟨_,hm1,rfl⟩;refine wpAny_bind (wpAny_runValue (codeAny_builtin PySem.F.entry_proto_collect ?_));refine wpAny_bind (wpAny_newObj_type ?_);refine wpAny_pure ⟨plainId_quiet PySem.F.plain_list_iadd _,codeAny_builtin PySem.F.entry_list_iadd ?_⟩;show wpAny _ A.in1 (Builtin.List.listExtendWith (.ref s.heap.objs.size) (.ref m) (.ref s.heap.objs.size)) _ _ _;refine wpAny_bind (wpAny_typeOf hT1 ?_);have h1:Builtin.List.listSameRef (.ref s.heap.objs.size) (.ref m)=false:=by simp[Builtin.List.listSameRef,(Nat.ne_of_gt (Heap.lt_size hm))]
 dsimp only[h1,if_false];simp only[h1,if_false];refine wpAny_bind (X4 hm1 ?_);refine wpAny_bind (wpAny_holding ?_);refine wpAny_bind (wpAny_specialOf hT1 MP.no_len ?_);refine wpAny_bind (wpAny_specialOf hT1 MP.no_hint ?_);refine wpAny_pure ?_;show wpAny _ A.in1 (rule "list.extend.makes-room" >>= λ _=>Builtin.List.listTouch (.ref s.heap.objs.size) >>= λ _=>
  again (.builtin "list.extend.loop" ⟨[.ref s.heap.objs.size,.ref m,.ref s.heap.objs.size],[]⟩)) _ _ _
 refine wpAny_bind (wpAny_rule ?_);have hSA:(s.heap.push {cls:=.type "list",data:=.seq ([]:List Value).toArray}).get? s.heap.objs.size=some {cls:=.type "list",data:=.seq ([]:List Value).toArray}:=Heap.get?_push_size _ rfl;refine wpAny_bind ?_;refine wpAny_bind (wpAny_updateSeq hSA rfl ?_);have hSB:=Heap.get?_update_self (Obj.mapSeq (·.push Value.none)) hSA rfl;refine wpAny_updateSeq hSB rfl ?_;have oth:∀b o,s.heap.get? b=some o->
   (((s.heap.push {cls:=.type "list",data:=.seq ([]:List Value).toArray}).update s.heap.objs.size (Obj.mapSeq (·.push Value.none))).update s.heap.objs.size (Obj.mapSeq (·.pop))).get? b=some o:=
  λ b o e=>(Heap.get?_update_other _ _ (Nat.ne_of_gt (Heap.lt_size e))).trans ((Heap.get?_update_other _ _ (Nat.ne_of_gt (Heap.lt_size e))).trans (Heap.get?_push_of_some _ e))
 refine wpAny_pure ⟨plainId_quiet PySem.F.plain_extend_loop _,codeAny_mono (h _ oth (Heap.get?_update_self (Obj.mapSeq (·.pop)) hSB rfl)) λ r s' z=>?_⟩;obtain⟨acc,n,rfl,z1,z2⟩:=z;exact wpAny_bind (wpAny_load z1 (wpAny_pure z2))
theorem T5{m t f:Addr}(hm:s.heap.get? m=some (nP t f)){Q:Value->Shared->Prop}
  (h:wpAny (model prog w) A.in1.in1 (collect (.ref m)) (λ vs s'=>vs.length<=sizeLine/\Q (.ref s'.heap.objs.size) {s' with heap:=s'.heap.push {cls:=.type "tuple",data:=.seq vs.toArray}}) E s):wpAny (model prog w) A (call (.type "tuple") [.ref m]) Q E s:=by
 have hT:s.TypeIs (.ref m) "map":=⟨_,hm,rfl⟩;refine callType_codes (Q₁:=λ obj sA=>sA.TypeIs obj "tuple"/\Q obj sA) PySem.F.called_tuple (PySem.F.typeCall_tuple_1 _) PySem.F.entry_object_init ?_ λ obj sA hH=>?_
 ·refine codeAny_of_tree ?_;refine wpAny_bind (wpAny_of_eq (PySem.F.newCall_tuple_1 _) (wpAny_pure ⟨plainId_quiet PySem.F.plain_tuple_new _,codeAny_builtin PySem.F.entry_tuple_new ?_⟩));rw[Around.under_plainId PySem.F.plain_tuple_new _];have hsub:=sub_tuple_self;have hinit:=init_tuple_lookup;have hmh:=madeHere_tuple;have hc:∀{Q':List Value->Shared->Prop}{E':Value->Shared->Prop},((∀vs s',(vs.length<=sizeLine/\Q (.ref s'.heap.objs.size) {s' with heap:=s'.heap.push {cls:=.type "tuple",data:=.seq vs.toArray}})->Q' vs s')/\∀e s',E e s'->E' e s')->wpAny (model prog w) A.in1.in1 (collect (.ref m)) Q' E' s:=λ x=>wpAny_mono h x.1 x.2
  wp_walk using wpAny_typeOf hT,hc
  refine⟨λ vs s' q=>?_,λ e s' q=>q⟩;show wpAny _ _ (Builtin.Tuple.tupleExact vs.toArray >>= λ v=>ret v) _ _ _;refine wpAny_bind (wpAny_newObj_type ?_ (by show vs.toArray.size<=sizeLine;simpa using q.1));exact wpAny_pure ⟨⟨_,Heap.get?_push_size _ rfl,rfl⟩,q.2⟩
 ·exact⟨hH.1,PySem.F.args_object_init_2 obj _,object_init_meets PySem.F.called_tuple.init.lookup PySem.F.called_tuple.made (by decide) prog w A.in1 _ sA ⟨hH.1,rfl,hH.2⟩⟩
end
section
variable {C:Cx}{A:Around}{ρ:List Addr}{s:Shared}{Y:St}{en:En}{env:Env}{d:Nat}
theorem aW.bare(EV:aW C A ρ en env){ρ':List Addr}(h1:k0<=ρ'.length)(h2:ρ'[0]?=some lZ):aW C A ρ' {en with cells:=[]} env:=
 ⟨EV.scope,EV.kind,EV.locals,EV.globals,EV.builtins,λ x k e=>(nomatch e),EV.free,EV.units,EV.room,h2,h1,EV.own⟩
theorem X5(hc:lG d)(W:qD d C)(EV:aW C A ρ en env)(hfree:en.free=true)(hown:en.own=true)(R:C.Rep ρ s.heap Y){a:Nat}{args:List V}{cvs:List Value}(hv:aU (VR ρ) args cvs):
  C.Snd A (call (.ref a) cvs) ρ (ao d a args Y) VR s:=λ hbad=>
 wpAny_call (codeAny_mono (hc W EV hown (EV.free hfree) rfl (by have:=EV.room.1;lia) EV.room.2 R hv hbad) λ r s' x=>by
  induction r with
  |error e=>exact x
  |ok f=>induction f<;>exact x)
theorem NQ(hc:lG d)(W:qD d C)(EV:aW C A ρ en env)(hfree:en.free=true)(hown:en.own=true)(R:C.Rep ρ s.heap Y){m f kt k l:Nat}{xs:List V}{c:Value}(h:VR ρ (.ref m) c)(e:Y.sto[m]?=some (.mapo f kt))(hs:small xs.length=true)(hk:k0<=k):
  C.Snd A (call (.type "tuple") [c]) ρ ((dY (ao d) f m kt l k xs 0 xs Y).bindN λ ys Y=>Y.new (.tup ys)) VR s:=by
 obtain⟨ma,ha,rfl⟩:=h;obtain⟨cm,m1,ta,m2,rfl⟩:=R.objs _ _ _ e ha;intro hb;obtain⟨zs,τ,hz,hb2⟩:=bindN_ok hb;rw[hb2];have hA:=EV.free hfree;refine T5 m1 (Kf m1 λ hH k1 hS=>?_);have hSn:s.heap.get? s.heap.objs.size=none:=Heap.get?_none_of_le (Nat.le_refl _);refine X3 (A:=A.in1.in1) (cl:=ao d) (f:=f) (m:=m) (kt:=kt) (l:=l) (k:=k) (xs:=xs) hA (by simpa [small]using hs) EV.stat EV.files ha hk (dF (λ b o e=>Mine.Rep.keep R b o e) hSn) (Mine.Rep.sysIn R) (λ g hg ρ' s' Y' x cx q1 q2 R' hx=>?_)
  xs 0 Y [] hH s.toks #[] 2 [] rfl (Nat.zero_le _) (by rw[List.append_nil];exact R.junk k1) (by rw[List.append_nil];exact cW.new R hSn) hS .nil rfl (by rw[hz];nofun) λ zs' τ' ρ'' h' tk' acc n e1 RC hS2 hv2=>?_
 ·intro hbad;have EV':aW (C.on g) A ρ' {en with cells:=[]} env:=aW.bare (aW.on EV) q1 q2;refine wpAny_call (codeAny_mono (hc (C:=C.on g) (A:=A.in1.in1.in1.in1) (A₀:=A) (W.on hg) EV' hown hA rfl ?_ EV.room.2 R' (.cons hx .nil) hbad) λ r s' x=>?_)
  ·have:=EV.room.1;show A.units+1+1+1+1+10*C.room+93 < cLine;lia
  ·induction r with
   |error e=>exact x
   |ok f=>induction f<;>exact x
 ·rw[hz]at e1;cases e1;refine⟨acc,n,rfl,hS2,?_,?_⟩
  ·have h1:acc.toList.length=zs.length:=hv2.length.symm;have h2:zs.length<=xs.length:=by
    have:∀(r:List V) (i:Nat) (Y:St) (zs:List V) (τ:St),dY (ao d) f m kt l k xs i r Y=.ok zs τ->zs.length<=r.length:=by
     intro r;induction r with
     |nil=>
      intro i Y zs τ e;dsimp only[dY]at e;split at e
      ·cases e;exact Nat.le_refl _
      ·first|exact ns e|exact jz e|contradiction
     |cons x r ih=>
      intro i Y zs τ e;dsimp only[dY]at e;split at e
      ·have hne:(ao d f [x] (Y.upd k (.eit l (i+1)))).bindN (λ y Y=>(dY (ao d) f m kt l k xs (i+1) r Y).bindN λ ys Y=>.ok (y::ys) Y)≠.bad:=by rw[e];nofun
       obtain⟨y,σ₁,e1,e2⟩:=bindN_ok hne;rw[e2]at hne;obtain⟨ys,σ₂,e3,e4⟩:=bindN_ok hne;simp only[e2,e4]at e;clear e4;cases e;exact Nat.succ_le_succ (ih _ _ _ _ e3)
      ·first|exact ns e|exact jz e|contradiction
    exact this _ _ _ _ _ hz
   have h3:xs.length<=100000:=of_decide_eq_true hs;rw[h1,sizeLine_eq];lia
  ·have RE:=Rep.push (co:={cls:=.type "tuple",data:=.seq acc.toList.toArray}) (o:=.tup zs) RC rfl ⟨acc.toList.toArray,0,rfl,by simpa using hv2.mono λ _ _=>VR.mono⟩;refine⟨_,_,h'.push {cls:=.type "tuple",data:=.seq acc.toList.toArray},tk',ρ''++[h'.objs.size],rfl,rfl,by rw[<-List.append_assoc];exact RE,h'.objs.size,?_,rfl⟩;rw[<-(Mine.Rep.len RC)];simp
end
section
variable {C:Cx}{A:Around}{ρ:List Addr}{s:Shared}{Y:St}{en:En}{env:Env}{d:Nat}
theorem aew{v:V}{cvs:List Value}(h:aU (VR ρ) [v] cvs):∃c,cvs=[c]/\VR ρ v c:=by
 cases h with|cons h1 h2=>cases h2;exact⟨_,rfl,h1⟩
theorem aim{v u:V}{cvs:List Value}(h:aU (VR ρ) [v,u] cvs):∃c d,cvs=[c,d]/\VR ρ v c/\VR ρ u d:=by
 cases h with|cons h1 h2=>obtain⟨d,rfl,h3⟩:=aew h2;exact⟨_,d,rfl,h1,h3⟩
theorem G9{v:V}{i:Int}(h:v.int? =some i):v=.int i:=by induction v<;>first|exact ns h|(cases h;rfl)
theorem ab2{v:V}{i:Str}(h:v.str? =some i):v=.str i:=by induction v<;>first|exact ns h|(cases h;rfl)
theorem aex{v:V}{i:Nat}(h:v.fn? =some i):v=.fn i:=by induction v<;>first|exact ns h|(cases h;rfl)
theorem Hf{v:V}{i:Nat}(h:v.ref? =some i):v=.ref i:=by induction v<;>first|exact ns h|(cases h;rfl)
theorem nQ{f:Value}{F:V->ak V}{args:List V}{cvs:List Value}(h:∀v c,VR ρ v c->C.Snd A (call f [c]) ρ (F v) VR s)(hv:aU (VR ρ) args cvs):C.Snd A (call f cvs) ρ (onS (jD args) F) VR s:=.onS λ v e=>by
 rw[fJ e]at hv;obtain⟨c,_,e,q1,q⟩:=hv.cons_inv;rw[e,q.nil_inv];exact h _ _ q1
theorem Al{f:Value}{F:V×V->ak V}{args:List V}{cvs:List Value}(h:∀v c d,VR ρ v.1 c->VR ρ v.2 d->C.Snd A (call f [c,d]) ρ (F v) VR s)(hv:aU (VR ρ) args cvs):C.Snd A (call f cvs) ρ (onS (Ca args) F) VR s:=.onS λ v e=>by
 rw[pO e]at hv;obtain⟨c,d,e,q1,q2⟩:=hv.two;rw[e];exact h _ _ _ q1 q2
theorem Q0{t:Sem Value}{v:V}{c:Value}{F:Int->ak V}(hv:VR ρ v c)(h:∀i,VR ρ (.int i) c->C.Snd A t ρ (F i) VR s):C.Snd A t ρ (onS v.int? F) VR s:=.onS λ i e=>h i (G9 e▸hv)
theorem um{t:Sem Value}{v:V}{c:Value}{F:Nat->ak V}(hv:VR ρ v c)(h:∀i,VR ρ (.ref i) c->C.Snd A t ρ (F i) VR s):C.Snd A t ρ (onS v.ref? F) VR s:=.onS λ i e=>h i (Hf e▸hv)
theorem nR{f:Value}{args:List V}{cvs:List Value}{k:Nat->List V->ak V}(h:∀l xs c,VR ρ (.ref l) c->Y.sto[l]?=some (.list xs)->C.Snd A (call f [c]) ρ (k l xs) VR s)(hv:aU (VR ρ) args cvs):C.Snd A (call f cvs) ρ (tK args Y k) VR s:=
 nQ (λ _ _ hc=>um hc λ l hc=>.onS λ xs e=>h l xs _ hc (cV e)) hv
theorem Kg{a:Nat}{x:List Str}(h:qu Y a=some x):∃xs,Y.sto[a]?=some (.list xs)/\dW xs=some x:=by
 obtain⟨xs,h1,h2⟩:=Option.bind_eq_some_iff.mp h;exact⟨xs,cV h1,h2⟩
theorem Kh(gt:Bool)(R:C.Rep ρ s.heap Y)(hA:A.handled=none)(hu:AUn A){args:List V}{cvs:List Value}(hv:aU (VR ρ) args cvs):C.Snd A (call (mmV gt) cvs) ρ (zy gt args Y) VR s:=
 nR (λ l vs c hc e=>.onS λ p e2=>.onS λ a ea=>.onS λ b eb=>.onS λ x ex=>.onS λ y ey=>by
  rw[pO e2,Hf ea,Hf eb]at e;obtain⟨xs,f1,f2⟩:=Kg ex;obtain⟨ys,g1,g2⟩:=Kg ey;have:=aer gt R hA hu hc e f1 g1 f2 g2;induction gt<;>exact this) hv
theorem X6(R:C.Rep ρ s.heap Y){args:List V}{cvs:List Value}(hv:aU (VR ρ) args cvs):C.Snd A (call (Bi.len).val cvs) ρ (rU args Y) VR s:=by
 refine nQ (λ v c h=>?_) hv;induction v with
 |str x=>exact .cond λ hs=>Nx R h hs
 |ref l=>
  refine .onB λ o e=>?_
  induction o with
  |list xs=>exact .cond λ hs=>JS R h e hs
  |tup xs=>exact .cond λ hs=>Ny R h e hs
  |_=>exact .of_bad
 |_=>exact .of_bad
theorem Kl(R:C.Rep ρ s.heap Y)(hA:A.handled=none){args:List V}{cvs:List Value}(hv:aU (VR ρ) args cvs):C.Snd A (call (Bi.sorted).val cvs) ρ (nu args Y) VR s:=by
 refine nQ (λ _ _ h=>um h λ l h=>.onB λ o e=>?_) hv;induction o with
 |dict kvs ep=>exact .cond λ hs=>Ai R hA h e (by rw[List.length_map]at hs;exact hs)
 |tup xs=>exact .onS λ ss hs=>.cond λ h64=>Cw R h e hs h64
 |_=>exact .of_bad
open Classical in
theorem Km(R:C.Rep ρ s.heap Y){args:List V}{cvs:List Value}(hv:aU (VR ρ) args cvs):C.Snd A (call (Bi.isinstance).val cvs) ρ (gF args Y) VR s:=by
 refine Al (λ⟨v,u⟩ c d h1 h2=>?_) hv;induction u with
 |bi b=>
  refine .onS λ x e=>.cond λ hb=>?_
  cases hb;obtain rfl:d=.type "bytes":=h2;exact Ae R (ab2 e▸h1)
 |ref t=>exact .cond λ hq=>Cv R h1 hq.1 h2 hq.2
 |_=>exact .of_bad
theorem X7(R:C.Rep ρ s.heap Y)(hA:A.handled=none)(hu:AUn A){args:List V}{cvs:List Value}(hv:aU (VR ρ) args cvs):C.Snd A (call (Bi.min).val cvs) ρ (I9 args Y) VR s:=by
 unfold I9;induction q:ac4 args with
 |none=>exact Kh false R hA hu hv
 |some p=>
  obtain⟨u,h1,h2⟩:=Option.bind_eq_some_iff.mp q;obtain⟨i,h3,h4⟩:=Option.bind_eq_some_iff.mp h2;obtain⟨j,h5,h6⟩:=Option.map_eq_some_iff.mp h4;rw[pO h1,G9 h3,G9 h5]at hv;obtain⟨c,d,e,q1,q2⟩:=hv.two;rw[e,<-h6];exact Xv R q1 q2 hA
inductive ab3(m f kt:Nat)(Y:St)(cl:Nat->List V->St->ak V):Prop
 |mk (k l:Nat) (xs:List V) (hs:small xs.length=true) (hk:k0<=k) (e:tH cl m f kt Y=(dY cl f m kt l k xs 0 xs Y).bindN λ ys Y=>Y.new (.tup ys))
theorem NT{m f kt:Nat}{cl:Nat->List V->St->ak V}(h:tH cl m f kt Y≠.bad):ab3 m f kt Y cl:=by
 obtain⟨u,e1,h1⟩:=vV (Eq.refl (tH cl m f kt Y)) h;obtain⟨k,e2,h2⟩:=vV h1 h;obtain⟨p,e3,h3⟩:=vV h2 h;obtain⟨xs,e4,h4⟩:=vV h3 h;obtain⟨hq,h5⟩:=zW h4 h;simp only[Bool.and_eq_true,decide_eq_true_eq]at hq;exact⟨k,p.1,xs,hq.1.1,hq.1.2,h5.symm⟩
theorem X8(hc:lG d)(W:qD d C)(EV:aW C A ρ en env)(hfree:en.free=true)(hown:en.own=true)(R:C.Rep ρ s.heap Y){args:List V}{cvs:List Value}(hv:aU (VR ρ) args cvs):C.Snd A (call (Bi.tuple).val cvs) ρ (agr (ao d) args Y) VR s:=by
 refine nQ (λ _ _ h=>um h λ m h=>.onS λ o e=>?_) hv;induction o with
 |list xs=>exact .cond λ hs=>JT R h e hs
 |mapo f kt=>
  intro hb;obtain⟨k,l,xs,hs,hk,e'⟩:=NT (m:=m) (f:=f) hb;refine(?_:C.Snd A _ ρ (tH (ao d) m f kt Y) VR s) hb;rw[e'];exact NQ hc W EV hfree hown R h e hs hk
 |_=>exact .of_bad
open Classical in
theorem Ko(hc:lG d)(W:qD d C)(EV:aW C A ρ en env)(hfree:en.free=true)(hown:en.own=true)(R:C.Rep ρ s.heap Y){f:Bi}{args:List V}{cvs:List Value}(hv:aU (VR ρ) args cvs):
  C.Snd A (call f.val cvs) ρ (b8 (ao d) f args Y) VR s:=by
 have hA:=EV.free hfree;induction f with
 |abs=>exact nQ (λ _ _ h=>Q0 h λ i h=>abU R h) hv
 |len=>exact X6 R hv
 |sorted=>exact Kl R hA hv
 |iter=>exact nR (λ l xs c h e=>Xy R h e) hv
 |issubclass=>
  refine Al (λ v c d h1 h2=>um h2 λ t h2=>.cond λ hq=>?_) hv;rw[hq.1]at h1;obtain rfl:c=.type "str":=h1;exact Tz R h2 hq.2
 |isinstance=>exact Km R hv
 |min=>exact X7 R hA EV.units hv
 |max=>exact Kh true R hA EV.units hv
 |range=>exact nQ (λ _ _ h=>Q0 h λ n h=>.cond λ hq=>Tw R h hq.1 hq.2) hv
 |tuple=>exact X8 hc W EV hfree hown R hv
 |bool=>exact nR (λ l xs c h e=>.cond λ hs=>G6 R h e hs) hv
 |set=>
   refine .cond λ hq=>?_
   induction hv with
   |nil=>exact Xu R
   |cons _ _=>exact jz hq
 |type=>exact nQ (λ v c h=>.onS λ b e=>Nz R h e) hv
 |map=>exact Al (λ v c d h1 h2=>.onS λ f ef=>um h2 λ l h2=>.onS λ xs e=>by
   rw[aex ef]at h1;obtain rfl:c=.ref _:=h1;exact ab0 R h2 (cV e)) hv
 |enumerate=>exact nR (λ l xs c h e=>Xx R h e) hv
 |_=>exact .of_bad
end
section
variable {C:Cx}{A:Around}{ρ:List Addr}{s:Shared}{Y:St}{en:En}{env:Env}{d:Nat}
set_option tactic.hygienic true in
theorem Yb(W:Wf C)(R:C.Rep ρ s.heap Y){v:V}{c:Value}{x:Str}(hv:VR ρ v c):C.Snd A (getAttr c x true) ρ (bJ v x Y) VR s:=by
 induction v
 case ref i=>
  by_cases h:∃l j,Y.sto[i]?=some (.liter l j)
  ·obtain⟨l,j,e⟩:=h;refine(Cx.Snd.onS λ o e'=>?_:C.Snd A _ ρ (onS (Y.sto[i]?) (Wa i x Y)) VR s);cases e.symm.trans e';refine .grd λ hx=>?_
   cases eq_of_beq hx;exact TV R hv e
  ·exact Tt W R hv λ l j e=>h ⟨l,j,e⟩
 all_goals exact .of_bad
set_option tactic.hygienic true in
theorem Kp(W:Wf C)(R:C.Rep ρ s.heap Y){v u:V}{c d:Value}{x:Str}(hv:VR ρ v c)(hu:VR ρ u d):C.Snd A (setAttr c x d) ρ (aX v x u Y) jH s:=by
 induction v
 case ref i=>exact G5 W R hv hu
 all_goals exact .of_bad
theorem ye{a:Nat}{args:List V}{Y:St}(h:ao d a args Y≠.bad):a=137\/a=40\/∃f,jG a=some f:=by
 induction d with
 |zero=>exact absurd rfl h
 |succ d=>
  by_cases h1:a=137
  ·exact .inl h1
  by_cases h2:a=40
  ·exact .inr (.inl h2)
  rw[sJ _ _ _ _ h1 h2]at h;induction hf:jG a with
  |none=>rw[hf]at h;exact absurd rfl h
  |some f=>exact .inr (.inr ⟨f,rfl⟩)
set_option tactic.hygienic true in
theorem Yc(hc:lG d):sG d (ao d):=λ C A en env W=>
 {wf:=W.1
  attr:=λ R hv=>Yb W.1 R hv
  setAttr:=λ R hv hu=>Kp W.1 R hv hu
  callee:=λ pl R hv h=>Nv W.1 R pl hv h
  keep:=λ{ρ s Y f cf vs} R hv h=>by
   unfold zA at h;induction f
   case fn a=>
    dsimp only at h;split at h
    ·obtain rfl:cf=.ref a:=hv;exact QZ W.1 R (ye h)
    ·exact absurd rfl h
   case bi b=>
    clear h;obtain rfl:cf=b.val:=hv;induction b<;>exact⟨.machine,.inr (.inl rfl),Looks.now⟩
   case ref k=>
    dsimp only at h;split at h
    ·obtain⟨it,e,_⟩:=vV (Eq.refl (Dd k _)) h;obtain⟨a,ha,rfl⟩:=hv;obtain⟨co,h1,ita,h2,rfl⟩:=R.objs _ _ _ (lY (g:=.bnext) (λ _ _=>Dj) e) ha;exact TQ h1
    ·exact absurd rfl h
   all_goals exact absurd rfl h
  call:=λ{ρ s Y f cf vs cvs} EV R hv hvs=>by
   unfold zA;induction f
   case fn a=>
    dsimp only;split
    ·rename_i hq
     rw[Bool.and_eq_true]at hq;obtain rfl:cf=.ref a:=hv;exact X5 hc W EV hq.1 hq.2 R hvs
    ·exact .of_bad
   case bi b=>
    dsimp only;split
    ·rename_i hq
     rw[Bool.and_eq_true]at hq;obtain rfl:cf=b.val:=hv;exact Ko hc W EV hq.1 hq.2 R hvs
    ·exact .of_bad
   case ref k=>
    dsimp only;split
    ·rename_i hq
     simp only[Bool.and_eq_true]at hq;induction vs with
     |nil=>cases hvs;exact XH R (EV.free hq.1.1) hv
     |cons _ _=>cases hq.2
    ·exact .of_bad
   all_goals exact .of_bad
  keepU:=λ{ρ s Y f c vs} R h=>by
   unfold vL at h;dsimp only at h;split at h
   ·exact QZ W.1 R (ye h)
   ·exact absurd rfl h
  callU:=λ{ρ s Y f v c vs cvs} EV R hv hvs=>by
   unfold vL;dsimp only;split
   ·rename_i hq
    rw[Bool.and_eq_true]at hq;exact X5 hc W EV hq.1 hq.2 R (.cons hv hvs)
   ·exact .of_bad}
theorem sO:∀d,lG d
 |0=>Kc
 |d+1=>Kd (Yc (sO d)) (sO d)
end
noncomputable def files:List (List Str):=[["a","x"],["a","b","x"],["a","b","y"],["c","x"],["c","b","z"],["w"]]
noncomputable def yF(ns:List Int):List O:=.list ((List.range 6).map λ i=>.ref (i+1))::files.map (λ p=>.list (p.map .str))++[.list (ns.map .int)]
noncomputable def lH(sa:Addr):List Addr:=[290,284,285,286,287,288,289,sa]
theorem Yd{α:Type}{a:α}{Y:St}:ak.ok a Y≠.bad:=λ h=>by cases h
theorem Ye{prog:Program}{w:World}{sa:Addr}{h:Heap}{ns:List Int}(hobj:∀(i:Nat) o x,(yF ns)[i]?=some o->(lH sa)[i]?=some x->∃co,h.get? x=some co/\OR prog w (lH sa) o co){x:Addr}(hx:x∈lH sa):∃co,h.get? x=some co:=by
 obtain⟨i,hi,e⟩:=List.getElem_of_mem hx;obtain⟨co,h1,_⟩:=hobj i _ x (List.getElem?_eq_getElem (show i < (yF ns).length from hi)) (by rw[List.getElem?_eq_getElem hi,e]);exact⟨co,h1⟩
theorem T6{f:Fn}{v:V}{Y σ₁:St}{bs:List (Str×V)}(hva:f.params.vararg=none)(hnodef:¬ [v].length+1=f.params.args.length)(hbm:xP f [v] Y=some (bs,σ₁)):
  (f.params.posonlyargs=[]/\f.params.kwonlyargs=[]/\f.params.kwarg=none)/\σ₁=Y/\∃x,f.params.args.map (·.arg)=[x]/\bs=[(x,v)]:=by
 unfold xP at hbm;by_cases hc:(f.params.posonlyargs.isEmpty&&f.params.kwonlyargs.isEmpty&&f.params.kwarg.isNone&&[v].length<=1000)=true
 ·rw[if_pos hc,hva]at hbm;simp only[Bool.and_eq_true,List.isEmpty_iff,Option.isNone_iff_eq_none]at hc;refine⟨⟨hc.1.1.1,hc.1.1.2,hc.1.2⟩,?_⟩;dsimp only at hbm;by_cases hl:[v].length=f.params.args.length
  ·rw[if_pos hl]at hbm;obtain⟨rfl,rfl⟩:=Prod.mk.inj (Option.some.inj hbm);generalize f.params.args=l at hl;match l,hl with
   |[y],_=>exact⟨rfl,y.arg,rfl,rfl⟩
  ·rw[if_neg hl,if_neg (by simp only[Bool.and_eq_true,decide_eq_true_eq];exact λ q=>hnodef q.1)]at hbm;contradiction
 ·rw[if_neg hc]at hbm;contradiction
set_option tactic.hygienic true in
theorem T7{l:List (Str×Option V)}{r:ak Fl}{b:Bool}{τ:St}(h:vY l r=.ok (.bool b) τ):∃Y',r=.ok (.ret (.bool b)) Y':=by
 induction r with
 |ok f Y'=>induction f with
  |ret v=>obtain⟨rfl,_⟩:=ak.ok.inj h;exact⟨Y',rfl⟩
  |next=>nomatch h
  |brk=>nomatch h
  |cont=>nomatch h
 |exc=>nomatch h
 |bad=>nomatch h
noncomputable def Cx.top(prog:Program)(w:World)(h₀:Heap)(L:Addr)(d:Nat):Cx:={prog:=prog,w:=w,h₀:=h₀,FS:=[],L:=L,room:=d}
theorem ab4{d:Nat}{prog:Program}{w:World}{g hV:Heap}{ns:List Int}{sa:Addr}{f:Fn}{px:Str}{L':Addr}{cenv:Env}(X:yV f g [(px,.ref sa)] L' cenv hV)(hloc:f.scope.names.lookup px=some .local)
  (hobj:∀(i:Nat) o x,(yF ns)[i]?=some o->(lH sa)[i]?=some x->∃co,g.get? x=some co/\OR prog w (lH sa) o co) (hnd:(lH sa).Nodup) (hsys:∀x∈lH sa,(x==sysModules)=false) (hsin:(g.get? sysModules).isSome=true) (hlt:∀x∈lH sa,x < L'):
  (Cx.top prog w g L' d).Rep (lH sa) hV ⟨pN [(px,.ref 7)] (rY f.scope),yF ns⟩ where
 keep:=X.keep
 loc:=⟨_,X.ns,Aa (binds:=[(px,.ref sa)]) (.cons ⟨rfl,sa,rfl,rfl⟩ .nil) (List.forall_mem_singleton.mpr hloc) λ y u e=>(yc e).elim⟩
 newL:=X.fresh L' (Nat.le_refl _)
 len:=rfl
 nodup:=hnd
 notL:=λ q=>Nat.lt_irrefl _ (hlt _ q)
 fresh:=λ i a hi e=>absurd (List.getElem?_eq_some_iff.mp e).1 (Nat.not_lt_of_le hi)
 objs:=λ i o a e e'=>let ⟨co,h1,h2⟩:=hobj i o a e e';⟨co,X.keep _ _ h1,h2⟩
 callers:=λ _ h=>absurd h List.not_mem_nil
 sysIn:=hsin
 sys:=hsys
 fsnd:=List.nodup_nil
theorem Yg{d:Nat}{prog:Program}{w:World}{s:Shared}{ns:List Int}{sa:Addr}{f:Fn}{a:Nat}{τ:St}{hb:Heap}(hd100:d<=100)(F0:WR prog w hb)(F2:Mz prog w hb)(kb:∀b o,hb.get? b=some o->s.heap.get? b=some o)(hf:jG a=some f)(hva:f.params.vararg=none)(hnodef:¬ [V.ref 7].length+1=f.params.args.length)
  (hobj:∀(i:Nat) o x,(yF ns)[i]?=some o->(lH sa)[i]?=some x->∃co,s.heap.get? x=some co/\OR prog w (lH sa) o co) (hnd:(lH sa).Nodup) (hsys:∀x∈lH sa,(x==sysModules)=false) (hsin:(s.heap.get? sysModules).isSome=true)
  (hM:oX (ao d) f [.ref 7] {loc:=[],sto:=yF ns}=.ok (.bool true) τ):
  wpAny (model prog w) callerA (call (.ref a) [.ref sa]) (λ v s'=>v=.bool true/\∃h' tk,s'={s with heap:=h',toks:=tk}/\∀b o,s.heap.get? b=some o->h'.get? b=some o) (λ _ _=>False) s:=by
 have F:=F2.fns a f hf;obtain⟨bs,σ₁,hbm,e⟩:=JQ (cl:=ao d) (f:=f) (args:=[.ref 7]) (Y:=⟨[],yF ns⟩) (by rw[hM];exact Yd);obtain⟨⟨p1,p2,p3⟩,rfl,px,p4,rfl⟩:=T6 hva hnodef hbm;simp only[e]at hM;obtain⟨Y',hr⟩:=T7 hM;have hloc:f.scope.names.lookup px=some .local:=F.locals px (.inl (by rw[p4];exact .head _));refine wpAny_call (DK F F2.lim kb (by decide) λ{fd dl} hpar hdl hd1 Q hQ=>?_);rw[<-hpar]at p1 p2 p3 p4 hva;refine z8 p1 p2 p3 hva (by rw[hpar];exact F.names) (by have:=congrArg List.length p4;simpa using this.symm) (λ{Q} q=>hdl _ _ _ _ _ kb q) ?_;rw[p4];refine hQ _ s.heap (λ _ _ e=>e) (List.forall_mem_singleton.mpr hloc) λ cenv L' hV tk2 X=>?_
 have hlt:∀x∈lH sa,x < L':=λ x hx=>Nat.lt_of_not_le λ q=>by
  obtain⟨co,h1⟩:=Ye hobj hx;rw[X.fresh x q]at h1;contradiction
 obtain⟨cs,RC,hcs⟩:=X.rep F.cells (ab4 (d:=d) X hloc hobj hnd hsys hsin hlt) λ b hb=>⟨⟨λ q=>Nat.lt_asymm (hlt _ q) hb,Nat.ne_of_gt hb,λ _ h=>absurd h List.not_mem_nil⟩,X.fresh b (Nat.le_of_lt hb)⟩
 have EV':aW (Cx.top prog w s.heap L' d) (callerA.deeper cenv) (lH sa++cs) {scope:=f.scope,cells:=fH (bM f.scope) (yF ns).length} cenv:=by
  refine⟨X.scope,X.scope▸F.kind,X.locals,X.globals,X.builtins,hcs,λ _=>rfl,by show(4:Nat)+3+100 < cLine;decide,?_,rfl,by simp[lH,k0],λ _=>⟨X.frame,rfl,λ _ h=>absurd h List.not_mem_nil⟩⟩;show(4:Nat)+3+10*d+100 < cLine/\1+claimMargin+1+d < recursionLimit;exact⟨Nat.lt_of_le_of_lt (show 4+3+10*d+100<=1107 by omega) (by decide),Nat.lt_of_le_of_lt (Nat.add_le_add_left hd100 _) (by decide)⟩
 refine codeAny_func (wpAny_mono (cU (GR (Yc (sO d)) 60 _ _ _ _ (⟨⟨hb,F0,kb,F2⟩,Nat.le_refl _⟩)) f.body (s:={s with heap:=hV,toks:=tk2}) EV' RC (by rw[hr];exact Yd)) ?_ ?_)
 ·rintro fl s' ⟨fl',Y',h',tk,ρ',e,rfl,RE,hfl⟩;obtain⟨rfl,rfl⟩:=ak.ok.inj (hr.symm.trans e);obtain⟨c,rfl,hc⟩:=hfl;exact⟨hc,h',tk,rfl,λ b o e=>Mine.Rep.keep RE b o e⟩
 ·rintro e s' ⟨x',Y',h',tk,ρ',e1,rfl,X⟩;rw[hr]at e1;contradiction
noncomputable def qG:List Value->Option (List Str)
 |[]=>some []
 |.str x _::r=>(qG r).map (x::·)
 |_::_=>none
noncomputable def wj:List Value->Option (List Addr)
 |[]=>some []
 |.ref a::r=>(wj r).map (a::·)
 |_::_=>none
noncomputable def Hg(h:Heap)(a:Addr):Option (List Value):=match h.get? a with
 |some ⟨.type t,none,.seq cs _,sl⟩=>if t=="list"&&sl.size==0 then some cs.toList else none
 |_=>none
noncomputable def Yh(h:Heap)(fd:FuncData):Bool:=match fd.code with
 |.ref c=>(match h.get? c with
  |some ⟨_,_,.fields vs,_⟩=>(match(vs[1]?:Option Value)with
   |some (.str q _)=>q==fd.qualname
   |_=>false)
  |_=>false)
 |_=>false
noncomputable def Yi(h:Heap)(fd:FuncData):Bool:=match fd.defaults with
 |.none=>fd.params.defaults.length != 1
 |.ref t=>(match h.get? t with
  |some ⟨_,_,.seq xs _,_⟩=>fd.params.defaults.length != 1||xs==#[.none]
  |_=>false)
 |_=>false
noncomputable def Hh(h:Heap)(a:Nat):Option (Arguments×FuncBody×Scope×Bool):=match h.get? a with
 |some ⟨_,_,.func fd,_⟩=>some (fd.params,fd.body,fd.scope,fd.globals==mainGlobals&&fd.builtins==builtinsNs&&fd.closure.isEmpty&&Yh h fd&&Yi h fd)
 |_=>none
noncomputable def Hi(a:Nat):Option (Arguments×FuncBody×Scope×Bool):=(jG a).map λ f=>(f.params,.stmts f.body,f.scope,true)
noncomputable def qH:List Nat:=zG.map (·.1)++yO.map (·.1)
noncomputable def mD:List Nat:=List.range 340
noncomputable def sS(h:Heap)(as:List Nat):Frag:=as.filterMap λ a=>(h.get? a).map λ o=>(a,o)
noncomputable def Yj(h:Heap):Bool:=match h.get? 55 with
 |some ⟨.type "type",_,.cls cd,sl⟩=>cd.mro==[.ref 55,.type "ValueError",.type "Exception",.type "BaseException",.type "object"]&&!cd.hasDel&&sl.size==6&&(sl[4]?:Option (Option Value))==some (some (.builtin "ValueError.__new__"))&&h.isNs cd.ns&&h.nsMap cd.ns "__init__"==none
 |_=>false
noncomputable def NZ(h:Heap):Bool:=Gb.all (λ p=>h.nsMap mainGlobals p.1==some (.ref p.2))&&Gd.all (λ p=>h.nsMap mainGlobals p.1==none&&h.nsMap builtinsNs p.1==some p.2.val)&&
 h.nsMap mainGlobals "_law_files"==some (.ref 290)&&(match h.nsMap mainGlobals "_NODE_OUT" with|some (.int k _)=>k==-1|_=>false)&&(match h.nsMap mainGlobals "_NODE_DONE" with|some (.int k _)=>k==-2|_=>false)&&
 h.nsMap mainGlobals "law"==some (.ref 330)&&h.nsMap mainGlobals "CycleError"==some (.ref 55)&&h.nsMap mainGlobals "StopIteration"==none&&h.nsMap builtinsNs "StopIteration"==some (.type "StopIteration")
noncomputable def Yk(K:Frag):Bool:=exmOne K (.ref 55) (.ref 55)==some true&&exmOne K (.type "StopIteration") (.type "StopIteration")==some true
noncomputable def yW(h:Heap):Bool:=(Hg h 290).bind wj==some [284,285,286,287,288,289]&&files.zipIdx.all λ p=>(Hg h (284+p.2)).bind qG==some p.1
noncomputable def N5(h:Heap):Bool:=h.isNs mainGlobals&&h.isNs builtinsNs&&NZ h&&h.isNs cStatics&&h.nsMap cStatics "sys.recursionlimit"==none&&Yj h&&(h.get? sysModules).any (λ o=>o.cls== .type "dict")&&yW h&&R6 (sS h mD)&&Yk (sS h mD)
noncomputable def aey(h:Heap):Bool×List (Option (Arguments×FuncBody×Scope×Bool)):=(N5 h,qH.map (Hh h))
noncomputable def aez:Bool×List (Option (Arguments×FuncBody×Scope×Bool)):=(true,qH.map Hi)
noncomputable def qv:Program:={PySem.Challenge.pw_il0148_01 with main:={PySem.Challenge.pw_il0148_01.main with body:=[Gj 35]}}
noncomputable def lo:List Str:=["_wall","_NODE_OUT","_NODE_DONE","_NodeInfo","CycleError","TopologicalSorter","_plain_name","ABCMeta","_ABCLike","_abc_plain_meta","fspath","commonprefix","_check_arg_types","_get_sep","join","splitroot","dirname","normpath","abspath","relpath","commonpath","_law_files","_law_pieces","_law_text","_law_walk","_law_loose","_law_alike"]
set_option maxHeartbeats 0 in
theorem left:LeftO PySem.Challenge.pw_il0148_01 qv lo (λ s=>xlAt qv [] s&&recOk [] s) (λ s=>aey s.heap) (λ _=>aez) 2300:=λ w=>by kernel_rfl
theorem T8(h:Heap):∀as:List Nat,(sS h as).In h:=by
 intro as;induction as with
 |nil=>intro a o e;exact ns e
 |cons b r ih=>
  intro a o e;unfold sS at e;dsimp only[List.filterMap_cons]at e;induction q:h.get? b with
  |none=>rw[q]at e;exact ih a o e
  |some ob=>
   rw[q]at e;dsimp only[Option.map_some,List.lookup]at e;induction z:a==b with
   |true=>rw[z]at e;cases e;rw[eq_of_beq z];exact q
   |false=>rw[z]at e;exact ih a o e
structure nT(h:Heap):Prop where
 mg:h.isNs mainGlobals=true
 mb:h.isNs builtinsNs=true
 glob:NZ h=true
 st:h.isNs cStatics=true
 lim:h.nsMap cStatics "sys.recursionlimit"=none
 cyc:Yj h=true
 sys:(h.get? sysModules).any (λ o=>o.cls== .type "dict")=true
 lists:yW h=true
 ko:R6 (sS h mD)=true
 exc:Yk (sS h mD)=true
 fns:qH.map (Hh h)=qH.map Hi
theorem ab5{h:Heap}(e:aey h=aez):nT h:=by
 have e1:=congrArg Prod.fst e;have e1:N5 h=true:=e1;unfold N5 at e1;simp only[Bool.and_eq_true,beq_iff_eq]at e1;obtain⟨⟨⟨⟨⟨⟨⟨⟨⟨a,b⟩,c⟩,d⟩,f⟩,g⟩,i⟩,j⟩,k⟩,l⟩:=e1;exact⟨a,b,c,d,f,g,i,j,k,l,(congrArg Prod.snd e)⟩
theorem Am{α:Type}{l:List (Str×α)}{p:Str×α->Bool}(h:l.all p=true){x:Str}{y:α}(e:l.lookup x=some y):p (x,y)=true:=List.all_eq_true.mp h _ (eH e)
structure Yl(h:Heap):Prop where
 fn:∀x a,Gb.lookup x=some a->h.nsMap mainGlobals x=some (.ref a)
 bi:∀x b,Gd.lookup x=some b->h.nsMap mainGlobals x=none/\h.nsMap builtinsNs x=some b.val
 files:h.nsMap mainGlobals "_law_files"=some (.ref 290)
 out:∃t,h.nsMap mainGlobals "_NODE_OUT"=some (.int (-1) t)
 done:∃t,h.nsMap mainGlobals "_NODE_DONE"=some (.int (-2) t)
 law:h.nsMap mainGlobals "law"=some (.ref 330)
 cyc:h.nsMap mainGlobals "CycleError"=some (.ref 55)
 stop:h.nsMap mainGlobals "StopIteration"=none/\h.nsMap builtinsNs "StopIteration"=some (.type "StopIteration")
set_option tactic.hygienic true in
theorem Ym{o:Option Value}{i:Int}(h:(match o with|some (.int k _)=>k==i|_=>false)=true):∃t,o=some (.int i t):=by
 split at h
 ·rename_i k t;rw[eq_of_beq h];exact⟨t,rfl⟩
 ·contradiction
theorem nT.globs{h:Heap}(S:nT h):Yl h:=by
 have e:=S.glob;unfold NZ at e;simp only[Bool.and_eq_true]at e;obtain⟨⟨⟨⟨⟨⟨⟨⟨a,b⟩,c⟩,d⟩,f⟩,g0⟩,g⟩,i⟩,j⟩:=e;refine⟨λ x y q=>?_,λ x y q=>?_,eq_of_beq c,Ym d,Ym f,eq_of_beq g0,eq_of_beq g,eq_of_beq i,eq_of_beq j⟩
 ·exact eq_of_beq (Am a q)
 ·have:=Am b q;rw[Bool.and_eq_true]at this;exact⟨eq_of_beq this.1,eq_of_beq this.2⟩
set_option tactic.hygienic true in
theorem nT.facts{h:Heap}(S:nT h){prog:Program}{w:World}:WR prog w h:=by
 have G:=S.globs;refine⟨_,_,.of_isNs S.mg,.of_isNs S.mb,λ x v e=>?_⟩;unfold V8 at e;split at e
 ·rename_i a q
  cases e;exact⟨.ref a,.inl (G.fn x a q),λ ρ _=>rfl⟩
 ·split at e
  ·rename_i b q
   cases e;exact⟨b.val,.inr (G.bi x b q),λ ρ _=>rfl⟩
  ·split at e
   ·rename_i q
    cases e;rw[eq_of_beq q];exact⟨.ref 290,.inl G.files,λ ρ hr=>⟨290,hr,rfl⟩⟩
   ·split at e
    ·rename_i q
     cases e;obtain⟨t,ht⟩:=G.out;rw[eq_of_beq q];exact⟨_,.inl ht,λ ρ _=>⟨t,rfl⟩⟩
    ·split at e
     ·rename_i q
      cases e;rw[eq_of_beq q];obtain⟨t,ht⟩:=G.done;exact⟨_,.inl ht,λ ρ _=>⟨t,rfl⟩⟩
     ·contradiction
noncomputable def N6(f:Fn):Bool:=!f.scope.isCoroutine&&!f.scope.isGenerator&&f.scope.kind== .function&&decide ((f.params.args.map (·.arg)).Nodup)&&(f.params.args.map (·.arg)).all (λ x=>f.scope.names.lookup x==some .local)&&
 (match f.params.vararg with|some r=>f.scope.names.lookup r.arg==some .local|none=>true)&&decide (bM f.scope).Nodup&&(bM f.scope).all λ x=>f.scope.names.lookup x==some .cell
theorem Yn:(qH.all λ a=>(jG a).all N6)=true:=by decide+kernel
set_option tactic.hygienic true in
theorem N7{a:Nat}{f:Fn}(e:jG a=some f):a∈qH:=by
 have lm:∀{β:Type}{l:List (Nat×β)}{y:β},l.lookup a=some y->a∈l.map (·.1):=by
  intro β l y;induction l with
  |nil=>intro e;contradiction
  |cons p r ih=>
   obtain⟨k,v⟩:=p;intro e;dsimp only[List.lookup]at e;induction q:a==k with
   |true=>rw[eq_of_beq q];exact .head _
   |false=>rw[q]at e;exact .tail _ (ih e)
 unfold jG at e;split at e
 ·rename_i i q;exact List.mem_append_left _ (lm q)
 ·split at e
  ·rename_i i j q;exact List.mem_append_right _ (lm q)
  ·contradiction
set_option tactic.hygienic true in
theorem nT.fnOk{h:Heap}(S:nT h){a:Nat}{f:Fn}(e:jG a=some f):R0 h a f:=by
 have hm:=N7 e;have hp:=List.all_eq_true.mp Yn a hm;rw[e]at hp;have hp:N6 f=true:=hp;unfold N6 at hp;simp only[Bool.and_eq_true,Bool.not_eq_true',beq_iff_eq,decide_eq_true_eq,List.all_eq_true]at hp;obtain⟨⟨⟨⟨⟨⟨⟨c1,c2⟩,c3⟩,c4⟩,c5⟩,c6⟩,c7⟩,c8⟩:=hp;have hs:Hh h a=Hi a:=List.map_inj_left.mp S.fns a hm;unfold Hi at hs;rw[e]at hs;unfold Hh at hs;split at hs
 ·rename_i cc dd fd sl ho
  simp only[Option.map_some,Option.some.injEq,Prod.mk.injEq]at hs;obtain⟨s1,s2,s3,s4⟩:=hs;simp only[Bool.and_eq_true,beq_iff_eq,List.isEmpty_iff]at s4;obtain⟨⟨⟨⟨g1,g2⟩,g3⟩,g4⟩,g5⟩:=s4;have hD:∃dl,(∀M:Model,Looks M h (seqItems? fd.defaults) dl)/\(f.params.defaults.length=1->dl=some #[.none]):=by
   unfold Yi at g5;rw[s1]at g5;split at g5
   ·rename_i hd
    refine⟨none,λ M=>?_,λ q=>?_⟩
    ·rw[hd];exact Looks.now
    ·rw[q]at g5;contradiction
   ·rename_i t hd
    split at g5
    ·rename_i xs n sl2 ho2
     refine⟨some xs,λ M=>?_,λ q=>?_⟩
     ·rw[hd];exact λ A Q E s k q=>wpAny_seqItems (k _ _ ho2) rfl q
     ·rw[q]at g5;have:(xs==#[.none])=true:=by simpa using g5
      rw[eq_of_beq this]
    ·contradiction
   ·contradiction
  obtain⟨dl,hdl,hd1⟩:=hD;refine⟨⟨_,fd,ho,rfl,s1,s2,s3,g1,g3,g2,?_,dl,hdl,hd1⟩,c1,c2,c3,c4,λ x hx=>?_,c7,c8⟩
  ·unfold Yh at g4;split at g4
   ·rename_i c hc
    split at g4
    ·rename_i oc hoc
     split at g4
     ·rename_i q t hq
      exact⟨c,_,_,t,hc,hoc,rfl,by rw[<-eq_of_beq g4];exact hq⟩
     ·contradiction
    ·contradiction
   ·contradiction
  ·rcases hx with hx|⟨r,hr,rfl⟩
   ·exact c5 x hx
   ·rw[hr]at c6;exact eq_of_beq c6
 ·contradiction
set_option tactic.hygienic true in
theorem nT.facts2{h:Heap}(S:nT h){prog:Program}{w:World}:Mz prog w h:=by
 have G:=S.globs;have X:=T8 h mD;have ex:∀x:yN,exmOne (sS h mD) (nC x) (nC x)=some true:=λ x=>by
  have e:=S.exc;unfold Yk at e;rw[Bool.and_eq_true]at e;induction x
  ·exact eq_of_beq e.2
  ·exact eq_of_beq e.1
 refine⟨λ x=>⟨_,_,.of_isNs S.mg,.of_isNs S.mb,?_⟩,λ x=>exm_ty X (ex x),λ x=>(exm_cls X (ex x)).1,λ x=>(exm_cls X (ex x)).2,?_,⟨_,X,S.ko⟩,λ a f e=>S.fnOk e,⟨_,.of_isNs S.st,S.lim⟩⟩
 ·induction x
  ·exact .inr G.stop
  ·exact .inl G.cyc
 ·refine lU λ Gz toG=>?_
  have e:=S.cyc;unfold Yj at e;split at e
  ·rename_i dd cd sl ho
   simp only[Bool.and_eq_true,Bool.not_eq_true',beq_iff_eq]at e;obtain⟨⟨⟨⟨⟨e1,e2⟩,e3⟩,e4⟩,e5⟩,e6⟩:=e;obtain⟨ll⟩:=sl;obtain⟨k0,k1,k2,k3,k4,k5,rfl⟩:∃k0 k1 k2 k3 k4 k5,ll=[k0,k1,k2,k3,k4,k5]:=by
    clear ho e4;rcases ll with _|⟨a,_|⟨b,_|⟨c,_|⟨d,_|⟨e,_|⟨f,_|⟨g,r⟩⟩⟩⟩⟩⟩⟩<;>simp at e3
    exact⟨a,b,c,d,e,f,rfl⟩
   have e4:some k4=some (some (.builtin "ValueError.__new__")):=e4;cases e4;obtain⟨nm,bs,mro,ns,qn,hd,sn,sub,ab,col,del⟩:=cd;dsimp only at e1 e2 e5 e6;subst e1 e2;exact toG ⟨nm,qn,ns,bs,hd,sn,sub,ab,col,dd,k0,k1,k2,k3,k5,_,ho,.of_isNs e5,e6⟩
  ·contradiction
set_option tactic.hygienic true in
theorem yg{h:Heap}{a:Addr}{vs:List Value}(e:Hg h a=some vs):∃cs n,h.get? a=some (mC cs n)/\cs.toList=vs:=by
 unfold Hg at e;split at e
 ·rename_i t cs n sl ho
  split at e
  ·rename_i hc
   simp only[Bool.and_eq_true,beq_iff_eq]at hc;cases e;obtain⟨rfl,hc⟩:=hc;obtain rfl:sl=#[]:=Array.eq_empty_of_size_eq_zero hc;exact⟨cs,n,ho,rfl⟩
  ·contradiction
 ·contradiction
set_option tactic.hygienic true in
theorem N8{ρ:List Addr}:∀{vs:List Value}{as:List Addr},wj vs=some as->∀{js:List Nat},aU (λ j a=>ρ[j]?=some a) js as->aU (VR ρ) (js.map V.ref) vs:=by
 intro vs;induction vs with
 |nil=>intro as e js h;cases e;cases h;exact .nil
 |cons v r ih=>
  intro as e js h;induction v<;>first|exact ns e|exact jz e|(induction e;done)|skip
  rename_i a
  obtain⟨bs,hb,rfl⟩:=Option.map_eq_some_iff.mp (show(wj r).map (a::·)=some as from e);cases h with
  |cons h1 h2=>exact .cons ⟨_,h1,rfl⟩ (ih hb h2)
set_option tactic.hygienic true in
theorem Kq{ρ:List Addr}:∀{vs:List Value}{ss:List Str},qG vs=some ss->aU (VR ρ) (ss.map V.str) vs:=by
 intro vs;induction vs with
 |nil=>intro as e;cases e;exact .nil
 |cons v r ih=>
  intro as e;induction v<;>first|exact ns e|exact jz e|(induction e;done)|skip
  rename_i x t
  obtain⟨bs,hb,rfl⟩:=Option.map_eq_some_iff.mp (show(qG r).map (x::·)=some as from e);exact .cons ⟨t,rfl⟩ (ih hb)
theorem Kr{ρ:List Addr}:∀{vs:List Value}{ns:List Int},IntsAre vs ns->aU (VR ρ) (ns.map V.int) vs
 |_,_,.nil=>.nil
 |_,_,.cons k t h=>.cons ⟨t,rfl⟩ (Kr h)
theorem nT.list0{h:Heap}(S:nT h):∃cs m,h.get? 290=some (mC cs m)/\wj cs.toList=some [284,285,286,287,288,289]:=by
 have e:=S.lists;unfold yW at e;simp only[Bool.and_eq_true]at e;obtain⟨us,hu,hr⟩:=Option.bind_eq_some_iff.mp (eq_of_beq e.1);obtain⟨cs,m,h1,rfl⟩:=yg hu;exact⟨cs,m,h1,hr⟩
theorem nT.list1{h:Heap}(S:nT h){k:Nat}{p:List Str}(hk:files[k]?=some p):∃cs m,h.get? (284+k)=some (mC cs m)/\qG cs.toList=some p:=by
 have e:=S.lists;unfold yW at e;rw[Bool.and_eq_true]at e;have:=List.all_eq_true.mp e.2 (p,k) (by rw[List.mem_zipIdx_iff_getElem?];exact hk);obtain⟨us,hu,hr⟩:=Option.bind_eq_some_iff.mp (eq_of_beq this);obtain⟨cs,m,h1,rfl⟩:=yg hu;exact⟨cs,m,h1,hr⟩
theorem nT.objs{h h':Heap}(S:nT h)(kb:Sub h h'){prog:Program}{w:World}{ns:List Int}{sa:Addr}{vs:Array Value}{n:Nat}(hs:h'.get? sa=some (mC vs n))(hi:IntsAre vs.toList ns):
  ∀(i:Nat) o x,(yF ns)[i]?=some o->(lH sa)[i]?=some x->∃co,h'.get? x=some co/\OR prog w (lH sa) o co:=by
 obtain⟨cs,m,h1,hr⟩:=S.list0;have fl:∀{k:Nat} {p},files[k]?=some p->∃co,h'.get? (284+k)=some co/\OR prog w (lH sa) (.list (p.map .str)) co:=λ hk=>let ⟨cs,m,q1,q2⟩:=S.list1 hk;⟨_,kb _ _ q1,cs,m,rfl,Kq q2⟩
 intro i o x ho hx;rcases i with _|_|_|_|_|_|_|_|i
 ·cases ho;cases hx;exact⟨_,kb _ _ h1,cs,m,rfl,N8 hr (js:=[1,2,3,4,5,6]) (.cons rfl (.cons rfl (.cons rfl (.cons rfl (.cons rfl (.cons rfl .nil))))))⟩
 ·cases ho;cases hx;exact fl (k:=0) rfl
 ·cases ho;cases hx;exact fl (k:=1) rfl
 ·cases ho;cases hx;exact fl (k:=2) rfl
 ·cases ho;cases hx;exact fl (k:=3) rfl
 ·cases ho;cases hx;exact fl (k:=4) rfl
 ·cases ho;cases hx;exact fl (k:=5) rfl
 ·cases ho;cases hx;exact⟨_,hs,vs,n,rfl,Kr hi⟩
 ·contradiction
theorem Yo{vs:List Value}{ns:List Int}{x:Str}{r:List Str}(h:qG vs=some (x::r))(hi:IntsAre vs ns):False:=by
 induction hi with
 |nil=>cases h
 |cons k t _=>contradiction
theorem ab6{vs:List Value}{ns:List Int}{x:Addr}{r:List Addr}(h:wj vs=some (x::r))(hi:IntsAre vs ns):False:=by
 induction hi with
 |nil=>cases h
 |cons k t _=>contradiction
theorem nT.apart{h h':Heap}(S:nT h)(kb:Sub h h'){ns:List Int}{sa:Addr}{vs:Array Value}{n:Nat}(hs:h'.get? sa=some (mC vs n))(hi:IntsAre vs.toList ns):(lH sa).Nodup/\∀x∈lH sa,(x==sysModules)=false:=by
 have n0:290≠sa:=λ e=>by
  obtain⟨cs,m,h1,hr⟩:=S.list0;have:=kb _ _ h1;rw[e,hs]at this;clear h1;cases this;exact ab6 hr hi
 have n1:∀(k:Nat) x r,files[k]?=some (x::r)->284+k≠sa:=λ k x r hk e=>by
  obtain⟨cs,m,h1,hr⟩:=S.list1 hk;have:=kb _ _ h1;rw[e,hs]at this;clear h1;cases this;exact Yo hr hi
 have a0:=n1 0 _ _ rfl;have a1:=n1 1 _ _ rfl;have a2:=n1 2 _ _ rfl;have a3:=n1 3 _ _ rfl;have a4:=n1 4 _ _ rfl;have a5:=n1 5 _ _ rfl;refine⟨?_,λ x hx=>?_⟩
 ·show([290,284,285,286,287,288,289]++[sa]:List Nat).Nodup;rw[List.nodup_append];refine⟨by decide,by simp,λ x hx y hy=>?_⟩;rw[List.mem_singleton.mp hy];simp only[List.mem_cons,List.not_mem_nil,or_false]at hx;rcases hx with rfl|rfl|rfl|rfl|rfl|rfl|rfl<;>assumption
 ·have hx:x∈([290,284,285,286,287,288,289]++[sa]:List Nat):=hx;rcases List.mem_append.mp hx with hx|hx
  ·have:∀x∈([290,284,285,286,287,288,289]:List Nat),(x==sysModules)=false:=by decide
   exact this x hx
  ·rw[List.mem_singleton.mp hx,beq_eq_false_iff_ne];intro e;have:=S.sys;induction q:h.get? sysModules with
   |none=>rw[q]at this;contradiction
   |some o=>
    rw[q]at this;have hk:=kb _ _ q;rw[<-e,hs]at hk;clear q;cases hk;contradiction
set_option maxHeartbeats 0 in
theorem said_ok:PySem.Challenge.rw_il0148_01.wellSaid=true:=by kernel_rfl
theorem Ao:∀f,jG 330=some f->f.params.vararg=none/\f.params.args.length=1:=λ f e=>by
 have h:(jG 330).all (λ f=>f.params.vararg.isNone&&f.params.args.length==1)=true:=by decide+kernel
 rw[e]at h;simpa using h
theorem T9{P:Params}{h:Heap}:∀{ns:List Int}{vs:List Value},WellAll P h vs (ofPys (ns.map PyData.int))->IntsAre vs ns:=by
 intro ns;induction ns with
 |nil=>intro vs w;cases w;exact .nil
 |cons n r ih=>intro vs w;cases w with
  |cons w1 w2=>cases w1;exact .cons _ _ (ih w2)
theorem Yp(pure_:∀ns:List Int,ns.length<=63->∃f τ,jG 330=some f/\oX (ao 8) f [.ref 7] {loc:=[],sto:=yF ns}=.ok (.bool true) τ){w:World}{s:Shared}{hb:Heap}(S:nT hb)(kb:Sub hb s.heap){ns:List Int}(hl:ns.length<=63){sa:Addr}
  (hw:Well w.params s.heap (.ref sa) (ofPy (.list (ns.map .int)))):
  wpAny (model PySem.Challenge.pw_il0148_01 w) callerA (call (.ref 330) [.ref sa]) (λ v s'=>v=.bool true/\∃h' tk,s'={s with heap:=h',toks:=tk}/\∀b o,s.heap.get? b=some o->h'.get? b=some o) (λ _ _=>False) s:=by
 obtain⟨f,τ,hf,hM⟩:=pure_ ns hl;obtain⟨vs,hs,hi⟩:∃vs:List Value,s.heap.get? sa=some (mC vs.toArray 0)/\IntsAre vs ns:=by
  cases hw with
  |list h1 h2=>exact⟨_,h1,T9 h2⟩
 obtain⟨hnd,hsys⟩:=S.apart kb hs (by simpa using hi);refine Yg (hb:=hb) (by decide) S.facts S.facts2 kb hf (Ao f hf).1 (by rw[(Ao f hf).2];decide) (S.objs kb hs (by simpa using hi)) hnd hsys ?_ hM;have:=S.sys;induction q:hb.get? sysModules with
 |none=>rw[q]at this;cases this
 |some o=>rw[kb _ _ q];rfl
set_option tactic.hygienic true in
set_option maxHeartbeats 0 in
theorem join(pure_:∀ns:List Int,ns.length<=63->∃f τ,jG 330=some f/\oX (ao 8) f [.ref 7] {loc:=[],sto:=yF ns}=.ok (.bool true) τ):PySem.Challenge.rw_il0148_01.Holds:=by
 refine holds_law said_ok λ said=>?_
 refine holds_open (r:=PySem.Challenge.rw_il0148_01.row) (q:=qv) (loose:=lo) (Xt:=λ s=>xlAt qv [] s&&recOk [] s) (XP:=XL qv []) (Yf:=λ s=>aey s.heap) (Ya:=λ _=>aez) (YP:=λ _ h=>∃hb,nT hb/\Sub hb h) (N:=2300)
  left (λ w s e=>⟨s.heap,ab5 e,λ _ _ e=>e⟩) (λ w h h' y k=>let ⟨hb,a,b⟩:=y;⟨hb,a,λ x o e=>k x o (b x o e)⟩) (λ s e=>xl_of s (Bool.and_eq_true_iff.mp e).1) XL.keeps (by rfl) (by rfl) (by rfl)
  (λ s e=>recFacts_of (Bool.and_eq_true_iff.mp e).2) rfl said (by decide+kernel) ⟨rfl,rfl,rfl,rfl,rfl,by decide+kernel⟩ ?hw ?hc
 case hw=>w_witness2
 case hc=>
  intro w sF sA mg mb G Yy fa o pm cd doc dV kV ho hd hcd hD hmg hg args vals as hpre hlay hrd hwl hlo;refine lU λ Gz toG=>?_
  obtain⟨hb,S,kb⟩:=Yy;have e330:fa=330:=by
   have g1:mg=sA.heap.nsMap mainGlobals:=Heap.Ns.eq_nsMap G.T.g;have g2:hb.nsMap mainGlobals=sA.heap.nsMap mainGlobals:=Heap.Ns.eq_nsMap ((Heap.Ns.of_isNs S.mg).keeps kb);have g3:=S.globs.law;rw[g2,<-g1]at g3;have g4:=g3.symm.trans hmg;cases g4;rfl
  clear ho hd hcd hD hmg;wrow_args hpre hlay hrd hwl hlo
  all_goals(
   rename_i hw _ _ _ hl _
   have cl:=Yp pure_ S kb (by clear toG;omega) hw;rw[<-e330]at cl;refine toG (wpAny_mono cl (λ v s' z=>?_) λ e s' z=>z.elim);obtain⟨rfl,h',tk,rfl,hk⟩:=z;exact⟨.inl ⟨_,_,_,rfl,λ _=>rfl,.bool true,postC_of (r:=PySem.Challenge.rw_il0148_01.row.toRowW) (by first|rfl|decide+kernel) (w_eq_bool (w_res rfl) w_lit) rfl,λ _=>⟨List.nodup_nil,λ a ha=>(nomatch ha)⟩⟩,.of_keep hk,rfl,.of_eq hg⟩)
end Mine
namespace Mine
open PySem
noncomputable def sU(a:Nat):List Stmt:=((jG a).map (·.body)).getD []
noncomputable def aeA(a:Nat):Scope:=((jG a).map (·.scope)).getD default
noncomputable def wu(a:Nat):En:={scope:=aeA a,cells:=[]}
noncomputable def enC(a k:Nat):En:={scope:=aeA a,cells:=fH (bM (aeA a)) k}
set_option tactic.hygienic true in
noncomputable def kj(loc:List (Str×Option V))(r:ak Fl):ak V:=match r with
 |.ok (.ret v) τ=>.ok v {loc:=loc,sto:=τ.sto}
 |.ok .next τ=>.ok .none {loc:=loc,sto:=τ.sto}
 |.ok _ _=>.bad
 |.exc e τ=>.exc e {loc:=loc,sto:=τ.sto}
 |.bad=>.bad
set_option tactic.hygienic true in
noncomputable def aj(r:ak Fl)(k:St->ak Fl):ak Fl:=r.bind λ fl Y=>match fl with
 |.next=>k Y
 |f=>.ok f Y
theorem aB(Y:St)(k:St->ak Fl):aj (.ok .next Y) k=k Y:=rfl
theorem th{r:ak Fl}{k:St->ak Fl}{Y:St}{x:ak Fl}(h:r=.ok .next Y)(h':k Y=x):aj r k=x:=by rw[h];exact h'
theorem bd{α β:Type}{r:ak α}{k:α->St->ak β}{a:α}{Y:St}{x:ak β}(h:r=.ok a Y)(h':k a Y=x):r.bind k=x:=by rw[h];exact h'
theorem iT{α:Type}{c:Bool}{x y r:ak α}(h:c=true)(h':x=r):(if c=true then x else y)=r:=by rw[if_pos h];exact h'
theorem iF{α:Type}{c:Bool}{x y r:ak α}(h:c=false)(h':y=r):(if c=true then x else y)=r:=by rw[h];exact h'
theorem bo{β:Type}{o:Option Bool}{τ:St}{k:Bool->St->ak β}{b:Bool}{x:ak β}(h:o=some b)(h':k b τ=x):(aG o τ).bind k=x:=by rw[h];exact h'
theorem bH(Y:St)(v:V)(k:St->ak Fl):aj (.ok (.ret v) Y) k=.ok (.ret v) Y:=rfl
theorem DW(Y:St)(k:St->ak Fl):aj (.ok .brk Y) k=.ok .brk Y:=rfl
theorem Oa(Y:St)(k:St->ak Fl):aj (.ok .cont Y) k=.ok .cont Y:=rfl
theorem wz(e:yN)(Y:St)(k:St->ak Fl):aj (.exc e Y) k=.exc e Y:=rfl
theorem dg(l)(v:V)(Y:St):kj l (.ok (.ret v) Y)=.ok v {loc:=l,sto:=Y.sto}:=rfl
theorem Aq(l)(Y:St):kj l (.ok .next Y)=.ok .none {loc:=l,sto:=Y.sto}:=rfl
theorem bW{d a:Nat}{args:List V}{l L:List (Str×Option V)}{S S₁:List O}(h:ao (d+1) a args ⟨l,S⟩=kj l (aK (cG (ao d) 60) (sU a) (wu a) ⟨L,S₁++[]⟩)):
  ao (d+1) a args ⟨l,S⟩=kj l (aK (cG (ao d) 60) (sU a) (wu a) ⟨L,S₁⟩):=by rw[h,List.append_nil]
noncomputable def aq(x:Str)(Y:St):ak V:=onS (aN Y.loc x) λ v=>.ok v Y
noncomputable def aF(x:Str)(v:V)(Y:St):St:={Y with loc:=aZ Y.loc x v}
noncomputable def mF(c:Nat)(Y:St):ak V:=onS (Y.get c O.cell?) λ v=>.ok v Y
noncomputable def aV(cl:Nat->List V->St->ak V)(live:Bool)(name:Str)(args:St->ak (List V))(ov:V)(Y:St):ak V:=match iM ov name Y with
 |some c=>(args Y).bind λ vs Y=>match c with
  |.user f=>if live then cl f (ov::vs) Y else .bad
  |.bi m=>cD m ov vs Y
 |none=>.bad
noncomputable def Ar(cl:Nat->List V->St->ak V)(live:Bool)(f:V)(args:List V)(Y:St):ak V:=match f with
 |.none|.bool _|.int _|.str _=>.bad
 |.ref k=>if live&&args.isEmpty then Dd k Y else .bad
 |.fn a=>if live then cl a args Y else .bad
 |.bi b=>if live then b8 cl b args Y else .bad
noncomputable def bC(o l h:V)(Y:St):ak V:=onS (jF l) λ l=>onS (jF h) λ h=>Ge o l h Y
noncomputable def Yq(xs:List Str)(Y:St):O->ak Unit
 |.list _=>.bad
 |.tup vs=>onS (zp vs) λ v=>onS (zp xs) λ x=>.ok () (aF x.2.2 v.2.2 (aF x.2.1 v.2.1 (aF x.1 v.1 Y)))
 |.dict ..|.set _=>.bad
 |.bset bs=>onS (jD bs) λ b=>onS (jD xs) λ x=>.ok () (aF x (.bool b) Y)
 |.inst _|.node ..|.cell _|.liter ..|.eit ..|.bnext _|.rng _|.enum ..|.mapo ..|.view _|.any=>.bad
noncomputable def yX(xs:List Str)(v:V)(Y:St):ak Unit:=onS v.ref? λ i=>onS (Y.sto[i]?) (Yq xs Y)
noncomputable def fC(body:V->St->ak Fl)(o:St->ak Fl)(v:V)(Y:St):ak Fl:=match bN v Y with
 |some xs=>dB (jk (aR v Y) body xs Y) o
 |none=>.bad
noncomputable def Hj(body:Nat->V->St->ak Fl)(o:St->ak Fl)(v:V)(Y:St):ak Fl:=onS v.ref? λ i=>onS (Gi i Y) λ p=>grd (small p.2.2.length&&decide (k0<=i)&&decide (k0<=p.1)&&!false) (dB (fG i p.1 p.2.1 p.2.2 body 0 p.2.2 Y) o)
set_option tactic.hygienic true in
noncomputable def uo(b o:St->ak Fl)(h:yN->St->ak Fl)(Y:St):ak Fl:=match b Y with
 |.ok .next Y=>o Y
 |.ok f Y=>.ok f Y
 |.exc e Y=>h e Y
 |.bad=>.bad
theorem dX(S J:List O)(k:Nat):(S++J)[S.length+k]?=J[k]?:=by rw[List.getElem?_append_right (Nat.le_add_right ..),Nat.add_sub_cancel_left]
theorem nU(S J:List O)(k:Nat)(o:O):(S++J).set (S.length+k) o=S++J.set k o:=by rw[List.set_append_right _ _ (Nat.le_add_right ..),Nat.add_sub_cancel_left]
theorem jP{n:Nat}{S J:List O}(h:n<=S.length):n<=(S++J).length:=by rw[List.length_append];exact Nat.le_trans h (Nat.le_add_right ..)
theorem at3(S:List O)(a b c:O)(k:Nat):(S++[a]++[b]++[c])[S.length+k]?=[a,b,c][k]?:=by rw[List.append_assoc,List.append_assoc];exact dX S _ k
theorem Yr(S:List O)(o o':O)(J:List O):(S++[o]++J).set S.length o'=S++[o']++J:=by rw[List.append_assoc,List.append_assoc];exact nU S _ 0 o'
theorem lJ(S:List O)(o:O)(J:List O):(S++[o]++J)[S.length]?=some o:=by rw[List.append_assoc];exact dX S _ 0
theorem iZ{α:Type}{xs:List α}{x:α}:x∈xs++[x]:=List.mem_append_right _ (.head _)
theorem eG{S T:List O}(h:S <+: T)(J:List O):S <+: T++J:=h.trans (List.prefix_append ..)
theorem gM{S:List O}{o:O}:(S++[o])[S.length]?=some o:=dX S _ 0
abbrev SB:=(Nat->List V->St->ak V)->St->ak Fl
abbrev cN:=(Nat->List V->St->ak V)->Nat->St->ak Fl
abbrev SC:=(Nat->List V->St->ak V)->St->ak Bool
abbrev SCk:=(Nat->List V->St->ak V)->Nat->St->ak Bool
abbrev SV:=(Nat->List V->St->ak V)->St->ak V
abbrev SVk:=(Nat->List V->St->ak V)->Nat->St->ak V
section
variable (o0 o1 o2 o3 o4 o5 o6 o7 o8 o9 o10 o11 o12 o13 o14 o15 o16 o17 o18 o19 o20 o21 o22 o23 o24 o25 o26 o27 o28 o29 o30 o31 o32 o33 o34 o35:Option V) (S:List O) (v:V)
noncomputable def p6:List (Str×Option V):=[("path",o0),("kind",o1),("hook",o2),("given",o3)]
theorem aeD:aq "path" ⟨p6 (some v) o1 o2 o3,S⟩=.ok v ⟨p6 (some v) o1 o2 o3,S⟩:=rfl
theorem ain:aF "path" v ⟨p6 o0 o1 o2 o3,S⟩=⟨p6 (some v) o1 o2 o3,S⟩:=rfl
theorem aeE:aq "kind" ⟨p6 o0 (some v) o2 o3,S⟩=.ok v ⟨p6 o0 (some v) o2 o3,S⟩:=rfl
theorem aeF:aF "kind" v ⟨p6 o0 o1 o2 o3,S⟩=⟨p6 o0 (some v) o2 o3,S⟩:=rfl
theorem aio:aq "hook" ⟨p6 o0 o1 (some v) o3,S⟩=.ok v ⟨p6 o0 o1 (some v) o3,S⟩:=rfl
theorem aip:aF "hook" v ⟨p6 o0 o1 o2 o3,S⟩=⟨p6 o0 o1 (some v) o3,S⟩:=rfl
theorem aiq:aq "given" ⟨p6 o0 o1 o2 (some v),S⟩=.ok v ⟨p6 o0 o1 o2 (some v),S⟩:=rfl
theorem air:aF "given" v ⟨p6 o0 o1 o2 o3,S⟩=⟨p6 o0 o1 o2 (some v),S⟩:=rfl
noncomputable def Ys:List (Str×Option V):=[("path",o0)]
theorem ais:aq "path" ⟨Ys (some v),S⟩=.ok v ⟨Ys (some v),S⟩:=rfl
theorem ait:aF "path" v ⟨Ys o0,S⟩=⟨Ys (some v),S⟩:=rfl
noncomputable def iy:List (Str×Option V):=[("a",o0),("p",o1),("sep",o2),("path",o3),("b",o4)]
theorem aeG:aq "a" ⟨iy (some v) o1 o2 o3 o4,S⟩=.ok v ⟨iy (some v) o1 o2 o3 o4,S⟩:=rfl
theorem aeH:aF "a" v ⟨iy o0 o1 o2 o3 o4,S⟩=⟨iy (some v) o1 o2 o3 o4,S⟩:=rfl
theorem aeI:aq "p" ⟨iy o0 (some v) o2 o3 o4,S⟩=.ok v ⟨iy o0 (some v) o2 o3 o4,S⟩:=rfl
theorem aiu:aF "p" v ⟨iy o0 o1 o2 o3 o4,S⟩=⟨iy o0 (some v) o2 o3 o4,S⟩:=rfl
theorem Hl:aq "sep" ⟨iy o0 o1 (some v) o3 o4,S⟩=.ok v ⟨iy o0 o1 (some v) o3 o4,S⟩:=rfl
theorem aeJ:aF "sep" v ⟨iy o0 o1 o2 o3 o4,S⟩=⟨iy o0 o1 (some v) o3 o4,S⟩:=rfl
theorem Ho:aq "path" ⟨iy o0 o1 o2 (some v) o4,S⟩=.ok v ⟨iy o0 o1 o2 (some v) o4,S⟩:=rfl
theorem Av:aF "path" v ⟨iy o0 o1 o2 o3 o4,S⟩=⟨iy o0 o1 o2 (some v) o4,S⟩:=rfl
theorem Hp:aq "b" ⟨iy o0 o1 o2 o3 (some v),S⟩=.ok v ⟨iy o0 o1 o2 o3 (some v),S⟩:=rfl
theorem Aw:aF "b" v ⟨iy o0 o1 o2 o3 o4,S⟩=⟨iy o0 o1 o2 o3 (some v),S⟩:=rfl
noncomputable def wA:List (Str×Option V):=[("p",o0),("sep",o1),("empty",o2)]
theorem Ob:aq "p" ⟨wA (some v) o1 o2,S⟩=.ok v ⟨wA (some v) o1 o2,S⟩:=rfl
theorem aeK:aF "p" v ⟨wA o0 o1 o2,S⟩=⟨wA (some v) o1 o2,S⟩:=rfl
theorem Oc:aq "sep" ⟨wA o0 (some v) o2,S⟩=.ok v ⟨wA o0 (some v) o2,S⟩:=rfl
theorem aeL:aF "sep" v ⟨wA o0 o1 o2,S⟩=⟨wA o0 (some v) o2,S⟩:=rfl
theorem Od:aq "empty" ⟨wA o0 o1 (some v),S⟩=.ok v ⟨wA o0 o1 (some v),S⟩:=rfl
theorem aeM:aF "empty" v ⟨wA o0 o1 o2,S⟩=⟨wA o0 o1 (some v),S⟩:=rfl
noncomputable def p7:List (Str×Option V):=[("p",o0),("sep",o1),("i",o2),("head",o3)]
theorem aeN:aq "p" ⟨p7 (some v) o1 o2 o3,S⟩=.ok v ⟨p7 (some v) o1 o2 o3,S⟩:=rfl
theorem aeO:aF "p" v ⟨p7 o0 o1 o2 o3,S⟩=⟨p7 (some v) o1 o2 o3,S⟩:=rfl
theorem Oe:aq "sep" ⟨p7 o0 (some v) o2 o3,S⟩=.ok v ⟨p7 o0 (some v) o2 o3,S⟩:=rfl
theorem aeP:aF "sep" v ⟨p7 o0 o1 o2 o3,S⟩=⟨p7 o0 (some v) o2 o3,S⟩:=rfl
theorem aeQ:aq "i" ⟨p7 o0 o1 (some v) o3,S⟩=.ok v ⟨p7 o0 o1 (some v) o3,S⟩:=rfl
theorem aeR:aF "i" v ⟨p7 o0 o1 o2 o3,S⟩=⟨p7 o0 o1 (some v) o3,S⟩:=rfl
theorem Og:aq "head" ⟨p7 o0 o1 o2 (some v),S⟩=.ok v ⟨p7 o0 o1 o2 (some v),S⟩:=rfl
theorem Yt:aF "head" v ⟨p7 o0 o1 o2 o3,S⟩=⟨p7 o0 o1 o2 (some v),S⟩:=rfl
noncomputable def bU:List (Str×Option V):=[("path",o0),("sep",o1),("dot",o2),("dotdot",o3),("_",o4),("initial_slashes",o5),("comps",o6),("new_comps",o7),("comp",o8)]
theorem Hq:aq "path" ⟨bU (some v) o1 o2 o3 o4 o5 o6 o7 o8,S⟩=.ok v ⟨bU (some v) o1 o2 o3 o4 o5 o6 o7 o8,S⟩:=rfl
theorem Yu:aF "path" v ⟨bU o0 o1 o2 o3 o4 o5 o6 o7 o8,S⟩=⟨bU (some v) o1 o2 o3 o4 o5 o6 o7 o8,S⟩:=rfl
theorem Yv:aq "sep" ⟨bU o0 (some v) o2 o3 o4 o5 o6 o7 o8,S⟩=.ok v ⟨bU o0 (some v) o2 o3 o4 o5 o6 o7 o8,S⟩:=rfl
theorem aeS:aF "sep" v ⟨bU o0 o1 o2 o3 o4 o5 o6 o7 o8,S⟩=⟨bU o0 (some v) o2 o3 o4 o5 o6 o7 o8,S⟩:=rfl
theorem Yw:aq "dot" ⟨bU o0 o1 (some v) o3 o4 o5 o6 o7 o8,S⟩=.ok v ⟨bU o0 o1 (some v) o3 o4 o5 o6 o7 o8,S⟩:=rfl
theorem aeT:aF "dot" v ⟨bU o0 o1 o2 o3 o4 o5 o6 o7 o8,S⟩=⟨bU o0 o1 (some v) o3 o4 o5 o6 o7 o8,S⟩:=rfl
theorem aiv:aq "dotdot" ⟨bU o0 o1 o2 (some v) o4 o5 o6 o7 o8,S⟩=.ok v ⟨bU o0 o1 o2 (some v) o4 o5 o6 o7 o8,S⟩:=rfl
theorem aeU:aF "dotdot" v ⟨bU o0 o1 o2 o3 o4 o5 o6 o7 o8,S⟩=⟨bU o0 o1 o2 (some v) o4 o5 o6 o7 o8,S⟩:=rfl
theorem aiw:aq "_" ⟨bU o0 o1 o2 o3 (some v) o5 o6 o7 o8,S⟩=.ok v ⟨bU o0 o1 o2 o3 (some v) o5 o6 o7 o8,S⟩:=rfl
theorem aeV:aF "_" v ⟨bU o0 o1 o2 o3 o4 o5 o6 o7 o8,S⟩=⟨bU o0 o1 o2 o3 (some v) o5 o6 o7 o8,S⟩:=rfl
theorem aeW:aq "initial_slashes" ⟨bU o0 o1 o2 o3 o4 (some v) o6 o7 o8,S⟩=.ok v ⟨bU o0 o1 o2 o3 o4 (some v) o6 o7 o8,S⟩:=rfl
theorem aeX:aF "initial_slashes" v ⟨bU o0 o1 o2 o3 o4 o5 o6 o7 o8,S⟩=⟨bU o0 o1 o2 o3 o4 (some v) o6 o7 o8,S⟩:=rfl
theorem Yx:aq "comps" ⟨bU o0 o1 o2 o3 o4 o5 (some v) o7 o8,S⟩=.ok v ⟨bU o0 o1 o2 o3 o4 o5 (some v) o7 o8,S⟩:=rfl
theorem Yy:aF "comps" v ⟨bU o0 o1 o2 o3 o4 o5 o6 o7 o8,S⟩=⟨bU o0 o1 o2 o3 o4 o5 (some v) o7 o8,S⟩:=rfl
theorem aeY:aq "new_comps" ⟨bU o0 o1 o2 o3 o4 o5 o6 (some v) o8,S⟩=.ok v ⟨bU o0 o1 o2 o3 o4 o5 o6 (some v) o8,S⟩:=rfl
theorem aeZ:aF "new_comps" v ⟨bU o0 o1 o2 o3 o4 o5 o6 o7 o8,S⟩=⟨bU o0 o1 o2 o3 o4 o5 o6 (some v) o8,S⟩:=rfl
theorem aix:aq "comp" ⟨bU o0 o1 o2 o3 o4 o5 o6 o7 (some v),S⟩=.ok v ⟨bU o0 o1 o2 o3 o4 o5 o6 o7 (some v),S⟩:=rfl
theorem ae0:aF "comp" v ⟨bU o0 o1 o2 o3 o4 o5 o6 o7 o8,S⟩=⟨bU o0 o1 o2 o3 o4 o5 o6 o7 (some v),S⟩:=rfl
noncomputable def Ua:List (Str×Option V):=[("path",o0)]
theorem ae1:aq "path" ⟨Ua (some v),S⟩=.ok v ⟨Ua (some v),S⟩:=rfl
theorem ae2:aF "path" v ⟨Ua o0,S⟩=⟨Ua (some v),S⟩:=rfl
noncomputable def bQ:List (Str×Option V):=[("path",o0),("start",o1),("curdir",o2),("sep",o3),("pardir",o4),("start_tail",o5),("path_tail",o6),("start_list",o7),("path_list",o8),("i",o9),("rel_list",o10)]
theorem ae3:aq "path" ⟨bQ (some v) o1 o2 o3 o4 o5 o6 o7 o8 o9 o10,S⟩=.ok v ⟨bQ (some v) o1 o2 o3 o4 o5 o6 o7 o8 o9 o10,S⟩:=rfl
theorem ae4:aF "path" v ⟨bQ o0 o1 o2 o3 o4 o5 o6 o7 o8 o9 o10,S⟩=⟨bQ (some v) o1 o2 o3 o4 o5 o6 o7 o8 o9 o10,S⟩:=rfl
theorem ae5:aq "start" ⟨bQ o0 (some v) o2 o3 o4 o5 o6 o7 o8 o9 o10,S⟩=.ok v ⟨bQ o0 (some v) o2 o3 o4 o5 o6 o7 o8 o9 o10,S⟩:=rfl
theorem ae6:aF "start" v ⟨bQ o0 o1 o2 o3 o4 o5 o6 o7 o8 o9 o10,S⟩=⟨bQ o0 (some v) o2 o3 o4 o5 o6 o7 o8 o9 o10,S⟩:=rfl
theorem aiy:aq "curdir" ⟨bQ o0 o1 (some v) o3 o4 o5 o6 o7 o8 o9 o10,S⟩=.ok v ⟨bQ o0 o1 (some v) o3 o4 o5 o6 o7 o8 o9 o10,S⟩:=rfl
theorem ae7:aF "curdir" v ⟨bQ o0 o1 o2 o3 o4 o5 o6 o7 o8 o9 o10,S⟩=⟨bQ o0 o1 (some v) o3 o4 o5 o6 o7 o8 o9 o10,S⟩:=rfl
theorem aiz:aq "sep" ⟨bQ o0 o1 o2 (some v) o4 o5 o6 o7 o8 o9 o10,S⟩=.ok v ⟨bQ o0 o1 o2 (some v) o4 o5 o6 o7 o8 o9 o10,S⟩:=rfl
theorem ae8:aF "sep" v ⟨bQ o0 o1 o2 o3 o4 o5 o6 o7 o8 o9 o10,S⟩=⟨bQ o0 o1 o2 (some v) o4 o5 o6 o7 o8 o9 o10,S⟩:=rfl
theorem ae9:aq "pardir" ⟨bQ o0 o1 o2 o3 (some v) o5 o6 o7 o8 o9 o10,S⟩=.ok v ⟨bQ o0 o1 o2 o3 (some v) o5 o6 o7 o8 o9 o10,S⟩:=rfl
theorem afa:aF "pardir" v ⟨bQ o0 o1 o2 o3 o4 o5 o6 o7 o8 o9 o10,S⟩=⟨bQ o0 o1 o2 o3 (some v) o5 o6 o7 o8 o9 o10,S⟩:=rfl
theorem aiA:aq "start_tail" ⟨bQ o0 o1 o2 o3 o4 (some v) o6 o7 o8 o9 o10,S⟩=.ok v ⟨bQ o0 o1 o2 o3 o4 (some v) o6 o7 o8 o9 o10,S⟩:=rfl
theorem aiB:aF "start_tail" v ⟨bQ o0 o1 o2 o3 o4 o5 o6 o7 o8 o9 o10,S⟩=⟨bQ o0 o1 o2 o3 o4 (some v) o6 o7 o8 o9 o10,S⟩:=rfl
theorem aiC:aq "path_tail" ⟨bQ o0 o1 o2 o3 o4 o5 (some v) o7 o8 o9 o10,S⟩=.ok v ⟨bQ o0 o1 o2 o3 o4 o5 (some v) o7 o8 o9 o10,S⟩:=rfl
theorem aiD:aF "path_tail" v ⟨bQ o0 o1 o2 o3 o4 o5 o6 o7 o8 o9 o10,S⟩=⟨bQ o0 o1 o2 o3 o4 o5 (some v) o7 o8 o9 o10,S⟩:=rfl
theorem Yz:aq "start_list" ⟨bQ o0 o1 o2 o3 o4 o5 o6 (some v) o8 o9 o10,S⟩=.ok v ⟨bQ o0 o1 o2 o3 o4 o5 o6 (some v) o8 o9 o10,S⟩:=rfl
theorem aiE:aF "start_list" v ⟨bQ o0 o1 o2 o3 o4 o5 o6 o7 o8 o9 o10,S⟩=⟨bQ o0 o1 o2 o3 o4 o5 o6 (some v) o8 o9 o10,S⟩:=rfl
theorem YB:aq "path_list" ⟨bQ o0 o1 o2 o3 o4 o5 o6 o7 (some v) o9 o10,S⟩=.ok v ⟨bQ o0 o1 o2 o3 o4 o5 o6 o7 (some v) o9 o10,S⟩:=rfl
theorem aiF:aF "path_list" v ⟨bQ o0 o1 o2 o3 o4 o5 o6 o7 o8 o9 o10,S⟩=⟨bQ o0 o1 o2 o3 o4 o5 o6 o7 (some v) o9 o10,S⟩:=rfl
theorem afb:aq "i" ⟨bQ o0 o1 o2 o3 o4 o5 o6 o7 o8 (some v) o10,S⟩=.ok v ⟨bQ o0 o1 o2 o3 o4 o5 o6 o7 o8 (some v) o10,S⟩:=rfl
theorem afc:aF "i" v ⟨bQ o0 o1 o2 o3 o4 o5 o6 o7 o8 o9 o10,S⟩=⟨bQ o0 o1 o2 o3 o4 o5 o6 o7 o8 (some v) o10,S⟩:=rfl
theorem ahI:aq "rel_list" ⟨bQ o0 o1 o2 o3 o4 o5 o6 o7 o8 o9 (some v),S⟩=.ok v ⟨bQ o0 o1 o2 o3 o4 o5 o6 o7 o8 o9 (some v),S⟩:=rfl
theorem ab7:aF "rel_list" v ⟨bQ o0 o1 o2 o3 o4 o5 o6 o7 o8 o9 o10,S⟩=⟨bQ o0 o1 o2 o3 o4 o5 o6 o7 o8 o9 (some v),S⟩:=rfl
end
noncomputable section
variable (cl:Nat->List V->St->ak V) (Y:St)
def YC:SB:=λ cl Y=>(((aq "path" Y).bind λ a Y=>(ak.ok [] Y).bind λ b Y=>.ok (a::b) Y).bind λ c Y=>Wd c Y).bind λ d Y=>.ok .next (aF "kind" d Y)
def DX:SB:=λ cl Y=>(aq "path" Y).bind λ a Y=>.ok (.ret a) Y
def Q5:SB:=λ cl Y=>aj (DX cl Y) λ Y=>.ok .next Y
def YD:SB:=λ cl Y=>((((aq "kind" Y).bind λ a Y=>((((ak.ok (.bi .str) Y).bind λ b Y=>((ak.ok (.bi .bytes) Y).bind λ c Y=>(ak.ok [] Y).bind λ d Y=>.ok (c::d) Y).bind λ e Y=>.ok (b::e) Y).bind λ f Y=>Y.new (.tup f)).bind λ g Y=>(ak.ok [] Y).bind λ h Y=>.ok (g::h) Y).bind λ i Y=>.ok (a::i) Y).bind λ j Y=>Mh j Y).bind λ l Y=>aG (aO l Y) Y).bind λ m Y=>if m then Q5 cl Y else .ok .next Y
def agK:SB:=λ cl Y=>aj (YC cl Y) λ Y=>aj (YD cl Y) λ Y=>aK (cG cl 60) ((sU 214).drop 2) (wu 214) Y
theorem YF:aK (cG cl 60) (sU 214) (wu 214) Y=agK cl Y:=by kernel_rfl
def Ub:SB:=λ cl Y=>((ak.bad:ak V)).bind λ a Y=>.ok (.ret a) Y
def ab8:SB:=λ cl Y=>aj (Ub cl Y) λ Y=>.ok .next Y
def Uc:SB:=λ cl Y=>(ak.ok (.str "/") Y).bind λ a Y=>.ok (.ret a) Y
def ab9:SB:=λ cl Y=>aj (Uc cl Y) λ Y=>.ok .next Y
def afd:SB:=λ cl Y=>((((aq "path" Y).bind λ a Y=>((ak.ok (.bi .bytes) Y).bind λ b Y=>(ak.ok [] Y).bind λ c Y=>.ok (b::c) Y).bind λ d Y=>.ok (a::d) Y).bind λ e Y=>gF e Y).bind λ f Y=>aG (aO f Y) Y).bind λ g Y=>if g then ab8 cl Y else ab9 cl Y
def aiG:SB:=λ cl Y=>aj (afd cl Y) λ Y=>.ok .next Y
theorem YG:aK (cG cl 60) (sU 235) (wu 235) Y=aiG cl Y:=by kernel_rfl
def YH:SB:=λ cl Y=>(((aq "a" Y).bind λ b Y=>(ak.ok [] Y).bind λ c Y=>.ok (b::c) Y).bind λ d Y=>cl 214 d Y).bind λ e Y=>.ok .next (aF "a" e Y)
def YJ:SB:=λ cl Y=>(((aq "a" Y).bind λ b Y=>(ak.ok [] Y).bind λ c Y=>.ok (b::c) Y).bind λ d Y=>cl 235 d Y).bind λ e Y=>.ok .next (aF "sep" e Y)
def YK:SB:=λ cl Y=>(aq "a" Y).bind λ b Y=>.ok .next (aF "path" b Y)
def gO:SB:=λ cl Y=>(((aq "b" Y).bind λ a Y=>(ak.ok [] Y).bind λ c Y=>.ok (a::c) Y).bind λ d Y=>cl 214 d Y).bind λ e Y=>.ok .next (aF "b" e Y)
def je:SB:=λ cl Y=>(aq "b" Y).bind λ a Y=>.ok .next (aF "path" a Y)
def lK:SB:=λ cl Y=>aj (je cl Y) λ Y=>.ok .next Y
def jQ:SB:=λ cl Y=>(aq "path" Y).bind λ a Y=>(aq "b" Y).bind λ c Y=>(kJ .Add a c Y).bind λ d Y=>.ok .next (aF "path" d Y)
def mG:SB:=λ cl Y=>aj (jQ cl Y) λ Y=>.ok .next Y
def jR:SB:=λ cl Y=>(aq "path" Y).bind λ a Y=>((aq "sep" Y).bind λ c Y=>(aq "b" Y).bind λ d Y=>jE c d Y).bind λ e Y=>(kJ .Add a e Y).bind λ f Y=>.ok .next (aF "path" f Y)
def mH:SB:=λ cl Y=>aj (jR cl Y) λ Y=>.ok .next Y
def jf:SB:=λ cl Y=>(((aq "path" Y).bind (aV cl true "endswith" λ Y=>(aq "sep" Y).bind λ a Y=>(ak.ok [] Y).bind λ b Y=>.ok (a::b) Y)).bind λ c Y=>aG (aO c Y) Y).bind λ d Y=>if d then mG cl Y else mH cl Y
def lM:SB:=λ cl Y=>aj (jf cl Y) λ Y=>.ok .next Y
def gP:SB:=λ cl Y=>((((aq "b" Y).bind (aV cl true "startswith" λ Y=>(aq "sep" Y).bind λ a Y=>(ak.ok [] Y).bind λ c Y=>.ok (a::c) Y)).bind λ d Y=>aG (aO d Y) Y).bind λ e Y=>if e then .ok e Y else(((aq "path" Y).bind λ f Y=>aG (aO f Y) Y).bind λ g Y=>.ok (!g) Y).bind λ h Y=>if h then .ok h Y else .ok false Y).bind λ i Y=>if i then lK cl Y else lM cl Y
def fP:SB:=λ cl Y=>aj (gO cl Y) λ Y=>aj (gP cl Y) λ Y=>.ok .next Y
def wB:SB:=λ cl Y=>(aq "p" Y).bind (fC (λ v Y=>fP cl (aF "b" v Y)) (λ Y=>.ok .next Y))
def Q6:SB:=λ cl Y=>aj (wB cl Y) λ Y=>.ok .next Y
def Oh:SB:=λ cl Y=>uo (Q6 cl) (λ Y=>.ok .next Y) (λ _ _=>ak.bad) Y
def YL:SB:=λ cl Y=>(aq "path" Y).bind λ a Y=>.ok (.ret a) Y
def agL:SB:=λ cl Y=>aj (YH cl Y) λ Y=>aj (YJ cl Y) λ Y=>aj (YK cl Y) λ Y=>aj (Oh cl Y) λ Y=>aj (YL cl Y) λ Y=>.ok .next Y
theorem YM:aK (cG cl 60) (sU 242) (wu 242) Y=agL cl Y:=by kernel_rfl
def YQ:SB:=λ cl Y=>(((aq "p" Y).bind λ a Y=>(ak.ok [] Y).bind λ b Y=>.ok (a::b) Y).bind λ c Y=>cl 214 c Y).bind λ d Y=>.ok .next (aF "p" d Y)
def Ud:SB:=λ cl Y=>((ak.bad:ak V)).bind λ a Y=>.ok .next (aF "sep" a Y)
def Ue:SB:=λ cl Y=>((ak.bad:ak V)).bind λ a Y=>.ok .next (aF "empty" a Y)
def acd:SB:=λ cl Y=>aj (Ud cl Y) λ Y=>aj (Ue cl Y) λ Y=>.ok .next Y
def DY:SB:=λ cl Y=>(ak.ok (.str "/") Y).bind λ a Y=>.ok .next (aF "sep" a Y)
def Ea:SB:=λ cl Y=>(ak.ok (.str "") Y).bind λ a Y=>.ok .next (aF "empty" a Y)
def Q7:SB:=λ cl Y=>aj (DY cl Y) λ Y=>aj (Ea cl Y) λ Y=>.ok .next Y
def YS:SB:=λ cl Y=>((((aq "p" Y).bind λ a Y=>((ak.ok (.bi .bytes) Y).bind λ b Y=>(ak.ok [] Y).bind λ c Y=>.ok (b::c) Y).bind λ d Y=>.ok (a::d) Y).bind λ e Y=>gF e Y).bind λ f Y=>aG (aO f Y) Y).bind λ g Y=>if g then acd cl Y else Q7 cl Y
def Eb:SB:=λ cl Y=>(((aq "empty" Y).bind λ a Y=>((aq "empty" Y).bind λ b Y=>((aq "p" Y).bind λ c Y=>(ak.ok [] Y).bind λ d Y=>.ok (c::d) Y).bind λ e Y=>.ok (b::e) Y).bind λ f Y=>.ok (a::f) Y).bind λ g Y=>Y.new (.tup g)).bind λ h Y=>.ok (.ret h) Y
def Q8:SB:=λ cl Y=>aj (Eb cl Y) λ Y=>.ok .next Y
def uq:SB:=λ cl Y=>(((aq "empty" Y).bind λ a Y=>((aq "sep" Y).bind λ b Y=>(((aq "p" Y).bind λ c Y=>(ak.ok (.int 1) Y).bind λ d Y=>(ak.ok .none Y).bind λ e Y=>bC c d e Y).bind λ f Y=>(ak.ok [] Y).bind λ g Y=>.ok (f::g) Y).bind λ h Y=>.ok (b::h) Y).bind λ i Y=>.ok (a::i) Y).bind λ j Y=>Y.new (.tup j)).bind λ l Y=>.ok (.ret l) Y
def Ax:SB:=λ cl Y=>aj (uq cl Y) λ Y=>.ok .next Y
def Hr:SB:=λ cl Y=>(((aq "empty" Y).bind λ a Y=>(((aq "p" Y).bind λ b Y=>(ak.ok .none Y).bind λ c Y=>(ak.ok (.int 2) Y).bind λ d Y=>bC b c d Y).bind λ e Y=>(((aq "p" Y).bind λ f Y=>(ak.ok (.int 2) Y).bind λ g Y=>(ak.ok .none Y).bind λ h Y=>bC f g h Y).bind λ i Y=>(ak.ok [] Y).bind λ j Y=>.ok (i::j) Y).bind λ l Y=>.ok (e::l) Y).bind λ m Y=>.ok (a::m) Y).bind λ n Y=>Y.new (.tup n)).bind λ o Y=>.ok (.ret o) Y
def Oi:SB:=λ cl Y=>aj (Hr cl Y) λ Y=>.ok .next Y
def Ec:SB:=λ cl Y=>((((aq "p" Y).bind λ a Y=>(ak.ok (.int 1) Y).bind λ b Y=>(ak.ok (.int 2) Y).bind λ c Y=>bC a b c Y).bind λ d Y=>(aq "sep" Y).bind λ e Y=>(aG (nj d e Y) Y).bind λ f Y=>.ok f Y).bind λ g Y=>if g then .ok g Y else(((aq "p" Y).bind λ h Y=>(ak.ok (.int 2) Y).bind λ i Y=>(ak.ok (.int 3) Y).bind λ j Y=>bC h i j Y).bind λ l Y=>(aq "sep" Y).bind λ m Y=>(aG (yw l m Y) Y).bind λ n Y=>.ok n Y).bind λ o Y=>if o then .ok o Y else .ok false Y).bind λ q Y=>if q then Ax cl Y else Oi cl Y
def Q9:SB:=λ cl Y=>aj (Ec cl Y) λ Y=>.ok .next Y
def YT:SB:=λ cl Y=>(((aq "p" Y).bind λ a Y=>(ak.ok .none Y).bind λ b Y=>(ak.ok (.int 1) Y).bind λ c Y=>bC a b c Y).bind λ d Y=>(aq "sep" Y).bind λ e Y=>(aG (nj d e Y) Y).bind λ f Y=>.ok f Y).bind λ g Y=>if g then Q8 cl Y else Q9 cl Y
def agM:SB:=λ cl Y=>aj (YQ cl Y) λ Y=>aj (YS cl Y) λ Y=>aj (YT cl Y) λ Y=>.ok .next Y
theorem YW:aK (cG cl 60) (sU 249) (wu 249) Y=agM cl Y:=by kernel_rfl
def YX:SB:=λ cl Y=>(((aq "p" Y).bind λ a Y=>(ak.ok [] Y).bind λ b Y=>.ok (a::b) Y).bind λ c Y=>cl 214 c Y).bind λ d Y=>.ok .next (aF "p" d Y)
def YZ:SB:=λ cl Y=>(((aq "p" Y).bind λ a Y=>(ak.ok [] Y).bind λ b Y=>.ok (a::b) Y).bind λ c Y=>cl 235 c Y).bind λ d Y=>.ok .next (aF "sep" d Y)
def Y0:SB:=λ cl Y=>(((aq "p" Y).bind (aV cl true "rfind" λ Y=>(aq "sep" Y).bind λ a Y=>(ak.ok [] Y).bind λ b Y=>.ok (a::b) Y)).bind λ c Y=>(ak.ok (.int 1) Y).bind λ d Y=>jE c d Y).bind λ e Y=>.ok .next (aF "i" e Y)
def Y4:SB:=λ cl Y=>((aq "p" Y).bind λ a Y=>(ak.ok .none Y).bind λ b Y=>(aq "i" Y).bind λ c Y=>bC a b c Y).bind λ d Y=>.ok .next (aF "head" d Y)
def Ed:SB:=λ cl Y=>((aq "head" Y).bind (aV cl true "rstrip" λ Y=>(aq "sep" Y).bind λ a Y=>(ak.ok [] Y).bind λ b Y=>.ok (a::b) Y)).bind λ c Y=>.ok .next (aF "head" c Y)
def Ra:SB:=λ cl Y=>aj (Ed cl Y) λ Y=>.ok .next Y
def Hs:SB:=λ cl Y=>(((aq "head" Y).bind λ a Y=>aG (aO a Y) Y).bind λ b Y=>if !b then .ok b Y else((aq "head" Y).bind λ c Y=>((aq "sep" Y).bind λ d Y=>(((aq "head" Y).bind λ e Y=>(ak.ok [] Y).bind λ f Y=>.ok (e::f) Y).bind λ g Y=>rU g Y).bind λ h Y=>zq d h Y).bind λ i Y=>(aG (nj c i Y) Y).bind λ j Y=>.ok j Y).bind λ l Y=>if !l then .ok l Y else .ok true Y).bind λ m Y=>if m then Ra cl Y else .ok .next Y
def Ht:SB:=λ cl Y=>(aq "head" Y).bind λ a Y=>.ok (.ret a) Y
def agN:SB:=λ cl Y=>aj (YX cl Y) λ Y=>aj (YZ cl Y) λ Y=>aj (Y0 cl Y) λ Y=>aj (Y4 cl Y) λ Y=>aj (Hs cl Y) λ Y=>aj (Ht cl Y) λ Y=>.ok .next Y
theorem Y5:aK (cG cl 60) (sU 256) (wu 256) Y=agN cl Y:=by kernel_rfl
def Y6:SB:=λ cl Y=>(((aq "path" Y).bind λ a Y=>(ak.ok [] Y).bind λ b Y=>.ok (a::b) Y).bind λ c Y=>cl 214 c Y).bind λ d Y=>.ok .next (aF "path" d Y)
def Uh:SB:=λ cl Y=>((ak.bad:ak V)).bind λ a Y=>.ok .next (aF "sep" a Y)
def Ui:SB:=λ cl Y=>((ak.bad:ak V)).bind λ a Y=>.ok .next (aF "dot" a Y)
def Uj:SB:=λ cl Y=>((ak.bad:ak V)).bind λ a Y=>.ok .next (aF "dotdot" a Y)
def ace:SB:=λ cl Y=>aj (Uh cl Y) λ Y=>aj (Ui cl Y) λ Y=>aj (Uj cl Y) λ Y=>.ok .next Y
def Ef:SB:=λ cl Y=>(ak.ok (.str "/") Y).bind λ a Y=>.ok .next (aF "sep" a Y)
def Eg:SB:=λ cl Y=>(ak.ok (.str ".") Y).bind λ a Y=>.ok .next (aF "dot" a Y)
def Eh:SB:=λ cl Y=>(ak.ok (.str "..") Y).bind λ a Y=>.ok .next (aF "dotdot" a Y)
def Rb:SB:=λ cl Y=>aj (Ef cl Y) λ Y=>aj (Eg cl Y) λ Y=>aj (Eh cl Y) λ Y=>.ok .next Y
def Y7:SB:=λ cl Y=>((((aq "path" Y).bind λ a Y=>((ak.ok (.bi .bytes) Y).bind λ b Y=>(ak.ok [] Y).bind λ c Y=>.ok (b::c) Y).bind λ d Y=>.ok (a::d) Y).bind λ e Y=>gF e Y).bind λ f Y=>aG (aO f Y) Y).bind λ g Y=>if g then ace cl Y else Rb cl Y
def Uk:SB:=λ cl Y=>(aq "dot" Y).bind λ a Y=>.ok (.ret a) Y
def acf:SB:=λ cl Y=>aj (Uk cl Y) λ Y=>.ok .next Y
def Y8:SB:=λ cl Y=>(((aq "path" Y).bind λ a Y=>aG (aO a Y) Y).bind λ b Y=>.ok (!b) Y).bind λ c Y=>if c then acf cl Y else .ok .next Y
def Y9:SB:=λ cl Y=>(((aq "path" Y).bind λ a Y=>(ak.ok [] Y).bind λ b Y=>.ok (a::b) Y).bind λ c Y=>cl 249 c Y).bind λ d Y=>((yX ["_","initial_slashes","path"] d Y).bind λ _ Y=>.ok () Y).bind λ _ Y=>.ok .next Y
def Oj:SB:=λ cl Y=>((aq "path" Y).bind (aV cl true "split" λ Y=>(aq "sep" Y).bind λ a Y=>(ak.ok [] Y).bind λ b Y=>.ok (a::b) Y)).bind λ c Y=>.ok .next (aF "comps" c Y)
def Ol:SB:=λ cl Y=>((ak.ok [] Y).bind λ a Y=>Y.new (.list a)).bind λ b Y=>.ok .next (aF "new_comps" b Y)
def Hu:SB:=λ cl Y=>.ok .cont Y
def Om:SB:=λ cl Y=>aj (Hu cl Y) λ Y=>.ok .next Y
def wC:SB:=λ cl Y=>((((aq "comp" Y).bind λ a Y=>aG (aO a Y) Y).bind λ b Y=>.ok (!b) Y).bind λ c Y=>if c then .ok c Y else((aq "comp" Y).bind λ d Y=>(aq "dot" Y).bind λ e Y=>(aG (yw d e Y) Y).bind λ f Y=>.ok f Y).bind λ g Y=>if g then .ok g Y else .ok false Y).bind λ h Y=>if h then Om cl Y else .ok .next Y
def Hv:SB:=λ cl Y=>((aq "new_comps" Y).bind (aV cl true "append" λ Y=>(aq "comp" Y).bind λ a Y=>(ak.ok [] Y).bind λ b Y=>.ok (a::b) Y)).bind λ _ Y=>.ok .next Y
def nW:SB:=λ cl Y=>aj (Hv cl Y) λ Y=>.ok .next Y
def yG:SB:=λ cl Y=>((aq "new_comps" Y).bind (aV cl true "pop" λ Y=>.ok [] Y)).bind λ _ Y=>.ok .next Y
def Cz:SB:=λ cl Y=>aj (yG cl Y) λ Y=>.ok .next Y
def Hw:SB:=λ cl Y=>((aq "new_comps" Y).bind λ a Y=>aG (aO a Y) Y).bind λ b Y=>if b then Cz cl Y else .ok .next Y
def Ay:SB:=λ cl Y=>aj (Hw cl Y) λ Y=>.ok .next Y
def wD:SB:=λ cl Y=>(((aq "comp" Y).bind λ a Y=>(aq "dotdot" Y).bind λ b Y=>(aG (nj a b Y) Y).bind λ c Y=>.ok c Y).bind λ d Y=>if d then .ok d Y else((((aq "initial_slashes" Y).bind λ e Y=>aG (aO e Y) Y).bind λ f Y=>.ok (!f) Y).bind λ g Y=>if !g then .ok g Y else(((aq "new_comps" Y).bind λ h Y=>aG (aO h Y) Y).bind λ i Y=>.ok (!i) Y).bind λ j Y=>if !j then .ok j Y else .ok true Y).bind λ l Y=>if l then .ok l Y else(((aq "new_comps" Y).bind λ m Y=>aG (aO m Y) Y).bind λ n Y=>if !n then .ok n Y else(((aq "new_comps" Y).bind λ o Y=>((ak.ok (.int 1) Y).bind (QH .USub)).bind λ p Y=>dz (cM o p Y) Y).bind λ q Y=>(aq "dotdot" Y).bind λ r Y=>(aG (yw q r Y) Y).bind λ s Y=>.ok s Y).bind λ t Y=>if !t then .ok t Y else .ok true Y).bind λ u Y=>if u then .ok u Y else .ok false Y).bind λ w Y=>if w then nW cl Y else Ay cl Y
def ur:SB:=λ cl Y=>aj (wC cl Y) λ Y=>aj (wD cl Y) λ Y=>.ok .next Y
def Oo:SB:=λ cl Y=>(aq "comps" Y).bind (fC (λ v Y=>ur cl (aF "comp" v Y)) (λ Y=>.ok .next Y))
def Za:SB:=λ cl Y=>(aq "new_comps" Y).bind λ a Y=>.ok .next (aF "comps" a Y)
def Zb:SB:=λ cl Y=>((aq "initial_slashes" Y).bind λ a Y=>((aq "sep" Y).bind (aV cl true "join" λ Y=>(aq "comps" Y).bind λ b Y=>(ak.ok [] Y).bind λ c Y=>.ok (b::c) Y)).bind λ d Y=>jE a d Y).bind λ e Y=>.ok .next (aF "path" e Y)
def Oq:SB:=λ cl Y=>((aq "path" Y).bind λ a Y=>(aG (aO a Y) Y).bind λ b Y=>if b then .ok a Y else aq "dot" Y).bind λ c Y=>.ok (.ret c) Y
def agO:SB:=λ cl Y=>aj (Y6 cl Y) λ Y=>aj (Y7 cl Y) λ Y=>aj (Y8 cl Y) λ Y=>aj (Y9 cl Y) λ Y=>aj (Oj cl Y) λ Y=>aj (Ol cl Y) λ Y=>aj (Oo cl Y) λ Y=>aj (Za cl Y) λ Y=>aj (Zb cl Y) λ Y=>aj (Oq cl Y) λ Y=>.ok .next Y
theorem Zc:aK (cG cl 60) (sU 263) (wu 263) Y=agO cl Y:=by kernel_rfl
def Zd:SB:=λ cl Y=>(((aq "path" Y).bind λ a Y=>(ak.ok [] Y).bind λ b Y=>.ok (a::b) Y).bind λ c Y=>cl 214 c Y).bind λ d Y=>.ok .next (aF "path" d Y)
def Hx:SB:=λ cl Y=>(((((ak.bad:ak V)).bind λ a Y=>(ak.ok [] Y).bind λ b Y=>Ar cl true a b Y).bind λ c Y=>((aq "path" Y).bind λ d Y=>(ak.ok [] Y).bind λ e Y=>.ok (d::e) Y).bind λ f Y=>.ok (c::f) Y).bind λ g Y=>cl 242 g Y).bind λ h Y=>.ok .next (aF "path" h Y)
def Ot:SB:=λ cl Y=>aj (Hx cl Y) λ Y=>.ok .next Y
def Ul:SB:=λ cl Y=>((((aq "path" Y).bind (aV cl true "startswith" λ Y=>((ak.bad:ak V)).bind λ a Y=>(ak.ok [] Y).bind λ b Y=>.ok (a::b) Y)).bind λ c Y=>aG (aO c Y) Y).bind λ d Y=>.ok (!d) Y).bind λ e Y=>if e then Ot cl Y else .ok .next Y
def acg:SB:=λ cl Y=>aj (Ul cl Y) λ Y=>.ok .next Y
def Hy:SB:=λ cl Y=>(((((ak.bad:ak V)).bind λ a Y=>(ak.ok [] Y).bind λ b Y=>Ar cl true a b Y).bind λ c Y=>((aq "path" Y).bind λ d Y=>(ak.ok [] Y).bind λ e Y=>.ok (d::e) Y).bind λ f Y=>.ok (c::f) Y).bind λ g Y=>cl 242 g Y).bind λ h Y=>.ok .next (aF "path" h Y)
def Ou:SB:=λ cl Y=>aj (Hy cl Y) λ Y=>.ok .next Y
def Ei:SB:=λ cl Y=>((((aq "path" Y).bind (aV cl true "startswith" λ Y=>(ak.ok (.str "/") Y).bind λ a Y=>(ak.ok [] Y).bind λ b Y=>.ok (a::b) Y)).bind λ c Y=>aG (aO c Y) Y).bind λ d Y=>.ok (!d) Y).bind λ e Y=>if e then Ou cl Y else .ok .next Y
def Rc:SB:=λ cl Y=>aj (Ei cl Y) λ Y=>.ok .next Y
def Ze:SB:=λ cl Y=>((((aq "path" Y).bind λ a Y=>((ak.ok (.bi .bytes) Y).bind λ b Y=>(ak.ok [] Y).bind λ c Y=>.ok (b::c) Y).bind λ d Y=>.ok (a::d) Y).bind λ e Y=>gF e Y).bind λ f Y=>aG (aO f Y) Y).bind λ g Y=>if g then acg cl Y else Rc cl Y
def Zf:SB:=λ cl Y=>(((aq "path" Y).bind λ a Y=>(ak.ok [] Y).bind λ b Y=>.ok (a::b) Y).bind λ c Y=>cl 263 c Y).bind λ d Y=>.ok (.ret d) Y
def agP:SB:=λ cl Y=>aj (Zd cl Y) λ Y=>aj (Ze cl Y) λ Y=>aj (Zf cl Y) λ Y=>.ok .next Y
theorem Zg:aK (cG cl 60) (sU 270) (wu 270) Y=agP cl Y:=by kernel_rfl
def Zh:SB:=λ cl Y=>(((aq "path" Y).bind λ a Y=>(ak.ok [] Y).bind λ b Y=>.ok (a::b) Y).bind λ c Y=>cl 214 c Y).bind λ d Y=>.ok .next (aF "path" d Y)
def Um:SB:=λ cl Y=>ak.bad
def ach:SB:=λ cl Y=>aj (Um cl Y) λ Y=>.ok .next Y
def Zi:SB:=λ cl Y=>(((aq "path" Y).bind λ a Y=>aG (aO a Y) Y).bind λ b Y=>.ok (!b) Y).bind λ c Y=>if c then ach cl Y else .ok .next Y
def Un:SB:=λ cl Y=>((ak.bad:ak V)).bind λ a Y=>.ok .next (aF "curdir" a Y)
def Uo:SB:=λ cl Y=>((ak.bad:ak V)).bind λ a Y=>.ok .next (aF "sep" a Y)
def Uq:SB:=λ cl Y=>((ak.bad:ak V)).bind λ a Y=>.ok .next (aF "pardir" a Y)
def aci:SB:=λ cl Y=>aj (Un cl Y) λ Y=>aj (Uo cl Y) λ Y=>aj (Uq cl Y) λ Y=>.ok .next Y
def Ej:SB:=λ cl Y=>(ak.ok (.str ".") Y).bind λ a Y=>.ok .next (aF "curdir" a Y)
def Ek:SB:=λ cl Y=>(ak.ok (.str "/") Y).bind λ a Y=>.ok .next (aF "sep" a Y)
def El:SB:=λ cl Y=>(ak.ok (.str "..") Y).bind λ a Y=>.ok .next (aF "pardir" a Y)
def Rd:SB:=λ cl Y=>aj (Ej cl Y) λ Y=>aj (Ek cl Y) λ Y=>aj (El cl Y) λ Y=>.ok .next Y
def Zj:SB:=λ cl Y=>((((aq "path" Y).bind λ a Y=>((ak.ok (.bi .bytes) Y).bind λ b Y=>(ak.ok [] Y).bind λ c Y=>.ok (b::c) Y).bind λ d Y=>.ok (a::d) Y).bind λ e Y=>gF e Y).bind λ f Y=>aG (aO f Y) Y).bind λ g Y=>if g then aci cl Y else Rd cl Y
def Ur:SB:=λ cl Y=>(aq "curdir" Y).bind λ a Y=>.ok .next (aF "start" a Y)
def acj:SB:=λ cl Y=>aj (Ur cl Y) λ Y=>.ok .next Y
def Em:SB:=λ cl Y=>(((aq "start" Y).bind λ a Y=>(ak.ok [] Y).bind λ b Y=>.ok (a::b) Y).bind λ c Y=>cl 214 c Y).bind λ d Y=>.ok .next (aF "start" d Y)
def Rf:SB:=λ cl Y=>aj (Em cl Y) λ Y=>.ok .next Y
def Zk:SB:=λ cl Y=>((aq "start" Y).bind λ a Y=>(ak.ok (.none) Y).bind λ b Y=>(aG (Mg a b) Y).bind λ c Y=>.ok c Y).bind λ d Y=>if d then acj cl Y else Rf cl Y
def Eo:SB:=λ cl Y=>((((aq "start" Y).bind λ a Y=>(ak.ok [] Y).bind λ b Y=>.ok (a::b) Y).bind λ c Y=>cl 270 c Y).bind (aV cl true "lstrip" λ Y=>(aq "sep" Y).bind λ d Y=>(ak.ok [] Y).bind λ e Y=>.ok (d::e) Y)).bind λ f Y=>.ok .next (aF "start_tail" f Y)
def Ep:SB:=λ cl Y=>((((aq "path" Y).bind λ a Y=>(ak.ok [] Y).bind λ b Y=>.ok (a::b) Y).bind λ c Y=>cl 270 c Y).bind (aV cl true "lstrip" λ Y=>(aq "sep" Y).bind λ d Y=>(ak.ok [] Y).bind λ e Y=>.ok (d::e) Y)).bind λ f Y=>.ok .next (aF "path_tail" f Y)
def Er:SB:=λ cl Y=>(((aq "start_tail" Y).bind λ a Y=>aG (aO a Y) Y).bind λ b Y=>if b then(aq "start_tail" Y).bind (aV cl true "split" λ Y=>(aq "sep" Y).bind λ c Y=>(ak.ok [] Y).bind λ d Y=>.ok (c::d) Y)else(ak.ok [] Y).bind λ e Y=>Y.new (.list e)).bind λ f Y=>.ok .next (aF "start_list" f Y)
def Es:SB:=λ cl Y=>(((aq "path_tail" Y).bind λ a Y=>aG (aO a Y) Y).bind λ b Y=>if b then(aq "path_tail" Y).bind (aV cl true "split" λ Y=>(aq "sep" Y).bind λ c Y=>(ak.ok [] Y).bind λ d Y=>.ok (c::d) Y)else(ak.ok [] Y).bind λ e Y=>Y.new (.list e)).bind λ f Y=>.ok .next (aF "path_list" f Y)
def wF:SB:=λ cl Y=>(((((((aq "start_list" Y).bind λ a Y=>((aq "path_list" Y).bind λ b Y=>(ak.ok [] Y).bind λ c Y=>.ok (b::c) Y).bind λ d Y=>.ok (a::d) Y).bind λ e Y=>Y.new (.list e)).bind λ f Y=>(ak.ok [] Y).bind λ g Y=>.ok (f::g) Y).bind λ h Y=>cl 221 h Y).bind λ j Y=>(ak.ok [] Y).bind λ l Y=>.ok (j::l) Y).bind λ m Y=>rU m Y).bind λ n Y=>.ok .next (aF "i" n Y)
def wG:SB:=λ cl Y=>(((((aq "pardir" Y).bind λ a Y=>(ak.ok [] Y).bind λ b Y=>.ok (a::b) Y).bind λ c Y=>Y.new (.list c)).bind λ d Y=>((((aq "start_list" Y).bind λ e Y=>(ak.ok [] Y).bind λ f Y=>.ok (e::f) Y).bind λ g Y=>rU g Y).bind λ h Y=>(aq "i" Y).bind λ j Y=>gD .Sub h j Y).bind λ l Y=>zq d l Y).bind λ m Y=>((aq "path_list" Y).bind λ n Y=>(aq "i" Y).bind λ o Y=>(ak.ok .none Y).bind λ p Y=>bC n o p Y).bind λ q Y=>jE m q Y).bind λ r Y=>.ok .next (aF "rel_list" r Y)
def Hz:SB:=λ cl Y=>(aq "curdir" Y).bind λ a Y=>.ok (.ret a) Y
def Ov:SB:=λ cl Y=>aj (Hz cl Y) λ Y=>.ok .next Y
def Et:SB:=λ cl Y=>(((aq "rel_list" Y).bind λ a Y=>aG (aO a Y) Y).bind λ b Y=>.ok (!b) Y).bind λ c Y=>if c then Ov cl Y else .ok .next Y
def Eu:SB:=λ cl Y=>((aq "sep" Y).bind (aV cl true "join" λ Y=>(aq "rel_list" Y).bind λ a Y=>(ak.ok [] Y).bind λ b Y=>.ok (a::b) Y)).bind λ c Y=>.ok (.ret c) Y
def Rh:SB:=λ cl Y=>aj (Eo cl Y) λ Y=>aj (Ep cl Y) λ Y=>aj (Er cl Y) λ Y=>aj (Es cl Y) λ Y=>aj (wF cl Y) λ Y=>aj (wG cl Y) λ Y=>aj (Et cl Y) λ Y=>aj (Eu cl Y) λ Y=>.ok .next Y
def Ow:SB:=λ cl Y=>uo (Rh cl) (λ Y=>.ok .next Y) (λ _ _=>ak.bad) Y
def agQ:SB:=λ cl Y=>aj (Zh cl Y) λ Y=>aj (Zi cl Y) λ Y=>aj (Zj cl Y) λ Y=>aj (Zk cl Y) λ Y=>aj (Ow cl Y) λ Y=>.ok .next Y
theorem Zm:aK (cG cl 60) (sU 278) (wu 278) Y=agQ cl Y:=by kernel_rfl
end
section
variable (o0 o1 o2 o3 o4 o5 o6 o7 o8 o9 o10 o11 o12 o13 o14 o15 o16 o17 o18 o19 o20 o21 o22 o23 o24 o25 o26 o27 o28 o29 o30 o31 o32 o33 o34 o35:Option V) (S:List O) (v:V)
noncomputable def jg:List (Str×Option V):=[("m",o0),("s1",o1),("s2",o2),("i",o3),("c",o4)]
theorem afe:aq "m" ⟨jg (some v) o1 o2 o3 o4,S⟩=.ok v ⟨jg (some v) o1 o2 o3 o4,S⟩:=rfl
theorem aiH:aF "m" v ⟨jg o0 o1 o2 o3 o4,S⟩=⟨jg (some v) o1 o2 o3 o4,S⟩:=rfl
theorem Ox:aq "s1" ⟨jg o0 (some v) o2 o3 o4,S⟩=.ok v ⟨jg o0 (some v) o2 o3 o4,S⟩:=rfl
theorem afg:aF "s1" v ⟨jg o0 o1 o2 o3 o4,S⟩=⟨jg o0 (some v) o2 o3 o4,S⟩:=rfl
theorem Oz:aq "s2" ⟨jg o0 o1 (some v) o3 o4,S⟩=.ok v ⟨jg o0 o1 (some v) o3 o4,S⟩:=rfl
theorem afh:aF "s2" v ⟨jg o0 o1 o2 o3 o4,S⟩=⟨jg o0 o1 (some v) o3 o4,S⟩:=rfl
theorem Zn:aq "i" ⟨jg o0 o1 o2 (some v) o4,S⟩=.ok v ⟨jg o0 o1 o2 (some v) o4,S⟩:=rfl
theorem Zo:aF "i" v ⟨jg o0 o1 o2 o3 o4,S⟩=⟨jg o0 o1 o2 (some v) o4,S⟩:=rfl
theorem Zq:aq "c" ⟨jg o0 o1 o2 o3 (some v),S⟩=.ok v ⟨jg o0 o1 o2 o3 (some v),S⟩:=rfl
theorem Zr:aF "c" v ⟨jg o0 o1 o2 o3 o4,S⟩=⟨jg o0 o1 o2 o3 (some v),S⟩:=rfl
noncomputable def dN:List (Str×Option V):=[("paths",o0),("split_paths",o1),("isabs",o2),("c",o3),("s1",o4),("s2",o5),("common",o6),("i",o7),("prefix",o8)]
theorem OD:aq "paths" ⟨dN (some v) o1 o2 o3 o4 o5 o6 o7 o8,S⟩=.ok v ⟨dN (some v) o1 o2 o3 o4 o5 o6 o7 o8,S⟩:=rfl
theorem afi:aF "paths" v ⟨dN o0 o1 o2 o3 o4 o5 o6 o7 o8,S⟩=⟨dN (some v) o1 o2 o3 o4 o5 o6 o7 o8,S⟩:=rfl
theorem Zt:aq "split_paths" ⟨dN o0 (some v) o2 o3 o4 o5 o6 o7 o8,S⟩=.ok v ⟨dN o0 (some v) o2 o3 o4 o5 o6 o7 o8,S⟩:=rfl
theorem Zu:aF "split_paths" v ⟨dN o0 o1 o2 o3 o4 o5 o6 o7 o8,S⟩=⟨dN o0 (some v) o2 o3 o4 o5 o6 o7 o8,S⟩:=rfl
theorem afj:aq "isabs" ⟨dN o0 o1 (some v) o3 o4 o5 o6 o7 o8,S⟩=.ok v ⟨dN o0 o1 (some v) o3 o4 o5 o6 o7 o8,S⟩:=rfl
theorem afk:aF "isabs" v ⟨dN o0 o1 o2 o3 o4 o5 o6 o7 o8,S⟩=⟨dN o0 o1 (some v) o3 o4 o5 o6 o7 o8,S⟩:=rfl
theorem Zv:aq "c" ⟨dN o0 o1 o2 (some v) o4 o5 o6 o7 o8,S⟩=.ok v ⟨dN o0 o1 o2 (some v) o4 o5 o6 o7 o8,S⟩:=rfl
theorem Zw:aF "c" v ⟨dN o0 o1 o2 o3 o4 o5 o6 o7 o8,S⟩=⟨dN o0 o1 o2 (some v) o4 o5 o6 o7 o8,S⟩:=rfl
theorem OJ:aq "s1" ⟨dN o0 o1 o2 o3 (some v) o5 o6 o7 o8,S⟩=.ok v ⟨dN o0 o1 o2 o3 (some v) o5 o6 o7 o8,S⟩:=rfl
theorem afl:aF "s1" v ⟨dN o0 o1 o2 o3 o4 o5 o6 o7 o8,S⟩=⟨dN o0 o1 o2 o3 (some v) o5 o6 o7 o8,S⟩:=rfl
theorem Zx:aq "s2" ⟨dN o0 o1 o2 o3 o4 (some v) o6 o7 o8,S⟩=.ok v ⟨dN o0 o1 o2 o3 o4 (some v) o6 o7 o8,S⟩:=rfl
theorem afm:aF "s2" v ⟨dN o0 o1 o2 o3 o4 o5 o6 o7 o8,S⟩=⟨dN o0 o1 o2 o3 o4 (some v) o6 o7 o8,S⟩:=rfl
theorem afn:aq "common" ⟨dN o0 o1 o2 o3 o4 o5 (some v) o7 o8,S⟩=.ok v ⟨dN o0 o1 o2 o3 o4 o5 (some v) o7 o8,S⟩:=rfl
theorem Zy:aF "common" v ⟨dN o0 o1 o2 o3 o4 o5 o6 o7 o8,S⟩=⟨dN o0 o1 o2 o3 o4 o5 (some v) o7 o8,S⟩:=rfl
theorem ZC:aq "i" ⟨dN o0 o1 o2 o3 o4 o5 o6 (some v) o8,S⟩=.ok v ⟨dN o0 o1 o2 o3 o4 o5 o6 (some v) o8,S⟩:=rfl
theorem ZD:aF "i" v ⟨dN o0 o1 o2 o3 o4 o5 o6 o7 o8,S⟩=⟨dN o0 o1 o2 o3 o4 o5 o6 (some v) o8,S⟩:=rfl
theorem afo:aq "prefix" ⟨dN o0 o1 o2 o3 o4 o5 o6 o7 (some v),S⟩=.ok v ⟨dN o0 o1 o2 o3 o4 o5 o6 o7 (some v),S⟩:=rfl
theorem afp:aF "prefix" v ⟨dN o0 o1 o2 o3 o4 o5 o6 o7 o8,S⟩=⟨dN o0 o1 o2 o3 o4 o5 o6 o7 (some v),S⟩:=rfl
noncomputable def ZF:List (Str×Option V):=[("parts",o0)]
theorem ZG:aq "parts" ⟨ZF (some v),S⟩=.ok v ⟨ZF (some v),S⟩:=rfl
theorem aiI:aF "parts" v ⟨ZF o0,S⟩=⟨ZF (some v),S⟩:=rfl
noncomputable def kE:List (Str×Option V):=[("folder",o0),("pieces",o1),("parts",o2),("piece",o3)]
theorem afq:aq "folder" ⟨kE (some v) o1 o2 o3,S⟩=.ok v ⟨kE (some v) o1 o2 o3,S⟩:=rfl
theorem aiJ:aF "folder" v ⟨kE o0 o1 o2 o3,S⟩=⟨kE (some v) o1 o2 o3,S⟩:=rfl
theorem afr:aq "pieces" ⟨kE o0 (some v) o2 o3,S⟩=.ok v ⟨kE o0 (some v) o2 o3,S⟩:=rfl
theorem aiK:aF "pieces" v ⟨kE o0 o1 o2 o3,S⟩=⟨kE o0 (some v) o2 o3,S⟩:=rfl
theorem ZJ:aq "parts" ⟨kE o0 o1 (some v) o3,S⟩=.ok v ⟨kE o0 o1 (some v) o3,S⟩:=rfl
theorem O1:aF "parts" v ⟨kE o0 o1 o2 o3,S⟩=⟨kE o0 o1 (some v) o3,S⟩:=rfl
theorem HB:aq "piece" ⟨kE o0 o1 o2 (some v),S⟩=.ok v ⟨kE o0 o1 o2 (some v),S⟩:=rfl
theorem aiL:aF "piece" v ⟨kE o0 o1 o2 o3,S⟩=⟨kE o0 o1 o2 (some v),S⟩:=rfl
noncomputable def jT:List (Str×Option V):=[("pieces",o0),("parts",o1),("piece",o2)]
theorem afs:aq "pieces" ⟨jT (some v) o1 o2,S⟩=.ok v ⟨jT (some v) o1 o2,S⟩:=rfl
theorem aiM:aF "pieces" v ⟨jT o0 o1 o2,S⟩=⟨jT (some v) o1 o2,S⟩:=rfl
theorem HD:aq "parts" ⟨jT o0 (some v) o2,S⟩=.ok v ⟨jT o0 (some v) o2,S⟩:=rfl
theorem O2:aF "parts" v ⟨jT o0 o1 o2,S⟩=⟨jT o0 (some v) o2,S⟩:=rfl
theorem wH:aq "piece" ⟨jT o0 o1 (some v),S⟩=.ok v ⟨jT o0 o1 (some v),S⟩:=rfl
theorem aiN:aF "piece" v ⟨jT o0 o1 o2,S⟩=⟨jT o0 o1 (some v),S⟩:=rfl
noncomputable def jU:List (Str×Option V):=[("one",o0),("other",o1),("same",o2)]
theorem O3:aq "one" ⟨jU (some v) o1 o2,S⟩=.ok v ⟨jU (some v) o1 o2,S⟩:=rfl
theorem aiO:aF "one" v ⟨jU o0 o1 o2,S⟩=⟨jU (some v) o1 o2,S⟩:=rfl
theorem O4:aq "other" ⟨jU o0 (some v) o2,S⟩=.ok v ⟨jU o0 (some v) o2,S⟩:=rfl
theorem aiP:aF "other" v ⟨jU o0 o1 o2,S⟩=⟨jU o0 (some v) o2,S⟩:=rfl
theorem Az:aq "same" ⟨jU o0 o1 (some v),S⟩=.ok v ⟨jU o0 o1 (some v),S⟩:=rfl
theorem ZK:aF "same" v ⟨jU o0 o1 o2,S⟩=⟨jU o0 o1 (some v),S⟩:=rfl
end
noncomputable section
variable (cl:Nat->List V->St->ak V) (Y:St)
def Us:SB:=λ cl Y=>(ak.ok (.str "") Y).bind λ a Y=>.ok (.ret a) Y
def ack:SB:=λ cl Y=>aj (Us cl Y) λ Y=>.ok .next Y
def ZL:SB:=λ cl Y=>(((aq "m" Y).bind λ a Y=>aG (aO a Y) Y).bind λ b Y=>.ok (!b) Y).bind λ c Y=>if c then ack cl Y else .ok .next Y
def Ut:SB:=λ cl Y=>(((((ak.ok (.fn 214) Y).bind λ a Y=>((aq "m" Y).bind λ b Y=>(ak.ok [] Y).bind λ c Y=>.ok (b::c) Y).bind λ d Y=>.ok (a::d) Y).bind λ e Y=>b8 cl .map e Y).bind λ f Y=>(ak.ok [] Y).bind λ g Y=>.ok (f::g) Y).bind λ h Y=>b8 cl .tuple h Y).bind λ i Y=>.ok .next (aF "m" i Y)
def acn:SB:=λ cl Y=>aj (Ut cl Y) λ Y=>.ok .next Y
def ZM:SB:=λ cl Y=>((((((aq "m" Y).bind λ a Y=>(ak.ok (.int 0) Y).bind λ b Y=>dz (cM a b Y) Y).bind λ c Y=>((((ak.ok (.bi .list) Y).bind λ d Y=>((ak.ok (.bi .tuple) Y).bind λ e Y=>(ak.ok [] Y).bind λ f Y=>.ok (e::f) Y).bind λ g Y=>.ok (d::g) Y).bind λ h Y=>Y.new (.tup h)).bind λ i Y=>(ak.ok [] Y).bind λ j Y=>.ok (i::j) Y).bind λ l Y=>.ok (c::l) Y).bind λ n Y=>gF n Y).bind λ o Y=>aG (aO o Y) Y).bind λ p Y=>.ok (!p) Y).bind λ q Y=>if q then acn cl Y else .ok .next Y
def ZP:SB:=λ cl Y=>(((aq "m" Y).bind λ a Y=>(ak.ok [] Y).bind λ b Y=>.ok (a::b) Y).bind λ c Y=>I9 c Y).bind λ d Y=>.ok .next (aF "s1" d Y)
def ZQ:SB:=λ cl Y=>(((aq "m" Y).bind λ a Y=>(ak.ok [] Y).bind λ b Y=>.ok (a::b) Y).bind λ c Y=>zy true c Y).bind λ d Y=>.ok .next (aF "s2" d Y)
def uw:SB:=λ cl Y=>((aq "s1" Y).bind λ a Y=>(ak.ok .none Y).bind λ b Y=>(aq "i" Y).bind λ c Y=>bC a b c Y).bind λ d Y=>.ok (.ret d) Y
def Ba:SB:=λ cl Y=>aj (uw cl Y) λ Y=>.ok .next Y
def wI:SB:=λ cl Y=>((aq "c" Y).bind λ a Y=>((aq "s2" Y).bind λ b Y=>(aq "i" Y).bind λ d Y=>dz (cM b d Y) Y).bind λ e Y=>(aG (nj a e Y) Y).bind λ f Y=>.ok f Y).bind λ g Y=>if g then Ba cl Y else .ok .next Y
def ux:SB:=λ cl Y=>aj (wI cl Y) λ Y=>.ok .next Y
def ZR:SB:=λ cl Y=>(((aq "s1" Y).bind λ a Y=>(ak.ok [] Y).bind λ b Y=>.ok (a::b) Y).bind λ d Y=>b8 cl .enumerate d Y).bind (Hj (λ i v Y=>ux cl (aF "c" v (aF "i" (.int i) Y))) (λ Y=>.ok .next Y))
def aft:SB:=λ cl Y=>(aq "s1" Y).bind λ a Y=>.ok (.ret a) Y
def agR:SB:=λ cl Y=>aj (ZL cl Y) λ Y=>aj (ZM cl Y) λ Y=>aj (ZP cl Y) λ Y=>aj (ZQ cl Y) λ Y=>aj (ZR cl Y) λ Y=>aj (aft cl Y) λ Y=>.ok .next Y
theorem ZS:aK (cG cl 60) (sU 221) (wu 221) Y=agR cl Y:=by kernel_rfl
def afu:SB:=λ cl Y=>(((ak.ok (.str "..") Y).bind λ d Y=>((ak.ok (.str ".") Y).bind λ e Y=>((ak.ok (.str "") Y).bind λ f Y=>((ak.ok (.str "a") Y).bind λ g Y=>((ak.ok (.str "b") Y).bind λ h Y=>((ak.ok (.str "c") Y).bind λ i Y=>((ak.ok (.str "..") Y).bind λ j Y=>(ak.ok [] Y).bind λ l Y=>.ok (j::l) Y).bind λ m Y=>.ok (i::m) Y).bind λ n Y=>.ok (h::n) Y).bind λ o Y=>.ok (g::o) Y).bind λ p Y=>.ok (f::p) Y).bind λ q Y=>.ok (e::q) Y).bind λ r Y=>.ok (d::r) Y).bind λ s Y=>Y.new (.list s)).bind λ t Y=>.ok (.ret t) Y
def aiQ:SB:=λ cl Y=>aj (afu cl Y) λ Y=>.ok .next Y
theorem ZV:aK (cG cl 60) (sU 297) (wu 297) Y=aiQ cl Y:=by kernel_rfl
def ZW:SB:=λ cl Y=>((ak.ok (.str "/") Y).bind λ a Y=>((ak.ok (.str "/") Y).bind (aV cl true "join" λ Y=>(aq "parts" Y).bind λ b Y=>(ak.ok [] Y).bind λ c Y=>.ok (b::c) Y)).bind λ d Y=>jE a d Y).bind λ e Y=>.ok (.ret e) Y
def agS:SB:=λ cl Y=>aj (ZW cl Y) λ Y=>.ok .next Y
theorem ZX:aK (cG cl 60) (sU 304) (wu 304) Y=agS cl Y:=by kernel_rfl
def Z0:SB:=λ cl Y=>((aq "folder" Y).bind λ a Y=>(ak.ok .none Y).bind λ b Y=>(ak.ok .none Y).bind λ c Y=>bC a b c Y).bind λ d Y=>.ok .next (aF "parts" d Y)
def uy:SB:=λ cl Y=>((aq "parts" Y).bind λ a Y=>(ak.ok .none Y).bind λ b Y=>((ak.ok (.int 1) Y).bind (QH .USub)).bind λ c Y=>bC a b c Y).bind λ d Y=>.ok .next (aF "parts" d Y)
def Bb:SB:=λ cl Y=>aj (uy cl Y) λ Y=>.ok .next Y
def oY:SB:=λ cl Y=>((aq "parts" Y).bind λ a Y=>(((aq "piece" Y).bind λ b Y=>(ak.ok [] Y).bind λ c Y=>.ok (b::c) Y).bind λ d Y=>Y.new (.list d)).bind λ e Y=>jE a e Y).bind λ f Y=>.ok .next (aF "parts" f Y)
def rG:SB:=λ cl Y=>aj (oY cl Y) λ Y=>.ok .next Y
def jm:SB:=λ cl Y=>(((aq "piece" Y).bind λ a Y=>(ak.ok (.str "") Y).bind λ b Y=>(aG (nj a b Y) Y).bind λ c Y=>.ok c Y).bind λ d Y=>if !d then .ok d Y else((aq "piece" Y).bind λ e Y=>(ak.ok (.str ".") Y).bind λ f Y=>(aG (nj e f Y) Y).bind λ g Y=>.ok g Y).bind λ h Y=>if !h then .ok h Y else .ok true Y).bind λ i Y=>if i then rG cl Y else .ok .next Y
def nY:SB:=λ cl Y=>aj (jm cl Y) λ Y=>.ok .next Y
def mJ:SB:=λ cl Y=>((aq "piece" Y).bind λ a Y=>(ak.ok (.str "..") Y).bind λ b Y=>(aG (yw a b Y) Y).bind λ c Y=>.ok c Y).bind λ d Y=>if d then Bb cl Y else nY cl Y
def nZ:SB:=λ cl Y=>aj (mJ cl Y) λ Y=>.ok .next Y
def Z1:SB:=λ cl Y=>(aq "pieces" Y).bind (fC (λ v Y=>nZ cl (aF "piece" v Y)) (λ Y=>.ok .next Y))
def afv:SB:=λ cl Y=>(aq "parts" Y).bind λ a Y=>.ok (.ret a) Y
def agT:SB:=λ cl Y=>aj (Z0 cl Y) λ Y=>aj (Z1 cl Y) λ Y=>aj (afv cl Y) λ Y=>.ok .next Y
theorem Z2:aK (cG cl 60) (sU 311) (wu 311) Y=agT cl Y:=by kernel_rfl
def Z3:SB:=λ cl Y=>((ak.ok [] Y).bind λ a Y=>Y.new (.list a)).bind λ b Y=>.ok .next (aF "parts" b Y)
def uz:SB:=λ cl Y=>((aq "parts" Y).bind λ a Y=>(ak.ok .none Y).bind λ b Y=>((ak.ok (.int 1) Y).bind (QH .USub)).bind λ c Y=>bC a b c Y).bind λ d Y=>.ok .next (aF "parts" d Y)
def sV:SB:=λ cl Y=>aj (uz cl Y) λ Y=>.ok .next Y
def oZ:SB:=λ cl Y=>((aq "parts" Y).bind λ a Y=>(((aq "piece" Y).bind λ b Y=>(ak.ok [] Y).bind λ c Y=>.ok (b::c) Y).bind λ d Y=>Y.new (.list d)).bind λ e Y=>jE a e Y).bind λ f Y=>.ok .next (aF "parts" f Y)
def rH:SB:=λ cl Y=>aj (oZ cl Y) λ Y=>.ok .next Y
def jq:SB:=λ cl Y=>(((aq "piece" Y).bind λ a Y=>(ak.ok (.str "") Y).bind λ b Y=>(aG (nj a b Y) Y).bind λ c Y=>.ok c Y).bind λ d Y=>if !d then .ok d Y else((aq "piece" Y).bind λ e Y=>(ak.ok (.str ".") Y).bind λ f Y=>(aG (nj e f Y) Y).bind λ g Y=>.ok g Y).bind λ h Y=>if !h then .ok h Y else .ok true Y).bind λ i Y=>if i then rH cl Y else .ok .next Y
def jV:SB:=λ cl Y=>aj (jq cl Y) λ Y=>.ok .next Y
def Uu:SB:=λ cl Y=>(((aq "piece" Y).bind λ a Y=>(ak.ok (.str "..") Y).bind λ b Y=>(aG (yw a b Y) Y).bind λ c Y=>.ok c Y).bind λ d Y=>if !d then .ok d Y else((aq "parts" Y).bind λ e Y=>((ak.ok [] Y).bind λ f Y=>Y.new (.list f)).bind λ g Y=>(aG (nj e g Y) Y).bind λ h Y=>.ok h Y).bind λ i Y=>if !i then .ok i Y else(((aq "parts" Y).bind λ j Y=>((ak.ok (.int 1) Y).bind (QH .USub)).bind λ l Y=>dz (cM j l Y) Y).bind λ m Y=>(ak.ok (.str "..") Y).bind λ n Y=>(aG (nj m n Y) Y).bind λ o Y=>.ok o Y).bind λ p Y=>if !p then .ok p Y else .ok true Y).bind λ q Y=>if q then sV cl Y else jV cl Y
def yZ:SB:=λ cl Y=>aj (Uu cl Y) λ Y=>.ok .next Y
def Z4:SB:=λ cl Y=>(aq "pieces" Y).bind (fC (λ v Y=>yZ cl (aF "piece" v Y)) (λ Y=>.ok .next Y))
def afw:SB:=λ cl Y=>(aq "parts" Y).bind λ a Y=>.ok (.ret a) Y
def agU:SB:=λ cl Y=>aj (Z3 cl Y) λ Y=>aj (Z4 cl Y) λ Y=>aj (afw cl Y) λ Y=>.ok .next Y
theorem Z5:aK (cG cl 60) (sU 318) (wu 318) Y=agU cl Y:=by kernel_rfl
def Z6:SB:=λ cl Y=>(ak.ok (.int 0) Y).bind λ a Y=>.ok .next (aF "same" a Y)
def Uv:SB:=λ cl Y=>(aq "same" Y).bind λ a Y=>(ak.ok (.int 1) Y).bind λ b Y=>(kJ .Add a b Y).bind λ c Y=>.ok .next (aF "same" c Y)
def Ri:SB:=λ cl Y=>aj (Uv cl Y) λ Y=>.ok .next Y
def O5:SB:=λ cl Y=>if(true:Bool)then gG (λ Y=>((aq "same" Y).bind λ a Y=>(((((aq "one" Y).bind λ b Y=>(ak.ok [] Y).bind λ c Y=>.ok (b::c) Y).bind λ d Y=>rU d Y).bind λ e Y=>((((aq "other" Y).bind λ f Y=>(ak.ok [] Y).bind λ g Y=>.ok (f::g) Y).bind λ h Y=>rU h Y).bind λ i Y=>(ak.ok [] Y).bind λ j Y=>.ok (i::j) Y).bind λ l Y=>.ok (e::l) Y).bind λ m Y=>I9 m Y).bind λ n Y=>(aG (rR .Lt a n Y) Y).bind λ o Y=>.ok o Y).bind λ p Y=>if !p then .ok p Y else(((aq "one" Y).bind λ q Y=>(aq "same" Y).bind λ r Y=>dz (cM q r Y) Y).bind λ s Y=>((aq "other" Y).bind λ t Y=>(aq "same" Y).bind λ u Y=>dz (cM t u Y) Y).bind λ w Y=>(aG (yw s w Y) Y).bind λ x Y=>.ok x Y).bind λ y Y=>if !y then .ok y Y else .ok true Y) (Ri cl) (λ Y=>.ok .next Y) wf Y else .bad
def Z7:SB:=λ cl Y=>(aq "same" Y).bind λ a Y=>.ok (.ret a) Y
def agV:SB:=λ cl Y=>aj (Z6 cl Y) λ Y=>aj (O5 cl Y) λ Y=>aj (Z7 cl Y) λ Y=>.ok .next Y
theorem Z8:aK (cG cl 60) (sU 325) (wu 325) Y=agV cl Y:=by kernel_rfl
end
noncomputable section
variable (cl:Nat->List V->St->ak V) (k:Nat) (Y:St)
def Z9:cN:=λ cl k Y=>(((((ak.ok (.fn 214) Y).bind λ a Y=>((aq "paths" Y).bind λ b Y=>(ak.ok [] Y).bind λ c Y=>.ok (b::c) Y).bind λ d Y=>.ok (a::d) Y).bind λ e Y=>b8 cl .map e Y).bind λ f Y=>(ak.ok [] Y).bind λ g Y=>.ok (f::g) Y).bind λ h Y=>b8 cl .tuple h Y).bind λ i Y=>.ok .next (aF "paths" i Y)
def Uw:cN:=λ cl k Y=>ak.bad
def aco:cN:=λ cl k Y=>aj (Uw cl k Y) λ Y=>.ok .next Y
def aac:cN:=λ cl k Y=>(((aq "paths" Y).bind λ a Y=>aG (aO a Y) Y).bind λ b Y=>.ok (!b) Y).bind λ c Y=>if c then aco cl k Y else .ok .next Y
def Ux:cN:=λ cl k Y=>((ak.bad:ak V)).bind λ a Y=>((Cd (k+0) a Y).bind λ _ Y=>.ok () Y).bind λ _ Y=>.ok .next Y
def Uy:cN:=λ cl k Y=>((ak.bad:ak V)).bind λ a Y=>((Cd (k+1) a Y).bind λ _ Y=>.ok () Y).bind λ _ Y=>.ok .next Y
def acp:cN:=λ cl k Y=>aj (Ux cl k Y) λ Y=>aj (Uy cl k Y) λ Y=>.ok .next Y
def Ew:cN:=λ cl k Y=>(ak.ok (.str "/") Y).bind λ a Y=>((Cd (k+0) a Y).bind λ _ Y=>.ok () Y).bind λ _ Y=>.ok .next Y
def Ey:cN:=λ cl k Y=>(ak.ok (.str ".") Y).bind λ a Y=>((Cd (k+1) a Y).bind λ _ Y=>.ok () Y).bind λ _ Y=>.ok .next Y
def Rj:cN:=λ cl k Y=>aj (Ew cl k Y) λ Y=>aj (Ey cl k Y) λ Y=>.ok .next Y
def aad:cN:=λ cl k Y=>(((((aq "paths" Y).bind λ a Y=>(ak.ok (.int 0) Y).bind λ b Y=>dz (cM a b Y) Y).bind λ c Y=>((ak.ok (.bi .bytes) Y).bind λ d Y=>(ak.ok [] Y).bind λ e Y=>.ok (d::e) Y).bind λ f Y=>.ok (c::f) Y).bind λ g Y=>gF g Y).bind λ h Y=>aG (aO h Y) Y).bind λ i Y=>if i then acp cl k Y else Rj cl k Y
def Ks:SCk:=λ cl k Y=>.ok true Y
def uD:SVk:=λ cl k Y=>(aq "path" Y).bind (aV cl false "split" λ Y=>(mF (k+0) Y).bind λ a Y=>(ak.ok [] Y).bind λ b Y=>.ok (a::b) Y)
def wJ:cN:=λ cl k Y=>((aq "paths" Y).bind (eF true "path" (Ks cl k) (uD cl k))).bind λ a Y=>.ok .next (aF "split_paths" a Y)
def Ku:SCk:=λ cl k Y=>.ok true Y
def uE:SVk:=λ cl k Y=>(aq "p" Y).bind (aV cl false "startswith" λ Y=>(mF (k+0) Y).bind λ a Y=>(ak.ok [] Y).bind λ b Y=>.ok (a::b) Y)
def uF:cN:=λ cl k Y=>((aq "paths" Y).bind (eF false "p" (Ku cl k) (uE cl k))).bind λ a Y=>((yX ["isabs"] a Y).bind λ _ Y=>.ok () Y).bind λ _ Y=>.ok .next Y
def sW:cN:=λ cl k Y=>aj (uF cl k Y) λ Y=>.ok .next Y
def HF:cN:=λ cl k Y=>ak.bad
def O6:cN:=λ cl k Y=>aj (HF cl k Y) λ Y=>.ok .next Y
def wK:cN:=λ cl k Y=>uo (sW cl k) (λ Y=>.ok .next Y) (λ e Y=>if("ValueError"==dw e&&true)then(O6 cl k Y).bindN λ f Y=>.ok f Y else .bad) Y
def Kv:SCk:=λ cl k Y=>.ok true Y
def p8:SCk:=λ cl k Y=>(((aq "c" Y).bind λ a Y=>aG (aO a Y) Y).bind λ b Y=>if !b then .ok b Y else((aq "c" Y).bind λ d Y=>(mF (k+1) Y).bind λ e Y=>(aG (nj d e Y) Y).bind λ f Y=>.ok f Y).bind λ g Y=>if !g then .ok g Y else .ok true Y).bind λ h Y=>if !h then .ok h Y else .ok true Y
def uG:SVk:=λ cl k Y=>aq "c" Y
def Bc:SVk:=λ cl k Y=>(aq "s" Y).bind (eF true "c" (p8 cl k) (uG cl k))
def wL:cN:=λ cl k Y=>((aq "split_paths" Y).bind (eF true "s" (Kv cl k) (Bc cl k))).bind λ a Y=>.ok .next (aF "split_paths" a Y)
def wM:cN:=λ cl k Y=>(((aq "split_paths" Y).bind λ a Y=>(ak.ok [] Y).bind λ b Y=>.ok (a::b) Y).bind λ c Y=>I9 c Y).bind λ d Y=>.ok .next (aF "s1" d Y)
def wN:cN:=λ cl k Y=>(((aq "split_paths" Y).bind λ a Y=>(ak.ok [] Y).bind λ b Y=>.ok (a::b) Y).bind λ c Y=>zy true c Y).bind λ d Y=>.ok .next (aF "s2" d Y)
def wO:cN:=λ cl k Y=>(aq "s1" Y).bind λ a Y=>.ok .next (aF "common" a Y)
def pq:cN:=λ cl k Y=>((aq "s1" Y).bind λ a Y=>(ak.ok .none Y).bind λ b Y=>(aq "i" Y).bind λ c Y=>bC a b c Y).bind λ d Y=>.ok .next (aF "common" d Y)
def pA:cN:=λ cl k Y=>.ok .brk Y
def rI:cN:=λ cl k Y=>aj (pq cl k Y) λ Y=>aj (pA cl k Y) λ Y=>.ok .next Y
def oh:cN:=λ cl k Y=>((aq "c" Y).bind λ a Y=>((aq "s2" Y).bind λ b Y=>(aq "i" Y).bind λ d Y=>dz (cM b d Y) Y).bind λ e Y=>(aG (nj a e Y) Y).bind λ f Y=>.ok f Y).bind λ g Y=>if g then rI cl k Y else .ok .next Y
def fQ:cN:=λ cl k Y=>aj (oh cl k Y) λ Y=>.ok .next Y
def qI:cN:=λ cl k Y=>(((aq "s1" Y).bind λ a Y=>(ak.ok [] Y).bind λ b Y=>.ok (a::b) Y).bind λ d Y=>b8 cl .enumerate d Y).bind (Hj (λ i v Y=>fQ cl k (aF "c" v (aF "i" (.int i) Y))) (λ Y=>.ok .next Y))
def wQ:cN:=λ cl k Y=>(((aq "isabs" Y).bind λ a Y=>aG (aO a Y) Y).bind λ b Y=>if b then mF (k+0) Y else(mF (k+0) Y).bind λ c Y=>(ak.ok .none Y).bind λ d Y=>(ak.ok (.int 0) Y).bind λ e Y=>bC c d e Y).bind λ f Y=>.ok .next (aF "prefix" f Y)
def wR:cN:=λ cl k Y=>((aq "prefix" Y).bind λ a Y=>((mF (k+0) Y).bind (aV cl true "join" λ Y=>(aq "common" Y).bind λ b Y=>(ak.ok [] Y).bind λ c Y=>.ok (b::c) Y)).bind λ d Y=>jE a d Y).bind λ e Y=>.ok (.ret e) Y
def HJ:cN:=λ cl k Y=>aj (wJ cl k Y) λ Y=>aj (wK cl k Y) λ Y=>aj (wL cl k Y) λ Y=>aj (wM cl k Y) λ Y=>aj (wN cl k Y) λ Y=>aj (wO cl k Y) λ Y=>aj (qI cl k Y) λ Y=>aj (wQ cl k Y) λ Y=>aj (wR cl k Y) λ Y=>.ok .next Y
def HN:cN:=λ cl k Y=>uo (HJ cl k) (λ Y=>.ok .next Y) (λ _ _=>ak.bad) Y
def afx:cN:=λ cl k Y=>aj (Z9 cl k Y) λ Y=>aj (aac cl k Y) λ Y=>aj (aad cl k Y) λ Y=>aj (HN cl k Y) λ Y=>.ok .next Y
theorem aae:aK (cG cl 60) (sU 283) (enC 283 k) Y=afx cl k Y:=by kernel_rfl
end
section
variable (o0 o1 o2 o3 o4 o5 o6 o7 o8 o9 o10 o11 o12 o13 o14 o15 o16 o17 o18 o19 o20 o21 o22 o23 o24 o25 o26 o27 o28 o29 o30 o31 o32 o33 o34 o35:Option V) (S:List O) (v:V)
noncomputable def L36:List (Str×Option V):=[("self",o0),("node",o1)]
theorem agW:aq "self" ⟨L36 (some v) o1,S⟩=.ok v ⟨L36 (some v) o1,S⟩:=rfl
theorem ajL:aF "self" v ⟨L36 o0 o1,S⟩=⟨L36 (some v) o1,S⟩:=rfl
theorem agX:aq "node" ⟨L36 o0 (some v),S⟩=.ok v ⟨L36 o0 (some v),S⟩:=rfl
theorem ajM:aF "node" v ⟨L36 o0 o1,S⟩=⟨L36 o0 (some v),S⟩:=rfl
noncomputable def Kw:List (Str×Option V):=[("self",o0),("graph",o1),("node",o2),("predecessors",o3)]
theorem agY:aq "self" ⟨Kw (some v) o1 o2 o3,S⟩=.ok v ⟨Kw (some v) o1 o2 o3,S⟩:=rfl
theorem ajN:aF "self" v ⟨Kw o0 o1 o2 o3,S⟩=⟨Kw (some v) o1 o2 o3,S⟩:=rfl
theorem agZ:aq "graph" ⟨Kw o0 (some v) o2 o3,S⟩=.ok v ⟨Kw o0 (some v) o2 o3,S⟩:=rfl
theorem ajO:aF "graph" v ⟨Kw o0 o1 o2 o3,S⟩=⟨Kw o0 (some v) o2 o3,S⟩:=rfl
theorem ajP:aq "node" ⟨Kw o0 o1 (some v) o3,S⟩=.ok v ⟨Kw o0 o1 (some v) o3,S⟩:=rfl
theorem ajQ:aF "node" v ⟨Kw o0 o1 o2 o3,S⟩=⟨Kw o0 o1 (some v) o3,S⟩:=rfl
theorem ajR:aq "predecessors" ⟨Kw o0 o1 o2 (some v),S⟩=.ok v ⟨Kw o0 o1 o2 (some v),S⟩:=rfl
theorem ajS:aF "predecessors" v ⟨Kw o0 o1 o2 o3,S⟩=⟨Kw o0 o1 o2 (some v),S⟩:=rfl
noncomputable def Rk:List (Str×Option V):=[("self",o0),("node",o1),("result",o2)]
theorem adq:aq "self" ⟨Rk (some v) o1 o2,S⟩=.ok v ⟨Rk (some v) o1 o2,S⟩:=rfl
theorem ajT:aF "self" v ⟨Rk o0 o1 o2,S⟩=⟨Rk (some v) o1 o2,S⟩:=rfl
theorem adt:aq "node" ⟨Rk o0 (some v) o2,S⟩=.ok v ⟨Rk o0 (some v) o2,S⟩:=rfl
theorem ajU:aF "node" v ⟨Rk o0 o1 o2,S⟩=⟨Rk o0 (some v) o2,S⟩:=rfl
theorem adu:aq "result" ⟨Rk o0 o1 (some v),S⟩=.ok v ⟨Rk o0 o1 (some v),S⟩:=rfl
theorem adv:aF "result" v ⟨Rk o0 o1 o2,S⟩=⟨Rk o0 o1 (some v),S⟩:=rfl
noncomputable def rJ:List (Str×Option V):=[("self",o0),("node",o1),("predecessors",o2),("nodeinfo",o3),("pred",o4),("pred_info",o5)]
theorem adw:aq "self" ⟨rJ (some v) o1 o2 o3 o4 o5,S⟩=.ok v ⟨rJ (some v) o1 o2 o3 o4 o5,S⟩:=rfl
theorem ajV:aF "self" v ⟨rJ o0 o1 o2 o3 o4 o5,S⟩=⟨rJ (some v) o1 o2 o3 o4 o5,S⟩:=rfl
theorem adx:aq "node" ⟨rJ o0 (some v) o2 o3 o4 o5,S⟩=.ok v ⟨rJ o0 (some v) o2 o3 o4 o5,S⟩:=rfl
theorem ajW:aF "node" v ⟨rJ o0 o1 o2 o3 o4 o5,S⟩=⟨rJ o0 (some v) o2 o3 o4 o5,S⟩:=rfl
theorem aaf:aq "predecessors" ⟨rJ o0 o1 (some v) o3 o4 o5,S⟩=.ok v ⟨rJ o0 o1 (some v) o3 o4 o5,S⟩:=rfl
theorem ajX:aF "predecessors" v ⟨rJ o0 o1 o2 o3 o4 o5,S⟩=⟨rJ o0 o1 (some v) o3 o4 o5,S⟩:=rfl
theorem ag0:aq "nodeinfo" ⟨rJ o0 o1 o2 (some v) o4 o5,S⟩=.ok v ⟨rJ o0 o1 o2 (some v) o4 o5,S⟩:=rfl
theorem ag1:aF "nodeinfo" v ⟨rJ o0 o1 o2 o3 o4 o5,S⟩=⟨rJ o0 o1 o2 (some v) o4 o5,S⟩:=rfl
theorem ag2:aq "pred" ⟨rJ o0 o1 o2 o3 (some v) o5,S⟩=.ok v ⟨rJ o0 o1 o2 o3 (some v) o5,S⟩:=rfl
theorem ag3:aF "pred" v ⟨rJ o0 o1 o2 o3 o4 o5,S⟩=⟨rJ o0 o1 o2 o3 (some v) o5,S⟩:=rfl
theorem ag4:aq "pred_info" ⟨rJ o0 o1 o2 o3 o4 (some v),S⟩=.ok v ⟨rJ o0 o1 o2 o3 o4 (some v),S⟩:=rfl
theorem ag5:aF "pred_info" v ⟨rJ o0 o1 o2 o3 o4 o5,S⟩=⟨rJ o0 o1 o2 o3 o4 (some v),S⟩:=rfl
noncomputable def O7:List (Str×Option V):=[("self",o0),("cycle",o1)]
theorem ag6:aq "self" ⟨O7 (some v) o1,S⟩=.ok v ⟨O7 (some v) o1,S⟩:=rfl
theorem ajY:aF "self" v ⟨O7 o0 o1,S⟩=⟨O7 (some v) o1,S⟩:=rfl
theorem ag7:aq "cycle" ⟨O7 o0 (some v),S⟩=.ok v ⟨O7 o0 (some v),S⟩:=rfl
theorem ag8:aF "cycle" v ⟨O7 o0 o1,S⟩=⟨O7 o0 (some v),S⟩:=rfl
noncomputable def yh:List (Str×Option V):=[("self",o0),("result",o1),("n2i",o2),("node",o3)]
theorem ady:aq "self" ⟨yh (some v) o1 o2 o3,S⟩=.ok v ⟨yh (some v) o1 o2 o3,S⟩:=rfl
theorem ajZ:aF "self" v ⟨yh o0 o1 o2 o3,S⟩=⟨yh (some v) o1 o2 o3,S⟩:=rfl
theorem adz:aq "result" ⟨yh o0 (some v) o2 o3,S⟩=.ok v ⟨yh o0 (some v) o2 o3,S⟩:=rfl
theorem ag9:aF "result" v ⟨yh o0 o1 o2 o3,S⟩=⟨yh o0 (some v) o2 o3,S⟩:=rfl
theorem aha:aq "n2i" ⟨yh o0 o1 (some v) o3,S⟩=.ok v ⟨yh o0 o1 (some v) o3,S⟩:=rfl
theorem ahb:aF "n2i" v ⟨yh o0 o1 o2 o3,S⟩=⟨yh o0 o1 (some v) o3,S⟩:=rfl
theorem ahc:aq "node" ⟨yh o0 o1 o2 (some v),S⟩=.ok v ⟨yh o0 o1 o2 (some v),S⟩:=rfl
theorem ahd:aF "node" v ⟨yh o0 o1 o2 o3,S⟩=⟨yh o0 o1 o2 (some v),S⟩:=rfl
noncomputable def aag:List (Str×Option V):=[("self",o0)]
theorem aah:aq "self" ⟨aag (some v),S⟩=.ok v ⟨aag (some v),S⟩:=rfl
theorem aiR:aF "self" v ⟨aag o0,S⟩=⟨aag (some v),S⟩:=rfl
noncomputable def cX:List (Str×Option V):=[("self",o0),("nodes",o1),("n2i",o2),("node",o3),("nodeinfo",o4),("stat",o5),("successor",o6),("successor_info",o7)]
theorem HS:aq "self" ⟨cX (some v) o1 o2 o3 o4 o5 o6 o7,S⟩=.ok v ⟨cX (some v) o1 o2 o3 o4 o5 o6 o7,S⟩:=rfl
theorem aiS:aF "self" v ⟨cX o0 o1 o2 o3 o4 o5 o6 o7,S⟩=⟨cX (some v) o1 o2 o3 o4 o5 o6 o7,S⟩:=rfl
theorem afy:aq "nodes" ⟨cX o0 (some v) o2 o3 o4 o5 o6 o7,S⟩=.ok v ⟨cX o0 (some v) o2 o3 o4 o5 o6 o7,S⟩:=rfl
theorem aiT:aF "nodes" v ⟨cX o0 o1 o2 o3 o4 o5 o6 o7,S⟩=⟨cX o0 (some v) o2 o3 o4 o5 o6 o7,S⟩:=rfl
theorem O8:aq "n2i" ⟨cX o0 o1 (some v) o3 o4 o5 o6 o7,S⟩=.ok v ⟨cX o0 o1 (some v) o3 o4 o5 o6 o7,S⟩:=rfl
theorem afz:aF "n2i" v ⟨cX o0 o1 o2 o3 o4 o5 o6 o7,S⟩=⟨cX o0 o1 (some v) o3 o4 o5 o6 o7,S⟩:=rfl
theorem afA:aq "node" ⟨cX o0 o1 o2 (some v) o4 o5 o6 o7,S⟩=.ok v ⟨cX o0 o1 o2 (some v) o4 o5 o6 o7,S⟩:=rfl
theorem afB:aF "node" v ⟨cX o0 o1 o2 o3 o4 o5 o6 o7,S⟩=⟨cX o0 o1 o2 (some v) o4 o5 o6 o7,S⟩:=rfl
theorem aai:aq "nodeinfo" ⟨cX o0 o1 o2 o3 (some v) o5 o6 o7,S⟩=.ok v ⟨cX o0 o1 o2 o3 (some v) o5 o6 o7,S⟩:=rfl
theorem afC:aF "nodeinfo" v ⟨cX o0 o1 o2 o3 o4 o5 o6 o7,S⟩=⟨cX o0 o1 o2 o3 (some v) o5 o6 o7,S⟩:=rfl
theorem afD:aq "stat" ⟨cX o0 o1 o2 o3 o4 (some v) o6 o7,S⟩=.ok v ⟨cX o0 o1 o2 o3 o4 (some v) o6 o7,S⟩:=rfl
theorem afE:aF "stat" v ⟨cX o0 o1 o2 o3 o4 o5 o6 o7,S⟩=⟨cX o0 o1 o2 o3 o4 (some v) o6 o7,S⟩:=rfl
theorem aaj:aq "successor" ⟨cX o0 o1 o2 o3 o4 o5 (some v) o7,S⟩=.ok v ⟨cX o0 o1 o2 o3 o4 o5 (some v) o7,S⟩:=rfl
theorem afF:aF "successor" v ⟨cX o0 o1 o2 o3 o4 o5 o6 o7,S⟩=⟨cX o0 o1 o2 o3 o4 o5 (some v) o7,S⟩:=rfl
theorem aak:aq "successor_info" ⟨cX o0 o1 o2 o3 o4 o5 o6 (some v),S⟩=.ok v ⟨cX o0 o1 o2 o3 o4 o5 o6 (some v),S⟩:=rfl
theorem aal:aF "successor_info" v ⟨cX o0 o1 o2 o3 o4 o5 o6 o7,S⟩=⟨cX o0 o1 o2 o3 o4 o5 o6 (some v),S⟩:=rfl
noncomputable def fU:List (Str×Option V):=[("self",o0),("n2i",o1),("stack",o2),("itstack",o3),("seen",o4),("node2stacki",o5),("node",o6)]
theorem afG:aq "self" ⟨fU (some v) o1 o2 o3 o4 o5 o6,S⟩=.ok v ⟨fU (some v) o1 o2 o3 o4 o5 o6,S⟩:=rfl
theorem aiU:aF "self" v ⟨fU o0 o1 o2 o3 o4 o5 o6,S⟩=⟨fU (some v) o1 o2 o3 o4 o5 o6,S⟩:=rfl
theorem aam:aq "n2i" ⟨fU o0 (some v) o2 o3 o4 o5 o6,S⟩=.ok v ⟨fU o0 (some v) o2 o3 o4 o5 o6,S⟩:=rfl
theorem afH:aF "n2i" v ⟨fU o0 o1 o2 o3 o4 o5 o6,S⟩=⟨fU o0 (some v) o2 o3 o4 o5 o6,S⟩:=rfl
theorem wU:aq "stack" ⟨fU o0 o1 (some v) o3 o4 o5 o6,S⟩=.ok v ⟨fU o0 o1 (some v) o3 o4 o5 o6,S⟩:=rfl
theorem afI:aF "stack" v ⟨fU o0 o1 o2 o3 o4 o5 o6,S⟩=⟨fU o0 o1 (some v) o3 o4 o5 o6,S⟩:=rfl
theorem HX:aq "itstack" ⟨fU o0 o1 o2 (some v) o4 o5 o6,S⟩=.ok v ⟨fU o0 o1 o2 (some v) o4 o5 o6,S⟩:=rfl
theorem afJ:aF "itstack" v ⟨fU o0 o1 o2 o3 o4 o5 o6,S⟩=⟨fU o0 o1 o2 (some v) o4 o5 o6,S⟩:=rfl
theorem Be:aq "seen" ⟨fU o0 o1 o2 o3 (some v) o5 o6,S⟩=.ok v ⟨fU o0 o1 o2 o3 (some v) o5 o6,S⟩:=rfl
theorem afK:aF "seen" v ⟨fU o0 o1 o2 o3 o4 o5 o6,S⟩=⟨fU o0 o1 o2 o3 (some v) o5 o6,S⟩:=rfl
theorem HY:aq "node2stacki" ⟨fU o0 o1 o2 o3 o4 (some v) o6,S⟩=.ok v ⟨fU o0 o1 o2 o3 o4 (some v) o6,S⟩:=rfl
theorem afL:aF "node2stacki" v ⟨fU o0 o1 o2 o3 o4 o5 o6,S⟩=⟨fU o0 o1 o2 o3 o4 (some v) o6,S⟩:=rfl
theorem Bf:aq "node" ⟨fU o0 o1 o2 o3 o4 o5 (some v),S⟩=.ok v ⟨fU o0 o1 o2 o3 o4 o5 (some v),S⟩:=rfl
theorem afM:aF "node" v ⟨fU o0 o1 o2 o3 o4 o5 o6,S⟩=⟨fU o0 o1 o2 o3 o4 o5 (some v),S⟩:=rfl
noncomputable def bh:List (Str×Option V):=[("script",o0),("sorter",o1),("parts",o2),("number",o3),("more",o4),("own",o5),("rooted",o6),("last",o7),("rest",o8),("pieces",o9),("turn",o10),("name",o11),("goal",o12),("holder",o13),("folder",o14),("found",o15),("same",o16),("back",o17),("ringed",o18),("left",o19),("node",o20),("given",o21)]
theorem aiV:aq "script" ⟨bh (some v) o1 o2 o3 o4 o5 o6 o7 o8 o9 o10 o11 o12 o13 o14 o15 o16 o17 o18 o19 o20 o21,S⟩=.ok v ⟨bh (some v) o1 o2 o3 o4 o5 o6 o7 o8 o9 o10 o11 o12 o13 o14 o15 o16 o17 o18 o19 o20 o21,S⟩:=rfl
theorem aiW:aF "script" v ⟨bh o0 o1 o2 o3 o4 o5 o6 o7 o8 o9 o10 o11 o12 o13 o14 o15 o16 o17 o18 o19 o20 o21,S⟩=⟨bh (some v) o1 o2 o3 o4 o5 o6 o7 o8 o9 o10 o11 o12 o13 o14 o15 o16 o17 o18 o19 o20 o21,S⟩:=rfl
theorem aiX:aq "sorter" ⟨bh o0 (some v) o2 o3 o4 o5 o6 o7 o8 o9 o10 o11 o12 o13 o14 o15 o16 o17 o18 o19 o20 o21,S⟩=.ok v ⟨bh o0 (some v) o2 o3 o4 o5 o6 o7 o8 o9 o10 o11 o12 o13 o14 o15 o16 o17 o18 o19 o20 o21,S⟩:=rfl
theorem aiY:aF "sorter" v ⟨bh o0 o1 o2 o3 o4 o5 o6 o7 o8 o9 o10 o11 o12 o13 o14 o15 o16 o17 o18 o19 o20 o21,S⟩=⟨bh o0 (some v) o2 o3 o4 o5 o6 o7 o8 o9 o10 o11 o12 o13 o14 o15 o16 o17 o18 o19 o20 o21,S⟩:=rfl
theorem aiZ:aq "parts" ⟨bh o0 o1 (some v) o3 o4 o5 o6 o7 o8 o9 o10 o11 o12 o13 o14 o15 o16 o17 o18 o19 o20 o21,S⟩=.ok v ⟨bh o0 o1 (some v) o3 o4 o5 o6 o7 o8 o9 o10 o11 o12 o13 o14 o15 o16 o17 o18 o19 o20 o21,S⟩:=rfl
theorem ai0:aF "parts" v ⟨bh o0 o1 o2 o3 o4 o5 o6 o7 o8 o9 o10 o11 o12 o13 o14 o15 o16 o17 o18 o19 o20 o21,S⟩=⟨bh o0 o1 (some v) o3 o4 o5 o6 o7 o8 o9 o10 o11 o12 o13 o14 o15 o16 o17 o18 o19 o20 o21,S⟩:=rfl
theorem ai1:aq "number" ⟨bh o0 o1 o2 (some v) o4 o5 o6 o7 o8 o9 o10 o11 o12 o13 o14 o15 o16 o17 o18 o19 o20 o21,S⟩=.ok v ⟨bh o0 o1 o2 (some v) o4 o5 o6 o7 o8 o9 o10 o11 o12 o13 o14 o15 o16 o17 o18 o19 o20 o21,S⟩:=rfl
theorem ai2:aF "number" v ⟨bh o0 o1 o2 o3 o4 o5 o6 o7 o8 o9 o10 o11 o12 o13 o14 o15 o16 o17 o18 o19 o20 o21,S⟩=⟨bh o0 o1 o2 (some v) o4 o5 o6 o7 o8 o9 o10 o11 o12 o13 o14 o15 o16 o17 o18 o19 o20 o21,S⟩:=rfl
theorem ai3:aq "more" ⟨bh o0 o1 o2 o3 (some v) o5 o6 o7 o8 o9 o10 o11 o12 o13 o14 o15 o16 o17 o18 o19 o20 o21,S⟩=.ok v ⟨bh o0 o1 o2 o3 (some v) o5 o6 o7 o8 o9 o10 o11 o12 o13 o14 o15 o16 o17 o18 o19 o20 o21,S⟩:=rfl
theorem ai4:aF "more" v ⟨bh o0 o1 o2 o3 o4 o5 o6 o7 o8 o9 o10 o11 o12 o13 o14 o15 o16 o17 o18 o19 o20 o21,S⟩=⟨bh o0 o1 o2 o3 (some v) o5 o6 o7 o8 o9 o10 o11 o12 o13 o14 o15 o16 o17 o18 o19 o20 o21,S⟩:=rfl
theorem ai5:aq "own" ⟨bh o0 o1 o2 o3 o4 (some v) o6 o7 o8 o9 o10 o11 o12 o13 o14 o15 o16 o17 o18 o19 o20 o21,S⟩=.ok v ⟨bh o0 o1 o2 o3 o4 (some v) o6 o7 o8 o9 o10 o11 o12 o13 o14 o15 o16 o17 o18 o19 o20 o21,S⟩:=rfl
theorem ai6:aF "own" v ⟨bh o0 o1 o2 o3 o4 o5 o6 o7 o8 o9 o10 o11 o12 o13 o14 o15 o16 o17 o18 o19 o20 o21,S⟩=⟨bh o0 o1 o2 o3 o4 (some v) o6 o7 o8 o9 o10 o11 o12 o13 o14 o15 o16 o17 o18 o19 o20 o21,S⟩:=rfl
theorem ai7:aq "rooted" ⟨bh o0 o1 o2 o3 o4 o5 (some v) o7 o8 o9 o10 o11 o12 o13 o14 o15 o16 o17 o18 o19 o20 o21,S⟩=.ok v ⟨bh o0 o1 o2 o3 o4 o5 (some v) o7 o8 o9 o10 o11 o12 o13 o14 o15 o16 o17 o18 o19 o20 o21,S⟩:=rfl
theorem ai8:aF "rooted" v ⟨bh o0 o1 o2 o3 o4 o5 o6 o7 o8 o9 o10 o11 o12 o13 o14 o15 o16 o17 o18 o19 o20 o21,S⟩=⟨bh o0 o1 o2 o3 o4 o5 (some v) o7 o8 o9 o10 o11 o12 o13 o14 o15 o16 o17 o18 o19 o20 o21,S⟩:=rfl
theorem ai9:aq "last" ⟨bh o0 o1 o2 o3 o4 o5 o6 (some v) o8 o9 o10 o11 o12 o13 o14 o15 o16 o17 o18 o19 o20 o21,S⟩=.ok v ⟨bh o0 o1 o2 o3 o4 o5 o6 (some v) o8 o9 o10 o11 o12 o13 o14 o15 o16 o17 o18 o19 o20 o21,S⟩:=rfl
theorem aja:aF "last" v ⟨bh o0 o1 o2 o3 o4 o5 o6 o7 o8 o9 o10 o11 o12 o13 o14 o15 o16 o17 o18 o19 o20 o21,S⟩=⟨bh o0 o1 o2 o3 o4 o5 o6 (some v) o8 o9 o10 o11 o12 o13 o14 o15 o16 o17 o18 o19 o20 o21,S⟩:=rfl
theorem ajb:aq "rest" ⟨bh o0 o1 o2 o3 o4 o5 o6 o7 (some v) o9 o10 o11 o12 o13 o14 o15 o16 o17 o18 o19 o20 o21,S⟩=.ok v ⟨bh o0 o1 o2 o3 o4 o5 o6 o7 (some v) o9 o10 o11 o12 o13 o14 o15 o16 o17 o18 o19 o20 o21,S⟩:=rfl
theorem ajc:aF "rest" v ⟨bh o0 o1 o2 o3 o4 o5 o6 o7 o8 o9 o10 o11 o12 o13 o14 o15 o16 o17 o18 o19 o20 o21,S⟩=⟨bh o0 o1 o2 o3 o4 o5 o6 o7 (some v) o9 o10 o11 o12 o13 o14 o15 o16 o17 o18 o19 o20 o21,S⟩:=rfl
theorem ajd:aq "pieces" ⟨bh o0 o1 o2 o3 o4 o5 o6 o7 o8 (some v) o10 o11 o12 o13 o14 o15 o16 o17 o18 o19 o20 o21,S⟩=.ok v ⟨bh o0 o1 o2 o3 o4 o5 o6 o7 o8 (some v) o10 o11 o12 o13 o14 o15 o16 o17 o18 o19 o20 o21,S⟩:=rfl
theorem aje:aF "pieces" v ⟨bh o0 o1 o2 o3 o4 o5 o6 o7 o8 o9 o10 o11 o12 o13 o14 o15 o16 o17 o18 o19 o20 o21,S⟩=⟨bh o0 o1 o2 o3 o4 o5 o6 o7 o8 (some v) o10 o11 o12 o13 o14 o15 o16 o17 o18 o19 o20 o21,S⟩:=rfl
theorem ahJ:aq "turn" ⟨bh o0 o1 o2 o3 o4 o5 o6 o7 o8 o9 (some v) o11 o12 o13 o14 o15 o16 o17 o18 o19 o20 o21,S⟩=.ok v ⟨bh o0 o1 o2 o3 o4 o5 o6 o7 o8 o9 (some v) o11 o12 o13 o14 o15 o16 o17 o18 o19 o20 o21,S⟩:=rfl
theorem ahK:aF "turn" v ⟨bh o0 o1 o2 o3 o4 o5 o6 o7 o8 o9 o10 o11 o12 o13 o14 o15 o16 o17 o18 o19 o20 o21,S⟩=⟨bh o0 o1 o2 o3 o4 o5 o6 o7 o8 o9 (some v) o11 o12 o13 o14 o15 o16 o17 o18 o19 o20 o21,S⟩:=rfl
theorem ahL:aq "name" ⟨bh o0 o1 o2 o3 o4 o5 o6 o7 o8 o9 o10 (some v) o12 o13 o14 o15 o16 o17 o18 o19 o20 o21,S⟩=.ok v ⟨bh o0 o1 o2 o3 o4 o5 o6 o7 o8 o9 o10 (some v) o12 o13 o14 o15 o16 o17 o18 o19 o20 o21,S⟩:=rfl
theorem ahM:aF "name" v ⟨bh o0 o1 o2 o3 o4 o5 o6 o7 o8 o9 o10 o11 o12 o13 o14 o15 o16 o17 o18 o19 o20 o21,S⟩=⟨bh o0 o1 o2 o3 o4 o5 o6 o7 o8 o9 o10 (some v) o12 o13 o14 o15 o16 o17 o18 o19 o20 o21,S⟩:=rfl
theorem ahN:aq "goal" ⟨bh o0 o1 o2 o3 o4 o5 o6 o7 o8 o9 o10 o11 (some v) o13 o14 o15 o16 o17 o18 o19 o20 o21,S⟩=.ok v ⟨bh o0 o1 o2 o3 o4 o5 o6 o7 o8 o9 o10 o11 (some v) o13 o14 o15 o16 o17 o18 o19 o20 o21,S⟩:=rfl
theorem ahO:aF "goal" v ⟨bh o0 o1 o2 o3 o4 o5 o6 o7 o8 o9 o10 o11 o12 o13 o14 o15 o16 o17 o18 o19 o20 o21,S⟩=⟨bh o0 o1 o2 o3 o4 o5 o6 o7 o8 o9 o10 o11 (some v) o13 o14 o15 o16 o17 o18 o19 o20 o21,S⟩:=rfl
theorem ahP:aq "holder" ⟨bh o0 o1 o2 o3 o4 o5 o6 o7 o8 o9 o10 o11 o12 (some v) o14 o15 o16 o17 o18 o19 o20 o21,S⟩=.ok v ⟨bh o0 o1 o2 o3 o4 o5 o6 o7 o8 o9 o10 o11 o12 (some v) o14 o15 o16 o17 o18 o19 o20 o21,S⟩:=rfl
theorem ahQ:aF "holder" v ⟨bh o0 o1 o2 o3 o4 o5 o6 o7 o8 o9 o10 o11 o12 o13 o14 o15 o16 o17 o18 o19 o20 o21,S⟩=⟨bh o0 o1 o2 o3 o4 o5 o6 o7 o8 o9 o10 o11 o12 (some v) o14 o15 o16 o17 o18 o19 o20 o21,S⟩:=rfl
theorem ahR:aq "folder" ⟨bh o0 o1 o2 o3 o4 o5 o6 o7 o8 o9 o10 o11 o12 o13 (some v) o15 o16 o17 o18 o19 o20 o21,S⟩=.ok v ⟨bh o0 o1 o2 o3 o4 o5 o6 o7 o8 o9 o10 o11 o12 o13 (some v) o15 o16 o17 o18 o19 o20 o21,S⟩:=rfl
theorem ahS:aF "folder" v ⟨bh o0 o1 o2 o3 o4 o5 o6 o7 o8 o9 o10 o11 o12 o13 o14 o15 o16 o17 o18 o19 o20 o21,S⟩=⟨bh o0 o1 o2 o3 o4 o5 o6 o7 o8 o9 o10 o11 o12 o13 (some v) o15 o16 o17 o18 o19 o20 o21,S⟩:=rfl
theorem ahT:aq "found" ⟨bh o0 o1 o2 o3 o4 o5 o6 o7 o8 o9 o10 o11 o12 o13 o14 (some v) o16 o17 o18 o19 o20 o21,S⟩=.ok v ⟨bh o0 o1 o2 o3 o4 o5 o6 o7 o8 o9 o10 o11 o12 o13 o14 (some v) o16 o17 o18 o19 o20 o21,S⟩:=rfl
theorem ahU:aF "found" v ⟨bh o0 o1 o2 o3 o4 o5 o6 o7 o8 o9 o10 o11 o12 o13 o14 o15 o16 o17 o18 o19 o20 o21,S⟩=⟨bh o0 o1 o2 o3 o4 o5 o6 o7 o8 o9 o10 o11 o12 o13 o14 (some v) o16 o17 o18 o19 o20 o21,S⟩:=rfl
theorem ahV:aq "same" ⟨bh o0 o1 o2 o3 o4 o5 o6 o7 o8 o9 o10 o11 o12 o13 o14 o15 (some v) o17 o18 o19 o20 o21,S⟩=.ok v ⟨bh o0 o1 o2 o3 o4 o5 o6 o7 o8 o9 o10 o11 o12 o13 o14 o15 (some v) o17 o18 o19 o20 o21,S⟩:=rfl
theorem ahW:aF "same" v ⟨bh o0 o1 o2 o3 o4 o5 o6 o7 o8 o9 o10 o11 o12 o13 o14 o15 o16 o17 o18 o19 o20 o21,S⟩=⟨bh o0 o1 o2 o3 o4 o5 o6 o7 o8 o9 o10 o11 o12 o13 o14 o15 (some v) o17 o18 o19 o20 o21,S⟩:=rfl
theorem ahX:aq "back" ⟨bh o0 o1 o2 o3 o4 o5 o6 o7 o8 o9 o10 o11 o12 o13 o14 o15 o16 (some v) o18 o19 o20 o21,S⟩=.ok v ⟨bh o0 o1 o2 o3 o4 o5 o6 o7 o8 o9 o10 o11 o12 o13 o14 o15 o16 (some v) o18 o19 o20 o21,S⟩:=rfl
theorem ahY:aF "back" v ⟨bh o0 o1 o2 o3 o4 o5 o6 o7 o8 o9 o10 o11 o12 o13 o14 o15 o16 o17 o18 o19 o20 o21,S⟩=⟨bh o0 o1 o2 o3 o4 o5 o6 o7 o8 o9 o10 o11 o12 o13 o14 o15 o16 (some v) o18 o19 o20 o21,S⟩:=rfl
theorem ahZ:aq "ringed" ⟨bh o0 o1 o2 o3 o4 o5 o6 o7 o8 o9 o10 o11 o12 o13 o14 o15 o16 o17 (some v) o19 o20 o21,S⟩=.ok v ⟨bh o0 o1 o2 o3 o4 o5 o6 o7 o8 o9 o10 o11 o12 o13 o14 o15 o16 o17 (some v) o19 o20 o21,S⟩:=rfl
theorem ah0:aF "ringed" v ⟨bh o0 o1 o2 o3 o4 o5 o6 o7 o8 o9 o10 o11 o12 o13 o14 o15 o16 o17 o18 o19 o20 o21,S⟩=⟨bh o0 o1 o2 o3 o4 o5 o6 o7 o8 o9 o10 o11 o12 o13 o14 o15 o16 o17 (some v) o19 o20 o21,S⟩:=rfl
theorem ah1:aq "left" ⟨bh o0 o1 o2 o3 o4 o5 o6 o7 o8 o9 o10 o11 o12 o13 o14 o15 o16 o17 o18 (some v) o20 o21,S⟩=.ok v ⟨bh o0 o1 o2 o3 o4 o5 o6 o7 o8 o9 o10 o11 o12 o13 o14 o15 o16 o17 o18 (some v) o20 o21,S⟩:=rfl
theorem ah2:aF "left" v ⟨bh o0 o1 o2 o3 o4 o5 o6 o7 o8 o9 o10 o11 o12 o13 o14 o15 o16 o17 o18 o19 o20 o21,S⟩=⟨bh o0 o1 o2 o3 o4 o5 o6 o7 o8 o9 o10 o11 o12 o13 o14 o15 o16 o17 o18 (some v) o20 o21,S⟩:=rfl
theorem ah3:aq "node" ⟨bh o0 o1 o2 o3 o4 o5 o6 o7 o8 o9 o10 o11 o12 o13 o14 o15 o16 o17 o18 o19 (some v) o21,S⟩=.ok v ⟨bh o0 o1 o2 o3 o4 o5 o6 o7 o8 o9 o10 o11 o12 o13 o14 o15 o16 o17 o18 o19 (some v) o21,S⟩:=rfl
theorem ah4:aF "node" v ⟨bh o0 o1 o2 o3 o4 o5 o6 o7 o8 o9 o10 o11 o12 o13 o14 o15 o16 o17 o18 o19 o20 o21,S⟩=⟨bh o0 o1 o2 o3 o4 o5 o6 o7 o8 o9 o10 o11 o12 o13 o14 o15 o16 o17 o18 o19 (some v) o21,S⟩:=rfl
theorem ah5:aq "given" ⟨bh o0 o1 o2 o3 o4 o5 o6 o7 o8 o9 o10 o11 o12 o13 o14 o15 o16 o17 o18 o19 o20 (some v),S⟩=.ok v ⟨bh o0 o1 o2 o3 o4 o5 o6 o7 o8 o9 o10 o11 o12 o13 o14 o15 o16 o17 o18 o19 o20 (some v),S⟩:=rfl
theorem ah6:aF "given" v ⟨bh o0 o1 o2 o3 o4 o5 o6 o7 o8 o9 o10 o11 o12 o13 o14 o15 o16 o17 o18 o19 o20 o21,S⟩=⟨bh o0 o1 o2 o3 o4 o5 o6 o7 o8 o9 o10 o11 o12 o13 o14 o15 o16 o17 o18 o19 o20 (some v),S⟩:=rfl
end
noncomputable section
variable (cl:Nat->List V->St->ak V) (Y:St)
def adA:SB:=λ cl Y=>(aq "node" Y).bind λ a Y=>(((aq "self" Y).bind λ b Y=>(aX b "node" a Y).bind λ _ Y=>.ok () Y).bind λ _ Y=>.ok () Y).bind λ _ Y=>.ok .next Y
def adB:SB:=λ cl Y=>(ak.ok (.int 0) Y).bind λ a Y=>(((aq "self" Y).bind λ b Y=>(aX b "npredecessors" a Y).bind λ _ Y=>.ok () Y).bind λ _ Y=>.ok () Y).bind λ _ Y=>.ok .next Y
def adC:SB:=λ cl Y=>((ak.ok [] Y).bind λ a Y=>Y.new (.list a)).bind λ b Y=>(((aq "self" Y).bind λ c Y=>(aX c "successors" b Y).bind λ _ Y=>.ok () Y).bind λ _ Y=>.ok () Y).bind λ _ Y=>.ok .next Y
def B36:SB:=λ cl Y=>aj (adA cl Y) λ Y=>aj (adB cl Y) λ Y=>aj (adC cl Y) λ Y=>.ok .next Y
theorem acr:aK (cG cl 60) (sU 36) (wu 36) Y=B36 cl Y:=by kernel_rfl
def adD:SB:=λ cl Y=>(Y.new (.dict [] 0)).bind λ a Y=>(((aq "self" Y).bind λ b Y=>(aX b "_node2info" a Y).bind λ _ Y=>.ok () Y).bind λ _ Y=>.ok () Y).bind λ _ Y=>.ok .next Y
def adE:SB:=λ cl Y=>(ak.ok (.none) Y).bind λ a Y=>(((aq "self" Y).bind λ b Y=>(aX b "_ready_nodes" a Y).bind λ _ Y=>.ok () Y).bind λ _ Y=>.ok () Y).bind λ _ Y=>.ok .next Y
def adF:SB:=λ cl Y=>(ak.ok (.int 0) Y).bind λ a Y=>(((aq "self" Y).bind λ b Y=>(aX b "_npassedout" a Y).bind λ _ Y=>.ok () Y).bind λ _ Y=>.ok () Y).bind λ _ Y=>.ok .next Y
def adG:SB:=λ cl Y=>(ak.ok (.int 0) Y).bind λ a Y=>(((aq "self" Y).bind λ b Y=>(aX b "_nfinished" a Y).bind λ _ Y=>.ok () Y).bind λ _ Y=>.ok () Y).bind λ _ Y=>.ok .next Y
def Ky:SB:=λ cl Y=>((ak.bad:ak V)).bind λ _ Y=>.ok .next Y
def Uz:SB:=λ cl Y=>aj (Ky cl Y) λ Y=>.ok .next Y
def aan:SB:=λ cl Y=>((aq "graph" Y).bind (aV cl true "items" λ Y=>.ok [] Y)).bind (Hj (λ i v Y=>Uz cl (aF "predecessors" v (aF "node" (.int i) Y))) (λ Y=>.ok .next Y))
def afN:SB:=λ cl Y=>aj (aan cl Y) λ Y=>.ok .next Y
def adH:SB:=λ cl Y=>((aq "graph" Y).bind λ a Y=>(ak.ok (.none) Y).bind λ b Y=>(aG (rR .IsNot a b Y) Y).bind λ c Y=>.ok c Y).bind λ d Y=>if d then afN cl Y else .ok .next Y
def B73:SB:=λ cl Y=>aj (adD cl Y) λ Y=>aj (adE cl Y) λ Y=>aj (adF cl Y) λ Y=>aj (adG cl Y) λ Y=>aj (adH cl Y) λ Y=>.ok .next Y
theorem acs:aK (cG cl 60) (sU 73) (wu 73) Y=B73 cl Y:=by kernel_rfl
def Kz:SB:=λ cl Y=>(((aq "node" Y).bind λ a Y=>(ak.ok [] Y).bind λ b Y=>.ok (a::b) Y).bind λ c Y=>cl 40 c Y).bind λ d Y=>((((aq "self" Y).bind λ e Y=>bJ e "_node2info" Y).bind λ f Y=>(aq "node" Y).bind λ g Y=>(iV f g d Y).bind λ _ Y=>.ok () Y).bind λ _ Y=>(ak.ok () (aF "result" d Y)).bind λ _ Y=>.ok () Y).bind λ _ Y=>.ok .next Y
def aao:SB:=λ cl Y=>aj (Kz cl Y) λ Y=>.ok .next Y
def aap:SB:=λ cl Y=>(((((aq "self" Y).bind λ a Y=>bJ a "_node2info" Y).bind (aV cl true "get" λ Y=>(aq "node" Y).bind λ b Y=>(ak.ok [] Y).bind λ c Y=>.ok (b::c) Y)).bind λ d Y=>.ok d (aF "result" d Y)).bind λ e Y=>(ak.ok (.none) Y).bind λ f Y=>(aG (Mg e f) Y).bind λ g Y=>.ok g Y).bind λ h Y=>if h then aao cl Y else .ok .next Y
def aaq:SB:=λ cl Y=>(aq "result" Y).bind λ a Y=>.ok (.ret a) Y
def B80:SB:=λ cl Y=>aj (aap cl Y) λ Y=>aj (aaq cl Y) λ Y=>.ok .next Y
theorem Rm:aK (cG cl 60) (sU 80) (wu 80) Y=B80 cl Y:=by kernel_rfl
def aar:SB:=λ cl Y=>ak.bad
def afO:SB:=λ cl Y=>aj (aar cl Y) λ Y=>.ok .next Y
def adI:SB:=λ cl Y=>(((aq "self" Y).bind λ a Y=>bJ a "_ready_nodes" Y).bind λ b Y=>(ak.ok (.none) Y).bind λ c Y=>(aG (rR .IsNot b c Y) Y).bind λ d Y=>.ok d Y).bind λ e Y=>if e then afO cl Y else .ok .next Y
def adJ:SB:=λ cl Y=>((aq "self" Y).bind (aV cl true "_get_nodeinfo" λ Y=>(aq "node" Y).bind λ a Y=>(ak.ok [] Y).bind λ b Y=>.ok (a::b) Y)).bind λ c Y=>.ok .next (aF "nodeinfo" c Y)
def adK:SB:=λ cl Y=>(aq "nodeinfo" Y).bind λ a Y=>(bJ a "npredecessors" Y).bind λ b Y=>(((aq "predecessors" Y).bind λ c Y=>(ak.ok [] Y).bind λ d Y=>.ok (c::d) Y).bind λ e Y=>rU e Y).bind λ f Y=>(kJ .Add b f Y).bind λ g Y=>(aX a "npredecessors" g Y).bind λ _ Y=>.ok .next Y
def KC:SB:=λ cl Y=>((aq "self" Y).bind (aV cl true "_get_nodeinfo" λ Y=>(aq "pred" Y).bind λ a Y=>(ak.ok [] Y).bind λ b Y=>.ok (a::b) Y)).bind λ c Y=>.ok .next (aF "pred_info" c Y)
def KD:SB:=λ cl Y=>(((aq "pred_info" Y).bind λ a Y=>bJ a "successors" Y).bind (aV cl true "append" λ Y=>(aq "node" Y).bind λ b Y=>(ak.ok [] Y).bind λ c Y=>.ok (b::c) Y)).bind λ _ Y=>.ok .next Y
def Bg:SB:=λ cl Y=>aj (KC cl Y) λ Y=>aj (KD cl Y) λ Y=>.ok .next Y
def Rn:SB:=λ cl Y=>(aq "predecessors" Y).bind (fC (λ v Y=>Bg cl (aF "pred" v Y)) (λ Y=>.ok .next Y))
def B87:SB:=λ cl Y=>aj (adI cl Y) λ Y=>aj (adJ cl Y) λ Y=>aj (adK cl Y) λ Y=>aj (Rn cl Y) λ Y=>.ok .next Y
theorem acu:aK (cG cl 60) (sU 87) (wu 87) Y=B87 cl Y:=by kernel_rfl
def aas:SB:=λ cl Y=>ak.bad
def afP:SB:=λ cl Y=>aj (aas cl Y) λ Y=>.ok .next Y
def aat:SB:=λ cl Y=>(((aq "self" Y).bind λ a Y=>bJ a "_ready_nodes" Y).bind λ b Y=>(ak.ok (.none) Y).bind λ c Y=>(aG (rR .IsNot b c Y) Y).bind λ d Y=>.ok d Y).bind λ e Y=>if e then afP cl Y else .ok .next Y
def H7:SC:=λ cl Y=>(((aq "i" Y).bind λ a Y=>bJ a "npredecessors" Y).bind λ b Y=>(ak.ok (.int 0) Y).bind λ c Y=>(aG (yw b c Y) Y).bind λ d Y=>.ok d Y).bind λ e Y=>if !e then .ok e Y else .ok true Y
def O9:SV:=λ cl Y=>(aq "i" Y).bind λ a Y=>bJ a "node" Y
def aau:SB:=λ cl Y=>((((aq "self" Y).bind λ a Y=>bJ a "_node2info" Y).bind (aV cl true "values" λ Y=>.ok [] Y)).bind (eF true "i" (H7 cl) (O9 cl))).bind λ b Y=>(((aq "self" Y).bind λ c Y=>(aX c "_ready_nodes" b Y).bind λ _ Y=>.ok () Y).bind λ _ Y=>.ok () Y).bind λ _ Y=>.ok .next Y
def aav:SB:=λ cl Y=>((aq "self" Y).bind (aV cl true "_find_cycle" λ Y=>.ok [] Y)).bind λ a Y=>.ok .next (aF "cycle" a Y)
def KH:SB:=λ cl Y=>((ak.ok (.str "nodes are in a cycle") Y).bind λ b Y=>((aq "cycle" Y).bind λ c Y=>(ak.ok [] Y).bind λ d Y=>.ok (c::d) Y).bind λ e Y=>.ok (b::e) Y).bind λ _ Y=>ak.exc .cyc Y
def aaw:SB:=λ cl Y=>aj (KH cl Y) λ Y=>.ok .next Y
def adL:SB:=λ cl Y=>((aq "cycle" Y).bind λ a Y=>aG (aO a Y) Y).bind λ b Y=>if b then aaw cl Y else .ok .next Y
def B92:SB:=λ cl Y=>aj (aat cl Y) λ Y=>aj (aau cl Y) λ Y=>aj (aav cl Y) λ Y=>aj (adL cl Y) λ Y=>.ok .next Y
theorem acv:aK (cG cl 60) (sU 92) (wu 92) Y=B92 cl Y:=by kernel_rfl
def aax:SB:=λ cl Y=>ak.bad
def afQ:SB:=λ cl Y=>aj (aax cl Y) λ Y=>.ok .next Y
def adM:SB:=λ cl Y=>(((aq "self" Y).bind λ a Y=>bJ a "_ready_nodes" Y).bind λ b Y=>(ak.ok (.none) Y).bind λ c Y=>(aG (Mg b c) Y).bind λ d Y=>.ok d Y).bind λ e Y=>if e then afQ cl Y else .ok .next Y
def adN:SB:=λ cl Y=>((((aq "self" Y).bind λ a Y=>bJ a "_ready_nodes" Y).bind λ b Y=>(ak.ok [] Y).bind λ c Y=>.ok (b::c) Y).bind λ d Y=>b8 cl .tuple d Y).bind λ e Y=>.ok .next (aF "result" e Y)
def adO:SB:=λ cl Y=>((aq "self" Y).bind λ a Y=>bJ a "_node2info" Y).bind λ b Y=>.ok .next (aF "n2i" b Y)
def KJ:SB:=λ cl Y=>(ak.ok (.int (-1)) Y).bind λ a Y=>((((aq "n2i" Y).bind λ b Y=>(aq "node" Y).bind λ c Y=>dz (cM b c Y) Y).bind λ d Y=>(aX d "npredecessors" a Y).bind λ _ Y=>.ok () Y).bind λ _ Y=>.ok () Y).bind λ _ Y=>.ok .next Y
def H8:SB:=λ cl Y=>aj (KJ cl Y) λ Y=>.ok .next Y
def aay:SB:=λ cl Y=>(aq "result" Y).bind (fC (λ v Y=>H8 cl (aF "node" v Y)) (λ Y=>.ok .next Y))
def adP:SB:=λ cl Y=>(((aq "self" Y).bind λ a Y=>bJ a "_ready_nodes" Y).bind (aV cl true "clear" λ Y=>.ok [] Y)).bind λ _ Y=>.ok .next Y
def adQ:SB:=λ cl Y=>(aq "self" Y).bind λ a Y=>(bJ a "_npassedout" Y).bind λ b Y=>(((aq "result" Y).bind λ c Y=>(ak.ok [] Y).bind λ d Y=>.ok (c::d) Y).bind λ e Y=>rU e Y).bind λ f Y=>(kJ .Add b f Y).bind λ g Y=>(aX a "_npassedout" g Y).bind λ _ Y=>.ok .next Y
def adR:SB:=λ cl Y=>(aq "result" Y).bind λ a Y=>.ok (.ret a) Y
def B99:SB:=λ cl Y=>aj (adM cl Y) λ Y=>aj (adN cl Y) λ Y=>aj (adO cl Y) λ Y=>aj (aay cl Y) λ Y=>aj (adP cl Y) λ Y=>aj (adQ cl Y) λ Y=>aj (adR cl Y) λ Y=>.ok .next Y
theorem acw:aK (cG cl 60) (sU 99) (wu 99) Y=B99 cl Y:=by kernel_rfl
def UG:SB:=λ cl Y=>ak.bad
def acy:SB:=λ cl Y=>aj (UG cl Y) λ Y=>.ok .next Y
def Pa:SB:=λ cl Y=>(((aq "self" Y).bind λ a Y=>bJ a "_ready_nodes" Y).bind λ b Y=>(ak.ok (.none) Y).bind λ c Y=>(aG (Mg b c) Y).bind λ d Y=>.ok d Y).bind λ e Y=>if e then acy cl Y else .ok .next Y
def Pb:SB:=λ cl Y=>((((aq "self" Y).bind λ a Y=>bJ a "_nfinished" Y).bind λ b Y=>((aq "self" Y).bind λ c Y=>bJ c "_npassedout" Y).bind λ d Y=>(aG (rR .Lt b d Y) Y).bind λ e Y=>.ok (V.bool e) Y).bind λ f Y=>(aG (aO f Y) Y).bind λ g Y=>if g then .ok f Y else(((aq "self" Y).bind λ h Y=>bJ h "_ready_nodes" Y).bind λ i Y=>(ak.ok [] Y).bind λ j Y=>.ok (i::j) Y).bind λ l Y=>b8 cl .bool l Y).bind λ m Y=>.ok (.ret m) Y
def afR:SB:=λ cl Y=>aj (Pa cl Y) λ Y=>aj (Pb cl Y) λ Y=>.ok .next Y
theorem aaz:aK (cG cl 60) (sU 106) (wu 106) Y=afR cl Y:=by kernel_rfl
def UJ:SB:=λ cl Y=>ak.bad
def acz:SB:=λ cl Y=>aj (UJ cl Y) λ Y=>.ok .next Y
def aaA:SB:=λ cl Y=>(((aq "self" Y).bind λ a Y=>bJ a "_ready_nodes" Y).bind λ b Y=>(ak.ok (.none) Y).bind λ c Y=>(aG (Mg b c) Y).bind λ d Y=>.ok d Y).bind λ e Y=>if e then acz cl Y else .ok .next Y
def aaB:SB:=λ cl Y=>((aq "self" Y).bind λ a Y=>bJ a "_node2info" Y).bind λ b Y=>.ok .next (aF "n2i" b Y)
def H9:SB:=λ cl Y=>ak.bad
def Pg:SB:=λ cl Y=>aj (H9 cl Y) λ Y=>.ok .next Y
def Ez:SB:=λ cl Y=>((((aq "n2i" Y).bind (aV cl true "get" λ Y=>(aq "node" Y).bind λ a Y=>(ak.ok [] Y).bind λ b Y=>.ok (a::b) Y)).bind λ c Y=>.ok c (aF "nodeinfo" c Y)).bind λ d Y=>(ak.ok (.none) Y).bind λ e Y=>(aG (Mg d e) Y).bind λ f Y=>.ok f Y).bind λ g Y=>if g then Pg cl Y else .ok .next Y
def EY:SB:=λ cl Y=>((aq "nodeinfo" Y).bind λ a Y=>bJ a "npredecessors" Y).bind λ b Y=>.ok .next (aF "stat" b Y)
def yH:SB:=λ cl Y=>ak.bad
def CG:SB:=λ cl Y=>aj (yH cl Y) λ Y=>.ok .next Y
def sX:SB:=λ cl Y=>ak.bad
def wV:SB:=λ cl Y=>aj (sX cl Y) λ Y=>.ok .next Y
def sY:SB:=λ cl Y=>ak.bad
def wW:SB:=λ cl Y=>aj (sY cl Y) λ Y=>.ok .next Y
def yI:SB:=λ cl Y=>((aq "stat" Y).bind λ a Y=>(ak.ok (.int (-2)) Y).bind λ b Y=>(aG (yw a b Y) Y).bind λ c Y=>.ok c Y).bind λ d Y=>if d then wV cl Y else wW cl Y
def CJ:SB:=λ cl Y=>aj (yI cl Y) λ Y=>.ok .next Y
def Ia:SB:=λ cl Y=>((aq "stat" Y).bind λ a Y=>(ak.ok (.int 0) Y).bind λ b Y=>(aG (rR .GtE a b Y) Y).bind λ c Y=>.ok c Y).bind λ d Y=>if d then CG cl Y else CJ cl Y
def Ph:SB:=λ cl Y=>aj (Ia cl Y) λ Y=>.ok .next Y
def Fb:SB:=λ cl Y=>((aq "stat" Y).bind λ a Y=>(ak.ok (.int (-1)) Y).bind λ b Y=>(aG (nj a b Y) Y).bind λ c Y=>.ok c Y).bind λ d Y=>if d then Ph cl Y else .ok .next Y
def Fd:SB:=λ cl Y=>(ak.ok (.int (-2)) Y).bind λ a Y=>(((aq "nodeinfo" Y).bind λ b Y=>(aX b "npredecessors" a Y).bind λ _ Y=>.ok () Y).bind λ _ Y=>.ok () Y).bind λ _ Y=>.ok .next Y
def ou:SB:=λ cl Y=>((aq "n2i" Y).bind λ a Y=>(aq "successor" Y).bind λ b Y=>dz (cM a b Y) Y).bind λ c Y=>.ok .next (aF "successor_info" c Y)
def oA:SB:=λ cl Y=>(aq "successor_info" Y).bind λ a Y=>(bJ a "npredecessors" Y).bind λ b Y=>(ak.ok (.int 1) Y).bind λ c Y=>(kJ .Sub b c Y).bind λ d Y=>(aX a "npredecessors" d Y).bind λ _ Y=>.ok .next Y
def pB:SB:=λ cl Y=>(((aq "self" Y).bind λ a Y=>bJ a "_ready_nodes" Y).bind (aV cl true "append" λ Y=>(aq "successor" Y).bind λ b Y=>(ak.ok [] Y).bind λ c Y=>.ok (b::c) Y)).bind λ _ Y=>.ok .next Y
def rK:SB:=λ cl Y=>aj (pB cl Y) λ Y=>.ok .next Y
def oE:SB:=λ cl Y=>(((aq "successor_info" Y).bind λ a Y=>bJ a "npredecessors" Y).bind λ b Y=>(ak.ok (.int 0) Y).bind λ c Y=>(aG (yw b c Y) Y).bind λ d Y=>.ok d Y).bind λ e Y=>if e then rK cl Y else .ok .next Y
def fV:SB:=λ cl Y=>aj (ou cl Y) λ Y=>aj (oA cl Y) λ Y=>aj (oE cl Y) λ Y=>.ok .next Y
def wX:SB:=λ cl Y=>((aq "nodeinfo" Y).bind λ a Y=>bJ a "successors" Y).bind (fC (λ v Y=>fV cl (aF "successor" v Y)) (λ Y=>.ok .next Y))
def Fe:SB:=λ cl Y=>(aq "self" Y).bind λ a Y=>(bJ a "_nfinished" Y).bind λ b Y=>(ak.ok (.int 1) Y).bind λ c Y=>(kJ .Add b c Y).bind λ d Y=>(aX a "_nfinished" d Y).bind λ _ Y=>.ok .next Y
def uH:SB:=λ cl Y=>aj (Ez cl Y) λ Y=>aj (EY cl Y) λ Y=>aj (Fb cl Y) λ Y=>aj (Fd cl Y) λ Y=>aj (wX cl Y) λ Y=>aj (Fe cl Y) λ Y=>.ok .next Y
def Pj:SB:=λ cl Y=>(aq "nodes" Y).bind (fC (λ v Y=>uH cl (aF "node" v Y)) (λ Y=>.ok .next Y))
def ahe:SB:=λ cl Y=>aj (aaA cl Y) λ Y=>aj (aaB cl Y) λ Y=>aj (Pj cl Y) λ Y=>.ok .next Y
theorem aaC:aK (cG cl 60) (sU 120) (wu 120) Y=ahe cl Y:=by kernel_rfl
def Pk:SB:=λ cl Y=>((aq "self" Y).bind λ a Y=>bJ a "_node2info" Y).bind λ b Y=>.ok .next (aF "n2i" b Y)
def Pn:SB:=λ cl Y=>((ak.ok [] Y).bind λ a Y=>Y.new (.list a)).bind λ b Y=>.ok .next (aF "stack" b Y)
def Pq:SB:=λ cl Y=>((ak.ok [] Y).bind λ a Y=>Y.new (.list a)).bind λ b Y=>.ok .next (aF "itstack" b Y)
def Pr:SB:=λ cl Y=>((ak.ok [] Y).bind λ a Y=>b8 cl .set a Y).bind λ b Y=>.ok .next (aF "seen" b Y)
def Pu:SB:=λ cl Y=>(Y.new (.dict [] 0)).bind λ a Y=>.ok .next (aF "node2stacki" a Y)
def uI:SB:=λ cl Y=>.ok .cont Y
def Bh:SB:=λ cl Y=>aj (uI cl Y) λ Y=>.ok .next Y
def qJ:SB:=λ cl Y=>((aq "node" Y).bind λ a Y=>(aq "seen" Y).bind λ b Y=>(aG (inM a b Y) Y).bind λ c Y=>.ok c Y).bind λ d Y=>if d then Bh cl Y else .ok .next Y
def jW:SB:=λ cl Y=>(((aq "stack" Y).bind λ a Y=>((aq "node2stacki" Y).bind λ b Y=>(aq "node" Y).bind λ c Y=>dz (cM b c Y) Y).bind λ d Y=>(ak.ok .none Y).bind λ e Y=>bC a d e Y).bind λ f Y=>(((aq "node" Y).bind λ g Y=>(ak.ok [] Y).bind λ h Y=>.ok (g::h) Y).bind λ i Y=>Y.new (.list i)).bind λ j Y=>jE f j Y).bind λ l Y=>.ok (.ret l) Y
def mK:SB:=λ cl Y=>aj (jW cl Y) λ Y=>.ok .next Y
def jh:SB:=λ cl Y=>((aq "node" Y).bind λ a Y=>(aq "node2stacki" Y).bind λ b Y=>(aG (inM a b Y) Y).bind λ c Y=>.ok c Y).bind λ d Y=>if d then mK cl Y else .ok .next Y
def lN:SB:=λ cl Y=>aj (jh cl Y) λ Y=>.ok .next Y
def pC:SB:=λ cl Y=>((aq "seen" Y).bind (aV cl true "add" λ Y=>(aq "node" Y).bind λ a Y=>(ak.ok [] Y).bind λ b Y=>.ok (a::b) Y)).bind λ _ Y=>.ok .next Y
def pD:SB:=λ cl Y=>((aq "itstack" Y).bind (aV cl true "append" λ Y=>((((((aq "n2i" Y).bind λ a Y=>(aq "node" Y).bind λ b Y=>dz (cM a b Y) Y).bind λ c Y=>bJ c "successors" Y).bind λ d Y=>(ak.ok [] Y).bind λ e Y=>.ok (d::e) Y).bind λ f Y=>b8 cl .iter f Y).bind λ g Y=>bJ g "__next__" Y).bind λ h Y=>(ak.ok [] Y).bind λ i Y=>.ok (h::i) Y)).bind λ _ Y=>.ok .next Y
def pF:SB:=λ cl Y=>(((aq "stack" Y).bind λ a Y=>(ak.ok [] Y).bind λ b Y=>.ok (a::b) Y).bind λ c Y=>rU c Y).bind λ d Y=>(((aq "node2stacki" Y).bind λ e Y=>(aq "node" Y).bind λ f Y=>(iV e f d Y).bind λ _ Y=>.ok () Y).bind λ _ Y=>.ok () Y).bind λ _ Y=>.ok .next Y
def pG:SB:=λ cl Y=>((aq "stack" Y).bind (aV cl true "append" λ Y=>(aq "node" Y).bind λ a Y=>(ak.ok [] Y).bind λ b Y=>.ok (a::b) Y)).bind λ _ Y=>.ok .next Y
def rM:SB:=λ cl Y=>aj (pC cl Y) λ Y=>aj (pD cl Y) λ Y=>aj (pF cl Y) λ Y=>aj (pG cl Y) λ Y=>.ok .next Y
def dH:SB:=λ cl Y=>((aq "node" Y).bind λ a Y=>(aq "seen" Y).bind λ b Y=>(aG (inM a b Y) Y).bind λ c Y=>.ok c Y).bind λ d Y=>if d then lN cl Y else rM cl Y
def fW:SB:=λ cl Y=>(((aq "itstack" Y).bind λ a Y=>((ak.ok (.int 1) Y).bind (QH .USub)).bind λ b Y=>dz (cM a b Y) Y).bind λ c Y=>(ak.ok [] Y).bind λ d Y=>Ar cl true c d Y).bind λ e Y=>.ok .next (aF "node" e Y)
def jX:SB:=λ cl Y=>.ok .brk Y
def eZ:SB:=λ cl Y=>aj (fW cl Y) λ Y=>aj (jX cl Y) λ Y=>.ok .next Y
def jY:SB:=λ cl Y=>(aq "node2stacki" Y).bind λ a Y=>((aq "stack" Y).bind (aV cl false "pop" λ Y=>.ok [] Y)).bind λ b Y=>(tG a b Y).bind λ _ Y=>.ok .next Y
def jZ:SB:=λ cl Y=>((aq "itstack" Y).bind (aV cl false "pop" λ Y=>.ok [] Y)).bind λ _ Y=>.ok .next Y
def iz:SB:=λ cl Y=>aj (jY cl Y) λ Y=>aj (jZ cl Y) λ Y=>.ok .next Y
def fL:SB:=λ cl Y=>uo (eZ cl) (λ Y=>.ok .next Y) (λ e Y=>if("StopIteration"==dw e&&true)then(iz cl Y).bindN λ f Y=>.ok f Y else .bad) Y
def lO:SB:=λ cl Y=>aj (fL cl Y) λ Y=>.ok .next Y
def yJ:SB:=λ cl Y=>.ok .brk Y
def CK:SB:=λ cl Y=>aj (yJ cl Y) λ Y=>.ok .next Y
def oF:SB:=λ cl Y=>if(true:Bool)then gG (λ Y=>(aq "stack" Y).bind λ a Y=>aG (aO a Y) Y) (lO cl) (CK cl) wf Y else .bad
def Px:SB:=λ cl Y=>aj (dH cl Y) λ Y=>aj (oF cl Y) λ Y=>.ok .next Y
def qK:SB:=λ cl Y=>if(true:Bool)then gG (λ Y=>(ak.ok (.bool true) Y).bind λ a Y=>aG (aO a Y) Y) (Px cl) (λ Y=>.ok .next Y) wf Y else .bad
def oG:SB:=λ cl Y=>aj (qJ cl Y) λ Y=>aj (qK cl Y) λ Y=>.ok .next Y
def Py:SB:=λ cl Y=>(aq "n2i" Y).bind (fC (λ v Y=>oG cl (aF "node" v Y)) (λ Y=>.ok .next Y))
def afS:SB:=λ cl Y=>(ak.ok (.none) Y).bind λ a Y=>.ok (.ret a) Y
def ahf:SB:=λ cl Y=>aj (Pk cl Y) λ Y=>aj (Pn cl Y) λ Y=>aj (Pq cl Y) λ Y=>aj (Pr cl Y) λ Y=>aj (Pu cl Y) λ Y=>aj (Py cl Y) λ Y=>aj (afS cl Y) λ Y=>.ok .next Y
theorem aaD:aK (cG cl 60) (sU 127) (wu 127) Y=ahf cl Y:=by kernel_rfl
end
noncomputable section
variable (cl:Nat->List V->St->ak V) (k:Nat) (Y:St)
def Pz:cN:=λ cl k Y=>(Y.new (.dict [] 0)).bind λ a Y=>((Cd (k+0) a Y).bind λ _ Y=>.ok () Y).bind λ _ Y=>.ok .next Y
def PB:cN:=λ cl k Y=>((ak.ok [] Y).bind λ a Y=>cl 137 a Y).bind λ b Y=>.ok .next (aF "sorter" b Y)
def Ff:cN:=λ cl k Y=>((ak.ok [] Y).bind λ a Y=>Y.new (.list a)).bind λ b Y=>(((mF (k+0) Y).bind λ c Y=>(((aq "parts" Y).bind λ d Y=>(ak.ok [] Y).bind λ e Y=>.ok (d::e) Y).bind λ f Y=>cl 304 f Y).bind λ g Y=>(iV c g b Y).bind λ _ Y=>.ok () Y).bind λ _ Y=>.ok () Y).bind λ _ Y=>.ok .next Y
def Fg:cN:=λ cl k Y=>((aq "sorter" Y).bind (aV cl true "add" λ Y=>(((aq "parts" Y).bind λ a Y=>(ak.ok [] Y).bind λ b Y=>.ok (a::b) Y).bind λ c Y=>cl 304 c Y).bind λ d Y=>(ak.ok [] Y).bind λ e Y=>.ok (d::e) Y)).bind λ _ Y=>.ok .next Y
def uJ:cN:=λ cl k Y=>aj (Ff cl k Y) λ Y=>aj (Fg cl k Y) λ Y=>.ok .next Y
def Ib:cN:=λ cl k Y=>(ak.ok (.ref 0) Y).bind (fC (λ v Y=>uJ cl k (aF "parts" v Y)) (λ Y=>.ok .next Y))
def mL:cN:=λ cl k Y=>(((aq "number" Y).bind λ a Y=>(ak.ok [] Y).bind λ b Y=>.ok (a::b) Y).bind λ c Y=>ad5 c Y).bind λ d Y=>.ok .next (aF "more" d Y)
def mO:cN:=λ cl k Y=>((ak.ok (.ref 0) Y).bind λ a Y=>((aq "more" Y).bind λ b Y=>(ak.ok (.int 6) Y).bind λ c Y=>gD .Mod b c Y).bind λ d Y=>dz (cM a d Y) Y).bind λ e Y=>.ok .next (aF "own" e Y)
def mQ:cN:=λ cl k Y=>((((aq "more" Y).bind λ a Y=>(ak.ok (.int 6) Y).bind λ b Y=>gD .FloorDiv a b Y).bind λ c Y=>(ak.ok (.int 2) Y).bind λ d Y=>gD .Mod c d Y).bind λ e Y=>(ak.ok (.int 1) Y).bind λ f Y=>(aG (yw e f Y) Y).bind λ g Y=>.ok (V.bool g) Y).bind λ h Y=>.ok .next (aF "rooted" h Y)
def mR:cN:=λ cl k Y=>((ak.ok (.str "xyzw") Y).bind λ a Y=>(((aq "more" Y).bind λ b Y=>(ak.ok (.int 12) Y).bind λ c Y=>gD .FloorDiv b c Y).bind λ d Y=>(ak.ok (.int 4) Y).bind λ e Y=>gD .Mod d e Y).bind λ f Y=>dz (cM a f Y) Y).bind λ g Y=>.ok .next (aF "last" g Y)
def mU:cN:=λ cl k Y=>((aq "more" Y).bind λ a Y=>(ak.ok (.int 240) Y).bind λ b Y=>gD .FloorDiv a b Y).bind λ c Y=>.ok .next (aF "rest" c Y)
def qL:cN:=λ cl k Y=>((ak.ok [] Y).bind λ a Y=>Y.new (.list a)).bind λ b Y=>.ok .next (aF "pieces" b Y)
def uK:cN:=λ cl k Y=>((aq "pieces" Y).bind (aV cl true "append" λ Y=>(((ak.ok [] Y).bind λ a Y=>cl 297 a Y).bind λ b Y=>((aq "rest" Y).bind λ c Y=>(ak.ok (.int 7) Y).bind λ d Y=>gD .Mod c d Y).bind λ e Y=>dz (cM b e Y) Y).bind λ f Y=>(ak.ok [] Y).bind λ g Y=>.ok (f::g) Y)).bind λ _ Y=>.ok .next Y
def uL:cN:=λ cl k Y=>((aq "rest" Y).bind λ a Y=>(ak.ok (.int 7) Y).bind λ b Y=>gD .FloorDiv a b Y).bind λ c Y=>.ok .next (aF "rest" c Y)
def oH:cN:=λ cl k Y=>aj (uK cl k Y) λ Y=>aj (uL cl k Y) λ Y=>.ok .next Y
def mV:cN:=λ cl k Y=>(((((aq "more" Y).bind λ a Y=>(ak.ok (.int 48) Y).bind λ b Y=>gD .FloorDiv a b Y).bind λ c Y=>(ak.ok (.int 5) Y).bind λ d Y=>gD .Mod c d Y).bind λ e Y=>(ak.ok [] Y).bind λ f Y=>.ok (e::f) Y).bind λ g Y=>vK g Y).bind (fC (λ v Y=>oH cl k (aF "turn" v Y)) (λ Y=>.ok .next Y))
def mW:cN:=λ cl k Y=>((aq "pieces" Y).bind (aV cl true "append" λ Y=>(aq "last" Y).bind λ a Y=>(ak.ok [] Y).bind λ b Y=>.ok (a::b) Y)).bind λ _ Y=>.ok .next Y
def iB:cN:=λ cl k Y=>((ak.ok (.str "/") Y).bind (aV cl true "join" λ Y=>((((aq "rooted" Y).bind λ a Y=>aG (aO a Y) Y).bind λ b Y=>if b then((ak.ok (.str "") Y).bind λ c Y=>((ak.ok (.str ".") Y).bind λ d Y=>(ak.ok [] Y).bind λ e Y=>.ok (d::e) Y).bind λ f Y=>.ok (c::f) Y).bind λ g Y=>Y.new (.list g)else((ak.ok (.str ".") Y).bind λ h Y=>(ak.ok [] Y).bind λ i Y=>.ok (h::i) Y).bind λ j Y=>Y.new (.list j)).bind λ l Y=>(aq "pieces" Y).bind λ m Y=>jE l m Y).bind λ n Y=>(ak.ok [] Y).bind λ o Y=>.ok (n::o) Y)).bind λ p Y=>.ok .next (aF "name" p Y)
def iC:cN:=λ cl k Y=>(((((aq "rooted" Y).bind λ a Y=>aG (aO a Y) Y).bind λ b Y=>if b then(ak.ok [] Y).bind λ c Y=>Y.new (.list c)else(aq "own" Y).bind λ d Y=>(ak.ok .none Y).bind λ e Y=>((ak.ok (.int 1) Y).bind (QH .USub)).bind λ f Y=>bC d e f Y).bind λ g Y=>((aq "pieces" Y).bind λ h Y=>(ak.ok [] Y).bind λ i Y=>.ok (h::i) Y).bind λ j Y=>.ok (g::j) Y).bind λ l Y=>cl 311 l Y).bind λ m Y=>.ok .next (aF "goal" m Y)
def iD:cN:=λ cl k Y=>(((aq "own" Y).bind λ a Y=>(ak.ok [] Y).bind λ b Y=>.ok (a::b) Y).bind λ c Y=>cl 304 c Y).bind λ d Y=>.ok .next (aF "holder" d Y)
def iG:cN:=λ cl k Y=>(((aq "holder" Y).bind λ a Y=>(ak.ok [] Y).bind λ b Y=>.ok (a::b) Y).bind λ c Y=>cl 256 c Y).bind λ d Y=>.ok .next (aF "folder" d Y)
def iH:cN:=λ cl k Y=>(((((aq "folder" Y).bind λ a Y=>((aq "name" Y).bind λ b Y=>(ak.ok [] Y).bind λ c Y=>.ok (b::c) Y).bind λ d Y=>.ok (a::d) Y).bind λ e Y=>cl 242 e Y).bind λ f Y=>(ak.ok [] Y).bind λ g Y=>.ok (f::g) Y).bind λ h Y=>cl 263 h Y).bind λ i Y=>.ok .next (aF "found" i Y)
def CN:cN:=λ cl k Y=>(ak.ok (.bool false) Y).bind λ a Y=>.ok (.ret a) Y
def KN:cN:=λ cl k Y=>aj (CN cl k Y) λ Y=>.ok .next Y
def fX:cN:=λ cl k Y=>(((aq "folder" Y).bind λ a Y=>((((aq "own" Y).bind λ b Y=>(ak.ok .none Y).bind λ c Y=>((ak.ok (.int 1) Y).bind (QH .USub)).bind λ d Y=>bC b c d Y).bind λ e Y=>(ak.ok [] Y).bind λ f Y=>.ok (e::f) Y).bind λ g Y=>cl 304 g Y).bind λ h Y=>(aG (nj a h Y) Y).bind λ i Y=>.ok i Y).bind λ j Y=>if j then .ok j Y else((aq "found" Y).bind λ l Y=>(((aq "goal" Y).bind λ m Y=>(ak.ok [] Y).bind λ n Y=>.ok (m::n) Y).bind λ o Y=>cl 304 o Y).bind λ p Y=>(aG (nj l p Y) Y).bind λ q Y=>.ok q Y).bind λ r Y=>if r then .ok r Y else .ok false Y).bind λ s Y=>if s then KN cl k Y else .ok .next Y
def CP:cN:=λ cl k Y=>(ak.ok (.bool false) Y).bind λ a Y=>.ok (.ret a) Y
def KQ:cN:=λ cl k Y=>aj (CP cl k Y) λ Y=>.ok .next Y
def eO:cN:=λ cl k Y=>((((aq "rooted" Y).bind λ a Y=>aG (aO a Y) Y).bind λ b Y=>.ok (!b) Y).bind λ c Y=>if !c then .ok c Y else((((aq "name" Y).bind λ d Y=>(ak.ok [] Y).bind λ e Y=>.ok (d::e) Y).bind λ f Y=>cl 263 f Y).bind λ g Y=>((ak.ok (.str "/") Y).bind (aV cl true "join" λ Y=>(((aq "pieces" Y).bind λ h Y=>(ak.ok [] Y).bind λ i Y=>.ok (h::i) Y).bind λ j Y=>cl 318 j Y).bind λ l Y=>(ak.ok [] Y).bind λ m Y=>.ok (l::m) Y)).bind λ n Y=>(aG (nj g n Y) Y).bind λ o Y=>.ok o Y).bind λ p Y=>if !p then .ok p Y else .ok true Y).bind λ q Y=>if q then KQ cl k Y else .ok .next Y
def fY:cN:=λ cl k Y=>((((aq "own" Y).bind λ a Y=>(ak.ok .none Y).bind λ b Y=>((ak.ok (.int 1) Y).bind (QH .USub)).bind λ c Y=>bC a b c Y).bind λ d Y=>((aq "goal" Y).bind λ e Y=>(ak.ok [] Y).bind λ f Y=>.ok (e::f) Y).bind λ g Y=>.ok (d::g) Y).bind λ h Y=>cl 325 h Y).bind λ i Y=>.ok .next (aF "same" i Y)
def fZ:cN:=λ cl k Y=>(((((aq "folder" Y).bind λ a Y=>((aq "name" Y).bind λ b Y=>(ak.ok [] Y).bind λ c Y=>.ok (b::c) Y).bind λ d Y=>.ok (a::d) Y).bind λ e Y=>cl 242 e Y).bind λ f Y=>((((aq "folder" Y).bind λ g Y=>((ak.ok (.str ".") Y).bind λ h Y=>(ak.ok [] Y).bind λ i Y=>.ok (h::i) Y).bind λ j Y=>.ok (g::j) Y).bind λ l Y=>cl 242 l Y).bind λ m Y=>(ak.ok [] Y).bind λ n Y=>.ok (m::n) Y).bind λ o Y=>.ok (f::o) Y).bind λ p Y=>cl 278 p Y).bind λ q Y=>.ok .next (aF "back" q Y)
def CQ:cN:=λ cl k Y=>(ak.ok (.bool false) Y).bind λ a Y=>.ok (.ret a) Y
def KR:cN:=λ cl k Y=>aj (CQ cl k Y) λ Y=>.ok .next Y
def f9:cN:=λ cl k Y=>(((aq "back" Y).bind λ a Y=>((ak.ok (.str "/") Y).bind (aV cl true "join" λ Y=>(((((ak.ok (.str "..") Y).bind λ b Y=>(ak.ok [] Y).bind λ c Y=>.ok (b::c) Y).bind λ d Y=>Y.new (.list d)).bind λ e Y=>(((((aq "own" Y).bind λ f Y=>(ak.ok [] Y).bind λ g Y=>.ok (f::g) Y).bind λ h Y=>rU h Y).bind λ i Y=>(ak.ok (.int 1) Y).bind λ j Y=>gD .Sub i j Y).bind λ l Y=>(aq "same" Y).bind λ m Y=>gD .Sub l m Y).bind λ n Y=>zq e n Y).bind λ o Y=>((aq "goal" Y).bind λ p Y=>(aq "same" Y).bind λ q Y=>(ak.ok .none Y).bind λ r Y=>bC p q r Y).bind λ s Y=>jE o s Y).bind λ t Y=>(ak.ok [] Y).bind λ u Y=>.ok (t::u) Y)).bind λ w Y=>(aG (nj a w Y) Y).bind λ x Y=>.ok x Y).bind λ y Y=>if y then .ok y Y else((((((aq "folder" Y).bind λ z Y=>((aq "back" Y).bind λ A Y=>(ak.ok [] Y).bind λ B Y=>.ok (A::B) Y).bind λ C Y=>.ok (z::C) Y).bind λ D Y=>cl 242 D Y).bind λ E Y=>(ak.ok [] Y).bind λ F Y=>.ok (E::F) Y).bind λ G Y=>cl 263 G Y).bind λ H Y=>(aq "found" Y).bind λ I Y=>(aG (nj H I Y) Y).bind λ J Y=>.ok J Y).bind λ K Y=>if K then .ok K Y else .ok false Y).bind λ L Y=>if L then KR cl k Y else .ok .next Y
def CT:cN:=λ cl k Y=>(ak.ok (.bool false) Y).bind λ a Y=>.ok (.ret a) Y
def KY:cN:=λ cl k Y=>aj (CT cl k Y) λ Y=>.ok .next Y
def gb:cN:=λ cl k Y=>((((((aq "holder" Y).bind λ a Y=>((aq "found" Y).bind λ b Y=>(ak.ok [] Y).bind λ c Y=>.ok (b::c) Y).bind λ d Y=>.ok (a::d) Y).bind λ e Y=>Y.new (.list e)).bind λ f Y=>(ak.ok [] Y).bind λ g Y=>.ok (f::g) Y).bind λ h Y=>cl 283 h Y).bind λ i Y=>((((aq "own" Y).bind λ j Y=>(ak.ok .none Y).bind λ l Y=>(((aq "own" Y).bind λ m Y=>((aq "goal" Y).bind λ n Y=>(ak.ok [] Y).bind λ o Y=>.ok (n::o) Y).bind λ p Y=>.ok (m::p) Y).bind λ q Y=>cl 325 q Y).bind λ r Y=>bC j l r Y).bind λ s Y=>(ak.ok [] Y).bind λ t Y=>.ok (s::t) Y).bind λ u Y=>cl 304 u Y).bind λ w Y=>(aG (nj i w Y) Y).bind λ x Y=>.ok x Y).bind λ y Y=>if y then KY cl k Y else .ok .next Y
def rN:cN:=λ cl k Y=>((aq "sorter" Y).bind (aV cl true "add" λ Y=>(aq "holder" Y).bind λ a Y=>((aq "found" Y).bind λ b Y=>(ak.ok [] Y).bind λ c Y=>.ok (b::c) Y).bind λ d Y=>.ok (a::d) Y)).bind λ _ Y=>.ok .next Y
def dR:cN:=λ cl k Y=>aj (rN cl k Y) λ Y=>.ok .next Y
def eU:cN:=λ cl k Y=>(((((aq "number" Y).bind λ a Y=>(ak.ok (.int 0) Y).bind λ b Y=>(aG (rR .Lt a b Y) Y).bind λ c Y=>.ok c Y).bind λ d Y=>if d then .ok (.int 2) Y else .ok (.int 1) Y).bind λ e Y=>(ak.ok [] Y).bind λ f Y=>.ok (e::f) Y).bind λ g Y=>vK g Y).bind (fC (λ v Y=>dR cl k (aF "turn" v Y)) (λ Y=>.ok .next Y))
def j5:cN:=λ cl k Y=>(((mF (k+0) Y).bind λ a Y=>(aq "holder" Y).bind λ b Y=>dz (cM a b Y) Y).bind (aV cl true "append" λ Y=>(aq "found" Y).bind λ c Y=>(ak.ok [] Y).bind λ d Y=>.ok (c::d) Y)).bind λ _ Y=>.ok .next Y
def rO:cN:=λ cl k Y=>((ak.ok [] Y).bind λ a Y=>Y.new (.list a)).bind λ b Y=>(((mF (k+0) Y).bind λ c Y=>(aq "found" Y).bind λ d Y=>(iV c d b Y).bind λ _ Y=>.ok () Y).bind λ _ Y=>.ok () Y).bind λ _ Y=>.ok .next Y
def yj:cN:=λ cl k Y=>aj (rO cl k Y) λ Y=>.ok .next Y
def iI:cN:=λ cl k Y=>((aq "found" Y).bind λ a Y=>(mF (k+0) Y).bind λ b Y=>(aG (RG a b Y) Y).bind λ c Y=>.ok c Y).bind λ d Y=>if d then yj cl k Y else .ok .next Y
def uM:cN:=λ cl k Y=>aj (mL cl k Y) λ Y=>aj (mO cl k Y) λ Y=>aj (mQ cl k Y) λ Y=>aj (mR cl k Y) λ Y=>aj (mU cl k Y) λ Y=>aj (qL cl k Y) λ Y=>aj (mV cl k Y) λ Y=>aj (mW cl k Y) λ Y=>aj (iB cl k Y) λ Y=>aj (iC cl k Y) λ Y=>aj (iD cl k Y) λ Y=>aj (iG cl k Y) λ Y=>aj (iH cl k Y) λ Y=>aj (fX cl k Y) λ Y=>aj (eO cl k Y) λ Y=>aj (fY cl k Y) λ Y=>aj (fZ cl k Y) λ Y=>aj (f9 cl k Y) λ Y=>aj (gb cl k Y) λ Y=>aj (eU cl k Y) λ Y=>aj (j5 cl k Y) λ Y=>aj (iI cl k Y) λ Y=>.ok .next Y
def PJ:cN:=λ cl k Y=>(((aq "script" Y).bind λ a Y=>(ak.ok .none Y).bind λ b Y=>(ak.ok (.int 10) Y).bind λ c Y=>bC a b c Y).bind λ d Y=>(((ak.ok (.int 49) Y).bind λ e Y=>((ak.ok (.int 1254) Y).bind λ f Y=>((ak.ok (.int 365729) Y).bind λ g Y=>(ak.ok [] Y).bind λ h Y=>.ok (g::h) Y).bind λ i Y=>.ok (f::i) Y).bind λ j Y=>.ok (e::j) Y).bind λ l Y=>Y.new (.list l)).bind λ m Y=>jE d m Y).bind (fC (λ v Y=>uM cl k (aF "number" v Y)) (λ Y=>.ok .next Y))
def PK:cN:=λ cl k Y=>(ak.ok (.bool false) Y).bind λ a Y=>.ok .next (aF "ringed" a Y)
def wY:cN:=λ cl k Y=>((aq "sorter" Y).bind (aV cl true "prepare" λ Y=>.ok [] Y)).bind λ _ Y=>.ok .next Y
def uN:cN:=λ cl k Y=>aj (wY cl k Y) λ Y=>.ok .next Y
def UL:cN:=λ cl k Y=>(ak.ok (.bool true) Y).bind λ a Y=>.ok .next (aF "ringed" a Y)
def acA:cN:=λ cl k Y=>aj (UL cl k Y) λ Y=>.ok .next Y
def Bj:cN:=λ cl k Y=>uo (uN cl k) (λ Y=>.ok .next Y) (λ e Y=>if("CycleError"==dw e&&true)then(acA cl k Y).bindN λ f Y=>.ok f Y else .bad) Y
def Ie:cN:=λ cl k Y=>(((mF (k+0) Y).bind λ a Y=>(ak.ok [] Y).bind λ b Y=>.ok (a::b) Y).bind λ c Y=>nu c Y).bind λ d Y=>.ok .next (aF "left" d Y)
def Ig:cN:=λ cl k Y=>((ak.ok [] Y).bind λ a Y=>Y.new (.list a)).bind λ b Y=>((Cd (k+1) b Y).bind λ _ Y=>.ok () Y).bind λ _ Y=>.ok .next Y
def qM:SCk:=λ cl k Y=>((aq "one" Y).bind λ a Y=>(mF (k+1) Y).bind λ b Y=>(aG (RG a b Y) Y).bind λ c Y=>.ok c Y).bind λ d Y=>if !d then .ok d Y else .ok true Y
def wZ:SVk:=λ cl k Y=>aq "one" Y
def qN:SCk:=λ cl k Y=>((((mF (k+0) Y).bind λ a Y=>(aq "node" Y).bind λ b Y=>dz (cM a b Y) Y).bind (eF true "one" (qM cl k) (wZ cl k))).bind λ c Y=>((ak.ok [] Y).bind λ d Y=>Y.new (.list d)).bind λ e Y=>(aG (yw c e Y) Y).bind λ f Y=>.ok f Y).bind λ g Y=>if !g then .ok g Y else .ok true Y
def w5:SVk:=λ cl k Y=>aq "node" Y
def qO:cN:=λ cl k Y=>((aq "left" Y).bind (eF true "node" (qN cl k) (w5 cl k))).bind λ a Y=>((Cd (k+2) a Y).bind λ _ Y=>.ok () Y).bind λ _ Y=>.ok .next Y
def Ih:cN:=λ cl k Y=>(ak.ok (.bool false) Y).bind λ a Y=>.ok (.ret a) Y
def PL:cN:=λ cl k Y=>aj (Ih cl k Y) λ Y=>.ok .next Y
def qP:cN:=λ cl k Y=>(((aq "sorter" Y).bind (aV cl true "is_active" λ Y=>.ok [] Y)).bind λ a Y=>((mF (k+2) Y).bind λ b Y=>((ak.ok [] Y).bind λ c Y=>Y.new (.list c)).bind λ d Y=>(aG (nj b d Y) Y).bind λ e Y=>.ok (V.bool e) Y).bind λ f Y=>(aG (rR .IsNot a f Y) Y).bind λ g Y=>.ok g Y).bind λ h Y=>if h then PL cl k Y else .ok .next Y
def qQ:cN:=λ cl k Y=>((aq "sorter" Y).bind (aV cl true "get_ready" λ Y=>.ok [] Y)).bind λ a Y=>.ok .next (aF "given" a Y)
def Ii:cN:=λ cl k Y=>(ak.ok (.bool false) Y).bind λ a Y=>.ok (.ret a) Y
def PN:cN:=λ cl k Y=>aj (Ii cl k Y) λ Y=>.ok .next Y
def qR:cN:=λ cl k Y=>((((aq "given" Y).bind λ a Y=>(ak.ok [] Y).bind λ b Y=>.ok (a::b) Y).bind λ c Y=>nu c Y).bind λ d Y=>(mF (k+2) Y).bind λ e Y=>(aG (nj d e Y) Y).bind λ f Y=>.ok f Y).bind λ g Y=>if g then PN cl k Y else .ok .next Y
def uO:cN:=λ cl k Y=>((aq "ringed" Y).bind λ a Y=>((aq "left" Y).bind λ b Y=>((ak.ok [] Y).bind λ c Y=>Y.new (.list c)).bind λ d Y=>(aG (nj b d Y) Y).bind λ e Y=>.ok (V.bool e) Y).bind λ f Y=>(aG (Mg a f) Y).bind λ g Y=>.ok (V.bool g) Y).bind λ h Y=>.ok (.ret h) Y
def Bk:cN:=λ cl k Y=>aj (uO cl k Y) λ Y=>.ok .next Y
def mX:cN:=λ cl k Y=>((mF (k+2) Y).bind λ a Y=>((ak.ok [] Y).bind λ b Y=>Y.new (.list b)).bind λ c Y=>(aG (yw a c Y) Y).bind λ d Y=>.ok d Y).bind λ e Y=>if e then Bk cl k Y else .ok .next Y
def yK:cN:=λ cl k Y=>(ak.ok (.bool false) Y).bind λ a Y=>.ok (.ret a) Y
def CV:cN:=λ cl k Y=>aj (yK cl k Y) λ Y=>.ok .next Y
def uP:cN:=λ cl k Y=>((((aq "sorter" Y).bind (aV cl true "is_active" λ Y=>.ok [] Y)).bind λ a Y=>aG (aO a Y) Y).bind λ b Y=>.ok (!b) Y).bind λ c Y=>if c then CV cl k Y else .ok .next Y
def uQ:cN:=λ cl k Y=>((aq "sorter" Y).bind (aV cl true "done" λ Y=>(aq "node" Y).bind λ a Y=>(ak.ok [] Y).bind λ b Y=>.ok (a::b) Y)).bind λ _ Y=>.ok .next Y
def sZ:cN:=λ cl k Y=>aj (uP cl k Y) λ Y=>aj (uQ cl k Y) λ Y=>.ok .next Y
def w6:cN:=λ cl k Y=>(aq "given" Y).bind (fC (λ v Y=>sZ cl k (aF "node" v Y)) (λ Y=>.ok .next Y))
def w7:cN:=λ cl k Y=>((mF (k+1) Y).bind λ a Y=>(mF (k+2) Y).bind λ b Y=>jE a b Y).bind λ c Y=>((Cd (k+1) c Y).bind λ _ Y=>.ok () Y).bind λ _ Y=>.ok .next Y
def qT:SCk:=λ cl k Y=>((aq "node" Y).bind λ a Y=>(mF (k+2) Y).bind λ b Y=>(aG (RG a b Y) Y).bind λ c Y=>.ok c Y).bind λ d Y=>if !d then .ok d Y else .ok true Y
def xg:SVk:=λ cl k Y=>aq "node" Y
def xj:cN:=λ cl k Y=>((aq "left" Y).bind (eF true "node" (qT cl k) (xg cl k))).bind λ a Y=>.ok .next (aF "left" a Y)
def Ij:cN:=λ cl k Y=>aj (qO cl k Y) λ Y=>aj (qP cl k Y) λ Y=>aj (qQ cl k Y) λ Y=>aj (qR cl k Y) λ Y=>aj (mX cl k Y) λ Y=>aj (w6 cl k Y) λ Y=>aj (w7 cl k Y) λ Y=>aj (xj cl k Y) λ Y=>.ok .next Y
def Ik:cN:=λ cl k Y=>if(true:Bool)then gG (λ Y=>(ak.ok (.bool true) Y).bind λ a Y=>aG (aO a Y) Y) (Ij cl k) (λ Y=>.ok .next Y) wf Y else .bad
def ahg:cN:=λ cl k Y=>aj (Pz cl k Y) λ Y=>aj (PB cl k Y) λ Y=>aj (Ib cl k Y) λ Y=>aj (PJ cl k Y) λ Y=>aj (PK cl k Y) λ Y=>aj (Bj cl k Y) λ Y=>aj (Ie cl k Y) λ Y=>aj (Ig cl k Y) λ Y=>aj (Ik cl k Y) λ Y=>.ok .next Y
theorem aaE:aK (cG cl 60) (sU 330) (enC 330 k) Y=ahg cl k Y:=by kernel_rfl
end
theorem bO(L)(S:List O)(o:O):St.new ⟨L,S⟩ o=.ok (.ref S.length) ⟨L,S++[o]⟩:=rfl
theorem PX(L)(S:List O):Mh [.bi .str,.ref S.length] ⟨L,S++[.tup [.bi .str,.bi .bytes]]⟩=.ok (.bool true) ⟨L,S++[.tup [.bi .str,.bi .bytes]]⟩:=if_pos ⟨rfl,gM⟩
theorem bx(b:Bool)(Y:St):aO (.bool b) Y=some b:=rfl
theorem aA(b:Bool)(Y:St):aG (some b) Y=.ok b Y:=rfl
theorem ob{o:Option Bool}{b:Bool}{Y:St}(h:o=some b):aG o Y=.ok b Y:=by rw[h];rfl
theorem oo{o:Option V}{b:V}{Y:St}(h:o=some b):dz o Y=.ok b Y:=by rw[h];rfl
theorem aaF(x:Str)(Y:St):Wd [.str x] Y=.ok (.bi .str) Y:=rfl
noncomputable abbrev bk:List O:=[.tup [.bi .str,.bi .bytes]]
theorem cH(d:Nat)(x:Str)(l)(S:List O):ao (d+1) 214 [.str x] ⟨l,S⟩=.ok (.str x) ⟨l,S++bk⟩:=by
 rw[bW (L:=p6 (some (.str x)) none none none) (S₁:=S) (by kernel_rfl),YF];simp only[agK,YC,YD,Q5,DX,aeD,aeE,aeF,ak.bind_ok,aB,bH,aaF,bO,PX,bx,aA,if_true,dg]
theorem yo(d:Nat)(x:Str)(l)(S:List O):ao (d+1) 235 [.str x] ⟨l,S⟩=.ok (.str aC) ⟨l,S⟩:=by
 rw[bW (L:=Ys (some (.str x))) (S₁:=S) (by kernel_rfl),YG];rfl
end Mine
namespace Mine
open PySem PySem.Builtin.Str
abbrev tx(x:Str):List Nat:=x.cps.toList
theorem ji{x y:Str}(h:tx x=tx y):x=y:=Str.ext' (Array.toList_inj.mp h)
theorem qU(x y:Str):tx (x++y)=tx x++tx y:=by simp[tx,Str.cps_append]
theorem cL(x:Str):x.length=(tx x).length:=by simp[tx,Str.length]
theorem KZ:aC=⟨#[47]⟩:=by decide+kernel
theorem Bl:tx aC=[47]:=by rw[KZ]
def Ok(c:Str):Prop:=47∉tx c
theorem Qa(c d:Str)(r:List Str):Str.join aC (c::d::r)=c++aC++Str.join aC (d::r):=rfl
theorem jb(c d:Str)(r:List Str):tx (Str.join aC (c::d::r))=tx c++47::tx (Str.join aC (d::r)):=by
 rw[Qa,qU,qU,Bl];simp
theorem uR(c:Str):Str.join aC [c]=c:=rfl
theorem K1:∀{a b:List Nat}{x y:List Nat},47∉a->47∉b->a++47::x=b++47::y->a=b/\x=y:=by
 intro a;induction a with
 |nil=>
  intro b x y _ hb h;rcases b with _|⟨c,b⟩
  ·exact⟨rfl,(List.cons.inj h).2⟩
  ·exact absurd ((List.cons.inj h).1▸List.mem_cons_self) hb
 |cons c a ih=>
  intro b x y ha hb h;rcases b with _|⟨d,b⟩
  ·exact absurd ((List.cons.inj h).1▸List.mem_cons_self) ha
  ·obtain⟨h1,h2⟩:=ih (λ q=>ha (List.mem_cons_of_mem _ q)) (λ q=>hb (List.mem_cons_of_mem _ q)) (List.cons.inj h).2;exact⟨by rw[(List.cons.inj h).1,h1],h2⟩
theorem aaG:∀{a b:List Str},a≠[]->b≠[]->(∀c∈a,Ok c)->(∀c∈b,Ok c)->Str.join aC a=Str.join aC b->a=b:=by
 intro a;induction a with
 |nil=>exact λ h=>absurd rfl h
 |cons c r ih=>
  intro b _ h0 ha hb h;have h:=congrArg tx h;rcases b with _|⟨d,t⟩
  ·exact absurd rfl h0
  have ha1:=ha c List.mem_cons_self;have hb1:=hb d List.mem_cons_self;rcases r with _|⟨e,r⟩<;>rcases t with _|⟨f,t⟩
  ·rw[uR,uR]at h;rw[ji h]
  ·rw[uR,jb]at h;exact absurd (by rw[h];simp) ha1
  ·rw[uR,jb]at h;exact absurd (by rw[<-h];simp) hb1
  ·rw[jb,jb]at h;obtain⟨h1,h2⟩:=K1 ha1 hb1 h;rw[ji h1,ih (b:=f::t) (List.cons_ne_nil _ _) (List.cons_ne_nil _ _) (λ x q=>ha x (List.mem_cons_of_mem _ q)) (λ x q=>hb x (List.mem_cons_of_mem _ q)) (ji h2)]
theorem aaH(x:Str):Txt.split x aC≠[]:=by
 intro q;unfold Txt.split at q;split at q
 ·contradiction
 ·split at q
  ·contradiction
  ·rw[StrLaws.partsBetween_eq]at q;obtain⟨p,r,e⟩:=StrLaws.partsFrom_ne x aC.length 0 (occurrences x aC 0 x.length (x.length+1));rw[e]at q;contradiction
theorem eV{cs:List Str}(hn:cs≠[])(ho:∀c∈cs,Ok c):Txt.split (Str.join aC cs) aC=cs:=
 aaG (aaH _) hn (λ c hc=>by rw[KZ]at hc;exact StrLaws.split_free _ _ c hc) ho (StrLaws.join_split _ _)
theorem aaI:∀{a b:List Str},a≠[]->b≠[]->Str.join aC (a++b)=Str.join aC a++aC++Str.join aC b:=by
 intro a;induction a with
 |nil=>exact λ h=>absurd rfl h
 |cons c r ih=>
  intro b _ hb;rcases r with _|⟨e,r⟩
  ·rcases b with _|⟨d,r⟩
   ·exact absurd rfl hb
   ·rfl
  show c++aC++Str.join aC ((e::r)++b)=c++aC++Str.join aC (e::r)++aC++Str.join aC b;rw[ih (List.cons_ne_nil _ _) hb];simp only[Str.append_assoc]
theorem oJ(x:Str):Txt.startswith x aC=((tx x).head? ==some 47):=by
 unfold Txt.startswith;rw[StrLaws.subAt_eq];show(decide (0+1<=x.length)&&((x.cps.toList.drop 0).take 1==[47]))=(x.cps.toList.head? ==some 47);have h:x.length=x.cps.toList.length:=cL x;rw[h];generalize x.cps.toList=l;induction l with
 |nil=>rfl
 |cons a r=>simp
theorem Qc(x:Str):Txt.endswith x aC=((tx x).getLast? ==some 47):=by
 unfold Txt.endswith;rw[StrLaws.subAt_eq];show(decide (0+1<=x.length)&&((x.cps.toList.drop (x.length - 1)).take 1==[47]))=(x.cps.toList.getLast? ==some 47);have h:x.length=x.cps.toList.length:=cL x;rw[h];generalize x.cps.toList=l;rw[List.getLast?_eq_getElem?];induction l with
 |nil=>rfl
 |cons a r=>
  have:(a::r)[(a::r).length - 1]?=some ((a::r)[(a::r).length - 1]'(by simp)):=List.getElem?_eq_getElem (by simp);rw[this];have e:(List.drop ((a::r).length - 1) (a::r)).take 1=[(a::r)[(a::r).length - 1]'(by simp)]:=by
   rw[List.drop_eq_getElem_cons (by simp)];rfl
  simp only[e];simp
theorem Fi(a b n:Nat):strSliceIndices (some (a:Int)) (some (b:Int)) 1 n=strSliceIndices (some ((min a n:Nat):Int)) (some ((min b n:Nat):Int)) 1 n:=by
 have h1:¬ ((a:Int) < 0):=by lia
 have h2:¬ ((b:Int) < 0):=by lia
 have h3:¬ (((min a n:Nat):Int) < 0):=by lia
 have h4:¬ (((min b n:Nat):Int) < 0):=by lia
 simp only[strSliceIndices,h1,h2,h3,h4,if_false,(by lia:max (0:Int) (min (a:Int) (n:Int))=max 0 (min ((min a n:Nat):Int) (n:Int))),(by lia:max (0:Int) (min (b:Int) (n:Int))=max 0 (min ((min b n:Nat):Int) (n:Int))),show((1:Int) > 0)=True from by simp,if_true]
theorem uT(x:Str){a b:Nat}(hab:a<=b):tx (Txt.slice x (some (a:Int)) (some (b:Int)))=((tx x).drop a).take (b - a):=by
 have e:Txt.slice x (some (a:Int)) (some (b:Int))=StrLaws.sliceText x (some ((min a x.length:Nat):Int)) (some ((min b x.length:Nat):Int)):=by
  unfold Txt.slice StrLaws.sliceText;rw[Fi]
 rw[e,StrLaws.sliceText_nat x (by lia) (by lia)];show(((tx x).drop _).take _).toArray.toList=_;rw[(cL x)];generalize tx x=l;by_cases ha:a<=l.length
 ·rw[Nat.min_eq_left ha];by_cases hb:b<=l.length
  ·rw[Nat.min_eq_left hb]
  ·rw[Nat.min_eq_right (by lia),List.take_of_length_le (by simp),List.take_of_length_le (by simp;lia)]
 ·rw[List.drop_eq_nil_of_le (i:=min a l.length) (by lia),List.drop_eq_nil_of_le (i:=a) (by lia)];simp
theorem adS(x:Str)(b:Nat):tx (Txt.slice x none (some (b:Int)))=(tx x).take b:=by
 have e:Txt.slice x none (some (b:Int))=Txt.slice x (some ((0:Nat):Int)) (some (b:Int)):=by
  unfold Txt.slice;rw[StrLaws.sliceIdx_none_lo];rfl
 rw[e,uT x (Nat.zero_le b)];simp
theorem acB(x:Str)(a:Nat):tx (Txt.slice x (some (a:Int)) none)=(tx x).drop a:=by
 have e:Txt.slice x (some (a:Int)) none=Txt.slice x (some (a:Int)) (some (x.length:Int)):=by
  unfold Txt.slice;rw[StrLaws.sliceIdx_none_hi]
 rw[e];by_cases ha:a<=x.length
 ·rw[uT x ha,List.take_of_length_le (by rw[List.length_drop];exact Nat.le_refl _)]
 ·have e2:Txt.slice x (some (a:Int)) (some (x.length:Int))=Txt.slice x (some (x.length:Int)) (some (x.length:Int)):=by
   unfold Txt.slice;rw[Fi,Nat.min_eq_right (by lia),Nat.min_eq_right (Nat.le_refl _)]
  rw[e2,uT x (Nat.le_refl _),List.drop_eq_nil_of_le (by rw[<-cL x];exact Nat.le_refl _),List.drop_eq_nil_of_le (by rw[<-cL x];lia)];simp
end Mine
namespace Mine
open PySem
theorem jA{b:Nat}(hb:b<=1000000):jF (.int b)=some (some (b:Int)):=if_pos ⟨by lia,by lia⟩
theorem aaJ(x:Str)(b:Nat)(hb:b<=1000000)(hx:small x.length=true)(Y:St):bC (.str x) .none (.int b) Y=.ok (.str (Txt.slice x none (some (b:Int)))) Y:=by
 unfold bC;rw[jA hb];exact if_pos hx
theorem Qd(x:Str)(a:Nat)(ha:a<=1000000)(hx:small x.length=true)(Y:St):bC (.str x) (.int a) .none Y=.ok (.str (Txt.slice x (some (a:Int)) none)) Y:=by
 unfold bC;rw[jA ha];exact if_pos hx
theorem aaK(x:Str)(a b:Nat)(ha:a<=1000000)(hb:b<=1000000)(hx:small x.length=true)(Y:St):bC (.str x) (.int a) (.int b) Y=.ok (.str (Txt.slice x (some (a:Int)) (some (b:Int)))) Y:=by
 unfold bC;rw[jA ha,jA hb];exact if_pos hx
theorem gQ(x:Str)(Y:St):gF [.str x,.bi .bytes] Y=.ok (.bool false) Y:=rfl
theorem eq_str(x y:Str)(Y:St):yw (.str x) (.str y) Y=some (x==y):=rfl
theorem ne_str(x y:Str)(Y:St):nj (.str x) (.str y) Y=some (x != y):=rfl
theorem K3{x y:Str}(h:tx x≠tx y):(x != y)=true:=by rw[bne_iff_ne];exact λ q=>h (congrArg tx q)
theorem aaL{x y:Str}(h:tx x=tx y):(x != y)=false:=by rw[ji h];exact bne_self_eq_false _
theorem Bm(d:Nat)(x:Str)(l)(S:List O)(hx:small x.length=true)(h2:(tx x).head? =some 47->((tx x).drop 1).head?≠some 47):
  ao (d+2) 249 [.str x] ⟨l,S⟩=.ok (.ref (S.length+1)) ⟨l,S++(bk++[.tup (if(tx x).head? =some 47 then [.str "",.str aC,.str (Txt.slice x (some ((1:Nat):Int)) none)]else [.str "",.str "",.str x])])⟩:=by
 rw[bW (L:=wA (some (.str x)) none none) (S₁:=S) (by kernel_rfl),YW];have hs1:∀(L) (S:List O),bC (.str x) .none (.int 1) ⟨L,S⟩=_:=λ L S=>aaJ x 1 (by lia) hx ⟨L,S⟩
 have hs2:∀(L) (S:List O),bC (.str x) (.int 1) .none ⟨L,S⟩=_:=λ L S=>Qd x 1 (by lia) hx ⟨L,S⟩
 have hs3:∀(L) (S:List O),bC (.str x) (.int 1) (.int 2) ⟨L,S⟩=_:=λ L S=>aaK x 1 2 (by lia) (by simp) hx ⟨L,S⟩
 simp only[agM,YQ,YS,Q7,DY,Ea,YT,Ob,Oc,Od,aeK,aeL,aeM,ak.bind_ok,aB,cH,gQ,bx,aA,if_false,Bool.false_eq_true,hs1,ne_str];by_cases h1:(tx x).head? =some 47
 ·have e1:(Txt.slice x none (some ((1:Nat):Int)) != ("/":Str))=false:=aaL (by
   rw[adS];induction hx':tx x with
   |nil=>rw[hx']at h1;contradiction
   |cons a r=>rw[hx']at h1;cases h1;exact Bl.symm)
  have e2:(Txt.slice x (some ((1:Nat):Int)) (some ((2:Nat):Int)) != ("/":Str))=true:=K3 (by
   rw[uT x (by simp)];have h2:=h2 h1;generalize(tx x).drop 1=t at h2;intro q;have q:t.take 1=[47]:=q;induction t with
   |nil=>contradiction
   |cons a r=>simp at q;subst q;exact h2 rfl)
  simp only[e1,Q9,Ec,Ax,uq,Ob,Oc,Od,ak.bind_ok,hs3,ne_str,aA,e2,if_true,hs2,bO,bH,dg,h1];simp;rfl
 ·have e1:(Txt.slice x none (some ((1:Nat):Int)) != ("/":Str))=true:=K3 (by
   rw[adS];intro q;have q:(tx x).take 1=[47]:=q;induction hx':tx x with
   |nil=>rw[hx']at q;contradiction
   |cons a r=>rw[hx']at q h1;simp at q;subst q;exact h1 rfl)
  simp only[e1,if_true,Q8,Eb,Ob,Oc,Od,ak.bind_ok,bO,bH,dg,h1,if_false];simp
section
variable {cl:Nat->List V->St->ak V}{live:Bool}{args:St->ak (List V)}
theorem j6{name:Str}{m:Me}{x:Str}(h:zu.lookup name=some m)(Y:St):aV cl live name args (.str x) Y=(args Y).bind λ vs Y=>cD m (.str x) vs Y:=by
 unfold aV;rw[show iM (.str x) name Y=some (.bi m)by unfold iM;rw[h];rfl]
theorem xq{name:Str}{m:Me}{n:Nat}{xs:List V}{L}{S:List O}(h:vI.lookup name=some m)(e:S[n]?=some (.list xs)):aV cl live name args (.ref n) ⟨L,S⟩=(args ⟨L,S⟩).bind λ vs Y=>cD m (.ref n) vs Y:=by
 unfold aV;rw[show iM (.ref n) name ⟨L,S⟩=some (.bi m)from(bB e).trans (congrArg (Option.map nq.bi) h)]
end
section
variable {cl:Nat->List V->St->ak V}{live:Bool}{args:St->ak (List V)}{n:Nat}{xs:List V}{L:List (Str×Option V)}{S:List O}
theorem dU(e:S[n]?=some (.list xs)):aV cl live ("append":Str) args (.ref n) ⟨L,S⟩=(args ⟨L,S⟩).bind λ vs Y=>cD .append (.ref n) vs Y:=xq (by kernel_rfl) e
theorem Bo(e:S[n]?=some (.list xs)):aV cl live ("pop":Str) args (.ref n) ⟨L,S⟩=(args ⟨L,S⟩).bind λ vs Y=>cD .pop (.ref n) vs Y:=xq (by kernel_rfl) e
theorem Qe(e:S[n]?=some (.list xs)):aV cl live ("clear":Str) args (.ref n) ⟨L,S⟩=(args ⟨L,S⟩).bind λ vs Y=>cD .clear (.ref n) vs Y:=xq (by kernel_rfl) e
theorem tu(x:Str)(Y:St):aV cl live ("split":Str) args (.str x) Y=(args Y).bind λ vs Y=>cD .split (.str x) vs Y:=j6 (by kernel_rfl) Y
theorem gk(x:Str)(Y:St):aV cl live ("join":Str) args (.str x) Y=(args Y).bind λ vs Y=>cD .join (.str x) vs Y:=j6 (by kernel_rfl) Y
theorem gm(x:Str)(Y:St):aV cl live ("startswith":Str) args (.str x) Y=(args Y).bind λ vs Y=>cD .startswith (.str x) vs Y:=j6 (by kernel_rfl) Y
theorem Fj(x:Str)(Y:St):aV cl live ("endswith":Str) args (.str x) Y=(args Y).bind λ vs Y=>cD .endswith (.str x) vs Y:=j6 (by kernel_rfl) Y
theorem Qf(x:Str)(Y:St):aV cl live ("rfind":Str) args (.str x) Y=(args Y).bind λ vs Y=>cD .rfind (.str x) vs Y:=j6 (by kernel_rfl) Y
theorem K4(x:Str)(Y:St):aV cl live ("rstrip":Str) args (.str x) Y=(args Y).bind λ vs Y=>cD .rstrip (.str x) vs Y:=j6 (by kernel_rfl) Y
theorem yp(x:Str)(Y:St):aV cl live ("lstrip":Str) args (.str x) Y=(args Y).bind λ vs Y=>cD .lstrip (.str x) vs Y:=j6 (by kernel_rfl) Y
end
theorem Bp{x:Str}(hx:small x.length=true)(Y:St):cD .split (.str x) [.str aC] Y=Y.new (.list ((Txt.split x aC).map .str)):=if_pos (by rw[hx];rfl)
section
variable {L:List (Str×Option V)}{S:List O}{n:Nat}{xs:List V}
theorem gq(e:S[n]?=some (.list xs))(hs:small xs.length=true)(hk:8<=n)(v:V):cD .append (.ref n) [v] ⟨L,S⟩=.ok .none ⟨L,S.set n (.list (xs++[v]))⟩:=(cA e).trans ((if_pos (decide_eq_true ⟨rfl,hs⟩)).trans (if_pos hk))
theorem Qg(e:S[n]?=some (.list xs))(hs:small xs.length=true)(hk:8<=n){v:V}(hl:xs.getLast? =some v):cD .pop (.ref n) [] ⟨L,S⟩=.ok v ⟨L,S.set n (.list xs.dropLast)⟩:=(cA e).trans ((if_pos hs).trans ((cA hl).trans (if_pos hk)))
theorem j7(e:S[n]?=some (.list xs))(hs:small xs.length=true):aO (.ref n) ⟨L,S⟩=some (!xs.isEmpty):=(bB e).trans (if_pos hs)
theorem za{i n:Nat}(h:i < n)(hn:small n=true):rB (i:Int) n=some i:=by
 have hn:n<=100000:=of_decide_eq_true hn;unfold rB;rw[if_neg (by lia),StrLaws.seqIndex_nonneg (by simp) (by lia)];rfl
theorem aaM{n:Nat}(h:0 < n)(hn:small n=true):rB (-1) n=some (n - 1):=by
 unfold rB;rw[if_neg (by simp),StrLaws.seqIndex_neg (by simp) (by lia)];congr 1;lia
theorem qW(e:S[n]?=some (.list xs))(hs:small xs.length=true){i:Int}{j:Nat}(hi:rB i xs.length=some j){v:V}(hv:xs[j]?=some v):cM (.ref n) (.int i) ⟨L,S⟩=some v:=(bB e).trans ((if_pos hs).trans ((bB hi).trans hv))
theorem xr(e:S[n]?=some (.list xs))(hs:small xs.length=true){v:V}(hv:xs.getLast? =some v):cM (.ref n) (.int (-1)) ⟨L,S⟩=some v:=by
 rw[List.getLast?_eq_getElem?]at hv;exact qW e hs (aaM (by have:=(List.getElem?_eq_some_iff.mp hv).1;lia) hs) hv
theorem bA(v:V)(Y:St):dz (some v) Y=.ok v Y:=rfl
theorem fj(x:Str)(hx:small x.length=true)(Y:St):aO (.str x) Y=some (x.length != 0):=if_pos hx
theorem qb{α:Type}:∀{l:List α}{i:Nat}{a:α},l[i]?=some a->l.set i a=l:=by
 intro l;induction l with
 |nil=>exact λ h=>ns h
 |cons b l ih=>
  intro i a h;rcases i with _|i
  ·cases h;rfl
  ·exact congrArg (b::·) (ih h)
end
noncomputable def dd:Str:=".."
noncomputable def cI:Str:="."
noncomputable def mt:Str:=""
noncomputable def cT(abs:Bool)(acc:List Str)(c:Str):List Str:=if c=mt\/c=cI then acc else if c≠dd\/(abs=false/\acc=[])\/acc.getLast? =some dd then acc++[c]else acc.dropLast
theorem gR{c:Str}:(c.length != 0)=!decide (c=mt):=by
 by_cases hc:c=mt
 ·subst hc;decide+kernel
 ·rw[decide_eq_false hc,(cL c)];induction q:tx c with
  |nil=>exact absurd (ji (q.trans (by decide+kernel:tx mt=[]).symm)) hc
  |cons a r=>simp
theorem uU(x y:Str):(x==y)=decide (x=y):=by
 by_cases h:x=y
 ·subst h;simp
 ·rw[decide_eq_false h];simpa using h
theorem jr(x y:Str):(x != y)=!decide (x=y):=by rw[bne,uU]
theorem ajg{cl:Nat->List V->St->ak V}{o0 o1 o3 o4 o5 o6 o7:Option V}{c:Str}{S:List O}{b1 b2:Bool}(tc:∀Y,aO (.str c) Y=some b1)(ec:∀Y,yw (.str c) (.str cI) Y=some b2):
  wC cl ⟨bU o0 o1 (some (.str cI)) o3 o4 o5 o6 o7 (some (.str c)),S⟩=.ok (if(!b1||b2)then .cont else .next) ⟨bU o0 o1 (some (.str cI)) o3 o4 o5 o6 o7 (some (.str c)),S⟩:=by
 induction b1 with
 |false=>exact bd (bd (bd (bd rfl (ob (tc _))) rfl) rfl) rfl
 |true=>
  induction b2 with
  |false=>exact bd (bd (bd (bd rfl (ob (tc _))) rfl) (iF rfl (bd (bd rfl (bd rfl (bd (ob (ec _)) rfl))) rfl))) rfl
  |true=>exact bd (bd (bd (bd rfl (ob (tc _))) rfl) (iF rfl (bd (bd rfl (bd rfl (bd (ob (ec _)) rfl))) rfl))) rfl
section
variable {cl:Nat->List V->St->ak V}{o0 o1 o2 o4 o6:Option V}{init:Str}{n:Nat}{c:Str}{acc:List Str}{S S':List O}
 (nc:∀Y,nj (.str c) (.str dd) Y=some false) {bi:Bool}(ti:∀Y,aO (.str init) Y=some bi) {bn:Bool}(tn:∀L,aO (.ref n) ⟨L,S⟩=some bn)
include nc ti tn
theorem afT{b3:Bool}(h3:bn=true->∃v,(∀L,cM (.ref n) (.int (-1)) ⟨L,S⟩=some v)/\∀Y,yw v (.str dd) Y=some b3){x:ak Fl}
  (hx:(if((!bi&&!bn)||(bn&&b3))then nW cl ⟨bU o0 o1 o2 (some (.str dd)) o4 (some (.str init)) o6 (some (.ref n)) (some (.str c)),S⟩else Ay cl ⟨bU o0 o1 o2 (some (.str dd)) o4 (some (.str init)) o6 (some (.ref n)) (some (.str c)),S⟩)=x):
  wD cl ⟨bU o0 o1 o2 (some (.str dd)) o4 (some (.str init)) o6 (some (.ref n)) (some (.str c)),S⟩=x:=by
 subst hx;induction bn with
 |false=>
  induction bi with
  |false=>exact bd (bd (bd rfl (bd rfl (bd (ob (nc _)) rfl))) (iF rfl (bd (bd (bd (bd rfl (ob (ti _))) rfl) (iF rfl (bd (bd (bd rfl (ob (tn _))) rfl) rfl))) rfl))) rfl
  |true=>exact bd (bd (bd rfl (bd rfl (bd (ob (nc _)) rfl))) (iF rfl (bd (bd (bd (bd rfl (ob (ti _))) rfl) rfl) (iF rfl (bd (bd (bd rfl (ob (tn _))) rfl) rfl))))) rfl
 |true=>
  obtain⟨v,h4,h5⟩:=h3 rfl;have p2:((((aq ("new_comps":Str) ⟨bU o0 o1 o2 (some (.str dd)) o4 (some (.str init)) o6 (some (.ref n)) (some (.str c)),S⟩).bind λ v53 Y=>aG (aO v53 Y) Y).bind λ v52 Y=>if !v52 then ak.ok v52 Y else(((aq ("new_comps":Str) Y).bind λ v58 Y=>((ak.ok (.int 1) Y).bind (QH .USub)).bind λ v59 Y=>dz (cM v58 v59 Y) Y).bind λ v56 Y=>(aq ("dotdot":Str) Y).bind λ v57 Y=>(aG (yw v56 v57 Y) Y).bind λ v55 Y=>ak.ok v55 Y).bind λ v54 Y=>if !v54 then ak.ok v54 Y else ak.ok true Y):ak Bool)=.ok b3 ⟨bU o0 o1 o2 (some (.str dd)) o4 (some (.str init)) o6 (some (.ref n)) (some (.str c)),S⟩:=by
   clear h3;induction b3<;>exact bd (bd rfl (ob (tn _))) (iF rfl (bd (bd (bd rfl (bd rfl (oo (h4 _)))) (bd rfl (bd (ob (h5 _)) rfl))) rfl))
  clear h3;clear h5;induction bi with
  |false=>induction b3<;>exact bd (bd (bd rfl (bd rfl (bd (ob (nc _)) rfl))) (iF rfl (bd (bd (bd (bd rfl (ob (ti _))) rfl) (iF rfl (bd (bd (bd rfl (ob (tn _))) rfl) rfl))) (iF rfl (bd p2 rfl))))) rfl
  |true=>induction b3<;>exact bd (bd (bd rfl (bd rfl (bd (ob (nc _)) rfl))) (iF rfl (bd (bd (bd (bd rfl (ob (ti _))) rfl) rfl) (iF rfl (bd p2 rfl))))) rfl
end
theorem ahh{cl:Nat->List V->St->ak V}{o0 o1 o2 o4 o5 o6 o7:Option V}{c:Str}{S:List O}(nc:∀Y,nj (.str c) (.str dd) Y=some true):
  wD cl ⟨bU o0 o1 o2 (some (.str dd)) o4 o5 o6 o7 (some (.str c)),S⟩=nW cl ⟨bU o0 o1 o2 (some (.str dd)) o4 o5 o6 o7 (some (.str c)),S⟩:=
 bd (bd (bd rfl (bd rfl (bd (ob (nc _)) rfl))) rfl) rfl
set_option tactic.hygienic true in
theorem UW{cl:Nat->List V->St->ak V}{o0 o4 o6:Option V}{init:Str}{n:Nat}{c:Str}{acc:List Str}{S:List O}
  (e:S[n]?=some (.list (acc.map .str))) (hk:8<=n) (hs:small acc.length=true) (hc:small c.length=true) (hi:small init.length=true):
  ∃fl,(fl=.next\/fl=.cont)/\ur cl ⟨bU o0 (some (.str aC)) (some (.str cI)) (some (.str dd)) o4 (some (.str init)) o6 (some (.ref n)) (some (.str c)),S⟩=
   .ok fl ⟨bU o0 (some (.str aC)) (some (.str cI)) (some (.str dd)) o4 (some (.str init)) o6 (some (.ref n)) (some (.str c)),S.set n (.list ((cT (decide (init≠mt)) acc c).map .str))⟩:=by
 refine lU λ Zz toG=>?_
 have hs':small (acc.map V.str).length=true:=by rw[List.length_map];exact hs
 have ti:∀Y,aO (.str init) Y=some (decide (init≠mt)):=λ Y=>by rw[fj init hi,gR,decide_not]
 generalize hR:cT (decide (init≠mt)) acc c=R at toG;have tn:=λ L=>j7 (L:=L) e hs'
 have go:∀{b1 b2:Bool}{k:St->ak Fl},decide (c=mt)=b1->decide (c=cI)=b2->aj (wC cl ⟨bU o0 (some (.str aC)) (some (.str cI)) (some (.str dd)) o4 (some (.str init)) o6 (some (.ref n)) (some (.str c)),S⟩) k=aj (.ok (if(!!b1||b2)then .cont else .next) ⟨bU o0 (some (.str aC)) (some (.str cI)) (some (.str dd)) o4 (some (.str init)) o6 (some (.ref n)) (some (.str c)),S⟩) k:=λ h1 h2=>by
  rw[<-h1,<-h2];exact congrArg (λ r=>aj r _) (ajg (λ Y=>by rw[fj c hc,gR]) (λ Y=>congrArg some (uU ..)))
 have put:∀{k:St->ak Fl},aj (nW cl ⟨bU o0 (some (.str aC)) (some (.str cI)) (some (.str dd)) o4 (some (.str init)) o6 (some (.ref n)) (some (.str c)),S⟩) k=k ⟨bU o0 (some (.str aC)) (some (.str cI)) (some (.str dd)) o4 (some (.str init)) o6 (some (.ref n)) (some (.str c)),S.set n (.list ((acc++[c]).map .str))⟩:=λ{k}=>by
  rw[List.map_append];exact th (th (bd (bd rfl ((dU e).trans (bd rfl (gq e hs' hk _)))) rfl) rfl) rfl
 replace toG:=λ fl h1 h2=>toG ⟨fl,h1,h2⟩
 unfold cT at hR;by_cases h1:c=mt
 ·rw[if_pos (.inl h1)]at hR;exact toG .cont (.inr rfl) ((go (decide_eq_true h1) rfl).trans (by rw[<-hR,qb e];rfl))
 ·by_cases h2:c=cI
  ·rw[if_pos (.inr h2)]at hR;exact toG .cont (.inr rfl) ((go (decide_eq_false h1) (decide_eq_true h2)).trans (by rw[<-hR,qb e];rfl))
  ·rw[if_neg (λ q=>q.elim h1 h2)]at hR;have go:=λ k=>go (k:=k) (decide_eq_false h1) (decide_eq_false h2)
   by_cases h3:c=dd
   ·have nc:∀Y,nj (.str c) (.str dd) Y=some false:=λ Y=>(congrArg some (jr ..)).trans (by rw[decide_eq_true h3];rfl)
    induction hq:acc.getLast? with
    |none=>
     have h4:=List.getLast?_eq_none_iff.mp hq;clear hs hs' hq;subst h4;induction hb:decide (init≠mt)with
     |false=>
      rw[hb]at ti;rw[if_pos (.inr (.inl ⟨hb,rfl⟩))]at hR;rw[hR]at put;exact toG .next (.inl rfl) ((go _).trans ((congrArg (λ r=>aj r λ Y=>.ok .next Y) (afT (b3:=false) nc ti tn nofun rfl)).trans put))
     |true=>
      rw[hb]at ti;rw[if_neg (by rintro(q|q|q);exact q h3;rw[hb]at q;cases q.1;contradiction),List.dropLast_nil]at hR;refine toG .next (.inl rfl) ((go _).trans ((congrArg (λ r=>aj r λ Y=>.ok .next Y) (afT (b3:=false) nc ti tn nofun rfl)).trans ?_))
      rw[<-hR,qb e];exact th (th (bd (bd rfl (ob (tn _))) rfl) rfl) rfl
    |some z=>
     have hz':(acc.map V.str).getLast? =some (.str z):=by rw[List.getLast?_map,hq];rfl
     have hit:=λ L=>xr (L:=L) e hs' hz'
     have h4:acc≠[]:=λ q=>by rw[q]at hq;contradiction
     have te:(acc.map V.str).isEmpty=false:=by clear hs hs' hq;rw[List.isEmpty_map];induction acc with|nil=>exact absurd rfl h4|cons _ _=>rfl
     rw[te]at tn;have main:=λ x=>afT (cl:=cl) (o0:=o0) (o1:=some (.str aC)) (o2:=some (.str cI)) (o4:=o4) (o6:=o6) nc ti tn (λ _=>⟨_,hit,(λ Y=>congrArg some (uU ..))⟩) (x:=x)
     by_cases h5:z=dd
     ·rw[if_pos (.inr (.inr (by rw[hq,h5])))]at hR;rw[hR]at put;exact toG .next (.inl rfl) ((go _).trans ((congrArg (λ r=>aj r λ Y=>.ok .next Y) (main _ (iT (by rw[decide_eq_true h5];induction decide (init≠mt)<;>rfl) rfl))).trans put))
     ·rw[if_neg (by rintro(q|q|q);exact q h3;exact h4 q.2;rw[hq]at q;cases q;exact h5 rfl)]at hR;refine toG .next (.inl rfl) ((go _).trans ((congrArg (λ r=>aj r λ Y=>.ok .next Y) (main _ (iF (by rw[decide_eq_false h5];induction decide (init≠mt)<;>rfl) rfl))).trans ?_))
      rw[<-hR,List.map_dropLast];exact th (th (bd (bd rfl (ob (tn _))) (th (bd (bd rfl ((Bo e).trans (bd rfl (Qg e hs' hk hz')))) rfl) rfl)) rfl) rfl
   ·rw[if_pos (.inl h3)]at hR;rw[hR]at put;exact toG .next (.inl rfl) ((go _).trans ((congrArg (λ r=>aj r λ Y=>.ok .next Y) (ahh (λ Y=>(congrArg some (jr ..)).trans (by rw[decide_eq_false h3];rfl)))).trans put))
inductive aaN(body:V->St->ak Fl)(I:St->Prop)(v:V)(Y:St):Prop
 |mk (fl:Fl) (Y':St) (hf:fl=.next\/fl=.cont) (e:body v Y=.ok fl Y') (h:I Y')
inductive ahi(I:St->Prop)(r:ak Fl):Prop
 |mk (Y':St) (e:r=.ok .next Y') (h:I Y')
theorem fK{α:Type}{f:α->V}{ok:St->Bool}{body:V->St->ak Fl}(I:List α->St->Prop)(hok:∀r Y,I r Y->ok Y=true)
  (hb:∀v r Y,I (v::r) Y->aaN body (I r) (f v) Y) (xs:List α):∀Y,I xs Y->ahi (I []) (jk ok body (xs.map f) Y):=by
 induction xs with
 |nil=>exact λ Y h=>⟨Y,if_pos (hok _ _ h),h⟩
 |cons v r ih=>
  intro Y h;obtain⟨fl,Y',h1,h2,h3⟩:=hb v r Y h;obtain⟨Y'',h4,h5⟩:=ih Y' h3;refine⟨Y'',?_,h5⟩;show(if ok Y=true then(body (f v) Y).bindN _ else _)=_;rw[if_pos (hok _ _ h),h2];clear h2;rcases h1 with rfl|rfl<;>exact h4
theorem j8{m:Nat}{L L':List (Str×Option V)}{S S':List O}{xs:List V}(h:S[m]?=some (.list xs))(h':S'[m]?=some (.list xs)):aR (.ref m) ⟨L,S⟩ ⟨L',S'⟩=true:=tO h h' rfl
theorem cY{m:Nat}{L:List (Str×Option V)}{S:List O}{xs:List V}(h:S[m]?=some (.list xs))(hs:small xs.length=true):bN (.ref m) ⟨L,S⟩=some xs:=(zJ h).trans (if_pos hs)
theorem cZ{a b:Nat}(h:a<=b)(hb:small b=true):small a=true:=by
 have hb:b<=100000:=of_decide_eq_true hb;exact decide_eq_true (Nat.le_trans h hb)
theorem Fo(abs:Bool)(acc:List Str)(c:Str):(cT abs acc c).length<=acc.length+1:=by
 unfold cT;split
 ·simp
 ·split
  ·simp
  ·simp;lia
theorem U0{cl:Nat->List V->St->ak V}{o0 o4 o6 o8:Option V}{init:Str}{m n:Nat}{cs:List Str}{S:List O}
  (em:S[m]?=some (.list (cs.map .str))) (en:S[n]?=some (.list [])) (hmn:n≠m) (hk:8<=n) (hs:small cs.length=true) (hc:∀c∈cs,small c.length=true) (hi:small init.length=true):
  ∃o8',jk (aR (.ref m) ⟨bU o0 (some (.str aC)) (some (.str cI)) (some (.str dd)) o4 (some (.str init)) o6 (some (.ref n)) o8,S⟩) (λ v Y=>ur cl (aF ("comp":Str) v Y)) (cs.map .str)
    ⟨bU o0 (some (.str aC)) (some (.str cI)) (some (.str dd)) o4 (some (.str init)) o6 (some (.ref n)) o8,S⟩=
   .ok .next ⟨bU o0 (some (.str aC)) (some (.str cI)) (some (.str dd)) o4 (some (.str init)) o6 (some (.ref n)) o8',S.set n (.list ((cs.foldl (cT (decide (init≠mt))) []).map .str))⟩:=by
 obtain⟨Y',h1,acc,o,h2,h3,-⟩:=fK (f:=V.str) (ok:=aR (.ref m) ⟨bU o0 (some (.str aC)) (some (.str cI)) (some (.str dd)) o4 (some (.str init)) o6 (some (.ref n)) o8,S⟩) (body:=λ v Y=>ur cl (aF ("comp":Str) v Y))
  (λ r Y=>∃acc o,Y=⟨bU o0 (some (.str aC)) (some (.str cI)) (some (.str dd)) o4 (some (.str init)) o6 (some (.ref n)) o,S.set n (.list (acc.map .str))⟩/\r.foldl (cT (decide (init≠mt))) acc=cs.foldl (cT (decide (init≠mt))) []/\acc.length+r.length<=cs.length/\∀c∈r,c∈cs)
  (by rintro r Y ⟨acc,o,rfl,-,-⟩;exact j8 em ((λ o=>by rw[List.getElem?_set_ne hmn];exact em:∀o,(S.set n o)[m]?=some (.list (cs.map .str))) _))
  (by
   rintro c r Y ⟨acc,o,rfl,hf,hl,hr⟩;obtain⟨fl,h1,h2⟩:=UW (cl:=cl) (o0:=o0) (o4:=o4) (o6:=o6) ((λ o=>by rw[List.getElem?_set_self ((List.getElem?_eq_some_iff.mp en).1)]:∀o,(S.set n o)[n]?=some o) (.list (acc.map .str))) hk (cZ (by lia) hs) (hc c (hr c List.mem_cons_self)) hi;simp only[List.length_cons]at hl;refine⟨fl,_,h1,(congrArg (ur cl) (ae0 ..)).trans h2,cT (decide (init≠mt)) acc c,some (.str c),by rw[List.set_set],hf,?_,λ x hx=>hr x (List.mem_cons_of_mem _ hx)⟩;have:=Fo (decide (init≠mt)) acc c;lia) cs ⟨bU o0 (some (.str aC)) (some (.str cI)) (some (.str dd)) o4 (some (.str init)) o6 (some (.ref n)) o8,S⟩
  ⟨[],o8,by rw[List.map_nil,qb en],rfl,by simp,λ _ h=>h⟩
 exact⟨o,by rw[h1,h2,<-h3];rfl⟩
theorem gh:∀xs:List Str,dW (xs.map .str)=some xs
 |[]=>rfl
 |x::r=>by show(dW (r.map .str)).map (x::·)=_;rw[gh r];rfl
theorem oK{n:Nat}{L:List (Str×Option V)}{S:List O}{xs:List Str}(e:S[n]?=some (.list (xs.map .str)))(h1:small xs.length=true)(h2:small (bf xs)=true):
  cD .join (.str aC) [.ref n] ⟨L,S⟩=.ok (.str (Str.join aC xs)) ⟨L,S⟩:=by
 show onS (St.list? ⟨L,S⟩ n) _=_;rw[bZ e];show onS (dW _) _=_;rw[gh];exact if_pos (by rw[h1,h2];rfl)
theorem add_str{x y:Str}(h:small (x.length+y.length)=true)(Y:St):jE (.str x) (.str y) Y=.ok (.str (x++y)) Y:=if_pos h
theorem acC{i:Nat}{L:List (Str×Option V)}{S:List O}{a b c:V}(e:S[i]?=some (.tup [a,b,c]))(x y z:Str):yX [x,y,z] (.ref i) ⟨L,S⟩=.ok () (aF z c (aF y b (aF x a ⟨L,S⟩))):=by
 show onS (S[i]?) _=_;rw[e];rfl
noncomputable def cQ(x:Str):Str:=if(tx x).head? =some 47 then aC else mt
noncomputable def bK(x:Str):Str:=if(tx x).head? =some 47 then Txt.slice x (some ((1:Nat):Int)) none else x
noncomputable def eE(x:Str):List Str:=(Txt.split (bK x) aC).foldl (cT (decide (cQ x≠mt))) []
noncomputable def Bq(x:Str):Str:=let r:=cQ x++Str.join aC (eE x);if r=mt then cI else r
theorem rP(d:Nat)(x:Str)(l)(S:List O)(hk:8<=S.length)(hx:small x.length=true)(h0:x≠mt)(h2:(tx x).head? =some 47->((tx x).drop 1).head?≠some 47)
  (hcs:∀c∈Txt.split (bK x) aC,small c.length=true) (hsp:small (Txt.split (bK x) aC).length=true) (hn:small (eE x).length=true) (hl:small (bf (eE x))=true) (hj:small ((cQ x).length+(Str.join aC (eE x)).length)=true):
  ∃J,ao (d+3) 263 [.str x] ⟨l,S⟩=.ok (.str (Bq x)) ⟨l,S++J⟩:=by
 rw[bW (L:=bU (some (.str x)) none none none none none none none none) (S₁:=S) (by kernel_rfl),Zc];have hr:small (bK x).length=true:=by
  unfold bK;split
  ·exact cZ (Txt.slice_le _ _ _) hx
  ·exact hx
 have ht:(if(tx x).head? =some 47 then [V.str "",V.str aC,V.str (Txt.slice x (some ((1:Nat):Int)) none)]else [V.str "",V.str "",V.str x])=[V.str "",V.str (cQ x),V.str (bK x)]:=by
  delta cQ bK
  split<;>rfl
 have hsr:=λ(l) (S:List O)=>Bm d x l S hx h2
 rw[ht]at hsr;have eT:∀S:List O,(S++(bk++[O.tup [V.str "",V.str (cQ x),V.str (bK x)]]))[S.length+1]?=some (O.tup [V.str "",V.str (cQ x),V.str (bK x)]):=λ S=>dX S _ 1
 obtain⟨T,hT,hTl⟩:∃T,S++bk++(bk++[O.tup [V.str "",V.str (cQ x),V.str (bK x)]])=T/\∃J,T=S++J:=⟨_,rfl,bk++(bk++[O.tup [V.str "",V.str (cQ x),V.str (bK x)]]),by rw[List.append_assoc]⟩;simp only[agO,Y6,Y7,Rb,Ef,Eg,Eh,Y8,Y9,Hq,Yu,aeS,aeT,aeU,ak.bind_ok,aB,cH,gQ,bx,aA,if_false,Bool.false_eq_true,fj x hx,gR,(decide_eq_false h0),Bool.not_false,Bool.not_true,hsr,acC (eT _),aeV,aeX];rw[hT];clear hT hsr eT;obtain⟨J,rfl⟩:=hTl;generalize hTg:S++J=T;have hTk:8<=T.length:=hTg▸jP hk;obtain⟨o8,hloop⟩:=U0 (cl:=ao (d+2)) (o0:=some (.str (bK x))) (o4:=some (.str "")) (o6:=some (.ref T.length)) (o8:=none) (init:=cQ x) (m:=T.length) (n:=T.length+1) (cs:=Txt.split (bK x) aC) (S:=T++[.list ((Txt.split (bK x) aC).map .str)]++[.list []])
  (by simp) (by rw[show T.length+1=(T++[O.list ((Txt.split (bK x) aC).map .str)]).length by simp];exact gM) (by simp) (by exact Nat.le_succ_of_le (by assumption)) hsp hcs (cZ (Nat.le_add_right _ _) hj)
 have h4:Oj (ao (d+2)) ⟨bU (some (V.str (bK x))) (some (V.str aC)) (some (V.str cI)) (some (V.str dd)) (some (V.str "")) (some (V.str (cQ x))) none none none,T⟩=
   .ok .next ⟨bU (some (V.str (bK x))) (some (V.str aC)) (some (V.str cI)) (some (V.str dd)) (some (V.str "")) (some (V.str (cQ x))) (some (.ref T.length)) none none,T++[.list ((Txt.split (bK x) aC).map .str)]⟩:=by
  simp only[Oj,Hq,Yv,ak.bind_ok,tu,Bp hr,bO,Yy]
 have h5:Ol (ao (d+2)) ⟨bU (some (V.str (bK x))) (some (V.str aC)) (some (V.str cI)) (some (V.str dd)) (some (V.str "")) (some (V.str (cQ x))) (some (.ref T.length)) none none,T++[.list ((Txt.split (bK x) aC).map .str)]⟩=
   .ok .next ⟨bU (some (V.str (bK x))) (some (V.str aC)) (some (V.str cI)) (some (V.str dd)) (some (V.str "")) (some (V.str (cQ x))) (some (.ref T.length)) (some (.ref (T.length+1))) none,T++[.list ((Txt.split (bK x) aC).map .str)]++[.list []]⟩:=by
  simp only[Ol,ak.bind_ok,bO,aeZ,List.length_append,List.length_cons,List.length_nil]
 refine⟨J++[.list ((Txt.split (bK x) aC).map .str),.list ((eE x).map .str)],?_⟩;have hset:(T++[O.list ((Txt.split (bK x) aC).map .str)]++[O.list []]).set (T.length+1) (.list ((eE x).map .str))=S++(J++[.list ((Txt.split (bK x) aC).map .str),.list ((eE x).map .str)]):=by
  rw[<-List.append_assoc,hTg];simp[List.set_append]
 have h6:Oo (ao (d+2)) ⟨bU (some (V.str (bK x))) (some (V.str aC)) (some (V.str cI)) (some (V.str dd)) (some (V.str "")) (some (V.str (cQ x))) (some (.ref T.length)) (some (.ref (T.length+1))) none,T++[.list ((Txt.split (bK x) aC).map .str)]++[.list []]⟩=
   .ok .next ⟨bU (some (V.str (bK x))) (some (V.str aC)) (some (V.str cI)) (some (V.str dd)) (some (V.str "")) (some (V.str (cQ x))) (some (.ref T.length)) (some (.ref (T.length+1))) o8,S++(J++[.list ((Txt.split (bK x) aC).map .str),.list ((eE x).map .str)])⟩:=by
  simp only[Oo,Yx,ak.bind_ok,fC,(cY (by simp) (by rw[List.length_map];exact hsp):bN (.ref T.length) ⟨bU (some (.str (bK x))) (some (.str aC)) (some (.str cI)) (some (.str dd)) (some (.str "")) (some (.str (cQ x))) (some (.ref T.length)) (some (.ref (T.length+1))) none,T++[.list ((Txt.split (bK x) aC).map .str)]++[.list []]⟩=some ((Txt.split (bK x) aC).map .str)),hloop];simp only[<-hset];rfl
 have eN:(S++(J++[.list ((Txt.split (bK x) aC).map .str),.list ((eE x).map .str)]))[T.length+1]?=some (.list ((eE x).map .str)):=by
  rw[<-hset];exact List.getElem?_set_self (by simp)
 refine(congrArg (λ r=>kj l (aj r _)) h4).trans ?_;simp only[aB];refine(congrArg (λ r=>kj l (aj r _)) h5).trans ?_;rw[aB,h6];simp only[Za,Zb,aeY,aeW,Yv,Yx,Yy,Yu,ak.bind_ok,aB,gk,oK eN hn hl,add_str hj];have tz:∀Y,aO (.str (cQ x++Str.join aC (eE x))) Y=some (!decide (cQ x++Str.join aC (eE x)=mt)):=λ Y=>by rw[fj _ (by rw[Str.length_append];exact hj),gR]
 by_cases hq:cQ x++Str.join aC (eE x)=mt
 ·have dq:=decide_eq_true hq;have hN:Bq x=cI:=if_pos hq;simp only[Oq,Hq,Yw,ak.bind_ok,tz,dq,Bool.not_true,aA,Bool.false_eq_true,if_false,bH,dg,hN]
 ·have dq:=decide_eq_false hq;have hN:Bq x=cQ x++Str.join aC (eE x):=if_neg hq;simp only[Oq,Hq,Yw,ak.bind_ok,tz,dq,Bool.not_false,aA,if_true,bH,dg,hN]
theorem Br{ok:St->Bool}{body:V->St->ak Fl}{v:V}{Y Y':St}(h1:ok Y=true)(hb:body v Y=.ok .next Y')(h2:ok Y'=true):jk ok body [v] Y=.ok .next Y':=by
 show(if ok Y=true then(body v Y).bindN _ else _)=_;rw[if_pos h1,hb];exact if_pos h2
theorem d8{m:Nat}{L L':List (Str×Option V)}{S S':List O}{xs:List V}(h:S[m]?=some (.tup xs))(h':S'[m]?=some (.tup xs)):aR (.ref m) ⟨L,S⟩ ⟨L',S'⟩=true:=tO h h' rfl
theorem gw{m:Nat}{L:List (Str×Option V)}{S:List O}{xs:List V}(h:S[m]?=some (.tup xs))(hs:small xs.length=true):bN (.ref m) ⟨L,S⟩=some xs:=(Gm h).trans (if_pos hs)
theorem jB{x:Str}(hx:small x.length=true)(Y:St):cD .startswith (.str x) [.str aC] Y=.ok (.bool (Txt.startswith x aC)) Y:=if_pos (by rw[hx];rfl)
theorem Ro{x:Str}(hx:small x.length=true)(Y:St):cD .endswith (.str x) [.str aC] Y=.ok (.bool (Txt.endswith x aC)) Y:=if_pos (by rw[hx];rfl)
theorem iadd_str{x y:Str}(h:small (x.length+y.length)=true)(Y:St):kJ .Add (.str x) (.str y) Y=.ok (.str (x++y)) Y:=if_pos h
noncomputable def pH(a b:Str):Str:=if Txt.startswith b aC=true\/a=mt then b else if Txt.endswith a aC=true then a++b else a++(aC++b)
theorem U3(d:Nat)(a b:Str)(l)(S:List O)(h:small (a.length+(1+b.length))=true):
  ∃J,ao (d+2) 242 [.str a,.str b] ⟨l,S⟩=.ok (.str (pH a b)) ⟨l,S++J⟩:=by
 rw[bW (L:=iy (some (.str a)) (some (.ref S.length)) none none none) (S₁:=S++[.tup [.str b]]) (by kernel_rfl),YM];have ha:small a.length=true:=cZ (by simp) h;have hb:small b.length=true:=cZ (by lia) h;have turn:∀T:List O,fP (ao (d+1)) ⟨iy (some (.str a)) (some (.ref S.length)) (some (.str aC)) (some (.str a)) (some (.str b)),T⟩=
   .ok .next ⟨iy (some (.str a)) (some (.ref S.length)) (some (.str aC)) (some (.str (pH a b))) (some (.str b)),T++bk⟩:=λ T=>by
  have tr:∀Y,aO (.str a) Y=some (!decide (a=mt)):=λ Y=>by rw[fj _ ha,gR]
  unfold pH;by_cases h1:Txt.startswith b aC=true
  ·rw[if_pos (.inl h1)];simp only[fP,gO,gP,lK,je,Hp,Hl,Aw,Av,ak.bind_ok,cH,aB,gm,jB hb,bx,aA,h1,if_true]
  ·have h1':=Bool.eq_false_iff.mpr h1;by_cases h2:a=mt
   ·have d2:=decide_eq_true h2;rw[if_pos (.inr h2)];simp only[fP,gO,gP,lK,je,Hp,Hl,Ho,Aw,Av,ak.bind_ok,cH,aB,gm,jB hb,bx,aA,h1',Bool.false_eq_true,if_false,tr,d2,Bool.not_true,Bool.not_false,if_true]
   ·have d2:=decide_eq_false h2;rw[if_neg (λ q=>q.elim h1 h2)];by_cases h3:Txt.endswith a aC=true
    ·rw[if_pos h3];simp only[fP,gO,gP,lM,jf,mG,jQ,Hp,Hl,Ho,Aw,Av,ak.bind_ok,cH,aB,gm,Fj,jB hb,Ro ha,bx,aA,h1',Bool.false_eq_true,if_false,tr,d2,Bool.not_true,Bool.not_false,if_true,h3,iadd_str (cZ (show a.length+b.length<=_ by simp) h)]
    ·have h3':=Bool.eq_false_iff.mpr h3;rw[if_neg h3];simp only[fP,gO,gP,lM,jf,mH,jR,Hp,Hl,Ho,Aw,Av,ak.bind_ok,cH,aB,gm,Fj,jB hb,Ro ha,bx,aA,h1',Bool.false_eq_true,if_false,tr,d2,Bool.not_true,Bool.not_false,if_true,h3',add_str (cZ (show 1+b.length<=_ by simp) h:small (aC.length+b.length)=true),iadd_str (by rw[Str.length_append];exact h:small (a.length+(aC++b).length)=true)]
 have eA:(S++[O.tup [V.str b]]++bk)[S.length]?=some (.tup [.str b]):=lJ ..;have eA':(S++[O.tup [V.str b]]++bk++bk)[S.length]?=some (.tup [.str b]):=by rw[List.append_assoc (S++_)];exact lJ ..
 refine⟨[.tup [.str b]]++bk++bk,?_⟩;have hfor:wB (ao (d+1)) ⟨iy (some (.str a)) (some (.ref S.length)) (some (.str aC)) (some (.str a)) none,S++[.tup [.str b]]++bk⟩=
   .ok .next ⟨iy (some (.str a)) (some (.ref S.length)) (some (.str aC)) (some (.str (pH a b))) (some (.str b)),S++[.tup [.str b]]++bk++bk⟩:=by
  simp only[wB,aeI,ak.bind_ok,fC,gw eA (by rfl)];rw[Br (d8 eA eA) ((congrArg (fP (ao (d+1))) (Aw ..)).trans (turn _)) (d8 eA eA')];rfl
 have htry:Oh (ao (d+1)) ⟨iy (some (.str a)) (some (.ref S.length)) (some (.str aC)) (some (.str a)) none,S++[.tup [.str b]]++bk⟩=
   .ok .next ⟨iy (some (.str a)) (some (.ref S.length)) (some (.str aC)) (some (.str (pH a b))) (some (.str b)),S++[.tup [.str b]]++bk++bk⟩:=by
  unfold Oh uo Q6;rw[hfor];rfl
 simp only[agL,YH,YJ,YK,aeG,aeH,aeJ,Av,ak.bind_ok,aB,cH,yo,htry,YL,Ho,bH,dg];simp only[List.append_assoc]
theorem aaO{x:Str}(hx:small x.length=true)(Y:St):cD .rfind (.str x) [.str aC] Y=.ok (.int (Txt.rfind x aC)) Y:=if_pos (by rw[hx];rfl)
theorem U4{x:Str}(hx:small x.length=true)(Y:St):cD .rstrip (.str x) [.str aC] Y=.ok (.str (Txt.rstripChars x aC)) Y:=if_pos (by rw[hx];rfl)
theorem Fp{x:Str}(hx:small x.length=true)(Y:St):cD .lstrip (.str x) [.str aC] Y=.ok (.str (Txt.lstripChars x aC)) Y:=if_pos (by rw[hx];rfl)
theorem add_int(i j:Int)(Y:St):jE (.int i) (.int j) Y=.ok (.int (i+j)) Y:=rfl
theorem len_str{x:Str}(hx:small x.length=true)(Y:St):rU [.str x] Y=.ok (.int x.length) Y:=if_pos hx
theorem Fq{n:Nat}(hn:small n=true)(Y:St):zq (.str aC) (.int n) Y=.ok (.str (Txt.mul aC n)) Y:=if_pos (decide_eq_true ⟨by decide+kernel,by lia,by simpa using hn⟩)
noncomputable def pI(x:Str):Str:=Txt.slice x none (some (Txt.rfind x aC+1))
noncomputable def afU(x:Str):Str:=if pI x≠mt/\pI x≠Txt.mul aC (pI x).length then Txt.rstripChars (pI x) aC else pI x
theorem Il(d:Nat)(x:Str)(l)(S:List O)(hx:small x.length=true)(hi: -1000000<=Txt.rfind x aC+1/\Txt.rfind x aC+1<=1000000):
  ao (d+2) 256 [.str x] ⟨l,S⟩=.ok (.str (afU x)) ⟨l,S++bk⟩:=by
 rw[bW (L:=p7 (some (.str x)) none none none) (S₁:=S) (by kernel_rfl),Y5];have hh:small (pI x).length=true:=cZ (Txt.slice_le _ _ _) hx;have hs:∀Y,bC (.str x) .none (.int (Txt.rfind x aC+1)) Y=.ok (.str (pI x)) Y:=λ Y=>by
  unfold bC;rw[show jF (.int (Txt.rfind x aC+1))=_ from if_pos hi];exact if_pos hx
 have tr:∀Y,aO (.str (pI x)) Y=some (!decide (pI x=mt)):=λ Y=>by rw[fj _ hh,gR]
 simp only[agN,YX,YZ,Y0,Y4,aeN,aeO,Oe,aeP,aeQ,aeR,Yt,ak.bind_ok,aB,cH,yo,Qf,aaO hx,add_int,hs];unfold afU;by_cases h1:pI x=mt
 ·have d1:=decide_eq_true h1;rw[if_neg (λ q=>q.1 h1)];simp only[Hs,Og,ak.bind_ok,tr,d1,Bool.not_true,Bool.not_false,aA,if_true,Bool.false_eq_true,if_false,aB,Ht,bH,dg]
 ·have d1:=decide_eq_false h1;by_cases h2:pI x=Txt.mul aC (pI x).length
  ·have d2:=decide_eq_true h2;rw[if_neg (λ q=>q.2 h2)];simp only[Hs,Og,Oe,ak.bind_ok,tr,d1,Bool.not_true,Bool.not_false,aA,if_true,Bool.false_eq_true,if_false,len_str hh,Fq hh,ne_str,jr,d2,aB,Ht,bH,dg]
  ·have d2:=decide_eq_false h2;rw[if_pos ⟨h1,h2⟩];simp only[Hs,Ra,Ed,Og,Oe,Yt,ak.bind_ok,tr,d1,Bool.not_true,Bool.not_false,aA,if_true,Bool.false_eq_true,if_false,len_str hh,Fq hh,ne_str,jr,d2,K4,U4 hh,aB,Ht,bH,dg]
theorem Im(d:Nat)(x:Str)(l)(S:List O)(hx:small x.length=true)(h0:Txt.startswith x aC=true){v:Str}(hn:∀l (S:List O),8<=S.length->∃J,ao (d+3) 263 [.str x] ⟨l,S⟩=.ok (.str v) ⟨l,S++J⟩)(hk:8<=S.length):
  ∃J,ao (d+4) 270 [.str x] ⟨l,S⟩=.ok (.str v) ⟨l,S++J⟩:=by
 rw[bW (L:=Ua (some (.str x))) (S₁:=S) (by kernel_rfl),Zg];obtain⟨J,hJ⟩:=hn (Ua (some (.str x))) (S++bk) (jP hk);refine⟨bk++J,?_⟩;rw[<-List.append_assoc];have hst:∀Y,cD .startswith (.str x) [.str ("/":Str)] Y=.ok (.bool (Txt.startswith x aC)) Y:=λ Y=>jB hx Y
 simp only[agP,Zd,Ze,Rc,Ei,Zf,ae1,ae2,ak.bind_ok,aB,cH,gQ,bx,aA,if_false,Bool.false_eq_true,gm,hst,h0,Bool.not_true,hJ,bH,dg]
noncomputable def bD:List Str->List Str->List Str
 |x::xs,y::ys=>if x=y then x::bD xs ys else []
 |_,_=>[]
theorem qX:∀xs ys,bD xs ys=bD ys xs
 |[],[]=>rfl
 |[],_::_=>rfl
 |_::_,[]=>rfl
 |x::xs,y::ys=>by
  dsimp only[bD];by_cases h:x=y
  ·rw[if_pos h,if_pos h.symm,qX xs ys,h]
  ·rw[if_neg h,if_neg (λ q=>h q.symm)]
theorem U5:∀xs,bD xs xs=xs
 |[]=>rfl
 |x::xs=>by unfold bD;rw[if_pos rfl,U5 xs]
theorem d9:∀xs ys,xs.take (bD xs ys).length=bD xs ys
 |[],[]=>rfl
 |[],_::_=>rfl
 |_::_,[]=>rfl
 |x::xs,y::ys=>by
  dsimp only[bD];by_cases h:x=y
  ·rw[if_pos h];show x::xs.take _=_;rw[d9 xs ys]
  ·rw[if_neg h];rfl
theorem qY(xs ys:List Str):(bD xs ys).length<=xs.length:=by
 have h:=congrArg List.length (d9 xs ys);rw[List.length_take]at h;lia
theorem acD(x:Str):iW x x=false:=decide_eq_false (List.lt_irrefl _)
theorem K5{x y:Str}(h:iW x y=true):iW y x=false:=decide_eq_false (List.lt_asymm (of_decide_eq_true h))
theorem K6{x y:Str}(h1:iW x y=false)(h2:iW y x=false):x=y:=
 ji (List.le_antisymm (List.not_lt.mp (of_decide_eq_false h2)) (List.not_lt.mp (of_decide_eq_false h1)))
theorem lq(x y:Str)(xs ys:List Str):bI (x::xs) (y::ys)=if x=y then bI xs ys else iW x y:=by
 show(if(x==y)=true then bI xs ys else iW x y)=_;by_cases h:x=y
 ·rw[if_pos h,if_pos (by rw[h];exact beq_self_eq_true y)]
 ·rw[if_neg h,if_neg (λ q=>h (eq_of_beq q))]
theorem yq:∀xs,bI xs xs=false
 |[]=>rfl
 |x::xs=>by rw[lq,if_pos rfl,yq xs]
theorem uV:∀xs ys,bI xs ys=true->bI ys xs=false:=by
 intro xs;induction xs with
 |nil=>
  intro ys h;rcases ys with _|⟨y,ys⟩
  ·rfl
  ·rfl
 |cons x xs ih=>
  intro ys h;rcases ys with _|⟨y,ys⟩
  ·exact jz h
  rw[lq]at h ⊢;by_cases e:x=y
  ·rw[if_pos e]at h;rw[if_pos e.symm];exact ih ys h
  ·rw[if_neg e]at h;rw[if_neg (λ q=>e q.symm)];exact K5 h
theorem Io:∀xs ys,bI xs ys=false->bI ys xs=false->xs=ys:=by
 intro xs;induction xs with
 |nil=>
  intro ys h _;rcases ys with _|⟨y,ys⟩
  ·rfl
  ·exact jz h.symm
 |cons x xs ih=>
  intro ys h1 h2;rcases ys with _|⟨y,ys⟩
  ·exact jz h2.symm
  rw[lq]at h1 h2;by_cases e:x=y
  ·rw[if_pos e]at h1;rw[if_pos e.symm]at h2;rw[e,ih ys h1 h2]
  ·rw[if_neg e]at h1;rw[if_neg (λ q=>e q.symm)]at h2;exact absurd (K6 h1 h2) e
noncomputable def U6(x y:List Str):List Str:=if bI y x then y else x
noncomputable def V7(x y:List Str):List Str:=if bI x y then y else x
theorem K7(x y:List Str):bI (V7 x y) (U6 x y)=false:=by
 delta V7 U6
 induction h1:bI y x<;>induction h2:bI x y<;>simp only[Bool.false_eq_true]
 ·exact yq x
 ·exact h1
 ·exact h2
 ·rw[uV _ _ h1]at h2;contradiction
theorem Ft(x y:List Str):bD (U6 x y) (V7 x y)=bD x y:=by
 delta V7 U6
 induction h1:bI y x<;>induction h2:bI x y<;>simp only[if_true,if_false,Bool.false_eq_true]
 ·rw[Io _ _ h2 h1]
 ·exact qX y x
 ·rw[uV _ _ h1]at h2;contradiction
noncomputable abbrev Rp(T:List O)(e k l i:Nat):List O:=(T.set k (.eit l i)).set e (.enum k i)
set_option tactic.hygienic true in
theorem K8{e k l:Nat}{Lc:Option V->Option V->List (Str×Option V)}{T:List O}{body:Nat->V->St->ak Fl}{R:Nat->Str->ak Fl}{all ys:List Str}
  (hl:T[l]?=some (.list (all.map .str))) (hke:k≠e) (hlk:k≠l) (hle:e≠l) (hkT:k < T.length) (heT:e < T.length)
  (hR:∀i c,(∃Y,R i c=.ok .brk Y)\/∃v Y,R i c=.ok (.ret v) Y)
  (hb:∀i c y oi oc,i < all.length->ys[i]?=some y->body i (.str c) ⟨Lc oi oc,Rp T e k l (i+1)⟩=if c=y then .ok .next ⟨Lc (some (.int i)) (some (.str c)),Rp T e k l (i+1)⟩else R i c):
  ∀(xs:List Str) (p zs:List Str) (oi oc:Option V),ys=p++zs->p.length+xs.length=all.length->bI zs xs=false->
   ((∃c,fG e k l (all.map .str) body p.length (xs.map .str) ⟨Lc oi oc,Rp T e k l p.length⟩=R (p.length+(bD xs zs).length) c)/\bD xs zs≠xs)\/
   (∃oi' oc',fG e k l (all.map .str) body p.length (xs.map .str) ⟨Lc oi oc,Rp T e k l p.length⟩=.ok .next ⟨Lc oi' oc',(Rp T e k l all.length).set k .any⟩)/\bD xs zs=xs:=by
 have c1:∀i,(Rp T e k l i)[e]?=some (.enum k i):=λ i=>List.getElem?_set_self (by rw[List.length_set];exact heT)
 have c2:∀i,(Rp T e k l i)[k]?=some (.eit l i):=λ i=>by rw[List.getElem?_set_ne (λ q=>hke q.symm),List.getElem?_set_self hkT]
 have c3:∀i,(Rp T e k l i)[l]?=some (.list (all.map .str)):=λ i=>by rw[List.getElem?_set_ne hle,List.getElem?_set_ne hlk];exact hl
 have up:∀i j,((Rp T e k l i).set k (.eit l j)).set e (.enum k j)=Rp T e k l j:=λ i j=>by
  rw[List.set_comm _ _ (λ q=>hke q.symm),List.set_set,List.set_set]
 intro xs;induction xs with
 |nil=>
  intro p zs oi oc _ hlen _;refine .inr ⟨⟨oi,oc,?_⟩,rfl⟩;simp only[List.length_nil,Nat.add_zero]at hlen;rw[hlen];exact if_pos ⟨c1 _,c2 _,c3 _⟩
 |cons c xs ih=>
  intro p zs oi oc hys hlen hlt;induction zs with
  |nil=>contradiction
  |cons y zs=>
   simp only[List.length_cons]at hlen;have start:fG e k l (all.map .str) body p.length ((c::xs).map .str) ⟨Lc oi oc,Rp T e k l p.length⟩=(if c=y then ak.ok Fl.next ⟨Lc (some (.int p.length)) (some (.str c)),Rp T e k l (p.length+1)⟩else R p.length c).bindN λ fl Y=>match fl with
     |.next|.cont=>fG e k l (all.map .str) body (p.length+1) (xs.map .str) Y
     |.brk=>.ok .brk Y
     |.ret v=>.ok (.ret v) Y:=by
    rw[<-hb p.length c y oi oc (by lia) (by rw[hys,List.getElem?_append_right (Nat.le_refl _)];simp),<-up p.length (p.length+1)];exact if_pos ⟨c1 _,c2 _,c3 _⟩
   rw[start];rw[lq]at hlt;dsimp only[bD];by_cases h:c=y
   ·rw[if_pos h.symm]at hlt;rw[if_pos h,if_pos h];have:=ih (p++[c]) zs (some (.int p.length)) (some (.str c)) (by rw[hys,h];simp) (by simp;lia) hlt;rw[List.length_append]at this;rcases this with⟨h1,h2⟩|⟨h1,h2⟩
    ·refine .inl ⟨?_,λ q=>h2 (List.cons.inj q).2⟩;simp only[List.length_cons,show p.length+((bD xs zs).length+1)=p.length+1+(bD xs zs).length by lia];exact h1
    ·exact .inr ⟨h1,by rw[h2]⟩
   ·rw[if_neg h,if_neg h];refine .inl ⟨?_,λ q=>by cases q⟩;refine⟨c,?_⟩;show _=R p.length c;rcases hR p.length c with⟨Y,q⟩|⟨v,Y,q⟩<;>rw[q]<;>rfl
theorem ajh(L)(S:List O)(a b:O):({loc:=L,sto:=S++[a]}:St).new b=.ok (.ref (S.length+1)) ⟨L,S++[a,b]⟩:=by
 show ak.ok (V.ref (S++[a]).length) (St.mk L (S++[a]++[b]))=_;rw[List.length_append,List.append_assoc];rfl
theorem uW{cl}{L}{S:List O}{l:Nat}{xs:List V}(e:S[l]?=some (.list xs)):b8 cl .enumerate [.ref l] ⟨L,S⟩=.ok (.ref (S.length+1)) ⟨L,S++[.eit l 0,.enum S.length 0]⟩:=by
 exact(cA (bZ e)).trans (ajh L S _ _)
theorem Fv{L}{S:List O}{a:Nat}{x:List Str}(e:S[a]?=some (.list (x.map .str))):qu ⟨L,S⟩ a=some x:=by
 exact(bB (bZ e)).trans (gh x)
theorem zb{L}{S:List O}{m a b:Nat}{x y:List Str}(gt:Bool)(e:S[m]?=some (.list [.ref a,.ref b]))(ea:S[a]?=some (.list (x.map .str)))(eb:S[b]?=some (.list (y.map .str))):
  zy gt [.ref m] ⟨L,S⟩=.ok (.ref (if(if gt then bI x y else bI y x)then b else a)) ⟨L,S⟩:=by
 refine(cA (bZ e)).trans ?_;show onS (qu ⟨L,S⟩ a) _=_;rw[Fv ea];show onS (qu ⟨L,S⟩ b) _=_;rw[Fv eb];rfl
theorem adT{S:List O}{a b:Nat}{x y:List Str}(ea:S[a]?=some (.list (x.map .str)))(eb:S[b]?=some (.list (y.map .str))):S[if bI y x then b else a]?=some (.list ((U6 x y).map .str)):=by
 unfold U6;cases bI y x
 ·exact ea
 ·exact eb
theorem adU{S:List O}{a b:Nat}{x y:List Str}(ea:S[a]?=some (.list (x.map .str)))(eb:S[b]?=some (.list (y.map .str))):S[if bI x y then b else a]?=some (.list ((V7 x y).map .str)):=by
 unfold V7;cases bI x y
 ·exact ea
 ·exact eb
theorem mY(T:List O)(l i:Nat):Rp (T++[.eit l 0,.enum T.length 0]) (T.length+1) T.length l i=T++[.eit l i,.enum T.length i]:=by
 show((T++_).set _ _).set _ _=_;rw[List.set_append,if_neg (Nat.lt_irrefl _),List.set_append,if_neg (by simp),Nat.sub_self,show T.length+1 - T.length=1 by simp];rfl
theorem yr{T:List O}{L}{l:Nat}{xs:List V}{body:Nat->V->St->ak Fl}{o:St->ak Fl}(e:T[l]?=some (.list xs))(hs:small xs.length=true)(hk:8<=T.length):
  Hj body o (.ref (T.length+1)) ⟨L,T++[.eit l 0,.enum T.length 0]⟩=dB (fG (T.length+1) T.length l xs body 0 xs ⟨L,T++[.eit l 0,.enum T.length 0]⟩) o:=by
 have h:Gi (T.length+1) ⟨L,T++[.eit l 0,.enum T.length 0]⟩=some (T.length,l,xs):=by
  have e1:(T++[O.eit l 0,O.enum T.length 0])[T.length+1]?=some (.enum T.length 0):=dX T _ 1;have e2:(T++[O.eit l 0,O.enum T.length 0])[T.length]?=some (.eit l 0):=dX T _ 0;have e3:(T++[O.eit l 0,O.enum T.length 0])[l]?=some (.list xs):=by rw[List.getElem?_append_left (List.getElem?_eq_some_iff.mp e).1,e]
  refine(bB (a:=(T.length,0)) ((vG e1 O.enum?).trans rfl)).trans ?_;refine(bB (a:=(l,0)) ((vG e2 O.eit?).trans rfl)).trans ?_;exact congrArg (Option.map _) (bZ e3)
 have h1:decide (k0<=T.length+1)=true:=decide_eq_true (Nat.le_succ_of_le hk);have h2:decide (k0<=T.length)=true:=decide_eq_true hk;exact(cA h).trans (if_pos (by rw[hs,h1,h2];rfl))
theorem uX{L}{S:List O}{n:Nat}{xs:List Str}(e:S[n]?=some (.list (xs.map .str)))(hs:small xs.length=true){i:Nat}{y:Str}(hy:xs[i]?=some y):cM (.ref n) (.int i) ⟨L,S⟩=some (.str y):=
 qW e (by rw[List.length_map];exact hs) (za (by rw[List.length_map];exact(List.getElem?_eq_some_iff.mp hy).1) (by rw[List.length_map];exact hs)) (by rw[List.getElem?_map,hy];rfl)
theorem afV{α:Type}(xs:List α)(i:Nat):cut none (some (i:Int)) xs=xs.take i:=by
 simp only[cut,W.kms_lo,W.kms_hi,if_neg (by simp:¬ ((i:Int) < 0)),List.drop_zero,Nat.sub_zero,Int.toNat_natCast];by_cases q:i<=xs.length
 ·rw[Nat.min_eq_left q]
 ·rw[Nat.min_eq_right (by lia),List.take_length,List.take_of_length_le (by lia)]
theorem aaP{α:Type}(xs:List α)(i:Nat):cut (some (i:Int)) none xs=xs.drop i:=by
 dsimp only[cut,W.kms_lo,W.kms_hi,Int.toNat_natCast];simp only[cut,W.kms_lo,W.kms_hi,if_neg (by simp:¬ ((i:Int) < 0))];by_cases q:i<=xs.length
 ·rw[Nat.min_eq_left q,List.take_of_length_le (by rw[List.length_drop];exact Nat.le_refl _)]
 ·rw[Nat.min_eq_right (by lia),List.drop_eq_nil_of_le (Nat.le_refl _),List.take_nil,List.drop_eq_nil_of_le (by lia)]
theorem iR{L}{S:List O}{n:Nat}{xs:List V}(e:S[n]?=some (.list xs))(hs:small xs.length=true){i:Nat}(hi:i<=1000000):bC (.ref n) .none (.int i) ⟨L,S⟩=.ok (.ref S.length) ⟨L,S++[.list (xs.take i)]⟩:=by
 unfold bC;rw[jA hi];show onS (St.list? ⟨L,S⟩ n) _=_;rw[bZ e,<-afV];exact if_pos hs
theorem jj{L}{S:List O}{n:Nat}{xs:List V}(e:S[n]?=some (.list xs))(hs:small xs.length=true){i:Nat}(hi:i<=1000000):bC (.ref n) (.int i) .none ⟨L,S⟩=.ok (.ref S.length) ⟨L,S++[.list (xs.drop i)]⟩:=by
 unfold bC;rw[jA hi];show onS (St.list? ⟨L,S⟩ n) _=_;rw[bZ e,<-aaP];exact if_pos hs
theorem K9{L}{S:List O}{a:Nat}{xs:List V}(e:S[a]?=some (.list xs)):gF [.ref a,.ref S.length] ⟨L,S++[.tup [.bi .list,.bi .tuple]]⟩=.ok (.bool true) ⟨L,S++[.tup [.bi .list,.bi .tuple]]⟩:=by
 have h:CZ (.ref a) ⟨L,S++[.tup [.bi .list,.bi .tuple]]⟩=some .list:=by
  exact bB (a:=O.list xs) ((List.getElem?_append_left (List.getElem?_eq_some_iff.mp e).1).trans e)
 have h2:(⟨L,S++[.tup [.bi .list,.bi .tuple]]⟩:St).sto[S.length]?=some (.tup [.bi .list,.bi .tuple]):=gM;exact if_pos ⟨h,h2⟩
theorem au{S J:List O}{i:Nat}{o:O}(e:S[i]?=some o):(S++J)[i]?=some o:=by rw[List.getElem?_append_left (List.getElem?_eq_some_iff.mp e).1,e]
theorem ahj{L}{S:List O}{n:Nat}{v:V}{xs:List V}(e:S[n]?=some (.list (v::xs)))(hs:small (v::xs).length=true):cM (.ref n) (.int 0) ⟨L,S⟩=some v:=qW e hs (za (i:=0) (by simp) hs) rfl
theorem Rq{a:Nat}{Y:St}:I9 [.ref a] Y=zy false [.ref a] Y:=rfl
theorem uY(d:Nat)(l)(S:List O){m a b:Nat}{x y:List Str}(hk:8<=S.length)(em:S[m]?=some (.list [.ref a,.ref b]))(ea:S[a]?=some (.list (x.map .str)))(eb:S[b]?=some (.list (y.map .str)))
  (hx:small x.length=true) (hy:small y.length=true):
  ∃r J,ao (d+1) 221 [.ref m] ⟨l,S⟩=.ok (.ref r) ⟨l,S++J⟩/\(S++J)[r]?=some (.list ((bD x y).map .str)):=by
 rw[bW (L:=jg (some (.ref m)) none none none none) (S₁:=S) (by kernel_rfl),ZS];generalize hT:S++[O.tup [.bi .list,.bi .tuple]]=T;have tm:T[m]?=some (.list [.ref a,.ref b]):=by rw[<-hT];exact au em
 have ta:T[a]?=some (.list (x.map .str)):=by rw[<-hT];exact au ea
 have tb:T[b]?=some (.list (y.map .str)):=by rw[<-hT];exact au eb
 have hi:=K9 (L:=jg (some (.ref m)) none none none none) ea;rw[hT]at hi;obtain⟨z1,hz1,z1e⟩:∃z1,(if bI y x then b else a)=z1/\T[z1]?=some (.list ((U6 x y).map .str)):=⟨_,rfl,adT ta tb⟩;obtain⟨z2,hz2,z2e⟩:∃z2,(if bI x y then b else a)=z2/\T[z2]?=some (.list ((V7 x y).map .str)):=⟨_,rfl,adU ta tb⟩;have b1:=λ L=>zb (L:=L) (gt:=false) tm ta tb
 have b2:=λ L=>zb (L:=L) (gt:=true) tm ta tb
 simp only[Bool.false_eq_true,if_false,if_true,hz1,hz2]at b1 b2;simp only[agR,ZL,ZM,ZP,ZQ,afe,Ox,Oz,afg,afh,ak.bind_ok,aB,j7 em (by rfl),List.isEmpty_cons,Bool.not_false,Bool.not_true,Bool.false_eq_true,if_false,aA,ahj em (by rfl),bA,bO,hT,hi,bx,Rq,b1,b2];have hsm:small (U6 x y).length=true:=by unfold U6;induction bI y x<;>assumption
 have hsm2:small (V7 x y).length=true:=by unfold V7;induction bI x y<;>assumption
 have hsz:small ((U6 x y).map V.str).length=true:=by rw[List.length_map];exact hsm
 have hlt:=K7 x y;have hpre:=Ft x y;generalize U6 x y=lo at*;generalize V7 x y=hi' at*;have hz1T:=(List.getElem?_eq_some_iff.mp z1e).1;have loop:=K8 (e:=T.length+1) (k:=T.length) (l:=z1) (Lc:=λ oi oc=>jg (some (.ref m)) (some (.ref z1)) (some (.ref z2)) oi oc) (T:=T++[.eit z1 0,.enum T.length 0]) (body:=λ i v Y=>ux (ao d) (aF ("c":Str) v (aF ("i":Str) (.int i) Y)))
  (R:=λ i c=>.ok (.ret (.ref (T.length+2))) ⟨jg (some (.ref m)) (some (.ref z1)) (some (.ref z2)) (some (.int i)) (some (.str c)),T++[.eit z1 (i+1),.enum T.length (i+1)]++[.list ((lo.map V.str).take i)]⟩) (all:=lo) (ys:=hi')
  (au z1e) (by simp) (by exact Nat.ne_of_gt (by assumption)) (by lia) (by simp) (by simp) (λ i c=>.inr ⟨_,_,rfl⟩)
  (by
   intro i c y oi oc hi hy;rw[mY];have it:=uX (L:=jg (some (.ref m)) (some (.ref z1)) (some (.ref z2)) (some (.int i)) (some (.str c))) (au (J:=[.eit z1 (i+1),.enum T.length (i+1)]) z2e) hsm2 hy;by_cases h:c=y
   ·have d1:=decide_eq_true h;rw[if_pos h];simp only[Zo,Zr,ux,wI,Zq,Oz,Zn,ak.bind_ok,it,bA,ne_str,jr,d1,Bool.not_true,aA,Bool.false_eq_true,if_false,aB]
   ·have d1:=decide_eq_false h;rw[if_neg h];simp only[Zo,Zr,ux,wI,Ba,uw,Ox,Zq,Oz,Zn,ak.bind_ok,it,bA,ne_str,jr,d1,Bool.not_false,aA,if_true,(λ i J hi=>iR (L:=J) (au z1e) hsz (by have:lo.length<=100000:=of_decide_eq_true hsm;lia):∀i J,i<=lo.length->bC (.ref z1) .none (.int i) ⟨J,T++[.eit z1 (i+1),.enum T.length (i+1)]⟩=_) i _ (by exact Nat.le_of_lt (by assumption)),bH,List.length_append,List.length_cons,List.length_nil])
  lo [] hi' none none rfl (by simp) hlt
 rw[List.length_nil,mY,hpre,Nat.zero_add]at loop;have enu:=λ L=>uW (cl:=ao d) (L:=L) z1e
 have fb:=λ L (o:St->ak Fl)=>yr (L:=L) (body:=λ i v Y=>ux (ao d) (aF ("c":Str) v (aF ("i":Str) (.int i) Y))) (o:=o) z1e hsz (by rw[<-hT];simp;exact Nat.le_of_lt (by assumption))
 have hj1:S++([O.tup [.bi .list,.bi .tuple]]++([.eit z1 ((bD x y).length+1),.enum T.length ((bD x y).length+1)]++[.list ((lo.map V.str).take (bD x y).length)]))=T++[.eit z1 ((bD x y).length+1),.enum T.length ((bD x y).length+1)]++[.list ((lo.map V.str).take (bD x y).length)]:=by rw[<-hT];simp only[List.append_assoc]
 have hj2:S++([O.tup [.bi .list,.bi .tuple]]++[.any,.enum T.length lo.length])=T++[.any,.enum T.length lo.length]:=by rw[<-hT];simp only[List.append_assoc]
 simp only[ZR,Ox,ak.bind_ok,enu,fb];rcases loop with⟨⟨c,h1⟩,h2⟩|⟨⟨oi,oc,h1⟩,h2⟩
 ·refine⟨T.length+2,[O.tup [.bi .list,.bi .tuple]]++([.eit z1 ((bD x y).length+1),.enum T.length ((bD x y).length+1)]++[.list ((lo.map V.str).take (bD x y).length)]),?_,?_⟩;rotate_left
  ·rw[hj1,List.getElem?_append_right (by simp)];simp only[List.length_append,List.length_cons,List.length_nil];rw[show T.length+2 - (T.length+(0+1+1))=0 by simp,<-List.map_take,<-hpre,d9];rfl
  ·rw[h1,hj1];rfl
 ·refine⟨z1,[O.tup [.bi .list,.bi .tuple]]++[.any,.enum T.length lo.length],?_,?_⟩;rotate_left
  ·rw[hj2,au z1e,h2]
  ·have e:(Rp (T++[O.eit z1 0,O.enum T.length 0]) (T.length+1) T.length z1 lo.length).set T.length O.any=T++[.any,.enum T.length lo.length]:=by
    rw[mY,List.set_append,if_neg (Nat.lt_irrefl _),Nat.sub_self];rfl
   rw[h1,hj2,e];rfl
end Mine
namespace Mine
open PySem PySem.Builtin.Str PyProof.Rows
noncomputable abbrev P(cs:List Str):Str:=Str.join aC cs
noncomputable abbrev R(cs:List Str):Str:=aC++P cs
theorem lQ(x:Str):tx (aC++x)=47::tx x:=by rw[qU,Bl];rfl
theorem aaQ{x:Str}(h:(tx x).head?≠some 47):Txt.lstripChars (aC++x) aC=x:=by
 apply ji
 unfold Txt.lstripChars;rw[PyProof.Rows.stripBy_eq];show(strSub _ _ _).cps.toList=_;rw[StrLaws.strSub_toList];have hc:∀c:Nat,aC.cps.contains c=(c==47):=λ c=>by
  show(#[47]:Array Nat).contains c=_;simp;rfl
 have e:((aC++x).cps.toList.takeWhile aC.cps.contains).length=1:=by
  have:(aC++x).cps.toList=47::tx x:=lQ x;rw[this,List.takeWhile_cons,hc];induction q:tx x with
  |nil=>rfl
  |cons a r=>
   rw[q]at h;rw[List.takeWhile_cons,hc,(by rw[beq_eq_false_iff_ne];exact λ e=>h (by rw[e];rfl):(a==47)=false)];rfl
 simp only[stripLo,if_false,e];show((tx (aC++x)).drop 1).take ((aC++x).length - 1)=tx x;rw[cL,lQ];show(tx x).take _=_;exact List.take_of_length_le (by simp)
noncomputable def bY(cs:List Str):Prop:=bf cs+cs.length<=1000
theorem aD{n:Nat}(h:n<=100000):small n=true:=decide_eq_true h
theorem dI:∀cs:List Str,(P cs).length<=bf cs+cs.length:=by
 intro cs;induction cs with
 |nil=>exact Nat.zero_le _
 |cons c r ih=>
  rcases r with _|⟨d,r⟩
  ·show c.length<=c.length+0+1;simp
  have e:(P (c::d::r)).length=c.length+1+(P (d::r)).length:=by
   rw[cL,show tx (P (c::d::r))=tx c++47::tx (P (d::r))from jb c d r,cL c,cL (P (d::r)),List.length_append,List.length_cons];lia
  rw[e,(by unfold bf;rw[List.map_cons,List.sum_cons]:bf (c::d::r)=c.length+bf (d::r)),List.length_cons];lia
theorem oM:∀{cs:List Str}{c:Str},c∈cs->c.length<=bf cs
 |d::r,c,h=>by
  rw[(by unfold bf;rw[List.map_cons,List.sum_cons]:bf (d::r)=d.length+bf r)];rcases List.mem_cons.mp h with rfl|h
  ·simp
  ·have:=oM h;lia
theorem qZ(a b:List Str):bf (a++b)=bf a+bf b:=by unfold bf;rw[List.map_append,List.sum_append]
theorem Ip(a:List Str):bf a.dropLast<=bf a:=by
 induction h:a.getLast? with
 |none=>rw[List.getLast?_eq_none_iff.mp h];exact Nat.le_refl _
 |some z=>
  obtain⟨q,rfl⟩:∃q,a=q++[z]:=by
   have hn:a≠[]:=λ q=>by rw[q]at h;contradiction
   rw[List.getLast?_eq_some_getLast hn]at h;exact⟨a.dropLast,by rw[<-Option.some.inj h,List.dropLast_concat_getLast hn]⟩
  rw[List.dropLast_concat,qZ];exact Nat.le_add_right _ _
theorem U7(abs:Bool)(acc:List Str)(c:Str):bf (cT abs acc c)<=bf acc+c.length:=by
 have:=Ip acc;unfold cT;split
 ·simp
 ·split
  ·rw[qZ];show bf acc+(c.length+0)<=_;simp
  ·exact Nat.le_add_right_of_le (by assumption)
theorem rm(abs:Bool):∀(cs acc:List Str),bf (cs.foldl (cT abs) acc)<=bf acc+bf cs/\(cs.foldl (cT abs) acc).length<=acc.length+cs.length:=by
 intro cs;induction cs with
 |nil=>exact λ acc=>⟨Nat.le_refl _,Nat.le_refl _⟩
 |cons c r ih=>
  intro acc;have ih:=ih (cT abs acc c);have h1:=U7 abs acc c;have h2:=Fo abs acc c;rw[List.foldl_cons,List.length_cons,(by unfold bf;rw[List.map_cons,List.sum_cons]:bf (c::r)=c.length+bf r)];lia
theorem La:tx mt=[]:=by decide+kernel
theorem jt{c:Str}(h:Ok c)(h0:c≠mt)(r:List Str):(tx (P (c::r))).head?≠some 47/\P (c::r)≠mt:=by
 obtain⟨a,t,e⟩:∃a t,tx c=a::t:=by
  induction q:tx c with
  |nil=>exact absurd (ji (q.trans La.symm)) h0
  |cons a t=>exact⟨a,t,rfl⟩
 have e':∃t,tx (P (c::r))=a::t:=by
  induction r with
  |nil=>exact⟨t,e⟩
  |cons d r=>exact⟨t++47::tx (P (d::r)),by rw[show tx (P (c::d::r))=tx c++47::tx (P (d::r))from jb c d r,e];rfl⟩
 obtain⟨t',e'⟩:=e';exact⟨by rw[e'];exact λ q=>(λ q=>h (by rw[e,q];exact List.mem_cons_self)) (Option.some.inj q),λ q=>by rw[q]at e';cases e'⟩
theorem Bs(x:Str):cQ (aC++x)=aC:=by unfold cQ;rw[lQ];rfl
theorem Bt(x:Str):bK (aC++x)=x:=by
 unfold bK;rw[if_pos (by rw[lQ];rfl)];apply ji
 rw[acB,lQ];rfl
theorem ahk:aC≠mt:=by decide+kernel
noncomputable def nf(cs:List Str):List Str:=cs.foldl (cT true) []
theorem uZ{cs:List Str}(hn:cs≠[])(ho:∀c∈cs,Ok c):eE (R cs)=nf cs:=by
 unfold eE;rw[Bt,Bs,eV hn ho];rfl
theorem acE{cs:List Str}(hn:cs≠[])(ho:∀c∈cs,Ok c):Bq (R cs)=R (nf cs):=by
 unfold Bq;rw[uZ hn ho,Bs];refine if_neg λ q=>?_
 have:=congrArg tx q;rw[lQ]at this;contradiction
theorem aaR(d:Nat){c:Str}{r:List Str}(ho:∀x∈c::r,Ok x)(h0:c≠mt)(hf:bY (c::r))(l)(S:List O)(hk:8<=S.length):
  ∃J,ao (d+3) 263 [.str (R (c::r))] ⟨l,S⟩=.ok (.str (R (nf (c::r)))) ⟨l,S++J⟩:=by
 have hn:c::r≠[]:=by simp
 unfold bY at hf;have hj:=dI (c::r);have hff:=rm true (c::r) [];have hjn:=dI (nf (c::r));unfold nf at hjn;have s0:bf []=0:=rfl;have h:=rP d (R (c::r)) l S hk (aD (by rw[cL,lQ,List.length_cons,<-cL];lia))
  (λ q=>by have:=congrArg tx q;rw[lQ]at this;contradiction)
  (λ _=>by rw[lQ];exact(jt (ho c List.mem_cons_self) h0 r).1)
  (by rw[Bt,eV hn ho];intro x hx;have:=oM hx;exact aD (by lia))
  (by rw[Bt,eV hn ho];exact aD (by lia))
  (by rw[uZ hn ho];unfold nf;rw[List.length_nil]at hff;exact aD (by lia))
  (by rw[uZ hn ho];unfold nf;exact aD (by lia))
  (by rw[uZ hn ho,Bs];unfold nf;rw[List.length_nil]at hff;rw[cL aC];refine aD ?_;show 1+(P _).length<=_;lia)
 rw[acE hn ho]at h;exact h
theorem adV(d:Nat){c:Str}{r:List Str}(ho:∀x∈c::r,Ok x)(h0:c≠mt)(hf:bY (c::r))(l)(S:List O)(hk:8<=S.length):
  ∃J,ao (d+4) 270 [.str (R (c::r))] ⟨l,S⟩=.ok (.str (R (nf (c::r)))) ⟨l,S++J⟩:=
 Im d _ l S (by
  have hj:=dI (c::r);unfold bY at hf;exact aD (by rw[cL,lQ,List.length_cons,<-cL];lia)) (by rw[oJ,lQ];rfl) (aaR d ho h0 hf) hk
end Mine
namespace Mine
open PySem
theorem mZ{L}{S:List O}{n:Nat}{xs:List V}(e:S[n]?=some (.list xs))(hs:small xs.length=true):rU [.ref n] ⟨L,S⟩=.ok (.int xs.length) ⟨L,S⟩:=by
 exact(Gk (f:=O.seq?) e rfl).trans (if_pos hs)
theorem Fw{L}{S:List O}{n:Nat}{x:V}(e:S[n]?=some (.list [x])){j:Nat}(hs:small j=true):zq (.ref n) (.int j) ⟨L,S⟩=.ok (.ref S.length) ⟨L,S++[.list (List.replicate j x)]⟩:=by
 show onS (St.list? ⟨L,S⟩ n) _=_;rw[bZ e];exact if_pos (by rw[Int.toNat_natCast,hs];rfl)
theorem add_list{L}{S:List O}{a b:Nat}{xs ys:List V}(ea:S[a]?=some (.list xs))(eb:S[b]?=some (.list ys))(hs:small (xs.length+ys.length)=true):jE (.ref a) (.ref b) ⟨L,S⟩=.ok (.ref S.length) ⟨L,S++[.list (xs++ys)]⟩:=by
 show onS (St.list? ⟨L,S⟩ a) _=_;rw[bZ ea];rw[bZ eb];exact if_pos hs
theorem sub_int(i j:Int)(Y:St):gD .Sub (.int i) (.int j) Y=.ok (.int (i - j)) Y:=rfl
theorem Rr{i j:Nat}(h:j<=i)(Y:St):gD .Sub (.int i) (.int j) Y=.ok (.int ((i - j:Nat):Int)) Y:=by
 rw[sub_int,Int.ofNat_sub h]
theorem Lb(x:Str):Mg (.str x) .none=some false:=rfl
theorem aP{S:List O}(o:O):(S++[o])[S.length]?=some o:=gM
theorem Qh{cs:List Str}(ho:∀c∈cs,Ok c/\c≠mt)(hs:small (P cs).length=true)(Y:St):aO (.str (P cs)) Y=some (!decide (cs=[])):=by
 rw[fj _ hs,gR];induction cs with
 |nil=>rfl
 |cons c r=>rw[decide_eq_false (jt (ho c List.mem_cons_self).1 (ho c List.mem_cons_self).2 r).2];rfl
theorem Bu{cl}{cs:List Str}(ho:∀c∈cs,Ok c/\c≠mt)(hs:small (P cs).length=true){live:Bool}{x sep:Str}{L}{S:List O}(hx:aq x ⟨L,S⟩=.ok (.str (P cs)) ⟨L,S⟩)(hsep:aq sep ⟨L,S⟩=.ok (.str aC) ⟨L,S⟩)(k:V->St->ak Fl):
  (((aq x ⟨L,S⟩).bind λ v Y=>aG (aO v Y) Y).bind λ b Y=>if b then(aq x Y).bind (aV cl live ("split":Str) λ Y=>(aq sep Y).bind λ v Y=>(ak.ok [] Y).bind λ w Y=>ak.ok (v::w) Y)else(ak.ok [] Y).bind λ v Y=>Y.new (.list v)).bind k=k (.ref S.length) ⟨L,S++[.list (cs.map .str)]⟩:=by
 have t:=Qh ho hs ⟨L,S⟩;induction cs with
 |nil=>simp only[hx,ak.bind_ok,t,decide_true,Bool.not_true,aA,Bool.false_eq_true,if_false,bO,List.map_nil]
 |cons c r=>
  simp only[hx,ak.bind_ok,t,(decide_eq_false (by simp):decide (c::r=[])=false),Bool.not_false,aA,if_true,tu,hsep,Bp hs,(eV (cs:=c::r) (by simp) (λ x hx=>(ho x hx).1)),bO]
set_option tactic.hygienic true in
theorem aaS(abs:Bool):∀(cs acc:List Str) (Q:Str->Prop),(∀c∈acc,Q c)->(∀c∈cs,c≠mt->c≠cI->Q c)->∀c∈cs.foldl (cT abs) acc,Q c:=by
 intro cs;induction cs with
 |nil=>exact λ acc Q h _=>h
 |cons c r ih=>
  intro acc Q h h2;refine ih _ Q (λ x hx=>?_) λ x hx=>h2 x (List.mem_cons_of_mem _ hx)
  unfold cT at hx;split at hx
  ·exact h x hx
  ·rename_i hc
   split at hx
   ·rcases List.mem_append.mp hx with hx|hx
    ·exact h x hx
    ·rw[List.mem_singleton.mp hx];exact h2 c List.mem_cons_self (λ q=>hc (.inl q)) (λ q=>hc (.inr q))
   ·exact h x (List.dropLast_subset _ hx)
theorem adW{cs:List Str}(ho:∀c∈cs,Ok c):∀c∈nf cs,Ok c/\c≠mt:=
 aaS true cs [] (λ c=>Ok c/\c≠mt) (by simp) λ c hc h1 _=>⟨ho c hc,h1⟩
theorem Ir(d:Nat){c c':Str}{r r':List Str}(ho:∀x∈c::r,Ok x)(h0:c≠mt)(hf:bY (c::r))(ho':∀x∈c'::r',Ok x)(h0':c'≠mt)(hf':bY (c'::r'))(l)(S:List O)(hk:8<=S.length)
  {i:Nat}(hi:i=(bD (nf (c'::r')) (nf (c::r))).length) {out:List Str}(hout:out=List.replicate ((nf (c'::r')).length - i) dd++(nf (c::r)).drop i) (hne:out≠[]):
  ∃J,ao (d+5) 278 [.str (R (c::r)),.str (R (c'::r'))] ⟨l,S⟩=.ok (.str (P out)) ⟨l,S++J⟩:=by
 rw[bW (L:=bQ (some (.str (R (c::r)))) (some (.str (R (c'::r')))) none none none none none none none none none) (S₁:=S) (by kernel_rfl),Zm];have hx:small (R (c::r)).length=true:=by have:=dI (c::r);unfold bY at hf;exact aD (by rw[cL,lQ,List.length_cons,<-cL];lia)
 have d0:=decide_eq_false (λ q=>by have:=congrArg tx q;rw[lQ]at this;contradiction:R (c::r)≠mt);have habs:=λ l (S:List O) (hk:8<=S.length)=>adV d ho h0 hf l S hk
 have habs':=λ l (S:List O) (hk:8<=S.length)=>adV d ho' h0' hf' l S hk
 have fit:∀cs:List Str,bY cs->bf (nf cs)+(nf cs).length<=1000:=λ cs h=>by
  have:=rm true cs [];rw[List.length_nil,show bf []=0 from rfl]at this;unfold nf;unfold bY at h;lia
 have f1:=fit _ hf;have f2:=fit _ hf';have p1:=adW ho;have p2:=adW ho';have eR:∀cs,(∀x∈cs,Ok x/\x≠mt)->Txt.lstripChars (R cs) aC=P cs:=λ cs h=>aaQ (by
  induction cs with
  |nil=>rw[show P []=mt from rfl,La];nofun
  |cons c r=>exact(jt (h c List.mem_cons_self).1 (h c List.mem_cons_self).2 r).1)
 have r1:=eR _ p1;have r2:=eR _ p2;generalize R (c::r)=X at*;generalize R (c'::r')=X' at*;generalize nf (c'::r')=as at*;generalize nf (c::r)=ps at*;have s1:small (R ps).length=true:=by have:=dI ps;exact aD (by rw[cL,lQ,List.length_cons,<-cL];lia)
 have s2:small (R as).length=true:=by have:=dI as;exact aD (by rw[cL,lQ,List.length_cons,<-cL];lia)
 have hile:i<=as.length:=by rw[hi];exact qY _ _
 obtain⟨J1,hJ1⟩:=habs' (bQ (some (.str X)) (some (.str X')) (some (.str cI)) (some (.str aC)) (some (.str dd)) none none none none none none) (S++bk++bk) (jP (jP hk));generalize hS1:S++bk++bk++J1=S1 at hJ1;have k1:8<=S1.length:=hS1▸jP (jP (jP hk));obtain⟨J2,hJ2⟩:=habs (bQ (some (.str X)) (some (.str X')) (some (.str cI)) (some (.str aC)) (some (.str dd)) (some (.str (P as))) none none none none none) S1 k1;generalize hS2:S1++J2=S2 at hJ2;obtain⟨rr,J3,hJ3,hr⟩:=uY (d+3) (bQ (some (.str X)) (some (.str X')) (some (.str cI)) (some (.str aC)) (some (.str dd)) (some (.str (P as))) (some (.str (P ps))) (some (.ref S2.length)) (some (.ref (S2.length+1))) none none)
  (S2++[.list (as.map .str)]++[.list (ps.map .str)]++[.list [.ref S2.length,.ref (S2.length+1)]]) (m:=S2.length+2) (a:=S2.length) (b:=S2.length+1) (x:=as) (y:=ps) (jP (jP (jP (hS2▸jP k1)))) (at3 S2 _ _ _ 2) (at3 S2 _ _ _ 0) (at3 S2 _ _ _ 1) (aD (by lia)) (aD (by lia))
 generalize hS3:S2++[.list (as.map .str)]++[.list (ps.map .str)]++[.list [.ref S2.length,.ref (S2.length+1)]]++J3=S3 at hJ3 hr;have ea:S3[S2.length]?=some (.list (as.map .str)):=hS3▸au (at3 S2 _ _ _ 0);have ep:S3[S2.length+1]?=some (.list (ps.map .str)):=hS3▸au (at3 S2 _ _ _ 1);have hl1:=λ L=>mZ (L:=L) hr (by rw[List.length_map];exact aD (by rw[<-hi];lia))
 rw[List.length_map,<-hi]at hl1;obtain⟨J,hJ⟩:S <+: S3++[O.list [.str dd]]++[O.list (List.replicate (as.length - i) (.str dd))]++[O.list ((ps.map V.str).drop i)]++[O.list (out.map .str)]:=
  eG (eG (eG (eG (hS3▸eG (eG (eG (eG (hS2▸eG (hS1▸eG (eG (List.prefix_append ..) _) _) _) _) _) _) _) _) _) _) _
 replace hJ:=hJ.symm;refine⟨J,?_⟩;have hfs:=λ y l S=>cH (d+3) y l S
 simp only[agQ,Zh,Zi,Zj,Rd,Ej,Ek,El,Zk,Rf,Em,ae3,ae5,ae4,ae6,ae7,ae8,afa,ak.bind_ok,aB,cH,fj _ hx,gR,d0,Bool.not_false,Bool.not_true,gQ,bx,aA,if_false,Bool.false_eq_true,Lb];have q0:Eo (ao (d+4)) ⟨bQ (some (.str X)) (some (.str X')) (some (.str cI)) (some (.str aC)) (some (.str dd)) none none none none none none,S++bk++bk⟩=.ok .next ⟨bQ (some (.str X)) (some (.str X')) (some (.str cI)) (some (.str aC)) (some (.str dd)) (some (.str (P as))) none none none none none,S1⟩:=by
  rw[<-r2];exact bd (bd (bd rfl hJ1) ((yp _ _).trans (Fp s2 _))) rfl
 have q1:Ep (ao (d+4)) ⟨bQ (some (.str X)) (some (.str X')) (some (.str cI)) (some (.str aC)) (some (.str dd)) (some (.str (P as))) none none none none none,S1⟩=.ok .next ⟨bQ (some (.str X)) (some (.str X')) (some (.str cI)) (some (.str aC)) (some (.str dd)) (some (.str (P as))) (some (.str (P ps))) none none none none,S2⟩:=by
  rw[<-r1];exact bd (bd (bd rfl hJ2) ((yp _ _).trans (Fp s1 _))) rfl
 have q2:Er (ao (d+4)) ⟨bQ (some (.str X)) (some (.str X')) (some (.str cI)) (some (.str aC)) (some (.str dd)) (some (.str (P as))) (some (.str (P ps))) none none none none,S2⟩=.ok .next ⟨bQ (some (.str X)) (some (.str X')) (some (.str cI)) (some (.str aC)) (some (.str dd)) (some (.str (P as))) (some (.str (P ps))) (some (.ref S2.length)) none none none,S2++[.list (as.map .str)]⟩:=
  Bu p2 (by have:=dI as;exact aD (by lia)) rfl rfl _
 have q3:Es (ao (d+4)) ⟨bQ (some (.str X)) (some (.str X')) (some (.str cI)) (some (.str aC)) (some (.str dd)) (some (.str (P as))) (some (.str (P ps))) (some (.ref S2.length)) none none none,S2++[.list (as.map .str)]⟩=.ok .next ⟨bQ (some (.str X)) (some (.str X')) (some (.str cI)) (some (.str aC)) (some (.str dd)) (some (.str (P as))) (some (.str (P ps))) (some (.ref S2.length)) (some (.ref (S2.length+1))) none none,S2++[.list (as.map .str)]++[.list (ps.map .str)]⟩:=by
  refine(Bu p1 (by have:=dI ps;exact aD (by lia)) rfl rfl _).trans ?_;rw[List.length_append];rfl
 have q4:wF (ao (d+4)) ⟨bQ (some (.str X)) (some (.str X')) (some (.str cI)) (some (.str aC)) (some (.str dd)) (some (.str (P as))) (some (.str (P ps))) (some (.ref S2.length)) (some (.ref (S2.length+1))) none none,S2++[.list (as.map .str)]++[.list (ps.map .str)]⟩=.ok .next ⟨bQ (some (.str X)) (some (.str X')) (some (.str cI)) (some (.str aC)) (some (.str dd)) (some (.str (P as))) (some (.str (P ps))) (some (.ref S2.length)) (some (.ref (S2.length+1))) (some (.int i)) none,S3⟩:=by
  simp only[wF,Yz,YB,ak.bind_ok,bO,List.length_append,List.length_cons,List.length_nil,Nat.zero_add,Nat.add_assoc,Nat.reduceAdd,hJ3,hS3,hl1,afc]
 have q5:wG (ao (d+4)) ⟨bQ (some (.str X)) (some (.str X')) (some (.str cI)) (some (.str aC)) (some (.str dd)) (some (.str (P as))) (some (.str (P ps))) (some (.ref S2.length)) (some (.ref (S2.length+1))) (some (.int i)) none,S3⟩=.ok .next ⟨bQ (some (.str X)) (some (.str X')) (some (.str cI)) (some (.str aC)) (some (.str dd)) (some (.str (P as))) (some (.str (P ps))) (some (.ref S2.length)) (some (.ref (S2.length+1))) (some (.int i)) (some (.ref (S3.length+3))),S++J⟩:=by
  have l1:=λ L=>mZ (L:=L) (au (J:=[O.list [.str dd]]) ea) (by rw[List.length_map];exact aD (by lia))
  have l2:=λ L=>Fw (L:=L) (aP (S:=S3) (.list [.str dd])) (j:=as.length - i) (aD (by lia))
  have l3:=λ L=>jj (L:=L) (au (J:=[O.list (List.replicate (as.length - i) (.str dd))]) (au (J:=[O.list [.str dd]]) ep)) (by rw[List.length_map];exact aD (by lia)) (i:=i) (by lia)
  have l4:=λ L=>add_list (L:=L) (au (J:=[O.list ((ps.map V.str).drop i)]) (aP (S:=S3++[O.list [.str dd]]) (O.list (List.replicate (as.length - i) (.str dd))))) (aP (S:=S3++[O.list [.str dd]]++[O.list (List.replicate (as.length - i) (.str dd))]) (.list ((ps.map V.str).drop i))) (by rw[List.length_replicate,List.length_drop,List.length_map];exact aD (by lia))
  rw[List.length_map]at l1;have eo:List.replicate (as.length - i) (V.str dd)++(ps.map V.str).drop i=out.map .str:=by rw[hout,List.map_append,List.map_replicate,List.map_drop]
  rw[eo,hJ]at l4;simp only[wG,ae9,Yz,afb,YB,ak.bind_ok,bO,l1,Rr hile,l2,l3,l4,ab7];simp only[List.length_append,List.length_cons,List.length_nil,Nat.zero_add,Nat.add_assoc,Nat.reduceAdd]
 have eo:(S++J)[S3.length+3]?=some (.list (out.map .str)):=by rw[<-hJ,List.append_assoc,List.append_assoc,List.append_assoc];exact dX S3 _ 3
 have olen:out.length<=2000:=by rw[hout,List.length_append,List.length_replicate,List.length_drop];lia
 have osum:bf out<=3000:=by
  have e1:∀n,bf (List.replicate n dd)<=2*n:=λ n=>by
   induction n with
   |zero=>exact Nat.zero_le _
   |succ n ih=>
    rw[List.replicate_succ];unfold bf at ih ⊢;rw[List.map_cons,List.sum_cons];have:dd.length=2:=by decide+kernel
    lia
  have e2:bf (ps.drop i)<=bf ps:=by
   have:=qZ (ps.take i) (ps.drop i);rw[List.take_append_drop]at this;lia
  have:=e1 (as.length - i);rw[hout,qZ];lia
 have q6:Et (ao (d+4)) ⟨bQ (some (.str X)) (some (.str X')) (some (.str cI)) (some (.str aC)) (some (.str dd)) (some (.str (P as))) (some (.str (P ps))) (some (.ref S2.length)) (some (.ref (S2.length+1))) (some (.int i)) (some (.ref (S3.length+3))),S++J⟩=.ok .next ⟨bQ (some (.str X)) (some (.str X')) (some (.str cI)) (some (.str aC)) (some (.str dd)) (some (.str (P as))) (some (.str (P ps))) (some (.ref S2.length)) (some (.ref (S2.length+1))) (some (.int i)) (some (.ref (S3.length+3))),S++J⟩:=by
  have t:=λ L=>j7 (L:=L) eo (by rw[List.length_map];exact aD (by lia))
  have:(out.map V.str).isEmpty=false:=by induction out with|nil=>exact absurd rfl hne|cons _ _=>rfl
  rw[this]at t;exact bd (bd (bd rfl (ob (t _))) rfl) rfl
 have jo:=λ L=>oK (L:=L) eo (aD (by lia)) (aD (by lia))
 have q7:Eu (ao (d+4)) ⟨bQ (some (.str X)) (some (.str X')) (some (.str cI)) (some (.str aC)) (some (.str dd)) (some (.str (P as))) (some (.str (P ps))) (some (.ref S2.length)) (some (.ref (S2.length+1))) (some (.int i)) (some (.ref (S3.length+3))),S++J⟩=.ok (.ret (.str (P out))) ⟨bQ (some (.str X)) (some (.str X')) (some (.str cI)) (some (.str aC)) (some (.str dd)) (some (.str (P as))) (some (.str (P ps))) (some (.ref S2.length)) (some (.ref (S2.length+1))) (some (.int i)) (some (.ref (S3.length+3))),S++J⟩:=by
  exact bd (bd rfl ((gk _ _).trans (jo _))) rfl
 have qq:Rh (ao (d+4)) ⟨bQ (some (.str X)) (some (.str X')) (some (.str cI)) (some (.str aC)) (some (.str dd)) none none none none none none,S++bk++bk⟩=.ok (.ret (.str (P out))) ⟨bQ (some (.str X)) (some (.str X')) (some (.str cI)) (some (.str aC)) (some (.str dd)) (some (.str (P as))) (some (.str (P ps))) (some (.ref S2.length)) (some (.ref (S2.length+1))) (some (.int i)) (some (.ref (S3.length+3))),S++J⟩:=by
  exact th q0 (th q1 (th q2 (th q3 (th q4 (th q5 (th q6 (congrArg (λ r=>aj r λ Y=>.ok .next Y) q7)))))))
 have q9:Ow (ao (d+4)) ⟨bQ (some (.str X)) (some (.str X')) (some (.str cI)) (some (.str aC)) (some (.str dd)) none none none none none none,S++bk++bk⟩=.ok (.ret (.str (P out))) ⟨bQ (some (.str X)) (some (.str X')) (some (.str cI)) (some (.str aC)) (some (.str dd)) (some (.str (P as))) (some (.str (P ps))) (some (.ref S2.length)) (some (.ref (S2.length+1))) (some (.int i)) (some (.ref (S3.length+3))),S++J⟩:=by
  unfold Ow uo;rw[qq]
 refine(congrArg (λ r=>kj l (aj r _)) q9).trans rfl
theorem Ld{σ₂:St}{acc:Nat}{ys:List V}{y:V}{g:St->ak Unit}(h3:σ₂.sto[acc]?=some (.list ys))(hk:8<=acc)(hs:small ys.length=true):(onS ((σ₂.sto[acc]?).bind (ad6 true y)) λ o=>grd (decide (k0<=acc)) (g (σ₂.upd acc o)))=g (σ₂.upd acc (.list (ys++[y]))):=by
 rw[h3];exact(cA (if_pos hs)).trans (if_pos (decide_eq_true hk))
inductive adX(ifs:St->ak Bool)(elt:St->ak V)(acc:Nat)(I:List V->St->Prop)(ys:List V)(Y:St):Prop
 |skip {σ₁:St}(e:ifs Y=.ok false σ₁) (h:I ys σ₁)
 |put {σ₁:St}{y:V}{σ₂:St}(e:ifs Y=.ok true σ₁) (e2:elt σ₁=.ok y σ₂) (e3:σ₂.sto[acc]?=some (.list ys)) (hs:small ys.length=true) (h:I (ys++[y]) (σ₂.upd acc (.list (ys++[y]))))
inductive aaT(I:List V->St->Prop)(r:ak Unit):Prop
 |mk (ys:List V) (Y':St) (e:r=.ok () Y') (h:I ys Y')
theorem U8{α:Type}{f:α->V}{ok:St->Bool}{x:Str}{ifs:St->ak Bool}{elt:St->ak V}{acc:Nat}(I:List α->List V->St->Prop)(hk:8<=acc)(hok:∀r ys Y,I r ys Y->ok Y=true)
  (hb:∀v r ys Y,I (v::r) ys Y->adX ifs elt acc (I r) ys {Y with loc:=aZ Y.loc x (f v)}) (xs:List α):∀ys Y,I xs ys Y->aaT (I []) (fD true ok x ifs elt acc (xs.map f) Y):=by
 induction xs with
 |nil=>exact λ ys Y h=>⟨ys,Y,if_pos (hok _ _ _ h),h⟩
 |cons v r ih=>
  intro ys Y h;show aaT _ (grd (ok Y) _);rw[hok _ _ _ h];show aaT _ (ak.bindN _ _);induction hb v r ys Y h with
  |skip h1 h2=>rw[h1];exact ih ys _ h2
  |put h1 h2 h3 h4 h5=>
   simp only[h1,h2,ak.bindN_ok,Ld h3 hk h4];exact ih _ _ h5
inductive ahl(I:List V->St->Prop)(n:Nat)(L:List (Str×Option V))(r:ak V):Prop
 |mk (ys:List V) (Y':St) (e:r=.ok (.ref n) ⟨L,Y'.sto⟩) (h:I ys Y')
theorem Qi{α:Type}{f:α->V}{x:Str}{ifs:St->ak Bool}{elt:St->ak V}{v:V}{L}{S:List O}{xs:List α}(hi:bN v ⟨L,S⟩=some (xs.map f))(hk:8<=S.length)(I:List α->List V->St->Prop)(hok:∀r ys Y,I r ys Y->aR v ⟨L,S⟩ Y=true)
  (hb:∀v r ys Y,I (v::r) ys Y->adX ifs elt S.length (I r) ys {Y with loc:=aZ Y.loc x (f v)})
  (h0:I xs [] ⟨[],S++[.list []]⟩):ahl (I []) S.length L (eF true x ifs elt v ⟨L,S⟩):=by
 obtain⟨ys,Y',h1,h2⟩:=U8 I hk hok hb xs [] _ h0;refine⟨ys,Y',?_,h2⟩;dsimp only[eF];rw[hi];show(fD true _ x ifs elt S.length (xs.map f) ⟨[],S++[.list []]⟩).bindN _=_;rw[h1];rfl
theorem Qj{l:List (Str×Option V)}{x:Str}{v:V}(h:l=[]\/∃v,l=[(x,some v)]):aZ l x v=[(x,some v)]:=by
 rcases h with rfl|⟨w,rfl⟩
 ·rfl
 ·exact if_pos (beq_self_eq_true x)
inductive ahm(x:Str)(S:List O)(xs:List Str)(p:Str->Bool)(P:List O->Prop)(r:List Str)(ys:List V)(Y:St):Prop
 |mk (zs:List Str) (J:List O) (l:List (Str×Option V)) (e:Y=⟨l,S++[.list ys]++J⟩) (hl:l=[]\/∃v,l=[(x,some v)]) (hm:∀c∈r,c∈xs) (hy:ys=zs.map .str) (hz:zs++r.filter p=xs.filter p) (hn:zs.length+r.length<=xs.length) (hP:P J)
theorem Bv{f:Str->V}{x:Str}{ifs:St->ak Bool}{elt:St->ak V}{v:V}{L}{S:List O}{xs:List Str}{p:Str->Bool}{P:List O->Prop}(p0:P [])(pa:∀a b,P a->P b->P (a++b))(hi:bN v ⟨L,S⟩=some (xs.map f))(hk:8<=S.length)(hs:small xs.length=true)(hst:∀L' J,aR v ⟨L,S⟩ ⟨L',S++J⟩=true)
  (hb:∀c∈xs,∀(J:List O),∃J',ifs ⟨[(x,some (f c))],S++J⟩=.ok (p c) ⟨[(x,some (f c))],S++J++J'⟩/\P J')
  (he:∀c∈xs,∀(J:List O),elt ⟨[(x,some (f c))],S++J⟩=.ok (.str c) ⟨[(x,some (f c))],S++J⟩):
  ∃J,eF true x ifs elt v ⟨L,S⟩=.ok (.ref S.length) ⟨L,S++[.list ((xs.filter p).map .str)]++J⟩/\P J:=by
 obtain⟨ys,Y',h1,h2⟩:=Qi (f:=f) (x:=x) (ifs:=ifs) (elt:=elt) hi hk (ahm x S xs p P)
  (λ r ys Y ⟨zs,J,l,e,_,_,_,_,_,_⟩=>by rw[e,List.append_assoc];exact hst _ _)
  (λ c r ys Y hI=>by
   obtain⟨zs,J,l,rfl,hl,hm,rfl,hz,hn,hP⟩:=hI;refine lU λ Zz toG=>?_
   replace toG:=(Qj (v:=f c) hl)▸toG;have hc:=hm c List.mem_cons_self;obtain⟨J',hJ',hP'⟩:=hb c hc ([.list (zs.map .str)]++J);have he':=he c hc ([.list (zs.map .str)]++(J++J'));rw[<-List.append_assoc]at he';rw[<-List.append_assoc,List.append_assoc _ J J']at hJ';have hm':=λ y hy=>hm y (List.mem_cons_of_mem _ hy)
   have hPP:=pa _ _ hP hP';rw[List.filter_cons]at hz;generalize J++J'=J at*;induction hp:p c with
   |false=>
    rw[hp]at hJ' hz;exact toG (.skip hJ' ⟨zs,J,_,rfl,.inr ⟨_,rfl⟩,hm',rfl,hz,Nat.le_of_succ_le hn,hPP⟩)
   |true=>
    rw[hp]at hJ' hz;refine toG (.put hJ' he' ?_ ?_ ⟨zs++[c],J,[(x,some (f c))],?_,.inr ⟨_,rfl⟩,hm',by rw[List.map_append];rfl,by rw[List.append_assoc];exact hz,by rw[List.length_append];exact(Nat.succ_add_eq_add_succ zs.length r.length).symm▸hn,hPP⟩)
    ·show((S++[.list (zs.map .str)])++J)[S.length]?=_;simp
    ·rw[List.length_map];exact cZ (Nat.le_trans (Nat.le_add_right ..) hn) hs
    ·show St.mk _ (List.set (S++[.list (zs.map .str)]++J) S.length _)=_;rw[List.append_assoc,List.set_append,if_neg (Nat.lt_irrefl _),Nat.sub_self,List.append_assoc];rfl)
  ⟨[],[],[],by rw[List.append_nil],.inl rfl,λ _ h=>h,rfl,rfl,Nat.le_of_eq (Nat.zero_add _),p0⟩
 obtain⟨zs,J,l,rfl,-,-,rfl,hz,-,hP⟩:=h2;simp only[List.filter_nil,List.append_nil]at hz;exact⟨J,by rw[h1,hz],hP⟩
theorem ju{x:Str}{ifs:St->ak Bool}{elt:St->ak V}{v:V}{L}{S:List O}{xs:List Str}{p:Str->Bool}(hi:bN v ⟨L,S⟩=some (xs.map .str))(hk:8<=S.length)(hs:small xs.length=true)(hst:∀L' J,aR v ⟨L,S⟩ ⟨L',S++J⟩=true)
  (hb:∀c∈xs,∀(J:List O),∃J',ifs ⟨[(x,some (.str c))],S++J⟩=.ok (p c) ⟨[(x,some (.str c))],S++J++J'⟩)
  (he:∀c (J:List O),elt ⟨[(x,some (.str c))],S++J⟩=.ok (.str c) ⟨[(x,some (.str c))],S++J⟩):
  ∃J,eF true x ifs elt v ⟨L,S⟩=.ok (.ref S.length) ⟨L,S++[.list ((xs.filter p).map .str)]++J⟩:=
 let ⟨J,h,_⟩:=Bv (P:=λ _=>True) trivial (λ _ _ _ _=>trivial) hi hk hs hst (λ c hc J=>let ⟨J',h⟩:=hb c hc J;⟨J',h,trivial⟩) λ c _=>he c
 ⟨J,h⟩
open Classical in
theorem acF{d:Nat}{m kt l k:Nat}{T:List O}{L}{all:List V}(hm:T[m]?=some (.mapo 214 kt))(hkt:T[kt]?=some (.tup [.ref k]))(hl:T[l]?=some (.list all))(hk:k < T.length)(h1:k≠m)(h2:k≠kt)(h3:k≠l):
  ∀(xs:List Str) (i:Nat) (J:List O),∃J',dY (ao (d+1)) 214 m kt l k all i (xs.map .str) ⟨L,T.set k (.eit l i)++J⟩=.ok (xs.map .str) ⟨L,T.set k .any++J'⟩:=by
 have okm:∀i J,Dc 214 m kt l k i all ⟨L,T.set k (.eit l i)++J⟩=true:=λ i J=>by
  refine decide_eq_true ⟨au ?_,au ?_,au ?_,au ?_⟩
  ·rw[List.getElem?_set_ne h1];exact hm
  ·rw[List.getElem?_set_ne h2];exact hkt
  ·exact List.getElem?_set_self hk
  ·rw[List.getElem?_set_ne h3];exact hl
 have up:∀i J o,(T.set k (.eit l i)++J).set k o=T.set k o++J:=λ i J o=>by
  rw[List.set_append,if_pos (by rw[List.length_set];exact hk),List.set_set]
 intro xs;induction xs with
 |nil=>
  intro i J;exact⟨J,(if_pos (okm i J)).trans (by show ak.ok [] (St.mk L ((T.set k (.eit l i)++J).set k .any))=_;rw[up];rfl)⟩
 |cons x r ih=>
  intro i J;obtain⟨J',h⟩:=ih (i+1) (J++bk);refine⟨J',(if_pos (okm i J)).trans ?_⟩;have e:({loc:=L,sto:=T.set k (.eit l i)++J}:St).upd k (.eit l (i+1))=⟨L,T.set k (.eit l (i+1))++J⟩:=by
   show St.mk L ((T.set k (.eit l i)++J).set k (.eit l (i+1)))=_;rw[up]
  simp only[e,cH,ak.bindN_ok,List.append_assoc,h];rfl
theorem acG{d:Nat}{m:Nat}{S:List O}{L}{xs:List Str}(h:S[m]?=some (.list (xs.map .str)))(hs:small xs.length=true)(hk:8<=S.length):
  ∃J,(b8 (ao (d+1)) .map [.fn 214,.ref m] ⟨L,S⟩)=.ok (.ref (S.length+2)) ⟨L,S++[.eit m 0,.tup [.ref S.length],.mapo 214 (S.length+1)]⟩/\
   b8 (ao (d+1)) .tuple [.ref (S.length+2)] ⟨L,S++[.eit m 0,.tup [.ref S.length],.mapo 214 (S.length+1)]⟩=.ok (.ref (S.length+3+J.length)) ⟨L,S++[.any,.tup [.ref S.length],.mapo 214 (S.length+1)]++J++[.tup (xs.map .str)]⟩:=by
 have hm:=(List.getElem?_eq_some_iff.mp h).1;generalize hT:S++[O.eit m 0,.tup [.ref S.length],.mapo 214 (S.length+1)]=T;have e1:T[S.length+2]?=some (.mapo 214 (S.length+1)):=hT▸dX S _ 2;have e2:T[S.length+1]?=some (.tup [.ref S.length]):=hT▸dX S _ 1;have e3:T[S.length]?=some (.eit m 0):=hT▸dX S _ 0;have e4:T[m]?=some (.list (xs.map .str)):=by rw[<-hT];exact au h
 have hlen:T.length=S.length+3:=by rw[<-hT,List.length_append];rfl
 obtain⟨J,hJ⟩:=acF (d:=d) (L:=L) e1 e2 e4 (by lia) (by simp) (by simp) (by exact Nat.ne_of_gt (by assumption)) xs 0 [];rw[List.append_nil,qb e3]at hJ;refine⟨J,?_,?_⟩
 ·refine(cA (bZ h)).trans ?_;rw[<-hT];show ak.ok (V.ref (S++[O.eit m 0,O.tup [V.ref S.length]]).length) _=_;rw[List.length_append];show ak.ok _ (St.mk L (S++_++_))=_;rw[List.append_assoc];rfl
 ·refine(cA e1).trans ?_;show onS (((T[S.length+1]?).bind O.tup?).bind jD) _=_;rw[e2];show onS ((T[S.length]?).bind O.eit?) _=_;rw[e3];show onS (St.list? ⟨L,T⟩ m) _=_;rw[bZ e4];have c1:small (xs.map V.str).length=true:=by rw[List.length_map];exact hs
  have c2:decide (k0<=S.length)=true:=decide_eq_true hk;refine(if_pos (by rw[c1,c2];rfl)).trans ?_;rw[hJ,ak.bindN_ok,bO];have e5:T.set S.length .any=S++[.any,.tup [.ref S.length],.mapo 214 (S.length+1)]:=by
   rw[<-hT,List.set_append,if_neg (Nat.lt_irrefl _),Nat.sub_self];rfl
  rw[e5];simp only[List.length_append,List.length_cons,List.length_nil]
theorem U9{L}{S:List O}{n:Nat}{v:V}{xs:List V}(e:S[n]?=some (.tup (v::xs)))(hs:small (v::xs).length=true):cM (.ref n) (.int 0) ⟨L,S⟩=some v:=(bB e).trans ((if_pos hs).trans (bB (za (i:=0) (Nat.succ_pos _) hs)))
theorem Va{L}{S:List O}{n:Nat}{xs:List V}(e:S[n]?=some (.tup xs))(hs:small xs.length=true):aO (.ref n) ⟨L,S⟩=some (!xs.isEmpty):=(bB e).trans (if_pos hs)
theorem ru{L}{S:List O}{c:Nat}{v:V}{o:Option V}(e:S[c]?=some (.cell o))(hk:8<=c):Cd c v ⟨L,S⟩=.ok () ⟨L,S.set c (.cell (some v))⟩:=(cA e).trans (if_pos (decide_eq_true hk))
theorem dh{L}{S:List O}{c:Nat}{v:V}(e:S[c]?=some (.cell (some v))):mF c ⟨L,S⟩=.ok v ⟨L,S⟩:=by
 show onS ((S[c]?).bind O.cell?) _=_;rw[e];rfl
theorem qd{ok:St->Bool}{x:Str}{ifs:St->ak Bool}{elt:St->ak V}{acc:Nat}{v:V}{r:List V}{Y σ₁ σ₂:St}{b:Bool}{bs:List Bool}(h0:ok Y=true)(h1:ifs {Y with loc:=aZ Y.loc x v}=.ok true σ₁)(h2:elt σ₁=.ok (.bool b) σ₂)
  (h3:σ₂.sto[acc]?=some (.bset bs)) (hk:8<=acc) (hb:bs=[]\/bs=[b]):fD false ok x ifs elt acc (v::r) Y=fD false ok x ifs elt acc r (σ₂.upd acc (.bset (if bs.contains b then bs else bs++[b]))):=by
 refine(if_pos h0).trans ?_;simp only[h1,h2,ak.bindN_ok];rw[h3];exact(cA (a:=O.bset (if bs.contains b then bs else bs++[b])) (if_pos (by rw[decide_eq_true hb];rfl))).trans (if_pos (decide_eq_true hk))
theorem pJ{ok:St->Bool}{x:Str}{ifs:St->ak Bool}{elt:St->ak V}{acc:Nat}{v y:V}{r ys:List V}{Y σ₁ σ₂:St}(h0:ok Y=true)(h1:ifs {Y with loc:=aZ Y.loc x v}=.ok true σ₁)(h2:elt σ₁=.ok y σ₂)
  (h3:σ₂.sto[acc]?=some (.list ys)) (hk:8<=acc) (hs:small ys.length=true):fD true ok x ifs elt acc (v::r) Y=fD true ok x ifs elt acc r (σ₂.upd acc (.list (ys++[y]))):=by
 refine(if_pos h0).trans ?_;rw[h1,ak.bindN_ok,if_pos rfl,h2,ak.bindN_ok,Ld h3 hk hs]
theorem Fx{x:Str}{ifs:St->ak Bool}{elt:St->ak V}{v a b p q:V}{L}{S J1 J2:List O}(hi:bN v ⟨L,S⟩=some [a,b])(hk:8<=S.length)(hst:∀L' J,aR v ⟨L,S⟩ ⟨L',S++J⟩=true)(ht:∀Y,ifs Y=.ok true Y)
  (h1:elt ⟨[(x,some a)],S++[.list []]⟩=.ok p ⟨[(x,some a)],S++[.list []]++J1⟩) (h2:elt ⟨[(x,some b)],S++[.list [p]]++J1⟩=.ok q ⟨[(x,some b)],S++[.list [p]]++J1++J2⟩):
  eF true x ifs elt v ⟨L,S⟩=.ok (.ref S.length) ⟨L,S++[.list [p,q]]++J1++J2⟩:=by
 have up:∀o o' (J:List O),(S++[o]++J).set S.length o'=S++[o']++J:=Yr S;have st:∀L' o (J:List O),aR v ⟨L,S⟩ ⟨L',S++[o]++J⟩=true:=λ L' o J=>by rw[List.append_assoc];exact hst _ _
 dsimp only[eF];rw[hi];show(fD true _ x ifs elt S.length [a,b] ⟨[],S++[.list []]⟩).bindN _=_;rw[pJ (ys:=[]) (hst _ _) (ht _) h1 (lJ ..) hk rfl];rw[(by show St.mk _ _=_;rw[up];rfl:St.upd ⟨[(x,some a)],S++[.list []]++J1⟩ S.length (.list ([]++[p]))=⟨[(x,some a)],S++[.list [p]]++J1⟩),pJ (ys:=[p]) (y:=q) (st _ _ _) (ht _) (by rw[<-h2];exact congrArg (λ l=>elt ⟨l,_⟩) (if_pos (beq_self_eq_true x))) (by rw[List.append_assoc _ J1];exact lJ ..) hk rfl];rw[(by show St.mk _ ((S++[O.list [p]]++J1++J2).set S.length (O.list [p,q]))=_;rw[List.append_assoc _ J1,up,List.append_assoc _ J1]:St.upd ⟨[(x,some b)],S++[.list [p]]++J1++J2⟩ S.length (.list ([p]++[q]))=⟨[(x,some b)],S++[.list [p,q]]++J1++J2⟩)];show(grd _ (ak.ok () _):ak Unit).bindN _=_;unfold grd;rw[if_pos (by rw[List.append_assoc _ J1];exact st _ _ _)];rfl
theorem CW{x:Str}{ifs:St->ak Bool}{elt:St->ak V}{v a b:V}{t:Bool}{L}{S:List O}(hi:bN v ⟨L,S⟩=some [a,b])(hk:8<=S.length)(hst:∀L' J,aR v ⟨L,S⟩ ⟨L',S++J⟩=true)(ht:∀Y,ifs Y=.ok true Y)
  (h1:∀o,elt ⟨[(x,some a)],S++[o]⟩=.ok (.bool t) ⟨[(x,some a)],S++[o]⟩) (h2:∀o,elt ⟨[(x,some b)],S++[o]⟩=.ok (.bool t) ⟨[(x,some b)],S++[o]⟩):
  eF false x ifs elt v ⟨L,S⟩=.ok (.ref S.length) ⟨L,S++[.bset [t]]⟩:=by
 have up:∀o o',(S++[o]).set S.length o'=S++[o']:=λ o o'=>nU S _ 0 o'
 dsimp only[eF];rw[hi];show(fD false _ x ifs elt S.length [a,b] ⟨[],S++[.bset []]⟩).bindN _=_;rw[qd (bs:=[]) (b:=t) (hst _ _) (ht _) (h1 _) gM hk (.inl rfl)];rw[(by show St.mk _ _=_;rw[up];rfl:St.upd ⟨[(x,some a)],S++[.bset []]⟩ S.length (.bset (if [].contains t then []else []++[t]))=⟨[(x,some a)],S++[.bset [t]]⟩),qd (bs:=[t]) (b:=t) (hst _ _) (ht _) (by rw[<-h2];exact congrArg (λ l=>elt ⟨l,_⟩) (if_pos (beq_self_eq_true x))) gM hk (.inr rfl)];clear h1 h2;rw[(by show St.mk _ _=_;rw[up];induction t<;>rfl:St.upd ⟨[(x,some b)],S++[.bset [t]]⟩ S.length (.bset (if [t].contains t then [t]else [t]++[t]))=⟨[(x,some b)],S++[.bset [t]]⟩)];show(grd _ (ak.ok () _):ak Unit).bindN _=_;unfold grd;rw[if_pos (hst _ _)];rfl
theorem acH{i:Nat}{L}{S:List O}{t:Bool}(e:S[i]?=some (.bset [t]))(x:Str):yX [x] (.ref i) ⟨L,S⟩=.ok () (aF x (.bool t) ⟨L,S⟩):=by
 show onS (S[i]?) _=_;rw[e];rfl
theorem j9{v:V}{n:Nat}{L L'}{S J:List O}{xs:List V}(h:S[n]?=some (.list xs))(hv:v=.ref n):aR v ⟨L,S⟩ ⟨L',S++J⟩=true:=by rw[hv];exact j8 h (au h)
theorem yt{v:V}{n:Nat}{L L'}{S J:List O}{xs:List V}(h:S[n]?=some (.tup xs))(hv:v=.ref n):aR v ⟨L,S⟩ ⟨L',S++J⟩=true:=by rw[hv];exact d8 h (au h)
theorem Rt{cs:List Str}(hn:cs≠[])(ho:∀c∈cs,Ok c):Txt.split (R cs) aC=mt::cs:=by
 induction cs with
 |nil=>exact absurd rfl hn
 |cons c r=>
  exact eV (by simp) (List.forall_mem_cons.mpr ⟨by unfold Ok;rw[La];nofun,ho⟩)
theorem Le(x:Str):Txt.startswith (aC++x) aC=true:=by rw[oJ,lQ];rfl
noncomputable def plain(c:Str):Bool:=!decide (c=mt)&&!decide (c=cI)
theorem Bw{cl:Nat->List V->St->ak V}{k n:Nat}{L}{S:List O}{cs:List Str}(en:S[n]?=some (.list ((mt::cs).map .str)))(ec:S[k+1]?=some (.cell (some (.str cI))))(hk:8<=S.length)(hs:small (mt::cs).length=true)(hc:∀c∈mt::cs,small c.length=true)(hp:∀c∈cs,c≠mt/\c≠cI):
  ∃J,eF true ("c":Str) (p8 cl k) (uG cl k) (.ref n) ⟨L,S⟩=.ok (.ref S.length) ⟨L,S++[.list (cs.map .str)]++J⟩:=by
 have h:=ju (x:=("c":Str)) (ifs:=p8 cl k) (elt:=uG cl k) (v:=.ref n) (L:=L) (S:=S) (xs:=mt::cs) (p:=plain) (cY en (by rw[List.length_map];exact hs)) hk hs (λ L' J=>j9 en rfl)
  (λ c hm J=>⟨[],by
   have hg:∀S,aq ("c":Str) ⟨[(("c":Str),some (.str c))],S⟩=.ok (.str c) ⟨[(("c":Str),some (.str c))],S⟩:=λ S=>rfl
   simp only[List.append_nil];unfold plain;induction h1:decide (c=mt)<;>induction h2:decide (c=cI)<;>simp only[p8,hg,ak.bind_ok,(λ Y=>by rw[fj c (hc c hm),gR]:∀Y,aO (.str c) Y=some (!decide (c=mt))),h1,h2,aA,Bool.not_true,Bool.not_false,if_true,Bool.false_eq_true,if_false,(λ L=>dh (L:=L) (au (J:=J) ec)),ne_str,jr,Bool.and_true,Bool.and_false,Bool.true_and,Bool.false_and]⟩)
  (λ c J=>rfl)
 have e:(mt::cs).filter plain=cs:=by
  rw[List.filter_cons];exact List.filter_eq_self.mpr λ c hm=>by unfold plain;rw[decide_eq_false (hp c hm).1,decide_eq_false (hp c hm).2];rfl
 rw[e]at h;exact h
noncomputable def L9(n:Nat)(a b c d e f g h:Option V):List (Str×Option V):=dN (some (.ref n)) a b c d e f g h
theorem zc{cs:List Str}(h:bY cs):small (R cs).length=true:=by
 unfold bY at h;have:=dI cs;exact aD (by rw[cL,lQ,List.length_cons,<-cL];lia)
structure CpU(S:List O)(k n t:Nat)(as ps:List Str)(U:List O):Prop where
 u0:U[t]?=some (.list [.ref (t+1),.ref (t+2)])
 u1:U[t+1]?=some (.list ((mt::as).map .str))
 u2:U[t+2]?=some (.list ((mt::ps).map .str))
 un:U[n]?=some (.tup [.str (R as),.str (R ps)])
 uk:U[k+0]?=some (.cell (some (.str aC)))
 ul:U[k+1]?=some (.cell (some (.str cI)))
 pre:S <+: U
 len:8<=U.length
structure CpT(S:List O)(k n:Nat)(as ps:List Str)(T:List O):Prop where
 eT:T[n]?=some (.tup [.str (R as),.str (R ps)])
 e1:T[k+0]?=some (.cell (some (.str aC)))
 e2:T[k+1]?=some (.cell (some (.str cI)))
 kT:8<=T.length
 pT:S <+: T
section
variable {d k n t:Nat}{S T U W:List O}{as ps:List Str}
theorem Lg{x:Str}{cs:List Str}{U:List O}(hU:U[k+0]?=some (.cell (some (.str aC))))(hx:small x.length=true)(hs:Txt.split x aC=cs):uD (ao (d+1)) k ⟨[(("path":Str),some (.str x))],U⟩=.ok (.ref U.length) ⟨[(("path":Str),some (.str x))],U++[.list (cs.map .str)]⟩:=by
 have hg:∀S,aq ("path":Str) ⟨[(("path":Str),some (.str x))],S⟩=.ok (.str x) ⟨[(("path":Str),some (.str x))],S⟩:=λ S=>rfl
 simp only[uD,hg,ak.bind_ok,tu,(λ L=>dh (L:=L) hU),Bp hx,hs,bO]
theorem CpT.split(H:CpT S k n as ps T):CpU S k n T.length as ps (T++[.list [.ref (T.length+1),.ref (T.length+2)]]++[.list ((mt::as).map .str)]++[.list ((mt::ps).map .str)]):=
 ⟨at3 T _ _ _ 0,at3 T _ _ _ 1,at3 T _ _ _ 2,au (au (au H.eT)),au (au (au H.e1)),au (au (au H.e2)),((H.pT.trans (List.prefix_append ..)).trans (List.prefix_append ..)).trans (List.prefix_append ..),by have:=H.kT;simp;lia⟩
inductive Stp(P:St->Prop)(r:ak Fl):Prop
 |mk (Y:St) (e:r=.ok .next Y) (h:P Y)
theorem Stp.then{P Q:St->Prop}{r:ak Fl}{k:St->ak Fl}(h:Stp P r)(hk:∀Y,P Y->Stp Q (k Y)):Stp Q (aj r k):=by
 obtain⟨Y,rfl,h⟩:=h;exact hk Y h
theorem aji(H:CpT S k n as ps T)(na:as≠[])(np:ps≠[])(oa:∀c∈as,Ok c)(op:∀c∈ps,Ok c)(fa:bY as)(fp:bY ps):
  wJ (ao (d+1)) k ⟨L9 n none none none none none none none none,T⟩=.ok .next ⟨L9 n (some (.ref T.length)) none none none none none none none,T++[.list [.ref (T.length+1),.ref (T.length+2)]]++[.list ((mt::as).map .str)]++[.list ((mt::ps).map .str)]⟩:=by
 have cp:=Fx (x:=("path":Str)) (ifs:=Ks (ao (d+1)) k) (elt:=uD (ao (d+1)) k) (L:=L9 n none none none none none none none none) (gw H.eT rfl) H.kT (λ L' J=>yt H.eT rfl) (λ Y=>rfl)
  (Lg (au H.e1) (zc fa) (Rt na oa)) (Lg (au (au H.e1)) (zc fp) (Rt np op))
 unfold L9 at cp ⊢;simp only[wJ,OD,ak.bind_ok,cp,Zu,List.length_append,List.length_cons,List.length_nil]
theorem ajj(H:CpU S k n t as ps U)(fa:bY as)(fp:bY ps):wK (ao (d+1)) k ⟨L9 n (some (.ref t)) none none none none none none none,U⟩=.ok .next ⟨L9 n (some (.ref t)) (some (.bool true)) none none none none none none,U++[.bset [true]]⟩:=by
 have el:∀(x:Str) (o:O),small (aC++x).length=true->uE (ao (d+1)) k ⟨[(("p":Str),some (.str (aC++x)))],U++[o]⟩=.ok (.bool true) ⟨[(("p":Str),some (.str (aC++x)))],U++[o]⟩:=λ x o hx=>by
  have hg:aq ("p":Str) ⟨[(("p":Str),some (.str (aC++x)))],U++[o]⟩=.ok (.str (aC++x)) ⟨[(("p":Str),some (.str (aC++x)))],U++[o]⟩:=rfl;simp only[uE,hg,ak.bind_ok,gm,(λ L=>dh (L:=L) (au (J:=[o]) H.uk)),jB hx,Le]
 have cp:=CW (x:=("p":Str)) (ifs:=Ku (ao (d+1)) k) (elt:=uE (ao (d+1)) k) (L:=L9 n (some (.ref t)) none none none none none none none) (gw H.un rfl) H.len (λ L' J=>yt H.un rfl) (λ Y=>rfl) (λ o=>el (P as) o (zc fa)) (λ o=>el (P ps) o (zc fp));have un:=acH (L:=L9 n (some (.ref t)) none none none none none none none) (aP (S:=U) (.bset [true])) ("isabs":Str);have hb:sW (ao (d+1)) k ⟨L9 n (some (.ref t)) none none none none none none none,U⟩=.ok .next ⟨L9 n (some (.ref t)) (some (.bool true)) none none none none none none,U++[.bset [true]]⟩:=by
  unfold L9 at cp un ⊢;simp only[sW,uF,OD,ak.bind_ok,cp,un,afk,aB]
 delta wK uo
 simp only[hb]
structure CpW(S:List O)(k w p q:Nat)(as ps:List Str)(W:List O):Prop where
 wm:W[w]?=some (.list [.ref p,.ref q])
 wp:W[p]?=some (.list (as.map .str))
 wq:W[q]?=some (.list (ps.map .str))
 wk:W[k+0]?=some (.cell (some (.str aC)))
 pre:S <+: W
 len:8<=W.length
theorem zf{α:Type}{l:List α}(h:l.length<=1000):small l.length=true:=aD (by lia)
theorem oN{cs:List Str}(h:bY cs):small (mt::cs).length=true/\∀c∈mt::cs,small c.length=true:=by
 unfold bY at h;exact⟨aD (by rw[List.length_cons];lia),List.forall_mem_cons.mpr ⟨by decide+kernel,λ c hc=>by have:=oM hc;exact aD (by lia)⟩⟩
theorem CpU.filter(H:CpU S k n t as ps U){Ja Jb:List O}:CpW S k (U++[O.bset [true]]).length (U++[O.bset [true]]++[O.list []]).length (U++[O.bset [true]]++[O.list [.ref (U++[O.bset [true]]++[O.list []]).length]]++([O.list (as.map .str)]++Ja)).length as ps
  (U++[O.bset [true]]++[O.list [.ref (U++[O.bset [true]]++[O.list []]).length,.ref (U++[O.bset [true]]++[O.list [.ref (U++[O.bset [true]]++[O.list []]).length]]++([O.list (as.map .str)]++Ja)).length]]++([.list (as.map .str)]++Ja)++([.list (ps.map .str)]++Jb)):=
 ⟨by simp,by simp,by simp[Nat.add_assoc],au (au (au (au H.uk))),(((H.pre.trans (List.prefix_append ..)).trans (List.prefix_append ..)).trans (List.prefix_append ..)).trans (List.prefix_append ..),by have:=H.len;simp;exact Nat.lt_add_right _ (by assumption)⟩
inductive ajl(S:List O)(k:Nat)(as ps:List Str)(r:ak Fl)(L:Option V->List (Str×Option V)):Prop
 |mk (W:List O) (w p q:Nat) (H:CpW S k w p q as ps W) (e:r=.ok .next ⟨L (some (.ref w)),W⟩)
theorem ajm(H:CpU S k n t as ps U)(fa:bY as)(fp:bY ps)(ha:∀c∈as,c≠mt/\c≠cI)(hp:∀c∈ps,c≠mt/\c≠cI):
  ajl S k as ps (wL (ao (d+1)) k ⟨L9 n (some (.ref t)) (some (.bool true)) none none none none none none,U++[.bset [true]]⟩) λ w=>L9 n w (some (.bool true)) none none none none none none:=by
 have h8:=H.len;obtain⟨Ja,hJa⟩:=Bw (cl:=ao (d+1)) (L:=[(("s":Str),some (.ref (t+1)))]) (au (J:=[O.list []]) (au (J:=[O.bset [true]]) H.u1)) (au (J:=[O.list []]) (au (J:=[O.bset [true]]) H.ul)) (by simp;lia) (oN fa).1 (oN fa).2 ha;obtain⟨Jb,hJb⟩:=Bw (cl:=ao (d+1)) (L:=[(("s":Str),some (.ref (t+2)))]) (S:=U++[O.bset [true]]++[.list [.ref (U++[O.bset [true]]++[O.list []]).length]]++([.list (as.map .str)]++Ja)) (au (au (au (J:=[O.bset [true]]) H.u2))) (au (au (au (J:=[O.bset [true]]) H.ul))) (by simp;exact Nat.lt_add_right _ (by assumption)) (oN fp).1 (oN fp).2 hp;refine⟨_,_,_,_,H.filter (Ja:=Ja) (Jb:=Jb),?_⟩;have el2:∀(v:V) S,Bc (ao (d+1)) k ⟨[(("s":Str),some v)],S⟩=eF true ("c":Str) (p8 (ao (d+1)) k) (uG (ao (d+1)) k) v ⟨[(("s":Str),some v)],S⟩:=λ v S=>rfl
 have cp:=Fx (x:=("s":Str)) (ifs:=Kv (ao (d+1)) k) (elt:=Bc (ao (d+1)) k) (L:=L9 n (some (.ref t)) (some (.bool true)) none none none none none none) (p:=.ref (U++[O.bset [true]]++[O.list []]).length) (q:=.ref (U++[O.bset [true]]++[O.list [.ref (U++[O.bset [true]]++[O.list []]).length]]++([O.list (as.map .str)]++Ja)).length) (J1:=[.list (as.map .str)]++Ja) (J2:=[.list (ps.map .str)]++Jb) (cY (au (J:=[O.bset [true]]) H.u0) rfl) (by simp;exact Nat.le_of_lt (by assumption)) (λ L' J=>j9 (au H.u0) rfl) (λ Y=>rfl)
  ((el2 _ _).trans (hJa.trans (by rw[List.append_assoc _ [O.list (as.map V.str)]]))) ((el2 _ _).trans (hJb.trans (by rw[List.append_assoc _ [O.list (ps.map V.str)]])))
 unfold L9 at cp ⊢;simp only[wL,Zt,ak.bind_ok,cp,Zu]
structure CpZ(S:List O)(k z1 z2:Nat)(lo hi:List Str)(W:List O):Prop where
 e1:W[z1]?=some (.list (lo.map .str))
 e2:W[z2]?=some (.list (hi.map .str))
 s1:lo.length<=1000
 s2:hi.length<=1000
 wk:W[k+0]?=some (.cell (some (.str aC)))
 pre:S <+: W
 len:8<=W.length
inductive ajo(S:List O)(k:Nat)(as ps:List Str)(W:List O)(L:Nat->Nat->List (Str×Option V))(f:(St->ak Fl)->ak Fl):Prop
 |mk (z1 z2:Nat) (H:CpZ S k z1 z2 (U6 as ps) (V7 as ps) W) (e:∀r,f r=r ⟨L z1 z2,W⟩)
theorem ajp{w p q:Nat}(H:CpW S k w p q as ps W)(ha:as.length<=1000)(hp:ps.length<=1000):
  ajo S k as ps W (λ z1 z2=>L9 n (some (.ref w)) (some (.bool true)) none (some (.ref z1)) (some (.ref z2)) (some (.ref z1)) none none) λ r=>aj (wM (ao (d+1)) k ⟨L9 n (some (.ref w)) (some (.bool true)) none none none none none none,W⟩) (λ Y=>aj (wN (ao (d+1)) k Y) λ Y=>aj (wO (ao (d+1)) k Y) r):=by
 have b1:=λ L=>zb (L:=L) (gt:=false) H.wm H.wp H.wq
 have b2:=λ L=>zb (L:=L) (gt:=true) H.wm H.wp H.wq
 simp only[Bool.false_eq_true,if_false,if_true]at b1 b2;refine⟨_,_,⟨adT H.wp H.wq,adU H.wp H.wq,by unfold U6;cases bI ps as<;>simpa,by unfold V7;cases bI as ps<;>simpa,H.wk,H.pre,H.len⟩,λ r=>?_⟩;unfold L9;simp only[wM,wN,wO,Zt,OJ,ak.bind_ok,Rq,b1,b2,afl,afm,Zy,aB]
noncomputable def Lz(n w z1 z2:Nat)(c:Option V)(g:Nat)(i j:Option V):List (Str×Option V):=L9 n (some (.ref w)) (some (.bool true)) c (some (.ref z1)) (some (.ref z2)) (some (.ref g)) i j
theorem acI{w z1 z2:Nat}{lo hi:List Str}(H:CpZ S k z1 z2 lo hi W){i:Nat}{c y:Str}{oi oc:Option V}(hi':i<=lo.length)(hy:hi[i]?=some y):
  fQ (ao (d+1)) k (aF ("c":Str) (.str c) (aF ("i":Str) (.int i) ⟨Lz n w z1 z2 oc z1 oi none,W++[.eit z1 (i+1),.enum W.length (i+1)]⟩))=
   if c=y then .ok .next ⟨Lz n w z1 z2 (some (.str c)) z1 (some (.int i)) none,W++[.eit z1 (i+1),.enum W.length (i+1)]⟩
   else .ok .brk ⟨Lz n w z1 z2 (some (.str c)) (W.length+2) (some (.int i)) none,W++[.eit z1 (i+1),.enum W.length (i+1)]++[.list ((lo.map V.str).take i)]⟩:=by
 have it:=uX (L:=Lz n w z1 z2 (some (.str c)) z1 (some (.int i)) none) (au (J:=[.eit z1 (i+1),.enum W.length (i+1)]) H.e2) (zf H.s2) hy;have hs:=H.s1;have sl:=iR (L:=Lz n w z1 z2 (some (.str c)) z1 (some (.int i)) none) (i:=i) (au (J:=[.eit z1 (i+1),.enum W.length (i+1)]) H.e1) (by rw[List.length_map];exact zf hs) (by lia);dsimp only[Lz,L9]at it sl ⊢;by_cases h:c=y
 ·have d1:=decide_eq_true h;rw[if_pos h];simp only[Zw,ZD,fQ,oh,Zv,Zx,ZC,ak.bind_ok,it,bA,ne_str,jr,d1,Bool.not_true,aA,Bool.false_eq_true,if_false,aB]
 ·have d1:=decide_eq_false h;rw[if_neg h];simp only[Zw,ZD,fQ,oh,rI,pq,pA,Zv,OJ,Zx,ZC,ak.bind_ok,it,bA,ne_str,jr,d1,Bool.not_false,aA,if_true,sl,Zy,aB,DW,List.length_append,List.length_cons,List.length_nil]
inductive CpX(S:List O)(k n w z1 z2:Nat)(cs:List Str)(r:ak Fl):Prop
 |mk (oc oi:Option V) (g:Nat) (X:List O) (e:r=.ok .next ⟨Lz n w z1 z2 oc g oi none,X⟩) (hg:X[g]?=some (.list (cs.map .str))) (hp:S <+: X) (hk:X[k+0]?=some (.cell (some (.str aC))))
theorem ajq{w z1 z2:Nat}{lo hi:List Str}(H:CpZ S k z1 z2 lo hi W)(hlt:bI hi lo=false):CpX S k n w z1 z2 (bD lo hi) (qI (ao (d+1)) k ⟨Lz n w z1 z2 none z1 none none,W⟩):=by
 have hz1:=(List.getElem?_eq_some_iff.mp H.e1).1;have loop:=K8 (e:=W.length+1) (k:=W.length) (l:=z1) (Lc:=λ oi oc=>Lz n w z1 z2 oc z1 oi none) (T:=W++[.eit z1 0,.enum W.length 0]) (body:=λ i v Y=>fQ (ao (d+1)) k (aF ("c":Str) v (aF ("i":Str) (.int i) Y)))
  (au H.e1) (by simp) (by exact Nat.ne_of_gt (by assumption)) (by lia) (by simp) (by simp) (λ i c=>.inl ⟨_,rfl⟩)
  (λ i c y oi oc hi hy=>by rw[mY];exact acI H (Nat.le_of_lt hi) hy)
  lo [] hi none none rfl (by simp) hlt
 rw[List.length_nil,mY,Nat.zero_add]at loop;have h6:qI (ao (d+1)) k ⟨Lz n w z1 z2 none z1 none none,W⟩=dB (fG (W.length+1) W.length z1 (lo.map .str) (λ i v Y=>fQ (ao (d+1)) k (aF ("c":Str) v (aF ("i":Str) (.int i) Y))) 0 (lo.map .str) ⟨Lz n w z1 z2 none z1 none none,W++[.eit z1 0,.enum W.length 0]⟩) λ Y=>.ok .next Y:=by
  have enu:=uW (cl:=ao (d+1)) (L:=Lz n w z1 z2 none z1 none none) H.e1;have fb:=λ o:St->ak Fl=>yr (L:=Lz n w z1 z2 none z1 none none) (body:=λ i v Y=>fQ (ao (d+1)) k (aF ("c":Str) v (aF ("i":Str) (.int i) Y))) (o:=o) H.e1 (by rw[List.length_map];exact zf H.s1) H.len
  dsimp only[Lz,L9]at enu fb ⊢;simp only[qI,OJ,ak.bind_ok,enu,fb]
 rw[h6];rcases loop with⟨⟨c,h1⟩,h2⟩|⟨⟨oi,oc,h1⟩,h2⟩
 ·rw[h1];refine⟨_,_,W.length+2,_,rfl,?_,(H.pre.trans (List.prefix_append ..)).trans (List.prefix_append ..),au (au H.wk)⟩;rw[show W.length+2=(W++[O.eit z1 ((bD lo hi).length+1),O.enum W.length ((bD lo hi).length+1)]).length by simp,aP,<-List.map_take,d9]
 ·rw[h1,mY,List.set_append,if_neg (Nat.lt_irrefl _)];exact⟨oc,oi,z1,_,rfl,by rw[au H.e1,h2],H.pre.trans (List.prefix_append ..),au H.wk⟩
theorem afW{w z1 z2 g:Nat}{X cs:List _}{oc oi:Option V}(hg:X[g]?=some (.list (cs.map .str)))(hk:X[k+0]?=some (.cell (some (.str aC))))(h1:cs.length<=1000)(h2:bf cs<=1000):
  aj (wQ (ao (d+1)) k ⟨Lz n w z1 z2 oc g oi none,X⟩) (λ Y=>aj (wR (ao (d+1)) k Y) λ Y=>.ok .next Y)=.ok (.ret (.str (R cs))) ⟨Lz n w z1 z2 oc g oi (some (.str aC)),X⟩:=by
 delta Lz L9
 simp only[wQ,wR,afj,afn,afo,afp,ak.bind_ok,bx,aA,if_true,(λ L=>dh (L:=L) hk),gk,(λ L=>oK (L:=L) hg (zf h1) (aD (by lia))),(λ Y=>add_str (aD (by have:=dI cs;rw[cL aC];show 1+(P _).length<=_;lia)) Y:∀Y,jE (.str aC) (.str (P cs)) Y=.ok (.str (R cs)) Y),aB,bH]
theorem aaU(fa:bY as):(bD as ps).length<=1000/\bf (bD as ps)<=1000:=by
 unfold bY at fa;have h:=qZ (as.take (bD as ps).length) (as.drop (bD as ps).length);have:=qY as ps;rw[List.take_append_drop,d9]at h;exact⟨by lia,by lia⟩
inductive CpR(S:List O)(v:V)(r:ak Fl):Prop
 |mk (L:List (Str×Option V)) (J:List O) (e:r=.ok (.ret v) ⟨L,S++J⟩)
theorem acJ(H:CpT S k n as ps T)(na:as≠[])(np:ps≠[])(ha:∀c∈as,Ok c/\c≠mt/\c≠cI)(hp:∀c∈ps,Ok c/\c≠mt/\c≠cI)(fa:bY as)(fp:bY ps):
  CpR S (.str (R (bD as ps))) (HN (ao (d+1)) k ⟨L9 n none none none none none none none none,T⟩):=by
 obtain⟨W,w,p,q,HW,e2⟩:=ajm (d:=d) (n:=n) H.split fa fp (λ c h=>(ha c h).2) λ c h=>(hp c h).2
 obtain⟨z1,z2,HZ,e3⟩:=ajp (d:=d) (n:=n) HW (by unfold bY at fa;lia) (by unfold bY at fp;lia);obtain⟨oc,oi,g,X,e6,hg,⟨J,rfl⟩,hk⟩:=ajq (d:=d) (n:=n) (w:=w) HZ (K7 as ps);rw[Ft]at hg;have f:=aaU (ps:=ps) fa;have hb:HJ (ao (d+1)) k ⟨L9 n none none none none none none none none,T⟩=.ok (.ret (.str (R (bD as ps)))) ⟨Lz n w z1 z2 oc g oi (some (.str aC)),S++J⟩:=by
  unfold HJ;simp only[aji H na np (λ c h=>(ha c h).1) (λ c h=>(hp c h).1) fa fp,ajj H.split fa fp,e2,aB,e3,show L9 n (some (.ref w)) (some (.bool true)) none (some (.ref z1)) (some (.ref z2)) (some (.ref z1)) none none=Lz n w z1 z2 none z1 none none from rfl,e6];exact afW hg hk f.1 f.2
 refine⟨Lz n w z1 z2 oc g oi (some (.str aC)),J,?_⟩;delta HN uo
 simp only[hb]
inductive CpH(S:List O)(k:Nat)(as ps:List Str)(cl:Nat->List V->St->ak V)(r:ak Fl):Prop
 |mk (n:Nat) (T:List O) (H:CpT S k n as ps T) (e:r=aj (HN cl k ⟨L9 n none none none none none none none none,T⟩) λ Y=>.ok .next Y)
theorem acK{m:Nat}(fa:bY as)(fp:bY ps)(h8:8<=S.length)(em:S[m]?=some (.list [.str (R as),.str (R ps)])):
  CpH S S.length as ps (ao (d+1)) (afx (ao (d+1)) S.length ⟨dN (some (.ref m)) none none none none none none none none,S++[.cell none,.cell none]⟩):=by
 obtain⟨J0,hm1,hm2⟩:=acG (d:=d) (L:=dN (some (.ref m)) none none none none none none none none) (m:=m) (xs:=[R as,R ps]) (au (J:=[O.cell none,.cell none]) em) rfl (by simp;lia);generalize hJ:[.any,.tup [.ref (S++[O.cell none,.cell none]).length],.mapo 214 ((S++[O.cell none,.cell none]).length+1)]++J0=J at hm2;rw[List.append_assoc _ _ J0,hJ,(by rw[<-hJ];simp;lia:(S++[O.cell none,.cell none]).length+3+J0.length=S.length+2+J.length),List.append_assoc _ J]at hm2;have jn:∀o o',(S++[o,o']++(J++[.tup ([R as,R ps].map .str)]))[S.length+2+J.length]?=some (.tup [.str (R as),.str (R ps)]):=λ o o'=>by
  rw[<-List.append_assoc,show S.length+2+J.length=(S++[o,o']++J).length by simp;lia,aP];rfl
 generalize J++[.tup ([R as,R ps].map .str)]=J1 at hm2 jn;generalize S.length+2+J.length=n at hm2 jn;have c1:∀o o',(S++[o,o']++J1)[S.length+0]?=some o:=λ o o'=>by rw[List.append_assoc];exact dX S _ 0
 have c2:∀o o',(S++[o,o']++J1)[S.length+1]?=some o':=λ o o'=>by rw[List.append_assoc];exact dX S _ 1
 have u1:∀o o' x,(S++[o,o']++J1).set (S.length+0) x=S++[x,o']++J1:=λ o o' x=>by rw[List.append_assoc,nU,List.append_assoc];rfl
 have u2:∀o o' x,(S++[o,o']++J1).set (S.length+1) x=S++[o,x]++J1:=λ o o' x=>by rw[List.append_assoc,nU,List.append_assoc];rfl
 have tr0:=λ L=>Va (L:=L) (jn (.cell none) (.cell none)) rfl
 refine⟨n,S++[O.cell (some (.str aC)),.cell (some (.str cI))]++J1,⟨jn _ _,c1 _ _,c2 _ _,by simp;exact Nat.lt_add_right _ (by assumption),by rw[List.append_assoc];exact List.prefix_append ..⟩,?_⟩;simp only[afx,Z9,aac,aad,Rj,Ew,Ey,OD,afi,ak.bind_ok,hm1,hm2,aB,tr0,List.isEmpty_cons,Bool.not_true,Bool.not_false,Bool.false_eq_true,if_false,aA,(λ L=>U9 (L:=L) (jn (.cell none) (.cell none)) rfl),bA,gQ,bx,(λ L v o o'=>(ru (L:=L) (v:=v) (c1 (.cell o) o') (by assumption)).trans (congrArg (λ x=>ak.ok () (St.mk L x)) (u1 _ _ _))),(λ L v o o'=>(ru (L:=L) (v:=v) (c2 o (.cell o')) (by exact Nat.le_succ_of_le (by assumption))).trans (congrArg (λ x=>ak.ok () (St.mk L x)) (u2 _ _ _)))];rfl
end
theorem yL(d:Nat)(l)(S:List O){m:Nat}{as ps:List Str}(na:as≠[])(np:ps≠[])(ha:∀c∈as,Ok c/\c≠mt/\c≠cI)(hp:∀c∈ps,Ok c/\c≠mt/\c≠cI)(fa:bY as)(fp:bY ps)(hk:8<=S.length)
  (em:S[m]?=some (.list [.str (R as),.str (R ps)])):∃J,ao (d+2) 283 [.ref m] ⟨l,S⟩=.ok (.str (R (bD as ps))) ⟨l,S++J⟩:=by
 obtain⟨n,T,H,e⟩:=acK (d:=d) fa fp hk em;obtain⟨L,J,e'⟩:=acJ (d:=d) H na np ha hp fa fp;rw[(by kernel_rfl:ao (d+2) 283 [.ref m] ⟨l,S⟩=kj l (aK (cG (ao (d+1)) 60) (sU 283) (enC 283 S.length) ⟨dN (some (.ref m)) none none none none none none none none,S++[.cell none,.cell none]⟩)),aae,e,e'];exact⟨J,rfl⟩
noncomputable def fu:List Str:=["..",".","","a","b","c",".."]
theorem Lh(d:Nat)(l)(S:List O):ao (d+1) 297 [] ⟨l,S⟩=.ok (.ref S.length) ⟨l,S++[.list (fu.map .str)]⟩:=by
 rw[bW (L:=[]) (S₁:=S) (by kernel_rfl),ZV];rfl
theorem jC(d:Nat)(l)(S:List O){n:Nat}{cs:List Str}(e:S[n]?=some (.list (cs.map .str)))(h:bY cs):ao (d+1) 304 [.ref n] ⟨l,S⟩=.ok (.str (R cs)) ⟨l,S⟩:=by
 rw[bW (L:=ZF (some (.ref n))) (S₁:=S) (by kernel_rfl),ZX];unfold bY at h;have j':∀L,cD .join (.str ("/":Str)) [.ref n] ⟨L,S⟩=.ok (.str (P cs)) ⟨L,S⟩:=(λ L=>oK (L:=L) e (aD (by lia)) (aD (by lia)));have a:∀Y,jE (.str ("/":Str)) (.str (P cs)) Y=.ok (.str (R cs)) Y:=λ Y=>add_str (by
  have:=dI cs;show small (aC.length+_)=true;rw[cL aC];exact aD (by show 1+(P cs).length<=_;lia)) Y
 dsimp only[agS,ZW,ZG,ak.bind_ok,j',a,dg];simp only[ZG,ak.bind_ok,gk,j',a,bH,dg]
theorem aaV{α:Type}(xs:List α):cut none (some (-1)) xs=xs.dropLast:=by
 show xs.take (xs.length - 1)=_;rw[List.dropLast_eq_take]
theorem acL{α:Type}(xs:List α):cut none none xs=xs:=List.take_of_length_le (Nat.le_refl _)
theorem kh{L}{S:List O}{n:Nat}{xs:List V}(e:S[n]?=some (.list xs))(hs:small xs.length=true):bC (.ref n) .none (.int (-1)) ⟨L,S⟩=.ok (.ref S.length) ⟨L,S++[.list xs.dropLast]⟩:=by
 show onS (St.list? ⟨L,S⟩ n) _=_;rw[bZ e,<-aaV];exact if_pos hs
theorem Vb{L}{S:List O}{n:Nat}{xs:List V}(e:S[n]?=some (.list xs))(hs:small xs.length=true):bC (.ref n) .none .none ⟨L,S⟩=.ok (.ref S.length) ⟨L,S++[.list xs]⟩:=by
 show onS (St.list? ⟨L,S⟩ n) _=_;rw[bZ e];exact(if_pos hs).trans (by rw[acL];rfl)
theorem lu(Y:St):QH .USub (.int 1) Y=.ok (.int (-1)) Y:=rfl
noncomputable def gA(acc:List Str)(c:Str):List Str:=if c=dd then acc.dropLast else if c=mt\/c=cI then acc else acc++[c]
noncomputable def lz(acc:List Str)(c:Str):List Str:=if c=dd/\acc≠[]/\acc.getLast?≠some dd then acc.dropLast else if c=mt\/c=cI then acc else acc++[c]
theorem Fy(acc:List Str)(c:Str):(gA acc c).length<=acc.length+1:=by
 unfold gA;split
 ·rw[List.length_dropLast];omega
 ·split
  ·simp
  ·simp
theorem Vc(acc:List Str)(c:Str):(lz acc c).length<=acc.length+1:=by
 unfold lz;split
 ·rw[List.length_dropLast];omega
 ·split
  ·simp
  ·simp
theorem Vd{cl:Nat->List V->St->ak V}{o0 o1:Option V}{n:Nat}{c:Str}{acc:List Str}{S:List O}(e:S[n]?=some (.list (acc.map .str)))(hs:small (acc.length+1)=true):
  ∃J m,nZ cl ⟨kE o0 o1 (some (.ref n)) (some (.str c)),S⟩=.ok .next ⟨kE o0 o1 (some (.ref m)) (some (.str c)),S++J⟩/\(S++J)[m]?=some (.list ((gA acc c).map .str)):=by
 unfold gA;have e1:∀Y,yw (.str c) (.str ("..":Str)) Y=some (decide (c=dd)):=λ Y=>by rw[eq_str];rfl
 have e2:∀Y,nj (.str c) (.str ("":Str)) Y=some (!decide (c=mt)):=λ Y=>by rw[ne_str];rfl
 have e3:∀Y,nj (.str c) (.str (".":Str)) Y=some (!decide (c=cI)):=λ Y=>by rw[ne_str];rfl
 by_cases h1:c=dd
 ·have d1:=decide_eq_true h1;rw[if_pos h1];refine⟨[.list (acc.map V.str).dropLast],S.length,?_,by rw[aP,List.map_dropLast]⟩;simp only[nZ,mJ,Bb,uy,HB,ZJ,ak.bind_ok,e1,d1,aA,if_true,lu,(λ L=>kh (L:=L) e (by rw[List.length_map];exact cZ (by simp) hs)),O1,aB]
 ·have d1:=decide_eq_false h1;rw[if_neg h1];by_cases h2:c=mt\/c=cI
  ·rw[if_pos h2];refine⟨[],n,?_,by rw[List.append_nil];exact e⟩;have:(!decide (c=mt))=false\/(!decide (c=mt))=true/\(!decide (c=cI))=false:=by
    clear e1 e2 e3 h1 d1;rcases h2 with h2|h2
    ·exact .inl (by rw[decide_eq_true h2];rfl)
    ·refine .inr ⟨?_,by rw[decide_eq_true h2];rfl⟩;subst h2;decide+kernel
   rw[List.append_nil];rcases this with d2|⟨d2,d3⟩
   ·simp only[nZ,mJ,nY,jm,HB,ak.bind_ok,e1,e2,d1,d2,aA,Bool.false_eq_true,if_false,if_true,Bool.not_false,aB]
   ·simp only[nZ,mJ,nY,jm,HB,ak.bind_ok,e1,e2,e3,d1,d2,d3,aA,Bool.false_eq_true,if_false,if_true,Bool.not_false,Bool.not_true,aB]
  ·rw[if_neg h2];have d3:(!decide (c=cI))=true:=by rw[decide_eq_false (λ q=>h2 (.inr q))];rfl
   have ad:=λ L=>add_list (L:=L) (au (J:=[O.list [.str c]]) e) (aP (S:=S) (.list [.str c])) (by rw[List.length_map];exact hs)
   refine⟨[.list [.str c]]++[.list (acc.map V.str++[.str c])],(S++[O.list [.str c]]).length,?_,by rw[<-List.append_assoc,aP,List.map_append];rfl⟩;rw[<-List.append_assoc];simp only[nZ,mJ,nY,jm,rG,oY,HB,ZJ,ak.bind_ok,e1,e2,e3,d1,(by rw[decide_eq_false (λ q=>h2 (.inl q))];rfl:(!decide (c=mt))=true),d3,aA,Bool.false_eq_true,if_false,if_true,Bool.not_false,Bool.not_true,bO,ad,O1,aB]
theorem Ve(d:Nat)(l)(S:List O){a b:Nat}{as bs:List Str}(ea:S[a]?=some (.list (as.map .str)))(eb:S[b]?=some (.list (bs.map .str)))(hs:small (as.length+bs.length)=true):
  ∃r J,ao (d+1) 311 [.ref a,.ref b] ⟨l,S⟩=.ok (.ref r) ⟨l,S++J⟩/\(S++J)[r]?=some (.list ((bs.foldl gA as).map .str)):=by
 rw[bW (L:=kE (some (.ref a)) (some (.ref b)) none none) (S₁:=S) (by kernel_rfl),Z2];have eb':(S++[O.list (as.map V.str)])[b]?=some (.list (bs.map .str)):=au eb;obtain⟨Y',h1,J,m,acc,o,h2,h3,h4,-⟩:=fK (f:=V.str) (ok:=aR (.ref b) ⟨kE (some (.ref a)) (some (.ref b)) (some (.ref S.length)) none,S++[O.list (as.map V.str)]⟩) (body:=λ v Y=>nZ (ao d) (aF ("piece":Str) v Y))
  (λ r Y=>∃J m acc o,Y=⟨kE (some (.ref a)) (some (.ref b)) (some (.ref m)) o,S++J⟩/\Y.sto[m]?=some (.list (acc.map .str))/\r.foldl gA acc=bs.foldl gA as/\acc.length+r.length<=as.length+bs.length)
  (by rintro r Y ⟨J,m,acc,o,rfl,-,-⟩;exact j8 eb' (au eb))
  (by
   rintro c r Y ⟨J,m,acc,o,rfl,h1,h2,h3⟩;simp only[List.length_cons]at h3;obtain⟨J',m',t1,t2⟩:=Vd (cl:=ao d) (o0:=some (.ref a)) (o1:=some (.ref b)) (c:=c) h1 (cZ (by lia) hs);have:=Fy acc c;refine⟨.next,_,.inl rfl,t1,J++J',m',gA acc c,some (.str c),by rw[List.append_assoc],t2,h2,by lia⟩) bs ⟨kE (some (.ref a)) (some (.ref b)) (some (.ref S.length)) none,S++[O.list (as.map V.str)]⟩
  ⟨_,S.length,as,none,rfl,aP _,rfl,Nat.le_refl _⟩
 refine⟨m,J,?_,?_⟩
 ·have it:=λ L=>cY (L:=L) eb' (by rw[List.length_map];exact cZ (by simp) hs)
  simp only[agT,Z0,Z1,afq,afr,ak.bind_ok,(λ L=>Vb (L:=L) ea (by rw[List.length_map];exact cZ (by simp) hs)),O1,aB,fC,it,h1,h2];rfl
 ·rw[h2]at h3;rw[h3,<-h4];rfl
theorem Li{L}{S:List O}{a b:Nat}{xs ys:List Str}(ea:S[a]?=some (.list (xs.map .str)))(eb:S[b]?=some (.list (ys.map .str)))(h1:small xs.length=true)(h2:small ys.length=true)(k:List Str->List Str->Bool):V9 a b ⟨L,S⟩ k=some (k xs ys):=
 (bB (bZ ea)).trans ((bB (bZ eb)).trans ((bB (gh xs)).trans ((bB (gh ys)).trans (if_pos (by rw[h1,h2];rfl)))))
theorem Lj{L}{S:List O}{a b:Nat}{xs ys:List Str}(ea:S[a]?=some (.list (xs.map .str)))(eb:S[b]?=some (.list (ys.map .str)))(h1:small xs.length=true)(h2:small ys.length=true):yw (.ref a) (.ref b) ⟨L,S⟩=some (decide (xs=ys)):=by
 refine(Li ea eb h1 h2 _).trans (congrArg some ?_);by_cases h:xs=ys
 ·rw[decide_eq_true h,h];exact beq_self_eq_true _
 ·rw[decide_eq_false h];exact beq_eq_false_iff_ne.mpr h
theorem Lk{L}{S:List O}{a b:Nat}{xs ys:List Str}(ea:S[a]?=some (.list (xs.map .str)))(eb:S[b]?=some (.list (ys.map .str)))(h1:small xs.length=true)(h2:small ys.length=true):nj (.ref a) (.ref b) ⟨L,S⟩=some (!decide (xs=ys)):=by
 refine(Li ea eb h1 h2 _).trans (congrArg some ?_);by_cases h:xs=ys
 ·rw[decide_eq_true h,h];exact bne_self_eq_false _
 ·rw[decide_eq_false h];exact bne_iff_ne.mpr h
theorem Bx{L}{S:List O}{a:Nat}{xs:List Str}(ea:S[a]?=some (.list (xs.map .str)))(h1:small xs.length=true):nj (.ref a) (.ref S.length) ⟨L,S++[.list []]⟩=some (!decide (xs=[])):=
 Lk (ys:=[]) (au ea) (aP _) h1 rfl
theorem Qk{cl:Nat->List V->St->ak V}{o0:Option V}{n:Nat}{c:Str}{acc:List Str}{S:List O}(e:S[n]?=some (.list (acc.map .str)))(hs:small (acc.length+1)=true):
  ∃J m,yZ cl ⟨jT o0 (some (.ref n)) (some (.str c)),S⟩=.ok .next ⟨jT o0 (some (.ref m)) (some (.str c)),S++J⟩/\(S++J)[m]?=some (.list ((lz acc c).map .str)):=by
 have hs1:small acc.length=true:=cZ (by simp) hs;have hs':small (acc.map V.str).length=true:=by rw[List.length_map];exact hs1
 have e1:∀Y,yw (.str c) (.str ("..":Str)) Y=some (decide (c=dd)):=λ Y=>by rw[eq_str];rfl
 have e2:∀Y,nj (.str c) (.str ("":Str)) Y=some (!decide (c=mt)):=λ Y=>by rw[ne_str];rfl
 have e3:∀Y,nj (.str c) (.str (".":Str)) Y=some (!decide (c=cI)):=λ Y=>by rw[ne_str];rfl
 obtain⟨J0,b,ht,hb⟩:∃J0 b,(∀K:Bool->St->ak Fl,(((aq ("piece":Str) ⟨jT o0 (some (.ref n)) (some (.str c)),S⟩).bind λ v6 Y=>(ak.ok (.str ("..":Str)) Y).bind λ v7 Y=>(aG (yw v6 v7 Y) Y).bind λ v5 Y=>ak.ok v5 Y).bind λ v4 Y=>if !v4 then ak.ok v4 Y else((aq ("parts":Str) Y).bind λ v10 Y=>((ak.ok [] Y).bind λ v12 Y=>Y.new (.list v12)).bind λ v11 Y=>(aG (nj v10 v11 Y) Y).bind λ v9 Y=>ak.ok v9 Y).bind λ v8 Y=>if !v8 then ak.ok v8 Y else(((aq ("parts":Str) Y).bind λ v17 Y=>((ak.ok (.int 1) Y).bind (QH .USub)).bind λ v18 Y=>dz (cM v17 v18 Y) Y).bind λ v15 Y=>(ak.ok (.str ("..":Str)) Y).bind λ v16 Y=>(aG (nj v15 v16 Y) Y).bind λ v14 Y=>ak.ok v14 Y).bind λ v13 Y=>if !v13 then ak.ok v13 Y else ak.ok true Y).bind K=K b ⟨jT o0 (some (.ref n)) (some (.str c)),S++J0⟩)/\(b=true↔(c=dd/\acc≠[]/\acc.getLast?≠some dd)):=by
  by_cases h1:c=dd
  ·have d1:=decide_eq_true h1;have ne:=λ L=>Bx (L:=L) e hs1
   by_cases h2:acc=[]
   ·have d2:=decide_eq_true h2;exact⟨[.list []],false,λ K=>by simp only[wH,HD,ak.bind_ok,e1,d1,aA,Bool.not_true,Bool.false_eq_true,if_false,bO,ne,d2,Bool.not_false,if_true],by simp[h2]⟩
   ·have d2:=decide_eq_false h2;obtain⟨z,hz⟩:∃z,acc.getLast? =some z:=by
     induction h:acc.getLast? with
     |none=>exact absurd (List.getLast?_eq_none_iff.mp h) h2
     |some z=>exact⟨z,rfl⟩
    refine⟨[.list []],!decide (z=dd),λ K=>?_,?_⟩
    ·induction d3:decide (z=dd)<;>simp only[wH,HD,ak.bind_ok,e1,d1,aA,Bool.not_true,Bool.false_eq_true,if_false,bO,ne,d2,Bool.not_false,if_true,lu,(λ L=>xr (L:=L) (au (J:=[O.list []]) e) hs' (v:=.str z) (by rw[List.getLast?_map,hz];rfl)),bA,(λ Y=>by rw[ne_str];rfl:∀Y,nj (.str z) (.str ("..":Str)) Y=some (!decide (z=dd))),d3]
    ·rw[hz];simp[h1,h2]
  ·have d1:=decide_eq_false h1;exact⟨[],false,λ K=>by simp only[wH,ak.bind_ok,e1,d1,aA,Bool.not_false,if_true,List.append_nil],by simp[h1]⟩
 have e':(S++J0)[n]?=some (.list (acc.map .str)):=au e;unfold lz;have start:yZ cl ⟨jT o0 (some (.ref n)) (some (.str c)),S⟩=aj (if b=true then sV cl ⟨jT o0 (some (.ref n)) (some (.str c)),S++J0⟩else jV cl ⟨jT o0 (some (.ref n)) (some (.str c)),S++J0⟩) λ Y=>ak.ok .next Y:=congrArg (λ r=>aj r _) (ht _)
 rw[start];clear start ht;by_cases h1:c=dd/\acc≠[]/\acc.getLast?≠some dd
 ·rw[if_pos h1,if_pos (hb.mpr h1)];refine⟨J0++[.list (acc.map V.str).dropLast],(S++J0).length,?_,by rw[<-List.append_assoc,aP,List.map_dropLast]⟩;simp only[sV,uz,HD,ak.bind_ok,lu,(λ L=>kh (L:=L) e' hs'),O2,aB,List.append_assoc]
 ·rw[if_neg h1,if_neg (λ q=>h1 (hb.mp q))];by_cases h2:c=mt\/c=cI
  ·rw[if_pos h2];refine⟨J0,n,?_,e'⟩;have:(!decide (c=mt))=false\/(!decide (c=mt))=true/\(!decide (c=cI))=false:=by
    clear e1 e2 e3 hb h1;rcases h2 with h2|h2
    ·exact .inl (by rw[decide_eq_true h2];rfl)
    ·refine .inr ⟨?_,by rw[decide_eq_true h2];rfl⟩;subst h2;decide+kernel
   rcases this with d2|⟨d2,d3⟩
   ·simp only[jV,jq,wH,ak.bind_ok,e2,d2,aA,Bool.false_eq_true,if_false,if_true,Bool.not_false,aB]
   ·simp only[jV,jq,wH,ak.bind_ok,e2,e3,d2,d3,aA,Bool.false_eq_true,if_false,if_true,Bool.not_false,Bool.not_true,aB]
  ·rw[if_neg h2];have d2:(!decide (c=mt))=true:=by rw[decide_eq_false (λ q=>h2 (.inl q))];rfl
   have d3:(!decide (c=cI))=true:=by rw[decide_eq_false (λ q=>h2 (.inr q))];rfl
   have ad:=λ L=>add_list (L:=L) (au (J:=[O.list [.str c]]) e') (aP (S:=S++J0) (.list [.str c])) (by rw[List.length_map];exact hs)
   refine⟨J0++([.list [.str c]]++[.list (acc.map V.str++[.str c])]),(S++J0++[O.list [.str c]]).length,?_,by rw[<-List.append_assoc,<-List.append_assoc,aP,List.map_append];rfl⟩;rw[<-List.append_assoc,<-List.append_assoc];simp only[jV,jq,rH,oZ,wH,HD,ak.bind_ok,e2,e3,d2,d3,aA,Bool.false_eq_true,if_false,if_true,Bool.not_false,Bool.not_true,bO,ad,O2,aB]
theorem Ql(d:Nat)(l)(S:List O){b:Nat}{bs:List Str}(eb:S[b]?=some (.list (bs.map .str)))(hs:small bs.length=true):
  ∃r J,ao (d+1) 318 [.ref b] ⟨l,S⟩=.ok (.ref r) ⟨l,S++J⟩/\(S++J)[r]?=some (.list ((bs.foldl lz []).map .str)):=by
 rw[bW (L:=jT (some (.ref b)) none none) (S₁:=S) (by kernel_rfl),Z5];have eb':(S++[O.list []])[b]?=some (.list (bs.map .str)):=au eb;obtain⟨Y',h1,J,m,acc,o,h2,h3,h4,-⟩:=fK (f:=V.str) (ok:=aR (.ref b) ⟨jT (some (.ref b)) (some (.ref S.length)) none,S++[O.list []]⟩) (body:=λ v Y=>yZ (ao d) (aF ("piece":Str) v Y))
  (λ r Y=>∃J m acc o,Y=⟨jT (some (.ref b)) (some (.ref m)) o,S++J⟩/\Y.sto[m]?=some (.list (acc.map .str))/\r.foldl lz acc=bs.foldl lz []/\acc.length+r.length<=bs.length)
  (by rintro r Y ⟨J,m,acc,o,rfl,-,-⟩;exact j8 eb' (au eb))
  (by
   rintro c r Y ⟨J,m,acc,o,rfl,h1,h2,h3⟩;simp only[List.length_cons]at h3;obtain⟨J',m',t1,t2⟩:=Qk (cl:=ao d) (o0:=some (.ref b)) (c:=c) h1 (cZ (by lia) hs);have:=Vc acc c;refine⟨.next,_,.inl rfl,t1,J++J',m',lz acc c,some (.str c),by rw[List.append_assoc],t2,h2,by lia⟩) bs ⟨jT (some (.ref b)) (some (.ref S.length)) none,S++[O.list []]⟩
  ⟨_,S.length,[],none,rfl,aP _,rfl,by simp⟩
 refine⟨m,J,?_,?_⟩
 ·have it:=λ L=>cY (L:=L) eb' (by rw[List.length_map];exact hs)
  simp only[agU,Z3,Z4,afs,ak.bind_ok,bO,O2,aB,fC,it,h1,h2];rfl
 ·rw[h2]at h3;rw[h3,<-h4];rfl
inductive ahp(test:St->ak Bool)(body orelse:St->ak Fl)(Z:ak Fl->Prop)(I:Nat->St->Prop)(n:Nat)(Y:St):Prop
 |stop {σ₁:St}(h1:test Y=.ok false σ₁) (h2:Z ((orelse σ₁).bindN λ f Y=>.ok f Y))
 |brk {σ₁ σ₂:St}(h1:test Y=.ok true σ₁) (h2:body σ₁=.ok .brk σ₂) (h3:Z (.ok .next σ₂))
 |ret {σ₁ σ₂:St}{v:V}(h1:test Y=.ok true σ₁) (h2:body σ₁=.ok (.ret v) σ₂) (h3:Z (.ok (.ret v) σ₂))
 |on {σ₁ σ₂:St}(m:Nat) (h1:test Y=.ok true σ₁) (h2:body σ₁=.ok .next σ₂) (hm:m < n) (hi:I m σ₂)
theorem rz{test:St->ak Bool}{body orelse:St->ak Fl}{Z:ak Fl->Prop}(I:Nat->St->Prop)(h:∀n Y,I n Y->ahp test body orelse Z I n Y)(fuel:Nat):∀n Y,n < fuel->I n Y->Z (gG test body orelse fuel Y):=by
 induction fuel with
 |zero=>exact λ n Y hn _=>absurd hn (Nat.not_lt_zero n)
 |succ fuel ih=>
  intro n Y hn hI;show Z ((test Y).bindN _);induction h n Y hI with
  |stop h1 h2=>rw[h1];exact h2
  |brk h1 h2 h3|ret h1 h2 h3=>
   rw[h1];show Z ((body _).bindN _);rw[h2];exact h3
  |on m h1 h2 h4 h5=>
   rw[h1];show Z ((body _).bindN _);rw[h2];exact ih m _ (Nat.lt_of_lt_of_le h4 (Nat.le_of_lt_succ hn)) h5
theorem acM:∀{xs ys:List Str}{i:Nat},i<=(bD xs ys).length->(i < (bD xs ys).length↔i < xs.length/\i < ys.length/\xs[i]?=ys[i]?):=by
 intro xs;induction xs with
 |nil=>exact λ h=>⟨λ q=>absurd q (Nat.not_lt_zero _),λ q=>absurd q.1 (Nat.not_lt_zero _)⟩
 |cons x xs ih=>
  intro ys i h;rcases ys with _|⟨y,ys⟩
  ·exact⟨λ q=>absurd q (Nat.not_lt_zero _),λ q=>absurd q.2.1 (Nat.not_lt_zero _)⟩
  dsimp only[bD]at h ⊢;by_cases e:x=y
  ·rw[if_pos e]at h ⊢;induction i with
   |zero=>simp[e]
   |succ i=>
    have:=ih (ys:=ys) (i:=i) (Nat.le_of_succ_le_succ h);simpa using this
  ·rw[if_neg e]at h ⊢;have:i=0:=Nat.le_zero.mp h;subst this;simp[e]
theorem lt_int(i j:Int)(Y:St):rR .Lt (.int i) (.int j) Y=some (decide (i < j)):=rfl
theorem Iu(i j:Int)(Y:St):I9 [.int i,.int j] Y=.ok (.int (if j < i then j else i)) Y:=rfl
theorem vd(i j:Int)(Y:St):kJ .Add (.int i) (.int j) Y=.ok (.int (i+j)) Y:=rfl
inductive afX(a b:Nat)(S:List O)(c n:Nat)(Y:St):Prop
 |mk (i:Nat) (hi:i<=c) (hn:n=c - i) (e:Y=⟨jU (some (.ref a)) (some (.ref b)) (some (.int i)),S⟩)
set_option tactic.hygienic true in
theorem BJ(d:Nat)(l)(S:List O){a b:Nat}{xs ys:List Str}(ea:S[a]?=some (.list (xs.map .str)))(eb:S[b]?=some (.list (ys.map .str)))(hx:xs.length<=1000)(hy:ys.length<=1000):
  ao (d+1) 325 [.ref a,.ref b] ⟨l,S⟩=.ok (.int (bD xs ys).length) ⟨l,S⟩:=by
 rw[bW (L:=jU (some (.ref a)) (some (.ref b)) none) (S₁:=S) (by kernel_rfl),Z8];have sx:small xs.length=true:=aD (by lia);have sy:small ys.length=true:=aD (by lia);have l1:=λ L=>mZ (L:=L) ea (by rw[List.length_map];exact sx)
 have l2:=λ L=>mZ (L:=L) eb (by rw[List.length_map];exact sy)
 rw[List.length_map]at l1 l2;have main:O5 (ao d) ⟨jU (some (.ref a)) (some (.ref b)) (some (.int 0)),S⟩=.ok .next ⟨jU (some (.ref a)) (some (.ref b)) (some (.int (bD xs ys).length)),S⟩:=by as_aux_lemma=>
  unfold O5;rw[if_pos rfl];refine rz (Z:=λ r=>r=.ok .next ⟨jU (some (.ref a)) (some (.ref b)) (some (.int (bD xs ys).length)),S⟩) (afX a b S (bD xs ys).length) (λ n Y hI=>?_) wf (bD xs ys).length _ (by have:=qY xs ys;show _ < 100000;lia) ⟨0,Nat.zero_le _,rfl,rfl⟩;obtain⟨i,hi,rfl,rfl⟩:=hI;refine lU λ Zz toG=>?_
  have hc:=acM hi;have stop:∀{Y:Nat},i=(bD xs ys).length->((ak.ok Fl.next ⟨jU (some (.ref a)) (some (.ref b)) (some (.int i)),S⟩).bindN λ f Y=>ak.ok f Y)=.ok .next ⟨jU (some (.ref a)) (some (.ref b)) (some (.int (bD xs ys).length)),S⟩:=λ{_} q=>by rw[q];rfl
  by_cases h1:i < xs.length/\i < ys.length
  ·have d1:decide ((i:Int) < if(ys.length:Int) < (xs.length:Int)then(ys.length:Int)else(xs.length:Int))=true:=decide_eq_true (by clear toG l1 l2 ea eb hc stop;split<;>omega);have hx':=List.getElem?_eq_getElem h1.1;have hy':=List.getElem?_eq_getElem h1.2;have i1:=λ L=>uX (L:=L) ea sx hx'
   have i2:=λ L=>uX (L:=L) eb sy hy'
   by_cases h2:xs[i]=ys[i]
   ·have d2:=decide_eq_true h2;have hlt:i < (bD xs ys).length:=hc.mpr ⟨h1.1,h1.2,by rw[hx',hy',h2]⟩;refine toG (.on (σ₁:=⟨jU (some (.ref a)) (some (.ref b)) (some (.int i)),S⟩) (σ₂:=⟨jU (some (.ref a)) (some (.ref b)) (some (.int (i+1:Nat))),S⟩) ((bD xs ys).length - (i+1)) ?_ ?_ (Nat.sub_succ_lt_self _ _ hlt) ⟨i+1,hlt,rfl,rfl⟩)
    ·simp only[O3,O4,Az,ak.bind_ok,l1,l2,Iu,lt_int,d1,aA,Bool.not_true,Bool.false_eq_true,if_false,i1,i2,bA,eq_str,uU,d2]
    ·dsimp only[Ri,Az,vd,ZK];rfl
   ·have d2:=decide_eq_false h2;refine toG (.stop (σ₁:=⟨jU (some (.ref a)) (some (.ref b)) (some (.int i)),S⟩) ?_ (stop (Y:=0) ((Nat.lt_or_eq_of_le hi).resolve_left λ q=>h2 ?_)))
    ·simp only[O3,O4,Az,ak.bind_ok,l1,l2,Iu,lt_int,d1,aA,Bool.not_true,Bool.not_false,if_true,Bool.false_eq_true,if_false,i1,i2,bA,eq_str,uU,d2]
    ·have:=(hc.mp q).2.2;rw[hx',hy']at this;exact Option.some.inj this
  ·have d1:decide ((i:Int) < if(ys.length:Int) < (xs.length:Int)then(ys.length:Int)else(xs.length:Int))=false:=decide_eq_false (by clear toG l1 l2 ea eb hc stop;split<;>omega);refine toG (.stop (σ₁:=⟨jU (some (.ref a)) (some (.ref b)) (some (.int i)),S⟩) ?_ (stop (Y:=0) ((Nat.lt_or_eq_of_le hi).resolve_left λ q=>h1 ⟨(hc.mp q).1,(hc.mp q).2.1⟩)));simp only[O3,O4,Az,ak.bind_ok,l1,l2,Iu,lt_int,d1,aA,Bool.not_false,if_true]
 simp only[agV,Z6,ak.bind_ok,ZK,aB,main,Z7,Az,bH,dg]
noncomputable def dm:List (List Str):=[["a","x"],["a","b","x"],["a","b","y"],["c","x"],["c","b","z"],["w"]]
noncomputable def Fz:List Str:=["x","y","z","w"]
noncomputable def Nm(c:Str):Prop:=Ok c/\c≠mt/\c≠cI/\c≠dd
noncomputable instance (c:Str):Decidable (Ok c):=inferInstanceAs (Decidable (47∉tx c))
noncomputable instance (c:Str):Decidable (Nm c):=inferInstanceAs (Decidable (_/\_/\_/\_))
theorem ake{c:Str}{r:List Str}:P (mt::c::r)=R (c::r):=ji (by rw[lQ,show tx (P (mt::c::r))=tx mt++47::tx (P (c::r))from jb mt c r,La];rfl)
theorem ahq{a b:List Str}(ha:a≠[])(hb:b≠[]):R a++(aC++P b)=R (a++b):=by
 show(aC++P a)++(aC++P b)=aC++P (a++b);rw[show P (a++b)=P a++aC++P b from aaI ha hb];simp only[Str.append_assoc]
theorem Ln{abs:Bool}{acc:List Str}{c:Str}(h:Nm c):cT abs acc c=acc++[c]:=by
 unfold cT;rw[if_neg (λ q=>q.elim h.2.1 h.2.2.1),if_pos (.inl h.2.2.2)]
theorem vf(abs:Bool):∀(cs acc:List Str),(∀c∈cs,Nm c)->cs.foldl (cT abs) acc=acc++cs
 |[],acc,_=>(List.append_nil acc).symm
 |c::r,acc,h=>by
  rw[List.foldl_cons,Ln (h c List.mem_cons_self),vf abs r _ λ x hx=>h x (List.mem_cons_of_mem _ hx),List.append_assoc];rfl
theorem FJ(abs:Bool)(acc:List Str):cT abs acc cI=acc:=if_pos (.inr rfl)
theorem Ru:dd≠mt/\dd≠cI:=by decide+kernel
theorem Rv{acc:List Str}(c:Str)(h:dd∉acc):cT true acc c=gA acc c/\dd∉gA acc c:=by
 delta cT gA
 by_cases h1:c=dd
 ·rw[if_pos h1,if_neg (λ q=>q.elim (λ q=>Ru.1 (h1.symm.trans q)) λ q=>Ru.2 (h1.symm.trans q)),if_neg]
  ·exact⟨rfl,λ q=>h (List.dropLast_subset _ q)⟩
  ·rintro(q|q|q)
   ·exact q h1
   ·cases q.1
   ·exact h (List.mem_of_getLast? q)
 ·rw[if_neg h1];by_cases h2:c=mt\/c=cI
  ·rw[if_pos h2,if_pos h2];exact⟨rfl,h⟩
  ·rw[if_neg h2,if_neg h2,if_pos (.inl h1)];refine⟨rfl,λ q=>?_⟩;rcases List.mem_append.mp q with q|q
   ·exact h q
   ·exact h1 (List.mem_singleton.mp q).symm
theorem aaW:∀(cs acc:List Str),dd∉acc->cs.foldl (cT true) acc=cs.foldl gA acc
 |[],acc,_=>rfl
 |c::r,acc,h=>by
  obtain⟨h1,h2⟩:=Rv c h;simp only[List.foldl_cons,h1,aaW r _ h2]
theorem Rw(acc:List Str)(c:Str):cT false acc c=lz acc c:=by
 unfold cT lz;by_cases h1:c=dd
 ·have h2:¬ (c=mt\/c=cI):=λ q=>q.elim (λ q=>Ru.1 (h1.symm.trans q)) λ q=>Ru.2 (h1.symm.trans q)
  rw[if_neg h2,if_neg h2];by_cases h3:acc≠[]/\acc.getLast?≠some dd
  ·rw[if_pos (show c=dd/\acc≠[]/\acc.getLast?≠some dd from⟨h1,h3⟩),if_neg];rintro(q|q|q)
   ·exact q h1
   ·exact h3.1 q.2
   ·exact h3.2 q
  ·rw[if_neg (show ¬ (c=dd/\acc≠[]/\acc.getLast?≠some dd)from λ q=>h3 q.2),if_pos];by_cases h4:acc=[]
   ·exact .inr (.inl ⟨rfl,h4⟩)
   ·by_cases h5:acc.getLast? =some dd
    ·exact .inr (.inr h5)
    ·exact absurd ⟨h4,h5⟩ h3
 ·rw[if_neg (c:=c=dd/\acc≠[]/\acc.getLast?≠some dd) (λ q=>h1 q.1)];by_cases h2:c=mt\/c=cI
  ·rw[if_pos h2,if_pos h2]
  ·rw[if_neg h2,if_neg h2,if_pos (.inl h1)]
theorem Iv:∀(cs acc:List Str),cs.foldl (cT false) acc=cs.foldl lz acc
 |[],acc=>rfl
 |c::r,acc=>by rw[List.foldl_cons,List.foldl_cons,Rw,Iv r]
theorem acN:∀(n:Nat) (acc:List Str),dd∉acc->n<=acc.length->(List.replicate n dd).foldl (cT true) acc=acc.take (acc.length - n):=by
 intro n;induction n with
 |zero=>intro acc _ _;rw[Nat.sub_zero,List.take_length];rfl
 |succ n ih=>
  intro acc h hn;simp only[List.replicate_succ,List.foldl_cons,((Rv dd h).1)];show(List.replicate n dd).foldl (cT true) (if dd=dd then acc.dropLast else _)=_;rw[if_pos rfl,ih _ (λ q=>h (List.dropLast_subset _ q)) (by rw[List.length_dropLast];lia),List.length_dropLast,List.dropLast_eq_take,List.take_take];lia
theorem Vf{as goal:List Str}(ha:∀c∈as,Nm c)(hg:∀c∈goal,Nm c):(as++(List.replicate (as.length - (bD as goal).length) dd++goal.drop (bD as goal).length)).foldl (cT true) []=goal:=by
 have h1:=qY as goal;have h3:=d9 goal as;rw[qX goal as]at h3;rw[List.foldl_append,vf true as [] ha,List.nil_append,List.foldl_append,acN _ _ (λ q=>(ha _ q).2.2.2 rfl) (by simp),show as.length - (as.length - (bD as goal).length)=(bD as goal).length by lia,(d9 as goal),vf true _ _ (λ c hc=>hg c (List.drop_subset _ _ hc))];have h4:=List.take_append_drop (bD as goal).length goal;rw[h3]at h4;exact h4
set_option tactic.hygienic true in
theorem FN{Q:Str->Prop}:∀(cs acc:List Str),(∀c∈acc,Q c)->(∀c∈cs,c≠mt->c≠cI->c≠dd->Q c)->∀c∈cs.foldl gA acc,Q c:=by
 intro cs;induction cs with
 |nil=>exact λ acc h _=>h
 |cons c r ih=>
  intro acc h h2;refine ih _ (λ x hx=>?_) λ x hx=>h2 x (List.mem_cons_of_mem _ hx)
  unfold gA at hx;split at hx
  ·exact h x (List.dropLast_subset _ hx)
  ·rename_i h1
   split at hx
   ·exact h x hx
   ·rename_i h3
    rcases List.mem_append.mp hx with hx|hx
    ·exact h x hx
    ·rw[List.mem_singleton.mp hx];exact h2 c List.mem_cons_self (λ q=>h3 (.inl q)) (λ q=>h3 (.inr q)) h1
structure xu(own:List Str)(rooted:Bool)(pcs:List Str)(last:Str):Prop where
 hown:own∈dm
 hpcs:∀c∈pcs,c∈fu
 few:pcs.length<=4
 hlast:last∈Fz
noncomputable def cR(own:List Str)(rooted:Bool):List Str:=if rooted then []else own.dropLast
noncomputable def aM(own:List Str)(rooted:Bool)(ps:List Str):List Str:=ps.foldl gA (cR own rooted)
noncomputable def jc(rooted:Bool)(ps:List Str):Str:=P ((if rooted then [mt,cI]else [cI])++ps)
theorem aaX:∀c∈fu,Ok c/\c.length<=2/\(c≠mt->c≠cI->c≠dd->Nm c/\c∉Fz):=by decide+kernel
theorem vg:∀c∈Fz,Nm c/\c.length=1:=by decide+kernel
theorem tB:∀own∈dm,(∀c∈own,Nm c)/\(∀c∈own.dropLast,c∉Fz)/\own≠[]/\own.length<=3/\bf own<=3:=by decide+kernel
theorem afY:∀own∈dm,afU (R own)=R own.dropLast/\(-1000000<=Txt.rfind (R own) aC+1/\Txt.rfind (R own) aC+1<=1000000)/\(R own).length<=10:=by decide+kernel
section
variable {own:List Str}{rooted:Bool}{pcs:List Str}{last:Str}
noncomputable def eX(own goal:List Str):List Str:=List.replicate (own.dropLast.length - (bD own.dropLast goal).length) dd++goal.drop (bD own.dropLast goal).length
theorem aaY:∀{cs:List Str}{b:Nat},(∀c∈cs,c.length<=b)->bf cs<=b*cs.length
 |[],b,_=>Nat.zero_le _
 |c::r,b,h=>by
  have:=h c List.mem_cons_self;have:=aaY (cs:=r) (b:=b) λ x hx=>h x (List.mem_cons_of_mem _ hx)
  rw[(by unfold bf;rw[List.map_cons,List.sum_cons]:bf (c::r)=c.length+bf r),List.length_cons,Nat.mul_add];lia
theorem lA{cs:List Str}{n:Nat}(h:∀c∈cs,c.length<=2)(hn:cs.length<=n)(h3:n<=300):bY cs:=by
 have:=aaY h;unfold bY;lia
namespace xu
variable (T:xu own rooted pcs last)
include T
theorem ps_ok:(∀c∈pcs++[last],Ok c)/\(∀c∈pcs++[last],c.length<=2)/\(pcs++[last]).length<=5:=by
 refine⟨λ c hc=>?_,λ c hc=>?_,by rw[List.length_append];have:=T.few;show pcs.length+1<=5;lia⟩
 ·rcases List.mem_append.mp hc with hc|hc
  ·exact(aaX c (T.hpcs c hc)).1
  ·rw[List.mem_singleton.mp hc];exact(vg _ T.hlast).1.1
 ·rcases List.mem_append.mp hc with hc|hc
  ·exact(aaX c (T.hpcs c hc)).2.1
  ·rw[List.mem_singleton.mp hc,(vg _ T.hlast).2];decide
theorem dir_nm:∀c∈own.dropLast,Nm c:=λ c hc=>(tB _ T.hown).1 c (List.dropLast_subset _ hc)
theorem base_nm:∀c∈cR own rooted,Nm c:=by
 unfold cR;cases rooted
 ·exact T.dir_nm
 ·nofun
theorem dir_small:(∀c∈own.dropLast,c.length<=2)/\own.dropLast.length<=2:=by
 have h:=tB _ T.hown;refine⟨λ c hc=>?_,by rw[List.length_dropLast];omega⟩;exact(by decide+kernel:∀own∈dm,∀c∈own,c.length<=2) _ T.hown _ (List.dropLast_subset _ hc)
theorem base_small:(∀c∈cR own rooted,c.length<=2)/\(cR own rooted).length<=2:=by
 unfold cR;induction rooted
 ·exact T.dir_small
 ·exact⟨nofun,Nat.zero_le _⟩
theorem goal_eq:aM own rooted (pcs++[last])=pcs.foldl gA (cR own rooted)++[last]:=by
 unfold aM;rw[List.foldl_append];show gA _ last=_;have h:=(vg _ T.hlast).1;dsimp only[gA];rw[if_neg h.2.2.2,if_neg (λ q=>q.elim h.2.1 h.2.2.1)]
theorem goal_nm:∀c∈aM own rooted (pcs++[last]),Nm c:=
 FN (Q:=Nm) (pcs++[last]) _ T.base_nm λ c hc h1 h2 h3=>by
  rcases List.mem_append.mp hc with hc|hc
  ·exact((aaX c (T.hpcs c hc)).2.2 h1 h2 h3).1
  ·rw[List.mem_singleton.mp hc];exact(vg _ T.hlast).1
theorem goal_small:(∀c∈aM own rooted (pcs++[last]),c.length<=2)/\(aM own rooted (pcs++[last])).length<=7:=by
 refine⟨FN (Q:=λ c=>c.length<=2) (pcs++[last]) _ T.base_small.1 λ c hc _ _ _=>T.ps_ok.2.1 c hc,?_⟩;have:∀(cs acc:List Str),(cs.foldl gA acc).length<=acc.length+cs.length:=by
  intro cs;induction cs with
  |nil=>intro acc;exact Nat.le_refl _
  |cons c r ih=>intro acc;have:=ih (gA acc c);have:=Fy acc c;rw[List.foldl_cons,List.length_cons];lia
 have:=this (pcs++[last]) (cR own rooted);have:=T.base_small.2;have:=T.ps_ok.2.2;unfold aM;lia
theorem at_ok:(∀c∈cR own rooted++cI::(pcs++[last]),Ok c)/\(∀c∈cR own rooted++cI::(pcs++[last]),c.length<=2)/\(cR own rooted++cI::(pcs++[last])).length<=8:=by
 have hd:Ok cI/\cI.length<=2:=by decide+kernel
 refine⟨λ c hc=>?_,λ c hc=>?_,?_⟩
 ·rcases List.mem_append.mp hc with hc|hc
  ·exact(T.base_nm c hc).1
  ·rcases List.mem_cons.mp hc with rfl|hc
   ·exact hd.1
   ·exact T.ps_ok.1 c hc
 ·rcases List.mem_append.mp hc with hc|hc
  ·exact T.base_small.1 c hc
  ·rcases List.mem_cons.mp hc with rfl|hc
   ·exact hd.2
   ·exact T.ps_ok.2.1 c hc
 ·have:=T.base_small.2;have:=T.ps_ok.2.2;rw[List.length_append,List.length_cons];lia
theorem nf_at:nf (cR own rooted++cI::(pcs++[last]))=aM own rooted (pcs++[last]):=by
 unfold nf aM;rw[List.foldl_append,vf true _ [] T.base_nm,List.nil_append,List.foldl_cons,FJ];exact aaW _ _ λ q=>(T.base_nm _ q).2.2.2 rfl
theorem nf_dir:nf (own.dropLast++[cI])=own.dropLast:=by
 unfold nf;rw[List.foldl_append,vf true _ [] T.dir_nm,List.nil_append];exact FJ true _
theorem out_ne:eX own (aM own rooted (pcs++[last]))≠[]:=λ q=>by
 have h1:=(List.append_eq_nil_iff.mp q).2;have h2:=d9 (aM own rooted (pcs++[last])) own.dropLast;rw[qX]at h2;rw[List.drop_eq_nil_iff]at h1;rw[List.take_of_length_le h1]at h2;have h3:last∈own.dropLast:=by
  have:last∈bD own.dropLast (aM own rooted (pcs++[last])):=by rw[<-h2,T.goal_eq];simp
  rw[<-d9]at this;exact List.mem_of_mem_take this
 exact(tB _ T.hown).2.1 _ h3 T.hlast
theorem out_ok:∀c∈eX own (aM own rooted (pcs++[last])),(c=dd\/Nm c)/\c.length<=2:=λ c hc=>by
 rcases List.mem_append.mp hc with hc|hc
 ·rw[List.eq_of_mem_replicate hc];exact⟨.inl rfl,by decide+kernel⟩
 ·exact⟨.inr (T.goal_nm c (List.drop_subset _ _ hc)),T.goal_small.1 c (List.drop_subset _ _ hc)⟩
theorem back_ok:(∀c∈own.dropLast++eX own (aM own rooted (pcs++[last])),Ok c/\c≠mt)/\(∀c∈own.dropLast++eX own (aM own rooted (pcs++[last])),c.length<=2)/\(own.dropLast++eX own (aM own rooted (pcs++[last]))).length<=20:=by
 refine⟨λ c hc=>?_,λ c hc=>?_,?_⟩
 ·rcases List.mem_append.mp hc with hc|hc
  ·exact⟨(T.dir_nm c hc).1,(T.dir_nm c hc).2.1⟩
  ·rcases(T.out_ok c hc).1 with rfl|h
   ·exact(by decide+kernel)
   ·exact⟨h.1,h.2.1⟩
 ·rcases List.mem_append.mp hc with hc|hc
  ·exact T.dir_small.1 c hc
  ·exact(T.out_ok c hc).2
 ·have:=T.dir_small.2;have:=T.goal_small.2;unfold eX;simp only[List.length_append,List.length_replicate,List.length_drop];omega
theorem nf_back:nf (own.dropLast++eX own (aM own rooted (pcs++[last])))=aM own rooted (pcs++[last]):=Vf T.dir_nm T.goal_nm
end xu
theorem xG{as:List Str}(ha:∀c∈as,Ok c/\c≠mt){c:Str}{r:List Str}(hc:Ok c)(h0:c≠mt):pH (R as) (P (c::r))=R (as++c::r):=by
 have h1:¬ (Txt.startswith (P (c::r)) aC=true\/R as=mt):=by
  rintro(q|q)
  ·rw[oJ]at q;exact(jt hc h0 r).1 (eq_of_beq q)
  ·have:=congrArg tx q;rw[lQ]at this;contradiction
 unfold pH;rw[if_neg h1];induction as with
 |nil=>
  rfl
 |cons a t=>
  have h2:¬ Txt.endswith (R (a::t)) aC=true:=by
   rw[Qc,lQ];have hl:∀(t:List Str) (a:Str),(∀c∈a::t,Ok c/\c≠mt)->∃z,(tx (P (a::t))).getLast? =some z/\z≠47:=by
    intro t;induction t with
    |nil=>
     intro a h;induction q:(tx a).getLast? with
     |none=>exact absurd (ji ((List.getLast?_eq_none_iff.mp q).trans La.symm)) (h a List.mem_cons_self).2
     |some z=>exact⟨z,q,λ e=>(h a List.mem_cons_self).1 (by rw[<-e];exact List.mem_of_getLast? q)⟩
    |cons b t ih=>
     intro a h;obtain⟨z,hz,h'⟩:=ih b λ x hx=>h x (List.mem_cons_of_mem _ hx)
     refine⟨z,?_,h'⟩;rw[show tx (P (a::b::t))=tx a++47::tx (P (b::t))from jb a b t,List.getLast?_append,List.getLast?_cons,hz];rfl
   obtain⟨z,hz,h'⟩:=hl t a ha;rw[List.getLast?_cons,hz];exact λ q=>h' (Option.some.inj (eq_of_beq q))
  rw[if_neg h2];exact ahq (by simp) (by simp)
theorem Qm{a x:Str}:pH a (aC++x)=aC++x:=if_pos (.inl (Le x))
theorem lR:Ok cI/\cI≠mt:=by decide+kernel
namespace xu
variable (T:xu own rooted pcs last)
include T
theorem join_name:pH (R own.dropLast) (jc rooted (pcs++[last]))=R (cR own rooted++cI::(pcs++[last])):=by
 induction rooted with
 |true=>
  exact Qm
 |false=>exact xG (λ c hc=>⟨(T.dir_nm c hc).1,(T.dir_nm c hc).2.1⟩) lR.1 lR.2
theorem join_dot:pH (R own.dropLast) cI=R (own.dropLast++[cI]):=xG (r:=[]) (λ c hc=>⟨(T.dir_nm c hc).1,(T.dir_nm c hc).2.1⟩) lR.1 lR.2
theorem join_back:pH (R own.dropLast) (P (eX own (aM own rooted (pcs++[last]))))=R (own.dropLast++eX own (aM own rooted (pcs++[last]))):=by
 have h:=T.out_ne;have h2:=T.back_ok.1;generalize eX own (aM own rooted (pcs++[last]))=out at*;induction out with
 |nil=>exact absurd rfl h
 |cons c r=>
  have:=h2 c (by simp);exact xG (λ c hc=>⟨(T.dir_nm c hc).1,(T.dir_nm c hc).2.1⟩) this.1 this.2
end xu
end
theorem aaZ{c:Str}{r:List Str}(hc:Ok c)(h0:c≠mt):cQ (P (c::r))=mt/\bK (P (c::r))=P (c::r):=⟨if_neg (jt hc h0 r).1,if_neg (jt hc h0 r).1⟩
theorem afZ(d:Nat){c:Str}{r:List Str}(ho:∀x∈c::r,Ok x)(h0:c≠mt)(hf:bY (c::r)){out:List Str}(hout:(c::r).foldl (cT false) []=out)(hn:out≠[])(hm:∀x∈out,Ok x/\x≠mt)(l)(S:List O)(hk:8<=S.length):
  ∃J,ao (d+3) 263 [.str (P (c::r))] ⟨l,S⟩=.ok (.str (P out)) ⟨l,S++J⟩:=by
 obtain⟨r1,r2⟩:=aaZ (r:=r) (ho c List.mem_cons_self) h0;have hne:c::r≠[]:=by simp
 have hcs:eE (P (c::r))=out:=by
  unfold eE;simp only[r2,r1,eV hne ho,(by simp:decide (mt≠mt)=false),hout]
 have hp:P out≠mt:=by
  induction out with
  |nil=>exact absurd rfl hn
  |cons z t=>exact(jt (hm z List.mem_cons_self).1 (hm z List.mem_cons_self).2 t).2
 have hs:Bq (P (c::r))=P out:=by
  unfold Bq;rw[hcs,r1];rw[(ji (by rw[qU];rfl):mt++P out=P out),if_neg hp]
 have hff:=rm false (c::r) [];rw[hout,List.length_nil,show bf []=0 from rfl]at hff;unfold bY at hf;have hj:=dI (c::r);have hjo:=dI out;have h:=rP d (P (c::r)) l S hk (aD (by lia)) (jt (ho c List.mem_cons_self) h0 r).2 (λ q=>absurd q (jt (ho c List.mem_cons_self) h0 r).1)
  (by rw[r2,eV hne ho];intro x hx;have:=oM hx;exact aD (by lia))
  (by rw[r2,eV hne ho];exact aD (by lia))
  (by rw[hcs];exact aD (by lia))
  (by rw[hcs];exact aD (by lia))
  (by rw[hcs,r1];exact aD (by show 0+(P out).length<=_;lia))
 rw[hs]at h;exact h
theorem vh{cs:List Str}(h:bY cs):(P cs).length<=1000/\(R cs).length<=1001:=by
 have:=dI cs;unfold bY at h;refine⟨by exact Nat.le_trans (by assumption) (by assumption),?_⟩;rw[cL,lQ,List.length_cons,<-cL];lia
theorem Iw(a b:Str)(ha:a.length<=2000)(hb:b.length<=2000)(l)(S:List O):∃J,ao 8 242 [.str a,.str b] ⟨l,S⟩=.ok (.str (pH a b)) ⟨l,S++J⟩:=U3 6 a b l S (aD (by lia))
namespace xu
variable {own:List Str}{rooted:Bool}{pcs:List Str}{last:Str}(T:xu own rooted pcs last)
include T
theorem f_at:bY (cR own rooted++cI::(pcs++[last])):=lA T.at_ok.2.1 T.at_ok.2.2 (by decide)
theorem f_goal:bY (aM own rooted (pcs++[last])):=lA T.goal_small.1 T.goal_small.2 (by decide)
theorem f_own:bY own:=by have:=tB _ T.hown;unfold bY;lia
theorem f_dir:bY own.dropLast:=lA T.dir_small.1 T.dir_small.2 (by decide)
theorem f_dot:bY (own.dropLast++[cI]):=lA (n:=3) (λ c hc=>by
 rcases List.mem_append.mp hc with hc|hc
 ·exact T.dir_small.1 c hc
 ·rw[List.mem_singleton.mp hc];decide+kernel) (by rw[List.length_append];have:=T.dir_small.2;show _+1<=3;lia) (by decide)
theorem f_back:bY (own.dropLast++eX own (aM own rooted (pcs++[last]))):=lA T.back_ok.2.1 T.back_ok.2.2 (by decide)
theorem f_out:bY (eX own (aM own rooted (pcs++[last]))):=lA (n:=20) (λ c hc=>(T.out_ok c hc).2) (by have:=T.back_ok.2.2;rw[List.length_append]at this;lia) (by decide)
theorem f_name:bY ((if rooted then [mt,cI]else [cI])++(pcs++[last])):=lA (n:=7) (λ c hc=>by
 rcases List.mem_append.mp hc with hc|hc
 ·have h:∀b:Bool,∀c∈(if b then [mt,cI]else [cI]),c.length<=2:=by decide+kernel
  exact h _ c hc
 ·exact T.ps_ok.2.1 c hc) (by have:=T.ps_ok.2.2;rw[List.length_append];induction rooted<;>simp<;>simp at this<;>lia) (by decide)
theorem f_ps:bY (pcs++[last]):=lA T.ps_ok.2.1 T.ps_ok.2.2 (by decide)
theorem c_folder(l)(S:List O):ao 8 256 [.str (R own)] ⟨l,S⟩=.ok (.str (R own.dropLast)) ⟨l,S++bk⟩:=by
 have h:=afY _ T.hown;rw[<-h.1];exact Il 6 (R own) l S (aD (by omega)) h.2.1
theorem norm_cons{cs:List Str}(hn:cs≠[])(ho:∀c∈cs,Ok c)(h0:∀c∈cs.head?,c≠mt)(hf:bY cs)(l)(S:List O)(hk:8<=S.length):∃J,ao 8 263 [.str (R cs)] ⟨l,S⟩=.ok (.str (R (nf cs))) ⟨l,S++J⟩:=by
 induction cs with
 |nil=>exact absurd rfl hn
 |cons c r=>exact aaR 5 ho (h0 c rfl) hf l S hk
theorem head_nm{as:List Str}{c:Str}{r:List Str}(ha:∀x∈as,Nm x)(hc:c≠mt):∀x∈(as++c::r).head?,x≠mt:=by
 induction as with
 |nil=>rintro x ⟨⟩;exact hc
 |cons a t=>rintro x ⟨⟩;exact(ha a List.mem_cons_self).2.1
theorem c_found(l)(S:List O)(hk:8<=S.length):∃J,ao 8 263 [.str (R (cR own rooted++cI::(pcs++[last])))] ⟨l,S⟩=.ok (.str (R (aM own rooted (pcs++[last])))) ⟨l,S++J⟩:=by
 have:=T.norm_cons (by simp) T.at_ok.1 (T.head_nm T.base_nm lR.2) T.f_at l S hk;rw[T.nf_at]at this;exact this
theorem c_back(l)(S:List O)(hk:8<=S.length):∃J,ao 8 263 [.str (R (own.dropLast++eX own (aM own rooted (pcs++[last]))))] ⟨l,S⟩=.ok (.str (R (aM own rooted (pcs++[last])))) ⟨l,S++J⟩:=by
 have h:=T.norm_cons (cs:=own.dropLast++eX own (aM own rooted (pcs++[last]))) (λ q=>T.out_ne (List.append_eq_nil_iff.mp q).2) (λ c hc=>(T.back_ok.1 c hc).1) (λ c hc=>(T.back_ok.1 c (List.mem_of_mem_head? hc)).2) T.f_back l S hk;rw[T.nf_back]at h;exact h
theorem c_rel(l)(S:List O)(hk:8<=S.length):∃J,ao 8 278 [.str (R (cR own rooted++cI::(pcs++[last]))),.str (R (own.dropLast++[cI]))] ⟨l,S⟩=.ok (.str (P (eX own (aM own rooted (pcs++[last]))))) ⟨l,S++J⟩:=by
 have h1:=T.at_ok.1;have h2:=T.head_nm (r:=pcs++[last]) T.base_nm lR.2;have h3:=T.f_at;have h4:=T.head_nm (r:=[]) T.dir_nm lR.2;have h5:=T.f_dot;have h6:∀c∈own.dropLast++[cI],Ok c:=λ c hc=>by
  rcases List.mem_append.mp hc with hc|hc
  ·exact(T.dir_nm c hc).1
  ·rw[List.mem_singleton.mp hc];exact lR.1
 have n1:=T.nf_at;have n2:=T.nf_dir;have n3:=T.out_ne;generalize aM own rooted (pcs++[last])=goal at*;generalize ha:cR own rooted++cI::(pcs++[last])=a at*;generalize hb:own.dropLast++[cI]=b at*;cases a with
 |nil=>exact absurd ha (by simp)
 |cons a r=>
  induction b with
  |nil=>exact absurd hb (by simp)
  |cons b t=>
   exact Ir 3 h1 (h2 a rfl) h3 h6 (h4 b rfl) h5 l S hk (i:=(bD own.dropLast goal).length) (by rw[n1,n2]) (by rw[n1,n2];rfl) n3
theorem c_common(l)(S:List O)(hk:8<=S.length){m:Nat}(em:S[m]?=some (.list [.str (R own),.str (R (aM own rooted (pcs++[last])))])):∃J,ao 8 283 [.ref m] ⟨l,S⟩=.ok (.str (R (bD own (aM own rooted (pcs++[last]))))) ⟨l,S++J⟩:=by
 have ho:=tB _ T.hown;exact yL 6 l S ho.2.2.1 (by rw[T.goal_eq];simp) (λ c hc=>⟨(ho.1 c hc).1,(ho.1 c hc).2.1,(ho.1 c hc).2.2.1⟩) (λ c hc=>⟨(T.goal_nm c hc).1,(T.goal_nm c hc).2.1,(T.goal_nm c hc).2.2.1⟩) T.f_own T.f_goal hk em
theorem c_loose(h:rooted=false)(l)(S:List O)(hk:8<=S.length):∃J,ao 8 263 [.str (jc rooted (pcs++[last]))] ⟨l,S⟩=.ok (.str (P ((pcs++[last]).foldl lz []))) ⟨l,S++J⟩:=by
 subst h;refine afZ 5 (c:=cI) (r:=pcs++[last]) (List.forall_mem_cons.mpr ⟨lR.1,T.ps_ok.1⟩) lR.2 T.f_name (by rw[List.foldl_cons];exact Iv _ _) ?_ ?_ l S hk
 ·rw[List.foldl_append,List.foldl_cons,<-Rw,Ln ((vg _ T.hlast).1)];simp
 ·rw[<-Iv];exact aaS false (pcs++[last]) [] (λ c=>Ok c/\c≠mt) nofun λ c hc h1 _=>⟨T.ps_ok.1 c hc,h1⟩
theorem lo_small:bY ((pcs++[last]).foldl lz []):=by
 have:=rm false (pcs++[last]) [];rw[Iv,List.length_nil,show bf []=0 from rfl]at this;have h:=T.f_ps;unfold bY at h ⊢;lia
end xu
theorem gL{L:List (Str×Option V)}{x:Str}{v:V}(h:aN L x=some v)(S:List O):aq x ⟨L,S⟩=.ok v ⟨L,S⟩:=cA h
theorem sL(L:List (Str×Option V))(S:List O)(x:Str)(v:V):aF x v ⟨L,S⟩=⟨aZ L x v,S⟩:=rfl
theorem qe(m j:Nat)(h:j≠0)(h2:j<=1000000)(Y:St):gD .FloorDiv (.int m) (.int j) Y=.ok (.int ((m / j:Nat):Int)) Y:=by
 show(if(j:Int)=0\/1000000 < (j:Int).natAbs then ak.bad else ak.ok (V.int ((m:Int).fdiv j)) Y)=_;rw[if_neg (by lia),Int.ofNat_fdiv]
theorem vm(m j:Nat)(h:j≠0)(Y:St):gD .Mod (.int m) (.int j) Y=.ok (.int ((m % j:Nat):Int)) Y:=by
 show(if(j:Int)=0 then ak.bad else ak.ok (V.int ((m:Int).fmod j)) Y)=_;rw[if_neg (by lia),Int.ofNat_fmod]
theorem acO(n:Int)(Y:St):ad5 [.int n] Y=.ok (.int n.natAbs) Y:=by
 show ak.ok (V.int (if n < 0 then -n else n)) Y=_;split<;>lia
theorem eq_int(i j:Int)(Y:St):yw (.int i) (.int j) Y=some (i==j):=rfl
noncomputable def BK(S:List O):Prop:=S[0]?=some (.list ((List.range 6).map λ i=>.ref (i+1)))/\∀i f,dm[i]?=some f->S[i+1]?=some (.list (f.map .str))
theorem BK.push{S J:List O}(h:BK S):BK (S++J):=⟨au h.1,λ i f e=>au (h.2 i f e)⟩
noncomputable def vo(m:Nat):List Str:=(dm[m % 6]?).getD []
noncomputable def dK(m:Nat):Bool:=decide (m / 6 % 2=1)
noncomputable def gj(m:Nat):Str:=(Fz[m / 12 % 4]?).getD mt
noncomputable def Lp:Nat->Nat->List Str
 |0,_=>[]
 |t+1,r=>(fu[r % 7]?).getD mt::Lp t (r / 7)
noncomputable def rQ(m:Nat):List Str:=Lp (m / 48 % 5) (m / 240)
theorem vp:∀t r,(Lp t r).length=t
 |0,_=>rfl
 |t+1,r=>by show(Lp t (r / 7)).length+1=_;rw[vp t]
theorem Rx{xs:List Str}{i:Nat}{d:Str}(h:i < xs.length):(xs[i]?).getD d∈xs:=by
 rw[List.getElem?_eq_getElem h];exact List.getElem_mem h
theorem Lq:∀t r,∀c∈Lp t r,c∈fu
 |0,_=>nofun
 |t+1,r=>λ c hc=>by
  rcases List.mem_cons.mp hc with rfl|hc
  ·exact Rx (Nat.mod_lt _ (by decide))
  ·exact Lq t _ c hc
theorem Iz(m:Nat):xu (vo m) (dK m) (rQ m) (gj m) where
 hown:=by
  unfold vo;have h:m % 6 < dm.length:=Nat.mod_lt _ (by decide);rw[List.getElem?_eq_getElem h];exact List.getElem_mem h
 hpcs:=Lq _ _
 few:=by unfold rQ;rw[vp];have:=Nat.mod_lt (m / 48) (show 5 > 0 by decide);lia
 hlast:=Rx (Nat.mod_lt _ (by decide))
section
variable {cl:Nat->List V->St->ak V}{k:Nat}{L:List (Str×Option V)}{S:List O}
theorem t_0{n:Int}(h:aN L ("number":Str)=some (.int n)):mL cl k ⟨L,S⟩=.ok .next ⟨aZ L ("more":Str) (.int n.natAbs),S⟩:=by
 simp only[mL,(gL h),ak.bind_ok,acO,sL]
theorem t_1{m:Nat}(hS:BK S)(h:aN L ("more":Str)=some (.int m)):mO cl k ⟨L,S⟩=.ok .next ⟨aZ L ("own":Str) (.ref (m % 6+1)),S⟩:=by
 have hm:m % 6 < 6:=Nat.mod_lt _ (by decide);have md':∀Y,gD .Mod (.int m) (.int 6) Y=.ok (.int ((m % 6:Nat):Int)) Y:=(vm m 6 (by decide));simp only[mO,(gL h),ak.bind_ok,md',(qW hS.1 rfl (za (by simpa using hm) rfl) (by rw[List.getElem?_map,List.getElem?_range hm];rfl)),bA,sL]
theorem t_2{m:Nat}(h:aN L ("more":Str)=some (.int m)):mQ cl k ⟨L,S⟩=.ok .next ⟨aZ L ("rooted":Str) (.bool (dK m)),S⟩:=by
 have e1:∀Y,gD .FloorDiv (.int m) (.int 6) Y=.ok (.int ((m / 6:Nat):Int)) Y:=qe m 6 (by decide) (by decide);have e2:∀Y,gD .Mod (.int ((m / 6:Nat):Int)) (.int 2) Y=.ok (.int ((m / 6 % 2:Nat):Int)) Y:=vm (m / 6) 2 (by decide);have e3:∀Y,yw (.int ((m / 6 % 2:Nat):Int)) (.int 1) Y=some (dK m):=λ Y=>by
  simp only[eq_int];unfold dK;congr 1;by_cases q:m / 6 % 2=1
  ·rw[q];rfl
  ·rw[decide_eq_false q];exact beq_eq_false_iff_ne.mpr (by lia)
 simp only[mQ,(gL h),ak.bind_ok,e1,e2,e3,aA,sL]
theorem Vg{i:Nat}(h:i < 4)(Y:St):cM (.str ("xyzw":Str)) (.int i) Y=some (.str ((Fz[i]?).getD mt)):=by
 match i,h with
 |0,_=>kernel_rfl
 |1,_=>kernel_rfl
 |2,_=>kernel_rfl
 |3,_=>kernel_rfl
theorem t_3{m:Nat}(h:aN L ("more":Str)=some (.int m)):mR cl k ⟨L,S⟩=.ok .next ⟨aZ L ("last":Str) (.str (gj m)),S⟩:=by
 have e1:∀Y,gD .FloorDiv (.int m) (.int 12) Y=.ok (.int ((m / 12:Nat):Int)) Y:=qe m 12 (by decide) (by decide);have e2:∀Y,gD .Mod (.int ((m / 12:Nat):Int)) (.int 4) Y=.ok (.int ((m / 12 % 4:Nat):Int)) Y:=vm (m / 12) 4 (by decide);have e3:∀Y,cM (.str ("xyzw":Str)) (.int ((m / 12 % 4:Nat):Int)) Y=some (.str (gj m)):=Vg (Nat.mod_lt _ (by decide));simp only[mR,(gL h),ak.bind_ok,e1,e2,e3,bA,sL]
theorem t_4{m:Nat}(h:aN L ("more":Str)=some (.int m)):mU cl k ⟨L,S⟩=.ok .next ⟨aZ L ("rest":Str) (.int ((m / 240:Nat):Int)),S⟩:=by
 have e1:∀Y,gD .FloorDiv (.int m) (.int 240) Y=.ok (.int ((m / 240:Nat):Int)) Y:=qe m 240 (by decide) (by decide);simp only[mU,(gL h),ak.bind_ok,e1,sL]
theorem t_5:qL cl k ⟨L,S⟩=.ok .next ⟨aZ L ("pieces":Str) (.ref S.length),S++[.list []]⟩:=rfl
end
section
variable {k:Nat}{L:List (Str×Option V)}{S:List O}
theorem ajr{r:Nat}{acc:List Str}{J:List O}(hk:8<=S.length)(hp:aN L ("pieces":Str)=some (.ref S.length))(hr:aN L ("rest":Str)=some (.int r))(hs:small acc.length=true):
  oH (ao 8) k ⟨L,S++[O.list (acc.map .str)]++J⟩=.ok .next ⟨aZ L ("rest":Str) (.int ((r / 7:Nat):Int)),S++[O.list ((acc++[(fu[r % 7]?).getD mt]).map .str)]++(J++[O.list (fu.map .str)])⟩:=by
 have e1:∀Y,gD .Mod (.int r) (.int 7) Y=.ok (.int ((r % 7:Nat):Int)) Y:=vm r 7 (by decide);have e2:∀Y,gD .FloorDiv (.int r) (.int 7) Y=.ok (.int ((r / 7:Nat):Int)) Y:=qe r 7 (by decide) (by decide);have it:=λ L=>uX (L:=L) (aP (S:=S++[O.list (acc.map V.str)]++J) (.list (fu.map .str))) rfl (y:=(fu[r % 7]?).getD mt) (by rw[List.getElem?_eq_getElem (Nat.mod_lt _ (by decide):r % 7 < fu.length)];rfl)
 have ap:=gq (L:=L) (au (J:=[O.list (fu.map .str)]) (lJ S (.list (acc.map V.str)) J)) (by rw[List.length_map];exact hs) hk (.str ((fu[r % 7]?).getD mt));rw[List.append_assoc _ J,Yr]at ap;rw[List.append_assoc _ J]at it;simp only[oH,uK,uL,(gL hp),(gL hr),(λ cl live args=>dU (cl:=cl) (live:=live) (args:=args) (L:=L) (lJ S (.list (acc.map V.str)) J)),ak.bind_ok,(λ L=>by rw[<-List.append_assoc];exact(λ L=>Lh 7 L (S++[O.list (acc.map V.str)]++J)) L:∀L,ao 8 297 [] ⟨L,S++[O.list (acc.map V.str)]++J⟩=.ok (.ref (S++[O.list (acc.map V.str)]++J).length) ⟨L,S++[O.list (acc.map V.str)]++(J++[O.list (fu.map .str)])⟩),e1,it,bA,ap,aB,e2,sL,List.map_append,List.map_cons,List.map_nil]
end
theorem FP{m:Nat}{L L':List (Str×Option V)}{S S':List O}{n:Int}(h:S[m]?=some (.rng n))(h':S'[m]?=some (.rng n)):aR (.ref m) ⟨L,S⟩ ⟨L',S'⟩=true:=tO h h' rfl
theorem FQ{m:Nat}{L}{S:List O}{n:Nat}(h:S[m]?=some (.rng n)):bN (.ref m) ⟨L,S⟩=some ((List.range n).map λ k:Nat=>V.int (k:Int)):=Gn (Y:=⟨L,S⟩) (n:=(n:Int)) h
theorem BL{n:Nat}(h:n<=1000)(L)(S:List O):vK [.int n] ⟨L,S⟩=.ok (.ref S.length) ⟨L,S++[.rng n]⟩:=if_pos ⟨by lia,by lia⟩
section
variable {k:Nat}{L:List (Str×Option V)}{S:List O}
theorem t_6{m:Nat}{Lf:Option V->Option V->List (Str×Option V)}(hk:8<=S.length)(h1:∀o r v,aZ (Lf o r) ("turn":Str) v=Lf (some v) r)(h2:∀o r v,aZ (Lf o r) ("rest":Str) v=Lf o (some v))(h3:∀o r,aN (Lf o r) ("pieces":Str)=some (.ref S.length))(h4:∀o v,aN (Lf o (some v)) ("rest":Str)=some v)(h5:∀o r,aN (Lf o r) ("more":Str)=some (.int m))(o0:Option V):
  ∃o r J,mV (ao 8) k ⟨Lf o0 (some (.int ((m / 240:Nat):Int))),S++[.list []]⟩=.ok .next ⟨Lf o r,S++[.list ((rQ m).map .str)]++J⟩:=by
 have e1:∀Y,gD .FloorDiv (.int m) (.int 48) Y=.ok (.int ((m / 48:Nat):Int)) Y:=qe m 48 (by decide) (by decide);have e2:∀Y,gD .Mod (.int ((m / 48:Nat):Int)) (.int 5) Y=.ok (.int ((m / 48 % 5:Nat):Int)) Y:=vm (m / 48) 5 (by decide);have ht:m / 48 % 5 < 5:=Nat.mod_lt _ (by decide);have e3:=λ L=>BL (n:=m / 48 % 5) (by lia) L (S++[.list []])
 unfold rQ;generalize m / 48 % 5=t at*;have er:=aP (S:=S++[O.list []]) (.rng t);obtain⟨Y',h6,acc,rest,J,o,h7,h8,h9⟩:=fK (f:=λ k:Nat=>V.int (k:Int)) (ok:=aR (.ref (S++[O.list []]).length) ⟨Lf o0 (some (.int ((m / 240:Nat):Int))),S++[.list []]++[.rng t]⟩) (body:=λ v Y=>oH (ao 8) k (aF ("turn":Str) v Y))
  (λ r Y=>∃(acc:List Str) (rest:Nat) (J:List O) (o:Option V),Y=⟨Lf o (some (.int rest)),S++[.list (acc.map .str)]++([.rng t]++J)⟩/\acc++Lp r.length rest=Lp t (m / 240)/\acc.length<=t)
  (by
   rintro r Y ⟨acc,rest,J,o,rfl,-,-⟩;refine FP er ?_;simp)
  (by
   rintro c r Y ⟨acc,rest,J,o,rfl,h,hl⟩;have hl2:=congrArg List.length h;simp only[List.length_append,vp,vp,List.length_cons]at hl2;have hb:=ajr (k:=k) (L:=Lf (some (.int (c:Int))) (some (.int rest))) (r:=rest) (acc:=acc) (J:=[.rng t]++J) hk (h3 _ _) (h4 _ _) (aD (by lia));rw[h2,List.append_assoc [O.rng _] J]at hb;refine⟨.next,_,.inl rfl,(by rw[sL,h1];exact hb),_,_,_,_,rfl,?_,?_⟩
   ·rw[<-h,List.append_assoc];rfl
   ·rw[List.length_append];show acc.length+1<=t;lia)
  (List.range t) ⟨Lf o0 (some (.int ((m / 240:Nat):Int))),S++[.list []]++[.rng t]⟩
  ⟨[],m / 240,[],o0,rfl,by rw[List.length_range];rfl,Nat.zero_le _⟩
 rw[show Lp [].length rest=[]from rfl,List.append_nil]at h8;subst h7;refine⟨o,some (.int rest),[.rng t]++J,?_⟩;rw[<-h8];simp only[mV,(gL (h5 o0 (some (.int ((m / 240:Nat):Int))))),ak.bind_ok,e1,e2,e3,fC,(λ L=>FQ (L:=L) er),h6];rfl
theorem t_7{p:Nat}{cs:List Str}{last:Str}(hk:8<=p)(hp:S[p]?=some (.list (cs.map .str)))(h1:aN L ("pieces":Str)=some (.ref p))(h2:aN L ("last":Str)=some (.str last))(hs:small cs.length=true){cl:Nat->List V->St->ak V}:
  mW cl k ⟨L,S⟩=.ok .next ⟨L,S.set p (.list ((cs++[last]).map .str))⟩:=by
 simp only[mW,(gL h1),(gL h2),(λ cl live args=>dU (cl:=cl) (live:=live) (args:=args) (L:=L) hp),ak.bind_ok,(gq (L:=L) hp (by rw[List.length_map];exact hs) hk (.str last)),List.map_append,List.map_cons,List.map_nil]
theorem t_8{p:Nat}{ps:List Str}{b:Bool}(hp:S[p]?=some (.list (ps.map .str)))(h1:aN L ("pieces":Str)=some (.ref p))(h2:aN L ("rooted":Str)=some (.bool b))(hf:bY ((if b then [mt,cI]else [cI])++ps)){cl:Nat->List V->St->ak V}:
  ∃J,iB cl k ⟨L,S⟩=.ok .next ⟨aZ L ("name":Str) (.str (jc b ps)),S++J⟩:=by
 have g1:=gL h1;have g2:=gL h2;have core:∀(pre:List Str),bY (pre++ps)->∃J,(∀L,jE (.ref S.length) (.ref p) ⟨L,S++[.list (pre.map .str)]⟩=.ok (.ref (S.length+1)) ⟨L,S++J⟩)/\(∀L,cD .join (.str ("/":Str)) [.ref (S.length+1)] ⟨L,S++J⟩=.ok (.str (P (pre++ps))) ⟨L,S++J⟩):=λ pre hf=>by
  unfold bY at hf;refine⟨[.list (pre.map .str)]++[.list (pre.map V.str++ps.map V.str)],λ L=>?_,λ L=>?_⟩
  ·rw[add_list (aP _) (au hp) (by rw[List.length_map,List.length_map,<-List.length_append];exact aD (by lia)),List.length_append,List.append_assoc];rfl
  ·exact oK (by rw[List.map_append];simp) (aD (by lia)) (aD (by lia))
 unfold jc;clear h2;induction b with
 |true=>
  obtain⟨J,j1,j2⟩:=core [mt,cI] hf;have j1':∀L,jE (.ref S.length) (.ref p) ⟨L,S++[.list [.str ("":Str),.str (".":Str)]]⟩=_:=j1;refine⟨J,?_⟩;simp only[iB,g1,g2,gk,ak.bind_ok,bx,aA,if_true,bO,j1',j2,sL]
 |false=>
  obtain⟨J,j1,j2⟩:=core [cI] hf;have j1':∀L,jE (.ref S.length) (.ref p) ⟨L,S++[.list [.str (".":Str)]]⟩=_:=j1;refine⟨J,?_⟩;simp only[iB,g1,g2,gk,ak.bind_ok,bx,aA,if_false,Bool.false_eq_true,bO,j1',j2,sL]
theorem t_9{p w:Nat}{ps own:List Str}{b:Bool}(hp:S[p]?=some (.list (ps.map .str)))(hw:S[w]?=some (.list (own.map .str)))(h1:aN L ("pieces":Str)=some (.ref p))(h2:aN L ("rooted":Str)=some (.bool b))(h3:aN L ("own":Str)=some (.ref w))(hs1:ps.length<=1000)(hs2:own.length<=1000):
  ∃J r,iC (ao 8) k ⟨L,S⟩=.ok .next ⟨aZ L ("goal":Str) (.ref r),S++J⟩/\(S++J)[r]?=some (.list ((aM own b ps).map .str)):=by
 have g1:=gL h1;have g2:=gL h2;have hb:(cR own b).length<=1000:=by
  clear h2 g2;induction b
  ·show own.dropLast.length<=_;rw[List.length_dropLast];omega
  ·exact Nat.zero_le _
 obtain⟨r,J,e1,e2⟩:=Ve 7 L (S++[.list ((cR own b).map .str)]) (aP _) (au hp) (aD (by lia));have e1':ao 8 311 [.ref S.length,.ref p] ⟨L,S++[.list ((cR own b).map .str)]⟩=.ok (.ref r) ⟨L,S++([.list ((cR own b).map .str)]++J)⟩:=by rw[<-List.append_assoc];exact e1
 refine⟨[.list ((cR own b).map .str)]++J,r,?_,by rw[<-List.append_assoc];exact e2⟩;unfold cR at e1' ⊢;clear h2 hb e1 e2;induction b with
 |true=>
  simp only[if_true,List.map_nil]at e1' ⊢;simp only[iC,g1,g2,ak.bind_ok,bx,aA,if_true,bO,e1',sL]
 |false=>
  simp only[if_false,Bool.false_eq_true,List.map_dropLast]at e1' ⊢;simp only[iC,g1,g2,(gL h3),ak.bind_ok,bx,aA,if_false,Bool.false_eq_true,lu,(λ L=>kh (L:=L) hw (by rw[List.length_map];exact aD (by lia))),e1',sL]
end
theorem zj(x:Str)(Y:St):nj (.str x) (.str x) Y=some false:=by rw[ne_str,bne_self_eq_false]
section
variable {k:Nat}{L:List (Str×Option V)}{S:List O}{own:List Str}{rooted:Bool}{pcs:List Str}{last:Str}(T:xu own rooted pcs last)
include T
theorem ajs{w:Nat}(hw:S[w]?=some (.list (own.map .str)))(h:aN L ("own":Str)=some (.ref w)):iD (ao 8) k ⟨L,S⟩=.ok .next ⟨aZ L ("holder":Str) (.str (R own)),S⟩:=by
 simp only[iD,(gL h),ak.bind_ok,(λ L=>jC 7 L S hw T.f_own),sL]
theorem ajt(h:aN L ("holder":Str)=some (.str (R own))):∃J,iG (ao 8) k ⟨L,S⟩=.ok .next ⟨aZ L ("folder":Str) (.str (R own.dropLast)),S++J⟩:=by
 refine⟨bk,?_⟩;simp only[iG,(gL h),ak.bind_ok,T.c_folder,sL]
theorem Ry(l)(S:List O)(hk:8<=S.length):∃J,ao 8 242 [.str (R own.dropLast),.str (jc rooted (pcs++[last]))] ⟨l,S⟩=.ok (.str (R (cR own rooted++cI::(pcs++[last])))) ⟨l,S++J⟩:=by
 have h:=Iw (R own.dropLast) (jc rooted (pcs++[last])) (by have:=(vh T.f_dir).2;lia) (by have:=(vh T.f_name).1;unfold jc;lia) l S;rw[T.join_name]at h;exact h
theorem aju(hk:8<=S.length)(h1:aN L ("folder":Str)=some (.str (R own.dropLast)))(h2:aN L ("name":Str)=some (.str (jc rooted (pcs++[last])))):
  ∃J,iH (ao 8) k ⟨L,S⟩=.ok .next ⟨aZ L ("found":Str) (.str (R (aM own rooted (pcs++[last])))),S++J⟩:=by
 obtain⟨J1,j1⟩:=Ry T L S hk;obtain⟨J2,j2⟩:=T.c_found L (S++J1) (by simp;exact Nat.lt_add_right _ (by assumption));refine⟨J1++J2,?_⟩;rw[<-List.append_assoc];simp only[iH,(gL h1),(gL h2),ak.bind_ok,j1,j2,sL]
theorem ajv{w r:Nat}(hw:S[w]?=some (.list (own.map .str)))(hr:S[r]?=some (.list ((aM own rooted (pcs++[last])).map .str)))(h0:aN L ("own":Str)=some (.ref w))(h1:aN L ("folder":Str)=some (.str (R own.dropLast)))(h2:aN L ("found":Str)=some (.str (R (aM own rooted (pcs++[last])))))(h3:aN L ("goal":Str)=some (.ref r)):
  ∃J,fX (ao 8) k ⟨L,S⟩=.ok .next ⟨L,S++J⟩:=by
 refine⟨[.list (own.map V.str).dropLast],?_⟩;simp only[fX,(gL h0),(gL h1),(gL h2),(gL h3),ak.bind_ok,lu,(λ L=>kh (L:=L) hw (by rw[List.length_map];have:=T.f_own;unfold bY at this;exact aD (by lia))),(λ L=>jC 7 L _ (by rw[aP,List.map_dropLast]) T.f_dir:∀L,ao 8 304 [.ref S.length] ⟨L,S++[.list (own.map V.str).dropLast]⟩=.ok (.str (R own.dropLast)) ⟨L,S++[.list (own.map V.str).dropLast]⟩),(λ L=>jC 7 L _ (au hr) T.f_goal:∀L,ao 8 304 [.ref r] ⟨L,S++[.list (own.map V.str).dropLast]⟩=.ok (.str (R (aM own rooted (pcs++[last])))) ⟨L,S++[.list (own.map V.str).dropLast]⟩),zj,aA,Bool.false_eq_true,if_false]
theorem ajw{p:Nat}(hk:8<=S.length)(hp:S[p]?=some (.list ((pcs++[last]).map .str)))(h0:aN L ("pieces":Str)=some (.ref p))(h1:aN L ("rooted":Str)=some (.bool rooted))(h2:aN L ("name":Str)=some (.str (jc rooted (pcs++[last])))):
  ∃J,eO (ao 8) k ⟨L,S⟩=.ok .next ⟨L,S++J⟩:=by
 have g1:=gL h1;clear h1;induction rooted with
 |true=>
  refine⟨[],?_⟩;rw[List.append_nil];simp only[eO,g1,ak.bind_ok,bx,aA,Bool.not_true,Bool.not_false,if_true,Bool.false_eq_true,if_false]
 |false=>
  obtain⟨J1,j1⟩:=T.c_loose rfl L S hk;obtain⟨r,J2,j2,j3⟩:=Ql 7 L (S++J1) (au hp) (by have:=T.ps_ok.2.2;exact aD (by lia));have hf:=T.lo_small;unfold bY at hf;have j4':cD .join (.str ("/":Str)) [.ref r] ⟨L,S++J1++J2⟩=.ok (.str (P ((pcs++[last]).foldl lz []))) ⟨L,S++J1++J2⟩:=(oK (L:=L) j3 (aD (by lia)) (aD (by lia)));refine⟨J1++J2,?_⟩;rw[<-List.append_assoc];simp only[eO,(gL h0),g1,(gL h2),ak.bind_ok,bx,aA,Bool.not_true,Bool.not_false,if_true,Bool.false_eq_true,if_false,j1,gk,j2,j4',zj]
theorem ajx{w r:Nat}(hw:S[w]?=some (.list (own.map .str)))(hr:S[r]?=some (.list ((aM own rooted (pcs++[last])).map .str)))(h0:aN L ("own":Str)=some (.ref w))(h3:aN L ("goal":Str)=some (.ref r)):
  ∃J,fY (ao 8) k ⟨L,S⟩=.ok .next ⟨aZ L ("same":Str) (.int ((bD own.dropLast (aM own rooted (pcs++[last]))).length:Nat)),S++J⟩:=by
 have c1:∀L,ao 8 325 [.ref S.length,.ref r] ⟨L,S++[.list (own.map V.str).dropLast]⟩=.ok (.int ((bD own.dropLast (aM own rooted (pcs++[last]))).length:Nat)) ⟨L,S++[.list (own.map V.str).dropLast]⟩:=λ L=>
  BJ 7 L _ (by rw[aP,List.map_dropLast]) (au hr) (by have:=T.dir_small.2;lia) (by have:=T.goal_small.2;lia)
 refine⟨[.list (own.map V.str).dropLast],?_⟩;simp only[fY,(gL h0),(gL h3),ak.bind_ok,lu,(λ L=>kh (L:=L) hw (by rw[List.length_map];have:=T.f_own;unfold bY at this;exact aD (by lia))),c1,sL]
theorem ajy(hk:8<=S.length)(h1:aN L ("folder":Str)=some (.str (R own.dropLast)))(h2:aN L ("name":Str)=some (.str (jc rooted (pcs++[last])))):
  ∃J,fZ (ao 8) k ⟨L,S⟩=.ok .next ⟨aZ L ("back":Str) (.str (P (eX own (aM own rooted (pcs++[last]))))),S++J⟩:=by
 obtain⟨J1,j1⟩:=Ry T L S hk;obtain⟨J2,j2⟩:=Iw (R own.dropLast) cI (by have:=(vh T.f_dir).2;lia) (by decide+kernel) L (S++J1);rw[T.join_dot]at j2;have j2':ao 8 242 [.str (R own.dropLast),.str (".":Str)] ⟨L,S++J1⟩=_:=j2;obtain⟨J3,j3⟩:=T.c_rel L (S++J1++J2) (by simp;exact Nat.lt_add_right _ (by assumption));refine⟨J1++J2++J3,?_⟩;rw[<-List.append_assoc,<-List.append_assoc];simp only[fZ,(gL h1),(gL h2),ak.bind_ok,j1,j2',j3,sL]
theorem ajz{w r:Nat}(hk:8<=S.length)(hw:S[w]?=some (.list (own.map .str)))(hr:S[r]?=some (.list ((aM own rooted (pcs++[last])).map .str)))(h0:aN L ("own":Str)=some (.ref w))(h1:aN L ("folder":Str)=some (.str (R own.dropLast)))(h2:aN L ("found":Str)=some (.str (R (aM own rooted (pcs++[last])))))(h3:aN L ("goal":Str)=some (.ref r))
  (h4:aN L ("same":Str)=some (.int ((bD own.dropLast (aM own rooted (pcs++[last]))).length:Nat))) (h5:aN L ("back":Str)=some (.str (P (eX own (aM own rooted (pcs++[last])))))):
  ∃J,f9 (ao 8) k ⟨L,S⟩=.ok .next ⟨L,S++J⟩:=by
 have ho:=T.f_own;have hgs:=T.goal_small.2;have hle:=qY own.dropLast (aM own rooted (pcs++[last]));have j3:=λ U=>Iw (R own.dropLast) (P (eX own (aM own rooted (pcs++[last])))) (by have:=(vh T.f_dir).2;lia) (by have:=(vh T.f_out).1;lia) L U
 rw[T.join_back]at j3;have j4:=λ U hU=>T.c_back L U hU
 have eo:eX own (aM own rooted (pcs++[last]))=List.replicate (own.dropLast.length - (bD own.dropLast (aM own rooted (pcs++[last]))).length) dd++(aM own rooted (pcs++[last])).drop (bD own.dropLast (aM own rooted (pcs++[last]))).length:=rfl;have hof:=T.f_out;unfold bY at ho hof;generalize eX own (aM own rooted (pcs++[last]))=out at*;generalize(bD own.dropLast (aM own rooted (pcs++[last]))).length=c at*;generalize aM own rooted (pcs++[last])=goal at*;have hol:own.dropLast.length+1=own.length:=by rw[List.length_dropLast];have:=List.length_pos_iff.mpr ((tB _ T.hown).2.2.1);lia
 have l1:∀L,rU [.ref w] ⟨L,S++[O.list [.str dd]]⟩=.ok (.int own.length) ⟨L,S++[O.list [.str dd]]⟩:=λ L=>by
  have:=mZ (L:=L) (au (J:=[O.list [.str dd]]) hw) (by rw[List.length_map];exact aD (by lia));rw[List.length_map]at this;exact this
 have s1:∀Y,gD .Sub (.int (own.length:Int)) (.int 1) Y=.ok (.int ((own.dropLast.length:Nat):Int)) Y:=λ Y=>by
  rw[sub_int,<-hol];congr 2;simp
 obtain⟨n,hn⟩:∃n,(S++[O.list [.str dd]]++[O.list (List.replicate (own.dropLast.length - c) (V.str dd))]++[O.list ((goal.map V.str).drop c)]).length=n:=⟨_,rfl⟩;have a1:=λ L=>add_list (L:=L) (au (J:=[O.list ((goal.map V.str).drop c)]) (aP (S:=S++[O.list [.str dd]]) (.list (List.replicate (own.dropLast.length - c) (V.str dd))))) (aP (S:=S++[O.list [.str dd]]++[O.list (List.replicate (own.dropLast.length - c) (V.str dd))]) (.list ((goal.map V.str).drop c))) (by rw[List.length_replicate,List.length_drop,List.length_map];exact aD (by lia))
 rw[(by rw[eo,List.map_append,List.map_replicate,List.map_drop]:List.replicate (own.dropLast.length - c) (V.str dd)++(goal.map V.str).drop c=out.map .str)]at a1;obtain⟨U,hU⟩:∃U,S++[O.list [.str dd]]++[O.list (List.replicate (own.dropLast.length - c) (V.str dd))]++[O.list ((goal.map V.str).drop c)]++[O.list (out.map V.str)]=U:=⟨_,rfl⟩;have pU:S <+: U:=by rw[<-hU];exact(((List.prefix_append ..).trans (List.prefix_append ..)).trans (List.prefix_append ..)).trans (List.prefix_append ..)
 rw[hU,hn]at a1;obtain⟨J3,j3⟩:=j3 U;have js':cD .join (.str ("/":Str)) [.ref n] ⟨L,U⟩=.ok (.str (P out)) ⟨L,U⟩:=(oK (L:=L) (by rw[<-hU,<-hn];exact aP _:U[n]?=some (.list (out.map .str))) (aD (by lia)) (aD (by lia)));obtain⟨J4,j4⟩:=j4 (U++J3) (by have:=pU.length_le;rw[List.length_append];lia);obtain⟨J,rfl⟩:=pU;have dl:V.str ("..":Str)=V.str dd:=rfl;refine⟨J++J3++J4,?_⟩;rw[<-List.append_assoc,<-List.append_assoc];simp only[f9,(gL h0),(gL h1),(gL h2),(gL h3),(gL h4),(gL h5),gk,ak.bind_ok,bO,dl,l1,s1,Rr hle,(λ L=>Fw (L:=L) (aP (S:=S) (.list [.str dd])) (j:=own.dropLast.length - c) (aD (by lia))),(λ L=>jj (L:=L) (au (J:=[O.list (List.replicate (own.dropLast.length - c) (V.str dd))]) (au (J:=[O.list [.str dd]]) hr)) (by rw[List.length_map];exact aD (by lia)) (i:=c) (by lia)),a1,js',zj,aA,Bool.false_eq_true,if_false,j3,j4]
end
section
variable {k:Nat}{L:List (Str×Option V)}{S:List O}{own:List Str}{rooted:Bool}{pcs:List Str}{last:Str}(T:xu own rooted pcs last)
include T
theorem ajA{w r:Nat}(hk:8<=S.length)(hw:S[w]?=some (.list (own.map .str)))(hr:S[r]?=some (.list ((aM own rooted (pcs++[last])).map .str)))(h0:aN L ("own":Str)=some (.ref w))(h1:aN L ("holder":Str)=some (.str (R own)))(h2:aN L ("found":Str)=some (.str (R (aM own rooted (pcs++[last])))))(h3:aN L ("goal":Str)=some (.ref r)):
  ∃J,gb (ao 8) k ⟨L,S⟩=.ok .next ⟨L,S++J⟩:=by
 have ho:=T.f_own;have hgs:=T.goal_small.2;obtain⟨J1,j1⟩:=T.c_common L (S++[.list [.str (R own),.str (R (aM own rooted (pcs++[last])))]]) (by simp;exact Nat.le_of_lt (by assumption)) (aP _);have hc:=d9 own (aM own rooted (pcs++[last]));have hle:=qY own (aM own rooted (pcs++[last]));have hcf:bY (bD own (aM own rooted (pcs++[last]))):=by
  have h:=qZ (own.take (bD own (aM own rooted (pcs++[last]))).length) (own.drop (bD own (aM own rooted (pcs++[last]))).length);rw[List.take_append_drop,hc]at h;unfold bY at ho ⊢;lia
 unfold bY at ho;generalize aM own rooted (pcs++[last])=goal at*;obtain⟨U,hU⟩:∃U,S++[O.list [.str (R own),.str (R goal)]]++J1=U:=⟨_,rfl⟩;obtain⟨J,rfl⟩:=(by rw[<-hU,List.append_assoc];exact List.prefix_append ..:S <+: U);simp only[hU]at j1;have hw':=au (J:=J) hw;refine⟨J++[.list ((own.map V.str).take (bD own goal).length)],?_⟩;rw[<-List.append_assoc];simp only[gb,(gL h0),(gL h1),(gL h2),(gL h3),ak.bind_ok,bO,j1,(λ L=>BJ 7 L _ hw' (au (J:=J) hr) (by lia) (by lia)),(λ L=>iR (L:=L) hw' (by rw[List.length_map];exact aD (by lia)) (i:=(bD own goal).length) (by lia)),(λ L=>jC 7 L _ (by rw[aP,<-List.map_take,hc]) hcf:∀L,ao 8 304 [.ref (S++J).length] ⟨L,S++J++[.list ((own.map V.str).take (bD own goal).length)]⟩=.ok (.str (R (bD own goal))) ⟨L,S++J++[.list ((own.map V.str).take (bD own goal).length)]⟩),zj,aA,Bool.false_eq_true,if_false]
end
structure Os where
 a0:Option V
 a1:Option V
 a2:Option V
 a3:Option V
 a4:Option V
 a5:Option V
 a6:Option V
 a7:Option V
 a8:Option V
 a9:Option V
 a10:Option V
 a11:Option V
 a12:Option V
 a13:Option V
 a14:Option V
 a15:Option V
 a16:Option V
 a17:Option V
 a18:Option V
 a19:Option V
 a20:Option V
 a21:Option V
noncomputable def FB(q:Os):List (Str×Option V):=bh q.a0 q.a1 q.a2 q.a3 q.a4 q.a5 q.a6 q.a7 q.a8 q.a9 q.a10 q.a11 q.a12 q.a13 q.a14 q.a15 q.a16 q.a17 q.a18 q.a19 q.a20 q.a21
noncomputable def Os.s1(q:Os)(o:Option V):Os:={q with a1:=o}
noncomputable def Os.s2(q:Os)(o:Option V):Os:={q with a2:=o}
noncomputable def Os.s3(q:Os)(o:Option V):Os:={q with a3:=o}
noncomputable def Os.s4(q:Os)(o:Option V):Os:={q with a4:=o}
noncomputable def Os.s5(q:Os)(o:Option V):Os:={q with a5:=o}
noncomputable def Os.s6(q:Os)(o:Option V):Os:={q with a6:=o}
noncomputable def Os.s7(q:Os)(o:Option V):Os:={q with a7:=o}
noncomputable def Os.s8(q:Os)(o:Option V):Os:={q with a8:=o}
noncomputable def Os.s9(q:Os)(o:Option V):Os:={q with a9:=o}
noncomputable def Os.s10(q:Os)(o:Option V):Os:={q with a10:=o}
noncomputable def Os.s11(q:Os)(o:Option V):Os:={q with a11:=o}
noncomputable def Os.s12(q:Os)(o:Option V):Os:={q with a12:=o}
noncomputable def Os.s13(q:Os)(o:Option V):Os:={q with a13:=o}
noncomputable def Os.s14(q:Os)(o:Option V):Os:={q with a14:=o}
noncomputable def Os.s15(q:Os)(o:Option V):Os:={q with a15:=o}
noncomputable def Os.s16(q:Os)(o:Option V):Os:={q with a16:=o}
noncomputable def Os.s17(q:Os)(o:Option V):Os:={q with a17:=o}
noncomputable def Os.s18(q:Os)(o:Option V):Os:={q with a18:=o}
noncomputable def Os.s19(q:Os)(o:Option V):Os:={q with a19:=o}
noncomputable def Os.s20(q:Os)(o:Option V):Os:={q with a20:=o}
noncomputable def Os.s21(q:Os)(o:Option V):Os:={q with a21:=o}
section
variable {q:Os}{m k:Nat}{n:Int}{S:List O}{r:St->ak Fl}
theorem af0(hn:n.natAbs=m)(hq:q.a3=some (.int n))(hk:8<=S.length)(hS:BK S):
  ∃J q8 q10,(aj (mL (ao 8) k ⟨FB q,S⟩) λ Y=>aj (mO (ao 8) k Y) λ Y=>aj (mQ (ao 8) k Y) λ Y=>aj (mR (ao 8) k Y) λ Y=>aj (mU (ao 8) k Y) λ Y=>aj (qL (ao 8) k Y) λ Y=>aj (mV (ao 8) k Y) λ Y=>aj (mW (ao 8) k Y) r)=
   r ⟨FB ((((((((q.s4 (some (.int m))).s5 (some (.ref (m % 6+1)))).s6 (some (.bool (dK m)))).s7 (some (.str (gj m)))).s9 (some (.ref S.length))).s10 q10).s8 q8)),S++J⟩/\(S++J)[S.length]?=some (.list ((rQ m++[gj m]).map .str)):=by
 have hfew:=(Iz m).few;obtain⟨q10,q8,J0,h6⟩:=t_6 (k:=k) (S:=S) (m:=m) (Lf:=λ a b=>FB ((((((((q.s4 (some (.int m))).s5 (some (.ref (m % 6+1)))).s6 (some (.bool (dK m)))).s7 (some (.str (gj m)))).s9 (some (.ref S.length))).s10 a).s8 b))) hk (λ _ _ _=>rfl) (λ _ _ _=>rfl) (λ _ _=>rfl) (λ _ _=>rfl) (λ _ _=>rfl) q.a10;refine⟨[.list ((rQ m++[gj m]).map .str)]++J0,q8,q10,?_,by rw[<-List.append_assoc];exact lJ _ _ _⟩;rw[t_0 (L:=FB q) (n:=n) hq,aB,hn,t_1 (m:=m) hS rfl,aB,t_2 (m:=m) rfl,aB,t_3 (m:=m) rfl,aB,t_4 (m:=m) rfl,aB,t_5,aB];rw[(by kernel_rfl:aZ (aZ (aZ (aZ (aZ (aZ (FB q) ("more":Str) (.int m)) ("own":Str) (.ref (m % 6+1))) ("rooted":Str) (.bool (dK m))) ("last":Str) (.str (gj m))) ("rest":Str) (.int ((m / 240:Nat):Int))) ("pieces":Str) (.ref S.length)=FB (((((((q.s4 (some (.int m))).s5 (some (.ref (m % 6+1)))).s6 (some (.bool (dK m)))).s7 (some (.str (gj m)))).s9 (some (.ref S.length))).s10 q.a10).s8 (some (.int ((m / 240:Nat):Int))))),h6,aB,t_7 (p:=S.length) (cs:=rQ m) (last:=gj m) hk (lJ _ _ _) rfl rfl (aD (by lia)),aB,Yr,List.append_assoc]
end
section
variable {q:Os}{k w p:Nat}{S:List O}{r:St->ak Fl}{own:List Str}{rooted:Bool}{pcs:List Str}{last:Str}(T:xu own rooted pcs last)
include T
theorem af2(h5:q.a5=some (.ref w))(h6:q.a6=some (.bool rooted))(h9:q.a9=some (.ref p))(hk:8<=S.length)(hw:S[w]?=some (.list (own.map .str)))(hp:S[p]?=some (.list ((pcs++[last]).map .str))):
  ∃J g,(aj (iB (ao 8) k ⟨FB q,S⟩) λ Y=>aj (iC (ao 8) k Y) λ Y=>aj (iD (ao 8) k Y) λ Y=>aj (iG (ao 8) k Y) λ Y=>aj (iH (ao 8) k Y) r)=
   r ⟨FB (((((q.s11 (some (.str (jc rooted (pcs++[last]))))).s12 (some (.ref g))).s13 (some (.str (R own)))).s14 (some (.str (R own.dropLast)))).s15 (some (.str (R (aM own rooted (pcs++[last])))))),S++J⟩/\(S++J)[g]?=some (.list ((aM own rooted (pcs++[last])).map .str)):=by
 obtain⟨J8,e8⟩:=t_8 (k:=k) (cl:=ao 8) (L:=FB q) hp h9 h6 T.f_name;obtain⟨J9,g,e9,Ug⟩:=t_9 (k:=k) (L:=FB (q.s11 (some (.str (jc rooted (pcs++[last])))))) (b:=rooted) (au (J:=J8) hp) (au hw) h9 h6 h5 (by have:=T.ps_ok.2.2;lia) (by have:=T.f_own;unfold bY at this;lia);obtain⟨J11,e11⟩:=ajt T (k:=k) (S:=S++J8++J9) (L:=FB (((q.s11 (some (.str (jc rooted (pcs++[last]))))).s12 (some (.ref g))).s13 (some (.str (R own))))) rfl;obtain⟨J12,e12⟩:=aju T (k:=k) (S:=S++J8++J9++J11) (L:=FB ((((q.s11 (some (.str (jc rooted (pcs++[last]))))).s12 (some (.ref g))).s13 (some (.str (R own)))).s14 (some (.str (R own.dropLast))))) (by rw[List.length_append,List.length_append,List.length_append];lia) rfl rfl;refine⟨J8++J9++J11++J12,g,?_,?_⟩
 ·simp only[e8,aB];refine(congrArg (λ r'=>aj r' _) e9).trans ?_;simp only[aB];refine(congrArg (λ r'=>aj r' _) (ajs T (L:=FB ((q.s11 (some (.str (jc rooted (pcs++[last]))))).s12 (some (.ref g)))) (au (J:=J9) (au (J:=J8) hw)) h5)).trans ?_;simp only[aB];refine(congrArg (λ r'=>aj r' _) e11).trans ?_;refine(congrArg (λ r'=>aj r' _) e12).trans ?_;simp only[List.append_assoc];rfl
 ·have:=au (J:=J12) (au (J:=J11) Ug);simp only[List.append_assoc]at this ⊢;exact this
theorem af3{g:Nat}(h5:q.a5=some (.ref w))(h6:q.a6=some (.bool rooted))(h9:q.a9=some (.ref p))(h11:q.a11=some (.str (jc rooted (pcs++[last]))))(h12:q.a12=some (.ref g))(h13:q.a13=some (.str (R own)))(h14:q.a14=some (.str (R own.dropLast)))(h15:q.a15=some (.str (R (aM own rooted (pcs++[last])))))(hk:8<=S.length)(hw:S[w]?=some (.list (own.map .str)))(hp:S[p]?=some (.list ((pcs++[last]).map .str)))(hg:S[g]?=some (.list ((aM own rooted (pcs++[last])).map .str))):
  ∃J q16 q17,(aj (fX (ao 8) k ⟨FB q,S⟩) λ Y=>aj (eO (ao 8) k Y) λ Y=>aj (fY (ao 8) k Y) λ Y=>aj (fZ (ao 8) k Y) λ Y=>aj (f9 (ao 8) k Y) λ Y=>aj (gb (ao 8) k Y) r)=r ⟨FB ((q.s16 q16).s17 q17),S++J⟩:=by
 obtain⟨J13,e13⟩:=ajv T (k:=k) (L:=FB q) hw hg h5 h14 h15 h12;obtain⟨J14,e14⟩:=ajw T (k:=k) (L:=FB q) (S:=S++J13) (by rw[List.length_append];lia) (au hp) h9 h6 h11;obtain⟨J15,e15⟩:=ajx T (k:=k) (L:=FB q) (S:=S++J13++J14) (au (au hw)) (au (au hg)) h5 h12;have pX:S <+: S++J13++J14++J15:=((List.prefix_append ..).trans (List.prefix_append ..)).trans (List.prefix_append ..);have Xw:=au (J:=J15) (au (J:=J14) (au (J:=J13) hw));have Xg:=au (J:=J15) (au (J:=J14) (au (J:=J13) hg));generalize S++J13++J14++J15=X at*;have kX:8<=X.length:=Nat.le_trans hk pX.length_le;obtain⟨J16,e16⟩:=ajy T (k:=k) (S:=X) (L:=FB (q.s16 (some (.int ((bD own.dropLast (aM own rooted (pcs++[last]))).length:Nat))))) kX h14 h11;have kY:8<=(X++J16).length:=by rw[List.length_append];lia
 obtain⟨J17,e17⟩:=ajz T (k:=k) (S:=X++J16) (L:=FB ((q.s16 (some (.int ((bD own.dropLast (aM own rooted (pcs++[last]))).length:Nat)))).s17 (some (.str (P (eX own (aM own rooted (pcs++[last])))))))) kY (au Xw) (au Xg) h5 h14 h15 h12 rfl rfl;obtain⟨J18,e18⟩:=ajA T (k:=k) (S:=X++J16++J17) (L:=FB ((q.s16 (some (.int ((bD own.dropLast (aM own rooted (pcs++[last]))).length:Nat)))).s17 (some (.str (P (eX own (aM own rooted (pcs++[last])))))))) (by rw[List.length_append];exact Nat.lt_add_right _ (by assumption)) (au (au Xw)) (au (au Xg)) h5 h13 h15 h12;obtain⟨J,hJ⟩:S <+: X++J16++J17++J18:=((pX.trans (List.prefix_append ..)).trans (List.prefix_append ..)).trans (List.prefix_append ..);refine⟨J,some (.int ((bD own.dropLast (aM own rooted (pcs++[last]))).length:Nat)),some (.str (P (eX own (aM own rooted (pcs++[last]))))),?_⟩;simp only[hJ,e13,e14,e15,aB];refine(congrArg (λ r'=>aj r' _) e16).trans ?_;simp only[aB];refine(congrArg (λ r'=>aj r' _) e17).trans ?_;refine(congrArg (λ r'=>aj r' _) e18).trans ?_;rfl
end
structure Os.Same(q q':Os):Prop where
 e0:q'.a0=q.a0
 e1:q'.a1=q.a1
 e3:q'.a3=q.a3
theorem Vh{q:Os}{m k:Nat}{n:Int}{S:List O}(hn:n.natAbs=m)(hq:q.a3=some (.int n))(hk:8<=S.length)(hS:BK S)(r:St->ak Fl):
  ∃J q',(aj (mL (ao 8) k ⟨FB q,S⟩) λ Y=>aj (mO (ao 8) k Y) λ Y=>aj (mQ (ao 8) k Y) λ Y=>aj (mR (ao 8) k Y) λ Y=>aj (mU (ao 8) k Y) λ Y=>aj (qL (ao 8) k Y) λ Y=>aj (mV (ao 8) k Y) λ Y=>aj (mW (ao 8) k Y) λ Y=>aj (iB (ao 8) k Y) λ Y=>aj (iC (ao 8) k Y) λ Y=>aj (iD (ao 8) k Y) λ Y=>aj (iG (ao 8) k Y) λ Y=>aj (iH (ao 8) k Y) λ Y=>aj (fX (ao 8) k Y) λ Y=>aj (eO (ao 8) k Y) λ Y=>aj (fY (ao 8) k Y) λ Y=>aj (fZ (ao 8) k Y) λ Y=>aj (f9 (ao 8) k Y) λ Y=>aj (gb (ao 8) k Y) r)=r ⟨FB q',S++J⟩/\
   q.Same q'/\q'.a13=some (.str (R (vo m)))/\q'.a15=some (.str (R (aM (vo m) (dK m) (rQ m++[gj m])))):=by
 have hown:dm[m % 6]?=some (vo m):=by
  unfold vo;rw[List.getElem?_eq_getElem (Nat.mod_lt _ (by decide):m % 6 < dm.length)];rfl
 have hw:=hS.2 _ _ hown;obtain⟨J1,q8,q10,e1,p1⟩:=af0 (k:=k) (r:=λ Y=>aj (iB (ao 8) k Y) λ Y=>aj (iC (ao 8) k Y) λ Y=>aj (iD (ao 8) k Y) λ Y=>aj (iG (ao 8) k Y) λ Y=>aj (iH (ao 8) k Y) λ Y=>aj (fX (ao 8) k Y) λ Y=>aj (eO (ao 8) k Y) λ Y=>aj (fY (ao 8) k Y) λ Y=>aj (fZ (ao 8) k Y) λ Y=>aj (f9 (ao 8) k Y) λ Y=>aj (gb (ao 8) k Y) r) hn hq hk hS;have k1:8<=(S++J1).length:=by rw[List.length_append];lia
 obtain⟨J2,g,e2,p2⟩:=af2 (Iz m) (k:=k) (r:=λ Y=>aj (fX (ao 8) k Y) λ Y=>aj (eO (ao 8) k Y) λ Y=>aj (fY (ao 8) k Y) λ Y=>aj (fZ (ao 8) k Y) λ Y=>aj (f9 (ao 8) k Y) λ Y=>aj (gb (ao 8) k Y) r) (q:=((((((((q.s4 (some (.int m))).s5 (some (.ref (m % 6+1)))).s6 (some (.bool (dK m)))).s7 (some (.str (gj m)))).s9 (some (.ref S.length))).s10 q10).s8 q8))) (by kernel_rfl) (by kernel_rfl) (by kernel_rfl) k1 (au hw) p1;have k2:8<=(S++J1++J2).length:=by rw[List.length_append];exact Nat.lt_add_right _ (by assumption)
 obtain⟨J3,q16,q17,e3⟩:=af3 (Iz m) (k:=k) (r:=r) (S:=S++J1++J2) (q:=(((((((((((((q.s4 (some (.int m))).s5 (some (.ref (m % 6+1)))).s6 (some (.bool (dK m)))).s7 (some (.str (gj m)))).s9 (some (.ref S.length))).s10 q10).s8 q8))).s11 (some (.str (jc (dK m) (rQ m++[gj m]))))).s12 (some (.ref g))).s13 (some (.str (R (vo m))))).s14 (some (.str (R (vo m).dropLast)))).s15 (some (.str (R (aM (vo m) (dK m) (rQ m++[gj m])))))) (by kernel_rfl) (by kernel_rfl) (by kernel_rfl) (by kernel_rfl) (by kernel_rfl) (by kernel_rfl) (by kernel_rfl) (by kernel_rfl) k2 (au (au hw)) (au p1) p2;have e:=e1.trans (e2.trans e3);simp only[List.append_assoc]at e;exact⟨_,_,e,⟨by kernel_rfl,by kernel_rfl,by kernel_rfl⟩,by kernel_rfl,by kernel_rfl⟩
noncomputable def upd{α:Type}(f:Str->α)(v:Str)(x:α):Str->α:=λ w=>if w=v then x else f w
theorem aY{α:Type}(f:Str->α)(v:Str)(x:α):upd f v x v=x:=if_pos rfl
theorem bG{α:Type}(f:Str->α){v w:Str}(x:α)(h:w≠v):upd f v x w=f w:=if_neg h
structure G where
 i:Nat
 fd:Nat
 d:Nat
 N:List Str
 at_:Str->Nat
 dd:Str->Nat
 sl:Str->Nat
 np:Str->Int
 su:Str->List Str
 rd:Option Nat
 rl:List Str
 po:Int
 nf:Int
noncomputable def rdV(o:Option Nat):V:=match o with
 |none=>.none
 |some r=>.ref r
noncomputable def kI(d:Nat)(rd:Option Nat)(po nf:Int):List (Str×V):=[("_node2info",.ref d),("_ready_nodes",rdV rd),("_npassedout",.int po),("_nfinished",.int nf)]
noncomputable def Qn(g:G)(v:Str)(n:Int):O:=.node (g.dd v) [some (.str v),some (.int n),some (.ref (g.sl v))]
structure bR(S:List O)(g:G):Prop where
 inst:S[g.i]?=some (.inst g.fd)
 fld:∃ep,S[g.fd]?=some (.dict (kI g.d g.rd g.po g.nf) ep)
 dct:∃ep,S[g.d]?=some (.dict (g.N.map λ v=>(v,.ref (g.at_ v))) ep)
 nod:∀v∈g.N,S[g.at_ v]?=some (Qn g v (g.np v))
 suc:∀v∈g.N,S[g.sl v]?=some (.list ((g.su v).map .str))
 nd:g.N.Nodup
 inj:∀v∈g.N,∀w∈g.N,g.sl v=g.sl w->v=w
 fdd:g.fd≠g.d
 ge:8<=g.fd/\8<=g.d/\∀v∈g.N,8<=g.at_ v/\8<=g.sl v
 len:g.N.length<=60
 sul:∀v,(g.su v).length<=1000
 off:∀v,v∉g.N->g.np v=0/\g.su v=[]
 rdy:∀r,g.rd=some r->8<=r/\S[r]?=some (.list (g.rl.map .str))/\(∀v∈g.N,g.sl v≠r)/\g.rl.length<=1000
noncomputable def jw(g:G)(a:Nat):Prop:=a=g.fd\/a=g.d\/(∃v∈g.N,a=g.at_ v\/a=g.sl v)\/g.rd=some a
structure cO(S:List O)(g:G)(S':List O)(g':G):Prop where
 keep:∀a o,S[a]?=some o->¬ jw g a->S'[a]?=some o
 grow:∀a,jw g' a->jw g a\/S.length<=a
 len:S.length<=S'.length
 same:g'.i=g.i
theorem aQ{S:List O}{a:Nat}{o:O}(h:S[a]?=some o):a < S.length:=(List.getElem?_eq_some_iff.mp h).1
theorem cO.refl(S:List O)(g:G):cO S g S g:=⟨λ _ _ h _=>h,λ _ h=>.inl h,Nat.le_refl _,rfl⟩
theorem cO.trans{S g S' g' S'' g''}(a:cO S g S' g')(b:cO S' g' S'' g''):cO S g S'' g'':=by
 refine⟨λ x o h hm=>b.keep x o (a.keep x o h hm) λ q=>?_,λ x h=>?_,Nat.le_trans a.len b.len,b.same.trans a.same⟩
 ·rcases a.grow x q with q|q
  ·exact hm q
  ·have:=aQ h;lia
 ·rcases b.grow x h with q|q
  ·exact a.grow x q
  ·exact .inr (Nat.le_trans a.len q)
theorem cO.push(S J:List O)(g:G):cO S g (S++J) g:=⟨λ _ _ h _=>au h,λ _ h=>.inl h,by rw[List.length_append];lia,rfl⟩
theorem cO.set{S:List O}{g g':G}{a:Nat}(o:O)(ha:jw g a)(hm:∀x,jw g' x->jw g x)(hi:g'.i=g.i):cO S g (S.set a o) g':=
 ⟨λ x o h hx=>by rw[List.getElem?_set_ne (show a≠x from λ q=>hx (by rw[<-q];exact ha))];exact h,λ x h=>.inl (hm x h),by rw[List.length_set];exact Nat.le_refl _,hi⟩
theorem dM{S:List O}{a b:Nat}{x y:O}(ha:S[a]?=some x)(hb:S[b]?=some y)(h:x≠y):a≠b:=λ q=>by
 subst q;rw[ha]at hb;exact h (Option.some.inj hb)
theorem aJ{S:List O}{a b:Nat}{x y:O}(o:O)(ha:S[a]?=some x)(hb:S[b]?=some y)(h:x≠y):(S.set a o)[b]?=some y:=by
 rw[List.getElem?_set_ne (dM ha hb h)];exact hb
theorem iJ{S:List O}{a:Nat}{x:O}(o:O)(ha:S[a]?=some x):(S.set a o)[a]?=some o:=List.getElem?_set_self (aQ ha)
namespace bR
variable {S:List O}{g:G}
theorem push(h:bR S g)(J:List O):bR (S++J) g where
 inst:=au h.inst
 fld:=let ⟨ep,e⟩:=h.fld;⟨ep,au e⟩
 dct:=let ⟨ep,e⟩:=h.dct;⟨ep,au e⟩
 nod v hv:=au (h.nod v hv)
 suc v hv:=au (h.suc v hv)
 nd:=h.nd
 inj:=h.inj
 fdd:=h.fdd
 ge:=h.ge
 len:=h.len
 sul:=h.sul
 off:=h.off
 rdy r e:=let ⟨a,b,c⟩:=h.rdy r e;⟨a,au b,c⟩
theorem other(h:bR S g){a:Nat}(ha:¬ jw g a)(hi:a≠g.i)(o:O):bR (S.set a o) g:=by
 have ne:∀{b y},jw g b->S[b]?=some y->(S.set a o)[b]?=some y:=λ{b y} hb e=>by rw[List.getElem?_set_ne (show a≠b from λ q=>ha (by rw[q];exact hb))];exact e
 exact{
  inst:=by rw[List.getElem?_set_ne hi];exact h.inst
  fld:=let ⟨ep,e⟩:=h.fld;⟨ep,ne (.inl rfl) e⟩
  dct:=let ⟨ep,e⟩:=h.dct;⟨ep,ne (.inr (.inl rfl)) e⟩
  nod:=λ v hv=>ne (.inr (.inr (.inl ⟨v,hv,.inl rfl⟩))) (h.nod v hv)
  suc:=λ v hv=>ne (.inr (.inr (.inl ⟨v,hv,.inr rfl⟩))) (h.suc v hv)
  nd:=h.nd,inj:=h.inj,fdd:=h.fdd,ge:=h.ge,len:=h.len,sul:=h.sul,off:=h.off
  rdy:=λ r e=>let ⟨a,b,c⟩:=h.rdy r e;⟨a,ne (.inr (.inr (.inr e))) b,c⟩}
theorem setNp(h:bR S g){v:Str}(hv:v∈g.N)(n:Int):bR (S.set (g.at_ v) (Qn g v n)) {g with np:=upd g.np v n} where
 inst:=aJ _ (h.nod v hv) h.inst nofun
 fld:=let ⟨ep,e⟩:=h.fld;⟨ep,aJ _ (h.nod v hv) e nofun⟩
 dct:=let ⟨ep,e⟩:=h.dct;⟨ep,aJ _ (h.nod v hv) e nofun⟩
 nod w hw:=by
  by_cases q:w=v
  ·subst q;show(S.set (g.at_ w) (Qn g w n))[g.at_ w]?=some (Qn g w (upd g.np w n w));rw[aY];exact iJ _ (h.nod w hw)
  ·show(S.set (g.at_ v) (Qn g v n))[g.at_ w]?=some (Qn g w (upd g.np v n w));rw[bG _ _ q];refine aJ _ (h.nod v hv) (h.nod w hw) λ e=>?_
   injection e with _ e
   injection e with e _
   injection e with e
   injection e with e
   exact q e.symm
 suc w hw:=aJ _ (h.nod v hv) (h.suc w hw) nofun
 nd:=h.nd
 inj:=h.inj
 fdd:=h.fdd
 ge:=h.ge
 len:=h.len
 sul:=h.sul
 off w hw:=⟨(bG _ _ (λ q=>hw (by rw[q];exact hv))).trans (h.off w hw).1,(h.off w hw).2⟩
 rdy r e:=let ⟨a,b,c⟩:=h.rdy r e;⟨a,aJ _ (h.nod v hv) b nofun,c⟩
theorem setSu(h:bR S g){v:Str}(hv:v∈g.N)(xs:List Str)(hl:xs.length<=1000):bR (S.set (g.sl v) (.list (xs.map .str))) {g with su:=upd g.su v xs} where
 inst:=aJ _ (h.suc v hv) h.inst nofun
 fld:=let ⟨ep,e⟩:=h.fld;⟨ep,aJ _ (h.suc v hv) e nofun⟩
 dct:=let ⟨ep,e⟩:=h.dct;⟨ep,aJ _ (h.suc v hv) e nofun⟩
 nod w hw:=aJ _ (h.suc v hv) (h.nod w hw) nofun
 suc w hw:=by
  by_cases q:w=v
  ·clear hv;subst q;show(S.set (g.sl w) (.list (xs.map .str)))[g.sl w]?=some (.list ((upd g.su w xs w).map .str));rw[aY];exact iJ _ (h.suc w hw)
  ·show(S.set (g.sl v) (.list (xs.map .str)))[g.sl w]?=some (.list ((upd g.su v xs w).map .str));rw[bG _ _ q,List.getElem?_set_ne (λ e=>q (h.inj v hv w hw e).symm)];exact h.suc w hw
 nd:=h.nd
 inj:=h.inj
 fdd:=h.fdd
 ge:=h.ge
 len:=h.len
 sul w:=by
  show(upd g.su v xs w).length<=1000;unfold upd;split
  ·exact hl
  ·exact h.sul w
 off w hw:=⟨(h.off w hw).1,(bG _ _ (λ q=>hw (by rw[q];exact hv))).trans (h.off w hw).2⟩
 rdy r e:=let ⟨a,b,c,e'⟩:=h.rdy r e;⟨a,by rw[List.getElem?_set_ne (c v hv)];exact b,c,e'⟩
theorem setFld(h:bR S g)(rd:Option Nat)(rl:List Str)(po nf:Int)(ep:Nat)(hr:∀r,rd=some r->8<=r/\S[r]?=some (.list (rl.map .str))/\(∀v∈g.N,g.sl v≠r)/\rl.length<=1000):bR (S.set g.fd (.dict (kI g.d rd po nf) ep)) {g with rd:=rd,rl:=rl,po:=po,nf:=nf}:=
 let ⟨_,ef⟩:=h.fld
 {inst:=aJ _ ef h.inst nofun
  fld:=⟨ep,iJ _ ef⟩
  dct:=let ⟨ep,e⟩:=h.dct;⟨ep,by rw[List.getElem?_set_ne h.fdd];exact e⟩
  nod:=λ v hv=>aJ _ ef (h.nod v hv) nofun
  suc:=λ v hv=>aJ _ ef (h.suc v hv) nofun
  nd:=h.nd,inj:=h.inj,fdd:=h.fdd,ge:=h.ge,len:=h.len,sul:=h.sul,off:=h.off
  rdy:=λ r e=>let ⟨a,b,c⟩:=hr r e;⟨a,aJ _ ef b nofun,c⟩}
theorem setRl(h:bR S g){r:Nat}(hr:g.rd=some r)(rl:List Str)(hl:rl.length<=1000):bR (S.set r (.list (rl.map .str))) {g with rl:=rl}:=
 have e0:=(h.rdy r hr).2.1
 {inst:=aJ _ e0 h.inst nofun
  fld:=let ⟨ep,e⟩:=h.fld;⟨ep,aJ _ e0 e nofun⟩
  dct:=let ⟨ep,e⟩:=h.dct;⟨ep,aJ _ e0 e nofun⟩
  nod:=λ v hv=>aJ _ e0 (h.nod v hv) nofun
  suc:=λ v hv=>by rw[List.getElem?_set_ne (λ q=>(h.rdy r hr).2.2.1 v hv q.symm)];exact h.suc v hv
  nd:=h.nd,inj:=h.inj,fdd:=h.fdd,ge:=h.ge,len:=h.len,sul:=h.sul,off:=h.off
  rdy:=λ r' e=>by
   cases hr.symm.trans e;exact⟨(h.rdy r hr).1,iJ _ e0,(h.rdy r hr).2.2.1,hl⟩}
end bR
section
variable {L:List (Str×Option V)}{S:List O}
theorem Vi{i fd:Nat}{kvs:List (Str×V)}{ep:Nat}{x:Str}{v:V}(hi:S[i]?=some (.inst fd))(hf:S[fd]?=some (.dict kvs ep))(hx:bT.contains x=true)(hv:kvs.lookup x=some v):bJ (.ref i) x ⟨L,S⟩=.ok v ⟨L,S⟩:=by
 refine(cA hi).trans ((if_pos hx).trans ?_);rw[lV hf];exact cA hv
theorem vq{i fd:Nat}{kvs:List (Str×V)}{ep:Nat}{x:Str}{v:V}(hi:S[i]?=some (.inst fd))(hf:S[fd]?=some (.dict kvs ep))(hx:bT.contains x=true)(hl:kvs.length < 100)(hk:8<=fd):aX (.ref i) x v ⟨L,S⟩=.ok .none ⟨L,S.set fd (cJ kvs ep x v)⟩:=by
 refine(cA hi).trans ((if_pos hx).trans ?_);rw[lV hf];exact(if_pos (decide_eq_true hl)).trans (if_pos hk)
theorem xH{i dd k:Nat}{fs:List (Option V)}{x:Str}{v:V}(hi:S[i]?=some (.node dd fs))(hx:vH x=some k)(hv:fs[k]?=some (some v)):bJ (.ref i) x ⟨L,S⟩=.ok v ⟨L,S⟩:=(cA hi).trans ((cA hx).trans (cA hv))
theorem jx{i dd k:Nat}{fs:List (Option V)}{x:Str}{v:V}(hi:S[i]?=some (.node dd fs))(hx:vH x=some k)(hk:k < fs.length)(h8:8<=i):aX (.ref i) x v ⟨L,S⟩=.ok .none ⟨L,S.set i (.node dd (fs.set k (some v)))⟩:=(cA hi).trans ((cA hx).trans ((if_pos (decide_eq_true hk)).trans (if_pos h8)))
theorem xJ{d ep:Nat}{kvs:List (Str×V)}(e:S[d]?=some (.dict kvs ep))(x:Str):cM (.ref d) (.str x) ⟨L,S⟩=kvs.lookup x:=bB e
theorem aa0{d ep:Nat}{kvs:List (Str×V)}(e:S[d]?=some (.dict kvs ep))(x:Str):cD .get (.ref d) [.str x] ⟨L,S⟩=.ok ((kvs.lookup x).getD .none) ⟨L,S⟩:=cA e
theorem jy{d ep:Nat}{kvs:List (Str×V)}(e:S[d]?=some (.dict kvs ep))(hs:small kvs.length=true)(hk:8<=d)(x:Str)(v:V):iV (.ref d) (.str x) v ⟨L,S⟩=.ok .none ⟨L,S.set d (cJ kvs ep x v)⟩:=by
 show onS (St.dict? ⟨L,S⟩ d) _=_;rw[lV e];exact(if_pos hs).trans (if_pos hk)
end
theorem FT{cl:Nat->List V->St->ak V}{live:Bool}{args:St->ak (List V)}{name:Str}{m:Me}{n ep:Nat}{kvs:List (Str×V)}{L}{S:List O}(h:vJ.lookup name=some m)(e:S[n]?=some (.dict kvs ep)):aV cl live name args (.ref n) ⟨L,S⟩=(args ⟨L,S⟩).bind λ vs Y=>cD m (.ref n) vs Y:=by
 unfold aV;rw[show iM (.ref n) name ⟨L,S⟩=some (.bi m)from(bB e).trans (congrArg (Option.map nq.bi) h)]
theorem BP{cl:Nat->List V->St->ak V}{live:Bool}{args:St->ak (List V)}{n ep:Nat}{kvs:List (Str×V)}{L}{S:List O}(e:S[n]?=some (.dict kvs ep)):aV cl live ("get":Str) args (.ref n) ⟨L,S⟩=(args ⟨L,S⟩).bind λ vs Y=>cD .get (.ref n) vs Y:=FT (by kernel_rfl) e
theorem Vj{cl:Nat->List V->St->ak V}{args:St->ak (List V)}{name:Str}{f:Nat}{L}{S:List O}{i fd ep:Nat}{kvs:List (Str×V)}(hi:S[i]?=some (.inst fd))(hf:S[fd]?=some (.dict kvs ep))(hk:kvs.all (λ p=>bT.contains p.1)=true)(h:qt.lookup name=some f):
  aV cl true name args (.ref i) ⟨L,S⟩=(args ⟨L,S⟩).bind λ vs Y=>cl f (.ref i::vs) Y:=by
 unfold aV;rw[show iM (.ref i) name ⟨L,S⟩=some (.user f)from(bB hi).trans ((bB (lV hf)).trans ((if_pos hk).trans (congrArg (Option.map nq.user) h)))];rfl
theorem BR{α:Type}(f:Str->α)(x:Str):∀N:List Str,(N.map λ v=>(v,f v)).any (λ p=>p.1==x)=decide (x∈N):=by
 intro N;induction N with
 |nil=>rfl
 |cons w N ih=>
  simp only[List.map_cons,List.any_cons,ih];by_cases h:w=x
  ·subst h;simp
  ·have:(w==x)=false:=beq_eq_false_iff_ne.mpr h;simp[this,Ne.symm h]
theorem qg{α:Type}(f:Str->α)(x:Str):∀N:List Str,(N.map λ v=>(v,f v)).lookup x=if x∈N then some (f x)else none:=by
 intro N;induction N with
 |nil=>rfl
 |cons w N ih=>
  rw[List.map_cons,List.lookup_cons];by_cases h:x=w
  ·subst h;simp
  ·have:(x==w)=false:=beq_eq_false_iff_ne.mpr h;simp only[this,ih];simp[h]
noncomputable def qi(n:Nat)(v:Str):List O:=[.dict [] 0,.node n [some (.str v),some (.int 0),some (.ref (n+2))],.list []]
theorem Vk(d:Nat)(v:Str)(l)(S:List O)(hk:8<=S.length):ao (d+2) 40 [.str v] ⟨l,S⟩=.ok (.ref (S.length+1)) ⟨l,S++qi S.length v⟩:=by
 rw[(by kernel_rfl:ao (d+2) 40 [.str v] ⟨l,S⟩=(ao (d+1) 36 [.ref (S.length+1),.str v] ⟨l,S++[.dict [] 0,.node S.length [none,none,none]]⟩).bind λ v τ=>if v=.none then .ok (.ref (S.length+1)) τ else .bad),bW (L:=L36 (some (.ref (S.length+1))) (some (.str v))) (S₁:=S++[.dict [] 0,.node S.length [none,none,none]]) (by kernel_rfl),acr];have a1:∀fs,(S++[O.dict [] 0,O.node S.length fs])[S.length+1]?=some (.node S.length fs):=λ fs=>dX S _ 1
 have u1:∀o o',(S++[O.dict [] 0,o]).set (S.length+1) o'=S++[O.dict [] 0,o']:=λ o o'=>nU S _ 1 o'
 have nw:∀L (S:List O) a b o,St.new ⟨L,S++[a,b]⟩ o=.ok (.ref (S.length+2)) ⟨L,S++[a,b,o]⟩:=λ L S a b o=>by
  rw[bO,List.append_assoc,List.length_append];rfl
 simp only[B36,adA,adB,adC,agW,agX,ak.bind_ok,(λ L=>(jx (L:=L) (a1 [none,none,none]) (k:=0) (by kernel_rfl) (show 0 < 3 by decide) (by lia)).trans (by rw[u1];rfl):∀L,aX (.ref (S.length+1)) ("node":Str) (.str v) ⟨L,S++[O.dict [] 0,O.node S.length [none,none,none]]⟩=.ok .none ⟨L,S++[O.dict [] 0,O.node S.length [some (.str v),none,none]]⟩),(λ L=>(jx (L:=L) (a1 [some (.str v),none,none]) (k:=1) (by kernel_rfl) (show 1 < 3 by decide) (by lia)).trans (by rw[u1];rfl):∀L,aX (.ref (S.length+1)) ("npredecessors":Str) (.int 0) ⟨L,S++[O.dict [] 0,O.node S.length [some (.str v),none,none]]⟩=.ok .none ⟨L,S++[O.dict [] 0,O.node S.length [some (.str v),some (.int 0),none]]⟩),nw,(λ L=>(jx (L:=L) ((λ fs o=>dX S _ 1:∀fs o,(S++[O.dict [] 0,O.node S.length fs,o])[S.length+1]?=some (.node S.length fs)) [some (.str v),some (.int 0),none] _) (k:=2) (by kernel_rfl) (show 2 < 3 by decide) (by lia)).trans (by rw[(λ o o' x=>nU S _ 1 o':∀o o' x,(S++[O.dict [] 0,o,x]).set (S.length+1) o'=S++[O.dict [] 0,o',x])];rfl):∀L,aX (.ref (S.length+1)) ("successors":Str) (.ref (S.length+2)) ⟨L,S++[O.dict [] 0,O.node S.length [some (.str v),some (.int 0),none],.list []]⟩=.ok .none ⟨L,S++qi S.length v⟩),aB,Aq];rfl
noncomputable def aa1(S:List O)(g:G)(v:Str):G:={g with N:=g.N++[v],at_:=upd g.at_ v (S.length+1),dd:=upd g.dd v S.length,sl:=upd g.sl v (S.length+2)}
theorem acP(d:Nat)(rd:Option Nat)(po nf:Int):(kI d rd po nf).all (λ p=>bT.contains p.1)=true:=by kernel_rfl
theorem BV{N:List Str}{v:Str}(h:N.Nodup)(hv:v∉N):(N++[v]).Nodup:=by
 refine List.nodup_append.mpr ⟨h,by simp,λ a ha b hb q=>?_⟩;rw[List.mem_singleton.mp hb]at q;exact hv (q▸ha)
theorem bR.newNode{S:List O}{g:G}(h:bR S g){v:Str}(hv:v∉g.N)(hl:g.N.length < 60){ep:Nat}(ed:S[g.d]?=some (.dict (g.N.map λ v=>(v,.ref (g.at_ v))) ep)):
  bR ((S++qi S.length v).set g.d (cJ (g.N.map λ v=>(v,.ref (g.at_ v))) ep v (.ref (S.length+1)))) (aa1 S g v)/\cO S g ((S++qi S.length v).set g.d (cJ (g.N.map λ v=>(v,.ref (g.at_ v))) ep v (.ref (S.length+1)))) (aa1 S g v):=by
 have ne:∀w∈g.N,w≠v:=λ w hw q=>hv (q▸hw)
 have hd:cJ (g.N.map λ v=>(v,.ref (g.at_ v))) ep v (.ref (S.length+1))=.dict ((g.N++[v]).map λ w=>(w,.ref (upd g.at_ v (S.length+1) w))) (ep+1):=by
  delta cJ lW
  rw[BR,decide_eq_false hv,if_neg Bool.false_ne_true,List.map_append,List.map_singleton,aY];congr 2;refine List.map_congr_left λ w hw=>?_
  rw[bG _ _ (ne w hw)]
 obtain⟨epf,ef⟩:=h.fld;have old:∀{b:Nat}{y:O},S[b]?=some y->b≠g.d->((S++qi S.length v).set g.d (cJ (g.N.map λ v=>(v,.ref (g.at_ v))) ep v (.ref (S.length+1))))[b]?=some y:=λ e hne=>by
  rw[List.getElem?_set_ne (λ q=>hne q.symm)];exact au e
 have new:∀{b:Nat}{y:O},(S++qi S.length v)[b]?=some y->b≠g.d->((S++qi S.length v).set g.d (cJ (g.N.map λ v=>(v,.ref (g.at_ v))) ep v (.ref (S.length+1))))[b]?=some y:=λ e hne=>by
  rw[List.getElem?_set_ne (λ q=>hne q.symm)];exact e
 have hdl:=aQ ed;have hsl:∀w∈g.N,g.sl w < S.length:=λ w hw=>aQ (h.suc w hw)
 constructor
 ·exact{
   inst:=old h.inst (dM h.inst ed nofun)
   fld:=⟨epf,old ef h.fdd⟩
   dct:=⟨ep+1,(iJ _ (au ed)).trans (congrArg some hd)⟩
   nod:=λ w hw=>by
    show _=some (O.node (upd g.dd v S.length w) [some (.str w),some (.int (g.np w)),some (.ref (upd g.sl v (S.length+2) w))]);rcases List.mem_append.mp hw with hw|hw
    ·show(_:List O)[upd g.at_ v (S.length+1) w]?=_;rw[bG _ _ (ne w hw),bG _ _ (ne w hw),bG _ _ (ne w hw)];exact old (h.nod w hw) (dM (h.nod w hw) ed nofun)
    ·rw[List.mem_singleton.mp hw,((h.off v hv).1)];show(_:List O)[upd g.at_ v (S.length+1) v]?=_;rw[aY,aY,aY];exact new (dX S (qi S.length v) 1) (by lia)
   suc:=λ w hw=>by
    show(_:List O)[upd g.sl v (S.length+2) w]?=some (.list ((g.su w).map .str));rcases List.mem_append.mp hw with hw|hw
    ·rw[bG _ _ (ne w hw)];exact old (h.suc w hw) (dM (h.suc w hw) ed nofun)
    ·rw[List.mem_singleton.mp hw,aY,((h.off v hv).2)];exact new (dX S (qi S.length v) 2) (by lia)
   nd:=BV h.nd hv
   inj:=λ w hw u hu q=>by
    replace q:upd g.sl v (S.length+2) w=upd g.sl v (S.length+2) u:=q;rcases List.mem_append.mp hw with hw|hw<;>rcases List.mem_append.mp hu with hu|hu
    ·rw[bG _ _ (ne w hw),bG _ _ (ne u hu)]at q;exact h.inj w hw u hu q
    ·rw[List.mem_singleton.mp hu,bG _ _ (ne w hw),aY]at q;have:=hsl w hw;lia
    ·rw[List.mem_singleton.mp hw,bG _ _ (ne u hu),aY]at q;have:=hsl u hu;lia
    ·rw[List.mem_singleton.mp hw,List.mem_singleton.mp hu]
   fdd:=h.fdd
   ge:=⟨h.ge.1,h.ge.2.1,λ w hw=>by
    show 8<=upd g.at_ v (S.length+1) w/\8<=upd g.sl v (S.length+2) w;have:=h.ge.2.1;rcases List.mem_append.mp hw with hw|hw
    ·rw[bG _ _ (ne w hw),bG _ _ (ne w hw)];exact h.ge.2.2 w hw
    ·rw[List.mem_singleton.mp hw,aY,aY];lia⟩
   len:=by show(g.N++[v]).length<=60;rw[List.length_append];show _+1<=60;assumption
   sul:=h.sul
   off:=λ w hw=>h.off w λ q=>hw (List.mem_append_left _ q)
   rdy:=λ r e=>by
    obtain⟨a,b,c,f⟩:=h.rdy r e;refine⟨a,old b (dM b ed nofun),λ w hw=>?_,f⟩;show upd g.sl v (S.length+2) w≠r;rcases List.mem_append.mp hw with hw|hw
    ·rw[bG _ _ (ne w hw)];exact c w hw
    ·rw[List.mem_singleton.mp hw,aY];have:=aQ b;lia}
 ·refine⟨λ a o e hm=>old e λ q=>hm (.inr (.inl q)),λ a hm=>?_,by rw[List.length_set,List.length_append];simp,rfl⟩;rcases hm with q|q|⟨w,hw,q⟩|q
  ·exact .inl (.inl q)
  ·exact .inl (.inr (.inl q))
  ·rcases List.mem_append.mp hw with hw|hw
   ·refine .inl (.inr (.inr (.inl ⟨w,hw,?_⟩)));rcases q with q|q
    ·exact .inl (q.trans (bG _ _ (ne w hw)))
    ·exact .inr (q.trans (bG _ _ (ne w hw)))
   ·rw[List.mem_singleton.mp hw]at q;refine .inr ?_;rcases q with q|q
    ·have:=q.trans (aY g.at_ v (S.length+1));lia
    ·have:=q.trans (aY g.sl v (S.length+2));lia
  ·exact .inl (.inr (.inr (.inr q)))
theorem tC(Y:St):rR .IsNot .none .none Y=some false:=rfl
theorem IK:Mg .none .none=some true:=rfl
theorem gB(n:Nat):Mg (.ref n) .none=some false:=rfl
noncomputable def fB(N:List Str)(v:Str):List Str:=if v∈N then N else N++[v]
theorem gU{N:List Str}{v w:Str}:w∈fB N v↔w∈N\/w=v:=by
 unfold fB;split
 ·exact⟨.inl,λ q=>q.elim id λ q=>by rw[q];assumption⟩
 ·rw[List.mem_append,List.mem_singleton]
structure Same(g g':G):Prop where
 np:g'.np=g.np
 su:g'.su=g.su
 rd:g'.rd=g.rd
 rl:g'.rl=g.rl
 po:g'.po=g.po
 nf:g'.nf=g.nf
section
variable {S:List O}{g:G}(h:bR S g)
include h
theorem bR.attr{L}{x:Str}{v:V}(hx:bT.contains x=true)(hv:(kI g.d g.rd g.po g.nf).lookup x=some v):bJ (.ref g.i) x ⟨L,S⟩=.ok v ⟨L,S⟩:=
 let ⟨_,e⟩:=h.fld;Vi h.inst e hx hv
theorem bR.a_n2i{L}:bJ (.ref g.i) ("_node2info":Str) ⟨L,S⟩=.ok (.ref g.d) ⟨L,S⟩:=h.attr (by kernel_rfl) (by kernel_rfl)
theorem bR.a_rd{L}:bJ (.ref g.i) ("_ready_nodes":Str) ⟨L,S⟩=.ok (rdV g.rd) ⟨L,S⟩:=h.attr (by kernel_rfl) (by kernel_rfl)
theorem bR.a_po{L}:bJ (.ref g.i) ("_npassedout":Str) ⟨L,S⟩=.ok (.int g.po) ⟨L,S⟩:=h.attr (by kernel_rfl) (by kernel_rfl)
theorem bR.a_nf{L}:bJ (.ref g.i) ("_nfinished":Str) ⟨L,S⟩=.ok (.int g.nf) ⟨L,S⟩:=h.attr (by kernel_rfl) (by kernel_rfl)
theorem bR.a_np{L}{v:Str}(hv:v∈g.N):bJ (.ref (g.at_ v)) ("npredecessors":Str) ⟨L,S⟩=.ok (.int (g.np v)) ⟨L,S⟩:=xH (h.nod v hv) (k:=1) (by kernel_rfl) rfl
theorem bR.a_node{L}{v:Str}(hv:v∈g.N):bJ (.ref (g.at_ v)) ("node":Str) ⟨L,S⟩=.ok (.str v) ⟨L,S⟩:=xH (h.nod v hv) (k:=0) (by kernel_rfl) rfl
theorem bR.a_su{L}{v:Str}(hv:v∈g.N):bJ (.ref (g.at_ v)) ("successors":Str) ⟨L,S⟩=.ok (.ref (g.sl v)) ⟨L,S⟩:=xH (h.nod v hv) (k:=2) (by kernel_rfl) rfl
theorem bR.s_np{L}{v:Str}(hv:v∈g.N)(n:Int):aX (.ref (g.at_ v)) ("npredecessors":Str) (.int n) ⟨L,S⟩=.ok .none ⟨L,S.set (g.at_ v) (Qn g v n)⟩:=jx (h.nod v hv) (k:=1) (by kernel_rfl) (show 1 < 3 by decide) (h.ge.2.2 v hv).1
theorem bR.meth{cl:Nat->List V->St->ak V}{args:St->ak (List V)}{name:Str}{f:Nat}{L}(hn:qt.lookup name=some f):aV cl true name args (.ref g.i) ⟨L,S⟩=(args ⟨L,S⟩).bind λ vs Y=>cl f (.ref g.i::vs) Y:=
 let ⟨_,e⟩:=h.fld;Vj h.inst e (acP ..) hn
theorem bR.get{L}(v:Str):cD .get (.ref g.d) [.str v] ⟨L,S⟩=.ok (if v∈g.N then .ref (g.at_ v)else .none) ⟨L,S⟩:=by
 obtain⟨ep,e⟩:=h.dct;rw[aa0 e,qg];split<;>rfl
theorem bR.item{L}{v:Str}(hv:v∈g.N):cM (.ref g.d) (.str v) ⟨L,S⟩=some (.ref (g.at_ v)):=by
 obtain⟨ep,e⟩:=h.dct;rw[xJ e,qg,if_pos hv]
theorem Vl(d:Nat)(l){v:Str}(hv:v∈g.N):ao (d+1) 80 [.ref g.i,.str v] ⟨l,S⟩=.ok (.ref (g.at_ v)) ⟨l,S⟩:=by
 rw[bW (L:=Rk (some (.ref g.i)) (some (.str v)) none) (S₁:=S) (by kernel_rfl),Rm];obtain⟨ep,ed⟩:=h.dct;have gt:=λ L=>h.get (L:=L) v
 rw[if_pos hv]at gt;simp only[B80,aap,aaq,adq,adt,adu,adv,ak.bind_ok,h.a_n2i,(λ cl live args L=>BP (cl:=cl) (live:=live) (args:=args) (L:=L) ed),gt,gB,aA,Bool.false_eq_true,if_false,aB,bH,dg]
theorem Vm(d:Nat)(l){v:Str}(hv:v∉g.N)(hl:g.N.length < 60)(h8:8<=S.length):∃S',ao (d+3) 80 [.ref g.i,.str v] ⟨l,S⟩=.ok (.ref (S.length+1)) ⟨l,S'⟩/\bR S' (aa1 S g v)/\cO S g S' (aa1 S g v):=by
 rw[bW (L:=Rk (some (.ref g.i)) (some (.str v)) none) (S₁:=S) (by kernel_rfl),Rm];obtain⟨ep,ed⟩:=h.dct;obtain⟨r1,r2⟩:=h.newNode hv hl ed;refine⟨_,?_,r1,r2⟩;have gt:=λ L=>h.get (L:=L) v
 rw[if_neg hv]at gt;simp only[B80,aap,aao,Kz,aaq,adq,adt,adu,adv,ak.bind_ok,h.a_n2i,(λ cl live args L=>BP (cl:=cl) (live:=live) (args:=args) (L:=L) ed),gt,IK,aA,if_true,(λ L=>Vk d v L S h8),(λ L=>(h.push (qi S.length v)).a_n2i (L:=L)),(λ L=>jy (L:=L) (au (J:=qi S.length v) ed) (by rw[List.length_map];exact aD (by lia)) h.ge.2.1 v (.ref (S.length+1))),aB,bH,dg]
theorem adY(d:Nat)(l)(v:Str)(hl:g.N.length < 60)(h8:8<=S.length):∃S' g',ao (d+3) 80 [.ref g.i,.str v] ⟨l,S⟩=.ok (.ref (g'.at_ v)) ⟨l,S'⟩/\bR S' g'/\cO S g S' g'/\g'.N=fB g.N v/\Same g g':=by
 unfold fB;by_cases hv:v∈g.N
 ·rw[if_pos hv];exact⟨S,g,Vl h (d+2) l hv,h,.refl S g,rfl,rfl,rfl,rfl,rfl,rfl,rfl⟩
 ·rw[if_neg hv];obtain⟨S',e1,e2,e3⟩:=Vm h d l hv hl h8;refine⟨S',aa1 S g v,?_,e2,e3,rfl,rfl,rfl,rfl,rfl,rfl,rfl⟩;rw[e1];show _=ak.ok (V.ref (upd g.at_ v (S.length+1) v)) _;rw[aY]
end
set_option tactic.hygienic true in
theorem af4{α:Type}(f:Str->α)(v:Str):upd f v (f v)=f:=funext λ w=>by
 unfold upd;split
 ·rename_i h;rw[h]
 ·rfl
theorem Rz{L}{S:List O}{n:Nat}{xs:List V}(e:S[n]?=some (.tup xs))(hs:small xs.length=true):rU [.ref n] ⟨L,S⟩=.ok (.int xs.length) ⟨L,S⟩:=by
 exact(Gk (f:=O.seq?) e rfl).trans (if_pos hs)
theorem aa2{ok:St->Bool}{body:V->St->ak Fl}{Y:St}(h:ok Y=true):jk ok body [] Y=.ok .next Y:=if_pos h
structure aa3(S:List O)(g:G)(S':List O)(g':G)(N:List Str)(np:Str->Int)(su:Str->List Str):Prop where
 rep:bR S' g'
 step:cO S g S' g'
 N:g'.N=N
 np:g'.np=np
 su:g'.su=su
 rd:g'.rd=g.rd
 po:g'.po=g.po
 nf:g'.nf=g.nf
theorem acQ{g:G}(v:Str)(n:Int):∀x,jw {g with np:=upd g.np v n} x->jw g x:=λ _ h=>h
theorem gV{S S':List O}{g g':G}{a:Nat}(st:cO S g S' g')(h:¬ jw g a)(hl:a < S.length):¬ jw g' a:=λ q=>by
 rcases st.grow a q with q|q
 ·exact h q
 ·lia
theorem Lr{S:List O}{g:G}(h:bR S g)(d:Nat)(l)(x:Str)(ys:List V)(hrd:g.rd=none)(hl:g.N.length < 60)(h8:8<=S.length)(hys:ys=[]\/∃y,ys=[y]):
  ∃S' g' r,ao (d+4) 87 (.ref g.i::.str x::ys) ⟨l,S⟩=kj l (aj (Rn (ao (d+3)) ⟨rJ (some (.ref g.i)) (some (.str x)) (some (.ref S.length)) (some r) none none,S'⟩) λ Y=>.ok .next Y)/\aa3 S g S' g' (fB g.N x) (upd g.np x (g.np x+ys.length)) g.su/\S'[S.length]?=some (.tup ys)/\¬ jw g' S.length:=by
 have e0:ao (d+4) 87 (.ref g.i::.str x::ys) ⟨l,S⟩=kj l (aK (cG (ao (d+3)) 60) (sU 87) (wu 87) ⟨rJ (some (.ref g.i)) (some (.str x)) (some (.ref S.length)) none none none,S++[.tup ys]⟩):=by
  rcases hys with rfl|⟨y,rfl⟩
  ·exact bW (by kernel_rfl)
  ·exact bW (by kernel_rfl)
 have hs:small ys.length=true:=by clear e0;rcases hys with rfl|⟨y,rfl⟩<;>rfl
 rw[e0,acu];have h0:=h.push [.tup ys];obtain⟨S1,g1,n1,r1,st1,N1,sm1⟩:=adY h0 d (rJ (some (.ref g.i)) (some (.str x)) (some (.ref S.length)) none none none) x hl (by simp;exact Nat.le_of_lt (by assumption));have hx:x∈g1.N:=by rw[N1];exact gU.mpr (.inr rfl)
 have hnm:¬ jw g S.length:=λ q=>by
  have lt:∀{a:Nat},(∃o,S[a]?=some o)->a < S.length:=λ⟨o,e⟩=>aQ e
  rcases q with q|q|⟨v,hv,q|q⟩|q
  ·have:=lt (h.fld.imp' (λ _=>_) λ _ e=>e);lia
  ·have:=lt (h.dct.imp' (λ _=>_) λ _ e=>e);lia
  ·have:=aQ (h.nod v hv);lia
  ·have:=aQ (h.suc v hv);lia
  ·have:=aQ (h.rdy _ q).2.1;lia
 have et:S1[S.length]?=some (.tup ys):=st1.keep _ _ gM hnm;have hnm1:¬ jw g1 S.length:=gV st1 hnm (by simp);have ard:=λ L=>h0.a_rd (L:=L)
 rw[hrd,rdV]at ard;refine⟨S1.set (g1.at_ x) (Qn g1 x (g1.np x+ys.length)),{g1 with np:=upd g1.np x (g1.np x+ys.length)},.ref (g1.at_ x),?_,⟨(r1.setNp hx (g1.np x+ys.length)),?_,N1,?_,sm1.su,sm1.rd,sm1.po,sm1.nf⟩,?_,hnm1⟩
 ·simp only[B87,adI,adJ,adK,adw,adx,aaf,ag0,ag1,ak.bind_ok,ard,tC,aA,Bool.false_eq_true,if_false,aB,(λ args L=>h0.meth (cl:=ao (d+3)) (args:=args) (name:=("_get_nodeinfo":Str)) (f:=80) (L:=L) (by kernel_rfl)),n1,(λ L=>r1.a_np (L:=L) hx),(λ L=>Rz (L:=L) et hs),vd,(λ L=>r1.s_np (L:=L) hx (g1.np x+ys.length))]
 ·exact((cO.push S [.tup ys] g).trans st1).trans (cO.set _ (.inr (.inr (.inl ⟨x,hx,.inl rfl⟩))) (acQ _ _) rfl)
 ·show upd g1.np x (g1.np x+ys.length)=_;rw[sm1.np]
 ·rw[List.getElem?_set_ne (λ q=>hnm1 (by rw[<-q];exact .inr (.inr (.inl ⟨x,hx,.inl rfl⟩))))];exact et
theorem add1{S:List O}{g:G}(h:bR S g)(d:Nat)(l)(x:Str)(hrd:g.rd=none)(hl:g.N.length < 60)(h8:8<=S.length):
  ∃S' g',ao (d+4) 87 [.ref g.i,.str x] ⟨l,S⟩=.ok .none ⟨l,S'⟩/\aa3 S g S' g' (fB g.N x) g.np g.su:=by
 obtain⟨S',g',r,e1,ad,et,-⟩:=Lr h d l x [] hrd hl h8 (.inl rfl);rw[show g.np x+(([]:List V).length:Nat)=g.np x from Int.add_zero _,af4]at ad;refine⟨S',g',?_,ad⟩;rw[e1];simp only[Rn,aaf,ak.bind_ok,fC,(λ L=>gw (L:=L) et rfl),aa2 ((λ L L'=>d8 (L:=L) (L':=L') et et) _ _)];rfl
theorem add2{S:List O}{g:G}(h:bR S g)(d:Nat)(l)(x y:Str)(hrd:g.rd=none)(hl:g.N.length < 59)(h8:8<=S.length)(hsu:(g.su y).length < 1000):
  ∃S' g',ao (d+4) 87 [.ref g.i,.str x,.str y] ⟨l,S⟩=.ok .none ⟨l,S'⟩/\aa3 S g S' g' (fB (fB g.N x) y) (upd g.np x (g.np x+1)) (upd g.su y (g.su y++[x])):=by
 obtain⟨S1,g1,r,e1,ad,et,hnm⟩:=Lr h d l x [.str y] hrd (by lia) h8 (.inr ⟨_,rfl⟩);have hl1:g1.N.length < 60:=by
  rw[ad.N];unfold fB;split
  ·lia
  ·rw[List.length_append];show _+1 < 60;lia
 obtain⟨S2,g2,n2,r2,st2,N2,sm2⟩:=adY ad.rep d (rJ (some (.ref g.i)) (some (.str x)) (some (.ref S.length)) (some r) (some (.str y)) none) y hl1 (Nat.le_trans h8 ad.step.len);have hi:g1.i=g.i:=ad.step.same;rw[hi]at n2;have hy:y∈g2.N:=by rw[N2];exact gU.mpr (.inr rfl)
 have hsu2:g2.su y=g.su y:=by rw[sm2.su,ad.su]
 have esu:=r2.suc y hy;rw[hsu2]at esu;have me:=λ args L=>by
  have:=ad.rep.meth (cl:=ao (d+3)) (args:=args) (name:=("_get_nodeinfo":Str)) (f:=80) (L:=L) (by kernel_rfl);rw[hi]at this;exact this
 refine⟨_,_,?_,⟨(r2.setSu hy (g.su y++[x]) (by rw[List.length_append];show _+1<=1000;assumption)),?_,?_,?_,?_,?_,?_,?_⟩⟩
 ·rw[e1];have body:Bg (ao (d+3)) ⟨rJ (some (.ref g.i)) (some (.str x)) (some (.ref S.length)) (some r) (some (.str y)) none,S1⟩=.ok .next ⟨rJ (some (.ref g.i)) (some (.str x)) (some (.ref S.length)) (some r) (some (.str y)) (some (.ref (g2.at_ y))),S2.set (g2.sl y) (.list ((g.su y++[x]).map .str))⟩:=by
   simp only[Bg,KC,KD,adw,adx,ag2,ag4,ag5,ak.bind_ok,me,n2,aB,(λ L=>r2.a_su (L:=L) hy),(λ cl live args L=>dU (cl:=cl) (live:=live) (args:=args) (L:=L) esu),(λ L=>gq (L:=L) esu (by rw[List.length_map];exact aD (by lia)) (r2.ge.2.2 y hy).2 (.str x)),List.map_append,List.map_cons,List.map_nil]
  simp only[Rn,aaf,ak.bind_ok,fC,(λ L=>gw (L:=L) et rfl),(Br (body:=λ v Y=>Bg (ao (d+3)) (aF ("pred":Str) v Y)) (v:=.str y) (Y:=⟨rJ (some (.ref g.i)) (some (.str x)) (some (.ref S.length)) (some r) none none,S1⟩) ((λ L L'=>d8 (L:=L) (L':=L') et et) (rJ (some (.ref g.i)) (some (.str x)) (some (.ref S.length)) (some r) none none) _) ((congrArg (Bg (ao (d+3))) (ag3 ..)).trans body) ((λ L L'=>d8 (L:=L) (L':=L') et (by rw[List.getElem?_set_ne (λ q=>(gV st2 hnm (aQ et)) (by rw[<-q];exact .inr (.inr (.inl ⟨y,hy,.inr rfl⟩))))];exact(st2.keep _ _ et hnm):(S2.set (g2.sl y) (.list ((g.su y++[x]).map .str)))[S.length]?=some (.tup [.str y]))) _ _))];rfl
 ·exact(ad.step.trans st2).trans (cO.set _ (.inr (.inr (.inl ⟨y,hy,.inr rfl⟩))) (λ _ h=>h) rfl)
 ·show g2.N=_;rw[N2,ad.N]
 ·show g2.np=_;rw[sm2.np,ad.np];rfl
 ·show upd g2.su y _=_;rw[sm2.su,ad.su]
 ·show g2.rd=_;rw[sm2.rd,ad.rd]
 ·show g2.po=_;rw[sm2.po,ad.po]
 ·show g2.nf=_;rw[sm2.nf,ad.nf]
noncomputable def g0(n:Nat):G:={i:=n+1,fd:=n,d:=n+2,N:=[],at_:=λ _=>0,dd:=λ _=>0,sl:=λ _=>0,np:=λ _=>0,su:=λ _=>[],rd:=none,rl:=[],po:=0,nf:=0}
theorem Vn(d:Nat)(l)(S:List O)(hk:8<=S.length):∃J,ao (d+2) 137 [] ⟨l,S⟩=.ok (.ref (S.length+1)) ⟨l,S++J⟩/\bR (S++J) (g0 S.length):=by
 rw[(by kernel_rfl:ao (d+2) 137 [] ⟨l,S⟩=(ao (d+1) 73 [.ref (S.length+1)] ⟨l,S++[.dict [] 0,.inst S.length]⟩).bind λ v τ=>if v=.none then .ok (.ref (S.length+1)) τ else .bad),bW (L:=Kw (some (.ref (S.length+1))) (some .none) none none) (S₁:=S++[.dict [] 0,.inst S.length]) (by kernel_rfl),acs];have i1:∀o:O,(S++[o,.inst S.length,.dict [] 0])[S.length+1]?=some (.inst S.length):=λ o=>dX S _ 1
 have f1:∀o:O,(S++[o,.inst S.length,.dict [] 0])[S.length]?=some o:=λ o=>dX S _ 0
 have u1:∀o o':O,(S++[o,.inst S.length,.dict [] 0]).set S.length o'=S++[o',.inst S.length,.dict [] 0]:=λ o o'=>nU S _ 0 o'
 have nw:∀L,St.new ⟨L,S++[.dict [] 0,.inst S.length]⟩ (.dict [] 0)=.ok (.ref (S.length+2)) ⟨L,S++[.dict [] 0,.inst S.length,.dict [] 0]⟩:=λ L=>by
  rw[bO,List.append_assoc,List.length_append];rfl
 have sa:=λ L kvs ep x v (hx:bT.contains x=true) (hl:kvs.length < 100)=>(vq (L:=L) (i1 (.dict kvs ep)) (f1 _) (v:=v) hx hl hk).trans (by rw[u1])
 refine⟨[.dict (kI (S.length+2) none 0 0) 4,.inst S.length,.dict [] 0],?_,?_⟩
 ·simp only[B73,adD,adE,adF,adG,adH,agY,agZ,ak.bind_ok,nw,(λ L=>(sa L [] 0 _ _ (by kernel_rfl) (Nat.le_of_ble_eq_true rfl)).trans rfl:∀L,aX (.ref (S.length+1)) ("_node2info":Str) (.ref (S.length+2)) ⟨L,S++[.dict [] 0,.inst S.length,.dict [] 0]⟩=.ok .none ⟨L,S++[.dict [("_node2info",.ref (S.length+2))] 1,.inst S.length,.dict [] 0]⟩),(λ L=>(sa L _ 1 _ _ (by kernel_rfl) (Nat.le_of_ble_eq_true rfl)).trans (by kernel_rfl):∀L,aX (.ref (S.length+1)) ("_ready_nodes":Str) .none ⟨L,S++[.dict [("_node2info",.ref (S.length+2))] 1,.inst S.length,.dict [] 0]⟩=.ok .none ⟨L,S++[.dict [("_node2info",.ref (S.length+2)),("_ready_nodes",.none)] 2,.inst S.length,.dict [] 0]⟩),(λ L=>(sa L _ 2 _ _ (by kernel_rfl) (Nat.le_of_ble_eq_true rfl)).trans (by kernel_rfl):∀L,aX (.ref (S.length+1)) ("_npassedout":Str) (.int 0) ⟨L,S++[.dict [("_node2info",.ref (S.length+2)),("_ready_nodes",.none)] 2,.inst S.length,.dict [] 0]⟩=.ok .none ⟨L,S++[.dict [("_node2info",.ref (S.length+2)),("_ready_nodes",.none),("_npassedout",.int 0)] 3,.inst S.length,.dict [] 0]⟩),(λ L=>(sa L _ 3 _ _ (by kernel_rfl) (Nat.le_of_ble_eq_true rfl)).trans (by kernel_rfl):∀L,aX (.ref (S.length+1)) ("_nfinished":Str) (.int 0) ⟨L,S++[.dict [("_node2info",.ref (S.length+2)),("_ready_nodes",.none),("_npassedout",.int 0)] 3,.inst S.length,.dict [] 0]⟩=.ok .none ⟨L,S++[.dict (kI (S.length+2) none 0 0) 4,.inst S.length,.dict [] 0]⟩),aB,tC,aA,Bool.false_eq_true,if_false,Aq];rfl
 ·exact{
   inst:=i1 _
   fld:=⟨4,f1 _⟩
   dct:=⟨0,dX S _ 2⟩
   nod:=nofun
   suc:=nofun
   nd:=List.nodup_nil
   inj:=nofun
   fdd:=by show S.length≠S.length+2;simp
   ge:=⟨hk,by show 8<=S.length+2;exact Nat.lt_add_right _ (by assumption),nofun⟩
   len:=Nat.zero_le _
   sul:=λ _=>Nat.zero_le _
   off:=λ _ _=>⟨rfl,rfl⟩
   rdy:=nofun}
section
variable {S:List O}{g:G}(h:bR S g) {r:Nat}(hr:g.rd=some r)
include h hr
theorem bR.a_rd'{L}:bJ (.ref g.i) ("_ready_nodes":Str) ⟨L,S⟩=.ok (.ref r) ⟨L,S⟩:=by
 have:=h.a_rd (L:=L);rw[hr]at this;exact this
theorem yu(d:Nat)(l):ao (d+1) 106 [.ref g.i] ⟨l,S⟩=.ok (.bool (decide (g.nf < g.po)||!g.rl.isEmpty)) ⟨l,S⟩:=by
 rw[bW (L:=aag (some (.ref g.i))) (S₁:=S) (by kernel_rfl),aaz];have hl:=(h.rdy r hr).2.1;have hb:∀cl L,b8 cl .bool [.ref r] ⟨L,S⟩=.ok (.bool (!g.rl.isEmpty)) ⟨L,S⟩:=λ cl L=>by
  refine(cA (bZ hl)).trans ?_;show(if small (g.rl.map V.str).length=true then ak.ok (V.bool (!(g.rl.map V.str).isEmpty)) (⟨L,S⟩:St)else .bad)=_;rw[List.length_map,List.isEmpty_map,if_pos (aD (by have:=(h.rdy r hr).2.2.2;lia))]
 induction hd:decide (g.nf < g.po)with
 |true=>simp only[afR,Pa,Pb,aah,ak.bind_ok,h.a_rd' hr,gB,aA,Bool.false_eq_true,if_false,aB,h.a_nf,h.a_po,lt_int,hd,bx,if_true,bH,dg,Bool.true_or]
 |false=>simp only[afR,Pa,Pb,aah,ak.bind_ok,h.a_rd' hr,gB,aA,Bool.false_eq_true,if_false,aB,h.a_nf,h.a_po,lt_int,hd,bx,if_false,hb,bH,dg,Bool.false_or]
end
theorem qj{S:List O}{g:G}(h:bR S g){L}{x:Str}{v:V}{rd:Option Nat}{po nf:Int}(hx:bT.contains x=true)(he:∀ep,cJ (kI g.d g.rd g.po g.nf) ep x v=.dict (kI g.d rd po nf) ep):∃ep,aX (.ref g.i) x v ⟨L,S⟩=.ok .none ⟨L,S.set g.fd (.dict (kI g.d rd po nf) ep)⟩:=by
 obtain⟨ep,e⟩:=h.fld;refine⟨ep,(vq h.inst e hx (by simp[kI]) h.ge.1).trans ?_⟩;rw[he]
theorem af5(d:Nat)(rd:Option Nat)(po nf:Int)(v:Int)(ep:Nat):cJ (kI d rd po nf) ep ("_npassedout":Str) (.int v)=.dict (kI d rd v nf) ep:=by kernel_rfl
theorem af6(d:Nat)(rd:Option Nat)(po nf:Int)(v:Int)(ep:Nat):cJ (kI d rd po nf) ep ("_nfinished":Str) (.int v)=.dict (kI d rd po v) ep:=by kernel_rfl
theorem af7(d:Nat)(rd:Option Nat)(po nf:Int)(r:Nat)(ep:Nat):cJ (kI d rd po nf) ep ("_ready_nodes":Str) (.ref r)=.dict (kI d (some r) po nf) ep:=by kernel_rfl
theorem aa4{L}{S:List O}{n:Nat}{xs:List V}(e:S[n]?=some (.list xs))(hs:small xs.length=true)(hk:8<=n):cD .clear (.ref n) [] ⟨L,S⟩=.ok .none ⟨L,S.set n (.list [])⟩:=(cA e).trans ((if_pos hs).trans (if_pos hk))
theorem Qo{cl}{L}{S:List O}{n:Nat}{xs:List V}(e:S[n]?=some (.list xs))(hs:small xs.length=true):b8 cl .tuple [.ref n] ⟨L,S⟩=.ok (.ref S.length) ⟨L,S++[.tup xs]⟩:=by
 exact(cA e).trans (if_pos hs)
theorem bV{S:List O}{g:G}(h:bR S g):¬ jw g S.length:=λ q=>by
 have lt:∀{a:Nat} {o},S[a]?=some o->a < S.length:=aQ;rcases q with q|q|⟨v,hv,q|q⟩|q
 ·obtain⟨ep,e⟩:=h.fld;have:=lt e;lia
 ·obtain⟨ep,e⟩:=h.dct;have:=lt e;lia
 ·have:=lt (h.nod v hv);lia
 ·have:=lt (h.suc v hv);lia
 ·have:=lt (h.rdy _ q).2.1;lia
noncomputable def jd(np:Str->Int)(done:List Str):Str->Int:=λ v=>if v∈done then -1 else np v
theorem BW(np:Str->Int)(done:List Str)(v:Str):upd (jd np done) v (-1)=jd np (done++[v]):=funext λ w=>by
 delta upd jd
 by_cases h:w=v
 ·rw[if_pos h,if_pos (by rw[h];simp)]
 ·rw[if_neg h];by_cases h2:w∈done
  ·rw[if_pos h2,if_pos (List.mem_append_left _ h2)]
  ·rw[if_neg h2,if_neg (λ q=>(List.mem_append.mp q).elim h2 λ q=>h (List.mem_singleton.mp q))]
inductive aa5(S0:List O)(g:G)(m:Nat)(rest:List Str)(Y:St):Prop
 |mk (done:List Str) (S':List O) (o:Option V) (hd:done++rest=g.rl) (e:Y=⟨yh (some (.ref g.i)) (some (.ref m)) (some (.ref g.d)) o,S'⟩) (h:bR S' {g with np:=jd g.np done}) (st:cO S0 g S' {g with np:=jd g.np done})
inductive af8(S:List O)(g:G)(l:List (Str×Option V))(r:ak V):Prop
 |mk (S':List O) (t:Nat) (e:r=.ok (.ref t) ⟨l,S'⟩) (h:bR S' {g with np:=jd g.np g.rl,rl:=[],po:=g.po+g.rl.length}) (st:cO S g S' {g with np:=jd g.np g.rl,rl:=[],po:=g.po+g.rl.length}) (et:S'[t]?=some (.tup (g.rl.map .str))) (hl:S.length<=t) (hm:¬ jw g t)
theorem Qp{S0 S':List O}{g:G}{m:Nat}{v:Str}{rest done:List Str}{o:Option V}{cl}(hN:∀v∈g.rl,v∈g.N)(hd:done++v::rest=g.rl)(r1:bR S' {g with np:=jd g.np done})(st:cO S0 g S' {g with np:=jd g.np done}):
  aaN (λ v Y=>H8 cl (aF ("node":Str) v Y)) (aa5 S0 g m rest) (.str v) ⟨yh (some (.ref g.i)) (some (.ref m)) (some (.ref g.d)) o,S'⟩:=by
 have hv:v∈g.N:=hN v (by rw[<-hd];exact List.mem_append_right _ (.head _));have r2:=r1.setNp hv (-1);have st2:cO S' {g with np:=jd g.np done} (S'.set (g.at_ v) (Qn g v (-1))) {g with np:=upd (jd g.np done) v (-1)}:=cO.set _ (.inr (.inr (.inl ⟨v,hv,.inl rfl⟩))) (λ _ h=>h) rfl;replace st2:=st.trans st2;rw[BW]at st2;rw[BW]at r2;refine⟨.next,⟨yh (some (.ref g.i)) (some (.ref m)) (some (.ref g.d)) (some (.str v)),S'.set (g.at_ v) (Qn g v (-1))⟩,.inl rfl,?_,⟨done++[v],_,some (.str v),by rw[<-hd,List.append_assoc];rfl,rfl,r2,st2⟩⟩;simp only[ahd];simp only[H8,KJ,aha,ahc,ak.bind_ok,(λ L=>r1.item (L:=L) hv),bA,(λ L=>r1.s_np (L:=L) hv (-1)),aB];rfl
theorem Qq{S:List O}{g:G}(h:bR S g){r:Nat}(hr:g.rd=some r)(hN:∀v∈g.rl,v∈g.N)(d:Nat)(l):af8 S g l (ao (d+1) 99 [.ref g.i] ⟨l,S⟩):=by
 rw[bW (L:=yh (some (.ref g.i)) none none none) (S₁:=S) (by kernel_rfl),acw];refine lU λ Zz toG=>?_
 have sz:small (g.rl.map V.str).length=true:=by rw[List.length_map];exact aD (Nat.le_trans ((h.rdy r hr).2.2.2) (by decide))
 have hnm:=bV h;have h0:=h.push [.tup (g.rl.map .str)];have et:(S++[O.tup (g.rl.map V.str)])[S.length]?=some (.tup (g.rl.map .str)):=gM;obtain⟨Y',f1,done,S',o,hd,rfl,r1,st1⟩:=fK (f:=V.str) (ok:=aR (.ref S.length) ⟨yh (some (.ref g.i)) (some (.ref S.length)) (some (.ref g.d)) none,S++[.tup (g.rl.map .str)]⟩) (body:=λ v Y=>H8 (ao d) (aF ("node":Str) v Y))
  (aa5 (S++[.tup (g.rl.map .str)]) g S.length) (λ rest Y ⟨_,_,_,_,e,_,st⟩=>by rw[e];exact d8 et (st.keep _ _ et hnm))
  (λ v rest Y ⟨_,_,_,hd,e,r1,st⟩=>by rw[e];exact Qp hN hd r1 st) g.rl ⟨yh (some (.ref g.i)) (some (.ref S.length)) (some (.ref g.d)) none,S++[.tup (g.rl.map .str)]⟩
  ⟨[],_,none,rfl,rfl,h0,.refl _ g⟩
 rw[List.append_nil]at hd;subst hd;have hr':({g with np:=jd g.np g.rl}:G).rd=some r:=hr;have r2:=r1.setRl hr' [] (Nat.zero_le _);have st2:cO S' {g with np:=jd g.np g.rl} (S'.set r (.list [])) {g with np:=jd g.np g.rl,rl:=[]}:=cO.set _ (.inr (.inr (.inr hr))) (λ _ h=>h) rfl;obtain⟨ep,sa⟩:=qj r2 (L:=yh (some (.ref g.i)) (some (.ref S.length)) (some (.ref g.d)) o) (x:=("_npassedout":Str)) (v:=.int (g.po+g.rl.length)) (rd:=g.rd) (po:=g.po+g.rl.length) (nf:=g.nf) (by kernel_rfl) (λ ep=>af5 ..);have st3:cO (S'.set r (.list [])) {g with np:=jd g.np g.rl,rl:=[]} ((S'.set r (.list [])).set g.fd (.dict (kI g.d g.rd (g.po+g.rl.length) g.nf) ep)) {g with np:=jd g.np g.rl,rl:=[],po:=g.po+g.rl.length}:=cO.set _ (.inl rfl) (λ _ h=>h) rfl;have e2:(S'.set r (.list []))[S.length]?=some (.tup (g.rl.map .str)):=st2.keep _ _ (st1.keep _ _ et hnm) hnm;refine toG ⟨_,S.length,?_,(r2.setFld g.rd [] (g.po+g.rl.length) g.nf ep (λ r' e=>r2.rdy r' e)),((((cO.push S [.tup (g.rl.map .str)] g).trans st1).trans st2).trans st3),(st3.keep _ _ e2 hnm),Nat.le_refl _,hnm⟩;have el:=r1.rdy r hr';have mc:=λ live args L=>Qe (cl:=ao d) (live:=live) (args:=args) (L:=L) el.2.1
 have ce:=λ L=>aa4 (L:=L) el.2.1 sz el.1
 have apo:∀L,bJ (.ref g.i) ("_npassedout":Str) ⟨L,S'.set r (.list [])⟩=.ok (.int g.po) ⟨L,S'.set r (.list [])⟩:=λ L=>r2.a_po (L:=L)
 have lt:=λ L=>Rz (L:=L) e2 sz
 rw[List.length_map]at lt;have sa':aX (.ref g.i) ("_npassedout":Str) (.int (g.po+(g.rl.length:Nat))) ⟨yh (some (.ref g.i)) (some (.ref S.length)) (some (.ref g.d)) o,S'.set r (.list [])⟩=_:=sa;have q3:aay (ao d) ⟨yh (some (.ref g.i)) (some (.ref S.length)) (some (.ref g.d)) none,S++[.tup (g.rl.map .str)]⟩=.ok .next ⟨yh (some (.ref g.i)) (some (.ref S.length)) (some (.ref g.d)) o,S'⟩:=by
  simp only[aay,adz,ak.bind_ok,fC,(λ L=>gw (L:=L) et sz),f1];rfl
 simp only[B99,adM,adN,adO,ady,ag9,ahb,ak.bind_ok,h.a_rd' hr,gB,aA,Bool.false_eq_true,if_false,aB,(λ L=>Qo (cl:=ao d) (L:=L) ((h.rdy r hr).2.1) sz),h0.a_n2i,q3];simp only[adP,adQ,adR,ady,adz,ak.bind_ok,((λ L=>r1.a_rd' hr' (L:=L))),mc,ce,apo,lt,(λ Y=>vd ..:∀Y,kJ .Add (.int g.po) (.int (g.rl.length:Nat)) Y=.ok (.int (g.po+(g.rl.length:Nat))) Y),sa',aB,bH,dg]
noncomputable def gW(p:(Str->Int)×List Str)(s:Str):(Str->Int)×List Str:=(upd p.1 s (p.1 s - 1),if p.1 s - 1=0 then p.2++[s]else p.2)
noncomputable def Ls(g:G)(v:Str):G:={g with np:=((g.su v).foldl gW (upd g.np v (-2),g.rl)).1,rl:=((g.su v).foldl gW (upd g.np v (-2),g.rl)).2,nf:=g.nf+1}
theorem Lw(i j:Int)(Y:St):kJ .Sub (.int i) (.int j) Y=.ok (.int (i - j)) Y:=rfl
theorem IV(i:Int)(Y:St):yw (.int i) (.int 0) Y=some (decide (i=0)):=by
 rw[eq_int];by_cases h:i=0
 ·rw[decide_eq_true h,h];rfl
 ·rw[decide_eq_false h,beq_eq_false_iff_ne.mpr h]
theorem Vo{S:List O}{g:G}(h:bR S g){r:Nat}(hr:g.rd=some r){s:Str}(hs:s∈g.N)(hl:g.rl.length < 1000){cl}{o1 o3 o4 o5 o7:Option V}:
  ∃S',fV cl ⟨cX (some (.ref g.i)) o1 (some (.ref g.d)) o3 o4 o5 (some (.str s)) o7,S⟩=.ok .next ⟨cX (some (.ref g.i)) o1 (some (.ref g.d)) o3 o4 o5 (some (.str s)) (some (.ref (g.at_ s))),S'⟩/\bR S' {g with np:=(gW (g.np,g.rl) s).1,rl:=(gW (g.np,g.rl) s).2}/\cO S g S' {g with np:=(gW (g.np,g.rl) s).1,rl:=(gW (g.np,g.rl) s).2}:=by
 have it:=λ L=>h.item (L:=L) hs
 have anp:=λ L=>h.a_np (L:=L) hs
 have snp:=λ L=>h.s_np (L:=L) hs (g.np s - 1)
 have r1:=h.setNp hs (g.np s - 1);have st1:cO S g (S.set (g.at_ s) (Qn g s (g.np s - 1))) {g with np:=upd g.np s (g.np s - 1)}:=cO.set _ (.inr (.inr (.inl ⟨s,hs,.inl rfl⟩))) (λ _ h=>h) rfl;have anp2:∀L,bJ (.ref (g.at_ s)) ("npredecessors":Str) ⟨L,S.set (g.at_ s) (Qn g s (g.np s - 1))⟩=.ok (.int (g.np s - 1)) ⟨L,S.set (g.at_ s) (Qn g s (g.np s - 1))⟩:=λ L=>by
  have:=r1.a_np (L:=L) hs;rw[show({g with np:=upd g.np s (g.np s - 1)}:G).np s=g.np s - 1 from aY ..]at this;exact this
 dsimp only[gW];by_cases hz:g.np s - 1=0
 ·have d:=decide_eq_true hz;have hr':({g with np:=upd g.np s (g.np s - 1)}:G).rd=some r:=hr;have el:=r1.rdy r hr';have ma:=λ live args L=>dU (cl:=cl) (live:=live) (args:=args) (L:=L) el.2.1
  rw[if_pos hz];refine⟨_,?_,(r1.setRl hr' (g.rl++[s]) (by rw[List.length_append];show _+1<=1000;assumption)),st1.trans (cO.set _ (.inr (.inr (.inr hr))) (λ _ h=>h) rfl)⟩;simp only[fV,ou,oA,oE,rK,pB,HS,O8,aaj,aak,aal,ak.bind_ok,it,bA,anp,Lw,snp,aB,anp2,IV,d,aA,if_true,(λ L=>r1.a_rd' hr' (L:=L)),ma,(λ L=>gq (L:=L) el.2.1 (by rw[List.length_map];exact aD (by show g.rl.length<=_;lia)) el.1 (.str s)),List.map_append,List.map_cons,List.map_nil]
 ·have d:=decide_eq_false hz;rw[if_neg hz];refine⟨_,?_,r1,st1⟩;simp only[fV,ou,oA,oE,HS,O8,aaj,aak,aal,ak.bind_ok,it,bA,anp,Lw,snp,aB,anp2,IV,d,aA,Bool.false_eq_true,if_false]
theorem Vp(p:(Str->Int)×List Str)(s:Str):(gW p s).2.length<=p.2.length+1:=by
 unfold gW;dsimp only;split
 ·simp
 ·simp
inductive aa6(S1:List O)(g:G)(m:Nat)(v:Str)(rest:List Str)(Y:St):Prop
 |mk (p:(Str->Int)×List Str) (S':List O) (o6 o7:Option V) (hp:rest.foldl gW p=(g.su v).foldl gW (upd g.np v (-2),g.rl)) (e:Y=⟨cX (some (.ref g.i)) (some (.ref m)) (some (.ref g.d)) (some (.str v)) (some (.ref (g.at_ v))) (some (.int (-1))) o6 o7,S'⟩)
  (h:bR S' {g with np:=p.1,rl:=p.2}) (st:cO S1 {g with np:=upd g.np v (-2)} S' {g with np:=p.1,rl:=p.2}) (hl:p.2.length+rest.length<=1000) (hm:∀s∈rest,s∈g.N) (es:S'[g.sl v]?=some (.list ((g.su v).map .str)))
inductive ahr(S:List O)(g:G)(v:Str)(l:List (Str×Option V))(r:ak V):Prop
 |mk (S':List O) (e:r=.ok .none ⟨l,S'⟩) (h:bR S' (Ls g v)) (st:cO S g S' (Ls g v))
set_option tactic.hygienic true in
theorem Vq{S1:List O}{g:G}{m:Nat}{v s:Str}{rest:List Str}{Y:St}{cl}{r:Nat}(hr:g.rd=some r)(hv:v∈g.N)(hI:aa6 S1 g m v (s::rest) Y):aaN (λ w Y=>fV cl (aF ("successor":Str) w Y)) (aa6 S1 g m v rest) (.str s) Y:=by
 obtain⟨p,S',o6,o7,hp,rfl,rr,st,hl,hm,es⟩:=hI;simp only[List.length_cons]at hl;obtain⟨S'',b1,b2,b3⟩:=Vo rr (g:={g with np:=p.1,rl:=p.2}) hr (hm s List.mem_cons_self) (Nat.lt_of_lt_of_le (Nat.lt_add_of_pos_right (Nat.succ_pos _)) hl) (cl:=cl) (o1:=some (.ref m)) (o3:=some (.str v)) (o4:=some (.ref (g.at_ v))) (o5:=some (.int (-1))) (o7:=o7);have:=Vp p s;exact⟨.next,_,.inl rfl,(congrArg (fV cl) (afF ..)).trans b1,gW p s,S'',_,_,hp,rfl,b2,st.trans b3,by clear rr st b1 b2 b3 hp es hm;lia,λ x hx=>hm x (List.mem_cons_of_mem _ hx),b2.suc v hv⟩
theorem Vr{S:List O}{g:G}(h:bR S g){r:Nat}(hr:g.rd=some r){v:Str}(hv:v∈g.N)(hnp:g.np v= -1)(hN:∀s∈g.su v,s∈g.N)(hl:g.rl.length+(g.su v).length<=1000)(d:Nat)(l):
  ahr S g v l (ao (d+1) 120 [.ref g.i,.str v] ⟨l,S⟩):=by
 rw[bW (L:=cX (some (.ref g.i)) (some (.ref S.length)) none none none none none none) (S₁:=S++[O.tup [.str v]]) (by kernel_rfl),aaC];refine lU λ Zz toG=>?_
 have h0:=h.push [O.tup [.str v]];have et:(S++[O.tup [.str v]])[S.length]?=some (.tup [.str v]):=gM;have r1:=h0.setNp hv (-2);have st1:cO (S++[O.tup [.str v]]) g ((S++[O.tup [.str v]]).set (g.at_ v) (Qn g v (-2))) {g with np:=upd g.np v (-2)}:=cO.set _ (.inr (.inr (.inl ⟨v,hv,.inl rfl⟩))) (λ _ h=>h) rfl;generalize hS1:(S++[O.tup [.str v]]).set (g.at_ v) (Qn g v (-2))=S1 at*;have esu:S1[g.sl v]?=some (.list ((g.su v).map .str)):=r1.suc v hv;obtain⟨Y',f1,p,S2,o6,o7,hp,rfl,r2,st2,-,-,es2⟩:=fK (f:=V.str) (ok:=aR (.ref (g.sl v)) ⟨cX (some (.ref g.i)) (some (.ref S.length)) (some (.ref g.d)) (some (.str v)) (some (.ref (g.at_ v))) (some (.int (-1))) none none,S1⟩) (body:=λ w Y=>fV (ao d) (aF ("successor":Str) w Y))
  (aa6 S1 g S.length v) (λ rest Y ⟨_,_,_,_,_,e,_,_,_,_,es⟩=>by rw[e];exact j8 esu es) (λ s rest Y hI=>Vq hr hv hI)
  (g.su v) ⟨cX (some (.ref g.i)) (some (.ref S.length)) (some (.ref g.d)) (some (.str v)) (some (.ref (g.at_ v))) (some (.int (-1))) none none,S1⟩
  ⟨(upd g.np v (-2),g.rl),S1,none,none,rfl,rfl,r1,.refl _ _,hl,hN,esu⟩
 obtain⟨ep,sa⟩:=qj r2 (L:=cX (some (.ref g.i)) (some (.ref S.length)) (some (.ref g.d)) (some (.str v)) (some (.ref (g.at_ v))) (some (.int (-1))) o6 o7) (x:=("_nfinished":Str)) (v:=.int (g.nf+1)) (rd:=g.rd) (po:=g.po) (nf:=g.nf+1) (by kernel_rfl) (λ ep=>af6 ..);replace hp:p=(g.su v).foldl gW (upd g.np v (-2),g.rl):=hp;have r3:=r2.setFld g.rd p.2 g.po (g.nf+1) ep (λ r' e=>r2.rdy r' e);have st3:cO S2 {g with np:=p.1,rl:=p.2} (S2.set g.fd (.dict (kI g.d g.rd g.po (g.nf+1)) ep)) {g with np:=p.1,rl:=p.2,nf:=g.nf+1}:=cO.set _ (.inl rfl) (λ _ h=>h) rfl;have hg:({g with np:=p.1,rl:=p.2,nf:=g.nf+1}:G)=Ls g v:=by rw[hp];rfl
 have stA:=(st1.trans st2).trans st3;have st:=(cO.push S [O.tup [.str v]] g).trans stA;rw[hg]at st;dsimp only[hg]at r3;simp only[hg]at r3;obtain⟨epd,ed⟩:=h0.dct;refine toG ⟨_,?_,r3,st⟩;have gt:=λ L=>h0.get (L:=L) v
 rw[if_pos hv]at gt;have anp:=λ L=>h0.a_np (L:=L) hv
 rw[hnp]at anp;have snp:=λ L=>h0.s_np (L:=L) hv (-2)
 rw[hS1]at snp;have n1:∀Y,nj (.int (-1)) (.int (-1)) Y=some false:=λ Y=>rfl
 have q4:wX (ao d) ⟨cX (some (.ref g.i)) (some (.ref S.length)) (some (.ref g.d)) (some (.str v)) (some (.ref (g.at_ v))) (some (.int (-1))) none none,S1⟩=.ok .next ⟨cX (some (.ref g.i)) (some (.ref S.length)) (some (.ref g.d)) (some (.str v)) (some (.ref (g.at_ v))) (some (.int (-1))) o6 o7,S2⟩:=by
  simp only[wX,aai,ak.bind_ok,(λ L=>r1.a_su (L:=L) hv),fC,(λ L=>cY (L:=L) esu (by rw[List.length_map];exact aD (by lia))),f1];rfl
 have body:uH (ao d) ⟨cX (some (.ref g.i)) (some (.ref S.length)) (some (.ref g.d)) (some (.str v)) none none none none,S++[O.tup [.str v]]⟩=.ok .next ⟨cX (some (.ref g.i)) (some (.ref S.length)) (some (.ref g.d)) (some (.str v)) (some (.ref (g.at_ v))) (some (.int (-1))) o6 o7,S2.set g.fd (.dict (kI g.d g.rd g.po (g.nf+1)) ep)⟩:=by
  simp only[uH,Ez,EY,Fb,Fd,O8,afA,aai,afD,afC,afE,ak.bind_ok,(λ live args L=>BP (cl:=ao d) (live:=live) (args:=args) (L:=L) ed),gt,gB,aA,Bool.false_eq_true,if_false,aB,anp,n1,snp,q4];simp only[Fe,HS,ak.bind_ok,(λ L=>r2.a_nf (L:=L)),vd,sa,aB]
 have q2:Pj (ao d) ⟨cX (some (.ref g.i)) (some (.ref S.length)) (some (.ref g.d)) none none none none none,S++[O.tup [.str v]]⟩=.ok .next ⟨cX (some (.ref g.i)) (some (.ref S.length)) (some (.ref g.d)) (some (.str v)) (some (.ref (g.at_ v))) (some (.int (-1))) o6 o7,S2.set g.fd (.dict (kI g.d g.rd g.po (g.nf+1)) ep)⟩:=by
  simp only[Pj,afy,ak.bind_ok,fC,(λ L=>gw (L:=L) et rfl),(Br (ok:=aR (.ref S.length) ⟨cX (some (.ref g.i)) (some (.ref S.length)) (some (.ref g.d)) none none none none none,S++[O.tup [.str v]]⟩) (body:=λ w Y=>uH (ao d) (aF ("node":Str) w Y)) (v:=.str v) (Y:=⟨cX (some (.ref g.i)) (some (.ref S.length)) (some (.ref g.d)) none none none none none,S++[O.tup [.str v]]⟩) (d8 et et) ((congrArg (uH (ao d)) (afB ..)).trans body) (d8 et (stA.keep _ _ et (bV h))))];rfl
 simp only[ahe,aaA,aaB,HS,afz,ak.bind_ok,h0.a_rd' hr,gB,aA,Bool.false_eq_true,if_false,aB,h0.a_n2i,q2,Aq]
def Cyc(su:Str->List Str)(N:List Str):Prop:=∃C:List Str,C≠[]/\∀v∈C,v∈N/\∃p∈C,v∈su p
def Ch(su:Str->List Str)(F:List Str):List (Str×Nat)->Option Str->Prop
 |[],_=>True
 |e::r,c=>(∀s∈(su e.1).take e.2,s∈F\/some s=((r.head?.map (·.1)).or c))/\(∀x,((r.head?.map (·.1)).or c)=some x->x∈su e.1)/\Ch su F r c
def acR(su:Str->List Str)(F:List Str):Prop:=∀A f B,F=A++f::B->∀s∈su f,s∈A
structure xK(su:Str->List Str)(N:List Str)(stk:List (Str×Nat))(seen F:List Str)(c:Option Str):Prop where
 ch:Ch su F stk c
 sn:∀s,s∈seen↔s∈F\/s∈stk.map (·.1)
 nds:(F++stk.map (·.1)).Nodup
 sub:∀s∈F++stk.map (·.1),s∈N
 topo:acR su F
noncomputable def tD(su:Str->List Str)(N seen:List Str):Nat:=((N.filter λ v=>decide (v∉seen)).map λ v=>(su v).length).sum
noncomputable def ql(su:Str->List Str)(stk:List (Str×Nat)):Nat:=(stk.map λ e=>(su e.1).length - e.2).sum
def pot(su:Str->List Str)(N:List Str)(stk:List (Str×Nat))(seen:List Str):Nat:=tD su N seen+ql su stk
variable {su:Str->List Str}{N:List Str}
theorem Ch.mono{F F':List Str}(h:∀s∈F,s∈F'):∀{stk:List (Str×Nat)}{c:Option Str},Ch su F stk c->Ch su F' stk c:=by
 intro stk;induction stk with
 |nil=>exact λ _=>trivial
 |cons e r ih=>exact λ⟨a,b,c⟩=>⟨λ s hs=>(a s hs).imp (h s) id,b,ih c⟩
theorem Ch.skip{F:List Str}{x:Str}(hx:x∈F):∀{stk:List (Str×Nat)},Ch su F stk (some x)->Ch su F stk none:=by
 intro stk;induction stk with
 |nil=>exact λ _=>trivial
 |cons e r ih=>
  rcases r with _|⟨e',r⟩
  ·exact λ⟨a,b,c⟩=>⟨λ s hs=>(a s hs).elim .inl λ q=>by cases q;exact .inl hx,nofun,trivial⟩
  ·exact λ⟨a,b,c⟩=>⟨a,b,ih c⟩
theorem Ch.push{F:List Str}{x:Str}:∀{stk:List (Str×Nat)},Ch su F stk (some x)->Ch su F (stk++[(x,0)]) none:=by
 intro stk;induction stk with
 |nil=>exact λ _=>⟨nofun,nofun,trivial⟩
 |cons e r ih=>
  rcases r with _|⟨e',r⟩
  ·exact λ⟨a,b,c⟩=>⟨a,b,nofun,nofun,trivial⟩
  ·exact λ⟨a,b,c⟩=>⟨a,b,ih c⟩
theorem Ch.next{F:List Str}{v x:Str}{p:Nat}(hx:(su v)[p]?=some x):∀{ini:List (Str×Nat)},Ch su F (ini++[(v,p)]) none->Ch su F (ini++[(v,p+1)]) (some x):=by
 intro ini;induction ini with
 |nil=>
  rintro⟨a,_,_⟩;refine⟨λ s hs=>?_,λ y q=>?_,trivial⟩
  ·have e:(su v).take (p+1)=(su v).take p++[x]:=by rw[List.take_add_one,hx];rfl
   rw[e]at hs;rcases List.mem_append.mp hs with hs|hs
   ·rcases a s hs with q|q
    ·exact .inl q
    ·contradiction
   ·rw[List.mem_singleton.mp hs];exact .inr rfl
  ·cases q;exact List.mem_of_getElem? hx
 |cons e r ih=>
  rcases r with _|⟨e',r⟩
  ·exact λ⟨a,b,c⟩=>⟨a,b,ih c⟩
  ·exact λ⟨a,b,c⟩=>⟨a,b,ih c⟩
theorem Ch.pop{F:List Str}{v:Str}{p:Nat}:∀{ini:List (Str×Nat)},Ch su F (ini++[(v,p)]) none->Ch su (F++[v]) ini none:=by
 intro ini;induction ini with
 |nil=>exact λ _=>trivial
 |cons e r ih=>
  rcases r with _|⟨e',r⟩
  ·exact λ⟨a,b,c⟩=>⟨λ s hs=>(a s hs).elim (λ q=>.inl (List.mem_append_left _ q)) λ q=>by cases q;exact .inl (by simp),nofun,trivial⟩
  ·exact λ⟨a,b,c⟩=>⟨λ s hs=>(a s hs).imp (List.mem_append_left _) id,b,ih c⟩
theorem Ch.top{F:List Str}{v:Str}{p:Nat}:∀{ini:List (Str×Nat)},Ch su F (ini++[(v,p)]) none->∀s∈(su v).take p,s∈F
 |[],⟨a,_,_⟩=>λ s hs=>(a s hs).elim id nofun
 |[e],⟨_,_,c⟩=>Ch.top (ini:=[]) c
 |e::e'::r,⟨_,_,c⟩=>Ch.top (ini:=e'::r) c
theorem Ch.ring{F:List Str}{x:Str}:∀{stk:List (Str×Nat)},Ch su F stk (some x)->x∈stk.map (·.1)->∃C:List Str,C≠[]/\(∀v∈C,v∈stk.map (·.1))/\∀v∈C,∃p∈C,v∈su p:=by
 intro stk;induction stk with
 |nil=>exact nofun
 |cons e r ih0=>
  rintro⟨a,b,c⟩ h;by_cases hr:x∈r.map (·.1)
  ·obtain⟨C,h1,h2,h3⟩:=ih0 c hr;exact⟨C,h1,λ v hv=>List.mem_cons_of_mem _ (h2 v hv),h3⟩
  ·have he:x=e.1:=by
    exact(List.mem_cons.mp h).resolve_right hr
   have go:∀(r:List (Str×Nat)) (e:Str×Nat),Ch su F (e::r) (some x)->(∀v∈r.map (·.1),∃p∈(e::r).map (·.1),v∈su p)/\∃p∈(e::r).map (·.1),x∈su p:=by as_aux_lemma=>
    intro r;induction r with
    |nil=>exact λ e ⟨a,b,c⟩=>⟨nofun,e.1,by simp,b x rfl⟩
    |cons e' r ih=>
     rintro e ⟨a,b,c⟩;obtain⟨h1,p,h2,h3⟩:=ih e' c;refine⟨λ v hv=>?_,p,List.mem_cons_of_mem _ h2,h3⟩;rcases List.mem_cons.mp hv with rfl|hv
     ·exact⟨e.1,by simp,b _ rfl⟩
     ·obtain⟨q,h4,h5⟩:=h1 v hv;exact⟨q,List.mem_cons_of_mem _ h4,h5⟩
   obtain⟨h1,h2⟩:=go r e ⟨a,b,c⟩;refine⟨(e::r).map (·.1),by simp,λ v hv=>hv,λ v hv=>?_⟩;rw[List.map_cons]at hv;rcases List.mem_cons.mp hv with rfl|hv
   ·rw[<-he];exact h2
   ·exact h1 v hv
theorem Lx{x:Str}{seen:List Str}(hN:N.Nodup)(hx:x∈N)(hs:x∉seen):tD su N seen=(su x).length+tD su N (seen++[x]):=by
 unfold tD;induction N with
 |nil=>contradiction
 |cons v N ih=>
  have e:∀w,w≠x->decide (w∉seen++[x])=decide (w∉seen):=λ w hw=>by simp[hw]
  simp only[List.filter_cons];by_cases h:v=x
  ·clear ih hx;subst h;rw[if_pos (by simpa using hs)];rw[List.filter_congr (λ w hw=>e w (λ q=>((List.nodup_cons.mp hN).1) (q▸hw)))];simp
  ·have hx':x∈N:=(List.mem_cons.mp hx).resolve_left λ q=>h q.symm
   have ih:=ih (List.nodup_cons.mp hN).2 hx';rw[e v h];split
   ·rw[List.map_cons,List.sum_cons,List.map_cons,List.sum_cons,ih];lia
   ·exact ih
theorem xM(a b:List (Str×Nat)):ql su (a++b)=ql su a+ql su b:=by unfold ql;rw[List.map_append,List.sum_append]
theorem FW(v:Str)(p:Nat):ql su [(v,p)]=(su v).length - p:=by simp[ql]
theorem acR.snoc{F:List Str}{v:Str}(h:acR su F)(hv:∀s∈su v,s∈F):acR su (F++[v]):=λ A f B e s hs=>by
 induction hB:B.getLast? with
 |none=>
  rw[List.getLast?_eq_none_iff.mp hB]at e;have:=List.append_inj' e rfl;clear e;cases this.2;rw[<-this.1];exact hv s hs
 |some z=>
  obtain⟨q,rfl⟩:∃q,B=q++[z]:=by
   have hn:B≠[]:=λ q=>by rw[q]at hB;contradiction
   rw[List.getLast?_eq_some_getLast hn]at hB;exact⟨B.dropLast,by rw[<-Option.some.inj hB,List.dropLast_concat_getLast hn]⟩
  have:=List.append_inj' (show F++[v]=(A++f::q)++[z]by rw[e];simp) rfl;exact h A f q this.1 s hs
namespace xK
variable {stk:List (Str×Nat)}{seen F:List Str}
theorem skip{x:Str}(h:xK su N stk seen F (some x))(hx:x∈F):xK su N stk seen F none:=⟨h.ch.skip hx,h.sn,h.nds,h.sub,h.topo⟩
theorem push{x:Str}(h:xK su N stk seen F (some x))(hx:x∉seen)(hN:x∈N):xK su N (stk++[(x,0)]) (seen++[x]) F none:=by
 refine⟨h.ch.push,λ s=>?_,?_,λ s hs=>?_,h.topo⟩
 ·rw[List.mem_append,h.sn,List.map_append,List.mem_append,or_assoc];rfl
 ·rw[List.map_append,<-List.append_assoc];refine List.nodup_append.mpr ⟨h.nds,by simp,λ a ha b hb q=>?_⟩;rw[List.map_singleton,List.mem_singleton]at hb;rw[hb]at q;rw[q]at ha;exact hx ((h.sn x).mpr (List.mem_append.mp ha))
 ·rw[List.map_append,<-List.append_assoc]at hs;rcases List.mem_append.mp hs with hs|hs
  ·exact h.sub s hs
  ·rw[List.mem_singleton.mp hs];exact hN
set_option tactic.hygienic true in
theorem next{ini:List (Str×Nat)}{v x:Str}{p:Nat}(h:xK su N (ini++[(v,p)]) seen F none)(hx:(su v)[p]?=some x):xK su N (ini++[(v,p+1)]) seen F (some x):=by
 have e:(ini++[(v,p+1)]).map (·.1)=(ini++[(v,p)]).map (·.1):=by simp
 exact⟨h.ch.next hx,λ s=>by rw[e];exact h.sn s,by rw[e];exact h.nds,by rw[e];exact h.sub,h.topo⟩
theorem pop{ini:List (Str×Nat)}{v:Str}{p:Nat}(h:xK su N (ini++[(v,p)]) seen F none)(hp:(su v).length<=p):xK su N ini seen (F++[v]) none:=by
 have top:=h.ch.top;rw[List.take_of_length_le hp]at top;have hn:=h.nds;rw[List.map_append]at hn;have perm:(F++(ini.map (·.1)++[v])).Perm ((F++[v])++ini.map (·.1)):=by
  rw[List.append_assoc];exact List.Perm.append_left _ List.perm_append_comm
 refine⟨h.ch.pop,λ s=>?_,perm.nodup_iff.mp hn,λ s hs=>h.sub s (by rw[List.map_append];exact perm.mem_iff.mpr hs),h.topo.snoc top⟩;rw[h.sn,List.map_append,<-List.mem_append,<-List.mem_append];exact perm.mem_iff
theorem cyc{x:Str}(h:xK su N stk seen F (some x))(hx:x∈stk.map (·.1)):Cyc su N:=by
 obtain⟨C,h1,h2,h3⟩:=h.ch.ring hx;exact⟨C,h1,λ v hv=>⟨h.sub v (List.mem_append_right _ (h2 v hv)),h3 v hv⟩⟩
theorem done(h:xK su N [] seen F none)(hN:∀v∈N,v∈seen):¬ Cyc su N:=by
 rintro⟨C,h1,h2⟩;have hF:∀v∈C,v∈F:=λ v hv=>((h.sn v).mp (hN v (h2 v hv).1)).elim id nofun
 have last:∀F:List Str,(∃x∈F,x∈C)->∃A f B,F=A++f::B/\f∈C/\∀b∈B,b∉C:=by
  intro F;induction F with
  |nil=>rintro⟨x,h,_⟩;contradiction
  |cons a F ih=>
   rintro⟨x,hx,hc⟩;by_cases q:∃x∈F,x∈C
   ·obtain⟨A,f,B,e,h1,h2⟩:=ih q;exact⟨a::A,f,B,by rw[e];rfl,h1,h2⟩
   ·rcases List.mem_cons.mp hx with rfl|hx
    ·exact⟨[],x,F,rfl,hc,λ b hb hbc=>q ⟨b,hb,hbc⟩⟩
    ·exact absurd ⟨x,hx,hc⟩ q
 obtain⟨c0,hc0⟩:=List.exists_mem_of_ne_nil C h1;obtain⟨A,f,B,e,hf,hB⟩:=last F ⟨c0,hF c0 hc0,hc0⟩;obtain⟨_,p,hp,hfp⟩:=h2 f hf;have nd:=h.nds;rw[List.map_nil,List.append_nil,e]at nd;have nA:f∉A:=λ q=>(List.nodup_append.mp nd).2.2 f q f List.mem_cons_self rfl
 have hpF:=hF p hp;rw[e]at hpF;rcases List.mem_append.mp hpF with hpF|hpF
 ·obtain⟨A1,A2,rfl⟩:=List.append_of_mem hpF;exact nA (List.mem_append_left _ (h.topo A1 p (A2++f::B) (by rw[e];simp) f hfp))
 ·rcases List.mem_cons.mp hpF with rfl|hpB
  ·exact nA (h.topo A p B e p hfp)
  ·exact hB p hpB hp
end xK
structure gC where
 nm:Str
 ps:Nat
 it:Nat
 bn:Nat
noncomputable def BZ(stk:List gC):List (Str×Nat):=stk.map λ e=>(e.nm,e.ps)
theorem Qs(stk:List gC):(BZ stk).map (·.1)=stk.map (·.nm):=by simp[BZ]
noncomputable def vD(stk:List gC):List (Str×V):=stk.zipIdx.map λ p=>(p.1.nm,.int (p.2:Nat))
structure vy(S T:List O)(g:G)(stk:List gC)(seen:List Str):Prop where
 pre:S <+: T
 st:T[S.length]?=some (.list ((stk.map (·.nm)).map .str))
 is:T[S.length+1]?=some (.list (stk.map λ e=>.ref e.bn))
 se:T[S.length+2]?=some (.set seen)
 n2:∃ep,T[S.length+3]?=some (.dict (vD stk) ep)
 en:∀e∈stk,T[e.it]?=some (.liter (g.sl e.nm) e.ps)/\T[e.bn]?=some (.bnext e.it)
 di:(stk.map (·.it)).Nodup
 big:∀e∈stk,S.length<=e.it
theorem iU{S T:List O}{i:Nat}(h:S <+: T)(hi:S.length<=i)(o:O):S <+: T.set i o:=by
 obtain⟨X,rfl⟩:=h;rw[List.set_append,if_neg (by lia)];exact List.prefix_append ..
theorem IW{S T:List O}{g:G}(h:bR S g)(p:S <+: T):bR T g:=by obtain⟨X,rfl⟩:=p;exact h.push X
theorem bw{S:List O}{a b:Nat}{o y:O}(h:a≠b)(e:S[b]?=some y):(S.set a o)[b]?=some y:=by rw[List.getElem?_set_ne h];exact e
theorem vz(stk:List gC)(e:gC):vD (stk++[e])=vD stk++[(e.nm,.int (stk.length:Nat))]:=by
 unfold vD;rw[List.zipIdx_append,List.map_append,Nat.zero_add];rfl
theorem vA(x:Str)(stk:List gC):(vD stk).any (λ p=>p.1==x)=decide (x∈stk.map (·.nm)):=by
 unfold vD;simp only[List.any_map];have:∀(stk:List gC) (k:Nat),(stk.zipIdx k).any ((λ p:Str×V=>p.1==x)∘λ p=>(p.1.nm,.int (p.2:Nat)))=decide (x∈stk.map (·.nm)):=by
  intro stk;induction stk with
  |nil=>intro k;rfl
  |cons e r ih=>
   intro k;simp only[List.zipIdx_cons,List.any_cons,ih];by_cases h:e.nm=x
   ·simp[h]
   ·have:(e.nm==x)=false:=beq_eq_false_iff_ne.mpr h;simp[this,Ne.symm h]
 exact this stk 0
theorem Qt{x:Str}{stk:List gC}(h:x∈stk.map (·.nm)):∃j:Nat,(vD stk).lookup x=some (.int j)/\j < stk.length:=by
 have:∀(stk:List gC) (k:Nat),x∈stk.map (·.nm)->∃j:Nat,((stk.zipIdx k).map λ p=>(p.1.nm,V.int (p.2:Nat))).lookup x=some (.int j)/\j < k+stk.length:=by
  intro stk;induction stk with
  |nil=>intro k h;contradiction
  |cons e r ih=>
   intro k h;rw[List.zipIdx_cons,List.map_cons,List.lookup_cons];by_cases q:x=e.nm
   ·rw[show(x==(e,k).1.nm)=true by rw[q];exact beq_self_eq_true _];exact⟨k,rfl,by rw[List.length_cons];simp⟩
   ·have hb:(x==e.nm)=false:=beq_eq_false_iff_ne.mpr q;rw[hb];obtain⟨j,h1,h2⟩:=ih (k+1) ((List.mem_cons.mp h).resolve_left q);exact⟨j,h1,by rw[List.length_cons];lia⟩
 obtain⟨j,h1,h2⟩:=this stk 0 h;exact⟨j,h1,by lia⟩
theorem acS{stk:List gC}{e:gC}(h:e.nm∉stk.map (·.nm)):(vD (stk++[e])).filter (λ p=>!(p.1==e.nm))=vD stk:=by
 simp only[vz,List.filter_append];have h1:(vD stk).filter (λ p=>!(p.1==e.nm))=vD stk:=by
  refine List.filter_eq_self.mpr λ p hp=>?_
  have:=vA e.nm stk;rw[decide_eq_false h]at this;have:=List.any_eq_false.mp this p hp;simpa using this
 rw[h1];simp
theorem vy.push{S T:List O}{g:G}{stk:List gC}{seen:List Str}(h:vy S T g stk seen){x:Str}(hx:x∉stk.map (·.nm)){ep:Nat}(e3:T[S.length+3]?=some (.dict (vD stk) ep)):
  vy S (((((T.set (S.length+2) (O.set (seen++[x])))++[O.liter (g.sl x) 0]++[O.bnext T.length]).set (S.length+1) (O.list ((stk.map λ e:gC=>V.ref e.bn)++[V.ref (T.length+1)]))).set (S.length+3) (O.dict (vD stk++[(x,V.int (stk.length:Nat))]) (ep+1))).set S.length (O.list ((stk.map λ e:gC=>e.nm).map V.str++[V.str x]))) g (stk++[⟨x,0,T.length,T.length+1⟩]) (seen++[x]):=by
 have l3:=aQ e3;have hlen:(T.set (S.length+2) (O.set (seen++[x]))).length=T.length:=List.length_set;generalize hT1:T.set (S.length+2) (O.set (seen++[x]))=T1 at*;have ke:∀e∈stk,T1[e.it]?=some (.liter (g.sl e.nm) e.ps)/\T1[e.bn]?=some (.bnext e.it):=λ e he=>by
  rw[<-hT1];exact⟨aJ _ h.se (h.en e he).1 nofun,aJ _ h.se (h.en e he).2 nofun⟩
 have m0:=au (J:=[O.bnext T.length]) (au (J:=[O.liter (g.sl x) 0]) (by rw[<-hT1];exact bw (by lia) h.st:T1[S.length]?=some (.list ((stk.map (·.nm)).map .str))));have m1:=au (J:=[O.bnext T.length]) (au (J:=[O.liter (g.sl x) 0]) (by rw[<-hT1];exact bw (by lia) h.is:T1[S.length+1]?=some (.list (stk.map λ e=>.ref e.bn))));have m2:=au (J:=[O.bnext T.length]) (au (J:=[O.liter (g.sl x) 0]) (by rw[<-hT1];exact iJ _ h.se:T1[S.length+2]?=some (.set (seen++[x]))));have m3:=au (J:=[O.bnext T.length]) (au (J:=[O.liter (g.sl x) 0]) (by rw[<-hT1];exact bw (by lia) e3:T1[S.length+3]?=some (.dict (vD stk) ep)));have mi:(T1++[O.liter (g.sl x) 0]++[O.bnext T.length])[T.length]?=some (.liter (g.sl x) 0):=by rw[<-hlen];exact au (aP _)
 have mb:(T1++[O.liter (g.sl x) 0]++[O.bnext T.length])[T.length+1]?=some (.bnext T.length):=by
  have:=aP (S:=T1++[O.liter (g.sl x) 0]) (.bnext T.length);rw[List.length_append,hlen]at this;exact this
 have me:∀e∈stk,(T1++[O.liter (g.sl x) 0]++[O.bnext T.length])[e.it]?=some (.liter (g.sl e.nm) e.ps)/\(T1++[O.liter (g.sl x) 0]++[O.bnext T.length])[e.bn]?=some (.bnext e.it):=λ e he=>⟨au (au (ke e he).1),au (au (ke e he).2)⟩
 have pre2:=eG (eG (by rw[<-hT1];exact iU h.pre (by simp) _:S <+: T1) [O.liter (g.sl x) 0]) [O.bnext T.length];generalize T1++[O.liter (g.sl x) 0]++[O.bnext T.length]=U at*;have go:∀{i:Nat}{y:O},U[i]?=some y->i≠S.length->i≠S.length+1->i≠S.length+3->(((U.set (S.length+1) (O.list ((stk.map λ e:gC=>V.ref e.bn)++[V.ref (T.length+1)]))).set (S.length+3) (O.dict (vD stk++[(x,V.int (stk.length:Nat))]) (ep+1))).set S.length (O.list ((stk.map λ e:gC=>e.nm).map V.str++[V.str x])))[i]?=some y:=λ e a b c=>bw (Ne.symm a) (bw (Ne.symm c) (bw (Ne.symm b) e))
 have lU1:=aQ m1;have lU3:=aQ m3;have kind:∀{i:Nat}{l p:Nat},U[i]?=some (.liter l p)->i≠S.length/\i≠S.length+1/\i≠S.length+3:=λ e=>⟨dM e m0 nofun,dM e m1 nofun,dM e m3 nofun⟩
 have kindb:∀{i:Nat}{l:Nat},U[i]?=some (.bnext l)->i≠S.length/\i≠S.length+1/\i≠S.length+3:=λ e=>⟨dM e m0 nofun,dM e m1 nofun,dM e m3 nofun⟩
 refine⟨iU (iU (iU pre2 (by simp) _) (by simp) _) (by simp) _,?_,?_,?_,⟨ep+1,?_⟩,?_,?_,?_⟩
 ·rw[List.getElem?_set_self (by rw[List.length_set,List.length_set];exact(aQ m0)),List.map_append,List.map_append];rfl
 ·rw[List.getElem?_set_ne (by lia),List.getElem?_set_ne (by simp),List.getElem?_set_self lU1,List.map_append];rfl
 ·exact go m2 (by lia) (by lia) (by lia)
 ·rw[List.getElem?_set_ne (by lia),List.getElem?_set_self (by rw[List.length_set];exact lU3),vz]
 ·intro e he;rcases List.mem_append.mp he with he|he
  ·obtain⟨a,b,c⟩:=kind (me e he).1;obtain⟨a',b',c'⟩:=kindb (me e he).2;exact⟨go (me e he).1 a b c,go (me e he).2 a' b' c'⟩
  ·rw[List.mem_singleton.mp he];obtain⟨a,b,c⟩:=kind mi;obtain⟨a',b',c'⟩:=kindb mb;exact⟨go mi a b c,go mb a' b' c'⟩
 ·rw[List.map_append];refine List.nodup_append.mpr ⟨h.di,by simp,λ p hp q hq e=>?_⟩;rw[List.map_singleton,List.mem_singleton]at hq;obtain⟨e',he',rfl⟩:=List.mem_map.mp hp;replace hq:q=T.length:=hq;have:=aQ (h.en e' he').1;lia
 ·intro e he;rcases List.mem_append.mp he with he|he
  ·exact h.big e he
  ·rw[List.mem_singleton.mp he];show S.length<=T.length;lia
theorem vy.next{S T:List O}{g:G}{ini:List gC}{e:gC}{seen:List Str}(h:vy S T g (ini++[e]) seen):vy S (T.set e.it (.liter (g.sl e.nm) (e.ps+1))) g (ini++[⟨e.nm,e.ps+1,e.it,e.bn⟩]) seen:=by
 have he:=h.en e iZ;obtain⟨ep,e3⟩:=h.n2;have hbig:=h.big e iZ;refine⟨iU h.pre hbig _,?_,?_,aJ _ he.1 h.se nofun,⟨ep,?_⟩,λ e' he'=>?_,by rw[(by rw[List.map_append,List.map_append];rfl:(ini++[(⟨e.nm,e.ps+1,e.it,e.bn⟩:gC)]).map (·.it)=(ini++[e]).map (·.it))];exact h.di,λ e' he'=>?_⟩
 ·rw[(by rw[List.map_append,List.map_append];rfl:(ini++[(⟨e.nm,e.ps+1,e.it,e.bn⟩:gC)]).map (·.nm)=(ini++[e]).map (·.nm))];exact aJ _ he.1 h.st nofun
 ·rw[(by rw[List.map_append,List.map_append];rfl:(ini++[(⟨e.nm,e.ps+1,e.it,e.bn⟩:gC)]).map (λ e=>V.ref e.bn)=(ini++[e]).map (λ e=>V.ref e.bn))];exact aJ _ he.1 h.is nofun
 ·rw[(by rw[vz,vz]:vD (ini++[(⟨e.nm,e.ps+1,e.it,e.bn⟩:gC)])=vD (ini++[e]))];exact aJ _ he.1 e3 nofun
 ·rcases List.mem_append.mp he' with he'|he'
  ·have h2:=h.en e' (List.mem_append_left _ he');have hne:e.it≠e'.it:=λ q=>by
    have hd:=h.di;rw[List.map_append]at hd;exact(List.nodup_append.mp hd).2.2 e'.it (List.mem_map.mpr ⟨e',he',rfl⟩) e.it (by simp) q.symm
   exact⟨bw hne h2.1,aJ _ he.1 h2.2 nofun⟩
  ·rw[List.mem_singleton.mp he'];exact⟨iJ _ he.1,aJ _ he.1 he.2 nofun⟩
 ·rcases List.mem_append.mp he' with he'|he'
  ·exact h.big e' (List.mem_append_left _ he')
  ·rw[List.mem_singleton.mp he'];exact hbig
theorem vy.pop{S T:List O}{g:G}{ini:List gC}{e:gC}{seen:List Str}(h:vy S T g (ini++[e]) seen)(ep:Nat):
  vy S ((((T.set e.it O.any).set S.length (O.list ((ini.map λ e:gC=>e.nm).map V.str))).set (S.length+3) (O.dict (vD ini) ep)).set (S.length+1) (O.list (ini.map λ e:gC=>V.ref e.bn))) g ini seen:=by
 have he:=h.en e iZ;obtain⟨ep0,e3⟩:=h.n2;have k0:=aJ .any he.1 h.st nofun;have k1:=aJ .any he.1 h.is nofun;have k3:=aJ .any he.1 e3 nofun;have ke:∀e'∈ini,(T.set e.it O.any)[e'.it]?=some (.liter (g.sl e'.nm) e'.ps)/\(T.set e.it O.any)[e'.bn]?=some (.bnext e'.it):=λ e' he'=>by
  have h2:=h.en e' (List.mem_append_left _ he');have hne:e.it≠e'.it:=λ q=>by
   have hd:=h.di;rw[List.map_append]at hd;exact(List.nodup_append.mp hd).2.2 e'.it (List.mem_map.mpr ⟨e',he',rfl⟩) e.it (by simp) q.symm
  exact⟨bw hne h2.1,aJ _ he.1 h2.2 nofun⟩
 have pre:=iU h.pre (h.big e iZ) .any;have l1:=aQ k1;have l3:=aQ k3;refine⟨iU (iU (iU pre (by simp) _) (by simp) _) (by simp) _,?_,?_,?_,⟨ep,?_⟩,λ e' he'=>?_,?_,λ e' he'=>h.big e' (List.mem_append_left _ he')⟩
 ·rw[List.getElem?_set_ne (by simp),List.getElem?_set_ne (by simp),List.getElem?_set_self (aQ k0)]
 ·rw[List.getElem?_set_self (by rw[List.length_set,List.length_set];exact l1)]
 ·exact bw (by simp) (bw (by simp) (bw (by simp) (aJ .any he.1 h.se nofun)))
 ·rw[List.getElem?_set_ne (by simp),List.getElem?_set_self (by rw[List.length_set];exact l3)]
 ·have h2:=ke e' he';exact⟨bw (Ne.symm (dM h2.1 k1 nofun)) (bw (Ne.symm (dM h2.1 k3 nofun)) (bw (Ne.symm (dM h2.1 k0 nofun)) h2.1)),bw (Ne.symm (dM h2.2 k1 nofun)) (bw (Ne.symm (dM h2.2 k3 nofun)) (bw (Ne.symm (dM h2.2 k0 nofun)) h2.2))⟩
 ·have hd:=h.di;rw[List.map_append]at hd;exact(List.nodup_append.mp hd).1
section
variable {L:List (Str×Option V)}{S:List O}{n:Nat}
theorem I4{xs:List Str}(e:S[n]?=some (.set xs))(hl:xs.length < 4001)(x:Str):inM (.str x) (.ref n) ⟨L,S⟩=some (decide (x∈xs)):=(bB e).trans ((if_pos (decide_eq_true hl)).trans (congrArg some (List.contains_eq_mem ..)))
theorem RB{kvs:List (Str×V)}{ep:Nat}(e:S[n]?=some (.dict kvs ep))(x:Str):inM (.str x) (.ref n) ⟨L,S⟩=some (kvs.any λ p=>p.1==x):=bB e
theorem aa8{cl:Nat->List V->St->ak V}{live:Bool}{args:St->ak (List V)}{xs:List Str}(e:S[n]?=some (.set xs)):aV cl live ("add":Str) args (.ref n) ⟨L,S⟩=(args ⟨L,S⟩).bind λ vs Y=>cD .add (.ref n) vs Y:=by
 unfold aV;rw[show iM (.ref n) ("add":Str) ⟨L,S⟩=some (.bi .add)from(bB e).trans (congrArg (Option.map nq.bi) (by kernel_rfl:zx.lookup ("add":Str)=some .add))]
theorem acT{xs:List Str}(e:S[n]?=some (.set xs))(hl:xs.length < 4000)(hk:8<=n){x:Str}(hx:x∉xs):cD .add (.ref n) [.str x] ⟨L,S⟩=.ok .none ⟨L,S.set n (.set (xs++[x]))⟩:=by
 refine(cA e).trans ((if_pos (decide_eq_true ⟨rfl,hl⟩)).trans ((if_pos hk).trans ?_));rw[if_neg (by rw[List.contains_eq_mem];simpa using hx)];rfl
theorem Vs{cl}{xs:List V}(e:S[n]?=some (.list xs)):b8 cl .iter [.ref n] ⟨L,S⟩=.ok (.ref S.length) ⟨L,S++[.liter n 0]⟩:=by
 refine(cA (bZ e)).trans ?_;rfl
theorem Vt{l i:Nat}(e:S[n]?=some (.liter l i)):bJ (.ref n) ("__next__":Str) ⟨L,S⟩=.ok (.ref S.length) ⟨L,S++[.bnext n]⟩:=by
 refine(cA e).trans ?_;rfl
theorem Vu{it l i:Nat}{xs:List V}(e:S[n]?=some (.bnext it))(e1:S[it]?=some (.liter l i))(e2:S[l]?=some (.list xs))(hs:small xs.length=true)(hk:8<=it){v:V}(hv:xs[i]?=some v):Dd n ⟨L,S⟩=.ok v ⟨L,S.set it (.liter l (i+1))⟩:=by
 show onS ((S[n]?).bind O.bnext?) _=_;rw[e];show onS ((S[it]?).bind O.liter?) _=_;rw[e1];show onS (St.list? ⟨L,S⟩ l) _=_;rw[bZ e2];refine(if_pos hs).trans ?_;dsimp only[tL];rw[hv];exact if_pos hk
theorem Vv{it l i:Nat}{xs:List V}(e:S[n]?=some (.bnext it))(e1:S[it]?=some (.liter l i))(e2:S[l]?=some (.list xs))(hs:small xs.length=true)(hk:8<=it)(hv:xs[i]?=none):Dd n ⟨L,S⟩=.exc .stop ⟨L,S.set it .any⟩:=by
 show onS ((S[n]?).bind O.bnext?) _=_;rw[e];show onS ((S[it]?).bind O.liter?) _=_;rw[e1];show onS (St.list? ⟨L,S⟩ l) _=_;rw[bZ e2];refine(if_pos hs).trans ?_;unfold tL;rw[hv];exact if_pos hk
theorem aa9{kvs:List (Str×V)}{ep:Nat}{x:Str}(e:S[n]?=some (.dict kvs ep))(hs:small kvs.length=true)(hx:kvs.any (λ p=>p.1==x)=true)(hk:8<=n):tG (.ref n) (.str x) ⟨L,S⟩=.ok .none ⟨L,S.set n (.dict (kvs.filter λ p=>!(p.1==x)) (ep+1))⟩:=by
 show onS (St.dict? ⟨L,S⟩ n) _=_;rw[lV e];exact(if_pos (by rw[hs,hx];rfl)).trans (if_pos hk)
end
noncomputable abbrev dO(g:G)(a:Nat)(o:Option V):List (Str×Option V):=fU (some (.ref g.i)) (some (.ref g.d)) (some (.ref a)) (some (.ref (a+1))) (some (.ref (a+2))) (some (.ref (a+3))) o
section
variable {S T:List O}{g:G}{stk:List gC}{seen:List Str}{cl:Nat->List V->St->ak V}{o:Option V}
theorem abb(h:vy S T g stk seen)(hS:bR S g)(hk:8<=S.length){x:Str}(hx:x∉seen)(hN:x∈g.N)(hxs:x∉stk.map (·.nm))(hl:seen.length < 4000)(hl2:stk.length<=1000):
  ∃T',dH cl ⟨dO g S.length (some (.str x)),T⟩=.ok .next ⟨dO g S.length (some (.str x)),T'⟩/\vy S T' g (stk++[⟨x,0,T.length,T.length+1⟩]) (seen++[x]):=by
 obtain⟨ep,e3⟩:=h.n2;refine⟨_,?_,(h.push hxs e3)⟩;have i1:=λ L=>I4 (L:=L) h.se (by exact Nat.le_succ_of_le (by assumption)) x
 rw[decide_eq_false hx]at i1;have hnm:¬ jw g (S.length+2):=λ q=>by
  have lt:∀{a:Nat} {o},S[a]?=some o->a < S.length:=aQ;rcases q with q|q|⟨v,hv,q|q⟩|q
  ·obtain⟨ep,e⟩:=hS.fld;have:=lt e;lia
  ·obtain⟨ep,e⟩:=hS.dct;have:=lt e;lia
  ·have:=lt (hS.nod v hv);lia
  ·have:=lt (hS.suc v hv);lia
  ·have:=lt (hS.rdy _ q).2.1;lia
 have r1:bR (T.set (S.length+2) (O.set (seen++[x]))) g:=IW hS (iU h.pre (by simp) _);have hlen:(T.set (S.length+2) (O.set (seen++[x]))).length=T.length:=List.length_set;have k1:(T.set (S.length+2) (O.set (seen++[x])))[S.length+1]?=_:=bw (by simp) h.is;have ir:=λ L=>Vs (cl:=cl) (L:=L) (r1.suc x hN)
 have an:=λ L=>Vt (L:=L) (aP (S:=T.set (S.length+2) (O.set (seen++[x]))) (.liter (g.sl x) 0))
 have ap:=λ L=>gq (L:=L) (au (J:=[O.bnext (T.set (S.length+2) (O.set (seen++[x]))).length]) (au (J:=[O.liter (g.sl x) 0]) k1)) (by rw[List.length_map];exact aD (by lia)) (by exact Nat.le_succ_of_le (by assumption)) (.ref (T.set (S.length+2) (O.set (seen++[x]))++[O.liter (g.sl x) 0]).length)
 rw[List.length_append,hlen]at ap;replace ap:∀L,cD .append (.ref (S.length+1)) [.ref (T.length+1)] ⟨L,T.set (S.length+2) (O.set (seen++[x]))++[O.liter (g.sl x) 0]++[O.bnext T.length]⟩=.ok .none ⟨L,(T.set (S.length+2) (O.set (seen++[x]))++[O.liter (g.sl x) 0]++[O.bnext T.length]).set (S.length+1) (O.list ((stk.map λ e:gC=>V.ref e.bn)++[V.ref (T.length+1)]))⟩:=ap;rw[List.length_append,hlen]at an;rw[hlen]at ir;have n0:=bw (a:=S.length+1) (o:=O.list ((stk.map λ e:gC=>V.ref e.bn)++[V.ref (T.length+1)])) (by simp) (au (J:=[O.bnext T.length]) (au (J:=[O.liter (g.sl x) 0]) (bw (by lia) h.st:(T.set (S.length+2) (O.set (seen++[x])))[S.length]?=_)));have sz0:small ((stk.map λ e:gC=>e.nm).map V.str).length=true:=by rw[List.length_map,List.length_map];exact aD (by lia)
 have ll:=λ L=>mZ (L:=L) n0 sz0
 rw[List.length_map,List.length_map]at ll;have si:=λ L=>jy (L:=L) (bw (a:=S.length+1) (o:=O.list ((stk.map λ e:gC=>V.ref e.bn)++[V.ref (T.length+1)])) (by lia) (au (J:=[O.bnext T.length]) (au (J:=[O.liter (g.sl x) 0]) (bw (by lia) e3:(T.set (S.length+2) (O.set (seen++[x])))[S.length+3]?=_)))) (by rw[(by unfold vD;rw[List.length_map,List.length_zipIdx]:(vD stk).length=stk.length)];exact aD (by lia)) (by lia) x (.int (stk.length:Nat))
 have hd:cJ (vD stk) ep x (.int (stk.length:Nat))=.dict (vD stk++[(x,.int (stk.length:Nat))]) (ep+1):=by
  delta cJ lW
  rw[vA,decide_eq_false hxs,if_neg Bool.false_ne_true,if_neg Bool.false_ne_true]
 rw[hd]at si;have p0:=bw (a:=S.length+3) (o:=O.dict (vD stk++[(x,V.int (stk.length:Nat))]) (ep+1)) (by lia) n0;simp only[dH,rM,pC,pD,pF,pG,aam,wU,HX,Be,HY,Bf,ak.bind_ok,i1,aA,Bool.false_eq_true,if_false,(λ cl live args L=>aa8 (cl:=cl) (live:=live) (args:=args) (L:=L) h.se),(λ L=>acT (L:=L) h.se hl (by lia) hx),aB,(λ live args L=>dU (cl:=cl) (live:=live) (args:=args) (L:=L) k1),(λ L=>r1.item (L:=L) hN),bA,(λ L=>r1.a_su (L:=L) hN),ir,an,ap,ll,si,(λ live args L=>dU (cl:=cl) (live:=live) (args:=args) (L:=L) p0),(λ L=>gq (L:=L) p0 sz0 hk (.str x)),List.length_cons,List.length_nil]
theorem abd(h:vy S T g stk seen){x:Str}(hx:x∈seen)(hxs:x∉stk.map (·.nm))(hl:seen.length < 4000):dH cl ⟨dO g S.length (some (.str x)),T⟩=.ok .next ⟨dO g S.length (some (.str x)),T⟩:=by
 obtain⟨ep,e3⟩:=h.n2;have i1:=λ L=>I4 (L:=L) h.se (by exact Nat.le_succ_of_le (by assumption)) x
 simp only[decide_eq_true hx]at i1;have i2:=λ L=>RB (L:=L) e3 x
 simp only[vA,decide_eq_false hxs]at i2;simp only[dH,lN,jh,Be,HY,Bf,ak.bind_ok,i1,i2,aA,if_true,Bool.false_eq_true,if_false,aB]
theorem abe(h:vy S T g stk seen){x:Str}(hx:x∈seen)(hxs:x∈stk.map (·.nm))(hl:seen.length < 4000)(hl2:stk.length<=1000):
  ∃r J ys,dH cl ⟨dO g S.length (some (.str x)),T⟩=.ok (.ret (.ref r)) ⟨dO g S.length (some (.str x)),T++J⟩/\(T++J)[r]?=some (.list (ys++[.str x]))/\ys.length<=1000:=by
 obtain⟨ep,e3⟩:=h.n2;obtain⟨j,j1,j2⟩:=Qt hxs;have i1:=λ L=>I4 (L:=L) h.se (by exact Nat.le_succ_of_le (by assumption)) x
 simp only[decide_eq_true hx]at i1;have i2:=λ L=>RB (L:=L) e3 x
 simp only[vA,decide_eq_true hxs]at i2;have it:=λ L=>xJ (L:=L) e3 x
 simp only[j1]at it;refine⟨(T++[O.list (((stk.map λ e:gC=>e.nm).map V.str).drop j)]++[O.list [.str x]]).length,[.list (((stk.map λ e:gC=>e.nm).map V.str).drop j)]++([.list [.str x]]++[.list (((stk.map λ e:gC=>e.nm).map V.str).drop j++[.str x])]),((stk.map λ e:gC=>e.nm).map V.str).drop j,?_,?_,by rw[List.length_drop,List.length_map,List.length_map];lia⟩;rotate_left
 ·rw[<-List.append_assoc,<-List.append_assoc];exact aP _
 ·rw[<-List.append_assoc,<-List.append_assoc];simp only[dH,lN,jh,mK,jW,wU,Be,HY,Bf,ak.bind_ok,i1,i2,aA,if_true,it,bA,(λ L=>jj (L:=L) h.st (by rw[List.length_map,List.length_map];exact aD (by lia)) (i:=j) (by lia)),bO,(λ L=>add_list (L:=L) (au (J:=[O.list [.str x]]) (aP (S:=T) (.list (((stk.map λ e:gC=>e.nm).map V.str).drop j)))) (aP (S:=T++[O.list (((stk.map λ e:gC=>e.nm).map V.str).drop j)]) (.list [.str x])) (by rw[List.length_drop,List.length_map,List.length_map];exact aD (by show _+1<=_;lia))),bH]
end
theorem vB:∀{xs ys:List Str},xs.Nodup->(∀x∈xs,x∈ys)->xs.length<=ys.length:=by
 intro xs;induction xs with
 |nil=>exact λ _ _=>Nat.zero_le _
 |cons x xs ih=>
  intro ys h hs;have hx:=hs x List.mem_cons_self;have ih:=ih (ys:=ys.erase x) (List.nodup_cons.mp h).2 λ y hy=>(List.mem_erase_of_ne (show y≠x from λ q=>((List.nodup_cons.mp h).1) (by rw[<-q];exact hy))).mpr (hs y (List.mem_cons_of_mem _ hy))
  rw[List.length_erase_of_mem hx]at ih;have:=List.length_pos_of_mem hx;simp only[List.length_cons];lia
theorem Vw{α:Type}(xs:List α):xs=[]\/∃ini e,xs=ini++[e]:=by
 induction h:xs.getLast? with
 |none=>exact .inl (List.getLast?_eq_none_iff.mp h)
 |some z=>
  have hn:xs≠[]:=λ q=>by rw[q]at h;contradiction
  exact .inr ⟨xs.dropLast,xs.getLast hn,(List.dropLast_concat_getLast hn).symm⟩
structure vC(S T:List O)(g:G)(stk:List gC)(seen F:List Str)(c:Option Str):Prop where
 rep:vy S T g stk seen
 good:xK g.su g.N (BZ stk) seen F c
 sl:seen.length=F.length+stk.length
namespace vC
variable {S T:List O}{g:G}{stk:List gC}{seen F:List Str}{c:Option Str}
theorem few(h:vC S T g stk seen F c)(hS:bR S g):seen.length<=60/\stk.length<=60:=by
 have:=vB h.good.nds h.good.sub;rw[List.length_append,List.length_map]at this;have e:(BZ stk).length=stk.length:=List.length_map ..;have:=h.sl;have:=hS.len;lia
end vC
inductive DIn(S:List O)(g:G)(stk:List gC)(seen:List Str)(x:Str)(r:ak Fl):Prop
 |on {T':List O}{stk':List gC}{F':List Str}{y:Str}(e:r=.ok .next ⟨dO g S.length (some (.str y)),T'⟩) (h:vC S T' g stk' seen F' (some y)) (hy:y∈g.N) (hl:ql g.su (BZ stk') < ql g.su (BZ stk))
 |off {T':List O}{F':List Str}(e:r=.ok .brk ⟨dO g S.length (some (.str x)),T'⟩) (h:vC S T' g [] seen F' none)
inductive ajB(S:List O)(g:G)(stk:List gC)(seen:List Str)(x:Str)(n:Nat)(Y:St):Prop
 |mk (T':List O) (stk':List gC) (F':List Str) (e:Y=⟨dO g S.length (some (.str x)),T'⟩) (hn:n=stk'.length) (h:vC S T' g stk' seen F' none) (hl:ql g.su (BZ stk')<=ql g.su (BZ stk))
section
variable {S:List O}{g:G}(hS:bR S g) (hk:8<=S.length) (hsu:∀v∈g.N,∀s∈g.su v,s∈g.N) {cl:Nat->List V->St->ak V}
include hS hk hsu
theorem Vx{T:List O}{stk:List gC}{seen F:List Str}{x:Str}(h:vC S T g stk seen F none):DIn S g stk seen x (oF cl ⟨dO g S.length (some (.str x)),T⟩):=by
 unfold oF;rw[if_pos rfl];refine rz (Z:=DIn S g stk seen x) (ajB S g stk seen x) (λ n Y hI=>?_) wf stk.length _ (by have:=(h.few hS).2;show _ < 100000;lia) ⟨T,stk,F,rfl,rfl,h,Nat.le_refl _⟩;obtain⟨T1,stk1,F1,rfl,rfl,h1,hle⟩:=hI;refine lU λ Zz toG=>?_
 have few:=h1.few hS;have szn:small ((stk1.map λ e:gC=>e.nm).map V.str).length=true:=by rw[List.length_map,List.length_map];exact aD (by lia)
 have szb:small (stk1.map λ e:gC=>V.ref e.bn).length=true:=by rw[List.length_map];exact aD (by lia)
 have tr:=λ L=>j7 (L:=L) h1.rep.st szn
 rcases Vw stk1 with rfl|⟨ini,e,rfl⟩
 ·refine toG (.stop (σ₁:=⟨dO g S.length (some (.str x)),T1⟩) ?_ (.off rfl h1));simp only[wU,ak.bind_ok,tr,List.map_nil,List.isEmpty_nil,Bool.not_true,aA]
 ·have hN:e.nm∈g.N:=h1.good.sub _ (by rw[Qs];simp);have he:=h1.rep.en e iZ;have hbig:=h1.rep.big e iZ;have rT:=IW hS h1.rep.pre;have esu:=rT.suc _ hN;have szs:small ((g.su e.nm).map V.str).length=true:=by rw[List.length_map];exact aD (by have:=rT.sul e.nm;lia)
  have tr1:∀L,aO (.ref S.length) ⟨L,T1⟩=some true:=λ L=>by
   rw[tr];simp
  have itl:=λ L=>xr (L:=L) h1.rep.is szb (v:=.ref e.bn) (by rw[List.map_append];exact List.getLast?_concat ..)
  have hnp:BZ (ini++[e])=BZ ini++[(e.nm,e.ps)]:=List.map_append;have gd:=h1.good;rw[hnp]at gd hle;induction hy:(g.su e.nm)[e.ps]? with
  |some y=>
   have nx:=λ L=>Vu (L:=L) he.2 he.1 esu szs (by lia) (v:=.str y) (by rw[List.getElem?_map,hy];rfl)
   have hps:e.ps < (g.su e.nm).length:=(List.getElem?_eq_some_iff.mp hy).1;refine toG (.brk (σ₁:=⟨dO g S.length (some (.str x)),T1⟩) (σ₂:=⟨dO g S.length (some (.str y)),T1.set e.it (.liter (g.sl e.nm) (e.ps+1))⟩) ?_ ?_ (.on (stk':=ini++[⟨e.nm,e.ps+1,e.it,e.bn⟩]) (F':=F1) (y:=y) rfl ⟨h1.rep.next,?_,?_⟩ (hsu _ hN y (List.mem_of_getElem? hy)) ?_))
   ·simp only[wU,ak.bind_ok,tr1,aA]
   ·simp only[lO,fL,uo,eZ,fW,jX,HX,ak.bind_ok,lu,itl,bA,Ar,List.isEmpty_nil,Bool.and_self,if_true,nx,afM,aB,DW]
   ·rw[show BZ (ini++[(⟨e.nm,e.ps+1,e.it,e.bn⟩:gC)])=BZ ini++[(e.nm,e.ps+1)]from List.map_append];exact gd.next hy
   ·have:=h1.sl;rw[List.length_append]at this ⊢;exact this
   ·rw[show BZ (ini++[(⟨e.nm,e.ps+1,e.it,e.bn⟩:gC)])=BZ ini++[(e.nm,e.ps+1)]from List.map_append];rw[xM,FW]at hle ⊢;lia
  |none=>
   have hps:(g.su e.nm).length<=e.ps:=List.getElem?_eq_none_iff.mp hy;obtain⟨ep,e3⟩:=h1.rep.n2;have gp:=gd.pop hps;have hnot:e.nm∉ini.map (·.nm):=λ q=>by
    have:=(List.nodup_append.mp gd.nds).2.1;rw[List.map_append,Qs]at this;exact(List.nodup_append.mp this).2.2 _ q e.nm (by simp) rfl
   have k0:=aJ .any he.1 h1.rep.st nofun;have pp0:=λ L=>Qg (L:=L) k0 szn hk (v:=.str e.nm) (by rw[List.map_append,List.map_append];exact List.getLast?_concat ..)
   rw[(by rw[List.map_append,List.map_append];exact List.dropLast_concat ..:(((ini++[e]).map (λ e:gC=>e.nm)).map V.str).dropLast=(ini.map λ e:gC=>e.nm).map V.str)]at pp0;have m3:=bw (a:=S.length) (o:=O.list ((ini.map λ e:gC=>e.nm).map V.str)) (by lia) (aJ .any he.1 e3 nofun);have m1:=bw (a:=S.length) (o:=O.list ((ini.map λ e:gC=>e.nm).map V.str)) (by simp) (aJ .any he.1 h1.rep.is nofun);have hn2:(vD (ini++[e])).length=ini.length+1:=by unfold vD;rw[List.length_map,List.length_zipIdx,List.length_append];rfl
   have hfl:=few.2;rw[List.length_append]at hfl;have dd:=λ L=>aa9 (L:=L) (x:=e.nm) m3 (by rw[hn2];exact aD (by simp at hfl;lia)) (by rw[vA];simp) (by exact Nat.lt_add_right _ (by assumption))
   rw[acS hnot]at dd;have n1:=bw (a:=S.length+3) (o:=O.dict (vD ini) (ep+1)) (by lia) m1;have mp1:=λ live args L=>Bo (cl:=cl) (live:=live) (args:=args) (L:=L) n1
   have pp1:=λ L=>Qg (L:=L) n1 szb (by lia) (v:=.ref e.bn) (by rw[List.map_append];exact List.getLast?_concat ..)
   have dl1:((ini++[e]).map (λ e:gC=>V.ref e.bn)).dropLast=ini.map λ e:gC=>V.ref e.bn:=by rw[List.map_append];exact List.dropLast_concat ..
   rw[dl1]at pp1;have kj:=h1.rep.pop (ep+1);generalize hT2:(((T1.set e.it .any).set S.length (.list ((ini.map λ e:gC=>e.nm).map V.str))).set (S.length+3) (.dict (vD ini) (ep+1))).set (S.length+1) (.list (ini.map λ e:gC=>V.ref e.bn))=T2 at*;refine toG (.on (σ₁:=⟨dO g S.length (some (.str x)),T1⟩) (σ₂:=⟨dO g S.length (some (.str x)),T2⟩) ini.length ?_ ?_ (by rw[List.length_append];exact Nat.lt_succ_self _) ⟨_,ini,F1++[e.nm],rfl,rfl,⟨kj,gp,?_⟩,?_⟩)
   ·simp only[wU,ak.bind_ok,tr1,aA]
   ·have hx:(("StopIteration":Str)==dw .stop&&true)=true:=by kernel_rfl
    have b1:eZ cl ⟨dO g S.length (some (.str x)),T1⟩=.exc .stop ⟨dO g S.length (some (.str x)),T1.set e.it .any⟩:=by
     simp only[eZ,fW,HX,ak.bind_ok,lu,itl,bA,Ar,List.isEmpty_nil,Bool.and_self,if_true,(λ L=>Vv (L:=L) he.2 he.1 esu szs (by lia) (by rw[List.getElem?_map,hy];rfl)),ak.bind_exc,wz]
    have b2:iz cl ⟨dO g S.length (some (.str x)),T1.set e.it .any⟩=.ok .next ⟨dO g S.length (some (.str x)),T2⟩:=by
     simp only[iz,jY,jZ,wU,HX,HY,ak.bind_ok,(λ live args L=>Bo (cl:=cl) (live:=live) (args:=args) (L:=L) k0),pp0,dd,aB,mp1,pp1]
    have b3:fL cl ⟨dO g S.length (some (.str x)),T1⟩=.ok .next ⟨dO g S.length (some (.str x)),T2⟩:=by
     unfold fL uo;rw[b1];dsimp only;rw[if_pos hx,b2];rfl
    unfold lO;rw[b3];rfl
   ·have:=h1.sl;rw[List.length_append]at this ⊢;simp at this ⊢;lia
   ·rw[xM]at hle;lia
end
inductive FOr(body:V->St->ak Fl)(Z:ak Fl->Prop)(I:St->Prop)(v:V)(Y:St):Prop
 |on {fl:Fl}{Y':St}(hf:fl=.next\/fl=.cont) (e:body v Y=.ok fl Y') (h:I Y')
 |ret {w:V}{Y':St}(e:body v Y=.ok (.ret w) Y') (h:Z (.ok (.ret w) Y'))
inductive ajC(Z:ak Fl->Prop)(I:St->Prop)(r:ak Fl):Prop
 |on {Y':St}(e:r=.ok .next Y') (h:I Y')
 |ret (h:Z r)
set_option tactic.hygienic true in
theorem acU{α:Type}{f:α->V}{ok:St->Bool}{body:V->St->ak Fl}{Z:ak Fl->Prop}(I:List α->St->Prop)(hok:∀r Y,I r Y->ok Y=true)
  (hb:∀v r Y,I (v::r) Y->FOr body Z (I r) (f v) Y) (xs:List α):∀Y,I xs Y->ajC Z (I []) (jk ok body (xs.map f) Y):=by
 induction xs with
 |nil=>exact λ Y h=>.on (if_pos (hok _ _ h)) h
 |cons v r ih=>
  intro Y h;have e:jk ok body ((v::r).map f) Y=(body (f v) Y).bindN λ fl Y=>match fl with
    |.next|.cont=>jk ok body (r.map f) Y
    |.brk=>.ok .brk Y
    |.ret v=>.ok (.ret v) Y:=if_pos (hok _ _ h)
  rw[e];induction hb v r Y h with
  |on h1 h2 h3=>
   rw[h2];clear h2;rcases h1 with rfl|rfl<;>exact ih _ h3
  |ret h1 h2=>rw[h1];exact .ret h2
theorem Vy(su:Str->List Str)(hs:∀v,(su v).length<=1000)(seen:List Str):∀N:List Str,tD su N seen<=1000*N.length:=by
 intro N;induction N with
 |nil=>exact Nat.zero_le _
 |cons v N ih=>
  have:=hs v;unfold tD at ih ⊢;simp only[List.filter_cons,List.length_cons];split
  ·rw[List.map_cons,List.sum_cons];lia
  ·exact Nat.le_add_right_of_le (by assumption)
theorem Qu{L}{S:List O}{d ep:Nat}{kvs:List (Str×V)}(e:S[d]?=some (.dict kvs ep))(hs:small kvs.length=true):bN (.ref d) ⟨L,S⟩=some (kvs.map λ p=>.str p.1):=(zK e).trans (if_pos hs)
theorem Qv{m ep:Nat}{L L':List (Str×Option V)}{S S':List O}{kvs:List (Str×V)}(h:S[m]?=some (.dict kvs ep))(h':S'[m]?=some (.dict kvs ep)):aR (.ref m) ⟨L,S⟩ ⟨L',S'⟩=true:=tO h h' rfl
inductive acV(S:List O)(g:G)(r:ak Fl):Prop
 |mk (p:Nat) (L:List (Str×Option V)) (T:List O) (xs:List V) (e:r=.ok (.ret (.ref p)) ⟨L,T⟩) (hp:S <+: T) (hl:T[p]?=some (.list xs)) (hx:xs≠[]) (hs:small xs.length=true) (hc:Cyc g.su g.N)
inductive ahs(S:List O)(g:G)(seen:List Str)(x:Str)(r:ak Fl):Prop
 |on {T':List O}{F' seen':List Str}{y:Str}(e:r=.ok .next ⟨dO g S.length (some (.str y)),T'⟩) (h:vC S T' g [] seen' F' none) (hx:x∈seen') (hs:∀s∈seen,s∈seen')
 |ring (h:acV S g r)
inductive ajD(S:List O)(g:G)(seen:List Str)(x:Str)(n:Nat)(Y:St):Prop
 |mk (T':List O) (stk:List gC) (seen' F':List Str) (y:Str) (e:Y=⟨dO g S.length (some (.str y)),T'⟩) (hn:n=pot g.su g.N (BZ stk) seen') (h:vC S T' g stk seen' F' (some y)) (hy:y∈g.N) (hx:y=x\/x∈seen') (hs:∀s∈seen,s∈seen')
inductive ajE(S:List O)(g:G)(stk:List gC)(sn F1:List Str)(y:Str)(r:ak Fl):Prop
 |on {T2:List O}{stk2:List gC}{sn2:List Str}(e:r=.ok .next ⟨dO g S.length (some (.str y)),T2⟩) (h:vC S T2 g stk2 sn2 F1 none) (hp:pot g.su g.N (BZ stk2) sn2=pot g.su g.N (BZ stk) sn) (hy:y∈sn2) (hs:∀s∈sn,s∈sn2)
 |ring {w:V}{Y':St}(e:r=.ok (.ret w) Y') (h:acV S g (.ok (.ret w) Y'))
section
variable {S:List O}{g:G}(hS:bR S g) (hk:8<=S.length) (hsu:∀v∈g.N,∀s∈g.su v,s∈g.N) {cl:Nat->List V->St->ak V}
include hS hk hsu
theorem acW{T1:List O}{stk:List gC}{sn F1:List Str}{y:Str}(h1:vC S T1 g stk sn F1 (some y))(hy:y∈g.N):ajE S g stk sn F1 y (dH cl ⟨dO g S.length (some (.str y)),T1⟩):=by
 refine lU λ Zz toG=>?_
 have few:=h1.few hS;have hnm:=Qs stk;by_cases hs:y∈sn
 ·by_cases hst:y∈stk.map (·.nm)
  ·obtain⟨r,J,ys,b1,b2,b3⟩:=abe (cl:=cl) h1.rep hs hst (by lia) (by lia);exact toG (.ring b1 ⟨r,_,_,_,rfl,eG h1.rep.pre J,b2,by simp,by rw[List.length_append];exact aD (by show ys.length+1<=_;lia),h1.good.cyc (by rw[hnm];exact hst)⟩)
  ·have hF:y∈F1:=((h1.good.sn y).mp hs).resolve_right (by rw[hnm];exact hst);exact toG (.on (abd (cl:=cl) h1.rep hs hst (by lia)) ⟨h1.rep,h1.good.skip hF,h1.sl⟩ rfl hs λ _ h=>h)
 ·have hst:y∉stk.map (·.nm):=λ q=>hs ((h1.good.sn y).mpr (.inr (by rw[hnm];exact q)))
  obtain⟨T2,b1,b2⟩:=abb (cl:=cl) h1.rep hS hk hs hy hst (by lia) (by lia);have e:BZ (stk++[(⟨y,0,T1.length,T1.length+1⟩:gC)])=BZ stk++[(y,0)]:=List.map_append;refine toG (.on b1 ⟨b2,by rw[e];exact h1.good.push hs hy,?_⟩ ?_ (by simp) λ s h=>List.mem_append_left _ h)
  ·have:=h1.sl;simp only[List.length_append];show sn.length+1=F1.length+(stk.length+1);lia
  ·unfold pot;simp only[e,xM,FW,Lx hS.nd hy hs];lia
set_option tactic.hygienic true in
theorem Vz{T:List O}{seen F:List Str}{x:Str}(h:vC S T g [] seen F none)(hx:x∈g.N):ahs S g seen x (qK cl ⟨dO g S.length (some (.str x)),T⟩):=by
 unfold qK;refine rz (Z:=ahs S g seen x) (ajD S g seen x) (λ n Y hI=>?_) wf (pot g.su g.N [] seen) _ (by
   have:=Vy g.su hS.sul seen g.N;have:=hS.len;show tD g.su g.N seen+0 < 100000;lia) ⟨T,[],seen,F,x,rfl,rfl,⟨h.rep,⟨trivial,h.good.sn,h.good.nds,h.good.sub,h.good.topo⟩,h.sl⟩,hx,.inl rfl,λ _ h=>h⟩
 obtain⟨T1,stk,sn,F1,y,rfl,rfl,h1,hy,hyx,hsn⟩:=hI;refine lU λ Zz toG=>?_
 cases acW hS hk hsu (cl:=cl) h1 hy with
 |on b1 h2 hp hy2 hsn2=>
  rename_i T2 stk2 sn2
  have hx2:x∈sn2:=hyx.elim (λ q=>by rw[<-q];exact hy2) λ q=>hsn2 x q
  cases Vx hS hk hsu (cl:=cl) (x:=y) h2 with
  |on c1 c2 c3 c4=>
   rename_i T3 stk3 F3 z
   refine toG (.on (pot g.su g.N (BZ stk3) sn2) rfl (th b1 (congrArg (λ r=>aj r λ Y=>.ok .next Y) c1)) ?_ ⟨T3,stk3,sn2,F3,z,rfl,rfl,c2,c3,.inr hx2,λ s h=>hsn2 s (hsn s h)⟩);rw[<-hp];exact Nat.add_lt_add_left c4 _
  |off c1 c2=>exact toG (.brk rfl (th b1 (congrArg (λ r=>aj r λ Y=>.ok .next Y) c1)) (.on rfl c2 hx2 λ s h=>hsn2 s (hsn s h)))
 |ring b1 hr=>exact toG (.ret rfl (congrArg (λ r=>aj r _) b1) (.ring hr))
inductive abf(S:List O)(g:G)(rest:List Str)(Y:St):Prop
 |mk (T:List O) (seen F:List Str) (o:Option V) (e:Y=⟨dO g S.length o,T⟩) (h:vC S T g [] seen F none) (hc:∀v∈g.N,v∈seen\/v∈rest) (hm:∀v∈rest,v∈g.N)
theorem VB(d:Nat){v:Str}{rest:List Str}{Y:St}(hI:abf S g (v::rest) Y):FOr (λ v Y=>oG (ao d) (aF ("node":Str) v Y)) (acV S g) (abf S g rest) (.str v) Y:=by
 obtain⟨T,seen,F,o,rfl,h,hc,hm⟩:=hI;refine lU λ Zz toG=>?_
 have few:=h.few hS;have hv:=hm v List.mem_cons_self;have i1:=I4 (L:=dO g S.length (some (.str v))) h.rep.se (by lia) v;have hm':=λ w hw=>hm w (List.mem_cons_of_mem _ hw)
 have hc':∀{sn:List Str},(∀s∈seen,s∈sn)->v∈sn->∀w∈g.N,w∈sn\/w∈rest:=λ hs hv w hw=>(hc w hw).elim (λ q=>.inl (hs w q)) λ q=>(List.mem_cons.mp q).elim (λ q=>.inl (by rw[q];exact hv)) .inr
 by_cases hs:v∈seen
 ·rw[decide_eq_true hs]at i1;refine toG (.on (.inr rfl) (Y':=⟨dO g S.length (some (.str v)),T⟩) ?_ ⟨T,seen,F,_,rfl,h,hc' (λ _ h=>h) hs,hm'⟩);show oG (ao d) ⟨dO g S.length (some (.str v)),T⟩=_;simp only[oG,qJ,Bh,uI,Be,Bf,ak.bind_ok,i1,aA,if_true,Oa]
 ·rw[decide_eq_false hs]at i1;have b0:qJ (ao d) ⟨dO g S.length (some (.str v)),T⟩=.ok .next ⟨dO g S.length (some (.str v)),T⟩:=by
   simp only[qJ,Be,Bf,ak.bind_ok,i1,aA,Bool.false_eq_true,if_false]
  have e:oG (ao d) (aF ("node":Str) (.str v) ⟨dO g S.length o,T⟩)=aj (qK (ao d) ⟨dO g S.length (some (.str v)),T⟩) λ Y=>.ok .next Y:=congrArg (λ r=>aj r _) b0
  induction Vz hS hk hsu (cl:=ao d) h hv with
  |on c1 c2 c3 c4=>exact toG (.on (.inl rfl) (e.trans (congrArg (λ r=>aj r _) c1)) ⟨_,_,_,_,rfl,c2,hc' c4 c3,hm'⟩)
  |ring hr=>
   obtain⟨p,L,T',xs,c1,c2,c3,c4,c5,c6⟩:=hr;exact toG (.ret (e.trans (congrArg (λ r=>aj r _) c1)) ⟨p,L,T',xs,rfl,c2,c3,c4,c5,c6⟩)
inductive abg(g:G)(T:List O):V->Prop
 |none (hc:¬ Cyc g.su g.N):abg g T .none
 |ring {p:Nat}{xs:List V}(hl:T[p]?=some (.list xs)) (hx:xs≠[]) (hs:small xs.length=true) (hc:Cyc g.su g.N):abg g T (.ref p)
inductive aht(S:List O)(g:G)(l:List (Str×Option V))(r:ak V):Prop
 |mk (v:V) (T:List O) (e:r=.ok v ⟨l,T⟩) (hp:S <+: T) (h:abg g T v)
theorem VD(d:Nat)(l):aht S g l (ao (d+1) 127 [.ref g.i] ⟨l,S⟩):=by
 rw[bW (L:=fU (some (.ref g.i)) none none none none none none) (S₁:=S) (by kernel_rfl),aaD];have hns:∀L (S:List O),b8 (ao d) .set [] ⟨L,S⟩=.ok (.ref S.length) ⟨L,S++[.set []]⟩:=λ L S=>rfl
 have start:∀r,aj (Pk (ao d) ⟨fU (some (.ref g.i)) none none none none none none,S⟩) (λ Y=>aj (Pn (ao d) Y) λ Y=>aj (Pq (ao d) Y) λ Y=>aj (Pr (ao d) Y) λ Y=>aj (Pu (ao d) Y) r)=r ⟨dO g S.length none,S++([.list []]++([.list []]++([.set []]++[.dict [] 0])))⟩:=λ r=>by
  simp only[Pk,Pn,Pq,Pr,Pu,afG,afH,afI,afJ,afK,afL,ak.bind_ok,hS.a_n2i,aB,bO,hns,List.length_append,List.length_cons,List.length_nil,Nat.reduceAdd,List.append_assoc]
 have h0:vC S (S++([.list []]++([.list []]++([.set []]++[.dict [] 0])))) g [] [] [] none:=by
  refine⟨⟨List.prefix_append ..,?_,?_,?_,⟨0,?_⟩,nofun,List.nodup_nil,nofun⟩,⟨trivial,λ s=>by simp[BZ],by simp[BZ],nofun,λ A f B e=>by simp at e⟩,rfl⟩<;>simp[vD]
 unfold ahf;rw[start];generalize S++([O.list []]++([O.list []]++([O.set []]++[O.dict [] 0])))=T0 at*;obtain⟨ep,ed⟩:=hS.dct;have atd:∀{T:List O},S <+: T->T[g.d]?=some (.dict (g.N.map λ v=>(v,.ref (g.at_ v))) ep):=λ p=>by obtain⟨X,rfl⟩:=p;exact au ed
 have loop:=acU (f:=V.str) (ok:=aR (.ref g.d) ⟨dO g S.length none,T0⟩) (body:=λ v Y=>oG (ao d) (aF ("node":Str) v Y)) (Z:=acV S g) (abf S g)
  (λ rest Y ⟨T,seen,F,o,e,h,_,_⟩=>by rw[e];exact Qv (atd h0.rep.pre) (atd h.rep.pre)) (λ v rest Y hI=>VB hS hk hsu d hI) g.N ⟨dO g S.length none,T0⟩ ⟨T0,[],[],none,rfl,h0,λ v hv=>.inr hv,λ _ h=>h⟩
 have it:=λ L=>Qu (L:=L) (atd h0.rep.pre) (by rw[List.length_map];have:=hS.len;exact aD (by lia))
 simp only[List.map_map,Function.comp_def]at it;have e5:Py (ao d) ⟨dO g S.length none,T0⟩=dB (jk (aR (.ref g.d) ⟨dO g S.length none,T0⟩) (λ v Y=>oG (ao d) (aF ("node":Str) v Y)) (g.N.map V.str) ⟨dO g S.length none,T0⟩) λ Y=>.ok .next Y:=by
  simp only[Py,aam,ak.bind_ok,fC,it]
 rw[e5];refine lU λ Zz toG=>?_
 induction loop with
 |on f1 hI=>
  obtain⟨T,seen,F,o,rfl,h,hc,-⟩:=hI;rw[f1]at toG;exact toG ⟨.none,T,rfl,h.rep.pre,.none (h.good.done λ v hv=>(hc v hv).resolve_right nofun)⟩
 |ret hr=>
  obtain⟨p,L,T,xs,f1,c2,c3,c4,c5,c6⟩:=hr;rw[f1]at toG;exact toG ⟨.ref p,T,rfl,c2,.ring c3 c4 c5 c6⟩
end
theorem VF{L}{S:List O}{d ep:Nat}{kvs:List (Str×V)}(e:S[d]?=some (.dict kvs ep)):cD .values (.ref d) [] ⟨L,S⟩=.ok (.ref S.length) ⟨L,S++[.view d]⟩:=cA e
theorem Ly{cl:Nat->List V->St->ak V}{live:Bool}{args:St->ak (List V)}{n ep:Nat}{kvs:List (Str×V)}{L}{S:List O}(e:S[n]?=some (.dict kvs ep)):aV cl live ("values":Str) args (.ref n) ⟨L,S⟩=(args ⟨L,S⟩).bind λ vs Y=>cD .values (.ref n) vs Y:=FT (by kernel_rfl) e
theorem Qw{L}{S:List O}{n d ep:Nat}{kvs:List (Str×V)}(e:S[n]?=some (.view d))(ed:S[d]?=some (.dict kvs ep))(hs:small kvs.length=true):bN (.ref n) ⟨L,S⟩=some (kvs.map λ p=>p.2):=(zL e ed).trans (if_pos hs)
theorem Qx{L L'}{S S':List O}{n d:Nat}{o:O}(e:S[n]?=some (.view d))(ed:S[d]?=some o)(e':S'[n]?=some (.view d))(ed':S'[d]?=some o):aR (.ref n) ⟨L,S⟩ ⟨L',S'⟩=true:=Ws e e' rfl (ed'.trans ed.symm)
noncomputable def free(g:G)(v:Str):Bool:=decide (g.np v=0)
theorem Qy{S:List O}{g:G}(h:bR S g)(hk:8<=S.length){cl L}:eF true ("i":Str) (H7 cl) (O9 cl) (.ref S.length) ⟨L,S++[.view g.d]⟩=.ok (.ref (S.length+1)) ⟨L,S++[.view g.d]++[.list ((g.N.filter (free g)).map .str)]⟩:=by
 obtain⟨ep,ed⟩:=h.dct;have h1:=h.push [.view g.d];have ed1:=au (J:=[O.view g.d]) ed;have ev:=aP (S:=S) (.view g.d);have hlen:=h.len;have hi:bN (.ref S.length) ⟨L,S++[.view g.d]⟩=some (g.N.map λ v=>V.ref (g.at_ v)):=by
  have:=Qw (L:=L) ev ed1 (by rw[List.length_map];exact aD (by lia));rw[List.map_map]at this;exact this
 obtain⟨J,c1,rfl⟩:=Bv (f:=λ v=>V.ref (g.at_ v)) (x:=("i":Str)) (ifs:=H7 cl) (elt:=O9 cl) (p:=free g) (P:=λ J=>J=[]) rfl (λ a b q1 q2=>by rw[q1,q2];rfl) hi (by rw[List.length_append];exact Nat.le_trans hk (Nat.le_add_right ..)) (aD (by lia))
  (λ L' J=>Qx ev ed1 (au ev) (au ed1))
  (λ v hv J=>⟨[],by
   have hg:∀S,aq ("i":Str) ⟨[(("i":Str),some (.ref (g.at_ v)))],S⟩=.ok (.ref (g.at_ v)) ⟨[(("i":Str),some (.ref (g.at_ v)))],S⟩:=λ S=>rfl
   rw[List.append_nil];unfold free;induction q:decide (g.np v=0)<;>simp only[H7,hg,ak.bind_ok,(λ L=>(h1.push J).a_np (L:=L) hv),IV,q,aA,Bool.not_true,Bool.not_false,Bool.false_eq_true,if_false,if_true],rfl⟩)
  (λ v hv J=>(h1.push J).a_node (L:=[(("i":Str),some (.ref (g.at_ v)))]) hv)
 simp only[c1,List.append_nil,List.length_append];rfl
noncomputable def BX(S:List O)(g:G):G:={g with rd:=some (S.length+1),rl:=g.N.filter (free g)}
set_option tactic.hygienic true in
theorem VG{S:List O}{g:G}(h:bR S g)(hk:8<=S.length)(hrd:g.rd=none)(hsu:∀v∈g.N,∀s∈g.su v,s∈g.N)(d:Nat)(l):
  ∃S',((¬ Cyc g.su g.N/\ao (d+2) 92 [.ref g.i] ⟨l,S⟩=.ok .none ⟨l,S'⟩)\/(Cyc g.su g.N/\ao (d+2) 92 [.ref g.i] ⟨l,S⟩=.exc .cyc ⟨l,S'⟩))/\bR S' (BX S g)/\cO S g S' (BX S g):=by
 rw[bW (L:=O7 (some (.ref g.i)) none) (S₁:=S) (by kernel_rfl),acv];obtain⟨epd,ed⟩:=h.dct;have ard:=λ L=>h.a_rd (L:=L)
 rw[hrd,rdV]at ard;have h1:=h.push ([.view g.d]++[.list ((g.N.filter (free g)).map .str)]);rw[<-List.append_assoc]at h1;have hl:(g.N.filter (free g)).length<=60:=Nat.le_trans (List.length_filter_le ..) h.len;have er:(S++[O.view g.d]++[O.list ((g.N.filter (free g)).map V.str)])[S.length+1]?=some (.list ((g.N.filter (free g)).map .str)):=by
  have:=aP (S:=S++[O.view g.d]) (.list ((g.N.filter (free g)).map .str));rw[List.length_append]at this;exact this
 obtain⟨ep,sa⟩:=qj h1 (L:=O7 (some (.ref g.i)) none) (x:=("_ready_nodes":Str)) (v:=.ref (S.length+1)) (rd:=some (S.length+1)) (po:=g.po) (nf:=g.nf) (by kernel_rfl) (λ ep=>af7 ..);have h2:=h1.setFld (some (S.length+1)) (g.N.filter (free g)) g.po g.nf ep (λ r e=>by
  cases e;refine⟨by exact Nat.le_succ_of_le (by assumption),er,λ v hv q=>?_,by lia⟩;have:=aQ (h.suc v hv);lia)
 replace h2:bR _ (BX S g):=h2;have st2:cO S g ((S++[O.view g.d]++[O.list ((g.N.filter (free g)).map V.str)]).set g.fd (O.dict (kI g.d (some (S.length+1)) g.po g.nf) ep)) (BX S g):=by
  refine⟨λ x o e hx=>by rw[List.getElem?_set_ne (show g.fd≠x from λ q=>hx (.inl q.symm))];exact au (au e),λ x q=>?_,by rw[List.length_set,List.length_append,List.length_append];lia,rfl⟩;rcases q with q|q|q|q
  ·exact .inl (.inl q)
  ·exact .inl (.inr (.inl q))
  ·exact .inl (.inr (.inr (.inl q)))
  ·replace q:some (S.length+1)=some x:=q;exact .inr (by lia)
 generalize hS2:(S++[O.view g.d]++[O.list ((g.N.filter (free g)).map V.str)]).set g.fd (O.dict (kI g.d (some (S.length+1)) g.po g.nf) ep)=S2 at*;obtain⟨v,T,f1,f2,f3⟩:=VD h2 (Nat.le_trans hk st2.len) hsu d (O7 (some (.ref g.i)) none);have f1':ao (d+1) 127 [.ref g.i] ⟨O7 (some (.ref g.i)) none,S2⟩=.ok v ⟨O7 (some (.ref g.i)) none,T⟩:=f1;have me':∀args L,aV (ao (d+1)) true ("_find_cycle":Str) args (.ref g.i) ⟨L,S2⟩=(args ⟨L,S2⟩).bind λ vs Y=>ao (d+1) 127 (.ref g.i::vs) Y:=(λ args L=>h2.meth (cl:=ao (d+1)) (args:=args) (name:=("_find_cycle":Str)) (f:=127) (L:=L) (by kernel_rfl))
 refine⟨T,?_,IW h2 f2,st2.trans (by clear f1 f3 f1';obtain⟨X,rfl⟩:=f2;exact cO.push ..)⟩;have q:∀r,aj (aat (ao (d+1)) ⟨O7 (some (.ref g.i)) none,S⟩) (λ Y=>aj (aau (ao (d+1)) Y) λ Y=>aj (aav (ao (d+1)) Y) r)=r ⟨O7 (some (.ref g.i)) (some v),T⟩:=λ r=>by
  simp only[aat,aau,aav,ag6,ag8,ak.bind_ok,ard,tC,aA,Bool.false_eq_true,if_false,aB,h.a_n2i,(λ cl live args L=>Ly (cl:=cl) (live:=live) (args:=args) (L:=L) ed),(λ L=>VF (L:=L) ed),(λ cl L=>Qy h hk (cl:=cl) (L:=L)),sa,me',f1']
 unfold B92;rw[q];induction f3 with
 |none hc=>exact .inl ⟨hc,rfl⟩
 |ring e1 e2 e3 hc=>
  rename_i r xs
  refine .inr ⟨hc,?_⟩;have tr:∀L,aO (.ref r) ⟨L,T⟩=some true:=λ L=>by
   rw[j7 e1 e3];induction xs with
   |nil=>exact absurd rfl e2
   |cons _ _=>rfl
  simp only[adL,aaw,KH,ag7,ak.bind_ok,tr,aA,if_true,wz];rfl
inductive ahu(w:List Str)(np:Str->Int)(rl:List Str)(r:(Str->Int)×List Str):Prop
 |mk (a:∀s,r.1 s=np s - (w.count s:Nat)) (b:∀s,s∈r.2↔s∈rl\/(s∈w/\np s=(w.count s:Nat))) (c:r.2.Nodup)
theorem ahv(w:List Str):∀(np:Str->Int) (rl:List Str),(∀s∈w,((w.count s:Nat):Int)<=np s)->rl.Nodup->(∀s∈w,s∉rl)->ahu w np rl (w.foldl gW (np,rl)):=by
 induction w with
 |nil=>exact λ np rl _ h _=>⟨λ s=>(Int.sub_zero _).symm,λ s=>⟨.inl,λ q=>q.elim id λ q=>(nomatch q.1)⟩,h⟩
 |cons x w ih=>
  intro np rl h1 h2 h3;simp only[List.foldl_cons];refine lU λ Zz toG=>?_
  have hx:=h1 x List.mem_cons_self;rw[List.count_cons_self]at hx;have hxr:=h3 x List.mem_cons_self;have hc:∀s,s≠x->(x::w).count s=w.count s:=λ s hs=>List.count_cons_of_ne (Ne.symm hs)
  have up:∀s∈w,((w.count s:Nat):Int)<=upd np x (np x - 1) s:=λ s hs=>by
   by_cases q:s=x
   ·rw[q,aY];clear ih h1 h3 hc;lia
   ·rw[bG _ _ q];have:=h1 s (List.mem_cons_of_mem _ hs);rw[hc s q]at this;exact this
  have fst:∀s,upd np x (np x - 1) s - (w.count s:Nat)=np s - ((x::w).count s:Nat):=λ s=>by
   by_cases q:s=x
   ·rw[q,aY,List.count_cons_self];clear ih h1 h3 hc up;lia
   ·rw[bG _ _ q,hc s q]
  by_cases hz:np x - 1=0
  ·rw[show gW (np,rl) x=(upd np x (np x - 1),rl++[x])by unfold gW;dsimp only;rw[if_pos hz]]at toG;have hw:x∉w:=λ q=>by
    have:=List.count_pos_iff.mpr q;clear ih h1 h3 hc up fst toG;lia
   obtain⟨a,b,c⟩:=ih (upd np x (np x - 1)) (rl++[x]) up (BV h2 hxr) λ s hs q=>by
    rcases List.mem_append.mp q with q|q
    ·exact h3 s (List.mem_cons_of_mem _ hs) q
    ·rw[List.mem_singleton.mp q]at hs;exact hw hs
   refine toG ⟨λ s=>(a s).trans (fst s),λ s=>?_,c⟩;rw[b s];by_cases q:s=x
   ·rw[q,List.count_cons_self,(List.count_eq_zero.mpr hw)];exact⟨λ _=>.inr ⟨List.mem_cons_self,Int.sub_eq_zero.mp hz⟩,λ _=>.inl iZ⟩
   ·rw[bG _ _ q,hc s q,List.mem_append,List.mem_singleton,List.mem_cons];exact⟨λ e=>e.elim (λ e=>e.elim .inl λ e=>absurd e q) λ e=>.inr ⟨.inr e.1,e.2⟩,λ e=>e.elim (λ e=>.inl (.inl e)) λ e=>.inr ⟨e.1.resolve_left q,e.2⟩⟩
  ·rw[show gW (np,rl) x=(upd np x (np x - 1),rl)by unfold gW;dsimp only;rw[if_neg hz]]at toG;obtain⟨a,b,c⟩:=ih (upd np x (np x - 1)) rl up h2 λ s hs=>h3 s (List.mem_cons_of_mem _ hs)
   refine toG ⟨λ s=>(a s).trans (fst s),λ s=>?_,c⟩;rw[b s];by_cases q:s=x
   ·rw[q,aY,List.count_cons_self];have e:np x - 1=(w.count x:Nat)↔np x=(w.count x+1:Nat):=by clear ih h1 h3 hc up fst toG a b c;lia
    refine⟨λ e'=>e'.elim (λ e'=>absurd e' hxr) λ e'=>.inr ⟨List.mem_cons_self,e.mp e'.2⟩,λ e'=>e'.elim (λ e'=>absurd e' hxr) λ e'=>.inr ⟨?_,e.mpr e'.2⟩⟩;exact List.count_pos_iff.mp (by clear ih h1 h3 hc up fst toG a b c e e';lia)
   ·rw[bG _ _ q,hc s q,List.mem_cons];exact⟨λ e=>e.elim .inl λ e=>.inr ⟨.inr e.1,e.2⟩,λ e=>e.elim .inl λ e=>.inr ⟨e.1.resolve_left q,e.2⟩⟩
noncomputable def qm(E:List (Str×Str))(p:Str):List Str:=(E.filter λ e=>decide (e.2=p)).map (·.1)
noncomputable def oO(E:List (Str×Str))(v:Str)(past:List Str):Nat:=(E.filter λ e=>decide (e.1=v)&&decide (e.2∉past)).length
theorem qp{E:List (Str×Str)}{s p:Str}:s∈qm E p↔(s,p)∈E:=by
 unfold qm;rw[List.mem_map];exact⟨λ⟨e,h,q⟩=>by rw[List.mem_filter,decide_eq_true_eq]at h;rw[<-q,<-h.2];exact h.1,λ h=>⟨(s,p),List.mem_filter.mpr ⟨h,by simp⟩,rfl⟩⟩
theorem m5{E:List (Str×Str)}{v:Str}{past:List Str}:oO E v past=0↔∀p,(v,p)∈E->p∈past:=by
 unfold oO;rw[List.length_eq_zero_iff,List.filter_eq_nil_iff];refine⟨λ h p hp=>?_,λ h e he=>?_⟩
 ·have:=h _ hp;simpa using this
 ·obtain⟨a,b⟩:=e;by_cases q:a=v
  ·subst q;have:=h b he;simp[this]
  ·simp[q]
theorem LC(a b:Str)(E:List (Str×Str))(v:Str)(past:List Str):oO ((a,b)::E) v past=(decide (a=v)&&decide (b∉past)).toNat+oO E v past:=by
 unfold oO;rw[List.filter_cons];induction decide (a=v)&&decide (b∉past)with
 |false=>exact(Nat.zero_add _).symm
 |true=>exact Nat.add_comm _ 1
theorem abh(a b:Str)(E:List (Str×Str))(v n:Str):(qm ((a,b)::E) n).count v=(decide (b=n)&&decide (a=v)).toNat+(qm E n).count v:=by
 unfold qm;rw[List.filter_cons];induction h:decide (b=n)with
 |false=>exact(Nat.zero_add _).symm
 |true=>
  rw[if_pos rfl,List.map_cons,List.count_cons,Nat.add_comm];by_cases q:a=v
  ·rw[decide_eq_true q,if_pos (beq_iff_eq.mpr q)];rfl
  ·rw[decide_eq_false q,if_neg (λ z=>q (beq_iff_eq.mp z))];rfl
theorem abi{v n:Str}{past:List Str}(hn:n∉past)(E:List (Str×Str)):oO E v (past++[n])+(qm E n).count v=oO E v past:=by
 induction E with
 |nil=>rfl
 |cons e E ih=>
  obtain⟨a,b⟩:=e;simp only[LC,abh,LC,<-ih];have key:(decide (a=v)&&decide (b∉past++[n])).toNat+(decide (b=n)&&decide (a=v)).toNat=(decide (a=v)&&decide (b∉past)).toNat:=by
   clear ih;induction decide (a=v)with
   |false=>rw[Bool.and_false];rfl
   |true=>
    by_cases hb:b=n
    ·rw[decide_eq_true hb,hb,decide_eq_true hn,decide_eq_false (not_not_intro iZ)];rfl
    ·rw[decide_eq_false hb,decide_eq_decide.mpr (show b∉past++[n]↔b∉past from not_congr ((List.mem_append.trans (or_congr_right List.mem_singleton)).trans (or_iff_left hb)))];rfl
  simp only[<-key];exact Nat.add_add_add_comm _ _ _ _
theorem VH{E:List (Str×Str)}{v:Str}{p q:List Str}(h:∀x,x∈p↔x∈q):oO E v p=oO E v q:=by
 unfold oO;congr 1;exact List.filter_congr λ e _=>by simp[h]
structure acX(E:List (Str×Str))(N past:List Str)(g:G):Prop where
 gN:g.N=N
 gs:∀p,g.su p=qm E p
 np:∀v∈N,v∉past->g.np v=oO E v past
 rl:∀v,v∈g.rl↔v∈N/\v∉past/\oO E v past=0
 nd:g.rl.Nodup
 eq:g.nf=g.po
 sub:∀v∈past,v∈N
 old:∀v∈past,oO E v past=0
structure CX(E:List (Str×Str))(N past G0 D:List Str)(g:G):Prop where
 gN:g.N=N
 gs:∀p,g.su p=qm E p
 np:∀v∈N,v∉past->v∉G0->g.np v=oO E v (past++D)
 out:∀v∈G0,v∉D->g.np v= -1
 rl:∀v,v∈g.rl↔v∈N/\v∉past/\v∉G0/\oO E v (past++D)=0
 nd:g.rl.Nodup
 eq:g.nf+G0.length=g.po+D.length
section
variable {E:List (Str×Str)}{N past:List Str}{g:G}
theorem acX.begin(h:acX E N past g):CX E N past g.rl [] {g with np:=jd g.np g.rl,rl:=[],po:=g.po+g.rl.length}:=by
 refine⟨h.gN,h.gs,λ v hv hp hr=>?_,λ v hv _=>if_pos hv,λ v=>⟨nofun,λ q=>?_⟩,List.nodup_nil,?_⟩
 ·rw[List.append_nil];exact(if_neg hr).trans (h.np v hv hp)
 ·rw[List.append_nil]at q;exact absurd ((h.rl v).mpr ⟨q.1,q.2.1,q.2.2.2⟩) q.2.2.1
 ·show g.nf+g.rl.length=g.po+g.rl.length+(0:Nat);rw[h.eq];simp
theorem CX.done(h0:∀v∈past,oO E v past=0)(hE:∀s p,(s,p)∈E->s∈N){G0 D:List Str}{n:Str}(hG:∀v∈G0,v∉past/\oO E v past=0)(hn:n∈G0)(hD:n∉D)(hDG:∀v∈D,v∈G0)(h:CX E N past G0 D g):CX E N past G0 (D++[n]) (Ls g n):=by
 have hnp:n∉past:=(hG n hn).1;have hw:∀s∈g.su n,s∈N/\s∉past/\s∉G0:=λ s hs=>by
  rw[h.gs,qp]at hs;have c:¬ oO E s past=0:=λ q=>hnp (m5.mp q n hs)
  exact⟨hE s n hs,λ q=>c (h0 s q),λ q=>c (hG s q).2⟩
 have hne:∀s,s∉G0->upd g.np n (-2) s=g.np s:=λ s hs=>bG _ _ λ q=>hs (q▸hn)
 have hcn:∀s,oO E s (past++(D++[n]))+(g.su n).count s=oO E s (past++D):=λ s=>by
  rw[h.gs,<-List.append_assoc];exact abi (λ q=>(List.mem_append.mp q).elim hnp hD) E
 obtain⟨a,b,c⟩:=ahv (g.su n) (upd g.np n (-2)) g.rl
  (λ s hs=>by
   obtain⟨h1,h2,h3⟩:=hw s hs;simp only[hne s h3,h.np s h1 h2 h3];have:=hcn s;lia) h.nd
  (λ s hs q=>by
   have h1:=((h.rl s).mp q).2.2.2;have:=hcn s;have:=List.count_pos_iff.mpr hs;lia)
 refine⟨h.gN,h.gs,λ v hv hp hg=>?_,λ v hv hd=>?_,λ v=>?_,c,?_⟩
 ·refine(a v).trans ?_;rw[hne v hg,h.np v hv hp hg];have:=hcn v;lia
 ·refine(a v).trans ?_;have h1:v≠n:=λ q=>hd (by rw[q];simp)
  have h2:(g.su n).count v=0:=List.count_eq_zero.mpr λ q=>(hw v q).2.2 hv
  rw[h2,bG _ _ h1,h.out v hv λ q=>hd (List.mem_append_left _ q)];rfl
 ·refine(b v).trans ⟨λ q=>?_,λ q=>?_⟩
  ·rcases q with q|⟨q1,q2⟩
   ·obtain⟨h1,h2,h3,h4⟩:=(h.rl v).mp q;exact⟨h1,h2,h3,by have:=hcn v;lia⟩
   ·obtain⟨h1,h2,h3⟩:=hw v q1;rw[hne v h3,h.np v h1 h2 h3]at q2;exact⟨h1,h2,h3,by have:=hcn v;lia⟩
  ·obtain⟨h1,h2,h3,h4⟩:=q;have hc:=hcn v;by_cases q:(g.su n).count v=0
   ·exact .inl ((h.rl v).mpr ⟨h1,h2,h3,by lia⟩)
   ·refine .inr ⟨List.count_pos_iff.mp (by lia),?_⟩;rw[hne v h3,h.np v h1 h2 h3];lia
 ·show g.nf+1+(G0.length:Int)=g.po+((D++[n]).length:Nat);rw[List.length_append];have:=h.eq;show g.nf+1+(G0.length:Int)=g.po+((D.length+1:Nat):Int);lia
theorem CX.finish{G0 due:List Str}(h0:∀v∈past,v∈N/\oO E v past=0)(hG:∀v∈G0,v∈N/\oO E v past=0)(hd:∀v,v∈due↔v∈G0)(h:CX E N past G0 G0 g):acX E N (past++due) g:=by
 have hc:∀v,oO E v (past++G0)=oO E v (past++due):=λ v=>VH λ x=>by rw[List.mem_append,List.mem_append,hd]
 have less:∀v,oO E v past=0->oO E v (past++due)=0:=λ v q=>m5.mpr λ p hp=>List.mem_append_left _ (m5.mp q p hp)
 refine⟨h.gN,h.gs,λ v hv hp=>?_,λ v=>?_,h.nd,?_,λ v hv=>?_,λ v hv=>?_⟩
 ·rw[List.mem_append,hd]at hp;rw[<-hc];exact h.np v hv (λ q=>hp (.inl q)) λ q=>hp (.inr q)
 ·rw[h.rl,hc,List.mem_append,hd];exact⟨λ q=>⟨q.1,λ w=>w.elim q.2.1 q.2.2.1,q.2.2.2⟩,λ q=>⟨q.1,λ w=>q.2.1 (.inl w),λ w=>q.2.1 (.inr w),q.2.2⟩⟩
 ·have:=h.eq;lia
 ·rcases List.mem_append.mp hv with q|q
  ·exact(h0 v q).1
  ·exact(hG v ((hd v).mp q)).1
 ·rcases List.mem_append.mp hv with q|q
  ·exact less v (h0 v q).2
  ·exact less v (hG v ((hd v).mp q)).2
end
structure m7(S:List O)(g:G)(k nd:Nat)(M:List Str)(nl:Str->Nat)(nv:Str->List Str):Prop where
 rep:bR S g
 stat:BK S
 k8:8<=k
 c0:S[k+0]?=some (.cell (some (.ref nd)))
 c1:∃o,S[k+1]?=some (.cell o)
 c2:∃o,S[k+2]?=some (.cell o)
 nds:∃ep,S[nd]?=some (.dict (M.map λ v=>(v,.ref (nl v))) ep)
 nls:∀v∈M,S[nl v]?=some (.list ((nv v).map .str))
 inj:∀v∈M,∀w∈M,nl v=nl w->v=w
 outd:¬ jw g nd
 outl:∀v∈M,¬ jw g (nl v)
 ge:8<=nd/\∀v∈M,8<=nl v
 off:∀v,v∉M->nv v=[]
 nvl:∀v,(nv v).length<=100
 mlen:M.length<=60
theorem FZ{S:List O}{g:G}(h:bR S g){a:Nat}(ha:jw g a):8<=a/\((∃kvs ep,S[a]?=some (.dict kvs ep))\/(∃d fs,S[a]?=some (.node d fs))\/∃xs,S[a]?=some (.list xs)):=by
 rcases ha with rfl|rfl|⟨v,hv,rfl|rfl⟩|q
 ·obtain⟨ep,e⟩:=h.fld;exact⟨h.ge.1,.inl ⟨_,_,e⟩⟩
 ·obtain⟨ep,e⟩:=h.dct;exact⟨h.ge.2.1,.inl ⟨_,_,e⟩⟩
 ·exact⟨(h.ge.2.2 v hv).1,.inr (.inl ⟨_,_,h.nod v hv⟩)⟩
 ·exact⟨(h.ge.2.2 v hv).2,.inr (.inr ⟨_,h.suc v hv⟩)⟩
 ·exact⟨(h.rdy _ q).1,.inr (.inr ⟨_,(h.rdy _ q).2.1⟩)⟩
theorem m8{S:List O}{g:G}(h:bR S g){a:Nat}{o:Option V}(e:S[a]?=some (.cell o)):¬ jw g a:=λ q=>by
 rcases(FZ h q).2 with⟨_,_,e'⟩|⟨_,_,e'⟩|⟨_,e'⟩<;>rw[e]at e'<;>cases e'
theorem RD{S:List O}{g:G}(h:bR S g){a:Nat}(ha:a < 8):¬ jw g a:=λ q=>by have:=(FZ h q).1;lia
theorem rA{S S':List O}(h:BK S)(k:∀a o,S[a]?=some o->a < 8->S'[a]?=some o):BK S':=by
 refine⟨k _ _ h.1 (by simp),λ i f e=>k _ _ (h.2 i f e) ?_⟩;have:i < dm.length:=(List.getElem?_eq_some_iff.mp e).1;have:dm.length=6:=rfl;lia
section
variable {S S':List O}{g g':G}{k nd:Nat}{M:List Str}{nl:Str->Nat}{nv:Str->List Str}(h:m7 S g k nd M nl nv)
include h
theorem m7.step(r':bR S' g')(st:cO S g S' g'):m7 S' g' k nd M nl nv:=by
 have keepc:∀{a:Nat}{o:Option V},S[a]?=some (.cell o)->S'[a]?=some (.cell o):=λ e=>st.keep _ _ e (m8 h.rep e)
 obtain⟨o1,e1⟩:=h.c1;obtain⟨o2,e2⟩:=h.c2;obtain⟨ep,e3⟩:=h.nds;exact⟨r',rA h.stat λ a o e ha=>st.keep a o e (RD h.rep ha),h.k8,keepc h.c0,⟨o1,keepc e1⟩,⟨o2,keepc e2⟩,⟨ep,st.keep _ _ e3 h.outd⟩,λ v hv=>st.keep _ _ (h.nls v hv) (h.outl v hv),h.inj,gV st h.outd (aQ e3),λ v hv=>gV st (h.outl v hv) (aQ (h.nls v hv)),h.ge,h.off,h.nvl,h.mlen⟩
theorem m7.push(J:List O):m7 (S++J) g k nd M nl nv:=h.step (h.rep.push J) (.push S J g)
theorem m7.pre(p:S <+: S'):m7 S' g k nd M nl nv:=by obtain⟨X,rfl⟩:=p;exact h.push X
theorem m7.cell{j:Nat}(hj:j=1\/j=2)(o:Option V):m7 (S.set (k+j) (.cell o)) g k nd M nl nv:=by
 obtain⟨ep,e3⟩:=h.nds;obtain⟨o1,e1⟩:=h.c1;obtain⟨o2,e2⟩:=h.c2;have ej:∃o',S[k+j]?=some (.cell o'):=by rcases hj with rfl|rfl;exact⟨o1,e1⟩;exact⟨o2,e2⟩
 obtain⟨oj,ej⟩:=ej;have hk8:=h.k8;have cs:∀i,i < 3->(∃o',S[k+i]?=some (.cell o'))->∃o',(S.set (k+j) (.cell o))[k+i]?=some (.cell o'):=λ i _ ⟨o',e⟩=>by
  by_cases q:j=i
  ·subst q;exact⟨o,iJ _ e⟩
  ·exact⟨o',bw (by lia) e⟩
 refine⟨h.rep.other (m8 h.rep ej) (dM ej h.rep.inst nofun) _,rA h.stat λ a o e ha=>bw (by lia) e,h.k8,bw (by lia) h.c0,cs 1 (by simp) h.c1,cs 2 (by simp) h.c2,⟨ep,aJ _ ej e3 nofun⟩,λ v hv=>aJ _ ej (h.nls v hv) nofun,h.inj,h.outd,h.outl,h.ge,h.off,h.nvl,h.mlen⟩
theorem m7.need{v:Str}(hv:v∈M)(f:Str)(hl:(nv v).length < 100):m7 (S.set (nl v) (.list ((nv v++[f]).map .str))) g k nd M nl (upd nv v (nv v++[f])):=by
 have ev:=h.nls v hv;obtain⟨ep,e3⟩:=h.nds;obtain⟨o1,e1⟩:=h.c1;obtain⟨o2,e2⟩:=h.c2;have hge:=h.ge.2 v hv;refine⟨h.rep.other (h.outl v hv) (dM ev h.rep.inst nofun) _,rA h.stat λ a o e ha=>bw (by lia) e,h.k8,aJ _ ev h.c0 nofun,⟨o1,aJ _ ev e1 nofun⟩,⟨o2,aJ _ ev e2 nofun⟩,⟨ep,aJ _ ev e3 nofun⟩,λ w hw=>?_,h.inj,h.outd,h.outl,h.ge,λ w hw=>(bG _ _ (λ q=>hw (by rw[q];exact hv))).trans (h.off w hw),λ w=>?_,h.mlen⟩
 ·by_cases q:w=v
  ·clear hv hl hge;subst q;rw[aY];exact iJ _ ev
  ·rw[bG _ _ q];exact bw (λ e=>q (h.inj v hv w hw e).symm) (h.nls w hw)
 ·unfold upd;split
  ·rw[List.length_append];show(nv v).length+1<=100;assumption
  ·exact h.nvl w
theorem m7.key{f:Str}(hf:f∉M)(hl:M.length < 60){ep:Nat}(e3:S[nd]?=some (.dict (M.map λ v=>(v,.ref (nl v))) ep)):
  m7 ((S++[O.list []]).set nd (cJ (M.map λ v=>(v,.ref (nl v))) ep f (.ref S.length))) g k nd (M++[f]) (upd nl f S.length) nv:=by
 have h1:=h.push [.list []];have e3':=au (J:=[O.list []]) e3;have ne:∀w∈M,w≠f:=λ w hw q=>hf (by rw[<-q];exact hw)
 have hd:cJ (M.map λ v=>(v,.ref (nl v))) ep f (.ref S.length)=.dict ((M++[f]).map λ w=>(w,.ref (upd nl f S.length w))) (ep+1):=by
  delta cJ lW
  rw[BR,decide_eq_false hf,if_neg Bool.false_ne_true,List.map_append,List.map_singleton,aY];congr 2;refine List.map_congr_left λ w hw=>?_
  rw[bG _ _ (ne w hw)]
 obtain⟨o1,e1⟩:=h1.c1;obtain⟨o2,e2⟩:=h1.c2;have hge:=h.ge.1;have lt:∀w∈M,nl w < S.length:=λ w hw=>aQ (h.nls w hw)
 have hnd:=aQ e3;rw[hd];refine⟨h1.rep.other h.outd (dM e3' h1.rep.inst nofun) _,rA h1.stat λ a o e ha=>bw (by lia) e,h.k8,aJ _ e3' h1.c0 nofun,⟨o1,aJ _ e3' e1 nofun⟩,⟨o2,aJ _ e3' e2 nofun⟩,⟨ep+1,iJ _ e3'⟩,λ w hw=>?_,λ w hw u hu q=>?_,h.outd,λ w hw=>?_,⟨hge,λ w hw=>?_⟩,λ w hw=>h.off w λ q=>hw (List.mem_append_left _ q),h.nvl,by rw[List.length_append];show M.length+1<=60;assumption⟩
 ·rcases List.mem_append.mp hw with hw|hw
  ·rw[bG _ _ (ne w hw)];exact aJ _ e3' (h1.nls w hw) nofun
  ·rw[List.mem_singleton.mp hw,aY,h.off f hf];exact aJ _ e3' (aP (S:=S) (.list [])) nofun
 ·rcases List.mem_append.mp hw with hw|hw<;>rcases List.mem_append.mp hu with hu|hu
  ·rw[bG _ _ (ne w hw),bG _ _ (ne u hu)]at q;exact h.inj w hw u hu q
  ·rw[List.mem_singleton.mp hu,bG _ _ (ne w hw),aY]at q;have:=lt w hw;lia
  ·rw[List.mem_singleton.mp hw,bG _ _ (ne u hu),aY]at q;have:=lt u hu;lia
  ·rw[List.mem_singleton.mp hw,List.mem_singleton.mp hu]
 ·rcases List.mem_append.mp hw with hw|hw
  ·rw[bG _ _ (ne w hw)];exact h.outl w hw
  ·rw[List.mem_singleton.mp hw,aY];exact bV h.rep
 ·rcases List.mem_append.mp hw with hw|hw
  ·rw[bG _ _ (ne w hw)];exact h.ge.2 w hw
  ·rw[List.mem_singleton.mp hw,aY];lia
end
theorem LK{L}{S:List O}{n:Nat}{xs:List Str}(e:S[n]?=some (.list (xs.map .str)))(hs:small xs.length=true)(x:Str):RG (.str x) (.ref n) ⟨L,S⟩=some (!decide (x∈xs)):=by
 show((S[n]?).bind (inO false x)).map _=_;rw[e];show((dW _).bind _).map _=_;rw[gh,Option.bind_some,if_pos hs,List.contains_eq_mem];rfl
noncomputable def cP(nv:Str->List Str)(past:List Str)(v:Str):Bool:=decide ((nv v).filter (λ p=>!decide (p∈past))=[])
noncomputable def iK(S:List O)(g:G)(a:Nat)(o:O):Prop:=S[a]?=some o/\¬ jw g a
theorem iK.step{S S':List O}{g g':G}{a:Nat}{o:O}(h:iK S g a o)(st:cO S g S' g'):iK S' g' a o:=⟨st.keep _ _ h.1 h.2,gV st h.2 (aQ h.1)⟩
theorem iK.push{S:List O}{g:G}{a:Nat}{o:O}(h:iK S g a o)(J:List O):iK (S++J) g a o:=h.step (.push S J g)
theorem iK.cell{S:List O}{g:G}{a k:Nat}{xs:List V}{o':Option V}(h:iK S g a (.list xs)){o:Option V}(e:S[k]?=some (.cell o')):iK (S.set k (.cell o)) g a (.list xs):=⟨aJ _ e h.1 nofun,h.2⟩
section
variable {S:List O}{g:G}{k nd:Nat}{M:List Str}{nl:Str->Nat}{nv:Str->List Str}(h:m7 S g k nd M nl nv) {cl:Nat->List V->St->ak V}{L:List (Str×Option V)}{past:List Str}{pl:Nat}
include h
theorem m7.needs{L}{v:Str}(hv:v∈M):cM (.ref nd) (.str v) ⟨L,S⟩=some (.ref (nl v)):=by
 obtain⟨ep,e⟩:=h.nds;rw[xJ e,qg,if_pos hv]
theorem VJ(hk:8<=S.length)(e1:S[k+1]?=some (.cell (some (.ref pl))))(ep:S[pl]?=some (.list (past.map .str)))(hp:past.length<=1000){v:Str}(hv:v∈M):
  ∃J,eF true ("one":Str) (qM cl k) (wZ cl k) (.ref (nl v)) ⟨L,S⟩=.ok (.ref S.length) ⟨L,S++[.list (((nv v).filter λ p=>!decide (p∈past)).map .str)]++J⟩:=by
 have hl:=h.nvl v;have en:=h.nls v hv;refine ju (x:=("one":Str)) (ifs:=qM cl k) (elt:=wZ cl k) (v:=.ref (nl v)) (xs:=nv v) (p:=λ p=>!decide (p∈past)) (cY en (by rw[List.length_map];exact aD (by lia))) hk (aD (by lia)) (λ L' J=>j9 en rfl) (λ c _ J=>⟨[],?_⟩) (λ c J=>rfl);have hg:∀S,aq ("one":Str) ⟨[(("one":Str),some (.str c))],S⟩=.ok (.str c) ⟨[(("one":Str),some (.str c))],S⟩:=λ S=>rfl
 have ni:=λ L=>LK (L:=L) (au (J:=J) ep) (aD (by lia)) c
 rw[List.append_nil];induction q:decide (c∈past)<;>rw[q]at ni<;>simp only[qM,hg,ak.bind_ok,(λ L=>dh (L:=L) (au (J:=J) e1)),ni,aA,Bool.not_true,Bool.not_false,Bool.false_eq_true,if_false,if_true]
theorem abj(hk:8<=S.length)(e1:S[k+1]?=some (.cell (some (.ref pl))))(ep:S[pl]?=some (.list (past.map .str)))(hp:past.length<=1000){ll:Nat}{left:List Str}(el:S[ll]?=some (.list (left.map .str)))(hl:left.length<=1000)(hM:∀v∈left,v∈M):
  ∃J,eF true ("node":Str) (qN cl k) (w5 cl k) (.ref ll) ⟨L,S⟩=.ok (.ref S.length) ⟨L,S++[.list ((left.filter (cP nv past)).map .str)]++J⟩:=by
 refine ju (x:=("node":Str)) (ifs:=qN cl k) (elt:=w5 cl k) (v:=.ref ll) (xs:=left) (p:=cP nv past) (cY el (by rw[List.length_map];exact aD (by lia))) hk (aD (by lia)) (λ L' J=>j9 el rfl) (λ c hc J=>?_) (λ c J=>rfl);have h1:=h.push J;have hc':=hM c hc;obtain⟨J1,j1⟩:=VJ h1 (cl:=cl) (L:=[(("node":Str),some (.str c))]) (by rw[List.length_append];exact Nat.lt_add_right _ (by assumption)) (au e1) (au ep) hp hc';have hg:∀S,aq ("node":Str) ⟨[(("node":Str),some (.str c))],S⟩=.ok (.str c) ⟨[(("node":Str),some (.str c))],S⟩:=λ S=>rfl
 have hlen:=h.nvl c;have eq:=λ L=>Lj (L:=L) (ys:=[]) (au (J:=[O.list []]) (au (J:=J1) (aP (S:=S++J) (.list (((nv c).filter λ p=>!decide (p∈past)).map .str))))) (aP _) (aD (by have:=List.length_filter_le (λ p=>!decide (p∈past)) (nv c);lia)) rfl
 refine⟨[.list (((nv c).filter λ p=>!decide (p∈past)).map .str)]++(J1++[.list []]),?_⟩;rw[<-List.append_assoc,<-List.append_assoc];unfold cP;induction q:decide ((nv c).filter (λ p=>!decide (p∈past))=[])<;>rw[q]at eq<;>simp only[qN,hg,ak.bind_ok,(λ L=>dh (L:=L) h1.c0),(λ L=>h1.needs (L:=L) hc'),bA,j1,bO,eq,aA,Bool.not_true,Bool.not_false,Bool.false_eq_true,if_false,if_true]
omit h in
theorem VK(hk:8<=S.length){dl:Nat}{due:List Str}(e2:S[k+2]?=some (.cell (some (.ref dl))))(ed:S[dl]?=some (.list (due.map .str)))(hd:due.length<=1000){ll:Nat}{left:List Str}(el:S[ll]?=some (.list (left.map .str)))(hl:left.length<=1000):
  ∃J,eF true ("node":Str) (qT cl k) (xg cl k) (.ref ll) ⟨L,S⟩=.ok (.ref S.length) ⟨L,S++[.list ((left.filter λ v=>!decide (v∈due)).map .str)]++J⟩:=by
 refine ju (x:=("node":Str)) (ifs:=qT cl k) (elt:=xg cl k) (v:=.ref ll) (xs:=left) (p:=λ v=>!decide (v∈due)) (cY el (by rw[List.length_map];exact aD (by lia))) hk (aD (by lia)) (λ L' J=>j9 el rfl) (λ c hc J=>⟨[],?_⟩) (λ c J=>rfl);have hg:∀S,aq ("node":Str) ⟨[(("node":Str),some (.str c))],S⟩=.ok (.str c) ⟨[(("node":Str),some (.str c))],S⟩:=λ S=>rfl
 have ni:=λ L=>LK (L:=L) (au (J:=J) ed) (aD (by lia)) c
 rw[List.append_nil];induction q:decide (c∈due)<;>rw[q]at ni<;>simp only[qT,hg,ak.bind_ok,(λ L=>dh (L:=L) (au (J:=J) e2)),ni,aA,Bool.not_true,Bool.not_false,Bool.false_eq_true,if_false,if_true]
end
theorem LQ{L}{S:List O}{n ep:Nat}{kvs:List (Str×V)}(e:S[n]?=some (.dict kvs ep))(hl:kvs.length < 64):nu [.ref n] ⟨L,S⟩=.ok (.ref S.length) ⟨L,S++[.list ((cC (kvs.map (·.1))).map .str)]⟩:=by
 exact(Gk (f:=Wc) e rfl).trans (if_pos (by rw[List.length_map];exact hl))
theorem Qz{L}{S:List O}{n:Nat}{ss:List Str}(e:S[n]?=some (.tup (ss.map .str)))(hl:ss.length < 64):nu [.ref n] ⟨L,S⟩=.ok (.ref S.length) ⟨L,S++[.list ((cC ss).map .str)]⟩:=by
 exact(Gk (f:=Wc) (o:=.tup _) e (gh ss)).trans (if_pos hl)
theorem oR{p:Str->Bool}{xs:List Str}(h:xs.Nodup):(xs.filter p).Nodup:=List.Pairwise.filter p h
structure zm(S:List O)(g:G)(k nd:Nat)(N:List Str)(nl:Str->Nat)(nv:Str->List Str)(E:List (Str×Str))(past left:List Str)(pl ll:Nat):Prop where
 lrep:m7 S g k nd N nl nv
 inv:acX E N past g
 rd:∃r,g.rd=some r
 cp:S[k+1]?=some (.cell (some (.ref pl)))
 kp:iK S g pl (.list (past.map .str))
 kl:iK S g ll (.list (left.map .str))
 lft:left=(cC N).filter λ v=>!decide (v∈past)
 cntE:past.length+left.length<=60
 hE:∀s p,(s,p)∈E->s∈N/\p∈N
 hnv:∀v p,p∈nv v↔(v,p)∈E
 noc:∀C:List Str,(∀v∈C,v∈N/\∃p∈C,v∈g.su p)->∀v∈C,v∉past
 esz:E.length<=200
section
variable {S:List O}{g:G}{k nd:Nat}{N:List Str}{nl:Str->Nat}{nv:Str->List Str}{E:List (Str×Str)}{past left:List Str}{pl ll:Nat}(h:zm S g k nd N nl nv E past left pl ll)
include h
theorem zm.k8:8<=S.length:=by have:=aQ h.lrep.c0;have:=h.lrep.k8;lia
theorem zm.ndN:N.Nodup:=by have:=h.lrep.rep.nd;rw[h.inv.gN]at this;exact this
theorem zm.lenN:N.length<=60:=h.lrep.mlen
theorem zm.mem_left(v:Str):v∈left↔v∈N/\v∉past:=by
 rw[h.lft,List.mem_filter,(fO N).mem_iff];simp
theorem zm.due_iff(v:Str):cP nv past v=true↔oO E v past=0:=by
 unfold cP;rw[decide_eq_true_eq,List.filter_eq_nil_iff,m5];exact⟨λ q p hp=>by have:=q p ((h.hnv v p).mpr hp);simpa using this,λ q p hp=>by have:=q p ((h.hnv v p).mp hp);simpa using this⟩
theorem zm.mem_due(v:Str):v∈left.filter (cP nv past)↔v∈g.rl:=by
 rw[List.mem_filter,h.mem_left,h.due_iff,h.inv.rl,and_assoc]
theorem zm.nd_left:left.Nodup:=by
 rw[h.lft];exact oR ((fO N).nodup_iff.mpr h.ndN)
theorem zm.sorted:cC g.rl=left.filter (cP nv past):=by
 refine(tU ?_ ?_).symm
 ·exact(List.perm_ext_iff_of_nodup (oR h.nd_left) h.inv.nd).mpr h.mem_due
 ·rw[h.lft];exact List.Pairwise.filter _ (List.Pairwise.filter _ (tR N))
theorem zm.empty:left.filter (cP nv past)=[]↔g.rl=[]:=by
 rw[<-h.sorted];constructor
 ·intro q;have:=(fO g.rl).length_eq;rw[q]at this;exact List.length_eq_zero_iff.mp this.symm
 ·intro q;rw[q];exact(fO []).eq_nil
theorem zm.stop(q:left.filter (cP nv past)=[]):left≠[]↔Cyc g.su N:=by
 have hp:∀v p,v∈g.su p↔(v,p)∈E:=λ v p=>by rw[h.inv.gs,qp]
 constructor
 ·intro hl;refine⟨left,hl,λ v hv=>?_⟩;refine⟨((h.mem_left v).mp hv).1,?_⟩;have hd:¬ oO E v past=0:=λ w=>by
   have:v∈left.filter (cP nv past):=List.mem_filter.mpr ⟨hv,(h.due_iff v).mpr w⟩;rw[q]at this;cases this
  have:¬∀p,(v,p)∈E->p∈past:=λ w=>hd (m5.mpr w)
  have:∃p,(v,p)∈E/\p∉past:=Classical.byContradiction λ w=>this λ p hp=>Classical.byContradiction λ hn=>w ⟨p,hp,hn⟩
  obtain⟨p,h1,h2⟩:=this;exact⟨p,(h.mem_left p).mpr ⟨(h.hE v p h1).2,h2⟩,(hp v p).mpr h1⟩
 ·rintro⟨C,hC,hc⟩ hl;obtain⟨c,hcC⟩:=List.exists_mem_of_ne_nil C hC;have:=h.noc C hc c hcC;have:c∈left:=(h.mem_left c).mpr ⟨(hc c hcC).1,this⟩;rw[hl]at this;cases this
theorem zm.past_noc:∀C:List Str,(∀v∈C,v∈N/\∃p∈C,v∈g.su p)->∀v∈C,v∉past++left.filter (cP nv past):=λ C hc v hv q=>by
 rcases List.mem_append.mp q with q|q
 ·exact h.noc C hc v hv q
 ·have h1:=(h.due_iff v).mp (List.mem_filter.mp q).2;obtain⟨_,p,hp,hvp⟩:=hc v hv;rw[h.inv.gs,qp]at hvp;exact h.noc C hc p hp (m5.mp h1 p hvp)
theorem zm.left':left.filter (λ v=>!decide (v∈left.filter (cP nv past)))=(cC N).filter λ v=>!decide (v∈past++left.filter (cP nv past)):=by
 have:∀due:List Str,left.filter (λ v=>!decide (v∈due))=(cC N).filter λ v=>!decide (v∈past++due):=λ due=>by
  simp only[h.lft,List.filter_filter];refine List.filter_congr λ v _=>?_
  by_cases a:v∈past<;>by_cases b:v∈due<;>simp[b]
 exact this _
omit h in
theorem abk{left past:List Str}{nv:Str->List Str}:(left.filter (λ v=>!decide (v∈left.filter (cP nv past)))).length+(left.filter (cP nv past)).length=left.length:=by
 have e:left.filter (λ v=>!decide (v∈left.filter (cP nv past)))=left.filter λ v=>!cP nv past v:=List.filter_congr λ v hv=>by
  induction q:cP nv past v with
  |true=>rw[decide_eq_true (List.mem_filter.mpr ⟨hv,q⟩)]
  |false=>rw[decide_eq_false (λ w=>by rw[(List.mem_filter.mp w).2]at q;contradiction)]
 rw[e];have:∀(xs:List Str) (p:Str->Bool),(xs.filter λ v=>!p v).length+(xs.filter p).length=xs.length:=by
  intro xs p;induction xs with
  |nil=>rfl
  |cons x xs ih=>induction q:p x<;>simp[q]<;>lia
 exact this left _
end
section
variable {S:List O}{g:G}{k nd:Nat}{N:List Str}{nl:Str->Nat}{nv:Str->List Str}{E:List (Str×Str)}{past left:List Str}{pl ll:Nat}(h:zm S g k nd N nl nv E past left pl ll)
include h
theorem zm.push(J:List O):zm (S++J) g k nd N nl nv E past left pl ll:=⟨h.lrep.push J,h.inv,h.rd,au h.cp,h.kp.push J,h.kl.push J,h.lft,h.cntE,h.hE,h.hnv,h.noc,h.esz⟩
theorem zm.cell2(o:Option V):zm (S.set (k+2) (.cell o)) g k nd N nl nv E past left pl ll:=by
 obtain⟨o2,e2⟩:=h.lrep.c2;exact⟨h.lrep.cell (.inr rfl) o,h.inv,h.rd,bw (by simp) h.cp,h.kp.cell e2,h.kl.cell e2,h.lft,h.cntE,h.hE,h.hnv,h.noc,h.esz⟩
theorem r_0{L:List (Str×Option V)}(hl:aN L ("left":Str)=some (.ref ll)):
  ∃S' dl,qO (ao 8) k ⟨L,S⟩=.ok .next ⟨L,S'⟩/\zm S' g k nd N nl nv E past left pl ll/\S'[k+2]?=some (.cell (some (.ref dl)))/\iK S' g dl (.list ((left.filter (cP nv past)).map .str)):=by
 have hc:=h.cntE;obtain⟨J,j1⟩:=abj h.lrep (cl:=ao 8) (L:=L) h.k8 h.cp h.kp.1 (by lia) h.kl.1 (by lia) (λ v hv=>((h.mem_left v).mp hv).1);have h1:=h.push ([.list ((left.filter (cP nv past)).map .str)]++J);rw[<-List.append_assoc]at h1;obtain⟨o2,e2⟩:=h1.lrep.c2;have kd:iK (S++[O.list ((left.filter (cP nv past)).map .str)]++J) g S.length (.list ((left.filter (cP nv past)).map .str)):=⟨lJ _ _ _,bV h.lrep.rep⟩;refine⟨_,S.length,?_,h1.cell2 (some (.ref S.length)),iJ _ e2,kd.cell e2⟩;simp only[qO,(gL hl),ak.bind_ok,j1,((ru (L:=L) (v:=.ref S.length) e2 (by have:=h.lrep.k8;exact Nat.lt_add_right _ (by assumption))))]
end
theorem QB(b:Bool)(Y:St):rR .IsNot (.bool b) (.bool b) Y=some false:=by
 show some (!(b==b))=_;rw[beq_self_eq_true];rfl
section
variable {S:List O}{g:G}{k nd:Nat}{N:List Str}{nl:Str->Nat}{nv:Str->List Str}{E:List (Str×Str)}{past left:List Str}{pl ll dl:Nat}(h:zm S g k nd N nl nv E past left pl ll) (hd2:S[k+2]?=some (.cell (some (.ref dl)))) (kd:iK S g dl (.list ((left.filter (cP nv past)).map .str)))
include h hd2 kd
theorem adZ:(left.filter (cP nv past)).length<=60:=by have:=h.cntE;have:=List.length_filter_le (cP nv past) left;lia
theorem r_1{L:List (Str×Option V)}(hs:aN L ("sorter":Str)=some (.ref g.i)):qP (ao 8) k ⟨L,S⟩=.ok .next ⟨L,S++[.list []]⟩:=by
 obtain⟨r,hr⟩:=h.rd;have ac:=yu h.lrep.rep hr 7 L;have hdl:=adZ h hd2 kd;have e1:(decide (g.nf < g.po)||!g.rl.isEmpty)=!decide (left.filter (cP nv past)=[]):=by
  rw[decide_eq_false (by have:=h.inv.eq;lia)];congr 1;by_cases q:g.rl=[]
  ·rw[decide_eq_true (h.empty.mpr q),q];rfl
  ·rw[decide_eq_false (λ w=>q (h.empty.mp w))];induction e:g.rl with
   |nil=>exact absurd e q
   |cons _ _=>rfl
 rw[e1]at ac;simp only[qP,(gL hs),ak.bind_ok,(λ args L=>h.lrep.rep.meth (cl:=ao 8) (args:=args) (name:=("is_active":Str)) (f:=106) (L:=L) (by kernel_rfl)),ac,(λ L=>dh (L:=L) hd2),bO,(λ L=>Bx (L:=L) kd.1 (aD (by lia))),aA,QB,Bool.false_eq_true,if_false]
end
structure Mid(S:List O)(g:G)(k nd:Nat)(N:List Str)(nl:Str->Nat)(nv:Str->List Str)(E:List (Str×Str))(past left G0 D:List Str)(pl ll dl t:Nat):Prop where
 lrep:m7 S g k nd N nl nv
 inv:CX E N past G0 D g
 rd:∃r,g.rd=some r
 cp:S[k+1]?=some (.cell (some (.ref pl)))
 cd:S[k+2]?=some (.cell (some (.ref dl)))
 kp:iK S g pl (.list (past.map .str))
 kl:iK S g ll (.list (left.map .str))
 kd:iK S g dl (.list ((left.filter (cP nv past)).map .str))
 kt:iK S g t (.tup (G0.map .str))
theorem Mid.step{S S':List O}{g g':G}{k nd:Nat}{N:List Str}{nl:Str->Nat}{nv:Str->List Str}{E:List (Str×Str)}{past left G0 D D':List Str}{pl ll dl t:Nat}(h:Mid S g k nd N nl nv E past left G0 D pl ll dl t)(r':bR S' g')(st:cO S g S' g')(i':CX E N past G0 D' g')(hr:g'.rd=g.rd):Mid S' g' k nd N nl nv E past left G0 D' pl ll dl t:=
 ⟨h.lrep.step r' st,i',by rw[hr];exact h.rd,st.keep _ _ h.cp (m8 h.lrep.rep h.cp),st.keep _ _ h.cd (m8 h.lrep.rep h.cd),h.kp.step st,h.kl.step st,h.kd.step st,h.kt.step st⟩
section
variable {S:List O}{g:G}{k nd:Nat}{N:List Str}{nl:Str->Nat}{nv:Str->List Str}{E:List (Str×Str)}{past left:List Str}{pl ll dl:Nat}(h:zm S g k nd N nl nv E past left pl ll) (hd2:S[k+2]?=some (.cell (some (.ref dl)))) (kd:iK S g dl (.list ((left.filter (cP nv past)).map .str)))
include h hd2 kd
theorem r_2{L:List (Str×Option V)}(hs:aN L ("sorter":Str)=some (.ref g.i)):
  ∃S' g' t,qQ (ao 8) k ⟨L,S⟩=.ok .next ⟨aZ L ("given":Str) (.ref t),S'⟩/\Mid S' g' k nd N nl nv E past left g.rl [] pl ll dl t/\g'.i=g.i:=by
 obtain⟨r,hr⟩:=h.rd;obtain⟨S',t,c1,c2,c3,c4,c5,c6⟩:=Qq h.lrep.rep hr (λ v hv=>by rw[h.inv.gN];exact((h.inv.rl v).mp hv).1) 7 L;refine⟨S',_,t,?_,⟨h.lrep.step c2 c3,h.inv.begin,⟨r,hr⟩,c3.keep _ _ h.cp (m8 h.lrep.rep h.cp),c3.keep _ _ hd2 (m8 h.lrep.rep hd2),h.kp.step c3,h.kl.step c3,kd.step c3,c4,c6⟩,rfl⟩;simp only[qQ,(gL hs),ak.bind_ok,(λ args L=>h.lrep.rep.meth (cl:=ao 8) (args:=args) (name:=("get_ready":Str)) (f:=99) (L:=L) (by kernel_rfl)),c1,sL]
end
theorem LR{L}{S:List O}{a:Nat}{xs:List Str}(ea:S[a]?=some (.list (xs.map .str)))(h1:small xs.length=true):yw (.ref a) (.ref S.length) ⟨L,S++[.list []]⟩=some (decide (xs=[])):=
 Lj (ys:=[]) (au ea) (aP _) h1 rfl
theorem is_bool(a b:Bool):Mg (.bool a) (.bool b)=some (a==b):=rfl
section
variable {S:List O}{g:G}{k nd:Nat}{N:List Str}{nl:Str->Nat}{nv:Str->List Str}{E:List (Str×Str)}{past left G0 D:List Str}{pl ll dl t:Nat}(h:Mid S g k nd N nl nv E past left G0 D pl ll dl t) {L:List (Str×Option V)}
include h
theorem Mid.push(J:List O):Mid (S++J) g k nd N nl nv E past left G0 D pl ll dl t:=h.step (h.lrep.rep.push J) (.push S J g) h.inv rfl
theorem r_3(hso:cC G0=left.filter (cP nv past))(hl:G0.length < 64)(hg:aN L ("given":Str)=some (.ref t)):∃J,qR (ao 8) k ⟨L,S⟩=.ok .next ⟨L,S++J⟩:=by
 have hlen:(cC G0).length=G0.length:=(fO G0).length_eq;refine⟨[.list ((cC G0).map .str)],?_⟩;simp only[qR,(gL hg),ak.bind_ok,(λ L=>Qz (L:=L) h.kt.1 hl),(λ L=>dh (L:=L) (au (J:=[O.list ((cC G0).map .str)]) h.cd)),(λ L=>Lk (L:=L) (aP (S:=S) (.list ((cC G0).map .str))) (au (J:=[O.list ((cC G0).map .str)]) h.kd.1) (aD (by lia)) (by rw[<-hso];exact aD (by lia))),(decide_eq_true hso),Bool.not_true,aA,Bool.false_eq_true,if_false]
theorem ajF(hd:left.filter (cP nv past)≠[])(hl:(left.filter (cP nv past)).length<=60):∃J,mX (ao 8) k ⟨L,S⟩=.ok .next ⟨L,S++J⟩:=by
 refine⟨[.list []],?_⟩;simp only[mX,ak.bind_ok,(λ L=>dh (L:=L) h.cd),bO,(λ L=>LR (L:=L) h.kd.1 (aD (by lia))),(decide_eq_false hd),aA,Bool.false_eq_true,if_false]
theorem ajG(hd:left.filter (cP nv past)=[])(hl:left.length<=60){ring:Bool}(hr:aN L ("ringed":Str)=some (.bool ring))(hlf:aN L ("left":Str)=some (.ref ll))(hring:ring=true↔left≠[]):∃S',mX (ao 8) k ⟨L,S⟩=.ok (.ret (.bool true)) ⟨L,S'⟩:=by
 have e:(ring==!decide (left=[]))=true:=by
  clear hr;by_cases q:left=[]
  ·have:ring=false:=by induction ring with
    |false=>rfl
    |true=>exact absurd q (hring.mp rfl)
   rw[decide_eq_true q,this];rfl
  ·rw[decide_eq_false q,hring.mpr q];rfl
 refine⟨S++[.list []]++[.list []],?_⟩;simp only[mX,Bk,uO,(gL hr),(gL hlf),ak.bind_ok,(λ L=>dh (L:=L) h.cd),bO,(λ L=>LR (L:=L) h.kd.1 (by rw[hd];rfl)),(decide_eq_true hd),aA,if_true,(λ L=>Bx (L:=L) (au (J:=[O.list []]) h.kl.1) (aD (by lia))),is_bool,e,bH]
end
inductive RoI(S:List O)(i k nd:Nat)(N:List Str)(nl:Str->Nat)(nv:Str->List Str)(E:List (Str×Str))(past left G0:List Str)(pl ll dl t:Nat)(Lf:Option V->List (Str×Option V))(rest:List Str)(Y:St):Prop
 |mk (D:List Str) (S':List O) (g':G) (o:Option V) (hD:D++rest=G0) (e:Y=⟨Lf o,S'⟩) (m:Mid S' g' k nd N nl nv E past left G0 D pl ll dl t) (hi:g'.i=i) (hl:S.length<=S'.length)
inductive R5(S:List O)(i k nd:Nat)(N:List Str)(nl:Str->Nat)(nv:Str->List Str)(E:List (Str×Str))(past left G0:List Str)(pl ll dl t:Nat)(Lf:Option V->List (Str×Option V))(r:ak Fl):Prop
 |mk (S':List O) (g':G) (o:Option V) (e:r=.ok .next ⟨Lf o,S'⟩) (m:Mid S' g' k nd N nl nv E past left G0 G0 pl ll dl t) (hi:g'.i=i) (hl:S.length<=S'.length)
theorem r_5{S:List O}{g:G}{k nd:Nat}{N:List Str}{nl:Str->Nat}{nv:Str->List Str}{E:List (Str×Str)}{past left G0:List Str}{pl ll dl t:Nat}(h:Mid S g k nd N nl nv E past left G0 [] pl ll dl t){i:Nat}(hi:g.i=i)
  (hE:∀s p,(s,p)∈E->s∈N/\p∈N) (hesz:E.length<=200) (hp0:∀v∈past,oO E v past=0) (hG:∀v∈G0,v∈N/\v∉past/\oO E v past=0) (hnd:G0.Nodup)
  {Lf:Option V->List (Str×Option V)}(h1:∀o v,aZ (Lf o) ("node":Str) v=Lf (some v)) (h2:∀o,aN (Lf o) ("sorter":Str)=some (.ref i)) (h3:∀v,aN (Lf (some v)) ("node":Str)=some v) (h4:∀o,aN (Lf o) ("given":Str)=some (.ref t)) (o0:Option V):
  R5 S i k nd N nl nv E past left G0 pl ll dl t Lf (w6 (ao 8) k ⟨Lf o0,S⟩):=by
 subst hi;refine lU λ Zz toG=>?_
 have hlN:N.length<=60:=h.lrep.mlen;have hG0:G0.length<=60:=by
  have:=vB hnd (λ v hv=>(hG v hv).1);exact Nat.le_trans (by assumption) (by assumption)
 obtain⟨Y',f1,D,S',g',o,hD,rfl,m,hgi,hlen⟩:=fK (f:=V.str) (ok:=aR (.ref t) ⟨Lf o0,S⟩) (body:=λ v Y=>sZ (ao 8) k (aF ("node":Str) v Y))
  (RoI S g.i k nd N nl nv E past left G0 pl ll dl t Lf)
  (λ rest Y ⟨_,_,_,_,_,e,m,_,_⟩=>by rw[e];exact d8 h.kt.1 m.kt.1)
  (λ n rest Y hI=>by
   obtain⟨D,S',g',o,hD,rfl,m,hgi,hlen⟩:=hI;refine lU λ Zz toG=>?_
   have hn:n∈G0:=by rw[<-hD];exact List.mem_append_right _ (.head _)
   have hnD:n∉D:=λ q=>by
    rw[<-hD]at hnd;exact(List.nodup_append.mp hnd).2.2 n q n (by simp) rfl
   obtain⟨r,hr⟩:=m.rd;have me:=λ args L=>m.lrep.rep.meth (cl:=ao 8) (args:=args) (name:=("is_active":Str)) (f:=106) (L:=L) (by kernel_rfl)
   have me2:=λ args L=>m.lrep.rep.meth (cl:=ao 8) (args:=args) (name:=("done":Str)) (f:=120) (L:=L) (by kernel_rfl)
   rw[hgi]at me me2;have ac:=yu m.lrep.rep hr 7 (Lf (some (.str n)));have hlt:D.length < G0.length:=by rw[<-hD,List.length_append,List.length_cons];simp
   rw[decide_eq_true (by have:=m.inv.eq;lia),hgi]at ac;have ac':ao 8 106 [.ref g.i] ⟨Lf (some (.str n)),S'⟩=.ok (.bool true) ⟨Lf (some (.str n)),S'⟩:=ac;have hsuE:∀p,(g'.su p).length<=200:=λ p=>by
    rw[m.inv.gs];unfold qm;rw[List.length_map];exact Nat.le_trans (List.length_filter_le ..) hesz
   have hrlN:g'.rl.length<=60:=by
    have:=vB m.inv.nd (λ v hv=>((m.inv.rl v).mp hv).1);exact Nat.le_trans (by assumption) (by assumption)
   obtain⟨S'',d1,d2,d3⟩:=Vr m.lrep.rep hr (v:=n) (by rw[m.inv.gN];exact(hG n hn).1) (m.inv.out n hn hnD) (λ s hs=>by rw[m.inv.gs,qp]at hs;rw[m.inv.gN];exact(hE s n hs).1) (by have:=hsuE n;lia) 7 (Lf (some (.str n)));rw[hgi]at d1;refine toG ⟨.next,⟨Lf (some (.str n)),S''⟩,.inl rfl,?_,D++[n],S'',Ls g' n,_,by rw[<-hD,List.append_assoc];rfl,rfl,m.step d2 d3 (CX.done hp0 (λ s p q=>(hE s p q).1) (λ v hv=>(hG v hv).2) hn hnD (λ v hv=>by rw[<-hD];exact List.mem_append_left _ hv) m.inv) rfl,d3.same.trans hgi,Nat.le_trans hlen d3.len⟩;rw[sL,h1];simp only[sZ,uP,uQ,(gL (h2 (some (.str n)))),(gL (h3 (.str n))),ak.bind_ok,me,ac',bx,aA,Bool.not_true,Bool.false_eq_true,if_false,aB,me2,d1])
  G0 ⟨Lf o0,S⟩ ⟨[],S,g,o0,rfl,rfl,h,rfl,Nat.le_refl _⟩
 rw[List.append_nil]at hD;cases hD;refine toG ⟨S',g',o,?_,m,hgi,hlen⟩;simp only[w6,(gL (h4 o0)),ak.bind_ok,fC,(λ L=>gw (L:=L) h.kt.1 (by rw[List.length_map];exact aD (by lia))),f1];rfl
noncomputable def FR(q:Os)(ring:Bool)(l n gv:Option V):List (Str×Option V):=FB ((((q.s18 (some (.bool ring))).s19 l).s20 n).s21 gv)
theorem ah9{S T:List O}(h:S <+: T):S.length<=T.length:=h.length_le
section
variable {S:List O}{g:G}{k nd:Nat}{N:List Str}{nl:Str->Nat}{nv:Str->List Str}{E:List (Str×Str)}{past left G0:List Str}{pl ll dl t:Nat}{L:List (Str×Option V)}
theorem ajH(h:Mid S g k nd N nl nv E past left G0 G0 pl ll dl t)(hk:8<=S.length)(hl1:past.length+left.length<=60){l:Nat}(hl:l=ll)(hlf:aN L ("left":Str)=some (.ref l)):
  ∃S' pl' ll',aj (w7 (ao 8) k ⟨L,S⟩) (λ Y=>aj (xj (ao 8) k Y) λ Y=>.ok .next Y)=.ok .next ⟨aZ L ("left":Str) (.ref ll'),S'⟩/\m7 S' g k nd N nl nv/\S'[k+1]?=some (.cell (some (.ref pl')))/\iK S' g pl' (.list ((past++left.filter (cP nv past)).map .str))/\iK S' g ll' (.list ((left.filter λ v=>!decide (v∈left.filter (cP nv past))).map .str)):=by
 subst hl;have hdl:(left.filter (cP nv past)).length<=60:=by have:=List.length_filter_le (cP nv past) left;lia
 have cp1:=au (J:=[O.list (past.map V.str++(left.filter (cP nv past)).map V.str)]) h.cp;have hk8:=h.lrep.k8;have pc:=λ L=>ru (L:=L) (v:=.ref S.length) cp1 (by exact Nat.le_succ_of_le (by assumption))
 have l1:=(h.lrep.push [.list (past.map V.str++(left.filter (cP nv past)).map V.str)]).cell (.inl rfl) (some (.ref S.length));have c1:=iJ (.cell (some (.ref S.length))) cp1;have kn:iK (S++[O.list (past.map V.str++(left.filter (cP nv past)).map V.str)]) g S.length (.list ((past++left.filter (cP nv past)).map .str)):=⟨by rw[List.map_append];exact aP _,bV h.lrep.rep⟩;have kn1:=kn.cell (o:=some (.ref S.length)) cp1;have kl1:=(h.kl.push [.list (past.map V.str++(left.filter (cP nv past)).map V.str)]).cell (o:=some (.ref S.length)) cp1;have kd1:=(h.kd.push [.list (past.map V.str++(left.filter (cP nv past)).map V.str)]).cell (o:=some (.ref S.length)) cp1;have cd1:((S++[O.list (past.map V.str++(left.filter (cP nv past)).map V.str)]).set (k+1) (.cell (some (.ref S.length))))[k+2]?=some (.cell (some (.ref dl))):=bw (by simp) (au h.cd);have hS1:S.length<=((S++[O.list (past.map V.str++(left.filter (cP nv past)).map V.str)]).set (k+1) (.cell (some (.ref S.length)))).length:=by rw[List.length_set,List.length_append];simp
 generalize(S++[O.list (past.map V.str++(left.filter (cP nv past)).map V.str)]).set (k+1) (.cell (some (.ref S.length)))=S1 at*;obtain⟨J,j1⟩:=VK (cl:=ao 8) (L:=L) (Nat.le_trans hk hS1) cd1 kd1.1 (by lia) kl1.1 (by lia);refine⟨S1++[.list ((left.filter λ v=>!decide (v∈left.filter (cP nv past))).map .str)]++J,S.length,S1.length,?_,(l1.push _).push J,au (au c1),(kn1.push _).push J,(⟨lJ _ _ _,bV l1.rep⟩)⟩;simp only[w7,xj,(gL hlf),ak.bind_ok,(λ L=>dh (L:=L) h.cp),(λ L=>dh (L:=L) h.cd),(λ L=>add_list (L:=L) h.kp.1 h.kd.1 (by rw[List.length_map,List.length_map];exact aD (by lia))),pc,aB,j1,sL]
end
noncomputable def af9(r:ak Fl):Prop:=∃L S,r=.ok (.ret (.bool true)) ⟨L,S⟩
inductive abm(k nd:Nat)(N:List Str)(nl:Str->Nat)(nv:Str->List Str)(E:List (Str×Str))(q:Os)(i:Nat)(ring:Bool)(su:Str->List Str)(n:Nat)(Y:St):Prop
 |mk (S:List O) (g:G) (past left:List Str) (pl ll:Nat) (n' gv:Option V) (e:Y=⟨FR q ring (some (.ref ll)) n' gv,S⟩) (hn:n=left.length) (h:zm S g k nd N nl nv E past left pl ll) (hi:g.i=i) (hs:g.su=su)
inductive aga(I:Nat->St->Prop)(n:Nat)(r:ak Fl):Prop
 |ret (h:af9 r)
 |on {Y:St}(m:Nat) (e:r=.ok .next Y) (hm:m < n) (h:I m Y)
section
variable {S:List O}{g:G}{k nd:Nat}{N:List Str}{nl:Str->Nat}{nv:Str->List Str}{E:List (Str×Str)}{past left:List Str}{pl ll:Nat}(h:zm S g k nd N nl nv E past left pl ll)
include h
theorem ahw(q:Os){i:Nat}(hi:g.i=i)(hq:q.a1=some (.ref i)){ring:Bool}(hring:ring=true↔Cyc g.su N)(n gv:Option V):
  aga (abm k nd N nl nv E q i ring g.su) left.length (Ij (ao 8) k ⟨FR q ring (some (.ref ll)) n gv,S⟩):=by
 refine lU λ Zz toG=>?_
 obtain⟨S1,dl,b0,h1,d1,k1⟩:=r_0 h (L:=FR q ring (some (.ref ll)) n gv) rfl;obtain⟨S3,g3,t,b2,m3,hi3⟩:=r_2 (h1.push [.list []]) (au (J:=[O.list []]) d1) (k1.push [O.list []]) (L:=FR q ring (some (.ref ll)) n gv) (by rw[hi];exact hq);have hc:=h.cntE;obtain⟨J4,b3⟩:=r_3 m3 h.sorted (Nat.lt_of_le_of_lt (Nat.le_trans (vB h.inv.nd (λ v hv=>((h.inv.rl v).mp hv).1)) h.lenN) (by decide)) (L:=aZ (FR q ring (some (.ref ll)) n gv) ("given":Str) (.ref t)) rfl;have m4:=m3.push J4;have start:∀r,aj (qO (ao 8) k ⟨FR q ring (some (.ref ll)) n gv,S⟩) (λ Y=>aj (qP (ao 8) k Y) λ Y=>aj (qQ (ao 8) k Y) λ Y=>aj (qR (ao 8) k Y) r)=r ⟨FR q ring (some (.ref ll)) n (some (.ref t)),S3++J4⟩:=λ r=>by
  simp only[b0,(r_1 h1 d1 k1 (L:=FR q ring (some (.ref ll)) n gv) (by rw[hi];exact hq)),b2,aB,b3];rfl
 unfold Ij at toG;simp only[start]at toG;by_cases hd:left.filter (cP nv past)=[]
 ·obtain⟨S',b4⟩:=ajG m4 hd (by lia) (L:=FR q ring (some (.ref ll)) n (some (.ref t))) (ring:=ring) rfl rfl (hring.trans (h.stop hd).symm);exact toG (.ret ⟨_,S',congrArg (λ r=>aj r _) b4⟩)
 ·obtain⟨J5,b4⟩:=ajF m4 hd (adZ h1 d1 k1) (L:=FR q ring (some (.ref ll)) n (some (.ref t)));have hrl:∀v∈g.rl,v∈N/\v∉past/\oO E v past=0:=λ v hv=>(h.inv.rl v).mp hv
  obtain⟨S6,g6,n6,b5,m6,hi6,len6⟩:=r_5 (m4.push J5) (hi3.trans hi) h.hE h.esz h.inv.old hrl h.inv.nd (Lf:=λ o=>FR q ring (some (.ref ll)) o (some (.ref t))) (λ _ _=>rfl) (λ _=>hq) (λ _=>rfl) (λ _=>rfl) n;obtain⟨S7,pl',ll',b7,l7,c7,kp7,kl7⟩:=ajH m6 (Nat.le_trans m6.lrep.k8 (Nat.le_of_lt (Nat.lt_of_succ_lt (aQ m6.cp)))) hc (l:=ll) rfl (L:=FR q ring (some (.ref ll)) n6 (some (.ref t))) rfl;have hlen:=abk (left:=left) (past:=past) (nv:=nv);have hpos:0 < (left.filter (cP nv past)).length:=List.length_pos_iff.mpr hd;have hsu:g6.su=g.su:=funext λ p=>by rw[m6.inv.gs,h.inv.gs]
  refine toG (.on (left.filter λ v=>!decide (v∈left.filter (cP nv past))).length (th b4 (th b5 b7)) (by lia)
   ⟨S7,g6,past++left.filter (cP nv past),_,pl',ll',n6,some (.ref t),rfl,rfl,⟨l7,?_,m6.rd,c7,kp7,kl7,h.left',?_,h.hE,h.hnv,?_,h.esz⟩,hi6,hsu⟩)
  ·exact CX.finish (λ v hv=>⟨h.inv.sub v hv,h.inv.old v hv⟩) (λ v hv=>⟨(hrl v hv).1,(hrl v hv).2.2⟩) h.mem_due m6.inv
  ·rw[List.length_append];lia
  ·intro C hC v hv;exact h.past_noc C (λ w hw=>by have:=hC w hw;rw[hsu]at this;exact this) v hv
theorem agb(q:Os){i:Nat}(hi:g.i=i)(hq:q.a1=some (.ref i)){ring:Bool}(hring:ring=true↔Cyc g.su N)(n gv:Option V):af9 (Ik (ao 8) k ⟨FR q ring (some (.ref ll)) n gv,S⟩):=by
 unfold Ik;have hc:=h.cntE;refine rz (Z:=af9) (abm k nd N nl nv E q i ring g.su) (λ m Y hI=>?_) wf left.length _ (by show _ < 100000;lia) ⟨S,g,past,left,pl,ll,n,gv,rfl,rfl,h,hi,rfl⟩;obtain⟨S',g',past',left',pl',ll',n',gv',rfl,rfl,h',hi',hsu'⟩:=hI;refine lU λ Zz toG=>?_
 rw[<-hsu']at toG;cases ahw h' q hi' hq (ring:=ring) (by rw[hsu'];exact hring) n' gv' with
 |ret b=>obtain⟨L',S'',b⟩:=b;exact toG (.ret rfl b ⟨L',S'',rfl⟩)
 |on m b hlt h2=>exact toG (.on m rfl b hlt h2)
end
theorem aia(E F:List (Str×Str))(v:Str)(p:List Str):oO (E++F) v p=oO E v p+oO F v p:=by unfold oO;rw[List.filter_append,List.length_append]
theorem ahx(E F:List (Str×Str))(p:Str):qm (E++F) p=qm E p++qm F p:=by unfold qm;rw[List.filter_append,List.map_append]
structure tE(S:List O)(g:G)(k nd:Nat)(N M:List Str)(nl:Str->Nat)(nv:Str->List Str)(E:List (Str×Str)):Prop where
 lrep:m7 S g k nd M nl nv
 gN:g.N=N
 rd:g.rd=none
 gs:∀p,g.su p=qm E p
 gp:∀v,g.np v=oO E v []
 po:g.po=0
 nf:g.nf=0
section
variable {S:List O}{g:G}{k nd:Nat}{N M:List Str}{nl:Str->Nat}{nv:Str->List Str}{E:List (Str×Str)}(h:tE S g k nd N M nl nv E)
include h
theorem tE.push(J:List O):tE (S++J) g k nd N M nl nv E:=⟨h.lrep.push J,h.gN,h.rd,h.gs,h.gp,h.po,h.nf⟩
theorem tE.k8:8<=S.length:=by have:=aQ h.lrep.c0;have:=h.lrep.k8;lia
theorem tE.su_len(hE:E.length<=100)(p:Str):(g.su p).length<=100:=by
 rw[h.gs];unfold qm;rw[List.length_map];exact Nat.le_trans (List.length_filter_le ..) hE
theorem tE.add1(x:Str)(hN:N.length < 60)(l):∃S' g',ao 8 87 [.ref g.i,.str x] ⟨l,S⟩=.ok .none ⟨l,S'⟩/\tE S' g' k nd (fB N x) M nl nv E/\cO S g S' g':=by
 obtain⟨S',g',c,a⟩:=Mine.add1 h.lrep.rep 4 l x h.rd (by rw[h.gN];exact hN) h.k8;exact⟨S',g',c,⟨h.lrep.step a.rep a.step,by rw[a.N,h.gN],by rw[a.rd,h.rd],λ p=>by rw[a.su,h.gs],λ v=>by rw[a.np,h.gp],by rw[a.po,h.po],by rw[a.nf,h.nf]⟩,a.step⟩
theorem tE.add2(x y:Str)(hN:N.length < 59)(hE:E.length<=100)(l):∃S' g',ao 8 87 [.ref g.i,.str x,.str y] ⟨l,S⟩=.ok .none ⟨l,S'⟩/\tE S' g' k nd (fB (fB N x) y) M nl nv (E++[(x,y)])/\cO S g S' g':=by
 obtain⟨S',g',c,a⟩:=Mine.add2 h.lrep.rep 4 l x y h.rd (by rw[h.gN];exact hN) h.k8 (by have:=h.su_len hE y;lia);refine⟨S',g',c,⟨h.lrep.step a.rep a.step,by rw[a.N,h.gN],by rw[a.rd,h.rd],λ p=>?_,λ v=>?_,by rw[a.po,h.po],by rw[a.nf,h.nf]⟩,a.step⟩
 ·rw[a.su];clear c a;by_cases q:p=y
  ·subst q;rw[aY,h.gs];simp[qm]
  ·rw[bG _ _ q,h.gs];simp[qm,Ne.symm q]
 ·rw[a.np];clear c a;by_cases q:v=x
  ·subst q;rw[aY,h.gp];simp[oO]
  ·rw[bG _ _ q,h.gp];simp[oO,Ne.symm q]
theorem tE.need{v:Str}(hv:v∈M)(f:Str)(hl:(nv v).length < 100):tE (S.set (nl v) (.list ((nv v++[f]).map .str))) g k nd N M nl (upd nv v (nv v++[f])) E:=⟨h.lrep.need hv f hl,h.gN,h.rd,h.gs,h.gp,h.po,h.nf⟩
theorem tE.key{f:Str}(hf:f∉M)(hl:M.length < 60){ep:Nat}(e3:S[nd]?=some (.dict (M.map λ v=>(v,.ref (nl v))) ep)):
  tE ((S++[O.list []]).set nd (cJ (M.map λ v=>(v,.ref (nl v))) ep f (.ref S.length))) g k nd N (M++[f]) (upd nl f S.length) nv E:=⟨h.lrep.key hf hl e3,h.gN,h.rd,h.gs,h.gp,h.po,h.nf⟩
theorem tE.meth{args:St->ak (List V)}{L}:aV (ao 8) true ("add":Str) args (.ref g.i) ⟨L,S⟩=(args ⟨L,S⟩).bind λ vs Y=>ao 8 87 (.ref g.i::vs) Y:=h.lrep.rep.meth (by kernel_rfl)
end
section
variable {S:List O}{g:G}{k nd:Nat}{M:List Str}{nl:Str->Nat}{nv:Str->List Str}{E:List (Str×Str)}
theorem abn:∀own∈dm,bY own:=λ own h=>by have:=tB own h;unfold bY;lia
noncomputable def yM(S:List O)(g:G)(M:List Str)(nl:Str->Nat)(a:Nat)(xs:List V):Prop:=iK S g a (.list xs)/\∀v∈M,nl v≠a
inductive ahy(S:List O)(g:G)(k nd:Nat)(M:List Str)(nl:Str->Nat)(nv:Str->List Str)(E:List (Str×Str))(L:List (Str×Option V))(x:Str)(r:ak Fl):Prop
 |mk (S':List O) (g':G) (nl':Str->Nat) (e:r=.ok .next ⟨L,S'⟩) (b:tE S' g' k nd (M++[x]) (M++[x]) nl' nv E) (hi:g'.i=g.i) (fr:∀a xs,yM S g M nl a xs->yM S' g' (M++[x]) nl' a xs)
theorem VL(h:tE S g k nd M M nl nv E)(hM:M.length < 59){own:List Str}(ho:own∈dm){w:Nat}(hw:S[w]?=some (.list (own.map .str)))(hx:R own∉M){L:List (Str×Option V)}(hp:aN L ("parts":Str)=some (.ref w))(hs:aN L ("sorter":Str)=some (.ref g.i)):
  ahy S g k nd M nl nv E L (R own) (uJ (ao 8) k ⟨L,S⟩):=by
 have hf:=abn own ho;obtain⟨ep,e3⟩:=h.lrep.nds;have h1:=h.key hx (by lia) e3;have fr1:∀a xs,yM S g M nl a xs->iK ((S++[O.list []]).set nd (cJ (M.map λ v=>(v,.ref (nl v))) ep (R own) (.ref S.length))) g a (.list xs):=λ a xs f=>⟨aJ _ (au (J:=[O.list []]) e3) (au f.1.1) nofun,f.1.2⟩
 obtain⟨S2,g2,a1,b2,i2⟩:=h1.add1 (R own) (by lia) L;have ea:fB M (R own)=M++[R own]:=if_neg hx;rw[ea]at b2;refine⟨S2,g2,_,?_,b2,i2.same,λ a xs f=>⟨(fr1 a xs f).step i2,λ v hv=>?_⟩⟩;rotate_left
 ·have:=aQ f.1.1;rcases List.mem_append.mp hv with hv|hv
  ·rw[bG _ _ (λ q=>hx (by rw[<-q];exact hv))];exact f.2 v hv
  ·rw[List.mem_singleton.mp hv,aY];exact Nat.ne_of_gt (by assumption)
 simp only[uJ,Ff,Fg,(gL hp),(gL hs),ak.bind_ok,bO,(λ L=>dh (L:=L) (au (J:=[O.list []]) h.lrep.c0)),(λ L=>jC 7 L _ (au hw) hf:∀L,ao 8 304 [.ref w] ⟨L,S++[.list []]⟩=.ok (.str (R own)) ⟨L,S++[.list []]⟩),(λ L=>jy (L:=L) (au (J:=[O.list []]) e3) (by rw[List.length_map];exact aD (by lia)) h.lrep.ge.1 (R own) (.ref S.length)),aB,(λ args=>h1.meth (args:=args) (L:=L)),(λ L=>jC 7 L _ (aJ _ (au e3) (au hw) nofun:((S++[O.list []]).set nd (cJ (M.map λ v=>(v,.ref (nl v))) ep (R own) (.ref S.length)))[w]?=some (.list (own.map .str))) hf),a1]
structure TF(i:Nat)(n:Int)(x y:Str)(Lf:Option V->List (Str×Option V)):Prop where
 h1:∀o v,aZ (Lf o) ("turn":Str) v=Lf (some v)
 hn:∀o,aN (Lf o) ("number":Str)=some (.int n)
 hs:∀o,aN (Lf o) ("sorter":Str)=some (.ref i)
 hh:∀o,aN (Lf o) ("holder":Str)=some (.str x)
 hf:∀o,aN (Lf o) ("found":Str)=some (.str y)
variable {n:Int}{x y:Str}{Lf:Option V->List (Str×Option V)}{i:Nat}{N:List Str}{SA:List O}{gE:G}
inductive ahz(S:List O)(g:G)(k nd:Nat)(N M:List Str)(nl:Str->Nat)(nv:Str->List Str)(E:List (Str×Str))(L:List (Str×Option V))(r:ak Fl):Prop
 |mk (S':List O) (g':G) (e:r=.ok .next ⟨L,S'⟩) (b:tE S' g' k nd N M nl nv E) (st:cO S g S' g')
theorem VN(T:TF g.i n x y Lf)(v:V)(b:tE S g k nd N M nl nv E)(hN:N.length < 59)(hE:E.length<=100)(hxN:x∈N):ahz S g k nd (fB N y) M nl nv (E++[(x,y)]) (Lf (some v)) (dR (ao 8) k ⟨Lf (some v),S⟩):=by
 obtain⟨S',g'',c,b',i'⟩:=b.add2 x y hN hE (Lf (some v));rw[show fB N x=N from if_pos hxN]at b';refine⟨S',g'',?_,b',i'⟩;simp only[dR,rN,(gL (T.hs (some v))),(gL (T.hh (some v))),(gL (T.hf (some v))),ak.bind_ok,(λ args=>b.meth (args:=args) (L:=Lf (some v))),c,aB]
theorem acY(hM:M.length < 58):(fB M y).length < 59:=by
 unfold fB;by_cases q:y∈M
 ·rw[if_pos q];exact Nat.le_succ_of_le (by assumption)
 ·rw[if_neg q,List.length_append];exact Nat.succ_lt_succ hM
inductive abo(S:List O)(g:G)(k nd:Nat)(M:List Str)(nl:Str->Nat)(nv:Str->List Str)(E:List (Str×Str))(x y:Str)(Lf:Option V->List (Str×Option V))(j a:Nat)(r:List Nat)(Y:St):Prop
 |mk (S':List O) (g':G) (N':List Str) (F:List (Str×Str)) (o':Option V) (e:Y=⟨Lf o',S'⟩) (b:tE S' g' k nd N' M nl nv (E++F)) (hi:g'.i=g.i) (hN:F=[]/\N'=M\/F≠[]/\N'=fB M y) (hF:∀e∈F,e=(x,y)) (hl:F.length+r.length=j) (kp:iK S' g' a (.rng j)) (st:cO S g S' g')
theorem VP(hM:M.length < 58)(hE:E.length<=90)(hx:x∈M)(T:TF g.i n x y Lf){j a c:Nat}(hj:j<=2){r:List Nat}{Y:St}(I:abo S g k nd M nl nv E x y Lf j a (c::r) Y):
  ∃Y',dR (ao 8) k (aF ("turn":Str) (.int (c:Int)) Y)=.ok .next Y'/\abo S g k nd M nl nv E x y Lf j a r Y':=by
 obtain⟨S',g',N',F,o',rfl,b,hi,hNF,hF,hl,kp,st⟩:=I;simp only[List.length_cons]at hl;have hN':N'.length < 59/\x∈N'/\fB N' y=fB M y:=by
  rcases hNF with⟨-,q⟩|⟨-,q⟩<;>rw[q]
  ·exact⟨by exact Nat.le_succ_of_le (by assumption),hx,rfl⟩
  ·exact⟨acY hM,gU.mpr (.inl hx),if_pos (gU.mpr (.inr rfl))⟩
 obtain⟨S2,g2,c2,b2,i2⟩:=VN (hi.symm▸T) (.int (c:Int)) b hN'.1 (by rw[List.length_append];lia) hN'.2.1;rw[hN'.2.2,List.append_assoc]at b2;refine⟨⟨Lf (some (.int (c:Int))),S2⟩,by rw[sL,T.h1];exact c2,S2,g2,_,F++[(x,y)],_,rfl,b2,i2.same.trans hi,.inr ⟨by simp,rfl⟩,λ e he=>?_,by rw[List.length_append];show F.length+1+r.length=j;lia,kp.step i2,st.trans i2⟩;rcases List.mem_append.mp he with he|he
 ·exact hF e he
 ·exact List.mem_singleton.mp he
inductive ad0(S:List O)(g:G)(k nd:Nat)(M:List Str)(nl:Str->Nat)(nv:Str->List Str)(E:List (Str×Str))(x y:Str)(Lf:Option V->List (Str×Option V))(r:ak Fl):Prop
 |mk (S':List O) (g':G) (o':Option V) (F:List (Str×Str)) (e:r=.ok .next ⟨Lf o',S'⟩) (b:tE S' g' k nd (fB M y) M nl nv (E++F)) (hi:g'.i=g.i) (hF:F≠[]) (hF2:∀e∈F,e=(x,y)) (hF3:F.length<=2) (st:cO S g S' g')
theorem Ga(h:tE S g k nd M M nl nv E)(hM:M.length < 58)(hE:E.length<=90)(hx:x∈M)(T:TF g.i n x y Lf)(o:Option V){j:Nat}(h0:0 < j)(hj:j<=2):
  ad0 S g k nd M nl nv E x y Lf (fC (λ v Y=>dR (ao 8) k (aF ("turn":Str) v Y)) (λ Y=>ak.ok .next Y) (.ref S.length) ⟨Lf o,S++[.rng j]⟩):=by
 have er:=aP (S:=S) (.rng j);obtain⟨Y',f1,S',g',N',F,o',rfl,b,hi,hNF,hF,hF2,hrg,hst⟩:=fK (f:=λ k:Nat=>V.int (k:Int)) (ok:=aR (.ref S.length) ⟨Lf o,S++[.rng j]⟩) (body:=λ v Y=>dR (ao 8) k (aF ("turn":Str) v Y))
  (abo S g k nd M nl nv E x y Lf j S.length) (λ r Y I=>by obtain⟨S',g',N',F,o',rfl,b,hi,hNF,hF,hF2,e,hst⟩:=I;exact FP er e.1)
  (λ c r Y I=>let ⟨Y',e,I'⟩:=VP hM hE hx T hj I;⟨.next,Y',.inl rfl,e,I'⟩)
  (List.range j) ⟨Lf o,S++[.rng j]⟩ ⟨S++[.rng j],g,M,[],o,rfl,by rw[List.append_nil];exact h.push _,rfl,.inl ⟨rfl,rfl⟩,nofun,by simp,⟨er,bV h.lrep.rep⟩,.push S _ g⟩
 have hl:F.length+0=j:=hF2;have hFn:F≠[]:=λ q=>by rw[q]at hl;simp at hl;lia
 obtain rfl:N'=fB M y:=(hNF.resolve_left λ q=>hFn q.1).2;refine⟨S',g',o',F,?_,b,hi,hFn,hF,by lia,hst⟩;unfold fC;rw[(FQ (L:=Lf o) er)];dsimp only;rw[f1];rfl
theorem abp(h:tE S g k nd M M nl nv E)(hM:M.length < 58)(hE:E.length<=90)(hx:x∈M)(T:TF g.i n x y Lf)(o:Option V):ad0 S g k nd M nl nv E x y Lf (eU (ao 8) k ⟨Lf o,S⟩):=by
 have gn:=gL (T.hn o);by_cases hneg:n < 0
 ·have d:=decide_eq_true hneg;have rg:vK [.int 2] ⟨Lf o,S⟩=.ok (.ref S.length) ⟨Lf o,S++[.rng 2]⟩:=BL (n:=2) (by simp) (Lf o) S;have e:eU (ao 8) k ⟨Lf o,S⟩=fC (λ v Y=>dR (ao 8) k (aF ("turn":Str) v Y)) (λ Y=>ak.ok .next Y) (.ref S.length) ⟨Lf o,S++[.rng 2]⟩:=by simp only[eU,gn,ak.bind_ok,lt_int,d,aA,if_true,rg]
  rw[e];exact Ga h hM hE hx T o (j:=2) (by simp) (by simp)
 ·have d:=decide_eq_false hneg;have rg:vK [.int 1] ⟨Lf o,S⟩=.ok (.ref S.length) ⟨Lf o,S++[.rng 1]⟩:=BL (n:=1) (by simp) (Lf o) S;have e:eU (ao 8) k ⟨Lf o,S⟩=fC (λ v Y=>dR (ao 8) k (aF ("turn":Str) v Y)) (λ Y=>ak.ok .next Y) (.ref S.length) ⟨Lf o,S++[.rng 1]⟩:=by simp only[eU,gn,ak.bind_ok,lt_int,d,aA,if_false,Bool.false_eq_true,rg]
  rw[e];exact Ga h hM hE hx T o (j:=1) (by simp) (by simp)
theorem V0(b:tE S g k nd N M nl nv E)(hx:x∈M)(hl:(nv x).length < 90)(T:TF i n x y Lf)(o:Option V):j5 (ao 8) k ⟨Lf o,S⟩=.ok .next ⟨Lf o,S.set (nl x) (.list ((nv x++[y]).map .str))⟩:=by
 have ex:=b.lrep.nls x hx;simp only[j5,(gL (T.hh o)),(gL (T.hf o)),ak.bind_ok,(λ L=>dh (L:=L) b.lrep.c0),(λ L=>b.lrep.needs (L:=L) hx),bA,(λ live args L=>dU (cl:=ao 8) (live:=live) (args:=args) (L:=L) ex),(λ L=>gq (L:=L) ex (by rw[List.length_map];exact aD (by lia)) (b.lrep.ge.2 x hx) (.str y)),List.map_append,List.map_cons,List.map_nil]
inductive ajI(S:List O)(g:G)(k nd:Nat)(N M:List Str)(nl:Str->Nat)(nv:Str->List Str)(E:List (Str×Str))(y:Str)(L:List (Str×Option V))(r:ak Fl):Prop
 |mk (S':List O) (nl':Str->Nat) (e:r=.ok .next ⟨L,S'⟩) (b:tE S' g k nd N (fB M y) nl' nv E) (fr:∀a xs,yM S g M nl a xs->yM S' g (fB M y) nl' a xs)
theorem abq(b:tE S g k nd N M nl nv E)(hM:M.length < 58)(T:TF i n x y Lf)(o:Option V):ajI S g k nd N M nl nv E y (Lf o) (aj (iI (ao 8) k ⟨Lf o,S⟩) λ Y=>.ok .next Y):=by
 have gf:=gL (T.hf o);obtain⟨ep,e3⟩:=b.lrep.nds;have gc:=λ L=>dh (L:=L) b.lrep.c0
 have ni:∀L,RG (.str y) (.ref nd) ⟨L,S⟩=some (!decide (y∈M)):=λ L=>by
  show((S[nd]?).bind (inO false y)).map _=_;rw[e3,<-BR];rfl
 by_cases hy:y∈M
 ·have ea:fB M y=M:=if_pos hy;have d:=decide_eq_true hy;refine⟨S,nl,?_,by rw[ea];exact b,by rw[ea];exact λ _ _ f=>f⟩;simp only[iI,gf,ak.bind_ok,gc,ni,d,Bool.not_true,aA,Bool.false_eq_true,if_false,aB]
 ·have ea:fB M y=M++[y]:=if_neg hy;have si:=λ L=>jy (L:=L) (au (J:=[O.list []]) e3) (by rw[List.length_map];exact aD (by lia)) b.lrep.ge.1 y (.ref S.length)
  refine⟨_,_,?_,by rw[ea];exact b.key hy (by lia) e3,λ a xs f=>⟨⟨aJ _ (au (J:=[O.list []]) e3) (au f.1.1) nofun,f.1.2⟩,λ v hv=>?_⟩⟩
  ·simp only[iI,yj,rO,gf,ak.bind_ok,gc,(λ L=>dh (L:=L) (au (J:=[O.list []]) b.lrep.c0)),ni,(decide_eq_false hy),Bool.not_false,aA,if_true,bO,si,aB]
  ·rw[ea]at hv;have:=aQ f.1.1;rcases List.mem_append.mp hv with hv|hv
   ·rw[bG _ _ (λ q=>hy (by rw[<-q];exact hv))];exact f.2 v hv
   ·rw[List.mem_singleton.mp hv,aY];exact Nat.ne_of_gt (by assumption)
inductive ahA(S:List O)(g:G)(k nd:Nat)(M:List Str)(nl:Str->Nat)(nv:Str->List Str)(E:List (Str×Str))(x y:Str)(Lf:Option V->List (Str×Option V))(r:ak Fl):Prop
 |mk (S':List O) (g':G) (nl':Str->Nat) (o':Option V) (F:List (Str×Str)) (e:r=.ok .next ⟨Lf o',S'⟩) (b:tE S' g' k nd (fB M y) (fB M y) nl' (upd nv x (nv x++[y])) (E++F)) (hi:g'.i=g.i) (hF:F≠[]) (hF2:∀e∈F,e=(x,y)) (hF3:F.length<=2) (fr:∀a xs,yM S g M nl a xs->yM S' g' (fB M y) nl' a xs)
theorem V1(h:tE S g k nd M M nl nv E)(hM:M.length < 58)(hE:E.length<=90)(hnv:∀v,(nv v).length < 90)(hx:x∈M)(T:TF g.i n x y Lf)(o:Option V):
  ahA S g k nd M nl nv E x y Lf (aj (eU (ao 8) k ⟨Lf o,S⟩) (λ Y=>aj (j5 (ao 8) k Y) λ Y=>aj (iI (ao 8) k Y) λ Y=>.ok .next Y)):=by
 obtain⟨S1,g1,o1,F,b19,b1,i1,hF,hF2,hF3,st⟩:=abp h hM hE hx T o;obtain⟨S3,nl',e3,b3,fr⟩:=abq (b1.need hx y (by have:=hnv x;lia)) hM T o1;simp only[b19,aB,V0 b1 hx (hnv x) T o1];exact⟨S3,g1,nl',o1,F,e3,b3,i1,hF,hF2,hF3,λ a xs f=>fr a xs ⟨⟨bw (f.2 x hx) (f.1.step st).1,(f.1.step st).2⟩,f.2⟩⟩
end
structure Bd(S:List O)(g:G)(k nd:Nat)(M:List Str)(nl:Str->Nat)(nv:Str->List Str)(E:List (Str×Str))(c:Nat):Prop where
 b:tE S g k nd M M nl nv E
 all:∀own∈dm,R own∈M
 mlen:M.length<=6+c
 elen:E.length<=2*c
 nlen:∀v,(nv v).length<=c
 hE:∀s p,(s,p)∈E->s∈M/\p∈M
 hnv:∀v p,p∈nv v↔(v,p)∈E
theorem abr(M:List Str)(y:Str):(fB M y).length<=M.length+1:=by
 unfold fB;by_cases q:y∈M
 ·rw[if_pos q];exact Nat.le_succ _
 ·rw[if_neg q,List.length_append];exact Nat.le_refl _
theorem Bd.told{S S':List O}{g g':G}{k nd c:Nat}{M:List Str}{nl nl':Str->Nat}{nv:Str->List Str}{E F:List (Str×Str)}{x y:Str}(h:Bd S g k nd M nl nv E c)(hx:x∈M)(t:tE S' g' k nd (fB M y) (fB M y) nl' (upd nv x (nv x++[y])) (E++F))(hF:F≠[])(hF2:∀e∈F,e=(x,y))(hF3:F.length<=2):
  Bd S' g' k nd (fB M y) nl' (upd nv x (nv x++[y])) (E++F) (c+1):=by
 refine⟨t,λ own ho=>gU.mpr (.inl (h.all own ho)),Nat.le_trans (abr M y) (Nat.succ_le_succ h.mlen),by have:=h.elen;rw[List.length_append];lia,λ v=>?_,λ s p hsp=>?_,λ v p=>?_⟩
 ·have:=h.nlen v;unfold upd;clear hx t hF2;by_cases q:v=x
  ·subst q;rw[if_pos rfl,List.length_append];exact Nat.succ_le_succ this
  ·rw[if_neg q];exact Nat.le_succ_of_le this
 ·rcases List.mem_append.mp hsp with q|q
  ·exact⟨gU.mpr (.inl (h.hE s p q).1),gU.mpr (.inl (h.hE s p q).2)⟩
  ·obtain⟨rfl,rfl⟩:=Prod.mk.inj (hF2 _ q);exact⟨gU.mpr (.inl hx),gU.mpr (.inr rfl)⟩
 ·have hF:(v,p)∈F↔v=x/\p=y:=by
   refine⟨λ q=>Prod.mk.inj (hF2 _ q),λ q=>?_⟩;obtain⟨e,he⟩:=List.exists_mem_of_ne_nil F hF;rw[q.1,q.2,<-hF2 e he];exact he
  rw[List.mem_append,<-h.hnv,hF];clear hx t hF2;clear hF;by_cases q:v=x
  ·subst q;rw[aY,List.mem_append,List.mem_singleton];exact⟨λ e=>e.imp id λ e=>⟨rfl,e⟩,λ e=>e.imp id λ e=>e.2⟩
  ·rw[bG _ _ q];exact⟨.inl,λ e=>e.elim id λ e=>absurd e.1 q⟩
inductive ajJ(S:List O)(g:G)(k nd:Nat)(M:List Str)(nl:Str->Nat)(c:Nat)(q:Os)(r:ak Fl):Prop
 |mk (S':List O) (g':G) (M':List Str) (nl':Str->Nat) (nv':Str->List Str) (E':List (Str×Str)) (q':Os) (e:r=.ok .next ⟨FB q',S'⟩) (b:Bd S' g' k nd M' nl' nv' E' (c+1)) (hi:g'.i=g.i) (s:q.Same q') (fr:∀a xs,yM S g M nl a xs->yM S' g' M' nl' a xs)
theorem Ma{S:List O}{g:G}{k nd:Nat}{M:List Str}{nl:Str->Nat}{nv:Str->List Str}{E:List (Str×Str)}{c:Nat}(h:Bd S g k nd M nl nv E c)(hc:c<=20){n:Int}{q:Os}(hq1:q.a1=some (.ref g.i))(hq3:q.a3=some (.int n)):
  ajJ S g k nd M nl c q (uM (ao 8) k ⟨FB q,S⟩):=by
 obtain⟨J,q',hp,qs,q13,q15⟩:=Vh (m:=n.natAbs) (q:=q) rfl hq3 (k:=k) h.b.k8 h.b.lrep.stat (λ Y=>aj (eU (ao 8) k Y) λ Y=>aj (j5 (ao 8) k Y) λ Y=>aj (iI (ao 8) k Y) λ Y=>.ok .next Y);have hx:=h.all _ (Iz n.natAbs).hown;have hml:=h.mlen;have hel:=h.elen;obtain⟨S',g',nl',o',F,t1,t2,t3,t4,t5,t6,t7⟩:=V1 (h.b.push J) (by lia) (by lia) (λ v=>by have:=h.nlen v;lia) hx
  (Lf:=λ o=>FB (q'.s10 o)) ⟨λ _ _=>rfl,λ _=>qs.e3.trans hq3,λ _=>qs.e1.trans hq1,λ _=>q13,λ _=>q15⟩ q'.a10
 exact⟨S',g',_,nl',_,_,q'.s10 o',hp.trans t1,h.told hx t2 t4 t5 t6,t3,⟨qs.e0,qs.e1,qs.e3⟩,λ a xs f=>t7 a xs ⟨f.1.push J,f.2⟩⟩
noncomputable def Mf(ns:List Int):List O:=.list ((List.range 6).map λ i=>.ref (i+1))::dm.map (λ p=>.list (p.map .str))++[.list (ns.map .int)]
theorem V2(ns:List Int)(J:List O):BK (Mf ns++J):=by
 refine⟨rfl,λ i f e=>?_⟩;match i,((List.getElem?_eq_some_iff.mp e).1)with
 |0,_=>cases e;rfl
 |1,_=>cases e;rfl
 |2,_=>cases e;rfl
 |3,_=>cases e;rfl
 |4,_=>cases e;rfl
 |5,_=>cases e;rfl
theorem ad1:(dm.map R).Nodup:=by decide+kernel
noncomputable def q0:Os:=⟨some (.ref 7),none,none,none,none,none,none,none,none,none,none,none,none,none,none,none,none,none,none,none,none,none⟩
noncomputable def told(dn:List Nat):List Str:=dn.map λ i=>R ((dm[i]?).getD [])
inductive QC(ns:List Int)(i:Nat)(rest:List Nat)(Y:St):Prop
 |mk (S:List O) (g:G) (nl:Str->Nat) (o:Option V) (dn:List Nat) (hd:dn++rest=List.range 6) (ho:rest=[]->o=some (.ref 6)) (e:Y=⟨FB ((q0.s1 (some (.ref i))).s2 o),S⟩) (b:tE S g 8 11 (told dn) (told dn) nl (λ _=>[]) []) (hi:g.i=i) (f:yM S g (told dn) nl 7 (ns.map .int))
theorem QD{ns:List Int}{a i:Nat}{rest:List Nat}{Y:St}(I:QC ns a (i::rest) Y):∃Y',uJ (ao 8) 8 (aF ("parts":Str) (.ref (i+1)) Y)=.ok .next Y'/\QC ns a rest Y':=by
 obtain⟨S,g,nl,o,dn,hdn,-,rfl,b,hgi,h7⟩:=I;have hi6:i < dm.length:=List.mem_range.mp (by rw[<-hdn];simp:i∈List.range 6);have hx:R ((dm[i]?).getD [])∉told dn:=λ q=>by
  have hr:(told (List.range 6)).Nodup:=by decide+kernel
  rw[<-hdn]at hr;unfold told at hr q;rw[List.map_append]at hr;exact(List.nodup_append.mp hr).2.2 _ q _ (by simp) rfl
 have hlen:=congrArg List.length hdn;simp only[List.length_append,List.length_range]at hlen;obtain⟨S2,g2,nl2,t1,t2,t3,t4⟩:=VL b (by unfold told;rw[List.length_map];lia) (by rw[List.getElem?_eq_getElem hi6];exact List.getElem_mem hi6) (b.lrep.stat.2 i _ (by rw[List.getElem?_eq_getElem hi6];rfl)) hx (L:=FB ((q0.s1 (some (.ref a))).s2 (some (.ref (i+1))))) rfl (by rw[hgi];rfl);rw[(by unfold told;rw[List.map_append];rfl:told dn++[R ((dm[i]?).getD [])]=told (dn++[i]))]at t2 t4;refine⟨_,t1,S2,g2,nl2,_,dn++[i],by rw[<-hdn];simp,λ q=>?_,rfl,t2,t3.trans hgi,t4 7 _ h7⟩;subst q;have h5:(dn++[i])[dn.length]?=(List.range 6)[dn.length]?:=by rw[hdn]
 rw[List.getElem?_concat_length,show dn.length=5 by simp at hlen;assumption]at h5;rw[Option.some.inj h5]
theorem V3{S1 J:List O}(l1:S1.length=12)(st1:BK S1)(i2:bR (S1++J) (g0 S1.length))(h8:S1[8]?=some (.cell (some (.ref 11))))(h9:S1[9]?=some (.cell none))(h10:S1[10]?=some (.cell none))(h11:S1[11]?=some (.dict [] 0)):m7 (S1++J) (g0 S1.length) 8 11 [] (λ _=>0) (λ _=>[]):=by
 refine⟨i2,st1.push,by simp,au h8,⟨none,au h9⟩,⟨none,au h10⟩,⟨0,au h11⟩,nofun,nofun,λ q=>?_,nofun,⟨by simp,nofun⟩,λ _ _=>rfl,λ _=>Nat.zero_le _,Nat.zero_le _⟩;rcases q with q|q|⟨v,hv,_⟩|q
 ·replace q:11=S1.length:=q;lia
 ·replace q:11=S1.length+2:=q;lia
 ·cases hv
 ·contradiction
inductive agc(ns:List Int)(f:(St->ak Fl)->ak Fl):Prop
 |mk (S:List O) (g:G) (nl:Str->Nat) (e:∀r,f r=r ⟨FB ((q0.s1 (some (.ref g.i))).s2 (some (.ref 6))),S⟩) (b:Bd S g 8 11 (dm.map R) nl (λ _=>[]) [] 0) (h7:S[7]?=some (.list (ns.map .int)))
theorem V4(ns:List Int):agc ns λ r=>aj (Pz (ao 8) 8 ⟨FB q0,Mf ns++[.cell none,.cell none,.cell none]⟩) (λ Y=>aj (PB (ao 8) 8 Y) λ Y=>aj (Ib (ao 8) 8 Y) r):=by
 obtain⟨S1,hS1⟩:∃S1,Mf ns++[O.cell (some (.ref 11)),.cell none,.cell none,.dict [] 0]=S1:=⟨_,rfl⟩;obtain⟨J,i1,i2⟩:=Vn 6 (FB q0) S1 (by rw[<-hS1];show 8<=12;simp);have lrep:=V3 (by rw[<-hS1];rfl) (by rw[<-hS1];exact V2 ns _) i2 (by rw[<-hS1];rfl) (by rw[<-hS1];rfl) (by rw[<-hS1];rfl) (by rw[<-hS1];rfl);have f0:=lrep.stat.1;obtain⟨Y',f1,S,g,nl,o,dn,hdn,ho,rfl,b,hgi,hs7⟩:=fK (f:=λ i:Nat=>V.ref (i+1)) (ok:=aR (.ref 0) ⟨FB (q0.s1 (some (.ref (S1.length+1)))),S1++J⟩) (body:=λ v Y=>uJ (ao 8) 8 (aF ("parts":Str) v Y))
  (QC ns (S1.length+1)) (λ rest Y I=>by obtain⟨S,g,nl,o,dn,-,-,rfl,b,-,-⟩:=I;exact j8 f0 b.lrep.stat.1)
  (λ i rest Y I=>let ⟨Y',e,I'⟩:=QD I;⟨.next,Y',.inl rfl,e,I'⟩)
  (List.range 6) ⟨FB (q0.s1 (some (.ref (S1.length+1)))),S1++J⟩
  ⟨S1++J,g0 S1.length,λ _=>0,none,[],rfl,nofun,rfl,⟨lrep,rfl,rfl,λ _=>rfl,λ _=>rfl,rfl,rfl⟩,rfl,⟨⟨au (by rw[<-hS1];rfl),RD i2 (by simp)⟩,nofun⟩⟩
 rw[List.append_nil]at hdn;obtain rfl:=ho rfl;rw[hdn]at b;have e2:Ib (ao 8) 8 ⟨FB (q0.s1 (some (.ref (S1.length+1)))),S1++J⟩=.ok .next ⟨FB ((q0.s1 (some (.ref (S1.length+1)))).s2 (some (.ref 6))),S⟩:=by
  simp only[Ib,ak.bind_ok,fC,(λ L=>cY (L:=L) f0 rfl),f1];rfl
 refine⟨S,g,nl,λ r=>?_,⟨b,λ own h=>List.mem_map.mpr ⟨own,h,rfl⟩,by decide+kernel,Nat.zero_le _,λ _=>Nat.zero_le _,nofun,λ v p=>⟨nofun,nofun⟩⟩,hs7.1.1⟩;have hl0:(Mf ns++[O.cell none,.cell none,.cell none]).length=11:=rfl;rw[hgi];simp only[Pz,PB,ak.bind_ok,bO,hl0,(λ L=>((λ L=>ru (L:=L) (v:=.ref 11) (rfl:(Mf ns++[O.cell none,.cell none,.cell none]++[O.dict [] 0])[8+0]?=some (.cell none)) (by simp)) L).trans (congrArg (λ s=>ak.ok () (St.mk L s)) hS1)),aB,i1];exact(congrArg (λ r'=>aj r' r) e2).trans rfl
noncomputable def I5(ns:List Int):List Int:=ns.take 10++[49,1254,365729]
theorem abt(ns:List Int):(I5 ns).length<=13:=by
 unfold I5;rw[List.length_append,List.length_take];show min 10 ns.length+3<=13;lia
inductive abu(g:G)(n:Nat)(xs:List Int)(q:Os)(rest:List Int)(Y:St):Prop
 |mk (S':List O) (g':G) (M:List Str) (nl':Str->Nat) (nv:Str->List Str) (E:List (Str×Str)) (c:Nat) (q':Os) (e:Y=⟨FB q',S'⟩) (b:Bd S' g' 8 11 M nl' nv E c) (hi:g'.i=g.i) (hl:c+rest.length=xs.length) (f:yM S' g' M nl' n (xs.map V.int)) (hq:q'.a1=q.a1)
theorem V5{g:G}{n:Nat}{xs:List Int}{q:Os}{z:Int}{rest:List Int}{Y:St}(hl:xs.length<=13)(hq1:q.a1=some (.ref g.i))(I:abu g n xs q (z::rest) Y):∃Y',uM (ao 8) 8 (aF ("number":Str) (.int z) Y)=.ok .next Y'/\abu g n xs q rest Y':=by
 obtain⟨S',g',M,nl',nv,E,c,q',rfl,bd,hgi,hcl,f,qs⟩:=I;obtain⟨S2,g2,M2,nl2,nv2,E2,q2,t1,t2,t3,t4,t5⟩:=Ma bd (by lia) (n:=z) (q:=q'.s3 (some (.int z))) (by rw[hgi];exact qs.trans hq1) rfl;simp only[List.length_cons]at hcl;exact⟨_,t1,S2,g2,M2,nl2,nv2,E2,c+1,q2,rfl,t2,t3.trans hgi,by lia,t5 n _ f,t4.e1.trans qs⟩
theorem Bd.to13{S:List O}{g:G}{k nd c:Nat}{M:List Str}{nl:Str->Nat}{nv:Str->List Str}{E:List (Str×Str)}(h:Bd S g k nd M nl nv E c)(hc:c<=13):Bd S g k nd M nl nv E 13:=
 ⟨h.b,h.all,Nat.le_trans h.mlen (Nat.add_le_add_left hc 6),Nat.le_trans h.elen (Nat.mul_le_mul_left 2 hc),λ v=>Nat.le_trans (h.nlen v) hc,h.hE,h.hnv⟩
theorem Bd.push{S:List O}{g:G}{k nd c:Nat}{M:List Str}{nl:Str->Nat}{nv:Str->List Str}{E:List (Str×Str)}(h:Bd S g k nd M nl nv E c)(J:List O):Bd (S++J) g k nd M nl nv E c:=⟨h.b.push J,h.all,h.mlen,h.elen,h.nlen,h.hE,h.hnv⟩
inductive ad2(i:Nat)(q:Os)(r:ak Fl):Prop
 |mk (S':List O) (g':G) (M:List Str) (nl':Str->Nat) (nv:Str->List Str) (E:List (Str×Str)) (q':Os) (e:r=.ok .next ⟨FB q',S'⟩) (b:Bd S' g' 8 11 M nl' nv E 13) (hi:g'.i=i) (hq:q'.a1=q.a1)
theorem V6{S:List O}{g:G}{M:List Str}{nl:Str->Nat}{nv:Str->List Str}{E:List (Str×Str)}{xs:List Int}{n:Nat}{q:Os}(h:Bd S g 8 11 M nl nv E 0)(f:yM S g M nl n (xs.map V.int))(hl:xs.length<=13)(hq1:q.a1=some (.ref g.i)):
  ad2 g.i q (fC (λ v Y=>uM (ao 8) 8 (aF ("number":Str) v Y)) (λ Y=>ak.ok .next Y) (.ref n) ⟨FB q,S⟩):=by
 obtain⟨Y',f1,S',g',M,nl',nv,E,c,q',rfl,bd,hgi,hcl,-,qs⟩:=fK (f:=V.int) (ok:=aR (.ref n) ⟨FB q,S⟩) (body:=λ v Y=>uM (ao 8) 8 (aF ("number":Str) v Y))
  (abu g n xs q) (λ rest Y I=>by obtain⟨S',g',M,nl',nv,E,c,q',rfl,-,-,-,f',-⟩:=I;exact j8 f.1.1 f'.1.1)
  (λ z rest Y I=>let ⟨Y',e,I'⟩:=V5 hl hq1 I;⟨.next,Y',.inl rfl,e,I'⟩)
  xs ⟨FB q,S⟩ ⟨S,g,M,nl,nv,E,0,q,rfl,h,rfl,Nat.zero_add _,f,rfl⟩
 refine⟨S',g',M,nl',nv,E,q',?_,bd.to13 (by have:c+0=xs.length:=hcl;lia),hgi,qs⟩;unfold fC;rw[(cY (L:=FB q) f.1.1 (by rw[List.length_map];exact aD (by lia)))];dsimp only;rw[f1];rfl
theorem acZ{ns:List Int}(hns:ns.length<=63){S:List O}{g:G}{nl:Str->Nat}(h:Bd S g 8 11 (dm.map R) nl (λ _=>[]) [] 0)(h7:S[7]?=some (.list (ns.map .int))){q:Os}(hq0:q.a0=some (.ref 7))(hq1:q.a1=some (.ref g.i)):
  ad2 g.i q (PJ (ao 8) 8 ⟨FB q,S⟩):=by
 have sl:∀L,bC (.ref 7) .none (.int 10) ⟨L,S⟩=_:=λ L=>iR (L:=L) h7 (by rw[List.length_map];exact aD (by lia)) (i:=10) (by simp)
 have b1:=(h.push [.list ((ns.map V.int).take 10)]).push [.list [.int 49,.int 1254,.int 365729]];have ad:=λ L=>add_list (L:=L) (au (J:=[O.list [.int 49,.int 1254,.int 365729]]) (aP (S:=S) (.list ((ns.map V.int).take 10)))) (aP (S:=S++[O.list ((ns.map V.int).take 10)]) (.list [.int 49,.int 1254,.int 365729])) (by rw[List.length_take];exact aD (by show _+3<=_;lia))
 rw[(by unfold I5;rw[List.map_append,List.map_take];rfl:(ns.map V.int).take 10++[V.int 49,V.int 1254,V.int 365729]=(I5 ns).map V.int)]at ad;simp only[PJ,(gL (L:=FB q) (x:=("script":Str)) hq0),ak.bind_ok,sl,bO,ad];exact V6 (b1.push _) ⟨⟨aP _,bV b1.b.lrep.rep⟩,λ v hv=>Nat.ne_of_lt (aQ (b1.b.lrep.nls v hv))⟩ (abt ns) hq1
theorem agd{S:List O}{g:G}{k nd:Nat}{M:List Str}{nl:Str->Nat}{nv:Str->List Str}{E:List (Str×Str)}(h:Bd S g k nd M nl nv E 13){q:Os}(hq1:q.a1=some (.ref g.i)):
  ∃L' S',(aj (PK (ao 8) k ⟨FB q,S⟩) λ Y=>aj (Bj (ao 8) k Y) λ Y=>aj (Ie (ao 8) k Y) λ Y=>aj (Ig (ao 8) k Y) λ Y=>aj (Ik (ao 8) k Y) λ Y=>.ok .next Y)=.ok (.ret (.bool true)) ⟨L',S'⟩:=by
 have hk:=h.b.k8;have gN:=h.b.gN;have hml:=h.mlen;have hsu:∀v∈g.N,∀s∈g.su v,s∈g.N:=λ v _ s hs=>by
  rw[h.b.gs,qp]at hs;rw[gN];exact(h.hE s v hs).1
 obtain⟨S1,hc,r1,st1⟩:=VG h.b.lrep.rep hk h.b.rd hsu 6 (FR q false q.a19 q.a20 q.a21);have me:=λ args=>h.b.lrep.rep.meth (cl:=ao 8) (args:=args) (name:=("prepare":Str)) (f:=92) (L:=FR q false q.a19 q.a20 q.a21) (by kernel_rfl)
 have gso:aq ("sorter":Str) ⟨FR q false q.a19 q.a20 q.a21,S⟩=.ok (.ref g.i) ⟨FR q false q.a19 q.a20 q.a21,S⟩:=gL (L:=FR q false q.a19 q.a20 q.a21) (x:=("sorter":Str)) hq1 S;obtain⟨ring,hring,e5⟩:∃ring:Bool,(ring=true↔Cyc g.su M)/\Bj (ao 8) k ⟨FR q false q.a19 q.a20 q.a21,S⟩=.ok .next ⟨FR q ring q.a19 q.a20 q.a21,S1⟩:=by
  rw[gN]at hc;rcases hc with⟨hc,c1⟩|⟨hc,c1⟩
  ·have c1':ao 8 92 [.ref g.i] ⟨FR q false q.a19 q.a20 q.a21,S⟩=.ok .none ⟨FR q false q.a19 q.a20 q.a21,S1⟩:=c1;refine⟨false,⟨nofun,λ q=>absurd q hc⟩,?_⟩;have b:uN (ao 8) k ⟨FR q false q.a19 q.a20 q.a21,S⟩=.ok .next ⟨FR q false q.a19 q.a20 q.a21,S1⟩:=by
    simp only[uN,wY,gso,ak.bind_ok,me,c1',aB]
   unfold Bj uo;rw[b]
  ·have c1':ao 8 92 [.ref g.i] ⟨FR q false q.a19 q.a20 q.a21,S⟩=.exc .cyc ⟨FR q false q.a19 q.a20 q.a21,S1⟩:=c1;refine⟨true,⟨λ _=>hc,λ _=>rfl⟩,?_⟩;have b:uN (ao 8) k ⟨FR q false q.a19 q.a20 q.a21,S⟩=.exc .cyc ⟨FR q false q.a19 q.a20 q.a21,S1⟩:=by
    simp only[uN,wY,gso,ak.bind_ok,me,c1',ak.bind_exc,wz]
   unfold Bj uo;rw[b];dsimp only;rfl
 have l1:=h.b.lrep.step r1 st1;obtain⟨ep,e3⟩:=l1.nds;have so:=λ L=>LQ (L:=L) e3 (by rw[List.length_map];lia)
 rw[List.map_map]at so;have em:(M.map ((λ p:Str×V=>p.1)∘λ v=>(v,V.ref (nl v))))=M:=by
  rw[show((λ p:Str×V=>p.1)∘λ v=>(v,V.ref (nl v)))=id from rfl,List.map_id]
 have l2:=(l1.push [O.list ((cC M).map .str)]).push [O.list []];obtain⟨o1,e1⟩:=l2.c1;have hk8:=h.b.lrep.k8;have kl:iK (S1++[O.list ((cC M).map .str)]++[O.list []]) (BX S g) S1.length (.list ((cC M).map .str)):=⟨au (aP _),bV l1.rep⟩;have kp:iK (S1++[O.list ((cC M).map .str)]++[O.list []]) (BX S g) (S1++[O.list ((cC M).map .str)]).length (.list (([]:List Str).map .str)):=⟨aP _,bV (l1.push _).rep⟩;have rnd:zm ((S1++[O.list ((cC M).map .str)]++[O.list []]).set (k+1) (.cell (some (.ref (S1++[O.list ((cC M).map .str)]).length)))) (BX S g) k nd M nl nv E [] (cC M) (S1++[O.list ((cC M).map .str)]).length S1.length:=by
  have hlen:(cC M).length=M.length:=(fO M).length_eq;have hel:=h.elen;refine⟨(l2.cell (.inl rfl) (some (.ref (S1++[O.list ((cC M).map .str)]).length))),⟨gN,h.b.gs,λ v _ _=>h.b.gp v,λ v=>?_,oR h.b.lrep.rep.nd,h.b.nf.trans h.b.po.symm,nofun,nofun⟩,⟨_,rfl⟩,iJ _ e1,kp.cell e1,kl.cell e1,?_,?_,h.hE,h.hnv,λ _ _ _ _=>nofun,?_⟩
  ·show v∈g.N.filter (free g)↔_;rw[List.mem_filter,gN];unfold free;rw[decide_eq_true_eq,(λ v=>by rw[h.b.gp];simp:∀v,g.np v=0↔oO E v []=0)];exact⟨λ w=>⟨w.1,nofun,w.2⟩,λ w=>⟨w.1,w.2.2⟩⟩
  ·symm
   exact List.filter_eq_self.mpr λ v _=>by simp
  ·show 0+_<=60;lia
  ·lia
 obtain⟨L',S',e8⟩:=agb rnd q (i:=g.i) rfl hq1 (ring:=ring) hring q.a20 q.a21;refine⟨L',S',?_⟩;have e4:PK (ao 8) k ⟨FB q,S⟩=.ok .next ⟨FR q false q.a19 q.a20 q.a21,S⟩:=rfl
 have e6:Ie (ao 8) k ⟨FR q ring q.a19 q.a20 q.a21,S1⟩=.ok .next ⟨FR q ring (some (.ref S1.length)) q.a20 q.a21,S1++[O.list ((cC M).map .str)]⟩:=by
  simp only[Ie,ak.bind_ok,(λ L=>dh (L:=L) l1.c0),(λ L=>by rw[so L];exact congrArg (λ m=>ak.ok (V.ref S1.length) (St.mk L (S1++[O.list ((cC m).map V.str)]))) em:∀L,nu [.ref nd] ⟨L,S1⟩=.ok (.ref S1.length) ⟨L,S1++[O.list ((cC M).map .str)]⟩)];rfl
 have e7:Ig (ao 8) k ⟨FR q ring (some (.ref S1.length)) q.a20 q.a21,S1++[O.list ((cC M).map .str)]⟩=.ok .next ⟨FR q ring (some (.ref S1.length)) q.a20 q.a21,(S1++[O.list ((cC M).map .str)]++[O.list []]).set (k+1) (.cell (some (.ref (S1++[O.list ((cC M).map .str)]).length)))⟩:=by
  simp only[Ig,ak.bind_ok,bO,(λ L=>ru (L:=L) (v:=.ref (S1++[O.list ((cC M).map .str)]).length) e1 (by exact Nat.le_succ_of_le (by assumption)))]
 rw[e4,aB,e5,aB,e6,aB,e7,aB,e8];rfl
theorem abv(ns:List Int)(hns:ns.length<=63):∃τ,ao 9 330 [.ref 7] ⟨[],Mf ns⟩=.ok (.bool true) τ:=by
 obtain⟨S,g,nl,b0,bd,h7⟩:=V4 ns;obtain⟨S',g',M,nl',nv,E,q',b3,bd',hgi,hq1⟩:=acZ hns bd h7 (q:=(q0.s1 (some (.ref g.i))).s2 (some (.ref 6))) rfl rfl;obtain⟨L',S'',b4⟩:=agd bd' (q:=q') (by rw[hq1,hgi];rfl);rw[(by kernel_rfl:ao 9 330 [.ref 7] ⟨[],Mf ns⟩=kj [] (aK (cG (ao 8) 60) (sU 330) (enC 330 8) ⟨FB q0,Mf ns++[.cell none,.cell none,.cell none]⟩)),aaE];unfold ahg;rw[b0,b3];exact⟨_,(congrArg (kj []) b4).trans rfl⟩
end Mine
namespace Mine
open PySem
theorem ahB:(jG 330).isSome=true:=by kernel_rfl
theorem QF(ns:List Int)(h:ns.length<=63):∃f τ,jG 330=some f/\oX (ao 8) f [.ref 7] {loc:=[],sto:=yF ns}=.ok (.bool true) τ:=by
 obtain⟨f,hf⟩:=Option.isSome_iff_exists.mp ahB;obtain⟨τ,e⟩:=abv ns h;rw[sJ _ _ _ _ (by decide) (by decide),hf]at e;exact⟨f,τ,hf,e⟩
end Mine
theorem PySem.Challenge.cw_il0148_01_holds : PySem.Challenge.rw_il0148_01.Holds :=
 Mine.join Mine.QF
