/- Part 1 of the proof: for every number of E2 (two rows of four words) the law FnMapG2 returns true (a verified symbolic evaluator, contracts of each function reached, the law, its row and card). Conditions: those of the given statement, none besides. -/
import Derived.Orders
import Derived.Tactics
import Derived.Below
namespace Go.Sx
open Go
inductive A where
 | lit (n:Int)
 | sym (x:Int)
def A.val:A→Int
 | .lit n=>n
 | .sym x=>x
inductive B where
 | lit (b:Bool)
 | sym (b:Bool)
def B.val:B→Bool
 | .lit b=>b
 | .sym b=>b
inductive N where
 | lit (n:Nat)
 | sym (n:Nat)
 | at (b s:Nat)
def N.val:N→Nat
 | .lit n=>n
 | .sym n=>n
 | .at b s=>b+s
inductive SV where
 | any
 | int (k:IntKind) (a:A)
 | bool (b:B)
 | ptr (r:Nat) (off:N)
 | slice (r:Nat) (off len cap:N)
 | iface (t:TypeId) (v:SV)
 | agg (l:List SV)
 | tup (l:List SV)
 | bytes (xs:List Int)
 | val (v:Value)
def bytesOf (xs:List Int):ByteArray:=⟨(xs.map fun n=>UInt8.ofNat n.toNat).toArray⟩
def ofV1:Value→SV
 | .int k n=> .int k (.lit n)
 | .bool b=> .bool (.lit b)
 | v=> .val v
def ofV:Value→SV
 | .agg cs=> .agg (cs.toList.map ofV1)
 | v=>ofV1 v
abbrev Env:=Nat→Option (Nat×Nat)
mutual
def Den (β:Env):SV→Value→Prop
 | .any,_=>True
 | .int k a,v=>v= .int k a.val
 | .bool b,v=>v= .bool b.val
 | .ptr r off,v=>∃b o,β r=some (b,o)∧v= .pointer (some ⟨b,o+off.val,none⟩)
 | .slice r off len cap,v=>∃b o,β r=some (b,o)∧v= .slice (some ⟨b,o+off.val,none⟩) len.val cap.val
 | .iface t s,v=>∃u,Den β s u∧v= .iface t u
 | .agg l,v=>∃vs,DenL β l vs∧v= .agg vs.toArray
 | .tup l,v=>∃vs,DenL β l vs∧v= .tuple vs.toArray
 | .bytes xs,v=>v= .string (bytesOf xs)
 | .val u,v=>v=u
def DenL (β:Env):List SV→List Value→Prop
 | [],vs=>vs= []
 | s::l,vs=>∃v vs',Den β s v∧DenL β l vs'∧vs=v::vs'
 end
def oneCell:Value→Bool
 | .agg _ | .tuple _=>false
 | _=>true
def SV.one:SV→Bool
 | .int .. | .bool .. | .ptr .. | .slice .. | .iface .. | .bytes _=>true
 | .val v=>oneCell v
 | _=>false
inductive Tr (α:Type) where
 | leaf
 | node (l:Tr α) (v:Option α) (r:Tr α)
def Tr.get {α:Type}:Tr α→Nat→Option α
 | .leaf,_=>none
 | .node l v r,n=>
  match n with
  | 0=>v
  | n+1=>bif Nat.beq (n%2) 0 then l.get (n / 2)else r.get (n / 2)
def Tr.kids {α:Type}:Tr α→Tr α×Option α×Tr α
 | .leaf=>(.leaf,none,.leaf)
 | .node l v r=>(l,v,r)
def Tr.put {α:Type}:Nat→Tr α→Nat→α→Tr α
 | 0,t,_,_=>t
 | f+1,t,n,a=>
  match t.kids with
  | (l,v,r)=>
   match n with
   | 0=> .node l (some a) r
   | n+1=>bif Nat.beq (n%2) 0 then .node (Tr.put f l (n / 2) a) v r else .node l v (Tr.put f r (n / 2) a)
def Tr.nd {α:Type} (l:Tr α) (v:Option α) (r:Tr α):Tr α:=
 match l,v,r with
 | .leaf,none,.leaf=> .leaf
 | l,v,r=> .node l v r
def Tr.erase {α:Type}:Nat→Tr α→Nat→Tr α
 | 0,t,_=>t
 | _+1,.leaf,_=> .leaf
 | f+1,.node l v r,n=>
  match n with
  | 0=> .nd l none r
  | n+1=>bif Nat.beq (n%2) 0 then .nd (Tr.erase f l (n / 2)) v r else .nd l v (Tr.erase f r (n / 2))
def Tr.set {α:Type} (t:Tr α) (n:Nat) (a:α):Tr α:=bif Nat.blt n 4194304 then Tr.put 24 t n a else .leaf
def Tr.del {α:Type} (t:Tr α) (n:Nat):Tr α:=bif Nat.blt n 4194304 then Tr.erase 24 t n else .leaf
inductive Sg where
 | cells (l:List SV)
 | ints (k:IntKind) (n:Nat) (xs:List Int)
def Sg.len:Sg→Nat
 | .cells l=>l.length
 | .ints _ n _=>n
def Sg.den (β:Env):Sg→List Value→Prop
 | .cells l,vs=>DenL β l vs
 | .ints k n xs,vs=>xs.length=n∧vs=xs.map (.int k)
def segsLen:List Sg→Nat
 | []=>0
 | s::l=>s.len+segsLen l
def segsDen (β:Env):List Sg→List Value→Prop
 | [],vs=>vs= []
 | s::l,vs=>∃us us',s.den β us∧segsDen β l us'∧vs=us++us'
inductive Ct where
 | cells (l:List SV)
 | ints (k:IntKind) (xs:List Int)
 | segs (l:List Sg)
def Ct.len:Ct→Nat
 | .cells l=>l.length
 | .ints _ xs=>xs.length
 | .segs l=>segsLen l
def Ct.den (β:Env):Ct→List Value→Prop
 | .cells l,vs=>DenL β l vs
 | .ints k xs,vs=>vs=xs.map (.int k)
 | .segs l,vs=>segsDen β l vs
structure Reg where
 ro:Bool
 c:Ct
abbrev Mem:=Tr Reg
def intsOf (k:IntKind):List SV→Option (List Int)
 | []=>some []
 | .int k' a::l=>
  match decide (k'=k),intsOf k l with
  | true,some xs=>some (a.val::xs)
  | _,_=>none
 | _=>none
def kindOf:List SV→Option IntKind
 | .int k _::_=>some k
 | _=>none
def Ct.asInts:Ct→Option (IntKind×List Int)
 | .ints k xs=>some (k,xs)
 | .cells l=>
  match kindOf l with
  | some k=>(match intsOf k l with | some xs=>some (k,xs) | none=>none)
  | none=>none
 | .segs _=>none
def picks (k:IntKind) (xs:List Int) (o:Nat):Nat→List SV
 | 0=> []
 | n+1=> .int k (.sym (xs.getD o 0))::picks k xs (o+1) n
abbrev Ob:=Option Prop
def Ob.ok:Ob→Prop
 | none=>True
 | some p=>p
def Ob.and:Ob→Ob→Ob
 | none,q=>q
 | p,none=>p
 | some p,some q=>some (p∧q)
def Ob.then (p:Ob) (K:Prop):Prop:=
 match p with
 | none=>K
 | some p=>p∧K
def splice {α:Type} (l:List α) (o:Nat) (vs:List α):List α:=l.take o++vs++l.drop (o+vs.length)
def segsFlat:List Sg→List SV
 | []=> []
 | .cells l::r=>l++segsFlat r
 | .ints k n xs::r=>picks k xs 0 n++segsFlat r
def segAt:List Sg→Nat→Option (IntKind×Nat×List Int)
 | [],_=>none
 | s::l,b=>
  match b with
  | 0=>(match s with | .ints k n xs=>some (k,n,xs) | _=>none)
  | b+1=>bif Nat.ble s.len (b+1)then segAt l (b+1-s.len)else none
def segPut:List Sg→Nat→List Int→List Sg
 | [],_,_=> []
 | s::l,b,ys=>
  match b with
  | 0=>(match s with | .ints k n _=> .ints k n ys::l | s=>s::l)
  | b+1=>s::segPut l (b+1-s.len) ys
def segWrite:List Sg→Nat→List SV→Option (List Sg)
 | [],_,_=>none
 | s::l,o,vs=>
  bif Nat.ble s.len o then (segWrite l (o-s.len) vs).map (s:: ·)else
  match s with
  | .cells c=>bif Nat.ble (o+vs.length) c.length && vs.all SV.one then some (.cells (splice c o vs)::l)else none
  | .ints k n xs=>
   match intsOf k vs with
   | some ys=>bif Nat.ble (o+ys.length) n then some (.ints k n (splice xs o ys)::l)else none
   | none=>none
def Ct.row (c:Ct) (o:N):Option (IntKind×List Int×N):=
 match c with
 | .segs l=>
  match o with
  | .lit b=>(segAt l b).map fun (k,_,xs)=>(k,xs,.lit 0)
  | .at b s=>(segAt l b).map fun (k,_,xs)=>(k,xs,.sym s)
  | .sym _=>none
 | c=>c.asInts.map fun (k,xs)=>(k,xs,o)
def Ct.putRow (c:Ct) (o:N) (k:IntKind) (ys:List Int):Ct:=
 match c with
 | .segs l=>
  match o with
  | .lit b=> .segs (segPut l b ys)
  | .at b _=> .segs (segPut l b ys)
  | .sym _=>c
 | _=> .ints k ys
def Ct.readI (c:Ct) (off:N) (n:Nat):Option (Ob×List SV):=
 match c.asInts with
 | some (k,xs)=>some (some (off.val+n≤xs.length),picks k xs off.val n)
 | none=>none
def Ct.read (c:Ct) (off:N) (n:Nat):Option (Ob×List SV):=
 match c with
 | .cells l=>
  match off with
  | .lit o=>bif Nat.ble (o+n) l.length then some (none,(l.drop o).take n)else none
  | .sym s=>Ct.readI (.cells l) (.sym s) n
  | .at b s=>Ct.readI (.cells l) (.at b s) n
 | .segs l=>
  match off with
  | .lit o=>bif Nat.ble (o+n) (segsLen l)then some (none,((segsFlat l).drop o).take n)else none
  | .at b s=>(segAt l b).map fun (k,_,xs)=>(some (s+n≤xs.length),picks k xs s n)
  | .sym _=>none
 | .ints k xs=>Ct.readI (.ints k xs) off n
def Ct.writeI (c:Ct) (off:N) (vs:List SV):Option (Ob×Ct):=
 match c.asInts with
 | some (k,xs)=>
  match vs with
  | [.int k' a]=>bif decide (k'=k)then some (some (off.val<xs.length),.ints k (xs.set off.val a.val))else none
  | vs=>
   match intsOf k vs with
   | some ys=>some (some (off.val+ys.length≤xs.length),.ints k (splice xs off.val ys))
   | none=>none
 | none=>none
def Ct.write (c:Ct) (off:N) (vs:List SV):Option (Ob×Ct):=
 match c with
 | .cells l=>
  match off with
  | .lit o=>bif Nat.ble (o+vs.length) l.length && vs.all SV.one then some (none,.cells (splice l o vs))else none
  | .sym s=>Ct.writeI (.cells l) (.sym s) vs
  | .at b s=>Ct.writeI (.cells l) (.at b s) vs
 | .segs l=>
  match off with
  | .lit o=>(segWrite l o vs).map fun l=>(none,.segs l)
  | .at b s=>
   match segAt l b,vs with
   | some (k,_,xs),[.int k' a]=>bif decide (k'=k)then some (some (s<xs.length),.segs (segPut l b (xs.set s a.val)))else none
   | _,_=>none
  | .sym _=>none
 | .ints k xs=>Ct.writeI (.ints k xs) off vs
def band (k:IntKind) (x y:Int):Int:=k.wrap (BitVec.ofInt k.bits x &&& BitVec.ofInt k.bits y).toNat
def bor (k:IntKind) (x y:Int):Int:=k.wrap (BitVec.ofInt k.bits x ||| BitVec.ofInt k.bits y).toNat
def bxor (k:IntKind) (x y:Int):Int:=k.wrap (BitVec.ofInt k.bits x ^^^ BitVec.ofInt k.bits y).toNat
def bandn (k:IntKind) (x y:Int):Int:=k.wrap (BitVec.ofInt k.bits x &&& ~~~BitVec.ofInt k.bits y).toNat
def shlv (k:IntKind) (x:Int) (n:Nat):Int:=k.wrap (x*2 ^ (min n k.bits))
def shrv (k:IntKind) (x:Int) (n:Nat):Int:=x.fdiv (2 ^ (min n k.bits))
structure Out where
 p:Ob
 nmd:Bool
 v:SV
def mkA (lit:Bool) (x:Int):A:=bif lit then .lit x else .sym x
def A.isLit:A→Bool
 | .lit _=>true
 | .sym _=>false
def mkB (lit:Bool) (b:Bool):B:=bif lit then .lit b else .sym b
def B.isLit:B→Bool
 | .lit _=>true
 | .sym _=>false
def N.isLit:N→Bool
 | .lit _=>true
 | _=>false
def mkN (lit:Bool) (n:Nat):N:=bif lit then .lit n else .sym n
def N.add:N→N→N
 | .lit a,.lit b=> .lit (a+b)
 | .lit 0,.sym s=> .sym s
 | .lit (a+1),.sym s=> .at (a+1) s
 | .at a s,b=> .at a (s+b.val)
 | a,b=> .sym (a.val+b.val)
def obIf (lit:Bool) (p:Prop) [Decidable p]:Option Ob:=
 bif lit then (bif decide p then some none else none)else some (some p)
def arith (op:BinOp) (k:IntKind) (x y:Int):Option Int:=
 match op with
 | .add=>some (k.wrap (x+y))
 | .sub=>some (k.wrap (x-y))
 | .mul=>some (k.wrap (x*y))
 | .and=>some (band k x y)
 | .or=>some (bor k x y)
 | .xor=>some (bxor k x y)
 | .andNot=>some (bandn k x y)
 | _=>none
def cmp (op:BinOp) (x y:Int):Option Bool:=
 match op with
 | .eql=>some (x==y)
 | .neq=>some (x !=y)
 | .lss=>some (decide (x<y))
 | .leq=>some (decide (x≤y))
 | .gtr=>some (decide (x>y))
 | .geq=>some (decide (x≥y))
 | _=>none
def sameCells:List SV→List SV→Option (Bool×Bool)
 | [],[]=>some (true,true)
 | .int k a::l,.int k' b::m=>
  match decide (k=k'),sameCells l m with
  | true,some (lit,r)=>some (lit && a.isLit && b.isLit,(a.val==b.val) && r)
  | _,_=>none
 | _,_=>none
def intCells (P:Program):Nat→TypeId→Option Nat
 | 0,_=>none
 | d+1,t=>
  match P.underlying t with
  | some (.int _)=>some 1
  | some (.array len e)=>(intCells P d e).bind fun n=>bif Nat.beq ((P.info? e).map (·.size) |>.getD 0) n then some (len*n)else none
  | some (.struct fs)=>fs.toList.foldl (fun acc f=>acc.bind fun s=>(intCells P d f.type).bind fun n=>
    bif (Nat.beq f.offset s && Nat.beq ((P.info? f.type).map (·.size) |>.getD 0) n && f.name != "_")then some (s+n)else none) (some 0)
  | _=>none
def ObjFr (T:Nat→Prop):Option Obj→Option Obj→Prop
 | some (.cells c t f),x=>∃c',x=some (.cells c' t f)∧c'.size=c.size∧∀o,¬T o→c'[o]? =c[o]?
 | y,x=>x=y
structure Fr (T:Nat→Nat→Prop) (w w':World):Prop where
 os:w'.os=w.os
 tape:w'.tape=w.tape
 output:w'.output=w.output
 size:w.heap.size≤w'.heap.size
 blk:∀b,b<w.heap.size→ObjFr (T b) w.heap[b]? w'.heap[b]?
def noT:Nat→Nat→Prop:=fun _ _=>False
def rid (n j:Nat):Nat:=8*n+2*j+1
def gid (g:Nat):Nat:=2*g
structure RegOk (β:Env) (B:Nat) (T:Nat→Nat→Prop) (w:World) (r:Nat) (reg:Reg):Prop where
 ex:∃b o arr t fz vs,β r=some (b,o)∧w.heap[b]? =some (.cells arr t fz)∧reg.c.den β vs∧
  (∀i v,vs[i]? =some v→arr[o+i]? =some v)∧
  (reg.ro=false→∀i,i<vs.length→¬(fz.1≤o+i∧o+i<fz.2)∧(B≤b∨T b (o+i)))
structure Holds (β:Env) (T:Nat→Nat→Prop) (m:Mem) (w0 w:World):Prop where
 fr:Fr T w0 w
 reg:∀r g,m.get r=some g→RegOk β w0.heap.size T w r g
 disj:∀r s g h,r≠s→m.get r=some g→m.get s=some h→(g.ro=false∨h.ro=false)→
  ∀b o o',β r=some (b,o)→β s=some (b,o')→o+g.c.len≤o'∨o'+h.c.len≤o∨g.c.len=0∨h.c.len=0
def CallsX (P:Program) (f:FuncId) (vs:Array Value) (w:World) (R:Ending→World→Prop):Prop:=
 match (callFunc f vs).run P w with
 | .ok (.value v) w'=>R (.returned v) w'
 | .ok (.enter f' args) w'=>Calls P f' args w' R
 | _=>False
structure Rd (P:Program) where
 f:FuncId
 run:Mem→List SV→Option (Ob×SV)
 sound:∀β T m w0 w args vs p sv,(∀g,β (gid g)=some (g,0))→Holds β T m w0 w→DenL β args vs→run m args=some (p,sv)→p.ok→
  CallsX P f vs.toArray w fun e w'=>∃v,e= .returned v∧Den β sv v∧Fr noT w w'
def Ext (β β':Env) (n:Nat):Prop:=∀r,(∀j,j<4→r≠rid n j)→β' r=β r
structure Ef (P:Program) where
 f:FuncId
 run:Nat→Mem→List SV→(SV→Mem→Prop)→Prop
 mono:∀n m args (k k':SV→Mem→Prop),(∀v m',k v m'→k' v m')→run n m args k→run n m args k'
 live:∀n m args k,run n m args k→∃v m',k v m'
 sound:∀β T m w0 w args vs n k,(∀g,β (gid g)=some (g,0))→Holds β T m w0 w→DenL β args vs→(∀j,j<4→β (rid n j)=none)→run n m args k→
  CallsX P f vs.toArray w fun e w'=>∃β' v sv m',e= .returned v∧Ext β β' n∧Den β' sv v∧Holds β' T m' w0 w'∧k sv m'
 nw:Bool:=false
 keeps:nw=true→∀n m args k,run n m args k→run n m args fun v m'=>(m'=m∨∃g,m'=Tr.set m (rid n 0) g)∧k v m'
structure Eqs (P:Program) where
 t:TypeId
 n:Nat
 guard:P.eqGuardType P.depth t=false
 sound:∀(xs ys:List Int) (w:World),xs.length=n→ys.length=n→
  (Op.equal t (.agg (xs.map (.int .u64)).toArray) (.agg (ys.map (.int .u64)).toArray)).run P w= .ok (decide (xs=ys)) w
structure Cx (P:Program) where
 rds:List (Rd P)
 efs:List (Ef P)
 eqs:List (Eqs P)
def findRd {P:Program} (f:FuncId):List (Rd P)→Option (Rd P)
 | []=>none
 | r::l=>bif Nat.beq r.f f then some r else findRd f l
def findEf {P:Program} (f:FuncId):List (Ef P)→Option (Ef P)
 | []=>none
 | r::l=>bif Nat.beq r.f f then some r else findEf f l
def findEq {P:Program} (t:TypeId):List (Eqs P)→Option (Eqs P)
 | []=>none
 | r::l=>bif Nat.beq r.t t then some r else findEq t l
def binS {P:Program} (Γ:Cx P) (op:BinOp) (t:TypeId) (cst:Bool) (x y:SV):Option Out:=
 match x,y with
 | .int k a,.int k' b=>
  match op with
  | .shl=>(obIf b.isLit (0≤b.val)).map fun p=>⟨p,true,.int k (mkA (a.isLit && b.isLit) (shlv k a.val b.val.toNat))⟩
  | .shr=>(obIf b.isLit (0≤b.val)).map fun p=>⟨p,true,.int k (mkA (a.isLit && b.isLit) (shrv k a.val b.val.toNat))⟩
  | .quo=>bif decide (k=k')then (obIf b.isLit (b.val≠0)).map fun p=>⟨p,true,.int k (mkA (a.isLit && b.isLit) (k.wrap (a.val.tdiv b.val)))⟩else none
  | .rem=>bif decide (k=k')then (obIf b.isLit (b.val≠0)).map fun p=>⟨p,true,.int k (mkA (a.isLit && b.isLit) (a.val.tmod b.val))⟩else none
  | op=>
   bif decide (k=k')then
    match arith op k a.val b.val with
    | some z=>some ⟨none,true,.int k (mkA (a.isLit && b.isLit) z)⟩
    | none=>
     match cmp op a.val b.val with
     | some z=>some ⟨none,false,.bool (mkB (a.isLit && b.isLit) z)⟩
     | none=>none
   else none
 | .agg l,.agg l'=>
  match findEq t Γ.eqs with
  | some q=>
   match intsOf .u64 l,intsOf .u64 l' with
   | some xs,some ys=>
    bif Nat.beq xs.length q.n && Nat.beq ys.length q.n then
     match op with
     | .eql=>some ⟨none,false,.bool (.sym (decide (xs=ys)))⟩
     | .neq=>some ⟨none,false,.bool (.sym (!decide (xs=ys)))⟩
     | _=>none
    else none
   | _,_=>none
  | none=>none
 | .bytes xs,.bytes ys=>
  match op with
  | .eql=>some ⟨none,false,.bool (.sym ((bytesOf xs).toList==(bytesOf ys).toList))⟩
  | _=>none
 | .bool a,.bool b=>
  match P.underlying t with
  | some .bool=>
   match op with
   | .eql=>some ⟨none,false,.bool (mkB (a.isLit && b.isLit) (a.val==b.val))⟩
   | .neq=>some ⟨none,false,.bool (mkB (a.isLit && b.isLit) (!(a.val==b.val)))⟩
   | _=>none
  | _=>none
 | .slice ..,.val (.slice none _ _)=>
  match P.underlying t with
  | some (.slice _)=>
   match op with
   | .eql=>some ⟨none,false,.bool (.lit false)⟩
   | .neq=>some ⟨none,false,.bool (.lit true)⟩
   | _=>none
  | _=>none
 | .val (.slice none _ _),.val (.slice none _ _)=>
  match P.underlying t with
  | some (.slice _)=>
   match op with
   | .eql=>some ⟨none,false,.bool (.lit true)⟩
   | .neq=>some ⟨none,false,.bool (.lit false)⟩
   | _=>none
  | _=>none
 | .iface _ _,.val .nilIface=>
  match P.underlying t with
  | some (.interface _)=>
   match op with
   | .eql=>some ⟨none,false,.bool (.lit false)⟩
   | .neq=>some ⟨none,false,.bool (.lit true)⟩
   | _=>none
  | _=>none
 | .val .nilIface,.val .nilIface=>
  match P.underlying t,cst with
  | some (.interface _),true=>
   match op with
   | .eql=>some ⟨none,false,.bool (.lit true)⟩
   | .neq=>some ⟨none,false,.bool (.lit false)⟩
   | _=>none
  | _,_=>none
 | _,_=>none
def unS (op:UnOp) (x:SV):Option Out:=
 match op,x with
 | .neg,.int k a=>some ⟨none,true,.int k (mkA a.isLit (k.wrap (0-a.val)))⟩
 | .xor,.int k a=>some ⟨none,true,.int k (mkA a.isLit (bxor k (if k.signed then -1 else k.max) a.val))⟩
 | .not,.bool b=>some ⟨none,false,.bool (mkB b.isLit (!b.val))⟩
 | _,_=>none
def strAt (s:ByteArray) (a:Int):Int:=(((s.data[a.toNat]?).getD 0).toNat:Int)
def sizeS (P:Program) (t:TypeId):Option Nat:=(P.info? t).map (·.size)
def isAggS (P:Program) (t:TypeId):Option Bool:=
 (P.underlying t).map fun d=>match d with | .struct _ | .array _ _=>true | _=>false
def partS (P:Program) (t:TypeId) (l:List SV) (off:Nat):Option SV:=
 match isAggS P t,sizeS P t with
 | some true,some n=>bif Nat.ble (off+n) l.length then some (.agg ((l.drop off).take n))else none
 | some false,_=>l[off]?
 | _,_=>none
def boundS (x:SV) (y:N):Option (Ob×N):=
 match x with
 | .int _ a=>(obIf (a.isLit && y.isLit) (0≤a.val∧a.val≤y.val)).map fun p=>(p,mkN a.isLit a.val.toNat)
 | _=>none
def boundOpt (x:Option SV) (y d:N):Option (Ob×N):=
 match x with
 | none=>some (none,d)
 | some x=>boundS x y
def N.sub (a b:N):N:=mkN (a.isLit && b.isLit) (a.val-b.val)
def N.mul (a:N) (k:Nat):N:=mkN a.isLit (a.val*k)
def boundsS (len cap:N) (lo hi mx:Option SV):Option (Ob×N×N×N):=
 match boundOpt mx cap cap with
 | none=>none
 | some (p1,m)=>
  match hi,mx with
  | none,some _=>none
  | hi,_=>
   match boundOpt hi m len with
   | none=>none
   | some (p2,h)=>
    match boundOpt lo h (.lit 0)with
    | none=>none
    | some (p3,l)=>some ((p1.and p2).and p3,l,h,m)
def slid (c l o:N) (n:Nat):N:=
 match l with
 | .lit 0=>o
 | l=>bif c.isLit && l.isLit then (bif Nat.beq c.val l.val then o else o.add (l.mul n))else o.add (.sym (if c.val=l.val then 0 else l.val*n))
def partCells:SV→List SV
 | .agg vs=>vs
 | v=> [v]
def partOk:SV→Bool
 | .any=>false
 | .tup _=>false
 | .val u=>oneCell u
 | _=>true
def fillS (place:Nat→Option (Nat×Nat)) (l:List SV):List (Nat×SV)→Option (List SV)
 | []=>some l
 | (i,v)::rest=>
  match place i with
  | none=>none
  | some (off,size)=>
   bif Nat.beq (partCells v).length size && Nat.ble (off+size) l.length && partOk v then fillS place (splice l off (partCells v)) rest else none
def cellsOfV (v:Value):List SV:=v.cells.toList.map ofV1
def buildS (P:Program) (t:TypeId) (parts:List (Nat×SV)):Option SV:=
 match (P.info? t).bind (·.zero),P.underlying t with
 | some z,some (.struct fs)=>
  match fs.toList.mapM fun f=>(sizeS P f.type).map fun s=>(f.offset,s)with
  | some places=>(fillS (places[·]?) (cellsOfV z) parts).map .agg
  | none=>none
 | some z,some (.array _ e)=>
  match sizeS P e with
  | some size=>(fillS (fun i=>some (i*size,size)) (cellsOfV z) parts).map .agg
  | none=>none
 | _,_=>none
def isC:Operand→Bool
 | .const _=>true
 | _=>false
def opR {P:Program} (Γ:Cx P) (m:Mem) (ev:Operand→SV) (op:Op):Option Out:=
 match op with
 | .move x | .assign x=>some ⟨none,false,ev x⟩
 | .pick c a b=>
  match ev c with
  | .bool (.lit c)=>some ⟨none,false,bif c then ev a else ev b⟩
  | .bool (.sym c)=>
   match ev a,ev b with
   | .bool a,.bool b=>some ⟨none,false,.bool (.sym (bif c then a.val else b.val))⟩
   | _,_=>none
  | _=>none
 | .binOp op t x y _=>binS Γ op t (isC x || isC y) (ev x) (ev y)
 | .unOp op _ x=>unS op (ev x)
 | .convert s d x=>
  match P.underlying s,P.underlying d,ev x with
  | some (.int _),some (.int k),.int _ a=>some ⟨none,true,.int k (mkA a.isLit (k.wrap a.val))⟩
  | some (.slice e),some .string,.slice r o len _=>
   match P.underlying e,m.get r with
   | some (.int .u8),some g=>
    match g.c.asInts with
    | some (.u8,xs)=>some ⟨some (o.val+len.val≤xs.length),false,.bytes ((xs.drop o.val).take len.val)⟩
    | _=>none
   | _,_=>none
  | _,_,_=>none
 | .extract x i=>
  match ev x with
  | .tup l=>(l[i]?).map fun v=>⟨none,false,v⟩
  | _=>none
 | .nilCheck x=>
  match ev x with
  | .ptr r o=>some ⟨none,false,.ptr r o⟩
  | _=>none
 | .sliceToArrayPointer t x=>
  match P.underlying t,ev x with
  | some (.array n _),.slice r o len _=>(obIf len.isLit (n≤len.val)).map fun p=>⟨p,false,.ptr r o⟩
  | _,_=>none
 | .fieldAddr s x f=>
  match P.underlying s,ev x with
  | some (.struct fs),.ptr r o=>
   match fs[f]? with
   | some fd=>
    match sizeS P fd.type with
    | some n=>bif Nat.beq n 0 then none else some ⟨none,false,.ptr r (o.add (.lit fd.offset))⟩
    | none=>none
   | none=>none
  | _,_=>none
 | .indexAddr t x i=>
  match P.underlying t,ev x,ev i with
  | some (.array len e),.ptr r o,.int _ a=>
   match sizeS P e with
   | some n=>(obIf a.isLit (0≤a.val∧a.val<(len:Int))).map fun p=>⟨p,false,.ptr r (o.add (mkN a.isLit (a.val.toNat*n)))⟩
   | none=>none
  | some (.slice e),.slice r o len _,.int _ a=>
   match sizeS P e with
   | some n=>(obIf (a.isLit && len.isLit) (0≤a.val∧a.val<(len.val:Int))).map fun p=>⟨p,false,.ptr r (o.add (mkN a.isLit (a.val.toNat*n)))⟩
   | none=>none
  | _,_,_=>none
 | .index t x i=>
  match P.underlying t,ev x,ev i with
  | some (.array len e),.agg l,.int _ (.lit a)=>
   match sizeS P e with
   | some n=>bif decide (0≤a∧a<(len:Int))then (partS P e l (a.toNat*n)).map fun v=>⟨none,false,v⟩else none
   | none=>none
  | some .string,.val (.string s),.int _ a=>(obIf a.isLit (0≤a.val∧a.val<(s.size:Int))).map fun p=>⟨p,true,.int .u8 (mkA a.isLit (strAt s a.val))⟩
  | _,_,_=>none
 | .field t x f=>
  match P.underlying t,ev x with
  | some (.struct fs),.agg l=>
   match fs[f]? with
   | some fd=>(partS P fd.type l fd.offset).map fun v=>⟨none,false,v⟩
   | none=>none
  | _,_=>none
 | .build t parts=>(buildS P t (parts.toList.map fun (i,x)=>(i,ev x))).map fun v=>⟨none,false,v⟩
 | .slice t x lo hi mx=>
  match P.underlying t,ev x with
  | some (.slice e),.slice r o len cap=>
   match sizeS P e,boundsS len cap (lo.map ev) (hi.map ev) (mx.map ev)with
   | some n,some (p,l,h,c)=>
    some ⟨p,false,.slice r (slid c l o n) (h.sub l) (c.sub l)⟩
   | _,_=>none
  | some (.array len e),.ptr r o=>
   match sizeS P e,boundsS (.lit len) (.lit len) (lo.map ev) (hi.map ev) (mx.map ev)with
   | some n,some (p,l,h,c)=>
    some ⟨p,false,.slice r (slid c l o n) (h.sub l) (c.sub l)⟩
   | _,_=>none
  | _,_=>none
 | .makeInterface t x=>
  match P.underlying t with
  | some (.pointer _)=>some ⟨none,false,.iface t (ev x)⟩
  | _=>none
 | .load t x=>
  match ev x,isAggS P t,sizeS P t with
  | .ptr r o,some true,some n=>
   match m.get r with
   | some g=>(g.c.read o n).map fun (p,l)=>⟨p,true,.agg l⟩
   | none=>none
  | .ptr r o,some false,_=>
   match m.get r with
   | some g=>
    match g.c.read o 1 with
    | some (p,[v])=>some ⟨p,match o,g.c with | .lit _,.cells _=>false | _,_=>true,v⟩
    | _=>none
   | none=>none
  | _,_,_=>none
 | .call c=>
  match c.callee with
  | .builtin .len=>
   match (c.argTypes[0]?).bind P.underlying,(c.args[0]?).map ev with
   | some (.slice _),some (.slice _ _ len _)=>some ⟨none,true,.int .i64 (mkA len.isLit len.val)⟩
   | some (.slice _),some (.val (.slice _ n _))=>some ⟨none,false,.int .i64 (.lit n)⟩
   | some (.array n _),some _=>some ⟨none,false,.int .i64 (.lit n)⟩
   | _,_=>none
  | .builtin .min=>
   match (c.args.toList).map ev with
   | [.int k a,.int k' b]=>bif decide (k=k')then some ⟨none,true,.int k (mkA (a.isLit && b.isLit) (if b.val<a.val then b.val else a.val))⟩else none
   | _=>none
  | .builtin .max=>
   match (c.args.toList).map ev with
   | [.int k a,.int k' b]=>bif decide (k=k')then some ⟨none,true,.int k (mkA (a.isLit && b.isLit) (if b.val>a.val then b.val else a.val))⟩else none
   | _=>none
  | .value (.func f)=>
   match findRd f Γ.rds with
   | some r=>(r.run m (c.args.toList.map ev)).map fun (p,v)=>⟨p,true,v⟩
   | none=>none
  | _=>none
 | _=>none
def nmA (k:IntKind) (a:A) (K:SV→Prop):Prop:=
 match a with
 | .lit n=>K (.int k (.lit n))
 | .sym e=>∀x,x=e→K (.int k (.sym x))
def nmL:List SV→(List SV→Prop)→Prop
 | [],K=>K []
 | .int k a::l,K=>nmA k a fun v=>nmL l fun l'=>K (v::l')
 | v::l,K=>nmL l fun l'=>K (v::l')
def nm (nmd:Bool) (v:SV) (K:SV→Prop):Prop:=
 bif nmd then
  match v with
  | .int k a=>nmA k a K
  | .agg l=>nmL l fun l'=>K (.agg l')
  | .tup l=>nmL l fun l'=>K (.tup l')
  | v=>K v
 else K v
def nmG (g nmd:Bool) (v:SV) (K:SV→Prop):Prop:=
 match g,v with
 | true,.bool (.sym b)=>(b=true→K (.bool (.lit true)))∧(b=false→K (.bool (.lit false)))
 | _,v=>nm nmd v K
def litB (g:Bool) (v:SV):SV:=
 match g,v with
 | true,.bool (.sym b)=> .bool (.lit b)
 | _,v=>v
def guards (ops:List Oper) (i:Nat):Bool:=ops.any fun o=>match o.guard with | some (j,_)=>Nat.beq j i | none=>false
def put (m:Mem) (r:Nat) (g:Reg):Mem:=Tr.set m r g
def layS (v:SV):Option (List SV):=bif partOk v then some (partCells v)else none
def zeroInts (z:Value):Option IntKind:=
 match kindOf (cellsOfV z)with
 | some k=>(match intsOf k (cellsOfV z)with | some xs=>bif decide (xs=List.replicate xs.length 0)then some k else none | none=>none)
 | none=>none
structure Sl where
 r:Option Nat
 k:IntKind
 xs:List Int
 o:N
 len:N
 cap:N
def slOf (m:Mem):SV→Option (Option Sl)
 | .val (.slice none 0 0)=>some none
 | .slice r o len cap=>
  match m.get r with
  | some g=>(g.c.asInts).map fun (k,xs)=>some ⟨some r,k,xs,o,len,cap⟩
  | none=>none
 | _=>none
def Sl.lenO:Option Sl→N
 | none=> .lit 0
 | some d=>d.len
def Sl.capO:Option Sl→N
 | none=> .lit 0
 | some d=>d.cap
def Sl.rowO (s:Nat):Option Sl→List Int
 | none=> []
 | some d=>(d.xs.drop d.o.val).take (d.len.val*s)
def Sl.kO (k:IntKind):Option Sl→Bool
 | none=>true
 | some d=>decide (d.k=k)
def Sl.freeO (m:Mem):Option Sl→Bool
 | none=>true
 | some d=>(match d.cap with | .lit 0=>true | _=>false) || (match d.r with | some r=>(match m.get r with | some g=> !g.ro && Nat.blt r 4194304 | none=>false) | none=>false)
def Sl.dropO (m:Mem):Option Sl→Mem
 | some ⟨some r,_,_,_,_,_⟩=>(match m.get r with | some g=>bif g.ro then m else Tr.del m r | none=>m)
 | _=>m
def Sl.fits (s:Nat):Option Sl→Prop
 | none=>True
 | some d=>d.len.val≤d.cap.val∧d.o.val+d.cap.val*s≤d.xs.length
def Sl.reads (s:Nat):Option Sl→Prop
 | none=>True
 | some x=>x.o.val+x.len.val*s≤x.xs.length
def slR (m:Mem):SV→Option (Option Sl)
 | .val (.slice none 0 0)=>some none
 | .slice r o len cap=>
  match m.get r with
  | some g=>
   match g.c with
   | .segs l=>((Ct.segs l).row o).map fun (k,xs,o')=>some ⟨none,k,xs,o',len,cap⟩
   | c=>(c.asInts).map fun (k,xs)=>some ⟨some r,k,xs,o,len,cap⟩
  | none=>none
 | _=>none
def Sl.ownO (m:Mem):Option Sl→Bool
 | none=>false
 | some d=>match d.r with | some r=>(match m.get r with | some g=> !g.ro && Nat.blt r 4194304 | none=>false) | none=>false
def appendK (n:Nat) (m:Mem) (k:IntKind) (s:Nat) (d x:Option Sl) (K:SV→Mem→Prop):Prop:=
 ∀(cap:Nat) (ys:List Int),(Sl.lenO d).val+(Sl.lenO x).val≤cap∧ys.length=cap*s∧ys.take (((Sl.lenO d).val+(Sl.lenO x).val)*s)=Sl.rowO s d++Sl.rowO s x→
  K (.slice (rid n 0) (.lit 0) ((Sl.lenO d).add (Sl.lenO x)) (.sym cap)) (put (Sl.dropO m d) (rid n 0) ⟨false,.ints k ys⟩)
def appendS (n:Nat) (m:Mem) (k:IntKind) (s by_:Nat) (dst:SV) (d x:Option Sl) (K:SV→Mem→Prop):Prop:=
 bif Sl.kO k d && Sl.kO k x && Sl.freeO m d then
  (Sl.fits s d∧Sl.reads s x∧((Sl.lenO d).val+(Sl.lenO x).val)*by_≤2 ^ 39∧(Sl.lenO d).val+(Sl.lenO x).val≤2 ^ 39)∧
  bif Sl.ownO m d then
   appendK n m k s d x K
  else
  ((Sl.lenO d).val+(Sl.lenO x).val=0→K dst m)∧
  (0<(Sl.lenO d).val+(Sl.lenO x).val→appendK n m k s d x K)
 else False
def noMem:Mem→Bool
 | .leaf=>true
 | _=>false
def sameArg:Operand→Operand→Bool
 | .tmp a,.tmp b=>Nat.beq a b
 | .const (.int k n),.const (.int k' n')=>decide (k=k') && decide (n=n')
 | _,_=>false
def opW {P:Program} (Γ:Cx P) (m0:Mem) (n:Nat) (m:Mem) (ev:Operand→SV) (op:Op) (K:SV→Mem→Prop):Prop:=
 match op with
 | .alloc e=>
  match (P.info? e).bind (·.zero)with
  | some z=>K (.ptr (rid n 0) (.lit 0)) (put m (rid n 0) ⟨false,.cells (cellsOfV z)⟩)
  | none=>False
 | .box _ x=>
  match layS (ev x)with
  | some l=>K (.ptr (rid n 0) (.lit 0)) (put m (rid n 0) ⟨false,.cells l⟩)
  | none=>False
 | .store t x v=>
  match ev x,layS (ev v),sizeS P t with
  | .ptr r o,some l,some s=>
   bif Nat.beq l.length s && Nat.blt r 4194304 then
    match m.get r,m0.get r with
    | some g,none=>
     bif g.ro then False else
     match g.c.write o l with
     | some (p,c)=>p.then (K (.val undef) (put m r ⟨false,c⟩))
     | none=>False
    | _,_=>False
   else False
  | _,_,_=>False
 | .buildSlice t len parts=>
  match P.underlying t with
  | some (.slice e)=>
   match (P.info? e).bind (·.zero),sizeS P e with
   | some z,some s=>
    bif Nat.ble (len*s) 4096 && Nat.ble 1 (len*s) && Nat.beq (cellsOfV z).length s then
     match fillS (fun i=>some (i*s,s)) ((List.replicate len (cellsOfV z)).flatten) (parts.toList.map fun (i,x)=>(i,ev x))with
     | some l=>K (.slice (rid n 0) (.lit 0) (.lit len) (.lit len)) (put m (rid n 0) ⟨false,.cells l⟩)
     | none=>False
    else
     match len,parts.toList,zeroInts z with
     | 0,[],some k=>K (.slice (rid n 0) (.lit 0) (.lit 0) (.lit 0)) (put m (rid n 0) ⟨false,.ints k []⟩)
     | _,_,_=>False
   | _,_=>False
  | _=>False
 | .makeSlice t a b=>
  bif sameArg a b then
   match P.underlying t,ev a with
   | some (.slice e),.int _ l=>
    match (P.info? e).bind (·.zero),sizeS P e,(P.info? e).map (·.bytes)with
    | some z,some s,some by_=>
     match zeroInts z with
     | some k=>
      bif Nat.beq (cellsOfV z).length s then
      (0≤l.val∧l.val*by_≤2 ^ 47∧l.val≤2 ^ 47)∧
       K (.slice (rid n 0) (.lit 0) (mkN l.isLit l.val.toNat) (mkN l.isLit l.val.toNat)) (put m (rid n 0) ⟨false,.ints k (List.replicate (l.val.toNat*s) 0)⟩)
      else False
     | none=>False
    | _,_,_=>False
   | _,_=>False
  else False
 | .call c=>
  match c.callee with
  | .value (.func f)=>
   match findEf f Γ.efs with
   | some q=>bif noMem m0 || q.nw then q.run n m (c.args.toList.map ev) K else False
   | none=>False
  | .builtin .copy=>
   match m0,(c.argTypes[0]?).bind P.underlying,(c.args[0]?).map ev,(c.args[1]?).map ev with
   | .leaf,some (.slice e),some (.slice r o len cap),some src=>
    match sizeS P e,slR m (.slice r o len cap),slR m src,m.get r with
    | some 1,some (some d),some (some s),some g=>
     bif g.ro then False else
     bif decide (d.k=s.k)then
      (s.o.val+min s.len.val d.len.val≤s.xs.length∧d.o.val+min s.len.val d.len.val≤d.xs.length)∧
      K (.int .i64 (mkA (s.len.isLit && d.len.isLit) ((min s.len.val d.len.val:Nat):Int)))
       (put m r ⟨false,g.c.putRow o d.k (splice d.xs d.o.val ((s.xs.drop s.o.val).take (min s.len.val d.len.val)))⟩)
     else False
    | _,_,_,_=>False
   | _,_,_,_=>False
  | .builtin .append=>
   match m0,(c.argTypes[0]?).bind P.underlying,(c.argTypes[1]?).bind P.underlying,(c.args[0]?).map ev,(c.args[1]?).map ev with
   | .leaf,some (.slice e),some (.slice _),some dst,some src=>
    match sizeS P e,(P.info? e).map (·.bytes),(P.info? e).bind (·.zero),slOf m dst,slR m src with
    | some s,some by_,some z,some d,some x=>
     match zeroInts z with
     | some k=>bif Nat.ble 1 s && Nat.beq (cellsOfV z).length s then appendS n m k s by_ dst d x K else False
     | none=>False
    | _,_,_,_,_=>False
   | _,_,_,_,_=>False
  | _=>False
 | _=>False
structure St where
 nt:Nat
 nr:Nat
 slots:Tr SV
 m:Mem
def evS (sl:Tr SV):Operand→SV
 | .tmp t=>match sl.get t with | some v=>v | none=> .any
 | .const v=>ofV v
 | .global g=> .ptr (gid g) (.lit 0)
 | .func f=> .val (.func (.func f) #[] #[])
def putS (nt:Nat) (sl:Tr SV) (d:Option Tmp) (v:SV):Tr SV:=
 match d with
 | none=>sl
 | some d=>bif Nat.blt d nt then Tr.set sl d v else sl
inductive Cl where
 | t | r | a | w
 deriving DecidableEq
def exC {P:Program} (Γ:Cx P) (gd:Bool) (m0:Mem) (c:Cl) (n:Nat) (ev:Operand→SV) (m:Mem) (op:Op) (k:SV→Mem→Prop):Prop:=
 match c with
 | .t=>
  match opR Γ m0 ev op with
  | some ⟨p,nmd,v⟩=>p.then (nmG gd nmd v fun v=>k v m)
  | none=>False
 | .r=>
  match opR Γ m ev op with
  | some ⟨p,nmd,v⟩=>p.then (nmG gd nmd v fun v=>k v m)
  | none=>False
 | _=>bif Nat.blt (rid n 3) 4194304 then opW Γ m0 n m ev op k else False
inductive Wn where
 | yes | no | ask (b:Bool) | stop
def wnOf (ops:List Oper) (sl:Tr SV) (o:Oper):Wn:=
 match o.guard with
 | none=> .yes
 | some (j,want)=>
  match (ops[j]?).bind (·.dst)with
  | none=> .no
  | some d=>
   match sl.get d with
   | some (.bool (.lit b))=>bif b==want then .yes else .no
   | some (.bool (.sym b))=> .ask (b==want)
   | some (.val (.tuple _))=> .no
   | _=> .stop
def ex1 {P:Program} (Γ:Cx P) (gd:Bool) (m0:Mem) (c:Cl) (n:Nat) (ev:Operand→SV) (m:Mem) (wn:Wn) (op:Op) (k:SV→Mem→Prop):Prop:=
 match wn with
 | .yes=>exC Γ gd m0 c n ev m op k
 | .no=>k (.val undef) m
 | .ask b=>(b=true→exC Γ gd m0 c n ev m op k)∧(b=false→k (.val undef) m)
 | .stop=>False
def St.upd (st:St) (d:Option Tmp) (v:SV) (m:Mem):St:= { nt:=st.nt,nr:=st.nr,slots:=putS st.nt st.slots d v,m:=m }
def exec1 {P:Program} (Γ:Cx P) (ops:List Oper) (m0:Mem) (c:Cl) (i:Nat) (o:Oper) (st:St) (K:St→Prop):Prop:=
 ex1 Γ (guards ops i) m0 c (st.nr+i) (evS st.slots) st.m (wnOf ops st.slots o) o.op fun v m=>K (st.upd o.dst v m)
def execL {P:Program} (Γ:Cx P) (ops:List Oper) (m0:Mem):Nat→List (Cl×Oper)→St→(St→Prop)→Prop
 | _,[],st,K=>K st
 | i,(c,o)::l,st,K=>exec1 Γ ops m0 c i o st fun st=>execL Γ ops m0 (i+1) l st K
def isW {P:Program} (Γ:Cx P):Op→Option Cl
 | .alloc _ | .box .. | .buildSlice .. | .makeSlice .. =>some .a
 | .store .. =>some .w
 | .call c=>
  match c.callee with
  | .builtin .len | .builtin .min | .builtin .max=>none
  | .value (.func f)=>(match findRd f Γ.rds with | some _=>none | none=>some .w)
  | _=>some .w
 | _=>none
def wild {P:Program} (Γ:Cx P):Op→Bool
 | .store .. =>false
 | .call c=>
  match c.callee with
  | .value (.func f)=>(match findEf f Γ.efs with | some q=> !q.nw | none=>(match findRd f Γ.rds with | some _=>false | none=>true))
  | _=>(match isW Γ (.call c)with | some .w=>true | _=>false)
 | op=>match isW Γ op with | some .w=>true | _=>false
def svRid:SV→Option Nat
 | .ptr r _=>some r
 | .slice r _ _ _=>some r
 | _=>none
def absOf (sl:Tr SV) (en:Tr Nat):Operand→Option Nat
 | .tmp t=>
  match en.get t with
  | some r=>some r
  | none=>(match sl.get t with | some v=>svRid v | none=>none)
 | .global g=>some (gid g)
 | _=>none
def absStep (sl:Tr SV) (nr:Nat) (i:Nat) (o:Oper) (en:Tr Nat):Tr Nat:=
 match o.dst with
 | none=>en
 | some d=>
  match o.op with
  | .move x | .assign x | .nilCheck x | .fieldAddr _ x _ | .indexAddr _ x _ | .slice _ x _ _ _=>
   (match absOf sl en x with | some r=>Tr.set en d r | none=>en)
  | .alloc _ | .box .. | .buildSlice .. | .makeSlice .. =>Tr.set en d (rid (nr+i) 0)
  | _=>en
def written {P:Program} (Γ:Cx P) (sl:Tr SV) (nr:Nat):Nat→List Oper→Tr Nat→Option (List Nat)
 | _,[],_=>some []
 | i,o::l,en=>
  bif wild Γ o.op then none else
  match written Γ sl nr (i+1) l (absStep sl nr i o en)with
  | none=>none
  | some ws=>
   match o.op with
   | .store _ a _=>(match absOf sl en a with | some r=>some (r::ws) | none=>none)
   | _=>some ws
def frozen {P:Program} (Γ:Cx P) (st:St) (ops:List Oper):Mem:=
 match written Γ st.slots st.nr 0 ops .leaf with
 | none=> .leaf
 | some ws=>ws.foldl (fun m r=>Tr.del m r) st.m
def has (m:Mem) (r:Nat):Bool:=match m.get r with | some _=>true | none=>false
def hasCl (m0:Mem) (r:Nat):Cl:=bif has m0 r then .t else .r
def cvCls (m0:Mem) (sl:Tr SV) (en:Tr Nat):Operand→Cl
 | .tmp t=>
  match en.get t with
  | some r=>hasCl m0 r
  | none=>(match sl.get t with | some v=>(match svRid v with | some r=>hasCl m0 r | none=> .t) | none=> .r)
 | _=> .t
def classes {P:Program} (Γ:Cx P) (m0:Mem) (sl:Tr SV) (nr:Nat):Nat→List Oper→Tr Nat→List Cl
 | _,[],_=> []
 | i,o::l,en=>
  (match isW Γ o.op with
   | some c=>c
   | none=>
    match o.op with
    | .load _ a=>(match absOf sl en a with | some r=>bif has m0 r then .t else .r | none=> .r)
    | .convert _ _ x=>cvCls m0 sl en x
    | .call c=>bif c.args.toList.all fun x=>(match absOf sl en x with | some r=>has m0 r | none=>true)then .t else .r
    | _=> .t)::classes Γ m0 sl nr (i+1) l (absStep sl nr i o en)
def plain {P:Program} (Γ:Cx P):List Oper→List Cl
 | []=> []
 | o::l=>(match isW Γ o.op with | some c=>c | none=> .r)::plain Γ l
def maskOf (ms:List Nat) (o:Oper):Nat:=
 o.after.toList.foldl (fun s e=>bif Region.binds .any e then s ||| (2 ^ e.on ||| ms.getD e.on 0)else s) 0
def masks:List Oper→List Nat→List Nat
 | [],ms=>ms
 | o::l,ms=>masks l (ms++ [maskOf ms o])
def notIn (d:Option Tmp) (o:Oper) (ops:List Oper):Bool:=
 match d with
 | none=>true
 | some d=>
  o.op.operands.toList.all (fun x=>match x with | .tmp t=> !Nat.beq t d | _=>true) &&
  (match o.guard with | none=>true | some (j,_)=>(match (ops[j]?).bind (·.dst)with | some t=> !Nat.beq t d | none=>true)) &&
  (match o.dst with | some t=> !Nat.beq t d | none=>true)
def clsFree:Cl→Cl→Bool
 | .t,_=>true
 | _,.t=>true
 | .r,.r=>true
 | .a,.a=>true
 | _,_=>false
def free (ops:List Oper) (x y:Cl×Oper):Bool:=clsFree x.1 y.1 && notIn x.2.dst y.2 ops && notIn y.2.dst x.2 ops
def freeRow (ops:List Oper) (y:Cl×Oper) (mask:Nat):Nat→List (Cl×Oper)→Bool
 | _,[]=>true
 | i,x::l=>(Nat.testBit mask i || free ops x y) && freeRow ops y mask (i+1) l
def drawOk (ops:List Oper):Nat→List (Cl×Oper)→List (Cl×Oper)→List Nat→Bool
 | _,_,[],_=>true
 | j,done,y::l,ms=>
  y.2.after.toList.all (fun e=> !Region.binds .any e || Nat.blt e.on j) && freeRow ops y (maskOf ms y.2) 0 done && drawOk ops (j+1) (done++ [y]) l (ms++ [maskOf ms y.2])
inductive Ex where
 | normal | exit (id:Nat) | ret
def unroll (f:St→(Ex→St→Prop)→Prop):Nat→St→(Ex→St→Prop)→Prop
 | 0,_,_=>False
 | n+1,st,K=>f st fun e st'=>match e with | .normal=>unroll f n st' K | e=>K e st'
def eqA (a b:A):Option Ob:=
 match a,b with
 | .lit x,.lit y=>bif decide (x=y)then some none else none
 | a,b=>some (some (a.val=b.val))
def eqN (a b:N):Option Ob:=
 match a,b with
 | .lit x,.lit y=>bif Nat.beq x y then some none else none
 | a,b=>some (some (a.val=b.val))
def eqB (a b:B):Option Ob:=
 match a,b with
 | .lit x,.lit y=>bif x==y then some none else none
 | a,b=>some (some (a.val=b.val))
def both (p q:Option Ob):Option Ob:=
 match p,q with
 | some p,some q=>some (p.and q)
 | _,_=>none
mutual
def SV.le:SV→SV→Option Ob
 | _,.any=>some none
 | .int k a,.int k' a'=>bif decide (k=k')then eqA a a' else none
 | .bool b,.bool b'=>eqB b b'
 | .ptr r o,.ptr r' o'=>bif Nat.beq r r' then eqN o o' else none
 | .slice r o l c,.slice r' o' l' c'=>bif Nat.beq r r' then both (eqN o o') (both (eqN l l') (eqN c c'))else none
 | .iface t s,.iface t' s'=>bif Nat.beq t t' then SV.le s s' else none
 | .agg l,.agg l'=>leL l l'
 | .tup l,.tup l'=>leL l l'
 | .bytes xs,.bytes ys=>some (some (xs=ys))
 | .val u,.val u'=>some (some (u=u'))
 | _,_=>none
def leL:List SV→List SV→Option Ob
 | [],[]=>some none
 | s::l,s'::l'=>both (SV.le s s') (leL l l')
 | _,_=>none
 end
def Sg.le:Sg→Sg→Option Ob
 | .cells l,.cells l'=>leL l l'
 | .ints k n xs,.ints k' n' ys=>bif decide (k=k') && Nat.beq n n' then some (some (xs=ys))else none
 | _,_=>none
def segsLe:List Sg→List Sg→Option Ob
 | [],[]=>some none
 | s::l,s'::l'=>both (Sg.le s s') (segsLe l l')
 | _,_=>none
def Ct.le:Ct→Ct→Option Ob
 | .cells l,.cells l'=>leL l l'
 | .segs l,.segs l'=>segsLe l l'
 | c,.ints k ys=>
  match c.asInts with
  | some (k',xs)=>bif decide (k'=k)then some (some (xs=ys))else none
  | none=>none
 | _,_=>none
mutual
def SV.old (nr:Nat):SV→Bool
 | .ptr r _=>Nat.blt r (rid nr 0)
 | .slice r _ _ _=>Nat.blt r (rid nr 0)
 | .iface _ v=>v.old nr
 | .agg l=>oldL nr l
 | .tup l=>oldL nr l
 | _=>true
def oldL (nr:Nat):List SV→Bool
 | []=>true
 | s::l=>s.old nr && oldL nr l
 end
def segsOld (nr:Nat):List Sg→Bool
 | []=>true
 | .cells l::r=>oldL nr l && segsOld nr r
 | .ints _ _ _::r=>segsOld nr r
def Ct.old (nr:Nat):Ct→Bool
 | .cells l=>oldL nr l
 | .ints _ _=>true
 | .segs l=>segsOld nr l
structure Head where
 slots:List (Nat×SV)
 regs:List (Nat×Reg)
def renId:List (Nat×Nat)→Nat→Nat
 | [],r=>r
 | (h,c)::l,r=>bif Nat.beq h r then c else renId l r
mutual
def SV.ren (ρ:List (Nat×Nat)):SV→SV
 | .ptr r o=> .ptr (renId ρ r) o
 | .slice r o l c=> .slice (renId ρ r) o l c
 | .iface t v=> .iface t (v.ren ρ)
 | .agg l=> .agg (renL ρ l)
 | .tup l=> .tup (renL ρ l)
 | v=>v
def renL (ρ:List (Nat×Nat)):List SV→List SV
 | []=> []
 | s::l=>s.ren ρ::renL ρ l
 end
def segsRen (ρ:List (Nat×Nat)):List Sg→List Sg
 | []=> []
 | .cells l::r=> .cells (renL ρ l)::segsRen ρ r
 | .ints k n xs::r=> .ints k n xs::segsRen ρ r
def Ct.ren (ρ:List (Nat×Nat)):Ct→Ct
 | .cells l=> .cells (renL ρ l)
 | .ints k xs=> .ints k xs
 | .segs l=> .segs (segsRen ρ l)
def ownId (nr k h:Nat):Bool:=Nat.beq (h%2) 1 && Nat.ble (rid nr 0) h && Nat.blt h (rid (nr+k) 0)
def names (st:St) (nr k:Nat):List (Nat×SV)→List (Nat×Nat)
 | []=> []
 | (i,v)::l=>
  match svRid v,(st.slots.get i).bind svRid with
  | some h,some c=>bif ownId nr k h then (h,c)::names st nr k l else names st nr k l
  | _,_=>names st nr k l
def noneOf (r:Nat):List Nat→Bool
 | []=>true
 | s::l=> !Nat.beq r s && noneOf r l
def distinct:List Nat→Bool
 | []=>true
 | r::l=>noneOf r l && distinct l
def slotsLe (st:St) (nr:Nat) (ρ:List (Nat×Nat)):List (Nat×SV)→Option Ob
 | []=>some none
 | (i,v)::l=>both (match st.slots.get i with | some u=>bif SV.old nr v then SV.le u (v.ren ρ)else none | none=>none) (slotsLe st nr ρ l)
def regsLe (st:St) (nr:Nat) (ρ:List (Nat×Nat)):List (Nat×Reg)→Option Ob
 | []=>some none
 | (r,g)::l=>both (match st.m.get (renId ρ r)with | some h=>bif (h.ro==g.ro) && Ct.old nr g.c && Nat.blt r (rid nr 0)then Ct.le h.c (g.c.ren ρ)else none | none=>none) (regsLe st nr ρ l)
def obP:Option Ob→Prop
 | none=>False
 | some none=>True
 | some (some p)=>p
def St.leR (st:St) (nr k:Nat) (h:Head) (ρ:List (Nat×Nat)):Prop:=
 bif ρ.all (fun x=>ownId nr k x.1) && distinct (h.regs.map fun x=>renId ρ x.1)then obP (both (slotsLe st (nr+k) ρ h.slots) (regsLe st (nr+k) ρ h.regs))else False
def St.le (st:St) (nr k:Nat) (h:Head):Prop:=St.leR st nr k h (names st nr k h.slots)
def Head.st (h:Head) (st:St) (k:Nat):St:=
 { nt:=st.nt,nr:=st.nr+k,slots:=h.slots.foldl (fun t x=>Tr.set t x.1 x.2) .leaf,m:=h.regs.foldl (fun t x=>Tr.set t x.1 x.2) .leaf }
structure LI where
 ι:Type
 keep:List Nat
 keepR:List Nat
 F:ι→Head
 I:St→ι→Prop
 μ:ι→Nat
 k:Nat:=0
def keepS (st:St):List Nat→List (Nat×SV)
 | []=> []
 | n::l=>match st.slots.get n with | some v=>(n,v)::keepS st l | none=>keepS st l
def keepM (st:St):List Nat→List (Nat×Reg)
 | []=> []
 | n::l=>match st.m.get n with | some v=>(n,v)::keepM st l | none=>keepM st l
def LI.head (li:LI) (st:St) (i:li.ι):Head:=
 { slots:=keepS st li.keep++(li.F i).slots,regs:=keepM st li.keepR++(li.F i).regs }
inductive Lp where
 | un (n:Nat)
 | inv (li:LI)
 | peel (li:LI)
def St.int (st:St) (n:Nat):Int:=match st.slots.get n with | some (.int _ a)=>a.val | _=>0
def St.reg (st:St) (r:Nat):List Int:=match st.m.get r with | some g=>(match g.c.asInts with | some (_,xs)=>xs | none=> []) | none=> []
def St.len (st:St) (n:Nat):Nat:=match st.slots.get n with | some (.slice _ _ l _)=>l.val | _=>0
def St.off (st:St) (n:Nat):Nat:=match st.slots.get n with | some (.slice _ o _ _)=>o.val | _=>0
def exec {P:Program} (Γ:Cx P) (U:Nat→Lp):Code→Nat→St→(Ex→St→Prop)→Prop
 | .skip,_,st,K=>K .normal st
 | .label _,_,st,K=>K .normal st
 | .region _ ops draw,_,st,K=>
  bif draw then
   bif drawOk ops.toList 0 [] ((classes Γ (frozen Γ st ops.toList) st.slots st.nr 0 ops.toList .leaf).zip ops.toList) [] && Nat.blt (rid (st.nr+ops.toList.length) 3) 4194304 then
    execL Γ ops.toList (frozen Γ st ops.toList) 0 ((classes Γ (frozen Γ st ops.toList) st.slots st.nr 0 ops.toList .leaf).zip ops.toList) st fun st'=>K .normal { st' with nr:=st.nr+ops.toList.length }
   else False
  else execL Γ ops.toList .leaf 0 ((plain Γ ops.toList).zip ops.toList) st fun st'=>K .normal { st' with nr:=st.nr+ops.toList.length }
 | .seq a b,cur,st,K=>exec Γ U a cur st fun e st'=>match e with | .normal=>exec Γ U b cur st' K | e=>K e st'
 | .cond c x y,cur,st,K=>
  match evS st.slots c with
  | .bool (.lit true)=>exec Γ U x cur st K
  | .bool (.lit false)=>exec Γ U y cur st K
  | .bool (.sym b)=>(b=true→exec Γ U x cur st K)∧(b=false→exec Γ U y cur st K)
  | _=>False
 | .block id c,_,st,K=>exec Γ U c id st fun e st'=>
  match e with
  | .exit j=>bif Nat.beq j id then K .normal st' else K (.exit j) st'
  | e=>K e st'
 | .loop c,cur,st,K=>
  match U cur with
  | .inv li=>(∃i0,li.I st i0∧St.le st st.nr li.k (li.head st i0))∧
    ∀i,li.I st i→exec Γ U c cur ((li.head st i).st st li.k) fun e st'=>
     match e with
     | .normal=>∃i',li.I st i'∧St.le st' st.nr li.k (li.head st i')∧li.μ i'<li.μ i
     | e=>K e st'
  | .un n=>unroll (fun st K=>exec Γ U c cur st K) n st K
  | .peel li=>exec Γ U c cur st fun e st1=>
   match e with
   | .normal=>(∃i0,li.I st1 i0∧St.le st1 st1.nr li.k (li.head st1 i0))∧
     ∀i,li.I st1 i→exec Γ U c cur ((li.head st1 i).st st1 li.k) fun e st'=>
      match e with
      | .normal=>∃i',li.I st1 i'∧St.le st' st1.nr li.k (li.head st1 i')∧li.μ i'<li.μ i
      | e=>K e st'
   | e=>K e st1
 | .exit id,_,st,K=>K (.exit id) st
 | .ret,_,st,K=>K .ret st
 | _,_,_,_=>False
def resS (P:Program) (st:St):ResultVar→Option (Ob×SV)
 | .tmp t=>(st.slots.get t).map fun v=>(none,v)
 | .cell a t=>
  match st.slots.get a with
  | some (.ptr r o)=>
   match st.m.get r,isAggS P t,sizeS P t with
   | some g,some true,some n=>(g.c.read o n).map fun (p,l)=>(p,.agg l)
   | some g,some false,_=>(match g.c.read o 1 with | some (p,[v])=>some (p,v) | _=>none)
   | _,_,_=>none
  | _=>none
def ressS (P:Program) (st:St):List ResultVar→Option (Ob×List SV)
 | []=>some (none,[])
 | x::l=>
  match resS P st x,ressS P st l with
  | some (p,v),some (q,vs)=>some (p.and q,v::vs)
  | _,_=>none
def retS {P:Program} (fn:Func) (st:St) (K:SV→Mem→Prop):Prop:=
 match ressS P st fn.results.toList with
 | some (p,[v])=>p.then (K v st.m)
 | some (p,vs)=>p.then (K (.tup vs) st.m)
 | none=>False
def argSlots:Nat→List SV→Tr SV→Tr SV
 | _,[],t=>t
 | i,v::l,t=>argSlots (i+1) l (Tr.set t i v)
def execF {P:Program} (Γ:Cx P) (U:Nat→Lp) (fn:Func) (nr:Nat) (args:List SV) (m:Mem) (K:SV→Mem→Prop):Prop:=
 match fn.body with
 | none=>False
 | some c=>
  bif !(Nat.ble fn.ntmps 4194304 && Nat.ble args.length fn.ntmps)then False else exec Γ U c 0 { nt:=fn.ntmps,nr:=nr,slots:=argSlots 0 args .leaf,m:=m } fun e st=>
   match e with
   | .exit _=>False
   | _=>retS (P:=P) fn st K
theorem Tr.get_leaf {α:Type} (n:Nat):(Tr.leaf:Tr α).get n=none:=by cases n<;>rfl
theorem Tr.get_kids {α:Type} (t:Tr α) (n:Nat):t.get n=(match n with | 0=>t.kids.2.1 | n+1=>bif Nat.beq (n%2) 0 then t.kids.1.get (n / 2)else t.kids.2.2.get (n / 2)):=by
 cases t with
 | leaf=>cases n<;>simp[Tr.get,Tr.kids,Tr.get_leaf]
 | node l v r=>cases n<;>rfl
theorem Tr.get_node_zero {α:Type} (l r:Tr α) (v:Option α):(Tr.node l v r).get 0=v:=rfl
theorem Tr.get_node_even {α:Type} (l r:Tr α) (v:Option α) (n:Nat) (h:n%2=0):(Tr.node l v r).get (n+1)=l.get (n / 2):=by
 show (bif Nat.beq (n%2) 0 then _ else _)=_
 rw[h];rfl
theorem Tr.get_node_odd {α:Type} (l r:Tr α) (v:Option α) (n:Nat) (h:n%2=1):(Tr.node l v r).get (n+1)=r.get (n / 2):=by
 show (bif Nat.beq (n%2) 0 then _ else _)=_
 rw[h];rfl
theorem beq00:Nat.beq 0 0=true:=rfl
theorem beq10:Nat.beq 1 0=false:=rfl
theorem Tr.get_put {α:Type}:∀(f:Nat) (t:Tr α) (n:Nat) (a:α) (i:Nat),n+1<2 ^ f→
  (Tr.put f t n a).get i=if i=n then some a else t.get i:=by
 intro f
 induction f with
 | zero=>intro t n a i h;simp at h
 | succ f ih=>
  intro t n a i h
  have hk:=Tr.get_kids t i
  unfold Tr.put
  generalize t.kids=ks at *
  obtain ⟨l,v,r⟩:=ks
  simp only at hk ⊢
  cases n with
  | zero=>
   cases i with
   | zero=>rw[Tr.get_node_zero,if_pos rfl]
   | succ i=>
    rw[if_neg (by omega),hk]
    rfl
  | succ n=>
   have hpow:2 ^ (f+1)=2*2 ^ f:=by rw[Nat.pow_succ];omega
   have hlt:n / 2+1<2 ^ f:=by omega
   rcases Nat.mod_two_eq_zero_or_one n with hp | hp
   ·simp only[hp,beq00,cond_true]
    cases i with
    | zero=>rw[Tr.get_node_zero,if_neg (by omega),hk]
    | succ i=>
     rcases Nat.mod_two_eq_zero_or_one i with hq | hq
     ·rw[Tr.get_node_even _ _ _ _ hq,ih _ _ _ _ hlt,hk]
      simp only[hq]
      by_cases hi:i=n
      ·subst hi;simp
      ·rw[if_neg (by omega),if_neg (by omega)];rfl
     ·rw[Tr.get_node_odd _ _ _ _ hq,hk,if_neg (by omega)]
      simp only[hq];rfl
   ·simp only[hp,beq10,cond_false]
    cases i with
    | zero=>rw[Tr.get_node_zero,if_neg (by omega),hk]
    | succ i=>
     rcases Nat.mod_two_eq_zero_or_one i with hq | hq
     ·rw[Tr.get_node_even _ _ _ _ hq,hk,if_neg (by omega)]
      simp only[hq];rfl
     ·rw[Tr.get_node_odd _ _ _ _ hq,ih _ _ _ _ hlt,hk]
      simp only[hq]
      by_cases hi:i=n
      ·subst hi;simp
      ·rw[if_neg (by omega),if_neg (by omega)];rfl
theorem Tr.get_nd {α:Type} (l:Tr α) (v:Option α) (r:Tr α) (i:Nat):(Tr.nd l v r).get i=(Tr.node l v r).get i:=by
 unfold Tr.nd
 split
 ·rw[Tr.get_leaf]
  cases i with
  | zero=>rfl
  | succ i=>
   rcases Nat.mod_two_eq_zero_or_one i with hq | hq
   ·rw[Tr.get_node_even _ _ _ _ hq,Tr.get_leaf]
   ·rw[Tr.get_node_odd _ _ _ _ hq,Tr.get_leaf]
 ·rfl
theorem Tr.get_erase {α:Type}:∀(f:Nat) (t:Tr α) (n i:Nat) (v:α),n+1<2 ^ f→(Tr.erase f t n).get i=some v→i≠n∧t.get i=some v:=by
 intro f
 induction f with
 | zero=>intro t n i v h;simp at h
 | succ f ih=>
  intro t n i v h hg
  cases t with
  | leaf=>simp[Tr.erase,Tr.get_leaf]at hg
  | node l u r=>
   cases n with
   | zero=>
    have hg':(Tr.nd l none r).get i=some v:=hg
    rw[Tr.get_nd]at hg'
    cases i with
    | zero=>simp[Tr.get_node_zero]at hg'
    | succ i=>exact ⟨by omega,hg'⟩
   | succ n=>
    have hpow:2 ^ (f+1)=2*2 ^ f:=by rw[Nat.pow_succ];omega
    have hlt:n / 2+1<2 ^ f:=by omega
    unfold Tr.erase at hg
    rcases Nat.mod_two_eq_zero_or_one n with hp | hp
    ·simp only[hp]at hg
     have hg':(Tr.nd (Tr.erase f l (n / 2)) u r).get i=some v:=hg
     rw[Tr.get_nd]at hg'
     cases i with
     | zero=>exact ⟨by omega,hg'⟩
     | succ i=>
      rcases Nat.mod_two_eq_zero_or_one i with hq | hq
      ·rw[Tr.get_node_even _ _ _ _ hq]at hg'
       obtain ⟨h1,h2⟩:=ih _ _ _ _ hlt hg'
       exact ⟨by intro e;apply h1;omega,by rw[Tr.get_node_even _ _ _ _ hq];exact h2⟩
      ·rw[Tr.get_node_odd _ _ _ _ hq]at hg'
       exact ⟨by omega,by rw[Tr.get_node_odd _ _ _ _ hq];exact hg'⟩
    ·simp only[hp]at hg
     have hg':(Tr.nd l u (Tr.erase f r (n / 2))).get i=some v:=hg
     rw[Tr.get_nd]at hg'
     cases i with
     | zero=>exact ⟨by omega,hg'⟩
     | succ i=>
      rcases Nat.mod_two_eq_zero_or_one i with hq | hq
      ·rw[Tr.get_node_even _ _ _ _ hq]at hg'
       exact ⟨by omega,by rw[Tr.get_node_even _ _ _ _ hq];exact hg'⟩
      ·rw[Tr.get_node_odd _ _ _ _ hq]at hg'
       obtain ⟨h1,h2⟩:=ih _ _ _ _ hlt hg'
       exact ⟨by intro e;apply h1;omega,by rw[Tr.get_node_odd _ _ _ _ hq];exact h2⟩
theorem blt_iff {a b:Nat}:Nat.blt a b=true↔a<b:=by simp[Nat.blt];omega
theorem Tr.get_set {α:Type} {t:Tr α} {n i:Nat} {a v:α} (h:(t.set n a).get i=some v):(i=n∧v=a)∨(i≠n∧t.get i=some v):=by
 unfold Tr.set at h
 cases hb:Nat.blt n 4194304 with
 | false=>rw[hb]at h;simp[Tr.get_leaf]at h
 | true=>
  rw[hb]at h
  simp only[cond_true]at h
  have:=blt_iff.1 hb
  rw[Tr.get_put _ _ _ _ _ (by omega)]at h
  split at h
  ·exact .inl ⟨‹_›,(Option.some.inj h).symm⟩
  ·exact .inr ⟨‹_›,h⟩
theorem Tr.get_del {α:Type} {t:Tr α} {n i:Nat} {v:α} (h:(t.del n).get i=some v):i≠n∧t.get i=some v:=by
 unfold Tr.del at h
 cases hb:Nat.blt n 4194304 with
 | false=>rw[hb]at h;simp[Tr.get_leaf]at h
 | true=>
  rw[hb]at h
  simp only[cond_true]at h
  have:=blt_iff.1 hb
  exact Tr.get_erase _ _ _ _ _ (by omega) h
theorem Tr.put_kids {α:Type} (f:Nat) (t:Tr α) (n:Nat) (a:α):(Tr.put (f+1) t n a).kids=
  (match n with
   | 0=>(t.kids.1,some a,t.kids.2.2)
   | n+1=>bif Nat.beq (n%2) 0 then (Tr.put f t.kids.1 (n / 2) a,t.kids.2.1,t.kids.2.2)else (t.kids.1,t.kids.2.1,Tr.put f t.kids.2.2 (n / 2) a)):=by
 conv=>lhs;unfold Tr.put
 generalize t.kids=ks
 obtain ⟨l,v,r⟩:=ks
 simp only
 cases n with
 | zero=>rfl
 | succ n=>rcases Nat.mod_two_eq_zero_or_one n with h | h<;>simp[h,beq10,Tr.kids]
theorem Tr.put_eq {α:Type} (f:Nat) (t:Tr α) (n:Nat) (a:α):Tr.put (f+1) t n a=
  (match n with
   | 0=> .node t.kids.1 (some a) t.kids.2.2
   | n+1=>bif Nat.beq (n%2) 0 then .node (Tr.put f t.kids.1 (n / 2) a) t.kids.2.1 t.kids.2.2 else .node t.kids.1 t.kids.2.1 (Tr.put f t.kids.2.2 (n / 2) a)):=by
 cases t<;>cases n<;>rfl
theorem Tr.put_comm {α:Type}:∀(f:Nat) (t:Tr α) (n m:Nat) (a b:α),n≠m→Tr.put f (Tr.put f t n a) m b=Tr.put f (Tr.put f t m b) n a:=by
 intro f
 induction f with
 | zero=>intro t n m a b _;rfl
 | succ f ih=>
  intro t n m a b hne
  rw[Tr.put_eq f (Tr.put (f+1) t n a),Tr.put_eq f (Tr.put (f+1) t m b),Tr.put_kids,Tr.put_kids]
  generalize t.kids=ks
  obtain ⟨l,v,r⟩:=ks
  cases n with
  | zero=>
   cases m with
   | zero=>exact absurd rfl hne
   | succ m=>rcases Nat.mod_two_eq_zero_or_one m with hm | hm<;>simp[hm,beq10]
  | succ n=>
   cases m with
   | zero=>rcases Nat.mod_two_eq_zero_or_one n with hn | hn<;>simp[hn,beq10]
   | succ m=>
    rcases Nat.mod_two_eq_zero_or_one n with hn | hn<;>rcases Nat.mod_two_eq_zero_or_one m with hm | hm<;>simp only[hn,hm,beq00,beq10,cond_true,cond_false]
    ·rw[ih _ _ _ _ _ (by omega)]
    ·rw[ih _ _ _ _ _ (by omega)]
theorem Tr.set_comm {α:Type} (t:Tr α) (n m:Nat) (a b:α) (hne:n≠m) (hn:Nat.blt n 4194304=true) (hm:Nat.blt m 4194304=true):
  (t.set n a).set m b=(t.set m b).set n a:=by
 unfold Tr.set
 simp only[hn,hm,cond_true]
 rw[Tr.put_comm _ _ _ _ _ _ hne]
def EnvLe (β β':Env):Prop:=∀r x,β r=some x→β' r=some x
theorem EnvLe.refl (β:Env):EnvLe β β:=fun _ _ h=>h
theorem EnvLe.trans {a b c:Env} (h:EnvLe a b) (k:EnvLe b c):EnvLe a c:=fun r x hx=>k r x (h r x hx)
mutual
theorem Den.mono {β β':Env} (h:EnvLe β β'):∀(s:SV) (v:Value),Den β s v→Den β' s v
 | .any,_,_=>by simp[Den]
 | .int _ _,_,hd=>by simpa [Den]using hd
 | .bool _,_,hd=>by simpa [Den]using hd
 | .ptr r off,v,hd=>by
  simp only[Den]at *
  obtain ⟨b,o,h1,h2⟩:=hd
  exact ⟨b,o,h _ _ h1,h2⟩
 | .slice r off l c,v,hd=>by
  simp only[Den]at *
  obtain ⟨b,o,h1,h2⟩:=hd
  exact ⟨b,o,h _ _ h1,h2⟩
 | .iface t s,v,hd=>by
  simp only[Den]at *
  obtain ⟨u,h1,h2⟩:=hd
  exact ⟨u,Den.mono h s u h1,h2⟩
 | .agg l,v,hd=>by
  simp only[Den]at *
  obtain ⟨vs,h1,h2⟩:=hd
  exact ⟨vs,DenL.mono h l vs h1,h2⟩
 | .tup l,v,hd=>by
  simp only[Den]at *
  obtain ⟨vs,h1,h2⟩:=hd
  exact ⟨vs,DenL.mono h l vs h1,h2⟩
 | .bytes _,_,hd=>by simpa [Den]using hd
 | .val _,_,hd=>by simpa [Den]using hd
theorem DenL.mono {β β':Env} (h:EnvLe β β'):∀(l:List SV) (vs:List Value),DenL β l vs→DenL β' l vs
 | [],_,hd=>by simpa [DenL]using hd
 | s::l,vs,hd=>by
  simp only[DenL]at *
  obtain ⟨v,vs',h1,h2,h3⟩:=hd
  exact ⟨v,vs',Den.mono h s v h1,DenL.mono h l vs' h2,h3⟩
 end
theorem DenL.nil {β:Env} {vs:List Value}:DenL β [] vs↔vs= []:=by simp[DenL]
theorem DenL.cons {β:Env} {s:SV} {l:List SV} {v:Value} {vs:List Value}:DenL β (s::l) (v::vs)↔Den β s v∧DenL β l vs:=by
 simp only[DenL]
 constructor
 ·rintro ⟨v',vs',h1,h2,h3⟩
  injection h3 with e1 e2
  subst e1;subst e2
  exact ⟨h1,h2⟩
 ·rintro ⟨h1,h2⟩
  exact ⟨v,vs,h1,h2,rfl⟩
theorem DenL.cons' {β:Env} {s:SV} {l:List SV} {vs:List Value}:DenL β (s::l) vs↔∃v vs',vs=v::vs'∧Den β s v∧DenL β l vs':=by
 simp only[DenL]
 constructor
 ·rintro ⟨v',vs',h1,h2,h3⟩;exact ⟨v',vs',h3,h1,h2⟩
 ·rintro ⟨v',vs',h3,h1,h2⟩;exact ⟨v',vs',h1,h2,h3⟩
theorem DenL.length {β:Env}:∀ {l:List SV} {vs:List Value},DenL β l vs→l.length=vs.length
 | [],vs,h=>by rw[DenL.nil]at h;subst h;rfl
 | s::l,vs,h=>by
  rw[DenL.cons']at h
  obtain ⟨v,vs',rfl,_,h2⟩:=h
  simp[DenL.length h2]
theorem DenL.append {β:Env}:∀ {l m:List SV} {vs us:List Value},DenL β l vs→DenL β m us→DenL β (l++m) (vs++us)
 | [],m,vs,us,h,k=>by rw[DenL.nil]at h;subst h;simpa using k
 | s::l,m,vs,us,h,k=>by
  rw[DenL.cons']at h
  obtain ⟨v,vs',rfl,h1,h2⟩:=h
  exact DenL.cons.2 ⟨h1,DenL.append h2 k⟩
theorem DenL.take {β:Env}:∀ {l:List SV} {vs:List Value} (n:Nat),DenL β l vs→DenL β (l.take n) (vs.take n)
 | [],vs,n,h=>by rw[DenL.nil]at h;subst h;simp[DenL]
 | s::l,vs,0,h=>by simp[DenL]
 | s::l,vs,n+1,h=>by
  rw[DenL.cons']at h
  obtain ⟨v,vs',rfl,h1,h2⟩:=h
  exact DenL.cons.2 ⟨h1,DenL.take n h2⟩
theorem DenL.drop {β:Env}:∀ {l:List SV} {vs:List Value} (n:Nat),DenL β l vs→DenL β (l.drop n) (vs.drop n)
 | [],vs,n,h=>by rw[DenL.nil]at h;subst h;simp[DenL]
 | s::l,vs,0,h=>h
 | s::l,vs,n+1,h=>by
  rw[DenL.cons']at h
  obtain ⟨v,vs',rfl,h1,h2⟩:=h
  exact DenL.drop n h2
theorem DenL.get {β:Env}:∀ {l:List SV} {vs:List Value} {i:Nat} {s:SV},DenL β l vs→l[i]? =some s→∃v,vs[i]? =some v∧Den β s v
 | [],vs,i,s,h,hi=>by simp at hi
 | s::l,vs,0,s',h,hi=>by
  rw[DenL.cons']at h
  obtain ⟨v,vs',rfl,h1,h2⟩:=h
  simp at hi
  subst hi
  exact ⟨v,rfl,h1⟩
 | s::l,vs,i+1,s',h,hi=>by
  rw[DenL.cons']at h
  obtain ⟨v,vs',rfl,h1,h2⟩:=h
  simpa using DenL.get h2 (by simpa using hi)
theorem DenL.ints {β:Env} (k:IntKind):∀ {l:List SV} {vs:List Value} {xs:List Int},DenL β l vs→intsOf k l=some xs→vs=xs.map (.int k)
 | [],vs,xs,h,hx=>by
  rw[DenL.nil]at h
  simp[intsOf]at hx
  subst h;subst hx;rfl
 | s::l,vs,xs,h,hx=>by
  rw[DenL.cons']at h
  obtain ⟨v,vs',rfl,h1,h2⟩:=h
  cases s<;>simp[intsOf]at hx
  rename_i k' a
  split at hx
  ·rename_i ys hk hy
   simp at hx hk
   subst hx;subst hk
   simp only[Den]at h1
   rw[DenL.ints _ h2 hy,h1]
   rfl
  ·simp at hx
theorem den_ofV1 (β:Env) (v:Value):Den β (ofV1 v) v:=by
 cases v<;>simp[ofV1,Den,A.val,B.val]
theorem denL_map_ofV1 (β:Env):∀vs:List Value,DenL β (vs.map ofV1) vs
 | []=>by simp[DenL]
 | v::vs=>by rw[List.map_cons,DenL.cons];exact ⟨den_ofV1 β v,denL_map_ofV1 β vs⟩
theorem den_ofV (β:Env) (v:Value):Den β (ofV v) v:=by
 cases v<;>simp only[ofV]<;>first | exact den_ofV1 β _ | (simp only[Den];exact ⟨_,denL_map_ofV1 β _,by simp⟩)
theorem ObjFr.refl (T:Nat→Prop) (x:Option Obj):ObjFr T x x:=by
 unfold ObjFr
 split
 ·exact ⟨_,rfl,rfl,fun _ _=>rfl⟩
 ·rfl
theorem ObjFr.trans {T:Nat→Prop} {x y z:Option Obj} (h:ObjFr T x y) (k:ObjFr T y z):ObjFr T x z:=by
 unfold ObjFr at h
 split at h
 ·rename_i c t f _
  obtain ⟨c',rfl,h1,h2⟩:=h
  simp only[ObjFr]at k
  obtain ⟨c'',rfl,h3,h4⟩:=k
  exact ⟨c'',rfl,h3.trans h1,fun o ho=>(h4 o ho).trans (h2 o ho)⟩
 ·rename_i hx
  subst h
  unfold ObjFr at k
  split at k
  ·exact absurd rfl (hx _ _ _)
  ·subst k
   unfold ObjFr
   split
   ·exact absurd rfl (hx _ _ _)
   ·rfl
theorem ObjFr.mono {T T':Nat→Prop} (h:∀o,T o→T' o) {x y:Option Obj} (k:ObjFr T x y):ObjFr T' x y:=by
 unfold ObjFr at *
 split at k
 ·obtain ⟨c',h1,h2,h3⟩:=k
  exact ⟨c',h1,h2,fun o ho=>h3 o fun ht=>ho (h o ht)⟩
 ·exact k
theorem Fr.refl (T:Nat→Nat→Prop) (w:World):Fr T w w:=⟨rfl,rfl,rfl,Nat.le_refl _,fun _ _=>ObjFr.refl _ _⟩
theorem Fr.trans {T:Nat→Nat→Prop} {a b c:World} (h:Fr T a b) (k:Fr T b c):Fr T a c:=
 ⟨k.os.trans h.os,k.tape.trans h.tape,k.output.trans h.output,Nat.le_trans h.size k.size,fun i hi=>(h.blk i hi).trans (k.blk i (Nat.lt_of_lt_of_le hi h.size))⟩
theorem Fr.mono {T T':Nat→Nat→Prop} (hT:∀b o,T b o→T' b o) {a b:World} (h:Fr T a b):Fr T' a b:=
 ⟨h.os,h.tape,h.output,h.size,fun i hi=>(h.blk i hi).mono (hT i)⟩
theorem Fr.none {T:Nat→Nat→Prop} {a b:World} (h:Fr noT a b):Fr T a b:=h.mono fun _ _ h=>h.elim
theorem Fr.drew (T:Nat→Nat→Prop) (w:World) (n:Nat):Fr T w { w with drawn:=n }:=⟨rfl,rfl,rfl,Nat.le_refl _,fun _ _=>ObjFr.refl _ _⟩
theorem Fr.alloc (T:Nat→Nat→Prop) (w:World) (o:Obj):Fr T w { w with heap:=w.heap.push o }:=
 ⟨rfl,rfl,rfl,by simp,fun b hb=>by
  show ObjFr _ _ (w.heap.push o)[b]?
  rw[Array.getElem?_push,if_neg (by omega)]
  exact ObjFr.refl _ _⟩
theorem ObjFr.cells {T:Nat→Prop} {c:Array Value} {t:TypeId} {f:Nat×Nat} {y:Option Obj} (h:ObjFr T (some (.cells c t f)) y):
  ∃c',y=some (.cells c' t f)∧c'.size=c.size∧∀o,¬T o→c'[o]? =c[o]? :=h
theorem RegOk.grow {β:Env} {B:Nat} {T:Nat→Nat→Prop} {w w':World} {r:Nat} {g:Reg} (h:RegOk β B T w r g) (hf:Fr noT w w'):RegOk β B T w' r g:=by
 obtain ⟨b,o,arr,t,fz,vs,h1,h2,h3,h4,h5⟩:=h.ex
 have hlt:b<w.heap.size:=(Array.getElem?_eq_some_iff.1 h2).1
 have hb:=hf.blk b hlt
 rw[h2]at hb
 obtain ⟨c',hc,hsz,hcell⟩:=hb.cells
 exact ⟨b,o,c',t,fz,vs,h1,hc,h3,fun i v hi=>by rw[hcell _ (fun h=>h)];exact h4 i v hi,h5⟩
theorem Holds.grow {β:Env} {T:Nat→Nat→Prop} {m:Mem} {w0 w w':World} (h:Holds β T m w0 w) (hf:Fr noT w w'):Holds β T m w0 w':=
 ⟨h.fr.trans hf.none,fun r g hg=>(h.reg r g hg).grow hf,h.disj⟩
theorem Sg.den_length {β:Env} {s:Sg} {vs:List Value} (h:s.den β vs):vs.length=s.len:=by
 cases s with
 | cells l=>exact (DenL.length h).symm
 | ints k n xs=>obtain ⟨h1,rfl⟩:=h;simpa [Sg.len]using h1
theorem segsDen_length {β:Env}:∀ {l:List Sg} {vs:List Value},segsDen β l vs→vs.length=segsLen l
 | [],vs,h=>by cases h;rfl
 | s::l,vs,h=>by
  obtain ⟨us,us',h1,h2,rfl⟩:=h
  simp[segsLen,Sg.den_length h1,segsDen_length h2]
theorem segsDen_mono {β β':Env} (hle:EnvLe β β'):∀ {l:List Sg} {vs:List Value},segsDen β l vs→segsDen β' l vs
 | [],vs,h=>h
 | s::l,vs,h=>by
  obtain ⟨us,us',h1,h2,rfl⟩:=h
  refine ⟨us,us',?_,segsDen_mono hle h2,rfl⟩
  cases s with
  | cells l=>exact DenL.mono hle _ _ h1
  | ints k n xs=>exact h1
theorem Ct.den_length {β:Env} {c:Ct} {vs:List Value} (h:c.den β vs):vs.length=c.len:=by
 cases c with
 | cells l=>exact (DenL.length h).symm
 | ints k xs=>simp only[Ct.den]at h;subst h;simp[Ct.len]
 | segs l=>exact segsDen_length h
theorem Ct.den_mono {β β':Env} (hle:EnvLe β β') {c:Ct} {vs:List Value} (h:c.den β vs):c.den β' vs:=by
 cases c with
 | cells l=>exact DenL.mono hle _ _ h
 | ints k xs=>exact h
 | segs l=>exact segsDen_mono hle h
theorem RegOk.mono {β β':Env} (hle:EnvLe β β') {B:Nat} {T:Nat→Nat→Prop} {w:World} {r:Nat} {g:Reg} (h:RegOk β B T w r g):RegOk β' B T w r g:=by
 obtain ⟨b,o,arr,t,fz,vs,h1,h2,h3,h4,h5⟩:=h.ex
 exact ⟨b,o,arr,t,fz,vs,hle _ _ h1,h2,Ct.den_mono hle h3,h4,h5⟩
theorem Holds.mono {β β':Env} (hle:EnvLe β β') {T:Nat→Nat→Prop} {m:Mem} {w0 w:World} (h:Holds β T m w0 w):Holds β' T m w0 w:=
 ⟨h.fr,fun r g hg=>(h.reg r g hg).mono hle,fun r s g k hne hg hk hro b o o' hb hb'=>by
  obtain ⟨b1,o1,_,_,_,_,e1,_⟩:=(h.reg r g hg).ex
  obtain ⟨b2,o2,_,_,_,_,e2,_⟩:=(h.reg s k hk).ex
  have h1:=hle _ _ e1
  have h2:=hle _ _ e2
  rw[hb]at h1
  rw[hb']at h2
  injection h1 with h1;injection h1 with h1a h1b
  injection h2 with h2;injection h2 with h2a h2b
  subst h1a;subst h1b;subst h2b
  rw[←h2a]at e2
  exact h.disj r s g k hne hg hk hro _ _ _ e1 e2⟩
def MemLe (m m':Mem):Prop:=∀r g,m.get r=some g→m'.get r=some g
theorem MemLe.refl (m:Mem):MemLe m m:=fun _ _ h=>h
theorem Holds.part {β:Env} {T:Nat→Nat→Prop} {m m':Mem} {w0 w:World} (h:Holds β T m w0 w) (hm:MemLe m' m):Holds β T m' w0 w:=
 ⟨h.fr,fun r g hg=>h.reg r g (hm r g hg),fun r s g k hne hg hk=>h.disj r s g k hne (hm _ _ hg) (hm _ _ hk)⟩
theorem memLe_leaf (m:Mem):MemLe .leaf m:=fun r g h=>by simp[Tr.get_leaf]at h
theorem Ct.asInts_den {β:Env} {c:Ct} {vs:List Value} {k:IntKind} {xs:List Int} (h:c.den β vs) (hx:c.asInts=some (k,xs)):vs=xs.map (.int k):=by
 cases c with
 | ints k' ys=>
  simp[Ct.asInts]at hx
  obtain ⟨rfl,rfl⟩:=hx
  exact h
 | cells l=>
  simp only[Ct.asInts]at hx
  split at hx
  ·split at hx
   ·rename_i ys hy
    simp at hx
    obtain ⟨rfl,rfl⟩:=hx
    exact DenL.ints _ h hy
   ·simp at hx
  ·simp at hx
 | segs l=>simp[Ct.asInts]at hx
theorem segAt_spec {β:Env}:∀ {l:List Sg} {b:Nat} {vs:List Value} {k:IntKind} {n:Nat} {xs:List Int},segsDen β l vs→segAt l b=some (k,n,xs)→
  xs.length=n∧∃pre post,vs=pre++xs.map (.int k)++post∧pre.length=b∧
   (∀ys:List Int,ys.length=n→segsDen β (segPut l b ys) (pre++ys.map (.int k)++post)∧segsLen (segPut l b ys)=segsLen l)
 | [],b,vs,k,n,xs,_,h=>by simp[segAt]at h
 | s::l,b,vs,k,n,xs,hd,h=>by
  obtain ⟨us,us',h1,h2,rfl⟩:=hd
  cases b with
  | zero=>
   cases s with
   | cells c=>simp[segAt]at h
   | ints k' n' xs'=>
    simp only[segAt,Option.some.injEq,Prod.mk.injEq]at h
    obtain ⟨rfl,rfl,rfl⟩:=h
    obtain ⟨e1,rfl⟩:=h1
    refine ⟨e1,[],us',by simp,rfl,fun ys hy=>⟨⟨ys.map (.int k'),us',⟨hy,rfl⟩,h2,by simp⟩,rfl⟩⟩
  | succ b=>
   simp only[segAt]at h
   cases hb:Nat.ble s.len (b+1)with
   | false=>rw[hb]at h;simp at h
   | true=>
    rw[hb]at h
    simp only[cond_true]at h
    have hle:s.len≤b+1:=by simpa using hb
    obtain ⟨e1,pre,post,e2,e3,e4⟩:=segAt_spec h2 h
    have hl:=Sg.den_length h1
    refine ⟨e1,us++pre,post,by simp[e2],by simp[e3,hl];omega,fun ys hy=> ?_⟩
    obtain ⟨f1,f2⟩:=e4 ys hy
    exact ⟨⟨us,_,h1,f1,by simp⟩,by simp[segPut,segsLen,f2]⟩
theorem picks_den (β:Env) (k:IntKind) (xs:List Int):∀(n o:Nat),o+n≤xs.length→
  DenL β (picks k xs o n) (((xs.drop o).take n).map (.int k))
 | 0,o,_=>by simp[picks,DenL]
 | n+1,o,h=>by
  have hlt:o<xs.length:=by omega
  rw[List.drop_eq_getElem_cons hlt,List.take_succ_cons,List.map_cons]
  simp only[picks]
  rw[DenL.cons]
  refine ⟨?_,picks_den β k xs n (o+1) (by omega)⟩
  simp[Den,A.val,hlt]
theorem segsFlat_den {β:Env}:∀ {l:List Sg} {vs:List Value},segsDen β l vs→DenL β (segsFlat l) vs
 | [],vs,h=>h
 | .cells c::l,vs,h=>by
  obtain ⟨us,us',h1,h2,rfl⟩:=h
  exact DenL.append h1 (segsFlat_den h2)
 | .ints k n xs::l,vs,h=>by
  obtain ⟨us,us',⟨h1,h3⟩,h2,rfl⟩:=h
  subst h3
  have:=picks_den β k xs n 0 (by omega)
  rw[List.drop_zero,List.take_of_length_le (by omega)]at this
  exact DenL.append this (segsFlat_den h2)
theorem row_spec {β:Env} {c:Ct} {vs:List Value} {o o':N} {k:IntKind} {xs:List Int} (h:c.den β vs) (hr:c.row o=some (k,xs,o')):
  (∀j u,((xs.drop o'.val).map (Value.int k))[j]? =some u→vs[o.val+j]? =some u)∧
  (∀ys:List Int,o'.val+ys.length≤xs.length→(c.putRow o k (splice xs o'.val ys)).den β (splice vs o.val (ys.map (.int k)))∧o.val+ys.length≤vs.length∧(c.putRow o k (splice xs o'.val ys)).len=c.len):=by
 have hsl:∀ys:List Int,o'.val+ys.length≤xs.length→(splice xs o'.val ys).length=xs.length:=fun ys hle=>by unfold splice;simp;omega
 have hms:∀ys:List Int,(splice xs o'.val ys).map (Value.int k)=splice (xs.map (.int k)) o'.val (ys.map (.int k)):=fun ys=>by simp[splice,List.map_take,List.map_drop]
 have plainCase:∀c:Ct,c.den β vs→c.asInts=some (k,xs)→o'=o→(∀j u,((xs.drop o'.val).map (Value.int k))[j]? =some u→vs[o.val+j]? =some u)∧
   (∀ys:List Int,o'.val+ys.length≤xs.length→(Ct.ints k (splice xs o'.val ys)).den β (splice vs o.val (ys.map (.int k)))∧o.val+ys.length≤vs.length∧(Ct.ints k (splice xs o'.val ys)).len=c.len):=by
  intro c h hx ho
  subst ho
  have hv:=Ct.asInts_den h hx
  have hl:=Ct.den_length h
  subst hv
  refine ⟨fun j u hj=>by simpa [List.getElem?_drop]using hj,fun ys hle=>⟨?_,by simpa using hle,?_⟩⟩
  ·simp only[Ct.den];rw[hms]
  ·show (splice xs o'.val ys).length=c.len;rw[hsl ys hle,←hl];simp
 have segCase:∀(l:List Sg) (b n:Nat),segsDen β l vs→segAt l b=some (k,n,xs)→o.val=b+o'.val→
   (∀j u,((xs.drop o'.val).map (Value.int k))[j]? =some u→vs[o.val+j]? =some u)∧
   (∀ys:List Int,o'.val+ys.length≤xs.length→segsDen β (segPut l b (splice xs o'.val ys)) (splice vs o.val (ys.map (.int k)))∧o.val+ys.length≤vs.length∧segsLen (segPut l b (splice xs o'.val ys))=segsLen l):=by
  intro l b n h hs ho
  obtain ⟨e1,pre,post,e2,e3,e4⟩:=segAt_spec h hs
  constructor
  ·intro j u hj
   rw[e2,ho,List.append_assoc,List.getElem?_append,if_neg (by omega),List.getElem?_append]
   simp only[List.getElem?_map,List.getElem?_drop]at hj
   have hlt:o'.val+j<xs.length:=by
    rcases Nat.lt_or_ge (o'.val+j) xs.length with h | h
    ·exact h
    ·rw[List.getElem?_eq_none h]at hj;simp at hj
   rw[if_pos (by simp;omega)]
   simp only[List.getElem?_map]
   rw[show b+o'.val+j-pre.length=o'.val+j by omega]
   exact hj
  ·intro ys hle
   obtain ⟨f1,f2⟩:=e4 (splice xs o'.val ys) (by rw[hsl ys hle];exact e1)
   refine ⟨?_,by rw[e2,ho];simp;omega,f2⟩
   have:splice vs o.val (ys.map (.int k))=pre++(splice xs o'.val ys).map (.int k)++post:=by
    rw[hms,e2,ho]
    unfold splice
    have h1:List.take (b+o'.val) (pre++xs.map (Value.int k)++post)=pre++(xs.map (Value.int k)).take o'.val:=by
     rw[List.append_assoc,←e3,List.take_length_add_append,List.take_append_of_le_length (by simp;omega)]
    have h2:List.drop (b+o'.val+(ys.map (Value.int k)).length) (pre++xs.map (Value.int k)++post)=(xs.map (Value.int k)).drop (o'.val+(ys.map (Value.int k)).length)++post:=by
     rw[List.append_assoc,←e3,Nat.add_assoc,List.drop_length_add_append,List.drop_append_of_le_length (by simp;omega)]
    rw[h1,h2]
    simp
   rw[this]
   exact f1
 cases c with
 | cells l=>
  simp only[Ct.row,Option.map_eq_some_iff,Prod.exists,Prod.mk.injEq]at hr
  obtain ⟨k',xs',hx,rfl,rfl,rfl⟩:=hr
  exact plainCase _ h hx rfl
 | ints k' xs'=>
  simp only[Ct.row,Option.map_eq_some_iff,Prod.exists,Prod.mk.injEq]at hr
  obtain ⟨k',xs',hx,rfl,rfl,rfl⟩:=hr
  exact plainCase _ h hx rfl
 | segs l=>
  cases o with
  | lit b=>
   simp only[Ct.row,Option.map_eq_some_iff,Prod.exists,Prod.mk.injEq]at hr
   obtain ⟨k',n,xs',hx,rfl,rfl,rfl⟩:=hr
   exact segCase l b n h hx rfl
  | «at» b s=>
   simp only[Ct.row,Option.map_eq_some_iff,Prod.exists,Prod.mk.injEq]at hr
   obtain ⟨k',n,xs',hx,rfl,rfl,rfl⟩:=hr
   exact segCase l b n h hx rfl
  | sym s=>simp[Ct.row]at hr
theorem Ct.read_spec {β:Env} {c:Ct} {vs:List Value} {off:N} {n:Nat} {p:Ob} {l:List SV} (h:c.den β vs) (hr:c.read off n=some (p,l)) (hp:p.ok):
  ∃us,DenL β l us∧us.length=n∧∀j u,us[j]? =some u→vs[off.val+j]? =some u:=by
 have gen:∀k xs,c.asInts=some (k,xs)→off.val+n≤xs.length→DenL β (picks k xs off.val n) (((xs.drop off.val).take n).map (.int k))→
   ∃us,DenL β (picks k xs off.val n) us∧us.length=n∧∀j u,us[j]? =some u→vs[off.val+j]? =some u:=by
  intro k xs hx hle hd
  refine ⟨_,hd,by simp;omega,fun j u hj=> ?_⟩
  rw[Ct.asInts_den h hx]
  simp only[List.getElem?_map,List.getElem?_take,List.getElem?_drop]at hj ⊢
  split at hj
  ·exact hj
  ·simp at hj
 have genI:∀off',off'.val=off.val→c.readI off' n=some (p,l)→∃us,DenL β l us∧us.length=n∧∀j u,us[j]? =some u→vs[off.val+j]? =some u:=by
  intro off' he hr
  unfold Ct.readI at hr
  split at hr
  ·rename_i k xs hx
   simp only[Option.some.injEq,Prod.mk.injEq]at hr
   obtain ⟨rfl,rfl⟩:=hr
   rw[he]
   rw[he]at hp
   exact gen k xs hx hp (picks_den β k xs n off.val hp)
  ·simp at hr
 cases c with
 | cells l'=>
  cases off with
  | lit o=>
   simp only[Ct.read]at hr
   cases hb:Nat.ble (o+n) l'.length with
   | false=>rw[hb]at hr;simp at hr
   | true=>
    rw[hb]at hr
    simp only[cond_true,Option.some.injEq,Prod.mk.injEq]at hr
    obtain ⟨rfl,rfl⟩:=hr
    have hle:o+n≤l'.length:=by simpa using hb
    have hlen:=DenL.length h
    refine ⟨(vs.drop o).take n,DenL.take n (DenL.drop o h),by simp;omega,fun j u hj=> ?_⟩
    simp only[List.getElem?_take,List.getElem?_drop]at hj
    simp only[N.val]
    split at hj
    ·exact hj
    ·simp at hj
  | sym s=>exact genI _ rfl hr
  | «at» b s=>exact genI _ rfl hr
 | ints k xs=>exact genI _ rfl hr
 | segs l'=>
  cases off with
  | lit o=>
   simp only[Ct.read]at hr
   cases hb:Nat.ble (o+n) (segsLen l')with
   | false=>rw[hb]at hr;simp at hr
   | true=>
    rw[hb]at hr
    simp only[cond_true,Option.some.injEq,Prod.mk.injEq]at hr
    obtain ⟨rfl,rfl⟩:=hr
    have hle:o+n≤segsLen l':=by simpa using hb
    have hlen:=segsDen_length h
    refine ⟨(vs.drop o).take n,((segsFlat_den h).drop o).take n,by simp;omega,fun j u hj=> ?_⟩
    simp only[List.getElem?_take,List.getElem?_drop]at hj
    simp only[N.val]
    split at hj
    ·exact hj
    ·simp at hj
  | «at» b s=>
   simp only[Ct.read,Option.map_eq_some_iff,Prod.exists,Prod.mk.injEq]at hr
   obtain ⟨k,n',xs,hs,rfl,rfl⟩:=hr
   have hle:s+n≤xs.length:=hp
   have hrow:=(row_spec (o:= .at b s) (o':= .sym s) (k:=k) (xs:=xs) h (by simp[Ct.row,hs])).1
   refine ⟨_,picks_den β k xs n s hle,by simp;omega,fun j u hj=>hrow j u ?_⟩
   simp only[N.val,List.getElem?_map,List.getElem?_take,List.getElem?_drop]at hj ⊢
   split at hj
   ·exact hj
   ·simp at hj
  | sym s=>simp[Ct.read]at hr
section
variable {P:Program} {w:World}
theorem run_underlying {t:TypeId} {d:TypeDesc} (h:P.underlying t=some d):(underlying t).run P w= .ok d w:=by
 simp[underlying,h]
theorem run_typeInfo {t:TypeId} {i:TypeInfo} (h:P.info? t=some i):(typeInfo t).run P w= .ok i w:=by
 simp[typeInfo,h]
theorem run_sizeOf {t:TypeId} {n:Nat} (h:sizeS P t=some n):(sizeOf t).run P w= .ok n w:=by
 unfold sizeS at h
 cases hi:P.info? t with
 | none=>rw[hi]at h;simp at h
 | some i=>rw[hi]at h;simp at h;simp[sizeOf,run_typeInfo hi,h]
theorem run_zeroValue {t:TypeId} {z:Value} (h:(P.info? t).bind (·.zero)=some z):(zeroValue t).run P w= .ok z w:=by
 cases hi:P.info? t with
 | none=>rw[hi]at h;simp at h
 | some i=>rw[hi]at h;simp at h;simp[zeroValue,run_typeInfo hi,h]
theorem run_isAgg {t:TypeId} {b:Bool} (h:isAggS P t=some b):(isAgg t).run P w= .ok b w:=by
 unfold isAggS at h
 cases hi:P.underlying t with
 | none=>rw[hi]at h;simp at h
 | some d=>
  rw[hi]at h
  simp only[Option.map_some,Option.some.injEq]at h
  simp only[isAgg,Sem.run_bind,run_underlying hi,Result.andThen_ok]
  subst h
  cases d<;>simp
theorem run_loadCells {b o:Nat}:∀(n i:Nat) (acc:Array Value) (us:List Value),us.length=n→
  (∀j u,us[j]? =some u→w.cell? ⟨b,o+(i+j),none⟩=some u)→(loadCellsFrom ⟨b,o,none⟩ i n acc).run P w= .ok (acc++us.toArray) w:=by
 intro n
 induction n with
 | zero=>
  intro i acc us hl _
  have:us= []:=List.eq_nil_of_length_eq_zero hl
  subst this
  simp[loadCellsFrom]
 | succ n ih=>
  intro i acc us hl hc
  match us,hl,hc with
  | u::us,hl,hc=>
   have h0:=hc 0 u rfl
   simp only[loadCellsFrom,Sem.run_bind,run_load]
   have ha:(Addr.add ⟨b,o,none⟩ i)=⟨b,o+i,none⟩:=by
    unfold Addr.add;split
    ·subst_vars;simp
    ·rfl
   rw[ha]
   rw[show o+(i+0)=o+i by omega]at h0
   rw[h0]
   simp only[Result.andThen_ok]
   rw[ih (i+1) (acc.push u) us (by simpa using hl) (fun j v hj=>by
    have:=hc (j+1) v (by simpa using hj)
    rw[show i+(j+1)=i+1+j by omega]at this
    exact this)]
   simp
theorem run_loadVar_agg {t:TypeId} {b o n:Nat} {us:List Value} (ha:isAggS P t=some true) (hs:sizeS P t=some n) (hl:us.length=n)
  (hc:∀j u,us[j]? =some u→w.cell? ⟨b,o+j,none⟩=some u):(loadVar t ⟨b,o,none⟩).run P w= .ok (.agg us.toArray) w:=by
 have h:=run_loadCells (P:=P) (w:=w) (b:=b) (o:=o) n 0 #[] us hl (fun j u hj=>by rw[Nat.zero_add];exact hc j u hj)
 simp[loadVar,run_isAgg ha,run_sizeOf hs,loadCells,h]
theorem run_loadVar_one {t:TypeId} {a:Addr} {u:Value} (ha:isAggS P t=some false) (hc:w.cell? a=some u):(loadVar t a).run P w= .ok u w:=by
 simp[loadVar,run_isAgg ha,hc]
end
theorem RegOk.cell {β:Env} {B:Nat} {T:Nat→Nat→Prop} {w:World} {r:Nat} {g:Reg} (h:RegOk β B T w r g) {off:N} {n:Nat} {p:Ob} {l:List SV}
  (hr:g.c.read off n=some (p,l)) (hp:p.ok):
  ∃b o us,β r=some (b,o)∧DenL β l us∧us.length=n∧∀j u,us[j]? =some u→w.cell? ⟨b,o+off.val+j,none⟩=some u:=by
 obtain ⟨b,o,arr,t,fz,vs,h1,h2,h3,h4,h5⟩:=h.ex
 obtain ⟨us,k1,k2,k3⟩:=Ct.read_spec h3 hr hp
 refine ⟨b,o,us,h1,k1,k2,fun j u hj=> ?_⟩
 have:=h4 _ _ (k3 j u hj)
 simp only[World.cell?,h2]
 rw[show o+off.val+j=o+(off.val+j) by omega]
 simpa using this
def setCells (w:World) (b o:Nat):List Value→World
 | []=>w
 | v::vs=>setCells (w.setCell ⟨b,o,none⟩ v) b (o+1) vs
theorem setCell_heap {w:World} {b o:Nat} {v:Value} {arr:Array Value} {t:TypeId} {fz:Nat×Nat} (h:w.heap[b]? =some (.cells arr t fz)):
  (w.setCell ⟨b,o,none⟩ v).heap[b]? =some (.cells (arr.setIfInBounds o v) t fz):=by
 simp[World.setCell,Array.getElem?_modify,h]
theorem setCell_other {w:World} {b o:Nat} {v:Value} {i:Nat} (h:i≠b):(w.setCell ⟨b,o,none⟩ v).heap[i]? =w.heap[i]? :=by
 simp only[World.setCell,Array.getElem?_modify]
 rw[if_neg (by omega)]
theorem setCells_spec:∀(vs:List Value) (w:World) (b o:Nat) (arr:Array Value) (t:TypeId) (fz:Nat×Nat),w.heap[b]? =some (.cells arr t fz)→
  ∃arr',(setCells w b o vs).heap[b]? =some (.cells arr' t fz)∧arr'.size=arr.size∧
   (∀i,arr'[i]? =if i<o then arr[i]? else if i<o+vs.length∧i<arr.size then vs[i-o]? else arr[i]?)∧
   (∀i,i≠b→(setCells w b o vs).heap[i]? =w.heap[i]?)∧(setCells w b o vs).heap.size=w.heap.size∧
   (setCells w b o vs).os=w.os∧(setCells w b o vs).tape=w.tape∧(setCells w b o vs).output=w.output:=by
 intro vs
 induction vs with
 | nil=>
  intro w b o arr t fz h
  refine ⟨arr,h,rfl,fun i=> ?_,fun _ _=>rfl,rfl,rfl,rfl,rfl⟩
  split
  ·rfl
  ·rw[if_neg (by simp;omega)]
 | cons v vs ih=>
  intro w b o arr t fz h
  obtain ⟨arr',h1,h2,h3,h4,h5,h6,h7,h8⟩:=ih (w.setCell ⟨b,o,none⟩ v) b (o+1) _ t fz (setCell_heap h)
  refine ⟨arr',h1,by simpa using h2,fun i=> ?_,fun i hi=>(h4 i hi).trans (setCell_other hi),by rw[show setCells w b o (v::vs)=setCells (w.setCell ⟨b,o,none⟩ v) b (o+1) vs from rfl,h5];simp[World.setCell],h6,h7,h8⟩
  rw[h3]
  simp only[Array.size_setIfInBounds,List.length_cons,Array.getElem?_setIfInBounds]
  by_cases hi:i<o
  ·rw[if_pos (by omega),if_neg (by omega),if_pos hi]
  ·by_cases hio:i=o
   ·subst hio
    rw[if_pos (by omega),if_pos rfl,if_neg hi]
    by_cases hsz:i<arr.size
    ·rw[if_pos hsz,if_pos ⟨by omega,hsz⟩,Nat.sub_self];rfl
    ·rw[if_neg hsz,if_neg (by omega),Array.getElem?_eq_none (by omega)]
   ·rw[if_neg (by omega),if_neg hi]
    by_cases hin:i<o+1+vs.length∧i<arr.size
    ·rw[if_pos hin,if_pos (by omega),show i-o=(i-(o+1))+1 by omega,List.getElem?_cons_succ]
    ·rw[if_neg hin,if_neg (by omega),if_neg (by omega)]
theorem run_storeCells {P:Program} {b o:Nat} {t:TypeId} {fz:Nat×Nat}:∀(vs:List Value) (i:Nat) (w:World) (arr:Array Value),(∀v∈vs,oneCell v=true)→
  w.heap[b]? =some (.cells arr t fz)→o+i+vs.length≤arr.size→(∀j,j<vs.length→¬(fz.1≤o+i+j∧o+i+j<fz.2))→
  (storeCells ⟨b,o,none⟩ vs i).run P w= .ok () (setCells w b (o+i) vs):=by
 intro vs
 induction vs with
 | nil=>intro i w arr _ _ _ _;rfl
 | cons v vs ih=>
  intro i w arr hv hb hle hf
  have ha:(Addr.add ⟨b,o,none⟩ i)=⟨b,o+i,none⟩:=by
   unfold Addr.add;split
   ·subst_vars;simp
   ·rfl
  have hlt:o+i<arr.size:=by simp at hle;omega
  have hu:w.cell? ⟨b,o+i,none⟩=some arr[o+i]:=by simp[World.cell?,hb,hlt]
  have hf0:w.frozen? ⟨b,o+i,none⟩=false:=by
   have:=hf 0 (by simp)
   simp only[World.frozen?,hb]
   rw[Bool.and_eq_false_iff]
   simp only[decide_eq_false_iff_not]
   rw[Nat.add_zero]at this
   omega
  have hstep:(store ⟨b,o+i,none⟩ v).run P w= .ok () (w.setCell ⟨b,o+i,none⟩ v):=by
   have hone:=hv v (by simp)
   cases v<;>simp[oneCell]at hone<;>simp[store,Sem.run,hu,hf0]
  simp only[storeCells,Sem.run_bind,ha,hstep,Result.andThen_ok]
  show (storeCells ⟨b,o,none⟩ vs (i+1)).run P (w.setCell ⟨b,o+i,none⟩ v)= .ok () (setCells (w.setCell ⟨b,o+i,none⟩ v) b (o+i+1) vs)
  rw[ih (i+1) _ _ (fun v' hv'=>hv v' (by simp[hv'])) (setCell_heap hb) (by simp at hle ⊢;omega) (fun j hj=>by
   have:=hf (j+1) (by simpa using hj)
   omega),Nat.add_assoc]
theorem oneCell_of {β:Env} {s:SV} {v:Value} (h:Den β s v) (ho:s.one=true):oneCell v=true:=by
 cases s<;>simp[SV.one]at ho<;>simp only[Den]at h
 ·subst h;rfl
 ·subst h;rfl
 ·obtain ⟨_,_,_,rfl⟩:=h;rfl
 ·obtain ⟨_,_,_,rfl⟩:=h;rfl
 ·obtain ⟨_,_,rfl⟩:=h;rfl
 ·subst h;rfl
 ·subst h;exact ho
theorem oneCells_of {β:Env}:∀ {l:List SV} {vs:List Value},DenL β l vs→l.all SV.one=true→∀v∈vs,oneCell v=true
 | [],vs,h,_=>by rw[DenL.nil]at h;subst h;simp
 | s::l,vs,h,ho=>by
  rw[DenL.cons']at h
  obtain ⟨v,vs',rfl,h1,h2⟩:=h
  simp only[List.all_cons,Bool.and_eq_true]at ho
  intro u hu
  rcases List.mem_cons.1 hu with rfl | hu
  ·exact oneCell_of h1 ho.1
  ·exact oneCells_of h2 ho.2 u hu
theorem getElem?_splice {α:Type} {l vs:List α} {o:Nat} (h:o+vs.length≤l.length) (i:Nat):
  (splice l o vs)[i]? =if i<o then l[i]? else if i<o+vs.length then vs[i-o]? else l[i]? :=by
 unfold splice
 rw[List.append_assoc,List.getElem?_append]
 have hlen:(l.take o).length=o:=by simp;omega
 rw[hlen]
 by_cases hi:i<o
 ·rw[if_pos hi,if_pos hi,List.getElem?_take,if_pos hi]
 ·rw[if_neg hi,if_neg hi,List.getElem?_append]
  by_cases hj:i<o+vs.length
  ·rw[if_pos (by omega),if_pos hj]
  ·rw[if_neg (by omega),if_neg hj,List.getElem?_drop]
   congr 1
   omega
theorem splice_length {α:Type} {l vs:List α} {o:Nat} (h:o+vs.length≤l.length):(splice l o vs).length=l.length:=by
 unfold splice;simp;omega
theorem splice_one {α:Type}:∀(l:List α) (o:Nat) (v:α),o<l.length→splice l o [v]=l.set o v:=by
 intro l o v h
 unfold splice
 rw[List.set_eq_take_append_cons_drop,if_pos h]
 simp
theorem map_splice {α γ:Type} (f:α→γ) (l:List α) (o:Nat) (vs:List α):(splice l o vs).map f=splice (l.map f) o (vs.map f):=by
 simp[splice,List.map_take,List.map_drop]
theorem segWrite_spec {β:Env}:∀ {l l':List Sg} {o:Nat} {vs:List Value} {c:List SV} {us:List Value},segsDen β l vs→DenL β c us→segWrite l o c=some l'→
  segsDen β l' (splice vs o us)∧o+us.length≤vs.length∧segsLen l'=segsLen l∧∀u∈us,oneCell u=true
 | [],l',o,vs,c,us,_,_,h=>by simp[segWrite]at h
 | s::l,l',o,vs,c,us,hd,hc,h=>by
  obtain ⟨vs1,vs2,h1,h2,rfl⟩:=hd
  have hl1:=Sg.den_length h1
  have hlc:=DenL.length hc
  simp only[segWrite]at h
  cases hb:Nat.ble s.len o with
  | true=>
   rw[hb]at h
   simp only[cond_true,Option.map_eq_some_iff]at h
   obtain ⟨l2,h3,rfl⟩:=h
   have hle:s.len≤o:=by simpa using hb
   obtain ⟨e1,e2,e3,e4⟩:=segWrite_spec h2 hc h3
   refine ⟨⟨vs1,_,h1,e1,?_⟩,by simp;omega,by simp[segsLen,e3],e4⟩
   obtain ⟨d,rfl⟩:∃d,o=vs1.length+d:=⟨o-vs1.length,by omega⟩
   unfold splice
   rw[List.take_length_add_append,Nat.add_assoc,List.drop_length_add_append]
   rw[show vs1.length+d-s.len=d by omega]
   simp
  | false=>
   rw[hb]at h
   simp only[cond_false]at h
   have hlt:o<s.len:=by
    rcases Nat.lt_or_ge o s.len with h | h
    ·exact h
    ·have:Nat.ble s.len o=true:=by simpa using h
     rw[this]at hb;cases hb
   have key:∀n,o+us.length≤n→n=vs1.length→splice (vs1++vs2) o us=splice vs1 o us++vs2:=by
    intro n hn he
    unfold splice
    rw[List.take_append_of_le_length (by omega),List.drop_append_of_le_length (by omega)]
    simp
   split at h
   ·rename_i cl
    cases hb:(Nat.ble (o+c.length) cl.length && c.all SV.one)with
    | false=>rw[hb]at h;simp at h
    | true=>
     rw[hb]at h
     simp only[cond_true,Option.some.injEq]at h
     subst h
     simp only[Bool.and_eq_true]at hb
     have hle:o+c.length≤cl.length:=by simpa using hb.1
     have hcl:cl.length=vs1.length:=DenL.length h1
     refine ⟨⟨splice vs1 o us,vs2,?_,h2,key _ (by omega) hcl⟩,by simp;omega,by simp only[segsLen,Sg.len];rw[splice_length hle],oneCells_of hc hb.2⟩
     show DenL β (splice cl o c) (splice vs1 o us)
     unfold splice
     have:=((DenL.take o h1).append hc).append (DenL.drop (o+c.length) h1)
     rw[hlc]at this ⊢
     exact this
   ·rename_i k n xs
    split at h
    ·rename_i ys hy
     cases hb:Nat.ble (o+ys.length) n with
     | false=>rw[hb]at h;simp at h
     | true=>
      rw[hb]at h
      simp only[cond_true,Option.some.injEq]at h
      subst h
      obtain ⟨f1,rfl⟩:=h1
      have hle:o+ys.length≤n:=by simpa using hb
      have hu:=DenL.ints _ hc hy
      subst hu
      refine ⟨⟨splice (xs.map (.int k)) o (ys.map (.int k)),vs2,⟨?_,?_⟩,h2,key _ (by simp;omega) (by simp;exact f1.symm)⟩,by simp;omega,rfl,?_⟩
      ·rw[splice_length (by omega)];exact f1
      ·rw[map_splice]
      ·intro u hu
       obtain ⟨y,_,rfl⟩:=List.mem_map.1 hu
       rfl
    ·simp at h
theorem Ct.write_spec {β:Env} {c c':Ct} {vs us:List Value} {off:N} {l:List SV} {p:Ob} (h:c.den β vs) (hl:DenL β l us)
  (hw:c.write off l=some (p,c')) (hp:p.ok):
  c'.den β (splice vs off.val us)∧off.val+us.length≤vs.length∧c'.len=c.len∧∀u∈us,oneCell u=true:=by
 have hlen:=DenL.length hl
 have gen:∀k xs ys,c.asInts=some (k,xs)→us=ys.map (.int k)→off.val+ys.length≤xs.length→
   (Ct.ints k (splice xs off.val ys)).den β (splice vs off.val us)∧off.val+us.length≤vs.length∧(Ct.ints k (splice xs off.val ys)).len=c.len∧∀u∈us,oneCell u=true:=by
  intro k xs ys hx hy hle
  have hv:=Ct.asInts_den h hx
  have hcl:=Ct.den_length h
  subst hv
  refine ⟨by simp only[Ct.den];rw[map_splice,hy],by rw[hy];simpa using hle,?_,?_⟩
  ·rw[←hcl];simp only[Ct.len];rw[splice_length hle];simp
  ·rw[hy];intro u hu
   simp at hu
   obtain ⟨x,_,rfl⟩:=hu
   rfl
 have genI:∀off',off'.val=off.val→c.writeI off' l=some (p,c')→c'.den β (splice vs off.val us)∧off.val+us.length≤vs.length∧c'.len=c.len∧∀u∈us,oneCell u=true:=by
  clear hw
  intro off' he hw
  unfold Ct.writeI at hw
  split at hw
  ·rename_i k xs hx
   split at hw
   ·rename_i k' a
    cases hb:decide (k'=k)with
    | false=>rw[hb]at hw;simp at hw
    | true=>
     rw[hb]at hw
     simp only[cond_true,Option.some.injEq,Prod.mk.injEq]at hw
     obtain ⟨rfl,rfl⟩:=hw
     have hk:k'=k:=by simpa using hb
     subst hk
     rw[DenL.cons']at hl
     obtain ⟨v,vs',rfl,h1,h2⟩:=hl
     rw[DenL.nil]at h2
     subst h2
     simp only[Den]at h1
     rw[he]at hp ⊢
     have hp':off.val<xs.length:=hp
     have:=gen k' xs [a.val] hx (by simp[h1]) (by simp;omega)
     rw[splice_one _ _ _ hp']at this
     exact this
   ·split at hw
    ·rename_i ys hy
     simp only[Option.some.injEq,Prod.mk.injEq]at hw
     obtain ⟨rfl,rfl⟩:=hw
     rw[he]at hp ⊢
     exact gen k xs ys hx (DenL.ints _ hl hy) hp
    ·simp at hw
  ·simp at hw
 cases c with
 | cells l'=>
  cases off with
  | lit o=>
   simp only[Ct.write]at hw
   cases hb:(Nat.ble (o+l.length) l'.length && l.all SV.one)with
   | false=>rw[hb]at hw;simp at hw
   | true=>
    rw[hb]at hw
    simp only[cond_true,Option.some.injEq,Prod.mk.injEq]at hw
    obtain ⟨rfl,rfl⟩:=hw
    simp only[Bool.and_eq_true]at hb
    have hle:o+l.length≤l'.length:=by simpa using hb.1
    have hl':=DenL.length h
    have hle':o+us.length≤vs.length:=by omega
    refine ⟨?_,hle',by simp only[Ct.len];exact splice_length hle,oneCells_of hl hb.2⟩
    simp only[Ct.den,N.val]
    unfold splice
    have:=((DenL.take o h).append hl).append (DenL.drop (o+l.length) h)
    rw[hlen]at this ⊢
    exact this
  | sym s=>exact genI _ rfl hw
  | «at» b s=>exact genI _ rfl hw
 | ints k xs=>exact genI _ rfl hw
 | segs l'=>
  cases off with
  | lit o=>
   simp only[Ct.write,Option.map_eq_some_iff,Prod.mk.injEq]at hw
   obtain ⟨l2,hw,rfl,rfl⟩:=hw
   exact segWrite_spec h hl hw
  | «at» b s=>
   simp only[Ct.write]at hw
   split at hw
   ·rename_i k n xs k' a hs
    cases hb:decide (k'=k)with
    | false=>rw[hb]at hw;simp at hw
    | true=>
     rw[hb]at hw
     simp only[cond_true,Option.some.injEq,Prod.mk.injEq]at hw
     obtain ⟨rfl,rfl⟩:=hw
     have hk:k'=k:=by simpa using hb
     subst hk
     rw[DenL.cons']at hl
     obtain ⟨v,vs',rfl,h1,h2⟩:=hl
     rw[DenL.nil]at h2
     subst h2
     simp only[Den]at h1
     have hp':s<xs.length:=hp
     have hrow:=(row_spec (o:= .at b s) (o':= .sym s) (k:=k') (xs:=xs) h (by simp[Ct.row,hs])).2 [a.val] (by simp[N.val];omega)
     simp only[N.val,Ct.putRow]at hrow
     rw[splice_one _ _ _ hp']at hrow
     rw[h1]
     refine ⟨hrow.1,by simpa [N.val]using hrow.2.1,hrow.2.2,?_⟩
     intro u hu
     simp at hu
     subst hu
     rfl
   ·simp at hw
  | sym s=>simp[Ct.write]at hw
theorem RegOk.setCells_other {β:Env} {B:Nat} {T:Nat→Nat→Prop} {w:World} {r:Nat} {g:Reg} (h:RegOk β B T w r g) {b o:Nat} {us:List Value} {arr:Array Value} {t:TypeId} {fz:Nat×Nat}
  (hb:w.heap[b]? =some (.cells arr t fz)) (hd:∀o',β r=some (b,o')→o+us.length≤o'∨o'+g.c.len≤o∨g.c.len=0∨us.length=0):RegOk β B T (setCells w b o us) r g:=by
 obtain ⟨b',o',arr',t',fz',vs,h1,h2,h3,h4,h5⟩:=h.ex
 obtain ⟨arr2,e1,e2,e3,e4,_⟩:=setCells_spec us w b o arr t fz hb
 by_cases hbb:b'=b
 ·subst hbb
  rw[hb]at h2
  injection h2 with h2;injection h2 with h2a h2b h2c
  subst h2a;subst h2b;subst h2c
  refine ⟨b',o',arr2,t,fz,vs,h1,e1,h3,fun i v hi=> ?_,h5⟩
  have hlt:i<vs.length:=(List.getElem?_eq_some_iff.1 hi).1
  have hcl:=Ct.den_length h3
  rw[e3]
  rcases hd _ h1 with hd | hd | hd | hd
  ·rw[if_neg (by omega),if_neg (by omega)];exact h4 i v hi
  ·rw[if_pos (by omega)];exact h4 i v hi
  ·omega
  ·by_cases hlo:o'+i<o
   ·rw[if_pos hlo];exact h4 i v hi
   ·rw[if_neg hlo,if_neg (by omega)];exact h4 i v hi
 ·exact ⟨b',o',arr',t',fz',vs,h1,by rw[e4 _ hbb];exact h2,h3,h4,h5⟩
theorem Fr.setCells {T:Nat→Nat→Prop} {w0 w:World} (h:Fr T w0 w) {b o:Nat} {us:List Value} {arr:Array Value} {t:TypeId} {fz:Nat×Nat}
  (hb:w.heap[b]? =some (.cells arr t fz)) (hT:∀i,i<us.length→w0.heap.size≤b∨T b (o+i)):Fr T w0 (setCells w b o us):=by
 obtain ⟨arr2,e1,e2,e3,e4,e5,e6,e7,e8⟩:=setCells_spec us w b o arr t fz hb
 refine ⟨e6.trans h.os,e7.trans h.tape,e8.trans h.output,by rw[e5];exact h.size,fun i hi=> ?_⟩
 by_cases hib:i=b
 ·subst hib
  have:=h.blk i hi
  rw[e1]
  rw[hb]at this
  refine this.trans ⟨arr2,rfl,e2,fun p hp=> ?_⟩
  rw[e3]
  by_cases h1:p<o
  ·rw[if_pos h1]
  ·rw[if_neg h1]
   by_cases h2:p<o+us.length∧p<arr.size
   ·exfalso
    rcases hT (p-o) (by omega)with h3 | h3
    ·omega
    ·rw[show o+(p-o)=p by omega]at h3;exact hp h3
   ·rw[if_neg h2]
 ·rw[e4 _ hib];exact h.blk i hi
theorem get_put_mem {m:Mem} {r r':Nat} {g g':Reg} (h:(put m r g).get r'=some g'):(r'=r∧g'=g)∨(r'≠r∧m.get r'=some g'):=Tr.get_set h
theorem Holds.storeG {β:Env} {T:Nat→Nat→Prop} {m:Mem} {w0 w:World} {P:Program} (h:Holds β T m w0 w) {r:Nat} {g:Reg} (hg:m.get r=some g) (hro:g.ro=false)
  {off:Nat} {us:List Value} {c':Ct} (hk:∀vs,g.c.den β vs→c'.den β (splice vs off us)∧off+us.length≤vs.length∧c'.len=g.c.len∧∀u∈us,oneCell u=true) {b o:Nat} (hβ:β r=some (b,o)):
  (storeCells ⟨b,o+off,none⟩ us).run P w= .ok () (Sx.setCells w b (o+off) us)∧
  Holds β T (put m r ⟨false,c'⟩) w0 (Sx.setCells w b (o+off) us):=by
 obtain ⟨b',o',arr,t,fz,vs,h1,h2,h3,h4,h5⟩:=(h.reg r g hg).ex
 rw[hβ]at h1
 injection h1 with h1;injection h1 with h1a h1b
 subst h1a;subst h1b
 obtain ⟨k1,k2,k3,k4⟩:=hk vs h3
 have hcl:=Ct.den_length h3
 have hbound:∀i,i<us.length→¬(fz.1≤o+off+i∧o+off+i<fz.2)∧(w0.heap.size≤b∨T b (o+off+i)):=fun i hi=>by
  have:=h5 hro (off+i) (by omega)
  rw[Nat.add_assoc];exact this
 have hfit:us≠[]→o+off+us.length≤arr.size:=fun hne=>by
  have hpos:0<us.length:=List.length_pos_iff.2 hne
  have h6:=h4 (off+us.length-1) (vs[off+us.length-1]'(by omega)) (by rw[List.getElem?_eq_getElem (by omega)])
  have h7:=(Array.getElem?_eq_some_iff.1 h6).1
  omega
 refine ⟨?_,?_,?_,?_⟩
 ·by_cases hne:us= []
  ·subst hne;rfl
  ·have:=run_storeCells (P:=P) (b:=b) (o:=o+off) us 0 w arr k4 h2 (by have:=hfit hne;omega) (fun j hj=>by have:=(hbound j hj).1;simpa using this)
   simpa using this
 ·exact h.fr.setCells h2 fun i hi=>(hbound i hi).2
 ·intro r' g' hr'
  rcases get_put_mem hr' with ⟨rfl,rfl⟩ | ⟨hne,hr'⟩
  ·obtain ⟨arr2,e1,e2,e3,_⟩:=setCells_spec us w b (o+off) arr t fz h2
   refine ⟨b,o,arr2,t,fz,splice vs off us,hβ,e1,k1,fun i v hi=> ?_,fun _ i hi=>h5 hro i (by rw[splice_length k2]at hi;exact hi)⟩
   rw[getElem?_splice k2]at hi
   rw[e3]
   by_cases hi1:i<off
   ·rw[if_pos hi1]at hi
    rw[if_pos (by omega)]
    exact h4 i v hi
   ·rw[if_neg hi1]at hi
    rw[if_neg (by omega)]
    by_cases hi2:i<off+us.length
    ·rw[if_pos hi2]at hi
     have:=hfit (by intro e;subst e;simp at hi2;omega)
     rw[if_pos (by omega),show o+i-(o+off)=i-off by omega]
     exact hi
    ·rw[if_neg hi2]at hi
     rw[if_neg (by omega)]
     exact h4 i v hi
  ·refine RegOk.setCells_other (h.reg r' g' hr') h2 fun o' ho'=> ?_
   have:=h.disj r r' g g' (fun e=>hne e.symm) hg hr' (.inl hro) b o o' hβ ho'
   omega
 ·intro r1 r2 g1 g2 hne hg1 hg2 hro' b1 o1 o2 hb1 hb2
  rcases get_put_mem hg1 with ⟨rfl,rfl⟩ | ⟨hn1,hg1x⟩<;>rcases get_put_mem hg2 with ⟨rfl,rfl⟩ | ⟨hn2,hg2x⟩
  ·exact absurd rfl hne
  ·have:=h.disj r1 r2 g g2 hne hg hg2x (.inl hro) b1 o1 o2 hb1 hb2
   simp only[k3];exact this
  ·have:=h.disj r1 r2 g1 g hne hg1x hg (.inr hro) b1 o1 o2 hb1 hb2
   simp only[k3];exact this
  ·exact h.disj r1 r2 g1 g2 hne hg1x hg2x hro' b1 o1 o2 hb1 hb2
theorem Holds.store {β:Env} {T:Nat→Nat→Prop} {m:Mem} {w0 w:World} {P:Program} (h:Holds β T m w0 w) {r:Nat} {g:Reg} (hg:m.get r=some g) (hro:g.ro=false)
  {off:N} {l:List SV} {us:List Value} {p:Ob} {c':Ct} (hl:DenL β l us) (hw:g.c.write off l=some (p,c')) (hp:p.ok) {b o:Nat} (hβ:β r=some (b,o)):
  (storeCells ⟨b,o+off.val,none⟩ us).run P w= .ok () (Sx.setCells w b (o+off.val) us)∧
  Holds β T (put m r ⟨false,c'⟩) w0 (Sx.setCells w b (o+off.val) us):=
 h.storeG hg hro (fun _ h3=>Ct.write_spec h3 hl hw hp) hβ
def upd (β:Env) (r:Nat) (x:Nat×Nat):Env:=fun s=>if s=r then some x else β s
theorem upd_le {β:Env} {r:Nat} {x:Nat×Nat} (h:β r=none):EnvLe β (upd β r x):=fun s y hs=>by
 unfold upd
 split
 ·subst_vars;rw[h]at hs;cases hs
 ·exact hs
theorem Holds.new {β:Env} {T:Nat→Nat→Prop} {m:Mem} {w0 w:World} (h:Holds β T m w0 w) {r:Nat} (hr:β r=none) {c:Ct} {vs:List Value} {e:TypeId}
  (hc:c.den β vs):Holds (upd β r (w.heap.size,0)) T (put m r ⟨false,c⟩) w0 { w with heap:=w.heap.push (.cells vs.toArray e) }:=by
 have hle:=upd_le (x:=(w.heap.size,0)) hr
 have h2:=h.mono hle
 have hfr:Fr noT w { w with heap:=w.heap.push (.cells vs.toArray e) }:=Fr.alloc noT w _
 have h3:=h2.grow hfr
 have hnew:upd β r (w.heap.size,0) r=some (w.heap.size,0):=by simp[upd]
 have hold:∀s g,m.get s=some g→s≠r→∀b o,upd β r (w.heap.size,0) s=some (b,o)→b<w.heap.size:=fun s g hs hne b o hb=>by
  obtain ⟨b',o',_,_,_,_,k1,k2,_⟩:=(h.reg s g hs).ex
  have:=hle _ _ k1
  rw[hb]at this
  injection this with this;injection this with e1 e2
  subst e1
  exact (Array.getElem?_eq_some_iff.1 k2).1
 refine ⟨h3.fr,fun s g hs=> ?_,?_⟩
 ·rcases get_put_mem hs with ⟨rfl,rfl⟩ | ⟨hne,hs⟩
  ·refine ⟨w.heap.size,0,vs.toArray,e,(0,0),vs,hnew,by simp,Ct.den_mono hle hc,fun i v hi=>by simpa using hi,fun _ i hi=>⟨by simp,.inl h.fr.size⟩⟩
  ·exact h3.reg s g hs
 ·intro r1 r2 g1 g2 hne hg1 hg2 hro' b1 o1 o2 hb1 hb2
  rcases get_put_mem hg1 with ⟨rfl,rfl⟩ | ⟨hn1,hg1x⟩<;>rcases get_put_mem hg2 with ⟨rfl,rfl⟩ | ⟨hn2,hg2x⟩
  ·exact absurd rfl hne
  ·have:=hold _ _ hg2x hn2 _ _ hb2
   rw[hnew]at hb1;injection hb1 with hb1;injection hb1 with hb1 _;omega
  ·have:=hold _ _ hg1x hn1 _ _ hb1
   rw[hnew]at hb2;injection hb2 with hb2;injection hb2 with hb2 _;omega
  ·exact h3.disj r1 r2 g1 g2 hne hg1x hg2x hro' b1 o1 o2 hb1 hb2
theorem mkA_val (b:Bool) (x:Int):(mkA b x).val=x:=by cases b<;>rfl
theorem mkB_val (b x:Bool):(mkB b x).val=x:=by cases b<;>rfl
theorem mkN_val (b:Bool) (x:Nat):(mkN b x).val=x:=by cases b<;>rfl
theorem N.add_val (a b:N):(a.add b).val=a.val+b.val:=by
 unfold N.add
 split<;>simp[N.val]<;>omega
theorem N.sub_val (a b:N):(a.sub b).val=a.val-b.val:=mkN_val _ _
theorem N.mul_val (a:N) (k:Nat):(a.mul k).val=a.val*k:=mkN_val _ _
theorem obIf_spec {lit:Bool} {p:Prop} [Decidable p] {q:Ob} (h:obIf lit p=some q) (hq:q.ok):p:=by
 unfold obIf at h
 cases lit with
 | false=>
  simp only[cond_false,Option.some.injEq]at h
  subst h
  exact hq
 | true=>
  simp only[cond_true]at h
  cases hd:decide p with
  | false=>rw[hd]at h;simp at h
  | true=>simpa using hd
def Yields (P:Program) (β:Env) (w:World) (s:Sem Value) (sv:SV):Prop:=∃v,s.run P w= .ok v w∧Den β sv v
section
variable {P:Program} {w:World} {op:BinOp} {t:TypeId} {x y:Operand}
theorem eqGuard_int (k:IntKind) (n:Int) (b:Value):(eqGuard op t x y (.int k n) b).run P w= .ok () w:=by unfold eqGuard;split<;>rfl
theorem eqGuard_bool (n:Bool) (b:Value):(eqGuard op t x y (.bool n) b).run P w= .ok () w:=by unfold eqGuard;split<;>rfl
theorem eqGuard_str (n:ByteArray) (b:Value):(eqGuard op t x y (.string n) b).run P w= .ok () w:=by unfold eqGuard;split<;>rfl
theorem eqGuard_slice (r:Option Addr) (n c:Nat) (b:Value):(eqGuard op t x y (.slice r n c) b).run P w= .ok () w:=by unfold eqGuard;split<;>rfl
theorem eqGuard_iface (u:TypeId) (n b:Value):(eqGuard op t x y (.iface u n) b).run P w= .ok () w:=by unfold eqGuard;split<;>rfl
theorem eqGuard_nil (h:(isC x || isC y)=true):(eqGuard op t x y .nilIface .nilIface).run P w= .ok () w:=by
 unfold eqGuard
 simp only[Sem.run_ite]
 show (if _ then Result.ok () w else if (isC x || isC y)=true then Result.ok () w else _)=_
 rw[if_pos h]
 exact ite_self _
theorem eqGuard_agg (c d:Array Value) (h:P.eqGuardType P.depth t=false):(eqGuard op t x y (.agg c) (.agg d)).run P w= .ok () w:=by
 unfold eqGuard
 simp[h]
end
theorem binOp_ints {P:Program} {w:World} {op:BinOp} {t:TypeId} {k:IntKind} {a b:Int} {z:Int} (h:arith op k a b=some z):
  (binOp op t (.int k a) (.int k b)).run P w= .ok (.int k z) w:=by
 cases op<;>simp[arith]at h<;>subst h<;>simp[binOp,Op.intArith,Op.intBits,band,bor,bxor,bandn]
theorem binOp_cmp {P:Program} {w:World} {op:BinOp} {t:TypeId} {k:IntKind} {a b:Int} {z:Bool} (h:cmp op a b=some z):
  (binOp op t (.int k a) (.int k b)).run P w= .ok (.bool z) w:=by
 cases op<;>simp[cmp]at h<;>subst h<;>simp[binOp,Op.intCmp]
section
variable {P:Program} {w:World} {t:TypeId}
theorem equal_bool (h:P.underlying t=some .bool) (a b:Bool):(Op.equal t (.bool a) (.bool b)).run P w= .ok (a==b) w:=by
 unfold Op.equal Op.maxDepth Op.equalIn
 simp only[Sem.run_bind,run_underlying h,Result.andThen_ok]
 rfl
theorem equal_iface_nil {ms:Array (String×TypeId)} (h:P.underlying t=some (.interface ms)) (u:TypeId) (a:Value):(Op.equal t (.iface u a) .nilIface).run P w= .ok false w:=by
 unfold Op.equal Op.maxDepth Op.equalIn
 simp only[Sem.run_bind,run_underlying h,Result.andThen_ok]
 rfl
theorem equal_nil_nil {ms:Array (String×TypeId)} (h:P.underlying t=some (.interface ms)):(Op.equal t .nilIface .nilIface).run P w= .ok true w:=by
 unfold Op.equal Op.maxDepth Op.equalIn
 simp only[Sem.run_bind,run_underlying h,Result.andThen_ok]
 rfl
theorem equal_slice_nil {e:TypeId} (h:P.underlying t=some (.slice e)) (a:Addr) (n c n' c':Nat):(Op.equal t (.slice (some a) n c) (.slice none n' c')).run P w= .ok false w:=by
 unfold Op.equal Op.maxDepth Op.equalIn
 simp only[Sem.run_bind,run_underlying h,Result.andThen_ok]
 rfl
theorem equal_nil_slice {e:TypeId} (h:P.underlying t=some (.slice e)) (n c n' c':Nat):(Op.equal t (.slice none n c) (.slice none n' c')).run P w= .ok true w:=by
 unfold Op.equal Op.maxDepth Op.equalIn
 simp only[Sem.run_bind,run_underlying h,Result.andThen_ok]
 rfl
theorem binOp_eql {a b:Value} {r:Bool} (h:(Op.equal t a b).run P w= .ok r w) (hs:binOp .eql t a b=(do pure (.bool (←Op.equal t a b)))):(binOp .eql t a b).run P w= .ok (.bool r) w:=by
 rw[hs];simp only[Sem.run_bind,h,Result.andThen_ok,Sem.run_pure]
theorem binOp_neq {a b:Value} {r:Bool} (h:(Op.equal t a b).run P w= .ok r w) (hs:binOp .neq t a b=(do pure (.bool (!(←Op.equal t a b))))):(binOp .neq t a b).run P w= .ok (.bool (!r)) w:=by
 rw[hs];simp only[Sem.run_bind,h,Result.andThen_ok,Sem.run_pure]
end
theorem intsOf_length {k:IntKind}:∀ {l:List SV} {xs:List Int},intsOf k l=some xs→l.length=xs.length
 | [],xs,h=>by simp[intsOf]at h;subst h;rfl
 | s::l,xs,h=>by
  cases s<;>simp[intsOf]at h
  split at h
  ·rename_i ys _ hy
   simp at h
   subst h
   simp[intsOf_length hy]
  ·simp at h
theorem binS_sound {P:Program} {Γ:Cx P} {β:Env} {w:World} {op:BinOp} {t:TypeId} {x y:Operand} {a b:SV} {u v:Value} {out:Out} (hu:Den β a u) (hv:Den β b v)
  (h:binS Γ op t (isC x || isC y) a b=some out) (hp:out.p.ok):Yields P β w (do eqGuard op t x y u v;binOp op t u v) out.v:=by
 unfold binS at h
 split at h
 · -- ints
  rename_i k a' k' b'
  simp only[Den]at hu hv
  subst hu;subst hv
  unfold Yields
  simp only[Sem.run_bind,eqGuard_int,Result.andThen_ok]
  split at h
  ·simp only[Option.map_eq_some_iff]at h
   obtain ⟨p,h1,rfl⟩:=h
   have h0:=obIf_spec h1 hp
   refine ⟨_,?_,rfl⟩
   simp only[binOp,Op.shift,mkA_val,shlv]
   rw[if_neg (by omega)]
   rfl
  ·simp only[Option.map_eq_some_iff]at h
   obtain ⟨p,h1,rfl⟩:=h
   have h0:=obIf_spec h1 hp
   refine ⟨_,?_,rfl⟩
   simp only[binOp,Op.shift,mkA_val,shrv]
   rw[if_neg (by omega)]
   rfl
  ·cases hk:decide (k=k')with
   | false=>rw[hk]at h;simp at h
   | true=>
    rw[hk]at h
    simp only[cond_true,Option.map_eq_some_iff]at h
    obtain ⟨p,h1,rfl⟩:=h
    have h0:=obIf_spec h1 hp
    have hk':k=k':=by simpa using hk
    subst hk'
    refine ⟨_,?_,rfl⟩
    simp only[binOp,Op.intDiv,mkA_val]
    simp[h0]
  ·cases hk:decide (k=k')with
   | false=>rw[hk]at h;simp at h
   | true=>
    rw[hk]at h
    simp only[cond_true,Option.map_eq_some_iff]at h
    obtain ⟨p,h1,rfl⟩:=h
    have h0:=obIf_spec h1 hp
    have hk':k=k':=by simpa using hk
    subst hk'
    refine ⟨_,?_,rfl⟩
    simp only[binOp,Op.intDiv,mkA_val]
    simp[h0]
  ·cases hk:decide (k=k')with
   | false=>rw[hk]at h;simp at h
   | true=>
    rw[hk]at h
    simp only[cond_true]at h
    have hk':k=k':=by simpa using hk
    subst hk'
    split at h
    ·rename_i z hz
     simp only[Option.some.injEq]at h
     subst h
     exact ⟨_,binOp_ints hz,by simp[Den,mkA_val]⟩
    ·split at h
     ·rename_i z hz
      simp only[Option.some.injEq]at h
      subst h
      exact ⟨_,binOp_cmp hz,by simp[Den,mkB_val]⟩
     ·simp at h
 · -- rows of ints
  rename_i l l'
  split at h
  ·rename_i q hq
   split at h
   ·rename_i xs ys hx hy
    cases hb:(Nat.beq xs.length q.n && Nat.beq ys.length q.n)with
    | false=>rw[hb]at h;simp at h
    | true=>
     rw[hb]at h
     simp only[cond_true]at h
     simp only[Bool.and_eq_true]at hb
     simp only[Den]at hu hv
     obtain ⟨us,d1,rfl⟩:=hu
     obtain ⟨vs,d2,rfl⟩:=hv
     have e1:=DenL.ints _ d1 hx
     have e2:=DenL.ints _ d2 hy
     subst e1;subst e2
     have hqt:q.t=t:=by
      have:∀L:List (Eqs P),findEq t L=some q→q.t=t:=by
       intro L
       induction L with
       | nil=>intro h;simp[findEq]at h
       | cons z L ih=>
        intro h
        unfold findEq at h
        cases hz:Nat.beq z.t t with
        | true=>rw[hz]at h;simp at h;subst h;exact Nat.eq_of_beq_eq_true hz
        | false=>rw[hz]at h;exact ih (by simpa using h)
      exact this _ hq
     have hs:=q.sound xs ys w (Nat.eq_of_beq_eq_true hb.1) (Nat.eq_of_beq_eq_true hb.2)
     have hg:=q.guard
     rw[hqt]at hs hg
     unfold Yields
     simp only[Sem.run_bind,eqGuard_agg _ _ hg,Result.andThen_ok]
     split at h
     ·simp only[Option.some.injEq]at h
      subst h
      refine ⟨.bool (decide (xs=ys)),?_,by simp[Den,B.val]⟩
      simp only[binOp,Sem.run_bind,hs,Result.andThen_ok,Sem.run_pure]
     ·simp only[Option.some.injEq]at h
      subst h
      refine ⟨.bool (!decide (xs=ys)),?_,by simp[Den,B.val]⟩
      simp only[binOp,Sem.run_bind,hs,Result.andThen_ok,Sem.run_pure]
     ·simp at h
   ·simp at h
  ·simp at h
 · -- strings
  rename_i xs ys
  simp only[Den]at hu hv
  subst hu;subst hv
  unfold Yields
  simp only[Sem.run_bind,eqGuard_str,Result.andThen_ok]
  split at h
  ·simp only[Option.some.injEq]at h
   subst h
   exact ⟨_,rfl,by simp[Den,B.val]⟩
  ·simp at h
 · -- bools
  rename_i a' b'
  simp only[Den]at hu hv
  subst hu;subst hv
  unfold Yields
  simp only[Sem.run_bind,eqGuard_bool,Result.andThen_ok]
  split at h
  ·rename_i ht
   split at h
   ·simp only[Option.some.injEq]at h
    subst h
    exact ⟨_,binOp_eql (equal_bool ht _ _) rfl,by simp[Den,mkB_val]⟩
   ·simp only[Option.some.injEq]at h
    subst h
    exact ⟨_,binOp_neq (equal_bool ht _ _) rfl,by simp[Den,mkB_val]⟩
   ·simp at h
  ·simp at h
 ·simp only[Den]at hu hv
  obtain ⟨_,_,_,rfl⟩:=hu
  subst hv
  unfold Yields
  simp only[Sem.run_bind,eqGuard_slice,Result.andThen_ok]
  split at h
  ·rename_i ht
   split at h
   ·simp only[Option.some.injEq]at h
    subst h
    exact ⟨_,binOp_eql (equal_slice_nil ht _ _ _ _ _) rfl,by simp[Den,B.val]⟩
   ·simp only[Option.some.injEq]at h
    subst h
    exact ⟨_,binOp_neq (equal_slice_nil ht _ _ _ _ _) rfl,by simp[Den,B.val]⟩
   ·simp at h
  ·simp at h
 ·simp only[Den]at hu hv
  subst hu
  subst hv
  unfold Yields
  simp only[Sem.run_bind,eqGuard_slice,Result.andThen_ok]
  split at h
  ·rename_i ht
   split at h
   ·simp only[Option.some.injEq]at h
    subst h
    exact ⟨_,binOp_eql (equal_nil_slice ht _ _ _ _) rfl,by simp[Den,B.val]⟩
   ·simp only[Option.some.injEq]at h
    subst h
    exact ⟨_,binOp_neq (equal_nil_slice ht _ _ _ _) rfl,by simp[Den,B.val]⟩
   ·simp at h
  ·simp at h
 ·rename_i tt s
  simp only[Den]at hu hv
  obtain ⟨u',_,rfl⟩:=hu
  subst hv
  unfold Yields
  simp only[Sem.run_bind,eqGuard_iface,Result.andThen_ok]
  split at h
  ·rename_i ht
   split at h
   ·simp only[Option.some.injEq]at h
    subst h
    exact ⟨_,binOp_eql (equal_iface_nil ht _ _) rfl,by simp[Den,B.val]⟩
   ·simp only[Option.some.injEq]at h
    subst h
    exact ⟨_,binOp_neq (equal_iface_nil ht _ _) rfl,by simp[Den,B.val]⟩
   ·simp at h
  ·simp at h
 ·simp only[Den]at hu hv
  subst hu
  subst hv
  split at h
  ·rename_i ht hc
   unfold Yields
   simp only[Sem.run_bind,eqGuard_nil hc,Result.andThen_ok]
   split at h
   ·simp only[Option.some.injEq]at h
    subst h
    exact ⟨_,binOp_eql (equal_nil_nil ht) rfl,by simp[Den,B.val]⟩
   ·simp only[Option.some.injEq]at h
    subst h
    exact ⟨_,binOp_neq (equal_nil_nil ht) rfl,by simp[Den,B.val]⟩
   ·simp at h
  ·simp at h
 ·simp at h
theorem unS_sound {P:Program} {β:Env} {w:World} {op:UnOp} {a:SV} {u:Value} {out:Out} (hu:Den β a u)
  (h:unS op a=some out):Yields P β w (Op.unary op u) out.v:=by
 unfold unS at h
 split at h
 ·simp only[Option.some.injEq]at h
  subst h
  simp only[Den]at hu
  subst hu
  refine ⟨_,rfl,?_⟩;simp only[Den,mkA_val]
 ·simp only[Option.some.injEq]at h
  subst h
  simp only[Den]at hu
  subst hu
  refine ⟨_,rfl,?_⟩;simp only[Den,mkA_val];rfl
 ·simp only[Option.some.injEq]at h
  subst h
  simp only[Den]at hu
  subst hu
  refine ⟨_,rfl,?_⟩;simp only[Den,mkB_val]
 ·simp at h
section
variable {P:Program} {β:Env} {w:World}
theorem partS_sound {t:TypeId} {l:List SV} {off:Nat} {s:SV} {vs:List Value} (hl:DenL β l vs) (h:partS P t l off=some s):
  Yields P β w (part t vs.toArray off) s:=by
 unfold partS at h
 split at h
 ·rename_i n ha hs
  cases hb:Nat.ble (off+n) l.length with
  | false=>rw[hb]at h;simp at h
  | true=>
   rw[hb]at h
   simp only[cond_true,Option.some.injEq]at h
   subst h
   refine ⟨.agg (vs.toArray.extract off (off+n)),?_,?_⟩
   ·simp[part,run_isAgg ha,run_sizeOf hs]
   ·simp only[Den]
    refine ⟨_,(hl.drop off).take n,?_⟩
    simp
 ·rename_i ha
  obtain ⟨v,hv,hd⟩:=hl.get h
  refine ⟨v,?_,hd⟩
  simp[part,run_isAgg ha,hv]
 ·simp at h
theorem boundS_sound {x:SV} {y:N} {u:Value} {p:Ob} {r:N} {code:BoundsCode} (hu:Den β x u) (h:boundS x y=some (p,r)) (hp:p.ok):
  (Instr.sliceBound u y.val code).run P w= .ok r.val w:=by
 unfold boundS at h
 split at h
 ·rename_i k a
  simp only[Option.map_eq_some_iff,Prod.mk.injEq]at h
  obtain ⟨q,h1,rfl,rfl⟩:=h
  have h0:=obIf_spec h1 hp
  simp only[Den]at hu
  subst hu
  simp only[Instr.sliceBound,asIntOf,Sem.run_bind,Sem.run_pure,Result.andThen_ok]
  rw[if_pos h0]
  simp[mkN_val]
 ·simp at h
theorem Ob.and_ok {p q:Ob} (h:(p.and q).ok):p.ok∧q.ok:=by
 cases p<;>cases q<;>simp_all [Ob.and,Ob.ok]
theorem boundsS_sound {len cap:N} {lo hi mx:Option SV} {lo' hi' mx':Option Value} {p:Ob} {l h m:N} {b:Bool}
  (h1:∀s,lo=some s→∃v,lo'=some v∧Den β s v) (h1n:lo=none→lo'=none) (h2:∀s,hi=some s→∃v,hi'=some v∧Den β s v) (h2n:hi=none→hi'=none)
  (h3:∀s,mx=some s→∃v,mx'=some v∧Den β s v) (h3n:mx=none→mx'=none) (hb:boundsS len cap lo hi mx=some (p,l,h,m)) (hp:p.ok):
  (Instr.sliceBounds b len.val cap.val lo' hi' mx').run P w= .ok (l.val,h.val,m.val) w:=by
 unfold boundsS at hb
 split at hb
 ·simp at hb
 ·rename_i p1 m1 hm
  split at hb
  ·simp at hb
  ·rename_i hnot
   split at hb
   ·simp at hb
   ·rename_i p2 hh hh2
    split at hb
    ·simp at hb
    ·rename_i p3 l3 hl3
     simp only[Option.some.injEq,Prod.mk.injEq]at hb
     obtain ⟨rfl,rfl,rfl,rfl⟩:=hb
     obtain ⟨hp12,hp3⟩:=Ob.and_ok hp
     obtain ⟨hp1,hp2⟩:=Ob.and_ok hp12
     have e1:(mx'=none∧m1.val=cap.val)∨∃v,mx'=some v∧∀code,(Instr.sliceBound v cap.val code).run P w= .ok m1.val w:=by
      cases mx with
      | none=>simp[boundOpt]at hm;obtain ⟨rfl,rfl⟩:=hm;exact .inl ⟨h3n rfl,rfl⟩
      | some s=>obtain ⟨v,rfl,hd⟩:=h3 s rfl;exact .inr ⟨v,rfl,fun code=>boundS_sound hd hm hp1⟩
     have e2:(hi'=none∧mx'=none∧hh.val=len.val)∨∃v,hi'=some v∧∀code,(Instr.sliceBound v m1.val code).run P w= .ok hh.val w:=by
      cases hi with
      | none=>
       cases mx with
       | none=>simp[boundOpt]at hh2;obtain ⟨rfl,rfl⟩:=hh2;exact .inl ⟨h2n rfl,h3n rfl,rfl⟩
       | some s=>exact (hnot _ rfl rfl).elim
      | some s=>obtain ⟨v,rfl,hd⟩:=h2 s rfl;exact .inr ⟨v,rfl,fun code=>boundS_sound hd hh2 hp2⟩
     have e3:(lo'=none∧l3.val=0)∨∃v,lo'=some v∧∀code,(Instr.sliceBound v hh.val code).run P w= .ok l3.val w:=by
      cases lo with
      | none=>simp[boundOpt]at hl3;obtain ⟨rfl,rfl⟩:=hl3;exact .inl ⟨h1n rfl,rfl⟩
      | some s=>obtain ⟨v,rfl,hd⟩:=h1 s rfl;exact .inr ⟨v,rfl,fun code=>boundS_sound hd hl3 hp3⟩
     unfold Instr.sliceBounds
     rcases e1 with ⟨rfl,e1⟩ | ⟨v1,rfl,e1⟩<;>rcases e2 with ⟨rfl,ex,e2⟩ | ⟨v2,rfl,e2⟩<;>rcases e3 with ⟨rfl,e3⟩ | ⟨v3,rfl,e3⟩<;>
      first
       | (cases ex;done)
       | (try rw[e1]at e2);simp_all
end
theorem fold_splice (off:Nat):∀(vs:List Value) (k:Nat) (cells:List Value),off+k+vs.length≤cells.length→
  ((vs.zipIdx k).foldl (fun (cs:Array Value) (p:Value×Nat)=>cs.setIfInBounds (off+p.2) p.1) cells.toArray)=(splice cells (off+k) vs).toArray:=by
 intro vs
 induction vs with
 | nil=>intro k cells h;simp[splice]
 | cons v vs ih=>
  intro k cells h
  simp only[List.zipIdx_cons,List.foldl_cons]
  simp only[List.length_cons]at h
  rw[List.setIfInBounds_toArray,ih (k+1) (cells.set (off+k) v) (by simp;omega)]
  congr 1
  apply List.ext_getElem?
  intro i
  rw[getElem?_splice (by simp;omega),getElem?_splice (by simp;omega)]
  simp only[List.getElem?_set,List.length_cons]
  by_cases h1:i<off+k
  ·rw[if_pos (by omega),if_neg (by omega),if_pos h1]
  ·by_cases h2:i=off+k
   ·subst h2
    rw[if_pos (by omega),if_pos rfl,if_pos (by omega),if_neg (by omega),if_pos (by omega)]
    simp
   ·rw[if_neg (show ¬i<off+(k+1) by omega),if_neg h1,if_neg (show ¬off+k=i by omega)]
    by_cases h3:i<off+k+1+vs.length
    ·rw[if_pos (show i<off+(k+1)+vs.length by omega),if_pos (show i<off+k+(vs.length+1) by omega),show i-(off+k)=(i-(off+(k+1)))+1 by omega,List.getElem?_cons_succ]
    ·rw[if_neg (show ¬i<off+(k+1)+vs.length by omega),if_neg (show ¬i<off+k+(vs.length+1) by omega)]
theorem fill_step (off:Nat) (v:Value) (cells:List Value) (h:off+v.cells.size≤cells.length):
  (v.cells.zipIdx.foldl (fun (cs:Array Value) (p:Value×Nat)=>cs.setIfInBounds (off+p.2) p.1) cells.toArray)=(splice cells off v.cells.toList).toArray:=by
 have:=fold_splice off v.cells.toList 0 cells (by simpa using h)
 rw[Nat.add_zero]at this
 rw[←this,←Array.foldl_toList,Array.toList_zipIdx]
theorem cells_of {β:Env} {s:SV} {v:Value} (hd:Den β s v) (hs:partOk s=true):DenL β (partCells s) v.cells.toList:=by
 have one:v.cells= #[v]→partCells s= [s]→DenL β (partCells s) v.cells.toList:=fun e e'=>by rw[e,e',DenL.cons];exact ⟨hd,by simp[DenL]⟩
 cases s
 ·simp[partOk]at hs
 ·refine one ?_ rfl;simp only[Den]at hd;subst hd;rfl
 ·refine one ?_ rfl;simp only[Den]at hd;subst hd;rfl
 ·refine one ?_ rfl;simp only[Den]at hd;obtain ⟨_,_,_,rfl⟩:=hd;rfl
 ·refine one ?_ rfl;simp only[Den]at hd;obtain ⟨_,_,_,rfl⟩:=hd;rfl
 ·refine one ?_ rfl;simp only[Den]at hd;obtain ⟨_,_,rfl⟩:=hd;rfl
 ·simp only[Den]at hd;obtain ⟨vs,hl,rfl⟩:=hd;simpa [Value.cells,partCells]using hl
 ·simp[partOk]at hs
 ·refine one ?_ rfl;simp only[Den]at hd;subst hd;rfl
 ·rename_i u
  refine one ?_ rfl
  simp only[Den]at hd;subst hd
  cases v<;>simp[partOk,oneCell]at hs<;>rfl
theorem fillS_sound {β:Env} {place:Nat→Option (Nat×Nat)}:∀(parts:List (Nat×SV)) (parts':List (Nat×Value)) (l l':List SV) (vs:List Value),
  parts.map (·.1)=parts'.map (·.1)→DenL β (parts.map (·.2)) (parts'.map (·.2))→DenL β l vs→fillS place l parts=some l'→
  ∃vs',Instr.fill place vs.toArray parts'=some vs'.toArray∧DenL β l' vs':=by
 intro parts
 induction parts with
 | nil=>
  intro parts' l l' vs hk hd hl h
  have:parts'= []:=by simpa using hk.symm
  subst this
  simp only[fillS,Option.some.injEq]at h
  subst h
  exact ⟨vs,rfl,hl⟩
 | cons x parts ih=>
  intro parts' l l' vs hk hd hl h
  obtain ⟨i,s⟩:=x
  cases parts' with
  | nil=>simp at hk
  | cons x' parts'=>
   obtain ⟨i',v⟩:=x'
   simp only[List.map_cons,List.cons.injEq]at hk
   obtain ⟨rfl,hk⟩:=hk
   simp only[List.map_cons,DenL.cons]at hd
   obtain ⟨hd1,hd2⟩:=hd
   simp only[fillS]at h
   split at h
   ·simp at h
   ·rename_i off size hp
    generalize hb:(Nat.beq (partCells s).length size && Nat.ble (off+size) l.length && partOk s)=b at h
    cases b with
    | false=>simp at h
    | true=>
     simp only[cond_true]at h
     simp only[Bool.and_eq_true]at hb
     obtain ⟨⟨hb1,hb2⟩,hb3⟩:=hb
     have e1:=Nat.eq_of_beq_eq_true hb1
     have e2:off+size≤l.length:=by simpa using hb2
     have hc:=cells_of hd1 hb3
     have hlen:=DenL.length hc
     have hlv:=DenL.length hl
     have hsz:v.cells.size=size:=by rw[←Array.length_toList];omega
     obtain ⟨vs',hf,hd'⟩:=ih parts' (splice l off (partCells s)) l' (splice vs off v.cells.toList) hk hd2 (by
      unfold splice
      rw[show off+(partCells s).length=off+v.cells.toList.length by rw[hlen]]
      exact ((hl.take off).append hc).append (hl.drop _)) h
     refine ⟨vs',?_,hd'⟩
     unfold Instr.fill
     simp only[hp]
     rw[if_neg (by simp[hsz];omega)]
     have:=fill_step off v vs (by omega)
     rw[this]
     exact hf
theorem cellsOfV_den (β:Env) (z:Value):DenL β (cellsOfV z) z.cells.toList:=denL_map_ofV1 β _
theorem mapM_sizes {P:Program} {w:World}:∀(fs:List Field) (places:List (Nat×Nat)),(fs.mapM fun f=>(sizeS P f.type).map fun s=>(f.offset,s))=some places→
  (fs.mapM fun f=>do pure (f.offset,←sizeOf f.type):Sem (List (Nat×Nat))).run P w= .ok places w:=by
 intro fs
 induction fs with
 | nil=>intro places h;simp at h;subst h;simp
 | cons f fs ih=>
  intro places h
  rw[List.mapM_cons]at h
  cases hs:sizeS P f.type with
  | none=>rw[hs]at h;simp at h
  | some s=>
   rw[hs]at h
   simp only[Option.map_some,Option.bind_eq_bind,Option.bind_some]at h
   cases hm:(fs.mapM fun f=>(sizeS P f.type).map fun s=>(f.offset,s))with
   | none=>rw[hm]at h;simp at h
   | some ps=>
    rw[hm]at h
    simp at h
    subst h
    rw[List.mapM_cons]
    simp only[Sem.run_bind,run_sizeOf hs,Result.andThen_ok,Sem.run_pure,ih ps hm]
theorem buildS_sound {P:Program} {β:Env} {w:World} {t:TypeId} {parts:List (Nat×SV)} {parts':Array (Nat×Value)} {s:SV}
  (hk:parts.map (·.1)=parts'.toList.map (·.1)) (hd:DenL β (parts.map (·.2)) (parts'.toList.map (·.2))) (h:buildS P t parts=some s):
  Yields P β w (Instr.build t parts') s:=by
 unfold buildS at h
 split at h
 ·rename_i z fs hz ht
  split at h
  ·rename_i places hp
   simp only[Option.map_eq_some_iff]at h
   obtain ⟨l',h1,rfl⟩:=h
   obtain ⟨vs',hf,hdl⟩:=fillS_sound parts parts'.toList _ _ _ hk hd (cellsOfV_den β z) h1
   refine ⟨.agg vs'.toArray,?_,by simp only[Den];exact ⟨_,hdl,rfl⟩⟩
   have hm:=mapM_sizes (P:=P) (w:=w) fs.toList places hp
   unfold Instr.build
   simp only[Sem.run_bind,run_zeroValue hz,run_underlying ht,Result.andThen_ok]
   rw[Array.mapM_eq_mapM_toList]
   simp only[Sem.run_map,hm,Result.andThen_ok]
   have:(fun (i:Nat)=>places.toArray[i]?)=(fun (i:Nat)=>places[i]?):=by funext i;simp
   rw[this]
   have e:z.cells.toList.toArray=z.cells:=by simp
   rw[e]at hf
   rw[hf]
   rfl
  ·simp at h
 ·rename_i z len e hz ht
  split at h
  ·rename_i size hs
   simp only[Option.map_eq_some_iff]at h
   obtain ⟨l',h1,rfl⟩:=h
   obtain ⟨vs',hf,hdl⟩:=fillS_sound parts parts'.toList _ _ _ hk hd (cellsOfV_den β z) h1
   refine ⟨.agg vs'.toArray,?_,by simp only[Den];exact ⟨_,hdl,rfl⟩⟩
   unfold Instr.build
   have e:z.cells.toList.toArray=z.cells:=by simp
   rw[e]at hf
   simp only[Sem.run_bind,run_zeroValue hz,run_underlying ht,Result.andThen_ok,run_sizeOf hs,hf]
   rfl
  ·simp at h
 ·simp at h
section
variable {P:Program} {β:Env} {w:World} {a:Act}
theorem wp_val {o:Oper} {v:Value} {w':World} {N:Act→World→Prop} {Q:Exit→Act→World→Prop} (h:(execOp a.eval o).run P w= .ok (.value v) w') (hN:N (a.put o.dst v) w'):o.wp P a w N Q:=by
 unfold Oper.wp;rw[h];exact hN
theorem run_v {s:Sem Value} {v:Value} {w':World} (h:s.run P w= .ok v w'):(do pure (Next.value (←s)):Sem Next).run P w= .ok (.value v) w':=by
 simp only[Sem.run_bind,h,Result.andThen_ok,Sem.run_pure]
theorem findRd_f {f:FuncId} {q:Rd P}:∀ {L:List (Rd P)},findRd f L=some q→q.f=f
 | [],h=>by simp[findRd]at h
 | z::L,h=>by
  unfold findRd at h
  cases hz:Nat.beq z.f f with
  | true=>rw[hz]at h;simp at h;subst h;exact Nat.eq_of_beq_eq_true hz
  | false=>rw[hz]at h;exact findRd_f (by simpa using h)
theorem findEf_f {f:FuncId} {q:Ef P}:∀ {L:List (Ef P)},findEf f L=some q→q.f=f
 | [],h=>by simp[findEf]at h
 | z::L,h=>by
  unfold findEf at h
  cases hz:Nat.beq z.f f with
  | true=>rw[hz]at h;simp at h;subst h;exact Nat.eq_of_beq_eq_true hz
  | false=>rw[hz]at h;exact findEf_f (by simpa using h)
theorem denL_map {ev:Operand→SV} {ρ:Operand→Value} (hev:∀x,Den β (ev x) (ρ x)):∀l:List Operand,DenL β (l.map ev) (l.map ρ)
 | []=>by simp[DenL]
 | x::l=>by rw[List.map_cons,List.map_cons,DenL.cons];exact ⟨hev x,denL_map hev l⟩
theorem denL_map2 {ev:Operand→SV} {ρ:Operand→Value} (hev:∀x,Den β (ev x) (ρ x)):∀l:List (Nat×Operand),
  (l.map fun x=>(x.1,ev x.2)).map (·.1)=(l.map fun x=>(x.1,ρ x.2)).map (·.1)∧DenL β ((l.map fun x=>(x.1,ev x.2)).map (·.2)) ((l.map fun x=>(x.1,ρ x.2)).map (·.2))
 | []=>by simp[DenL]
 | x::l=>by
  obtain ⟨h1,h2⟩:=denL_map2 hev l
  simp only[List.map_cons,DenL.cons,List.cons.injEq,true_and]
  exact ⟨h1,hev _,h2⟩
theorem wp_call {o:Oper} {c:Call} {f:FuncId} {N:Act→World→Prop} {Q:Exit→Act→World→Prop} {R:Ending→World→Prop} (ho:o.op= .call c) (hc:c.callee= .value (.func f))
  (h:CallsX P f (c.args.map a.eval) w R) (hR:∀e w',R e w'→∃v,e= .returned v∧N (a.put o.dst v) w'):o.wp P a w N Q:=by
 unfold Oper.wp
 have he:(execOp a.eval o).run P w=(callFunc f (c.args.map a.eval)).run P w:=by
  unfold execOp
  rw[ho]
  simp only[Sem.run_bind,resolve,hc,Act.eval,Deferred.ofValue,Sem.run_pure,Result.andThen_ok,invoke]
  simp
 rw[he]
 unfold CallsX at h
 generalize (callFunc f (c.args.map a.eval)).run P w=r at h
 cases r with
 | halt x w'=>exact h.elim
 | ok n w'=>
  cases n<;>simp only at h<;>try exact h.elim
  ·obtain ⟨v,he,hn⟩:=hR _ _ h
   injection he with he
   subst he
   exact hn
  ·refine h.mono fun e w'' hr=> ?_
   obtain ⟨v,rfl,hn⟩:=hR _ _ hr
   exact hn
theorem slid_val {c l o:N} {n:Nat}:(slid c l o n).val=if c.val=l.val then o.val else o.val+l.val*n:=by
 have gen:∀l':N,l'.val=l.val→(bif c.isLit && l'.isLit then (bif Nat.beq c.val l'.val then o else o.add (l'.mul n))else o.add (.sym (if c.val=l'.val then 0 else l'.val*n))).val=if c.val=l.val then o.val else o.val+l.val*n:=by
  intro l' hl
  cases hb:(c.isLit && l'.isLit)with
  | false=>
   simp only[cond_false,N.add_val,hl]
   show o.val+(if c.val=l.val then 0 else l.val*n)=_
   by_cases h:c.val=l.val<;>simp[h]
  | true=>
   simp only[cond_true]
   by_cases h:c.val=l.val
   ·rw[if_pos h,hl,h,Nat.beq_refl];rfl
   ·rw[if_neg h]
    have:Nat.beq c.val l'.val=false:=by
     cases hx:Nat.beq c.val l'.val with
     | false=>rfl
     | true=>exact absurd ((Nat.eq_of_beq_eq_true hx).trans hl) h
    rw[this]
    simp[N.add_val,N.mul_val,hl]
 cases l with
 | lit k=>
  cases k with
  | zero=>simp only[slid,N.val];split<;>simp
  | succ k=>exact gen (.lit (k+1)) rfl
 | sym k=>exact gen (.sym k) rfl
 | «at» b k=>exact gen (.at b k) rfl
theorem add_off (b o n:Nat):(Addr.add ⟨b,o,none⟩ n)=⟨b,o+n,none⟩:=by
 unfold Addr.add;split
 ·subst_vars;simp
 ·rfl
end
theorem bytes_loop {P:Program} {w:World} {f:Value→ByteArray→Sem (ForInStep ByteArray)} (hf:∀n s,f (.int .u8 n) s=pure (ForInStep.yield (s.push (UInt8.ofNat n.toNat)))):∀(xs:List Int) (acc:ByteArray),
  (forIn (xs.map (Value.int .u8)) acc f:Sem ByteArray).run P w= .ok ⟨(acc.data.toList++xs.map fun n=>UInt8.ofNat n.toNat).toArray⟩ w
 | [],acc=>by simp
 | x::xs,acc=>by
  rw[List.map_cons,List.forIn_cons,hf]
  simp only[Sem.run_bind,Sem.run_pure,Result.andThen_ok]
  rw[bytes_loop hf xs]
  simp[ByteArray.push]
theorem run_rowU8 {P:Program} {β:Env} {T:Nat→Nat→Prop} {m:Mem} {w0 w:World} (hH:Holds β T m w0 w) {r:Nat} {g:Reg} (hg:m.get r=some g) {xs:List Int} (hx:g.c.asInts=some (.u8,xs)) {b ob:Nat}
  (hβ:β r=some (b,ob)) {off len:Nat} {cap:Nat} (hle:off+len≤xs.length):
  (Conv.bytesToString (.slice (some ⟨b,ob+off,none⟩) len cap)).run P w= .ok (.string (bytesOf ((xs.drop off).take len))) w:=by
 have hc:∀j u,(((xs.drop off).take len).map (Value.int .u8))[j]? =some u→w.cell? ⟨b,ob+off+j,none⟩=some u:=by
  obtain ⟨b',o',arr,t,fz,vs,h1,h2,h3,h4,_⟩:=(hH.reg r g hg).ex
  rw[hβ]at h1
  injection h1 with h1;injection h1 with e1 e2
  subst e1;subst e2
  have hv:=Ct.asInts_den h3 hx
  subst hv
  intro j u hj
  have:(xs.map (Value.int .u8))[off+j]? =some u:=by
   simp only[List.getElem?_map,List.getElem?_take,List.getElem?_drop]at hj ⊢
   split at hj
   ·exact hj
   ·simp at hj
  have:=h4 _ _ this
  simp only[World.cell?,h2]
  rw[show ob+off+j=ob+(off+j) by omega]
  simpa using this
 have hl:=run_loadCells (P:=P) (w:=w) (b:=b) (o:=ob+off) len 0 #[] (((xs.drop off).take len).map (Value.int .u8)) (by simp;omega) (fun j u hj=>by rw[Nat.zero_add];exact hc j u hj)
 unfold Conv.bytesToString
 simp only[loadCells,Sem.run_bind,hl,Result.andThen_ok,Array.empty_append,List.forIn_toArray]
 rw[bytes_loop (fun _ _=>rfl)]
 simp only[Result.andThen_ok,Sem.run_pure]
 congr 2
theorem two_args {β:Env} {ev:Operand→SV} {ρ:Operand→Value} {args:Array Operand} (hev:∀x,Den β (ev x) (ρ x)) {s t:SV} (h:args.toList.map ev= [s,t]):
  ∃u v,(args.map ρ).toList= [u,v]∧Den β s u∧Den β t v:=by
 have hd:=denL_map hev args.toList
 rw[h]at hd
 rw[DenL.cons']at hd
 obtain ⟨u,vs,e1,h1,h2⟩:=hd
 rw[DenL.cons']at h2
 obtain ⟨v,vs',e2,h3,h4⟩:=h2
 rw[DenL.nil]at h4
 subst h4;subst e2
 exact ⟨u,v,by rw[Array.toList_map];exact e1,h1,h3⟩
theorem N.lit_val (n:Nat):(N.lit n).val=n:=rfl
theorem opR_sound {P:Program} {Γ:Cx P} {β:Env} {T:Nat→Nat→Prop} {m:Mem} {w0 w:World} {a:Act} {ev:Operand→SV} {o:Oper} {out:Out} {Q:Exit→Act→World→Prop}
  (hgb:∀g,β (gid g)=some (g,0)) (hH:Holds β T m w0 w) (hev:∀x,Den β (ev x) (a.eval x)) (h:opR Γ m ev o.op=some out) (hp:out.p.ok):
  o.wp P a w (fun a' w'=>∃v,a'=a.put o.dst v∧Den β out.v v∧Fr noT w w') Q:=by
 have fin:∀(v:Value),(execOp a.eval o).run P w= .ok (.value v) w→Den β out.v v→
   o.wp P a w (fun a' w'=>∃v,a'=a.put o.dst v∧Den β out.v v∧Fr noT w w') Q:=fun v hr hd=>wp_val hr ⟨v,rfl,hd,Fr.refl _ _⟩
 have fin2:∀(s:Sem Value),Yields P β w s out.v→(execOp a.eval o)=(do pure (Next.value (←s)):Sem Next)→
   o.wp P a w (fun a' w'=>∃v,a'=a.put o.dst v∧Den β out.v v∧Fr noT w w') Q:=fun s ⟨v,hr,hd⟩ he=>fin v (by rw[he];exact run_v hr) hd
 generalize hop:o.op=op at h
 unfold opR at h
 split at h
 ·simp only[Option.some.injEq]at h;subst h
  exact fin _ (by unfold execOp;rw[hop];rfl) (hev _)
 ·simp only[Option.some.injEq]at h;subst h
  exact fin _ (by unfold execOp;rw[hop];rfl) (hev _)
 · -- pick
  rename_i c x y
  have hc:=hev c
  split at h
  ·rename_i b hb
   rw[hb]at hc
   simp only[Den]at hc
   simp only[Option.some.injEq]at h;subst h
   refine fin (if b then a.eval x else a.eval y) ?_ ?_
   ·unfold execOp;rw[hop];simp[hc,asBool,B.val]
   ·cases b
    ·exact hev y
    ·exact hev x
  ·rename_i b hb
   rw[hb]at hc
   simp only[Den]at hc
   have hx:=hev x
   have hy:=hev y
   split at h
   ·rename_i p q hx' hy'
    rw[hx']at hx
    rw[hy']at hy
    simp only[Den]at hx hy
    simp only[Option.some.injEq]at h;subst h
    refine fin (if b then a.eval x else a.eval y) ?_ ?_
    ·unfold execOp;rw[hop];simp[hc,asBool,B.val]
    ·simp only[Den,B.val]
     cases b
     ·exact hy
     ·exact hx
   ·simp at h
  ·simp at h
 ·rename_i op t x y yt
  exact fin2 _ (binS_sound (hev x) (hev y) h hp) (by unfold execOp;rw[hop])
 ·rename_i op t x
  exact fin2 _ (unS_sound (hev x) h) (by unfold execOp;rw[hop])
 · -- convert
  rename_i s d x
  have hx:=hev x
  split at h
  ·rename_i k0 k k1 a' hs hd hx'
   rw[hx']at hx
   simp only[Den]at hx
   simp only[Option.some.injEq]at h;subst h
   refine fin _ ?_ (by simp only[Den];rfl)
   unfold execOp;rw[hop]
   refine run_v ?_
   unfold convert
   simp only[Sem.run_bind,run_underlying hs,run_underlying hd,Result.andThen_ok,hx,mkA_val]
   rfl
  ·rename_i e r off len cap hs hd hx'
   rw[hx']at hx
   simp only[Den]at hx
   obtain ⟨b,ob,hβ,hv⟩:=hx
   split at h
   ·rename_i g he hg
    split at h
    ·rename_i xs hxs
     simp only[Option.some.injEq]at h;subst h
     refine fin _ ?_ (by simp only[Den];rfl)
     unfold execOp;rw[hop]
     refine run_v ?_
     have hp':off.val+len.val≤xs.length:=hp
     have hl:=run_rowU8 hH hg hxs hβ (P:=P) (cap:=cap.val) hp'
     unfold convert
     rw[hv]
     simp only[Sem.run_bind,run_underlying hs,run_underlying hd,run_underlying he,Result.andThen_ok]
     exact hl
    ·simp at h
   ·simp at h
  ·simp at h
 · -- extract
  rename_i x i
  have hx:=hev x
  split at h
  ·rename_i l hx'
   rw[hx']at hx
   simp only[Den]at hx
   obtain ⟨vs,hl,hv⟩:=hx
   simp only[Option.map_eq_some_iff]at h
   obtain ⟨s,hs,rfl⟩:=h
   obtain ⟨v,hv',hd⟩:=hl.get hs
   refine fin v ?_ hd
   unfold execOp;rw[hop]
   exact run_v (by simp[Instr.extract,hv,hv'])
  ·simp at h
 · -- nilCheck
  rename_i x
  have hx:=hev x
  split at h
  ·rename_i r off hx'
   rw[hx']at hx
   simp only[Option.some.injEq]at h;subst h
   refine fin (a.eval x) ?_ hx
   simp only[Den]at hx
   obtain ⟨b,o',_,hv⟩:=hx
   unfold execOp;rw[hop]
   simp[hv]
  ·simp at h
 · -- sliceToArrayPointer
  rename_i t x
  have hx:=hev x
  split at h
  ·rename_i n e r off len cap ht hx'
   rw[hx']at hx
   simp only[Den]at hx
   obtain ⟨b,ob,hβ,hv⟩:=hx
   simp only[Option.map_eq_some_iff]at h
   obtain ⟨p,h1,rfl⟩:=h
   have h0:=obIf_spec h1 hp
   refine fin (.pointer (some ⟨b,ob+off.val,none⟩)) ?_ ?_
   ·unfold execOp;rw[hop]
    refine run_v ?_
    unfold Instr.arrayAt
    simp only[Sem.run_bind,run_underlying ht,Result.andThen_ok,hv]
    rw[if_neg (by omega)]
    rfl
   ·simp only[Den]
    exact ⟨b,ob,hβ,rfl⟩
  ·simp at h
 · -- fieldAddr
  rename_i s x f
  have hx:=hev x
  split at h
  ·rename_i fs r off hs hx'
   rw[hx']at hx
   simp only[Den]at hx
   obtain ⟨b,o',hb,hv⟩:=hx
   split at h
   ·rename_i fd hfd
    split at h
    ·rename_i n hn
     cases hz:Nat.beq n 0 with
     | true=>rw[hz]at h;simp at h
     | false=>
      rw[hz]at h
      simp only[cond_false,Option.some.injEq]at h;subst h
      have hn0:n≠0:=fun e=>by rw[e]at hz;simp at hz
      refine fin (.pointer (some ⟨b,o'+off.val+fd.offset,none⟩)) ?_ ?_
      ·unfold execOp;rw[hop]
       refine run_v ?_
       unfold Instr.fieldAt fieldPlace
       simp only[Sem.run_bind,run_underlying hs,Result.andThen_ok,hfd,hv,Instr.sureAddr,Sem.run_pure,run_sizeOf hn,Sem.run_ite]
       rw[if_neg hn0,add_off]
       rfl
      ·simp only[Den,N.add_val,N.lit_val]
       exact ⟨b,o',hb,by rw[Nat.add_assoc]⟩
    ·simp at h
   ·simp at h
  ·simp at h
 · -- indexAddr
  rename_i t x i
  have hx:=hev x
  have hi:=hev i
  split at h
  ·rename_i len e r off k a' ht hx' hi'
   rw[hx']at hx
   rw[hi']at hi
   simp only[Den]at hx hi
   obtain ⟨b,o',hb,hv⟩:=hx
   split at h
   ·rename_i n hn
    simp only[Option.map_eq_some_iff]at h
    obtain ⟨p,h1,rfl⟩:=h
    have h0:=obIf_spec h1 hp
    refine fin (.pointer (some ⟨b,o'+off.val+a'.val.toNat*n,none⟩)) ?_ ?_
    ·unfold execOp;rw[hop]
     refine run_v ?_
     unfold Instr.indexAt
     simp only[Sem.run_bind,hi,asIntOf,Sem.run_pure,Result.andThen_ok,run_underlying ht,hv,Instr.sureAddr]
     rw[if_pos h0]
     simp[run_sizeOf hn,add_off]
    ·simp only[Den,N.add_val,mkN_val]
     exact ⟨b,o',hb,by rw[Nat.add_assoc]⟩
   ·simp at h
  ·rename_i e r off len cap k a' ht hx' hi'
   rw[hx']at hx
   rw[hi']at hi
   simp only[Den]at hx hi
   obtain ⟨b,o',hb,hv⟩:=hx
   split at h
   ·rename_i n hn
    simp only[Option.map_eq_some_iff]at h
    obtain ⟨p,h1,rfl⟩:=h
    have h0:=obIf_spec h1 hp
    refine fin (.pointer (some ⟨b,o'+off.val+a'.val.toNat*n,none⟩)) ?_ ?_
    ·unfold execOp;rw[hop]
     refine run_v ?_
     unfold Instr.indexAt
     simp only[Sem.run_bind,hi,asIntOf,Sem.run_pure,Result.andThen_ok,run_underlying ht,hv]
     rw[if_pos h0]
     simp[run_sizeOf hn,add_off]
    ·simp only[Den,N.add_val,mkN_val]
     exact ⟨b,o',hb,by rw[Nat.add_assoc]⟩
   ·simp at h
  ·simp at h
 · -- index
  rename_i t x i
  have hx:=hev x
  have hi:=hev i
  split at h
  ·rename_i len e l k a' ht hx' hi'
   rw[hx']at hx
   rw[hi']at hi
   simp only[Den]at hx hi
   obtain ⟨vs,hl,hv⟩:=hx
   split at h
   ·rename_i n hn
    cases hb:decide (0≤a'∧a'<(len:Int))with
    | false=>rw[hb]at h;simp at h
    | true=>
     rw[hb]at h
     simp only[cond_true,Option.map_eq_some_iff]at h
     obtain ⟨s,h1,rfl⟩:=h
     have hb':0≤a'∧a'<(len:Int):=by simpa using hb
     obtain ⟨v,hr,hd⟩:=partS_sound (w:=w) hl h1
     refine fin v ?_ hd
     unfold execOp;rw[hop]
     refine run_v ?_
     unfold Instr.index
     simp only[Sem.run_bind,hi,asIntOf,Sem.run_pure,Result.andThen_ok,run_underlying ht,hv,A.val]
     rw[if_pos hb']
     simp only[Sem.run_bind,run_sizeOf hn,Result.andThen_ok,hr]
   ·simp at h
  ·rename_i s k a' ht hx' hi'
   rw[hx']at hx
   rw[hi']at hi
   simp only[Den]at hx hi
   simp only[Option.map_eq_some_iff]at h
   obtain ⟨p,h1,rfl⟩:=h
   have h0:=obIf_spec h1 hp
   refine fin (.int .u8 (strAt s a'.val)) ?_ ?_
   ·unfold execOp;rw[hop]
    refine run_v ?_
    unfold Instr.index
    simp only[Sem.run_bind,hi,asIntOf,Sem.run_pure,Result.andThen_ok,run_underlying ht,hx]
    rw[if_pos h0.1]
    have hlt:a'.val.toNat<s.size:=by omega
    have e:s[a'.val.toNat]? =some (s[a'.val.toNat]'hlt):=getElem?_pos s _ hlt
    rw[e]
    simp only[Sem.run_pure]
    congr 2
    unfold strAt
    have e2:s.data[a'.val.toNat]? =some (s[a'.val.toNat]'hlt):=Array.getElem?_eq_getElem hlt
    rw[e2]
    rfl
   ·simp only[Den,mkA_val]
  ·simp at h
 · -- field
  rename_i t x f
  have hx:=hev x
  split at h
  ·rename_i fs l ht hx'
   rw[hx']at hx
   simp only[Den]at hx
   obtain ⟨vs,hl,hv⟩:=hx
   split at h
   ·rename_i fd hfd
    simp only[Option.map_eq_some_iff]at h
    obtain ⟨s,h1,rfl⟩:=h
    obtain ⟨v,hr,hd⟩:=partS_sound (w:=w) hl h1
    refine fin v ?_ hd
    unfold execOp;rw[hop]
    refine run_v ?_
    unfold Instr.field
    simp only[Sem.run_bind,run_underlying ht,Result.andThen_ok,hfd,hv,asAgg,Sem.run_pure,hr]
   ·simp at h
  ·simp at h
 · -- build
  rename_i t parts
  simp only[Option.map_eq_some_iff]at h
  obtain ⟨s,h1,rfl⟩:=h
  obtain ⟨k1,k2⟩:=denL_map2 hev parts.toList
  refine fin2 _ (buildS_sound (parts':=parts.map fun (i,x)=>(i,a.eval x)) (by simp) (by simpa using k2) h1) ?_
  unfold execOp;rw[hop]
 · -- slice
  rename_i t x lo hi mx
  have hx:=hev x
  have ho:∀(q:Option Operand),(∀s,q.map ev=some s→∃v,q.map a.eval=some v∧Den β s v)∧(q.map ev=none→q.map a.eval=none):=by
   intro q
   cases q with
   | none=>simp
   | some q=>simp;exact hev q
  split at h
  ·rename_i e r off len cap ht hx'
   rw[hx']at hx
   simp only[Den]at hx
   obtain ⟨b,o',hb,hv⟩:=hx
   split at h
   ·rename_i n p l hh c hn hbd
    simp only[Option.some.injEq]at h;subst h
    have hr:=boundsS_sound (b:=true) (w:=w) (P:=P) (ho lo).1 (ho lo).2 (ho hi).1 (ho hi).2 (ho mx).1 (ho mx).2 hbd hp
    refine fin (.slice (some (if c.val=l.val then ⟨b,o'+off.val,none⟩else Addr.add ⟨b,o'+off.val,none⟩ (l.val*n))) (hh.val-l.val) (c.val-l.val)) ?_ ?_
    ·unfold execOp;rw[hop]
     refine run_v ?_
     unfold Instr.sliceAt
     simp only[Sem.run_bind,run_underlying ht,Result.andThen_ok,hv]
     unfold Instr.slice
     simp only[Sem.run_bind,run_underlying ht,Result.andThen_ok,hr,run_sizeOf hn,Sem.run_pure]
     congr 2
     split<;>simp
    ·simp only[Den,N.sub_val,slid_val]
     refine ⟨b,o',hb,?_⟩
     rw[add_off]
     split<;>simp[Nat.add_assoc]
   ·simp at h
  ·rename_i len e r off ht hx'
   rw[hx']at hx
   simp only[Den]at hx
   obtain ⟨b,o',hb,hv⟩:=hx
   split at h
   ·rename_i n p l hh c hn hbd
    simp only[Option.some.injEq]at h;subst h
    have hr:=boundsS_sound (b:=false) (w:=w) (P:=P) (ho lo).1 (ho lo).2 (ho hi).1 (ho hi).2 (ho mx).1 (ho mx).2 hbd hp
    refine fin (.slice (some (if c.val=l.val then ⟨b,o'+off.val,none⟩else Addr.add ⟨b,o'+off.val,none⟩ (l.val*n))) (hh.val-l.val) (c.val-l.val)) ?_ ?_
    ·unfold execOp;rw[hop]
     refine run_v ?_
     unfold Instr.sliceAt
     simp only[N.lit_val]at hr
     simp only[Sem.run_bind,run_underlying ht,Result.andThen_ok,hv,Instr.sureAddr,Sem.run_pure,hr,run_sizeOf hn]
    ·simp only[Den,N.sub_val,slid_val]
     refine ⟨b,o',hb,?_⟩
     rw[add_off]
     split<;>simp[Nat.add_assoc]
   ·simp at h
  ·simp at h
 · -- makeInterface
  rename_i t x
  split at h
  ·rename_i e ht
   simp only[Option.some.injEq]at h;subst h
   refine fin (.iface t (a.eval x)) ?_ (by simp only[Den];exact ⟨_,hev x,rfl⟩)
   unfold execOp;rw[hop]
   refine run_v ?_
   unfold Instr.makeInterface
   simp only[Sem.run_bind,run_underlying ht,Result.andThen_ok]
   rfl
  ·simp at h
 · -- load
  rename_i t x
  have hx:=hev x
  split at h
  ·rename_i r off n hx' ha hs
   rw[hx']at hx
   simp only[Den]at hx
   obtain ⟨b,o',hb,hv⟩:=hx
   split at h
   ·rename_i g hg
    simp only[Option.map_eq_some_iff]at h
    obtain ⟨⟨p,l⟩,h1,rfl⟩:=h
    obtain ⟨b',o2,us,k1,k2,k3,k4⟩:=(hH.reg r g hg).cell h1 hp
    rw[hb]at k1
    injection k1 with k1;injection k1 with e1 e2
    subst e1;subst e2
    refine fin (.agg us.toArray) ?_ (by simp only[Den];exact ⟨us,k2,rfl⟩)
    unfold execOp;rw[hop]
    refine run_v ?_
    unfold Instr.loadAt
    simp only[Sem.run_bind,hv,Instr.sureAddr,Sem.run_pure,Result.andThen_ok]
    exact run_loadVar_agg ha hs k3 k4
   ·simp at h
  ·rename_i r off hx' ha
   rw[hx']at hx
   simp only[Den]at hx
   obtain ⟨b,o',hb,hv⟩:=hx
   split at h
   ·rename_i g hg
    split at h
    ·rename_i p s h1
     simp only[Option.some.injEq]at h;subst h
     obtain ⟨b',o2,us,k1,k2,k3,k4⟩:=(hH.reg r g hg).cell h1 hp
     rw[hb]at k1
     injection k1 with k1;injection k1 with e1 e2
     subst e1;subst e2
     rw[DenL.cons']at k2
     obtain ⟨v,vs',rfl,hd,_⟩:=k2
     refine fin v ?_ hd
     unfold execOp;rw[hop]
     refine run_v ?_
     unfold Instr.loadAt
     simp only[Sem.run_bind,hv,Instr.sureAddr,Sem.run_pure,Result.andThen_ok]
     exact run_loadVar_one ha (k4 0 v rfl)
    ·simp at h
   ·simp at h
  ·simp at h
 · -- call
  rename_i c
  split at h
  · -- len
   rename_i hc
   have lenrun:∀(t:TypeId) (x:Operand) (d:TypeDesc) (n:Int),c.argTypes[0]? =some t→c.args[0]? =some x→P.underlying t=some d→
     (∀w',(match d,a.eval x with
      | .string,.string s=>pure (goInt s.size)
      | .array n _,_=>pure (goInt n)
      | .slice _,.slice _ n _=>pure (goInt n)
      | _,_=>stuck "" :Sem Value).run P w'= .ok (.int .i64 n) w')→
     (execOp a.eval o).run P w= .ok (.value (.int .i64 n)) w:=by
    intro t x d n h1 h2 h3 h4
    have h4:=h4 w
    unfold execOp;rw[hop]
    simp only[Sem.run_bind,resolve,hc,Sem.run_pure,Result.andThen_ok,invoke,builtin]
    suffices hs:(Builtin.len_ c.argTypes o.type (Array.map a.eval c.args)).run P w= .ok (.int .i64 n) w by rw[hs];rfl
    unfold Builtin.len_
    have e2:(c.args.map a.eval)[0]? =some (a.eval x):=by simp[h2]
    simp only[h1,e2,Sem.run_bind,run_underlying h3,Result.andThen_ok]
    generalize a.eval x=u at *
    cases d<;>cases u<;>first | exact h4 | (simp at h4;done)
   split at h
   ·rename_i e r off len cap ht hx'
    simp only[Option.some.injEq]at h;subst h
    cases h1:c.argTypes[0]? with
    | none=>rw[h1]at ht;simp at ht
    | some t=>
     cases h2:c.args[0]? with
     | none=>rw[h2]at hx';simp at hx'
     | some x=>
      rw[h1]at ht;rw[h2]at hx'
      simp only[Option.bind_some,Option.map_some,Option.some.injEq]at ht hx'
      have hx:=hev x
      rw[hx']at hx
      simp only[Den]at hx
      obtain ⟨b,o',hb,hv⟩:=hx
      exact fin _ (lenrun t x _ (len.val:Int) h1 h2 ht (by intro w';rw[hv];rfl)) (by simp only[Den,mkA_val])
   ·rename_i e n cap ht hx'
    simp only[Option.some.injEq]at h;subst h
    cases h1:c.argTypes[0]? with
    | none=>rw[h1]at ht;simp at ht
    | some t=>
     cases h2:c.args[0]? with
     | none=>rw[h2]at hx';simp at hx'
     | some x=>
      rw[h1]at ht;rw[h2]at hx'
      simp only[Option.bind_some,Option.map_some,Option.some.injEq]at ht hx'
      have hx:=hev x
      rw[hx']at hx
      simp only[Den]at hx
      exact fin _ (lenrun t x _ _ h1 h2 ht (by intro w';rw[hx];rfl)) (by simp only[Den,A.val])
   ·rename_i n e x' ht hx'
    simp only[Option.some.injEq]at h;subst h
    cases h1:c.argTypes[0]? with
    | none=>rw[h1]at ht;simp at ht
    | some t=>
     cases h2:c.args[0]? with
     | none=>rw[h2]at hx';simp at hx'
     | some x=>
      rw[h1]at ht;rw[h2]at hx'
      simp only[Option.bind_some,Option.map_some,Option.some.injEq]at ht hx'
      exact fin _ (lenrun t x _ _ h1 h2 ht (by intro w';rfl)) (by simp only[Den,A.val])
   ·simp at h
  · -- min
   rename_i hc
   split at h
   ·rename_i k x k' y hxy
    cases hk:decide (k=k')with
    | false=>rw[hk]at h;simp at h
    | true=>
     rw[hk]at h
     simp only[cond_true,Option.some.injEq]at h;subst h
     have hk':k=k':=by simpa using hk
     subst hk'
     obtain ⟨u,v,e1,e2,e3⟩:=two_args (β:=β) hev hxy
     simp only[Den]at e2 e3
     subst e2;subst e3
     refine fin _ ?_ (by simp only[Den,mkA_val];rfl)
     unfold execOp;rw[hop]
     simp only[Sem.run_bind,resolve,hc,Sem.run_pure,Result.andThen_ok,invoke,builtin]
     suffices hs:(Builtin.min_ c.argTypes o.type (c.args.map a.eval)).run P w= .ok (.int k (if y.val<x.val then y.val else x.val)) w by rw[hs];rfl
     unfold Builtin.min_
     rw[e1]
     rfl
   ·simp at h
  · -- max
   rename_i hc
   split at h
   ·rename_i k x k' y hxy
    cases hk:decide (k=k')with
    | false=>rw[hk]at h;simp at h
    | true=>
     rw[hk]at h
     simp only[cond_true,Option.some.injEq]at h;subst h
     have hk':k=k':=by simpa using hk
     subst hk'
     obtain ⟨u,v,e1,e2,e3⟩:=two_args (β:=β) hev hxy
     simp only[Den]at e2 e3
     subst e2;subst e3
     refine fin _ ?_ (by simp only[Den,mkA_val];rfl)
     unfold execOp;rw[hop]
     simp only[Sem.run_bind,resolve,hc,Sem.run_pure,Result.andThen_ok,invoke,builtin]
     suffices hs:(Builtin.max_ c.argTypes o.type (c.args.map a.eval)).run P w= .ok (.int k (if y.val>x.val then y.val else x.val)) w by rw[hs];rfl
     unfold Builtin.max_
     rw[e1]
     rfl
   ·simp at h
  ·rename_i f hc
   split at h
   ·rename_i q hq
    simp only[Option.map_eq_some_iff]at h
    obtain ⟨⟨p,s⟩,h1,rfl⟩:=h
    have hf:=findRd_f hq
    have hs:=q.sound β T m w0 w _ _ p s hgb hH (denL_map hev c.args.toList) h1 hp
    rw[hf]at hs
    have ea:(List.map a.eval c.args.toList).toArray=c.args.map a.eval:=by rw[←Array.toList_map,Array.toArray_toList]
    rw[ea]at hs
    refine wp_call hop hc hs ?_
    rintro e w' ⟨v,rfl,hd,hfr⟩
    exact ⟨v,rfl,v,rfl,hd,hfr⟩
   ·simp at h
  ·simp at h
 ·simp at h
theorem ext_upd {β:Env} {n:Nat} {x:Nat×Nat}:Ext β (upd β (rid n 0) x) n:=fun r hr=>by
 unfold upd
 rw[if_neg (hr 0 (by omega))]
theorem Ext.le {β β':Env} {n:Nat} (h:Ext β β' n) (hf:∀j,j<4→β (rid n j)=none):EnvLe β β':=fun r x hx=>by
 rw[h r (fun j hj e=>by rw[e,hf j hj]at hx;cases hx)];exact hx
theorem Tr.get_set_ne {α:Type} {t:Tr α} {n i:Nat} {a:α} (hn:Nat.blt n 4194304=true) (h:i≠n):(t.set n a).get i=t.get i:=by
 unfold Tr.set
 rw[hn]
 simp only[cond_true]
 have:=blt_iff.1 hn
 rw[Tr.get_put _ _ _ _ _ (by omega),if_neg h]
theorem memLe_put {m0 m:Mem} (h:MemLe m0 m) {r:Nat} {g:Reg} (hr:Nat.blt r 4194304=true) (hn:m0.get r=none):MemLe m0 (put m r g):=fun r' g' hg'=>by
 unfold put
 rw[Tr.get_set_ne hr (fun e=>by rw[e,hn]at hg';cases hg')]
 exact h r' g' hg'
theorem fresh_none {β:Env} {T:Nat→Nat→Prop} {m m0:Mem} {w0 w:World} (hH:Holds β T m w0 w) (hm:MemLe m0 m) {r:Nat} (hr:β r=none):m0.get r=none:=by
 cases h:m0.get r with
 | none=>rfl
 | some g=>
  obtain ⟨b,o,_,_,_,_,h1,_⟩:=(hH.reg r g (hm r g h)).ex
  rw[hr]at h1;cases h1
theorem layS_den {β:Env} {s:SV} {l:List SV} {v:Value} (hd:Den β s v) (h:layS s=some l):DenL β l v.cells.toList:=by
 unfold layS at h
 cases hp:partOk s with
 | false=>rw[hp]at h;simp at h
 | true=>
  rw[hp]at h
  simp only[cond_true,Option.some.injEq]at h
  subst h
  exact cells_of hd hp
theorem run_u {P:Program} {s:Sem Unit} {w w':World} (h:s.run P w= .ok () w'):(do s;pure Next.skip:Sem Next).run P w= .ok .skip w':=by
 simp only[Sem.run_bind,h,Result.andThen_ok,Sem.run_pure]
theorem wp_skipped {P:Program} {a:Act} {o:Oper} {w w':World} {N:Act→World→Prop} {Q:Exit→Act→World→Prop} (h:(execOp a.eval o).run P w= .ok .skip w') (hN:N (a.put o.dst undef) w'):o.wp P a w N Q:=by
 unfold Oper.wp;rw[h];exact hN
theorem zeroInts_spec {z:Value} {k:IntKind} (h:zeroInts z=some k):z.cells.toList=List.replicate z.cells.size (.int k 0):=by
 unfold zeroInts at h
 split at h
 ·rename_i k' hk
  split at h
  ·rename_i xs hx
   cases hd:decide (xs=List.replicate xs.length 0)with
   | false=>rw[hd]at h;simp at h
   | true=>
    rw[hd]at h
    simp only[cond_true,Option.some.injEq]at h
    subst h
    have h1:=DenL.ints _ (cellsOfV_den (fun _=>none) z) hx
    have h2:xs=List.replicate xs.length 0:=by simpa using hd
    have h3:z.cells.size=xs.length:=by rw[←Array.length_toList,h1];simp
    rw[h1,h2,h3]
    simp
  ·simp at h
 ·simp at h
theorem run_storeVar {P:Program} {w w':World} {t:TypeId} {n:Nat} {a:Addr} {v:Value} (hs:sizeS P t=some n) (hl:v.cells.size=n) (h:(storeCells a v.cells.toList).run P w= .ok () w'):
  (storeVar t a v).run P w= .ok () w':=by
 unfold storeVar
 simp only[Sem.run_bind,run_sizeOf hs,Result.andThen_ok]
 rw[if_neg (by simp[hl])]
 exact h
def After (_P:Program) (β:Env) (T:Nat→Nat→Prop) (m0:Mem) (n:Nat) (w0:World) (a:Act) (o:Oper) (K:SV→Mem→Prop):Act→World→Prop:=
 fun a' w'=>∃β' v sv m',Ext β β' n∧a'=a.put o.dst v∧Den β' sv v∧Holds β' T m' w0 w'∧MemLe m0 m'∧K sv m'
theorem ext_refl (β:Env) (n:Nat):Ext β β n:=fun _ _=>rfl
theorem wrap_i64 {x:Int} (h1: -9223372036854775808≤x) (h2:x<9223372036854775808):IntKind.i64.wrap x=x:=by
 show (if (true && decide (x%18446744073709551616≥9223372036854775808))=true then x%18446744073709551616-18446744073709551616 else x%18446744073709551616)=x
 simp only[Bool.true_and,decide_eq_true_eq]
 split<;>omega
section
variable {P:Program} {Γ:Cx P} {β:Env} {T:Nat→Nat→Prop} {m m0:Mem} {w0 w:World} {a:Act} {ev:Operand→SV} {o:Oper} {n:Nat} {K:SV→Mem→Prop} {Q:Exit→Act→World→Prop}
theorem after_new (hH:Holds β T m w0 w) (hm:MemLe m0 m) (hf:∀j,j<4→β (rid n j)=none) (hb:Nat.blt (rid n 3) 4194304=true) {c:Ct} {vs:List Value} {e:TypeId}
  (hc:c.den β vs) {sv:SV} {v:Value} (hsv:Den (upd β (rid n 0) (w.heap.size,0)) sv v) (hK:K sv (put m (rid n 0) ⟨false,c⟩)):
  After P β T m0 n w0 a o K (a.put o.dst v) { w with heap:=w.heap.push (.cells vs.toArray e) }:=
 ⟨_,v,sv,_,ext_upd,rfl,hsv,hH.new (hf 0 (by omega)) hc,memLe_put hm (blt_iff.2 (by have:=blt_iff.1 hb;unfold rid at *;omega)) (fresh_none hH hm (hf 0 (by omega))),hK⟩
theorem W_alloc (hH:Holds β T m w0 w) (hm:MemLe m0 m) (hf:∀j,j<4→β (rid n j)=none) (hb:Nat.blt (rid n 3) 4194304=true) {e:TypeId} (ho:o.op= .alloc e)
  (h:opW Γ m0 n m ev o.op K):o.wp P a w (After P β T m0 n w0 a o K) Q:=by
 rw[ho]at h
 unfold opW at h
 simp only at h
 split at h
 ·rename_i z hz
  refine wp_val (v:= .pointer (some ⟨w.heap.size,0,none⟩)) (w':= { w with heap:=w.heap.push (.cells z.cells e) }) ?_ ?_
  ·unfold execOp;rw[ho]
   refine run_v ?_
   unfold Instr.alloc
   simp only[Sem.run_bind,run_zeroValue hz,Result.andThen_ok]
   rfl
  ·have:=after_new (P:=P) (a:=a) (o:=o) (K:=K) (e:=e) hH hm hf hb (c:= .cells (cellsOfV z)) (vs:=z.cells.toList) (cellsOfV_den β z) (v:= .pointer (some ⟨w.heap.size,0,none⟩))
    (by simp only[Den];exact ⟨w.heap.size,0,by simp[upd],by simp[N.val]⟩) h
   simpa using this
 ·exact h.elim
theorem W_box (hH:Holds β T m w0 w) (hm:MemLe m0 m) (hf:∀j,j<4→β (rid n j)=none) (hb:Nat.blt (rid n 3) 4194304=true) (hev:∀x,Den β (ev x) (a.eval x)) {e:TypeId} {x:Operand} (ho:o.op= .box e x)
  (h:opW Γ m0 n m ev o.op K):o.wp P a w (After P β T m0 n w0 a o K) Q:=by
 rw[ho]at h
 unfold opW at h
 simp only at h
 split at h
 ·rename_i l hl
  have hd:=layS_den (hev x) hl
  refine wp_val (v:= .pointer (some ⟨w.heap.size,0,none⟩)) (w':= { w with heap:=w.heap.push (.cells (a.eval x).cells e) }) ?_ ?_
  ·unfold execOp;rw[ho]
   exact run_v rfl
  ·have:=after_new (P:=P) (a:=a) (o:=o) (K:=K) (e:=e) hH hm hf hb (c:= .cells l) (vs:=(a.eval x).cells.toList) hd (v:= .pointer (some ⟨w.heap.size,0,none⟩))
    (by simp only[Den];exact ⟨w.heap.size,0,by simp[upd],by simp[N.val]⟩) h
   simpa using this
 ·exact h.elim
theorem Ob.then_split {p:Ob} {K:Prop} (h:p.then K):p.ok∧K:=by
 cases p with
 | none=>exact ⟨trivial,h⟩
 | some p=>exact h
theorem W_store (hH:Holds β T m w0 w) (hm:MemLe m0 m) (hev:∀x,Den β (ev x) (a.eval x)) {t:TypeId} {x v:Operand} (ho:o.op= .store t x v)
  (h:opW Γ m0 n m ev o.op K):o.wp P a w (After P β T m0 n w0 a o K) Q:=by
 rw[ho]at h
 unfold opW at h
 simp only at h
 split at h
 ·rename_i r off l s hx hl hs
  have hx':=hev x
  rw[hx]at hx'
  simp only[Den]at hx'
  obtain ⟨b,o',hβ,hv⟩:=hx'
  have hd:=layS_den (hev v) hl
  generalize hb:(Nat.beq l.length s && Nat.blt r 4194304)=bb at h
  cases bb with
  | false=>exact h.elim
  | true=>
   simp only[cond_true]at h
   simp only[Bool.and_eq_true]at hb
   split at h
   ·rename_i g hg hg0
    cases hro:g.ro with
    | true=>rw[hro]at h;exact h.elim
    | false=>
     rw[hro]at h
     simp only[cond_false]at h
     split at h
     ·rename_i p c hw
      obtain ⟨hp,hK⟩:=Ob.then_split h
      obtain ⟨h1,h2⟩:=hH.store (P:=P) hg hro hd hw hp hβ
      refine wp_skipped (w':=setCells w b (o'+off.val) (a.eval v).cells.toList) ?_ ⟨β,undef,.val undef,_,ext_refl _ _,rfl,by simp[Den],h2,memLe_put hm hb.2 hg0,hK⟩
      unfold execOp;rw[ho]
      refine run_u ?_
      unfold Instr.storeAt
      simp only[Sem.run_bind,hv,Instr.sureAddr,Sem.run_pure,Result.andThen_ok]
      have e1:=Nat.eq_of_beq_eq_true hb.1
      exact run_storeVar hs (by rw[←Array.length_toList,←DenL.length hd];exact e1) h1
     ·exact h.elim
   ·exact h.elim
 ·exact h.elim
end
theorem range_mod {α:Type} [Inhabited α] (z:Array α) (hz:1≤z.size):∀len,(List.range (len*z.size)).map (fun i=>z[i%z.size]!)=(List.replicate len z.toList).flatten
 | 0=>by simp
 | len+1=>by
  rw[List.replicate_succ,List.flatten_cons,Nat.succ_mul,Nat.add_comm (len*z.size) z.size,List.range_add,List.map_append,List.map_map,←range_mod z hz len]
  congr 1
  ·apply List.ext_getElem?
   intro i
   simp only[List.getElem?_map,Array.getElem?_toList]
   by_cases h:i<z.size
   ·rw[List.getElem?_range h]
    simp[Nat.mod_eq_of_lt h,h]
   ·rw[List.getElem?_eq_none (by simp;omega),Array.getElem?_eq_none (by omega)]
    rfl
  ·apply List.map_congr_left
   intro i _
   simp
theorem DenL.flat {β:Env} {l:List SV} {vs:List Value} (h:DenL β l vs):∀n,DenL β (List.replicate n l).flatten (List.replicate n vs).flatten
 | 0=>by simp[DenL]
 | n+1=>by rw[List.replicate_succ,List.replicate_succ,List.flatten_cons,List.flatten_cons];exact h.append (DenL.flat h n)
section
variable {P:Program} {Γ:Cx P} {β:Env} {T:Nat→Nat→Prop} {m m0:Mem} {w0 w:World} {a:Act} {ev:Operand→SV} {o:Oper} {n:Nat} {K:SV→Mem→Prop} {Q:Exit→Act→World→Prop}
theorem W_buildSlice (hH:Holds β T m w0 w) (hm:MemLe m0 m) (hf:∀j,j<4→β (rid n j)=none) (hb:Nat.blt (rid n 3) 4194304=true) (hev:∀x,Den β (ev x) (a.eval x)) {t:TypeId} {len:Nat} {parts:Array (Nat×Operand)}
  (ho:o.op= .buildSlice t len parts) (h:opW Γ m0 n m ev o.op K):o.wp P a w (After P β T m0 n w0 a o K) Q:=by
 rw[ho]at h
 unfold opW at h
 simp only at h
 split at h
 ·rename_i e ht
  split at h
  ·rename_i z s hz hs
   generalize hbb:(Nat.ble (len*s) 4096 && Nat.ble 1 (len*s) && Nat.beq (cellsOfV z).length s)=bb at h
   cases bb with
   | true=>
    simp only[cond_true]at h
    simp only[Bool.and_eq_true]at hbb
    obtain ⟨⟨hb1,hb2⟩,hb3⟩:=hbb
    have h1:len*s≤4096:=by simpa using hb1
    have h2:1≤len*s:=by simpa using hb2
    have h3:z.cells.size=s:=by have:=Nat.eq_of_beq_eq_true hb3;simpa [cellsOfV]using this
    have hs1:1≤s:=by
     rcases Nat.eq_zero_or_pos s with e0 | e0
     ·rw[e0]at h2;simp at h2
     ·exact e0
    split at h
    ·rename_i l hl
     obtain ⟨k1,k2⟩:=denL_map2 hev parts.toList
     obtain ⟨vs',hfill,hd⟩:=fillS_sound _ (parts.toList.map fun x=>(x.1,a.eval x.2)) _ _ _ k1 k2 ((cellsOfV_den β z).flat len) hl
     refine wp_val (v:= .slice (some ⟨w.heap.size,0,none⟩) len len) (w':= { w with heap:=w.heap.push (.cells vs'.toArray e) }) ?_ ?_
     ·unfold execOp;rw[ho]
      refine run_v ?_
      unfold Instr.buildSlice
      simp only[Sem.run_bind,run_underlying ht,Result.andThen_ok,run_sizeOf hs,Sem.run_ite]
      rw[if_neg (by omega)]
      rw[if_neg (by omega)]
      simp only[run_zeroValue hz,Result.andThen_ok,Sem.run_pure]
      have hz0:((Array.range (len*s)).map fun x=>z.cells[x%z.cells.size]!)=((List.replicate len z.cells.toList).flatten).toArray:=by
       rw[←h3,←range_mod z.cells (by omega) len]
       apply Array.ext'
       simp
      rw[hz0]
      have hp:(parts.map fun x=>match x with | (i,x)=>(i,a.eval x)).toList=parts.toList.map fun x=>(x.1,a.eval x.2):=by simp
      rw[hp,hfill]
      rfl
     ·exact after_new hH hm hf hb (c:= .cells l) hd (by simp only[Den];exact ⟨w.heap.size,0,by simp[upd],by simp[N.val]⟩) h
    ·exact h.elim
   | false=>
    simp only[cond_false]at h
    split at h
    ·rename_i k hl hk
     refine wp_val (v:= .slice (some ⟨w.heap.size,0,none⟩) 0 0) (w':= { w with heap:=w.heap.push (.cells ([]:List Value).toArray e) }) ?_ ?_
     ·unfold execOp;rw[ho]
      refine run_v ?_
      unfold Instr.buildSlice
      simp only[Sem.run_bind,run_underlying ht,Result.andThen_ok,run_sizeOf hs]
      have hp:parts= #[]:=by
       apply Array.ext'
       exact hl
      subst hp
      have e0:Array.range 0= #[]:=by simp[Array.range]
      simp only[Nat.zero_mul,e0]
      simp[Instr.fill,newRow]
     ·exact after_new hH hm hf hb (c:= .ints k []) (by simp[Ct.den]) (by simp only[Den];exact ⟨w.heap.size,0,by simp[upd],by simp[N.val]⟩) h
    ·exact h.elim
  ·exact h.elim
 ·exact h.elim
theorem sameArg_eq {x y:Operand} (h:sameArg x y=true):x=y:=by
 unfold sameArg at h
 split at h
 ·rw[Nat.eq_of_beq_eq_true h]
 ·simp only[Bool.and_eq_true,decide_eq_true_eq]at h
  rw[h.1,h.2]
 ·cases h
theorem W_makeSlice (hH:Holds β T m w0 w) (hm:MemLe m0 m) (hf:∀j,j<4→β (rid n j)=none) (hb:Nat.blt (rid n 3) 4194304=true) (hev:∀x,Den β (ev x) (a.eval x)) {t:TypeId} {x y:Operand}
  (ho:o.op= .makeSlice t x y) (h:opW Γ m0 n m ev o.op K):o.wp P a w (After P β T m0 n w0 a o K) Q:=by
 rw[ho]at h
 unfold opW at h
 simp only at h
 cases hpq:sameArg x y with
 | false=>rw[hpq]at h;exact h.elim
 | true=>
  have:=sameArg_eq hpq
  subst this
  rw[hpq]at h
  simp only[cond_true]at h
  have hx:=hev x
  split at h
  ·rename_i e k0 l ht hl
   rw[hl]at hx
   simp only[Den]at hx
   split at h
   ·rename_i z s by_ hz hs hby
    split at h
    ·rename_i k hk
     cases hzs:Nat.beq (cellsOfV z).length s with
     | false=>rw[hzs]at h;exact h.elim
     | true=>
      rw[hzs]at h
      simp only[cond_true]at h
      obtain ⟨⟨h1,h2,h3⟩,hK⟩:=h
      have h4:z.cells.size=s:=by have:=Nat.eq_of_beq_eq_true hzs;simpa [cellsOfV]using this
      have hzc:=zeroInts_spec hk
      obtain ⟨i,hi,hib⟩:∃i,P.info? e=some i∧i.bytes=by_:=by
       cases hi:P.info? e with
       | none=>rw[hi]at hby;simp at hby
       | some i=>rw[hi]at hby;simp at hby;exact ⟨i,rfl,hby⟩
      have hw:IntKind.i64.wrap l.val=l.val:=wrap_i64 (by omega) (by omega)
      refine wp_val (v:= .slice (some ⟨w.heap.size,0,none⟩) l.val.toNat l.val.toNat) (w':= { w with heap:=w.heap.push (.cells ((List.replicate (l.val.toNat*s) (.int k 0))).toArray e) }) ?_ ?_
      ·unfold execOp;rw[ho]
       refine run_v ?_
       unfold Instr.makeSlice
       have hx':asInt (a.eval x)=(pure l.val:Sem Int):=by rw[hx];rfl
       simp only[Sem.run_bind,run_underlying ht,Result.andThen_ok,hx',Sem.run_pure,run_typeInfo hi,hib,hw,Sem.run_ite]
       have hmul:(by_:Int)*l.val≤2 ^ 48:=by rw[Int.mul_comm];omega
       rw[if_neg (by simp;refine ⟨⟨by omega,by omega⟩,by omega⟩)]
       simp only[run_askRoom,Result.andThen_ok,run_sizeOf hs]
       have hrep:∀zc:Array Value,(1≤l.val.toNat*s→zc=z.cells)→((Array.range (l.val.toNat*s)).map fun x=>zc[x%zc.size]!)=(List.replicate (l.val.toNat*s) (Value.int k 0)).toArray:=by
        intro zc hzc'
        apply Array.ext'
        simp only[Array.toList_map,Array.toList_range]
        apply List.ext_getElem?
        intro j
        simp only[List.getElem?_map]
        by_cases hj:j<l.val.toNat*s
        ·rw[List.getElem?_range hj,List.getElem?_replicate,if_pos hj,hzc' (by omega)]
         have hsp:0<s:=by
          rcases Nat.eq_zero_or_pos s with e0 | e0
          ·rw[e0]at hj;simp at hj
          ·exact e0
         have hlt:j%z.cells.size<z.cells.size:=Nat.mod_lt _ (by omega)
         have:z.cells.toList[j%z.cells.size]? =some (.int k 0):=by rw[hzc,List.getElem?_replicate,if_pos hlt]
         simp only[Option.map_some,Option.some.injEq]
         rw[Array.getElem?_toList]at this
         simp[getElem!_def,this]
        ·rw[List.getElem?_eq_none (by simp;omega),List.getElem?_eq_none (by simp;omega)];rfl
       by_cases hn0:l.val.toNat*s=0
       ·rw[if_pos hn0]
        rw[hrep _ (by omega)]
        rfl
       ·rw[if_neg hn0]
        simp only[run_zeroValue hz,Result.andThen_ok]
        rw[hrep _ (fun _=>rfl)]
        rfl
      ·exact after_new hH hm hf hb (c:= .ints k _) (by simp[Ct.den]) (by simp only[Den,mkN_val];exact ⟨w.heap.size,0,by simp[upd],by simp[N.val]⟩) hK
    ·exact h.elim
   ·exact h.elim
  ·exact h.elim
theorem W_ef (hgb:∀g,β (gid g)=some (g,0)) (hH:Holds β T m w0 w) (hm:MemLe m0 m) (hb:Nat.blt (rid n 3) 4194304=true) (hf:∀j,j<4→β (rid n j)=none) (hev:∀x,Den β (ev x) (a.eval x)) {c:Call} {f:FuncId}
  (ho:o.op= .call c) (hc:c.callee= .value (.func f)) (h:opW Γ m0 n m ev o.op K):o.wp P a w (After P β T m0 n w0 a o K) Q:=by
 rw[ho]at h
 unfold opW at h
 simp only[hc]at h
 split at h
 ·rename_i q hq
  have h':q.run n m (List.map ev c.args.toList) fun v m'=>MemLe m0 m'∧K v m':=by
   cases hn:noMem m0 with
   | true=>
    rw[hn]at h
    simp only[Bool.true_or,cond_true]at h
    have e0:m0= .leaf:=by cases m0 with
     | leaf=>rfl
     | node l v r=>cases hn
    rw[e0]
    exact q.mono _ _ _ _ _ (fun v m' hk=>⟨memLe_leaf _,hk⟩) h
   | false=>
    rw[hn]at h
    cases hq2:q.nw with
    | false=>rw[hq2]at h;exact h.elim
    | true=>
     rw[hq2]at h
     simp only[Bool.or_true,cond_true]at h
     refine q.mono _ _ _ _ _ (fun v m' hk=>⟨?_,hk.2⟩) (q.keeps hq2 _ _ _ _ h)
     rcases hk.1 with rfl | ⟨g,rfl⟩
     ·exact hm
     ·refine memLe_put hm (r:=rid n 0) ?_ (fresh_none hH hm (hf 0 (by omega)))
      rw[blt_iff]at hb ⊢
      unfold rid at *
      omega
  have hs:=q.sound β T m w0 w _ _ n _ hgb hH (denL_map hev c.args.toList) hf h'
  have ea:(List.map a.eval c.args.toList).toArray=c.args.map a.eval:=by rw[←Array.toList_map,Array.toArray_toList]
  rw[ea,findEf_f hq]at hs
  refine wp_call ho hc hs ?_
  rintro e w' ⟨β',v,sv,m',rfl,h1,h2,h3,h5,h4⟩
  exact ⟨v,rfl,β',v,sv,m',h1,rfl,h2,h3,h5,h4⟩
 ·exact h.elim
end
theorem slOf_some {m:Mem} {v:SV} {d:Sl} (h:slOf m v=some (some d)):
  ∃r g,v= .slice r d.o d.len d.cap∧d.r=some r∧m.get r=some g∧g.c.asInts=some (d.k,d.xs):=by
 unfold slOf at h
 split at h
 ·simp at h
 ·rename_i r o len cap
  split at h
  ·rename_i g hg
   simp only[Option.map_eq_some_iff,Option.some.injEq,Prod.exists]at h
   obtain ⟨k,xs,h1,rfl⟩:=h
   exact ⟨r,g,rfl,rfl,hg,h1⟩
  ·simp at h
 ·simp at h
theorem slOf_none {m:Mem} {v:SV} (h:slOf m v=some none):v= .val (.slice none 0 0):=by
 unfold slOf at h
 split at h
 ·rfl
 ·split at h
  ·simp only[Option.map_eq_some_iff,Prod.exists]at h
   obtain ⟨k,xs,_,h2⟩:=h
   cases h2
  ·simp at h
 ·simp at h
theorem slR_some {m:Mem} {v:SV} {d:Sl} (h:slR m v=some (some d)):
  ∃r o g,v= .slice r o d.len d.cap∧m.get r=some g∧g.c.row o=some (d.k,d.xs,d.o):=by
 unfold slR at h
 split at h
 ·simp at h
 ·rename_i r o len cap
  split at h
  ·rename_i g hg
   split at h
   ·rename_i l hl
    simp only[Option.map_eq_some_iff,Option.some.injEq,Prod.exists]at h
    obtain ⟨k,xs,o',h1,rfl⟩:=h
    exact ⟨r,o,g,rfl,hg,by rw[hl];exact h1⟩
   ·rename_i c hc
    simp only[Option.map_eq_some_iff,Option.some.injEq,Prod.exists]at h
    obtain ⟨k,xs,h1,rfl⟩:=h
    refine ⟨r,o,g,rfl,hg,?_⟩
    cases hgc:g.c with
    | segs l=>exact absurd hgc (hc l)
    | cells l=>rw[hgc]at h1;simp[Ct.row,h1]
    | ints k xs=>rw[hgc]at h1;simp[Ct.row,h1]
  ·simp at h
 ·simp at h
theorem slR_none {m:Mem} {v:SV} (h:slR m v=some none):v= .val (.slice none 0 0):=by
 unfold slR at h
 split at h
 ·rfl
 ·split at h
  ·split at h
   ·simp only[Option.map_eq_some_iff,Prod.exists]at h
    obtain ⟨k,xs,_,_,h2⟩:=h
    cases h2
   ·simp only[Option.map_eq_some_iff,Prod.exists]at h
    obtain ⟨k,xs,_,h2⟩:=h
    cases h2
  ·simp at h
 ·simp at h
theorem slOf_slR {m:Mem} {v:SV} {d:Option Sl} (h:slOf m v=some d):slR m v=some d:=by
 unfold slOf at h
 unfold slR
 split at h
 ·exact h
 ·rename_i r o len cap
  split at h
  ·rename_i g hg
   cases hgc:g.c with
   | segs l=>rw[hgc]at h;simp[Ct.asInts]at h
   | cells l=>rw[hgc]at h;exact h
   | ints k xs=>rw[hgc]at h;exact h
  ·simp at h
 ·simp at h
theorem Ct.asInts_len {c:Ct} {k:IntKind} {xs:List Int} (h:c.asInts=some (k,xs)):c.len=xs.length:=by
 cases c with
 | ints k' ys=>simp[Ct.asInts]at h;obtain ⟨_,rfl⟩:=h;rfl
 | cells l=>
  simp only[Ct.asInts]at h
  split at h
  ·split at h
   ·rename_i ys hy
    simp at h
    obtain ⟨_,rfl⟩:=h
    exact intsOf_length hy
   ·simp at h
  ·simp at h
 | segs l=>simp[Ct.asInts]at h
section
variable {P:Program} {Γ:Cx P} {β:Env} {T:Nat→Nat→Prop} {m m0:Mem} {w0 w:World} {a:Act} {ev:Operand→SV} {o:Oper} {n:Nat} {K:SV→Mem→Prop} {Q:Exit→Act→World→Prop}
theorem row_cells (hH:Holds β T m w0 w) {r:Nat} {g:Reg} (hg:m.get r=some g) {k:IntKind} {xs:List Int} {off off':N} (hx:g.c.row off=some (k,xs,off')) {b ob:Nat} (hβ:β r=some (b,ob)) {len:Nat}:
  ∀j u,(((xs.drop off'.val).take len).map (Value.int k))[j]? =some u→w.cell? ⟨b,ob+off.val+j,none⟩=some u:=by
 obtain ⟨b',o',arr,t,fz,vs,h1,h2,h3,h4,_⟩:=(hH.reg r g hg).ex
 rw[hβ]at h1
 injection h1 with h1;injection h1 with e1 e2
 subst e1;subst e2
 have hv:=(row_spec h3 hx).1
 intro j u hj
 have:vs[off.val+j]? =some u:=by
  refine hv j u ?_
  simp only[List.getElem?_map,List.getElem?_take,List.getElem?_drop]at hj ⊢
  split at hj
  ·exact hj
  ·simp at hj
 have:=h4 _ _ this
 simp only[World.cell?,h2]
 rw[show ob+off.val+j=ob+(off.val+j) by omega]
 simpa using this
theorem run_firstCells (hH:Holds β T m w0 w) {v:SV} {u:Value} (hd:Den β v u) {d:Sl} (hs:slR m v=some (some d)) {s len:Nat} (hle:d.o.val+len*s≤d.xs.length):
  (Builtin.firstCells s len u).run P w= .ok (((d.xs.drop d.o.val).take (len*s)).map (Value.int d.k)).toArray w:=by
 obtain ⟨r,o,g,rfl,hg,hx⟩:=slR_some hs
 simp only[Den]at hd
 obtain ⟨b,ob,hβ,rfl⟩:=hd
 have hc:=row_cells (len:=len*s) hH hg hx hβ
 have:=run_loadCells (P:=P) (w:=w) (b:=b) (o:=ob+o.val) (len*s) 0 #[] (((d.xs.drop d.o.val).take (len*s)).map (Value.int d.k)) (by simp;omega)
  (fun j u hj=>by rw[Nat.zero_add];exact hc j u hj)
 simpa [Builtin.firstCells,loadCells]using this
theorem bind_underlying {c:Call} {i:Nat} {d:TypeDesc} (h:(c.argTypes[i]?).bind P.underlying=some d):∃t,c.argTypes[i]? =some t∧P.underlying t=some d:=by
 cases ht:c.argTypes[i]? with
 | none=>rw[ht]at h;simp at h
 | some t=>rw[ht]at h;exact ⟨t,rfl,h⟩
theorem map_ev {c:Call} {i:Nat} {v:SV} (hev:∀x,Den β (ev x) (a.eval x)) (h:(c.args[i]?).map ev=some v):∃u,(c.args.map a.eval)[i]? =some u∧Den β v u:=by
 cases ht:c.args[i]? with
 | none=>rw[ht]at h;simp at h
 | some x=>
  rw[ht]at h
  simp only[Option.map_some,Option.some.injEq]at h
  subst h
  exact ⟨a.eval x,by simp[ht],hev x⟩
theorem exec_builtin {c:Call} {b:Builtin} (ho:o.op= .call c) (hc:c.callee= .builtin b) {s:Sem Value} (hs:∀cs,builtin b c.argTypes o.type cs (c.args.map a.eval)=(do pure (Next.value (←s)))):
  (execOp a.eval o).run P w=(do pure (Next.value (←s)):Sem Next).run P w:=by
 unfold execOp;rw[ho]
 simp only[Sem.run_bind,resolve,hc,Sem.run_pure,Result.andThen_ok,invoke,hs]
theorem W_copy (hH:Holds β T m w0 w) (hev:∀x,Den β (ev x) (a.eval x)) {c:Call}
  (ho:o.op= .call c) (hc:c.callee= .builtin .copy) (h:opW Γ m0 n m ev o.op K):o.wp P a w (After P β T m0 n w0 a o K) Q:=by
 rw[ho]at h
 unfold opW at h
 simp only[hc]at h
 split at h
 ·rename_i e r off len cap src ht hdst hsrc
  split at h
  ·rename_i d x g hs hd hx hg
   cases hro:g.ro with
   | true=>rw[hro]at h;exact h.elim
   | false=>
    rw[hro]at h
    simp only[cond_false]at h
    cases hk:decide (d.k=x.k)with
    | false=>rw[hk]at h;exact h.elim
    | true=>
     rw[hk]at h
     simp only[cond_true]at h
     have hk':d.k=x.k:=by simpa using hk
     obtain ⟨⟨h1,h2⟩,hK⟩:=h
     obtain ⟨t,ht1,ht2⟩:=bind_underlying ht
     obtain ⟨ud,hud,hdd⟩:=map_ev hev hdst
     obtain ⟨ux,hux,hdx⟩:=map_ev hev hsrc
     obtain ⟨r',off',g',e1,hg',hgx⟩:=slR_some hd
     injection e1 with er eo el ec
     subst er
     subst eo
     rw[hg]at hg'
     injection hg' with hg'
     subst hg'
     obtain ⟨rx,ox,gx,ex1,hgx',hgxx⟩:=slR_some hx
     have hdd':=hdd
     have hdx':=hdx
     simp only[Den]at hdd
     obtain ⟨b,ob,hβ,rfl⟩:=hdd
     rw[ex1]at hdx
     simp only[Den]at hdx
     obtain ⟨bx,obx,hβx,rfl⟩:=hdx
     have hfc:=run_firstCells (P:=P) hH hdx' hx (s:=1) (len:=min x.len.val d.len.val) (by omega)
     have hst:=hH.storeG (P:=P) (off:=off.val) (us:=((x.xs.drop x.o.val).take (min x.len.val d.len.val)).map (Value.int x.k))
      (c':=g.c.putRow off d.k (splice d.xs d.o.val ((x.xs.drop x.o.val).take (min x.len.val d.len.val)))) hg hro (fun vs hvs=>by
       have:=(row_spec hvs hgx).2 ((x.xs.drop x.o.val).take (min x.len.val d.len.val)) (by simp;omega)
       rw[hk']at this ⊢
       refine ⟨this.1,by simpa using this.2.1,this.2.2,?_⟩
       intro u hu;obtain ⟨y,_,rfl⟩:=List.mem_map.1 hu;rfl) hβ
     refine wp_val (v:= .int .i64 (min x.len.val d.len.val:Nat)) ?_ ⟨β,_,.int .i64 (mkA (x.len.isLit && d.len.isLit) (min x.len.val d.len.val:Nat)),_,ext_refl _ _,rfl,by simp only[Den,mkA_val],hst.2,memLe_leaf _,hK⟩
     rw[exec_builtin (P:=P) (w:=w) (a:=a) ho hc (s:=Builtin.copy_ c.argTypes o.type (c.args.map a.eval)) (fun _=>rfl)]
     refine run_v ?_
     unfold Builtin.copy_
     rw[Nat.mul_one]at hfc
     simp only[ht1,hud,hux,Sem.run_bind,run_underlying ht2,Result.andThen_ok,Builtin.lenOf,Sem.run_pure,run_sizeOf hs,el]
     have hm:x.len.val.min d.len.val=min x.len.val d.len.val:=rfl
     rw[hm,hfc]
     simp only[Result.andThen_ok]
     have:=hst.1
     simp only[this,Result.andThen_ok]
     rfl
  ·exact h.elim
 ·exact h.elim
theorem growBy_le (newLen:Nat):∀r c,c≤2*newLen+192→Builtin.growBy newLen r c≤2*newLen+192
 | 0,c,h=>h
 | r+1,c,h=>by
  unfold Builtin.growBy
  split
  ·exact h
  ·exact growBy_le newLen r _ (by omega)
theorem cap_le {need cap:Nat} (h:cap<need):Builtin.nextslicecap need cap≤2*need+192:=by
 unfold Builtin.nextslicecap
 split
 ·omega
 ·split
  ·omega
  ·exact growBy_le need 4 cap (by omega)
theorem zeroCells_ints {z:Value} {k:IntKind} (hk:zeroInts z=some k) (hz:1≤z.cells.size) (len:Nat):Builtin.zeroCells z.cells len=(List.replicate (len*z.cells.size) (Value.int k 0)).toArray:=by
 unfold Builtin.zeroCells
 apply Array.ext'
 simp only[Array.toList_map,Array.toList_range]
 rw[range_mod z.cells hz len,zeroInts_spec hk]
 simp
theorem append_dst {dst:SV} {u:Value} (hd:Den β dst u) {d:Option Sl} (hs:slOf m dst=some d):
  (d=none∧u= .slice none 0 0)∨∃sl r g b ob,d=some sl∧dst= .slice r sl.o sl.len sl.cap∧sl.r=some r∧m.get r=some g∧g.c.asInts=some (sl.k,sl.xs)∧β r=some (b,ob)∧
   u= .slice (some ⟨b,ob+sl.o.val,none⟩) sl.len.val sl.cap.val:=by
 cases d with
 | none=>
  have:=slOf_none hs
  subst this
  simp only[Den]at hd
  exact .inl ⟨rfl,hd⟩
 | some sl=>
  obtain ⟨r,g,e1,e2,e3,e4⟩:=slOf_some hs
  rw[e1]at hd
  simp only[Den]at hd
  obtain ⟨b,ob,hβ,rfl⟩:=hd
  exact .inr ⟨sl,r,g,b,ob,rfl,e1,e2,e3,e4,hβ,rfl⟩
theorem append_src {src:SV} {u:Value} (hd:Den β src u) {d:Option Sl} (hs:slR m src=some d):
  (d=none∧u= .slice none 0 0)∨∃sl b ob,d=some sl∧u= .slice (some ⟨b,ob,none⟩) sl.len.val sl.cap.val:=by
 cases d with
 | none=>
  have:=slR_none hs
  subst this
  simp only[Den]at hd
  exact .inl ⟨rfl,hd⟩
 | some sl=>
  obtain ⟨r,o,g,e1,e2,e3⟩:=slR_some hs
  rw[e1]at hd
  simp only[Den]at hd
  obtain ⟨b,ob,hβ,rfl⟩:=hd
  exact .inr ⟨sl,b,_,rfl,rfl⟩
theorem append_first {P:Program} (hH:Holds β T m w0 w) {src:SV} {u:Value} (hd:Den β src u) {x:Option Sl} (hs:slR m src=some x) {s:Nat} (hr:Sl.reads s x) {k:IntKind} (hk:Sl.kO k x=true):
  (Builtin.lenOf u).run P w= .ok (Sl.lenO x).val w∧(Builtin.firstCells s (Sl.lenO x).val u).run P w= .ok ((Sl.rowO s x).map (Value.int k)).toArray w:=by
 rcases append_src hd hs with ⟨rfl,rfl⟩ | ⟨sl,b,ob,rfl,rfl⟩
 ·exact ⟨rfl,rfl⟩
 ·refine ⟨rfl,?_⟩
  simp only[Sl.kO,decide_eq_true_eq]at hk
  have:=run_firstCells (P:=P) hH hd hs (s:=s) (len:=sl.len.val) hr
  rw[hk]at this
  exact this
theorem rowO_length {s:Nat} {x:Option Sl} (hr:Sl.reads s x):(Sl.rowO s x).length=(Sl.lenO x).val*s:=by
 cases x with
 | none=>simp[Sl.rowO,Sl.lenO,N.val]
 | some x=>simp only[Sl.rowO,Sl.lenO,Sl.reads]at *;simp;omega
end
section
variable {P:Program} {Γ:Cx P} {β:Env} {T:Nat→Nat→Prop} {m m0:Mem} {w0 w:World} {a:Act} {ev:Operand→SV} {o:Oper} {n:Nat} {K:SV→Mem→Prop} {Q:Exit→Act→World→Prop}
theorem Holds.cut (hH:Holds β T m w0 w) {r q:Nat} {g:Reg} (hg:m.get r=some g) (hro:g.ro=false) {k:IntKind} {xs:List Int} (hx:g.c.asInts=some (k,xs)) {b ob:Nat} (hβ:β r=some (b,ob))
  (hq:β q=none) {off len:Nat} (hle:off+len≤xs.length) {m2:Mem} (h2:∀r' g',m2.get r'=some g'→r'≠r∧m.get r'=some g'):
  Holds (upd β q (b,ob+off)) T (put m2 q ⟨false,.ints k ((xs.drop off).take len)⟩) w0 w:=by
 have hle':=upd_le (x:=(b,ob+off)) hq
 have hnew:upd β q (b,ob+off) q=some (b,ob+off):=by simp[upd]
 have h3:=hH.mono hle'
 have hcl:=Ct.asInts_len hx
 refine ⟨hH.fr,fun s g' hs=> ?_,?_⟩
 ·rcases get_put_mem hs with ⟨rfl,rfl⟩ | ⟨hne,hs⟩
  ·obtain ⟨b',o',arr,t,fz,vs,k1,k2,k3,k4,k5⟩:=(hH.reg r g hg).ex
   rw[hβ]at k1
   injection k1 with k1;injection k1 with e1 e2
   subst e1;subst e2
   have hv:=Ct.asInts_den k3 hx
   subst hv
   refine ⟨b,ob+off,arr,t,fz,_,hnew,k2,rfl,fun i v hi=> ?_,fun _ i hi=> ?_⟩
   ·have:(xs.map (Value.int k))[off+i]? =some v:=by
     simp only[List.getElem?_map,List.getElem?_take,List.getElem?_drop]at hi ⊢
     split at hi
     ·exact hi
     ·simp at hi
    have:=k4 _ _ this
    rw[Nat.add_assoc];exact this
   ·have:=k5 hro (off+i) (by simp at hi ⊢;omega)
    rw[Nat.add_assoc];exact this
  ·exact h3.reg s g' (h2 s g' hs).2
 ·intro r1 r2 g1 g2 hne hg1 hg2 hro' b1 o1 o2 hb1 hb2
  have hback:∀s g',m2.get s=some g'→s≠q→∀b' o',upd β q (b,ob+off) s=some (b',o')→β s=some (b',o'):=fun s g' _ hne b' o' hb=>by
   unfold upd at hb;rw[if_neg hne]at hb;exact hb
  have hlen:(Ct.ints k ((xs.drop off).take len)).len=len:=by simp[Ct.len];omega
  rcases get_put_mem hg1 with ⟨rfl,rfl⟩ | ⟨hn1,hg1x⟩<;>rcases get_put_mem hg2 with ⟨rfl,rfl⟩ | ⟨hn2,hg2x⟩
  ·exact absurd rfl hne
  ·rw[hnew]at hb1
   injection hb1 with hb1;injection hb1 with e1 e2
   subst e1;subst e2
   obtain ⟨k1,k2⟩:=h2 _ _ hg2x
   have:=hH.disj r r2 g g2 (fun e=>k1 e.symm) hg k2 (.inl hro) _ _ _ hβ (hback _ _ hg2x hn2 _ _ hb2)
   show _+(Ct.ints k ((xs.drop off).take len)).len≤_∨_
   rw[hlen]
   omega
  ·rw[hnew]at hb2
   injection hb2 with hb2;injection hb2 with e1 e2
   subst e1;subst e2
   obtain ⟨k1,k2⟩:=h2 _ _ hg1x
   have:=hH.disj r1 r g1 g k1 k2 hg (.inr hro) _ _ _ (hback _ _ hg1x hn1 _ _ hb1) hβ
   show _∨_+(Ct.ints k ((xs.drop off).take len)).len≤_∨_∨(Ct.ints k ((xs.drop off).take len)).len=0
   rw[hlen]
   omega
  ·exact h3.disj r1 r2 g1 g2 hne (h2 _ _ hg1x).2 (h2 _ _ hg2x).2 hro' b1 o1 o2 hb1 hb2
theorem take_splice {l vs:List Int} {o len:Nat} (cap:Nat) (h2:o+cap≤l.length) (h3:len+vs.length≤cap):
  ((splice l (o+len) vs).drop o).take cap=(l.drop o).take len++vs++(l.drop (o+(len+vs.length))).take (cap-(len+vs.length)):=by
 apply List.ext_getElem?
 intro i
 rw[List.getElem?_take,List.getElem?_drop,List.append_assoc]
 by_cases hi:i<cap
 ·rw[if_pos hi,getElem?_splice (by omega),List.getElem?_append]
  have hl1:((l.drop o).take len).length=len:=by simp;omega
  rw[hl1]
  by_cases hi1:i<len
  ·rw[if_pos (by omega),if_pos hi1,List.getElem?_take,if_pos hi1,List.getElem?_drop]
  ·rw[if_neg (by omega),if_neg hi1,List.getElem?_append]
   by_cases hi2:i<len+vs.length
   ·rw[if_pos (by omega),if_pos (by omega)]
    congr 1;omega
   ·rw[if_neg (by omega),if_neg (by omega),List.getElem?_take,if_pos (by omega),List.getElem?_drop]
    congr 1;omega
 ·rw[if_neg hi]
  symm
  apply List.getElem?_eq_none
  simp
  omega
theorem get_del_put {m:Mem} {r:Nat} {g:Reg} (hr:Nat.blt r 4194304=true) {r':Nat} {g':Reg} (h:(Tr.del m r).get r'=some g'):r'≠r∧(put m r g).get r'=some g':=by
 obtain ⟨h1,h2⟩:=Tr.get_del h
 exact ⟨h1,by unfold put;rw[Tr.get_set_ne hr h1];exact h2⟩
theorem get_put_same {m:Mem} {r:Nat} {g:Reg} (hr:Nat.blt r 4194304=true):(put m r g).get r=some g:=by
 unfold put Tr.set
 rw[hr]
 simp only[cond_true]
 have:=blt_iff.1 hr
 rw[Tr.get_put _ _ _ _ _ (by omega),if_pos rfl]
theorem dropO_le (m:Mem) (d:Option Sl):MemLe (Sl.dropO m d) m:=by
 unfold Sl.dropO
 split
 ·split
  ·rename_i g _
   cases g.ro
   ·exact fun r' g' h=>(Tr.get_del h).2
   ·exact MemLe.refl _
  ·exact MemLe.refl _
 ·exact MemLe.refl _
theorem lenO_some (d:Sl):Sl.lenO (some d)=d.len:=rfl
theorem append_sound (hH:Holds β T m w0 w) (hf:∀j,j<4→β (rid n j)=none) {dst src:SV} {ud ux:Value} (hd:Den β dst ud) (hx:Den β src ux) {d x:Option Sl}
  (hsd:slOf m dst=some d) (hsx:slR m src=some x) {k:IntKind} {s by_:Nat} {z:Value} {e t1 t2 ty:TypeId} {e2:TypeId} (ht1:P.underlying t1=some (.slice e)) (ht2:P.underlying t2=some (.slice e2))
  (hz:(P.info? e).bind (·.zero)=some z) (hs:sizeS P e=some s) (hby:(P.info? e).map (·.bytes)=some by_) (hk:zeroInts z=some k) (hs1:1≤s) (hzs:z.cells.size=s)
  (h:appendS n m k s by_ dst d x K):
  ∃v w' β' sv m',(Builtin.append_ #[t1,t2] ty #[ud,ux]).run P w= .ok v w'∧Ext β β' n∧Den β' sv v∧Holds β' T m' w0 w'∧K sv m':=by
 unfold appendS at h
 generalize hbb:(Sl.kO k d && Sl.kO k x && Sl.freeO m d)=bb at h
 cases bb with
 | false=>exact h.elim
 | true=>
  simp only[cond_true]at h
  simp only[Bool.and_eq_true]at hbb
  obtain ⟨⟨hkd,hkx⟩,hfree⟩:=hbb
  obtain ⟨⟨hfit,hread,hsz1,hsz2⟩,hK⟩:=h
  have hK0:Sl.ownO m d=false→(Sl.lenO d).val+(Sl.lenO x).val=0→K dst m:=fun ho=>by
   rw[ho]at hK;exact hK.1
  have hK2:(Sl.ownO m d=true∨0<(Sl.lenO d).val+(Sl.lenO x).val)→appendK n m k s d x K:=fun ho=>by
   cases hb:Sl.ownO m d with
   | true=>rw[hb]at hK;exact hK
   | false=>
    rw[hb]at hK ho
    exact hK.2 (ho.resolve_left (by simp))
  have hK1:(Sl.ownO m d=true∨0<(Sl.lenO d).val+(Sl.lenO x).val)→∀(cap:Nat) (rest:List Int),(Sl.lenO d).val+(Sl.lenO x).val≤cap→
   rest.length=(cap-((Sl.lenO d).val+(Sl.lenO x).val))*s→
   K (.slice (rid n 0) (.lit 0) ((Sl.lenO d).add (Sl.lenO x)) (.sym cap)) (put (Sl.dropO m d) (rid n 0) ⟨false,.ints k (Sl.rowO s d++Sl.rowO s x++rest)⟩):=fun ho cap rest h1 h2=>by
   have e1:(Sl.rowO s d).length=(Sl.lenO d).val*s:=rowO_length (by
    cases d with
    | none=>trivial
    | some sl=>
     simp only[Sl.fits,Sl.reads]at *
     have:=Nat.mul_le_mul_right s hfit.1
     omega)
   have e2:(Sl.rowO s x).length=(Sl.lenO x).val*s:=rowO_length hread
   have e3:(Sl.rowO s d++Sl.rowO s x).length=((Sl.lenO d).val+(Sl.lenO x).val)*s:=by rw[List.length_append,e1,e2,Nat.add_mul]
   refine hK2 ho cap _ ⟨h1,?_,?_⟩
   ·rw[List.length_append,e3,h2,←Nat.add_mul]
    congr 1
    omega
   ·rw[←e3,List.take_left]
  clear hK
  obtain ⟨hxl,hxc⟩:=append_first (P:=P) hH hx hsx hread hkx
  obtain ⟨i,hi,hib⟩:∃i,P.info? e=some i∧i.bytes=by_:=by
   cases hi:P.info? e with
   | none=>rw[hi]at hby;simp at hby
   | some i=>rw[hi]at hby;simp at hby;exact ⟨i,rfl,hby⟩
  have hnewlen:=rowO_length hread
  obtain ⟨base,dl,dc,hud,hdl,hdc⟩:∃base dl dc,ud= .slice base dl dc∧dl=(Sl.lenO d).val∧dc=(Sl.capO d).val:=by
   rcases append_dst hd hsd with ⟨rfl,rfl⟩ | ⟨sl,r,g,b,ob,rfl,_,_,_,_,_,rfl⟩
   ·exact ⟨_,_,_,rfl,rfl,rfl⟩
   ·exact ⟨_,_,_,rfl,rfl,rfl⟩
  -- the run where there is room
  have runA:dl+(Sl.lenO x).val≤dc→∀w',(match base with | some a=>storeCells (a.add (dl*s)) ((Sl.rowO s x).map (Value.int k)) | none=>pure ():Sem Unit).run P w= .ok () w'→
    (Builtin.append_ #[t1,t2] ty #[ud,ux]).run P w= .ok (.slice base (dl+(Sl.lenO x).val) dc) w':=by
   intro hle w' hst
   unfold Builtin.append_
   simp only[List.getElem?_toArray,List.getElem?_cons_zero,List.getElem?_cons_succ,Sem.run_bind,run_underlying ht1,run_underlying ht2,Result.andThen_ok,hud,run_sizeOf hs,hxl,Sem.run_pure,hxc,Sem.run_ite]
   simp only[hle,if_true,Bool.false_eq_true,if_false,Bool.not_false]
   cases base with
   | none=>simp at hst;subst hst;rfl
   | some b=>simp only at hst;simp[hst]
  have hreadd:Sl.reads s d:=by
   cases d with
   | none=>trivial
   | some sl=>
    simp only[Sl.fits,Sl.reads]at *
    have:=Nat.mul_le_mul_right s hfit.1
    omega
  obtain ⟨hdlr,hdcr⟩:=append_first (P:=P) hH hd (slOf_slR hsd) hreadd hkd
  have runB:¬dl+(Sl.lenO x).val≤dc→∃cap,dl+(Sl.lenO x).val≤cap∧∃q,
    (Builtin.append_ #[t1,t2] ty #[ud,ux]).run P w= .ok (.slice (some ⟨w.heap.size,0,none⟩) (dl+(Sl.lenO x).val) cap)
     { w with drawn:=q,heap:=w.heap.push (.cells (((Sl.rowO s d++Sl.rowO s x++List.replicate ((cap-(dl+(Sl.lenO x).val))*s) 0).map (Value.int k))).toArray e) }:=by
   intro hgt
   refine ⟨(Question.appendCap (dl+(Sl.lenO x).val) dc e).cut (w.tape w.drawn (Question.appendCap (dl+(Sl.lenO x).val) dc e)),by simp[Question.cut],w.drawn+1,?_⟩
   generalize hcap:(Question.appendCap (dl+(Sl.lenO x).val) dc e).cut (w.tape w.drawn (Question.appendCap (dl+(Sl.lenO x).val) dc e))=cap
   have hcl:=cap_le (need:=dl+(Sl.lenO x).val) (cap:=dc) (by omega)
   have hbig:¬Builtin.nextslicecap (dl+(Sl.lenO x).val) dc*by_>2 ^ 48:=by
    have h1:Builtin.nextslicecap (dl+(Sl.lenO x).val) dc*by_≤(2*(dl+(Sl.lenO x).val)+192)*by_:=Nat.mul_le_mul_right _ hcl
    have h2:1*by_≤(dl+(Sl.lenO x).val)*by_:=Nat.mul_le_mul_right _ (by omega)
    rw[←hdl]at hsz1
    rw[Nat.add_mul,Nat.mul_assoc]at h1
    omega
   have hover:¬(((dl+(Sl.lenO x).val:Nat):Int)>IntKind.i64.max∧((false=true)∨by_=0)):=by
    rintro ⟨h1,_⟩
    have:IntKind.i64.max=9223372036854775807:=by decide
    rw[this]at h1
    rw[←hdl]at hsz2
    omega
   have hH1:Holds β T m w0 { w with drawn:=w.drawn+1 }:=hH.grow (Fr.drew noT w _)
   have hd1:=(append_first (P:=P) hH1 hd (slOf_slR hsd) hreadd hkd).2
   have hx1:=(append_first (P:=P) hH1 hx hsx hread hkx).2
   rw[hud,←hdl]at hd1
   have hch:(choose (Question.appendCap (dl+(Sl.lenO x).val) dc e)).run P w= .ok cap { w with drawn:=w.drawn+1 }:=by
    rw[←hcap];rfl
   unfold Builtin.append_
   simp only[List.getElem?_toArray,List.getElem?_cons_zero,List.getElem?_cons_succ,Sem.run_bind,run_underlying ht1,run_underlying ht2,Result.andThen_ok,hud,run_sizeOf hs,hxl,Sem.run_pure,Sem.run_ite]
   simp only[hgt,if_false,Bool.false_eq_true,Bool.not_false,if_true,run_typeInfo hi,hib,Result.andThen_ok,hbig]
   rw[if_neg (by simpa using hover)]
   simp only[hch,Result.andThen_ok,run_askRoom,hd1,hx1,run_zeroValue hz]
   rw[zeroCells_ints hk (by omega)]
   simp only[newRow,Sem.run_bind,run_newObj,Result.andThen_ok,Sem.run_pure]
   congr 3
   simp[hzs]
  by_cases htot0:Sl.ownO m d=false∧dl+(Sl.lenO x).val=0
  · -- nothing
   obtain ⟨hown,htot⟩:=htot0
   have hnil:Sl.rowO s x= []:=List.eq_nil_of_length_eq_zero (by rw[hnewlen,show (Sl.lenO x).val=0 by omega,Nat.zero_mul])
   have:=runA (by omega) w (by rw[hnil];cases base<;>rfl)
   refine ⟨ud,w,β,dst,m,?_,ext_refl _ _,hd,hH,hK0 hown (by rw[←hdl];exact htot)⟩
   rw[this,hud,htot,show dl=0 by omega]
  ·have hown:Sl.ownO m d=true∨0<dl+(Sl.lenO x).val:=by
    cases ho:Sl.ownO m d with
    | true=>exact .inl rfl
    | false=>
     refine .inr ?_
     rcases Nat.eq_zero_or_pos (dl+(Sl.lenO x).val)with h0 | h0
     ·exact (htot0 ⟨ho,h0⟩).elim
     ·exact h0
   by_cases hle:dl+(Sl.lenO x).val≤dc
   · -- in place
    rcases append_dst hd hsd with ⟨rfl,rfl⟩ | ⟨sl,r,g,b,ob,rfl,e1,er,eg,ex,hβ,eu⟩
    ·exfalso
     simp only[Sl.capO,N.lit_val]at hdc
     rcases hown with hown | hown
     ·simp[Sl.ownO]at hown
     ·omega
    ·have e3:=hud.symm.trans eu
     injection e3 with e4 e5 e6
     subst e4
     have hfree':g.ro=false∧Nat.blt r 4194304=true:=by
      rcases hown with hown | hown
      ·simpa [Sl.ownO,er,eg,Bool.and_eq_true]using hown
      simp only[Sl.freeO,er,eg,Bool.or_eq_true,Bool.and_eq_true,Bool.not_eq_true']at hfree
      rcases hfree with hfree | hfree
      ·exfalso
       simp only[Sl.capO]at hdc
       generalize sl.cap=cp at *
       cases cp with
       | sym c=>simp at hfree
       | «at» b c=>simp at hfree
       | lit c=>
        cases c with
        | zero=>simp only[N.lit_val]at hdc;omega
        | succ c=>simp at hfree
      ·exact hfree
     simp only[Sl.kO,decide_eq_true_eq]at hkd
     simp only[Sl.fits]at hfit
     simp only[Sl.lenO]at hdl
     simp only[Sl.capO]at hdc
     rw[←hdc]at hfit
     have hmul:(dl+(Sl.lenO x).val)*s≤dc*s:=Nat.mul_le_mul_right s hle
     rw[Nat.add_mul]at hmul
     have hst:=hH.storeG (P:=P) (off:=sl.o.val+dl*s) (us:=(Sl.rowO s x).map (Value.int k)) (c':= .ints k (splice sl.xs (sl.o.val+dl*s) (Sl.rowO s x))) eg hfree'.1 (fun vs hvs=>by
      have:=Ct.asInts_den hvs ex
      subst this
      rw[hkd]
      refine ⟨by simp only[Ct.den];rw[map_splice],by simp[hnewlen];omega,?_,?_⟩
      ·rw[Ct.asInts_len ex];simp only[Ct.len];exact splice_length (by rw[hnewlen];omega)
      ·intro u hu;obtain ⟨y,_,rfl⟩:=List.mem_map.1 hu;rfl) hβ
     have hrun:=runA hle _ (by
      have:=hst.1
      rw[←Nat.add_assoc]at this
      simp only[add_off]
      exact this)
     have hcut:=Holds.cut (m:=put m r ⟨false,.ints k (splice sl.xs (sl.o.val+dl*s) (Sl.rowO s x))⟩) hst.2 (r:=r) (q:=rid n 0) (g:=⟨false,.ints k (splice sl.xs (sl.o.val+dl*s) (Sl.rowO s x))⟩)
      (get_put_same hfree'.2) rfl (k:=k) (xs:=splice sl.xs (sl.o.val+dl*s) (Sl.rowO s x)) rfl hβ (hf 0 (by omega)) (off:=sl.o.val) (len:=dc*s) (by rw[splice_length (by rw[hnewlen];omega)];omega) (m2:=Tr.del m r) (fun r' g' h=>get_del_put hfree'.2 h)
     rw[take_splice (dc*s) (by omega) (by rw[hnewlen];omega)]at hcut
     have hdrop:Sl.dropO m (some sl)=Tr.del m r:=by
      obtain ⟨r0,k0,xs0,o0,l0,c0⟩:=sl
      simp only at er
      subst er
      simp only[Sl.dropO,eg,hfree'.1,cond_false]
     have hK:=hK1 (by rw[lenO_some,←hdl];exact hown) dc ((sl.xs.drop (sl.o.val+(dl*s+(Sl.rowO s x).length))).take (dc*s-(dl*s+(Sl.rowO s x).length))) (by rw[lenO_some];omega) (by
      rw[lenO_some]
      rw[Nat.sub_mul,Nat.add_mul,hnewlen,←hdl]
      simp
      omega)
     refine ⟨_,_,_,_,_,hrun,ext_upd (x:=(b,ob+sl.o.val)),?_,?_,hK⟩
     ·simp only[Den,N.add_val,lenO_some,N.lit_val]
      refine ⟨b,ob+sl.o.val,by simp[upd],?_⟩
      rw[←hdl]
      rfl
     ·rw[hdrop]
      have e9:Sl.rowO s (some sl)=(sl.xs.drop sl.o.val).take (dl*s):=by rw[hdl];rfl
      rw[e9,Nat.add_assoc]
      exact hcut
   · -- a new array
    obtain ⟨cap,hcap,q,hrun⟩:=runB hle
    have hH1:Holds β T m w0 { w with drawn:=q }:=hH.grow (Fr.drew noT w _)
    have hnew:=(hH1.part (dropO_le m d)).new (hf 0 (by omega)) (c:= .ints k (Sl.rowO s d++Sl.rowO s x++List.replicate ((cap-(dl+(Sl.lenO x).val))*s) 0)) (e:=e) (vs:=(Sl.rowO s d++Sl.rowO s x++List.replicate ((cap-(dl+(Sl.lenO x).val))*s) 0).map (Value.int k)) (by simp only[Ct.den])
    have hK:=hK1 (by rw[←hdl];exact hown) cap (List.replicate ((cap-(dl+(Sl.lenO x).val))*s) 0) (by rw[←hdl];exact hcap) (by rw[←hdl];simp)
    refine ⟨_,_,_,_,_,hrun,ext_upd (x:=(w.heap.size,0)),?_,?_,hK⟩
    ·simp only[Den,N.add_val,←hdl]
     exact ⟨w.heap.size,0,by simp[upd],by simp[N.val]⟩
    ·exact hnew
theorem W_append (hH:Holds β T m w0 w) (hf:∀j,j<4→β (rid n j)=none) (hev:∀x,Den β (ev x) (a.eval x)) {c:Call}
  (ho:o.op= .call c) (hc:c.callee= .builtin .append) (h:opW Γ m0 n m ev o.op K):o.wp P a w (After P β T m0 n w0 a o K) Q:=by
 rw[ho]at h
 unfold opW at h
 simp only[hc]at h
 split at h
 ·rename_i e e2 dst src ht ht2 hdst hsrc
  split at h
  ·rename_i s by_ z d x hs hby hz hd hx
   split at h
   ·rename_i k hk
    generalize hbb:(Nat.ble 1 s && Nat.beq (cellsOfV z).length s)=bb at h
    cases bb with
    | false=>exact h.elim
    | true=>
     simp only[cond_true]at h
     simp only[Bool.and_eq_true]at hbb
     obtain ⟨t1,ht11,ht12⟩:=bind_underlying ht
     obtain ⟨t2,ht21,ht22⟩:=bind_underlying ht2
     obtain ⟨ud,hud,hdd⟩:=map_ev hev hdst
     obtain ⟨ux,hux,hdx⟩:=map_ev hev hsrc
     have h1:1≤s:=by simpa using hbb.1
     have h2:z.cells.size=s:=by have:=Nat.eq_of_beq_eq_true hbb.2;simpa [cellsOfV]using this
     obtain ⟨v,w',β',sv,m',hr,k1,k2,k3,k4⟩:=append_sound (ty:=o.type) hH hf hdd hdx hd hx ht12 ht22 hz hs hby hk h1 h2 h
     refine wp_val (v:=v) (w':=w') ?_ ⟨β',v,sv,m',k1,rfl,k2,k3,memLe_leaf _,k4⟩
     rw[exec_builtin (P:=P) (w:=w) (a:=a) ho hc (s:=Builtin.append_ c.argTypes o.type (c.args.map a.eval)) (fun _=>rfl)]
     refine run_v ?_
     have:Builtin.append_ c.argTypes o.type (c.args.map a.eval)=Builtin.append_ #[t1,t2] o.type #[ud,ux]:=by
      unfold Builtin.append_
      rw[ht11,ht21,hud,hux]
      rfl
     rw[this]
     exact hr
   ·exact h.elim
  ·exact h.elim
 ·exact h.elim
theorem opW_sound (hgb:∀g,β (gid g)=some (g,0)) (hH:Holds β T m w0 w) (hm:MemLe m0 m) (hf:∀j,j<4→β (rid n j)=none) (hb:Nat.blt (rid n 3) 4194304=true) (hev:∀x,Den β (ev x) (a.eval x))
  (h:opW Γ m0 n m ev o.op K):o.wp P a w (After P β T m0 n w0 a o K) Q:=by
 cases hop:o.op with
 | alloc e=>exact W_alloc hH hm hf hb hop h
 | box e x=>exact W_box hH hm hf hb hev hop h
 | store t x v=>exact W_store hH hm hev hop h
 | buildSlice t len parts=>exact W_buildSlice hH hm hf hb hev hop h
 | makeSlice t x y=>exact W_makeSlice hH hm hf hb hev hop h
 | call c=>
  cases hc:c.callee with
  | value f=>
   cases f with
   | func f=>exact W_ef hgb hH hm hb hf hev hop hc h
   | _=>exfalso;rw[hop]at h;unfold opW at h;simp only[hc]at h
  | builtin b=>
   cases b with
   | copy=>exact W_copy hH hev hop hc h
   | append=>exact W_append hH hf hev hop hc h
   | _=>exfalso;rw[hop]at h;unfold opW at h;simp only[hc]at h
  | invoke r me=>exfalso;rw[hop]at h;unfold opW at h;simp only[hc]at h
 | _=>exfalso;rw[hop]at h;exact h
end
theorem nmA_iff {k:IntKind} {a:A} {K:SV→Prop}:nmA k a K↔K (.int k a):=by
 cases a with
 | lit n=>exact Iff.rfl
 | sym e=>exact ⟨fun h=>h e rfl,fun h x hx=>by subst hx;exact h⟩
theorem nmL_iff:∀ {l:List SV} {K:List SV→Prop},nmL l K↔K l
 | [],K=>Iff.rfl
 | s::l,K=>by
  cases s<;>simp only[nmL]<;>first
   | (rw[nmA_iff];exact nmL_iff (K:=fun l'=>K (_::l')))
   | exact nmL_iff (K:=fun l'=>K (_::l'))
theorem nm_iff {b:Bool} {v:SV} {K:SV→Prop}:nm b v K↔K v:=by
 cases b with
 | false=>exact Iff.rfl
 | true=>
  cases v<;>simp only[nm,cond_true]<;>first
   | exact nmA_iff
   | exact nmL_iff (K:=fun l'=>K (_))
   | exact Iff.rfl
theorem nmG_iff {g b:Bool} {v:SV} {K:SV→Prop}:nmG g b v K↔K (litB g v):=by
 cases g with
 | false=>exact nm_iff
 | true=>
  cases v<;>simp only[nmG,litB]<;>try exact nm_iff
  rename_i x
  cases x with
  | lit x=>exact nm_iff
  | sym x=>
   constructor
   ·rintro ⟨h1,h2⟩
    cases x
    ·exact h2 rfl
    ·exact h1 rfl
   ·intro h
    exact ⟨fun e=>by subst e;exact h,fun e=>by subst e;exact h⟩
theorem den_litB {β:Env} {g:Bool} {s:SV} {v:Value} (h:Den β s v):Den β (litB g s) v:=by
 unfold litB
 split
 ·simpa [Den,B.val]using h
 ·exact h
theorem then_iff {p:Ob} {K:Prop}:p.then K↔p.ok∧K:=by
 cases p with
 | none=>exact ⟨fun h=>⟨trivial,h⟩,fun h=>h.2⟩
 | some p=>exact Iff.rfl
structure Rel (β:Env) (T:Nat→Nat→Prop) (w0:World) (st:St) (a:Act) (w:World):Prop where
 nt:st.nt≤4194304
 size:a.tmps.size=st.nt
 defers:a.defers= []
 slots:∀i s,st.slots.get i=some s→∃v,a.tmps[i]? =some v∧Den β s v
 mem:Holds β T st.m w0 w
 glob:∀g,β (gid g)=some (g,0)
theorem Rel.ev {β:Env} {T:Nat→Nat→Prop} {w0 w:World} {st:St} {a:Act} (h:Rel β T w0 st a w) (x:Operand):Den β (evS st.slots x) (a.eval x):=by
 cases x with
 | tmp t=>
  simp only[evS]
  cases hs:st.slots.get t with
  | none=>simp[Den]
  | some s=>
   obtain ⟨v,h1,h2⟩:=h.slots t s hs
   simp only[Act.eval,Array.getD_eq_getD_getElem?,h1,Option.getD_some]
   exact h2
 | const v=>exact den_ofV β v
 | global g=>
  simp only[evS,Den,Act.eval]
  exact ⟨g,0,h.glob g,rfl⟩
 | func f=>simp[evS,Den,Act.eval]
theorem get_putS {nt:Nat} {sl:Tr SV} {d i:Nat} {v s:SV} (h:(putS nt sl (some d) v).get i=some s):(i=d∧d<nt∧s=v)∨((i≠d∨nt≤d)∧sl.get i=some s):=by
 simp only[putS]at h
 cases hb:Nat.blt d nt with
 | false=>
  rw[hb]at h
  have:¬d<nt:=fun hh=>by rw[blt_iff.2 hh]at hb;cases hb
  exact .inr ⟨.inr (by omega),h⟩
 | true=>
  rw[hb]at h
  have:=blt_iff.1 hb
  rcases Tr.get_set h with ⟨rfl,rfl⟩ | ⟨h1,h2⟩
  ·exact .inl ⟨rfl,this,rfl⟩
  ·exact .inr ⟨.inl h1,h2⟩
theorem Rel.upd {β β':Env} {T:Nat→Nat→Prop} {w0 w w':World} {st:St} {a:Act} (h:Rel β T w0 st a w) (hle:EnvLe β β') {d:Option Tmp} {sv:SV} {v:Value} {m:Mem} (hd:Den β' sv v)
  (hm:Holds β' T m w0 w'):Rel β' T w0 (st.upd d sv m) (a.put d v) w':=by
 refine ⟨h.nt,?_,?_,?_,hm,fun g=>hle _ _ (h.glob g)⟩
 ·cases d with
  | none=>exact h.size
  | some d=>simp only[Act.put,Array.size_setIfInBounds];exact h.size
 ·cases d with
  | none=>exact h.defers
  | some d=>exact h.defers
 ·intro i s hi
  cases d with
  | none=>
   obtain ⟨u,h1,h2⟩:=h.slots i s hi
   exact ⟨u,h1,Den.mono hle _ _ h2⟩
  | some d=>
   simp only[Act.put,Array.getElem?_setIfInBounds]
   rcases get_putS hi with ⟨rfl,h1,rfl⟩ | ⟨h1,h2⟩
   ·rw[if_pos rfl,if_pos (by rw[h.size];exact h1)]
    exact ⟨v,rfl,hd⟩
   ·obtain ⟨u,h3,h4⟩:=h.slots i s h2
    rw[if_neg (by
     rintro rfl
     rcases h1 with h1 | h1
     ·exact h1 rfl
     ·have:=(Array.getElem?_eq_some_iff.1 h3).1
      rw[h.size]at this
      omega)]
    exact ⟨u,h3,Den.mono hle _ _ h4⟩
def Fresh (β:Env) (n:Nat):Prop:=∀j,j<4→β (rid n j)=none
theorem rid_ne {n n' j j':Nat} (h:n≠n') (hj:j<4) (hj':j'<4):rid n j≠rid n' j':=by unfold rid;omega
theorem Ext.fresh {β β':Env} {n n':Nat} (h:Ext β β' n) (hne:n'≠n) (hf:Fresh β n'):Fresh β' n':=fun j hj=>by
 rw[h _ (fun j' hj'=>rid_ne hne hj hj')];exact hf j hj
section
variable {P:Program} {Γ:Cx P} {β:Env} {T:Nat→Nat→Prop} {m0:Mem} {w0 w:World} {a:Act} {st:St} {o:Oper} {Q:Exit→Act→World→Prop}
def Then (β:Env) (T:Nat→Nat→Prop) (m0:Mem) (w0:World) (n:Nat) (st:St) (K:St→Prop):Act→World→Prop:=
 fun a' w'=>∃β' st',EnvLe β β'∧Ext β β' n∧(st'.nr=st.nr∧st'.nt=st.nt)∧Rel β' T w0 st' a' w'∧MemLe m0 st'.m∧K st'
theorem exC_sound (h:Rel β T w0 st a w) (hm:MemLe m0 st.m) {gd:Bool} {c:Cl} {n:Nat} (hf:Fresh β n) {K:St→Prop}
  (hx:exC Γ gd m0 c n (evS st.slots) st.m o.op fun v m=>K (st.upd o.dst v m)):o.wp P a w (Then β T m0 w0 n st K) Q:=by
 have W:(bif Nat.blt (rid n 3) 4194304 then opW Γ m0 n st.m (evS st.slots) o.op (fun v m=>K (st.upd o.dst v m))else False)→o.wp P a w (Then β T m0 w0 n st K) Q:=by
  intro hx
  cases hb:Nat.blt (rid n 3) 4194304 with
  | false=>rw[hb]at hx;exact hx.elim
  | true=>
   rw[hb]at hx
   simp only[cond_true]at hx
   refine Oper.wp_mono ?_ (opW_sound h.glob h.mem hm hf hb h.ev hx)
   rintro a' w' ⟨β',v,sv,m',h1,rfl,h2,h3,h4,h5⟩
   exact ⟨β',st.upd o.dst sv m',h1.le hf,h1,⟨rfl,rfl⟩,h.upd (h1.le hf) h2 h3,h4,h5⟩
 cases c with
 | t=>
  simp only[exC]at hx
  split at hx
  ·rename_i p nmd v ho
   rw[then_iff,nmG_iff]at hx
   refine Oper.wp_mono ?_ (opR_sound h.glob (h.mem.part hm) h.ev ho hx.1)
   rintro a' w' ⟨u,rfl,hd,hfr⟩
   exact ⟨β,st.upd o.dst (litB gd v) st.m,EnvLe.refl _,ext_refl _ _,⟨rfl,rfl⟩,h.upd (EnvLe.refl _) (den_litB hd) (h.mem.grow hfr),hm,hx.2⟩
  ·exact hx.elim
 | r=>
  simp only[exC]at hx
  split at hx
  ·rename_i p nmd v ho
   rw[then_iff,nmG_iff]at hx
   refine Oper.wp_mono ?_ (opR_sound h.glob h.mem h.ev ho hx.1)
   rintro a' w' ⟨u,rfl,hd,hfr⟩
   exact ⟨β,st.upd o.dst (litB gd v) st.m,EnvLe.refl _,ext_refl _ _,⟨rfl,rfl⟩,h.upd (EnvLe.refl _) (den_litB hd) (h.mem.grow hfr),hm,hx.2⟩
  ·exact hx.elim
 | a=>exact W hx
 | w=>exact W hx
theorem wn_sound (h:Rel β T w0 st a w) (ops:Array Oper):
  match wnOf ops.toList st.slots o with
  | .yes=>Region.wanted o (yielded ops a.tmps)=true
  | .no=>Region.wanted o (yielded ops a.tmps)=false
  | .ask b=>Region.wanted o (yielded ops a.tmps)=b
  | .stop=>True:=by
 unfold wnOf Region.wanted
 cases hg:o.guard with
 | none=>simp
 | some g=>
  obtain ⟨j,want⟩:=g
  simp only
  have hy:yielded ops a.tmps j=(match ((ops.toList[j]?).bind (·.dst)).bind (a.tmps[·]?)with | some (.bool b)=>some b | _=>none):=by
   unfold yielded
   rw[Array.getElem?_toList]
   cases ((ops[j]?).bind (·.dst)).bind (a.tmps[·]?)with
   | none=>rfl
   | some v=>cases v<;>rfl
  rw[hy]
  cases hd:(ops.toList[j]?).bind (·.dst)with
  | none=>simp
  | some d=>
   simp only[Option.bind_some]
   cases hs:st.slots.get d with
   | none=>simp
   | some s=>
    obtain ⟨v,h1,h2⟩:=h.slots d s hs
    rw[h1]
    cases s<;>(try trivial)
    ·rename_i b
     simp only[Den]at h2
     subst h2
     cases b with
     | lit b=>cases b<;>cases want<;>rfl
     | sym b=>cases b<;>cases want<;>rfl
    ·rename_i u
     simp only[Den]at h2
     subst h2
     cases v<;>first | trivial | rfl
theorem exec1_sound (h:Rel β T w0 st a w) (hm:MemLe m0 st.m) {ops:Array Oper} {c:Cl} {i:Nat} (ho:ops[i]? =some o) (hf:Fresh β (st.nr+i)) {K:St→Prop}
  (hx:exec1 Γ ops.toList m0 c i o st K):wpOp P ops Q i (Then β T m0 w0 (st.nr+i) st K) a w:=by
 unfold wpOp
 simp only[ho]
 have hw:=wn_sound (o:=o) h ops
 have no:K (st.upd o.dst (.val undef) st.m)→Then β T m0 w0 (st.nr+i) st K (a.put o.dst undef) w:=fun hk=>
  ⟨β,st.upd o.dst (.val undef) st.m,EnvLe.refl _,ext_refl _ _,⟨rfl,rfl⟩,h.upd (EnvLe.refl _) (by simp[Den]) h.mem,hm,hk⟩
 unfold exec1 ex1 at hx
 generalize wnOf ops.toList st.slots o=wn at hx hw
 cases wn with
 | yes=>
  rw[hw,if_pos rfl]
  exact .inl (exC_sound h hm hf hx)
 | no=>
  rw[hw,if_neg (by simp)]
  exact no hx
 | ask b=>
  simp only at hx hw
  rw[hw]
  cases b with
  | true=>rw[if_pos rfl];exact .inl (exC_sound h hm hf (hx.1 rfl))
  | false=>rw[if_neg (by simp)];exact no (hx.2 rfl)
 | stop=>exact hx.elim
end
section
variable {P:Program} {Γ:Cx P}
theorem mem_call_arg {c:Call} {x:Operand} (h:x∈c.args.toList):x∈(Op.call c).operands.toList:=by
 simp only[Op.operands,Call.operands,Array.toList_append,List.mem_append]
 exact .inr h
theorem map_congr_ev {ev ev':Operand→SV} {l:List Operand} (h:∀x∈l,ev x=ev' x):l.map ev=l.map ev':=List.map_congr_left h
theorem map2_congr_ev {ev ev':Operand→SV} {l:List (Nat×Operand)} (h:∀x∈l,ev x.2=ev' x.2):(l.map fun (i,x)=>(i,ev x))=l.map fun (i,x)=>(i,ev' x):=
 List.map_congr_left fun x hx=>by obtain ⟨i,y⟩:=x;simp only[h (i,y) hx]
theorem arg_congr {ev ev':Operand→SV} {c:Call} (h:∀x∈(Op.call c).operands.toList,ev x=ev' x) (i:Nat):(c.args[i]?).map ev=(c.args[i]?).map ev':=by
 cases hx:c.args[i]? with
 | none=>rfl
 | some x=>
  simp only[Option.map_some,Option.some.injEq]
  exact h x (mem_call_arg (by
   rw[←Array.getElem?_toList]at hx
   exact List.mem_of_getElem? hx))
theorem opR_congr {m:Mem} {ev ev':Operand→SV} {op:Op} (h:∀x∈op.operands.toList,ev x=ev' x):opR Γ m ev op=opR Γ m ev' op:=by
 cases op<;>try rfl
 case move x=>simp only[opR,h x (by simp[Op.operands])]
 case assign x=>simp only[opR,h x (by simp[Op.operands])]
 case pick c a b=>simp only[opR,h c (by simp[Op.operands]),h a (by simp[Op.operands]),h b (by simp[Op.operands])]
 case binOp op t x y yt=>simp only[opR,h x (by simp[Op.operands]),h y (by simp[Op.operands])]
 case unOp op t x=>simp only[opR,h x (by simp[Op.operands])]
 case convert s d x=>simp only[opR,h x (by simp[Op.operands])]
 case extract x i=>simp only[opR,h x (by simp[Op.operands])]
 case nilCheck x=>simp only[opR,h x (by simp[Op.operands])]
 case sliceToArrayPointer t x=>simp only[opR,h x (by simp[Op.operands])]
 case fieldAddr s x f=>simp only[opR,h x (by simp[Op.operands])]
 case indexAddr t x i=>simp only[opR,h x (by simp[Op.operands]),h i (by simp[Op.operands])]
 case index t x i=>simp only[opR,h x (by simp[Op.operands]),h i (by simp[Op.operands])]
 case field t x f=>simp only[opR,h x (by simp[Op.operands])]
 case load t x=>simp only[opR,h x (by simp[Op.operands])]
 case makeInterface t x=>simp only[opR,h x (by simp[Op.operands])]
 case build t parts=>
  simp only[opR]
  rw[map2_congr_ev fun x hx=>h x.2 (by simp only[Op.operands,List.mem_map];exact ⟨x,hx,rfl⟩)]
 case slice t x lo hi mx=>
  have e1:lo.map ev=lo.map ev':=by cases lo with | none=>rfl | some q=>simp only[Option.map_some,h q (by simp[Op.operands])]
  have e2:hi.map ev=hi.map ev':=by cases hi with | none=>rfl | some q=>simp only[Option.map_some,h q (by simp[Op.operands])]
  have e3:mx.map ev=mx.map ev':=by cases mx with | none=>rfl | some q=>simp only[Option.map_some,h q (by simp[Op.operands])]
  simp only[opR,h x (by simp[Op.operands]),e1,e2,e3]
 case call c=>
  simp only[opR,arg_congr h,map_congr_ev (l:=c.args.toList) fun x hx=>h x (mem_call_arg hx)]
theorem opW_congr {m0 m:Mem} {n:Nat} {ev ev':Operand→SV} {op:Op} {K:SV→Mem→Prop} (h:∀x∈op.operands.toList,ev x=ev' x):opW Γ m0 n m ev op K=opW Γ m0 n m ev' op K:=by
 cases op<;>try rfl
 case box t x=>simp only[opW,h x (by simp[Op.operands])]
 case store t x v=>simp only[opW,h x (by simp[Op.operands]),h v (by simp[Op.operands])]
 case buildSlice t len parts=>
  simp only[opW]
  rw[map2_congr_ev fun x hx=>h x.2 (by simp only[Op.operands,List.mem_map];exact ⟨x,hx,rfl⟩)]
 case makeSlice t x y=>
  simp only[opW,h x (by simp[Op.operands])]
 case call c=>
  simp only[opW,arg_congr h,map_congr_ev (l:=c.args.toList) fun x hx=>h x (mem_call_arg hx)]
theorem opW_mono {m0 m:Mem} {n:Nat} {ev:Operand→SV} {op:Op} {K K':SV→Mem→Prop} (hk:∀v m',K v m'→K' v m') (h:opW Γ m0 n m ev op K):opW Γ m0 n m ev op K':=by
 cases op<;>(try exact h.elim)
 case alloc e=>simp only[opW]at *;split at h<;>simp_all
 case box t x=>simp only[opW]at *;split at h<;>simp_all
 case store t x v=>
  simp only[opW]at *
  split at h
  ·rename_i r o l s hx hl hs
   try simp only[hx,hl,hs]
   cases hb:(Nat.beq l.length s && Nat.blt r 4194304)with
   | false=>rw[hb]at h;exact h.elim
   | true=>
    rw[hb]at h
    simp only[cond_true]at *
    split at h
    ·rename_i g hg hg0
     try simp only[hg,hg0]
     cases hro:g.ro with
     | true=>rw[hro]at h;exact h.elim
     | false=>
      rw[hro]at h
      simp only[cond_false]at *
      split at h
      ·rename_i p c hw
       try simp only[hw]
       rw[then_iff]at *
       exact ⟨h.1,hk _ _ h.2⟩
      ·exact h.elim
    ·exact h.elim
  ·exact h.elim
 case buildSlice t len parts=>
  simp only[opW]at *
  split at h
  ·rename_i e ht
   try simp only[ht]
   split at h
   ·rename_i z s hz hs
    try simp only[hz,hs]
    generalize hb:(Nat.ble (len*s) 4096 && Nat.ble 1 (len*s) && Nat.beq (cellsOfV z).length s)=bb at *
    cases bb with
    | true=>
     simp only[cond_true]at *
     split at h
     ·rename_i l hl
      try simp only[hl]
      exact hk _ _ h
     ·exact h.elim
    | false=>
     simp only[cond_false]at *
     split at h
     ·rename_i k hl hz'
      try simp only[hl,hz']
      exact hk _ _ h
     ·exact h.elim
   ·exact h.elim
  ·exact h.elim
 case makeSlice t x y=>
  simp only[opW]at *
  cases hb:sameArg x y with
  | false=>rw[hb]at h;exact h.elim
  | true=>
   rw[hb]at h
   simp only[cond_true]at *
   split at h
   ·rename_i e k0 l ht hl
    try simp only[ht,hl]
    split at h
    ·rename_i z s by_ hz hs hby
     try simp only[hz,hs,hby]
     split at h
     ·rename_i k hk'
      try simp only[hk']
      cases hzs:Nat.beq (cellsOfV z).length s with
      | false=>rw[hzs]at h;exact h.elim
      | true=>
       rw[hzs]at h
       simp only[cond_true]at *
       exact ⟨h.1,hk _ _ h.2⟩
     ·exact h.elim
    ·exact h.elim
   ·exact h.elim
 case call c=>
  simp only[opW]at *
  split at h
  ·rename_i f hc
   split at h
   ·rename_i q hq
    try simp only[hc,hq]
    cases hn:noMem m0 || q.nw with
    | false=>rw[hn]at h;exact h.elim
    | true=>rw[hn]at h;exact q.mono _ _ _ _ _ hk h
   ·exact h.elim
  ·rename_i hc
   split at h
   ·rename_i e r off len cap src ht hdst hsrc
    try simp only[hc,ht,hdst,hsrc]
    split at h
    ·rename_i d x g hs hd hx hg
     try simp only[hs,hd,hx,hg]
     cases hro:g.ro with
     | true=>rw[hro]at h;exact h.elim
     | false=>
      rw[hro]at h
      simp only[cond_false]at *
      cases hkk:decide (d.k=x.k)with
      | false=>rw[hkk]at h;exact h.elim
      | true=>
       rw[hkk]at h
       simp only[cond_true]at *
       exact ⟨h.1,hk _ _ h.2⟩
    ·exact h.elim
   ·exact h.elim
  ·rename_i hc
   split at h
   ·rename_i e e2 dst src ht ht2 hdst hsrc
    try simp only[hc,ht,ht2,hdst,hsrc]
    split at h
    ·rename_i s by_ z d x hs hby hz hd hx
     try simp only[hs,hby,hz,hd,hx]
     split at h
     ·rename_i k hk'
      try simp only[hk']
      cases hb:(Nat.ble 1 s && Nat.beq (cellsOfV z).length s)with
      | false=>rw[hb]at h;exact h.elim
      | true=>
       rw[hb]at h
       simp only[cond_true,appendS]at *
       cases hb2:(Sl.kO k d && Sl.kO k x && Sl.freeO m d)with
       | false=>rw[hb2]at h;exact h.elim
       | true=>
        rw[hb2]at h
        simp only[cond_true]at *
        refine ⟨h.1,?_⟩
        cases hb3:Sl.ownO m d with
        | true=>
         rw[hb3]at h
         exact fun cap ys h1=>hk _ _ (h.2 cap ys h1)
        | false=>
         rw[hb3]at h
         exact ⟨fun e=>hk _ _ (h.2.1 e),fun e cap ys h1=>hk _ _ (h.2.2 e cap ys h1)⟩
     ·exact h.elim
    ·exact h.elim
   ·exact h.elim
  ·exact h.elim
end
section
variable {P:Program} {Γ:Cx P}
theorem opW_live {m0 m:Mem} {n:Nat} {ev:Operand→SV} {op:Op} {K:SV→Mem→Prop} (h:opW Γ m0 n m ev op K):∃v m',K v m':=by
 cases op<;>(try exact h.elim)
 case alloc e=>simp only[opW]at h;split at h;exact ⟨_,_,h⟩;exact h.elim
 case box t x=>simp only[opW]at h;split at h;exact ⟨_,_,h⟩;exact h.elim
 case store t x v=>
  simp only[opW]at h
  split at h
  ·rename_i r o l s hx hl hs
   cases hb:(Nat.beq l.length s && Nat.blt r 4194304)with
   | false=>rw[hb]at h;exact h.elim
   | true=>
    rw[hb]at h
    simp only[cond_true]at h
    split at h
    ·rename_i g hg hg0
     cases hro:g.ro with
     | true=>rw[hro]at h;exact h.elim
     | false=>
      rw[hro]at h
      simp only[cond_false]at h
      split at h
      ·rw[then_iff]at h
       exact ⟨_,_,h.2⟩
      ·exact h.elim
    ·exact h.elim
  ·exact h.elim
 case buildSlice t len parts=>
  simp only[opW]at h
  split at h
  ·split at h
   ·rename_i z s hz hs
    generalize hb:(Nat.ble (len*s) 4096 && Nat.ble 1 (len*s) && Nat.beq (cellsOfV z).length s)=bb at h
    cases bb with
    | true=>simp only[cond_true]at h;split at h;exact ⟨_,_,h⟩;exact h.elim
    | false=>simp only[cond_false]at h;split at h;exact ⟨_,_,h⟩;exact h.elim
   ·exact h.elim
  ·exact h.elim
 case makeSlice t x y=>
  simp only[opW]at h
  cases hb:sameArg x y with
  | false=>rw[hb]at h;exact h.elim
  | true=>
   rw[hb]at h
   simp only[cond_true]at h
   split at h
   ·split at h
    ·rename_i z s by_ hz hs hby
     split at h
     ·cases hzs:Nat.beq (cellsOfV z).length s with
      | false=>rw[hzs]at h;exact h.elim
      | true=>rw[hzs]at h;exact ⟨_,_,h.2⟩
     ·exact h.elim
    ·exact h.elim
   ·exact h.elim
 case call c=>
  simp only[opW]at h
  split at h
  ·split at h
   ·rename_i q hq
    cases hn:noMem m0 || q.nw with
    | false=>rw[hn]at h;exact h.elim
    | true=>rw[hn]at h;exact q.live _ _ _ _ h
   ·exact h.elim
  ·split at h
   ·split at h
    ·rename_i d x g hs hd hx hg
     cases hro:g.ro with
     | true=>rw[hro]at h;exact h.elim
     | false=>
      rw[hro]at h
      simp only[cond_false]at h
      cases hkk:decide (d.k=x.k)with
      | false=>rw[hkk]at h;exact h.elim
      | true=>rw[hkk]at h;exact ⟨_,_,h.2⟩
    ·exact h.elim
   ·exact h.elim
  ·split at h
   ·split at h
    ·rename_i s by_ z d x hs hby hz hd hx
     split at h
     ·rename_i k hk'
      cases hb:(Nat.ble 1 s && Nat.beq (cellsOfV z).length s)with
      | false=>rw[hb]at h;exact h.elim
      | true=>
       rw[hb]at h
       simp only[cond_true,appendS]at h
       cases hb2:(Sl.kO k d && Sl.kO k x && Sl.freeO m d)with
       | false=>rw[hb2]at h;exact h.elim
       | true=>
        rw[hb2]at h
        simp only[cond_true]at h
        have e1:(Sl.rowO s d).length=(Sl.lenO d).val*s:=rowO_length (by
         have hfit:=h.1.1
         cases d with
         | none=>trivial
         | some sl=>
          simp only[Sl.fits,Sl.reads]at *
          have:=Nat.mul_le_mul_right s hfit.1
          omega)
        have e2:(Sl.rowO s x).length=(Sl.lenO x).val*s:=rowO_length h.1.2.1
        have e3:(Sl.rowO s d++Sl.rowO s x).length=((Sl.lenO d).val+(Sl.lenO x).val)*s:=by rw[List.length_append,e1,e2,Nat.add_mul]
        have e4:(Sl.rowO s d++Sl.rowO s x).take (((Sl.lenO d).val+(Sl.lenO x).val)*s)=Sl.rowO s d++Sl.rowO s x:=List.take_of_length_le (by rw[e3];exact Nat.le_refl _)
        cases hb3:Sl.ownO m d with
        | true=>
         rw[hb3]at h
         exact ⟨_,_,h.2 ((Sl.lenO d).val+(Sl.lenO x).val) _ ⟨Nat.le_refl _,e3,e4⟩⟩
        | false=>
         rw[hb3]at h
         rcases Nat.eq_zero_or_pos ((Sl.lenO d).val+(Sl.lenO x).val)with h0 | h0
         ·exact ⟨_,_,h.2.1 h0⟩
         ·exact ⟨_,_,h.2.2 h0 ((Sl.lenO d).val+(Sl.lenO x).val) _ ⟨Nat.le_refl _,e3,e4⟩⟩
     ·exact h.elim
    ·exact h.elim
   ·exact h.elim
  ·exact h.elim
def TR (Γ:Cx P) (gd:Bool) (m:Mem) (ev:Operand→SV) (wn:Wn) (op:Op) (u:SV):Prop:=
 match wn with
 | .yes=>∃p nmd v,opR Γ m ev op=some ⟨p,nmd,v⟩∧p.ok∧u=litB gd v
 | .no=>u= .val undef
 | .ask b=>(b=true∧∃p nmd v,opR Γ m ev op=some ⟨p,nmd,v⟩∧p.ok∧u=litB gd v)∨(b=false∧u= .val undef)
 | .stop=>False
theorem TR.uniq {gd:Bool} {m:Mem} {ev:Operand→SV} {wn:Wn} {op:Op} {u v:SV} (h:TR Γ gd m ev wn op u) (k:TR Γ gd m ev wn op v):u=v:=by
 cases wn with
 | yes=>
  obtain ⟨p,n,x,h1,_,rfl⟩:=h
  obtain ⟨q,n',y,k1,_,rfl⟩:=k
  rw[h1]at k1
  injection k1 with k1
  injection k1 with _ _ e
  rw[e]
 | no=>exact h.trans k.symm
 | ask b=>
  rcases h with ⟨hb,p,n,x,h1,_,rfl⟩ | ⟨hb,h⟩<;>rcases k with ⟨kb,q,n',y,k1,_,rfl⟩ | ⟨kb,k⟩
  ·rw[h1]at k1
   injection k1 with k1
   injection k1 with _ _ e
   rw[e]
  ·rw[hb]at kb;cases kb
  ·rw[hb]at kb;cases kb
  ·exact h.trans k.symm
 | stop=>exact h.elim
theorem exC_read {gd:Bool} {m:Mem} {ev:Operand→SV} {op:Op} {k:SV→Prop}:
  (match opR Γ m ev op with | some ⟨p,nmd,v⟩=>p.then (nmG gd nmd v k) | none=>False)↔∃u,(∃p nmd v,opR Γ m ev op=some ⟨p,nmd,v⟩∧p.ok∧u=litB gd v)∧k u:=by
 constructor
 ·intro h
  split at h
  ·rename_i p nmd v ho
   rw[then_iff,nmG_iff]at h
   exact ⟨litB gd v,⟨p,nmd,v,by assumption,h.1,rfl⟩,h.2⟩
  ·exact h.elim
 ·rintro ⟨u,⟨p,nmd,v,ho,hp,rfl⟩,hk⟩
  rw[ho]
  simp only
  rw[then_iff,nmG_iff]
  exact ⟨hp,hk⟩
theorem ex1_read {gd:Bool} {m0 m mm:Mem} {c:Cl} (hc:(c= .t∧mm=m0)∨(c= .r∧mm=m)) {n:Nat} {ev:Operand→SV} {wn:Wn} {op:Op} {k:SV→Mem→Prop}:
  ex1 Γ gd m0 c n ev m wn op k↔∃u,TR Γ gd mm ev wn op u∧k u m:=by
 have hx:exC Γ gd m0 c n ev m op k↔∃u,(∃p nmd v,opR Γ mm ev op=some ⟨p,nmd,v⟩∧p.ok∧u=litB gd v)∧k u m:=by
  rcases hc with ⟨rfl,rfl⟩ | ⟨rfl,rfl⟩
  ·exact exC_read (k:=fun v=>k v m)
  ·exact exC_read (k:=fun v=>k v _)
 cases wn with
 | yes=>exact hx
 | no=>exact ⟨fun h=>⟨_,rfl,h⟩,fun ⟨u,h1,h2⟩=>by rw[show u= .val undef from h1]at h2;exact h2⟩
 | ask b=>
  constructor
  ·rintro ⟨h1,h2⟩
   cases b with
   | true=>
    obtain ⟨u,h3,h4⟩:=hx.1 (h1 rfl)
    exact ⟨u,.inl ⟨rfl,h3⟩,h4⟩
   | false=>exact ⟨_,.inr ⟨rfl,rfl⟩,h2 rfl⟩
  ·rintro ⟨u,h1 | h1,h2⟩
   ·obtain ⟨rfl,h3⟩:=h1
    exact ⟨fun _=>hx.2 ⟨u,h3,h2⟩,fun h=>(by cases h)⟩
   ·obtain ⟨rfl,rfl⟩:=h1
    exact ⟨fun h=>(by cases h),fun _=>h2⟩
 | stop=>exact ⟨fun h=>h.elim,fun ⟨u,h1,_⟩=>h1⟩
theorem exC_mono {gd:Bool} {m0 m:Mem} {c:Cl} {n:Nat} {ev:Operand→SV} {op:Op} {k k':SV→Mem→Prop} (hk:∀v m',k v m'→k' v m') (h:exC Γ gd m0 c n ev m op k):exC Γ gd m0 c n ev m op k':=by
 have W:(bif Nat.blt (rid n 3) 4194304 then opW Γ m0 n m ev op k else False)→(bif Nat.blt (rid n 3) 4194304 then opW Γ m0 n m ev op k' else False):=by
  cases Nat.blt (rid n 3) 4194304 with
  | false=>exact id
  | true=>exact opW_mono hk
 cases c with
 | t=>
  obtain ⟨u,h1,h2⟩:=exC_read (k:=fun v=>k v m) |>.1 h
  exact exC_read (k:=fun v=>k' v m) |>.2 ⟨u,h1,hk _ _ h2⟩
 | r=>
  obtain ⟨u,h1,h2⟩:=exC_read (k:=fun v=>k v m) |>.1 h
  exact exC_read (k:=fun v=>k' v m) |>.2 ⟨u,h1,hk _ _ h2⟩
 | a=>exact W h
 | w=>exact W h
theorem ex1_mono {gd:Bool} {m0 m:Mem} {c:Cl} {n:Nat} {ev:Operand→SV} {wn:Wn} {op:Op} {k k':SV→Mem→Prop} (hk:∀v m',k v m'→k' v m') (h:ex1 Γ gd m0 c n ev m wn op k):ex1 Γ gd m0 c n ev m wn op k':=by
 cases wn with
 | yes=>exact exC_mono hk h
 | no=>exact hk _ _ h
 | ask b=>exact ⟨fun e=>exC_mono hk (h.1 e),fun e=>hk _ _ (h.2 e)⟩
 | stop=>exact h
theorem exC_live {gd:Bool} {m0 m:Mem} {c:Cl} {n:Nat} {ev:Operand→SV} {op:Op} {k:SV→Mem→Prop} (h:exC Γ gd m0 c n ev m op k):∃v m',k v m':=by
 have W:(bif Nat.blt (rid n 3) 4194304 then opW Γ m0 n m ev op k else False)→∃v m',k v m':=by
  cases Nat.blt (rid n 3) 4194304 with
  | false=>exact fun h=>h.elim
  | true=>exact opW_live
 cases c with
 | t=>
  obtain ⟨u,h1,h2⟩:=exC_read (k:=fun v=>k v m) |>.1 h
  exact ⟨u,m,h2⟩
 | r=>
  obtain ⟨u,h1,h2⟩:=exC_read (k:=fun v=>k v m) |>.1 h
  exact ⟨u,m,h2⟩
 | a=>exact W h
 | w=>exact W h
theorem ex1_live {gd:Bool} {m0 m:Mem} {c:Cl} {n:Nat} {ev:Operand→SV} {wn:Wn} {op:Op} {k:SV→Mem→Prop} (h:ex1 Γ gd m0 c n ev m wn op k):∃v m',k v m':=by
 cases wn with
 | yes=>exact exC_live h
 | no=>exact ⟨_,_,h⟩
 | ask b=>
  cases b with
  | true=>exact exC_live (h.1 rfl)
  | false=>exact ⟨_,_,h.2 rfl⟩
 | stop=>exact h.elim
def app (n:Nat) (h:Option Reg) (m:Mem):Mem:=match h with | none=>m | some g=>put m (rid n 0) g
def AR (Γ:Cx P) (n:Nat) (ev:Operand→SV) (wn:Wn) (op:Op) (u:SV) (h:Option Reg):Prop:=
 ∀(gd:Bool) (m0 m:Mem) (k:SV→Mem→Prop),ex1 Γ gd m0 .a n ev m wn op k↔k u (app n h m)
def makes:Op→Bool
 | .alloc _ | .box .. | .buildSlice .. | .makeSlice .. =>true
 | _=>false
theorem opW_makes {m0 m:Mem} {n:Nat} {ev:Operand→SV} {op:Op} {K:SV→Mem→Prop} (hop:makes op=true) (h:opW Γ m0 n m ev op K):
  ∃u g,∀(m0' m':Mem) (k:SV→Mem→Prop),opW Γ m0' n m' ev op k↔k u (put m' (rid n 0) g):=by
 cases op<;>simp[makes]at hop
 case alloc e=>
  simp only[opW]at *
  split at h
  ·exact ⟨_,_,fun _ _ _=>Iff.rfl⟩
  ·exact h.elim
 case box t x=>
  simp only[opW]at *
  split at h
  ·exact ⟨_,_,fun _ _ _=>Iff.rfl⟩
  ·exact h.elim
 case buildSlice t len parts=>
  simp only[opW]at *
  split at h
  ·split at h
   ·rename_i z s hz hs
    generalize hb:(Nat.ble (len*s) 4096 && Nat.ble 1 (len*s) && Nat.beq (cellsOfV z).length s)=bb at h
    cases bb with
    | true=>
     simp only[cond_true]at *
     split at h
     ·exact ⟨_,_,fun _ _ _=>Iff.rfl⟩
     ·exact h.elim
    | false=>
     simp only[cond_false]at *
     split at h
     ·exact ⟨_,_,fun _ _ _=>Iff.rfl⟩
     ·exact h.elim
   ·exact h.elim
  ·exact h.elim
 case makeSlice t x y=>
  simp only[opW]at *
  cases hb:sameArg x y with
  | false=>rw[hb]at h;exact h.elim
  | true=>
   rw[hb]at h
   simp only[cond_true]at *
   split at h
   ·split at h
    ·rename_i z s by_ hz hs hby
     split at h
     ·cases hzs:Nat.beq (cellsOfV z).length s with
      | false=>rw[hzs]at h;exact h.elim
      | true=>
       rw[hzs]at h
       simp only[cond_true]at *
       exact ⟨_,_,fun _ _ _=>⟨fun h=>h.2,fun hk=>⟨h.1,hk⟩⟩⟩
     ·exact h.elim
    ·exact h.elim
   ·exact h.elim
theorem ex1_makes {gd:Bool} {m0 m:Mem} {n:Nat} {ev:Operand→SV} {wn:Wn} {op:Op} {K:SV→Mem→Prop} (hop:makes op=true) (h:ex1 Γ gd m0 .a n ev m wn op K):∃u g,AR Γ n ev wn op u g:=by
 have yes:exC Γ gd m0 .a n ev m op K→∃u g,∀(gd:Bool) (m0' m':Mem) (k:SV→Mem→Prop),exC Γ gd m0' .a n ev m' op k↔k u (app n (some g) m'):=by
  intro h
  simp only[exC]at *
  cases hb:Nat.blt (rid n 3) 4194304 with
  | false=>rw[hb]at h;exact h.elim
  | true=>
   rw[hb]at h
   obtain ⟨u,g,hh⟩:=opW_makes hop h
   exact ⟨u,g,fun _=>hh⟩
 cases wn with
 | yes=>
  obtain ⟨u,g,hh⟩:=yes h
  exact ⟨u,some g,hh⟩
 | no=>exact ⟨.val undef,none,fun _ _ _ _=>Iff.rfl⟩
 | ask b=>
  cases b with
  | true=>
   obtain ⟨u,g,hh⟩:=yes (h.1 rfl)
   exact ⟨u,some g,fun gd m0 m k=>⟨fun h=>(hh gd m0 m k).1 (h.1 rfl),fun h=>⟨fun _=>(hh gd m0 m k).2 h,fun e=>(by cases e)⟩⟩⟩
  | false=>exact ⟨.val undef,none,fun _ _ _ _=>⟨fun h=>h.2 rfl,fun h=>⟨fun e=>(by cases e),fun _=>h⟩⟩⟩
 | stop=>exact h.elim
end
theorem putS_comm (nt:Nat) (hnt:nt≤4194304) (sl:Tr SV) (d e:Option Tmp) (u v:SV) (h:∀x,d=some x→e≠some x):putS nt (putS nt sl d u) e v=putS nt (putS nt sl e v) d u:=by
 cases d with
 | none=>rfl
 | some d=>
  cases e with
  | none=>rfl
  | some e=>
   have hne:d≠e:=fun hh=>h d rfl (by rw[hh])
   simp only[putS]
   cases hd:Nat.blt d nt<;>cases he:Nat.blt e nt<;>simp only[cond_true,cond_false]
   have h1:=blt_iff.1 hd
   have h2:=blt_iff.1 he
   exact Tr.set_comm _ _ _ _ _ hne (blt_iff.2 (by omega)) (blt_iff.2 (by omega))
theorem get_putS_ne {nt:Nat} (hnt:nt≤4194304) {sl:Tr SV} {d:Option Tmp} {v:SV} {t:Nat} (h:d≠some t):(putS nt sl d v).get t=sl.get t:=by
 cases d with
 | none=>rfl
 | some d=>
  simp only[putS]
  cases hd:Nat.blt d nt with
  | false=>rfl
  | true=>
   have h1:=blt_iff.1 hd
   exact Tr.get_set_ne (blt_iff.2 (by omega)) (fun e=>h (by rw[e]))
theorem evS_putS {nt:Nat} (hnt:nt≤4194304) {sl:Tr SV} {d:Option Tmp} {v:SV} {x:Operand} (h:∀t,x= .tmp t→d≠some t):evS (putS nt sl d v) x=evS sl x:=by
 cases x with
 | tmp t=>simp only[evS];rw[get_putS_ne hnt (h t rfl)]
 | _=>rfl
theorem notIn_spec {d:Option Tmp} {o:Oper} {ops:List Oper} (h:notIn d o ops=true):
  (∀x∈o.op.operands.toList,∀t,x= .tmp t→d≠some t)∧(∀j w t,o.guard=some (j,w)→(ops[j]?).bind (·.dst)=some t→d≠some t)∧(∀t,o.dst=some t→d≠some t):=by
 cases d with
 | none=>exact ⟨fun _ _ _ _=>by simp,fun _ _ _ _ _=>by simp,fun _ _=>by simp⟩
 | some d=>
  simp only[notIn,Bool.and_eq_true,List.all_eq_true]at h
  obtain ⟨⟨h1,h2⟩,h3⟩:=h
  refine ⟨fun x hx t ht e=> ?_,fun j w t hg hd e=> ?_,fun t ht e=> ?_⟩
  ·have:=h1 x hx
   subst ht
   injection e with e
   subst e
   simp at this
  ·rw[hg]at h2
   simp only[hd]at h2
   injection e with e
   subst e
   simp at h2
  ·rw[ht]at h3
   injection e with e
   subst e
   simp at h3
theorem wnOf_putS {nt:Nat} (hnt:nt≤4194304) {ops:List Oper} {sl:Tr SV} {o:Oper} {d:Option Tmp} {v:SV} (h:notIn d o ops=true):wnOf ops (putS nt sl d v) o=wnOf ops sl o:=by
 obtain ⟨_,h2,_⟩:=notIn_spec h
 unfold wnOf
 cases hg:o.guard with
 | none=>rfl
 | some g=>
  obtain ⟨j,w⟩:=g
  simp only
  cases hd:(ops[j]?).bind (·.dst)with
  | none=>rfl
  | some t=>
   simp only
   rw[get_putS_ne hnt (h2 j w t hg hd)]
section
variable {P:Program} {Γ:Cx P}
theorem exC_congr {gd:Bool} {m0 m:Mem} {c:Cl} {n:Nat} {ev ev':Operand→SV} {op:Op} {k:SV→Mem→Prop} (h:∀x∈op.operands.toList,ev x=ev' x):exC Γ gd m0 c n ev m op k=exC Γ gd m0 c n ev' m op k:=by
 cases c<;>simp only[exC]<;>first | rw[opR_congr h] | rw[opW_congr h]
theorem ex1_congr {gd:Bool} {m0 m:Mem} {c:Cl} {n:Nat} {ev ev':Operand→SV} {wn:Wn} {op:Op} {k:SV→Mem→Prop} (h:∀x∈op.operands.toList,ev x=ev' x):ex1 Γ gd m0 c n ev m wn op k=ex1 Γ gd m0 c n ev' m wn op k:=by
 cases wn<;>simp only[ex1]<;>first | rfl | rw[exC_congr h]
theorem TR_congr {gd:Bool} {m:Mem} {ev ev':Operand→SV} {wn:Wn} {op:Op} {u:SV} (h:∀x∈op.operands.toList,ev x=ev' x):TR Γ gd m ev wn op u=TR Γ gd m ev' wn op u:=by
 cases wn<;>simp only[TR]<;>first | rfl | rw[opR_congr h]
structure It where
 i:Nat
 c:Cl
 o:Oper
def execI (Γ:Cx P) (ops:List Oper) (m0:Mem) (x:It) (st:St) (K:St→Prop):Prop:=exec1 Γ ops m0 x.c x.i x.o st K
def execR (Γ:Cx P) (ops:List Oper) (m0:Mem):List It→St→(St→Prop)→Prop
 | [],st,K=>K st
 | x::l,st,K=>execI Γ ops m0 x st fun st=>execR Γ ops m0 l st K
def mkIts:Nat→List (Cl×Oper)→List It
 | _,[]=> []
 | i,(c,o)::l=>⟨i,c,o⟩::mkIts (i+1) l
theorem execL_eq (ops:List Oper) (m0:Mem):∀(l:List (Cl×Oper)) (i:Nat) (st:St) (K:St→Prop),execL Γ ops m0 i l st K=execR Γ ops m0 (mkIts i l) st K
 | [],_,_,_=>rfl
 | (c,o)::l,i,st,K=>by
  simp only[execL,mkIts,execR,execI]
  congr 1
  funext st'
  exact execL_eq ops m0 l (i+1) st' K
theorem exec1_mono {ops:List Oper} {m0:Mem} {c:Cl} {i:Nat} {o:Oper} {st:St} {K K':St→Prop} (hk:∀v m,K (st.upd o.dst v m)→K' (st.upd o.dst v m)) (h:exec1 Γ ops m0 c i o st K):exec1 Γ ops m0 c i o st K':=
 ex1_mono (fun v m=>hk v m) h
theorem execR_mono {ops:List Oper} {m0:Mem}:∀(l:List It) {st:St} {K K':St→Prop} (_:∀st,K st→K' st),execR Γ ops m0 l st K→execR Γ ops m0 l st K'
 | [],_,_,_,hk,h=>hk _ h
 | _::l,_,_,_,hk,h=>by
  simp only[execR,execI]at *
  exact exec1_mono (fun _ _=>execR_mono l hk) h
def fits (x:It):Prop:=x.c= .a→makes x.o.op=true
theorem upd_comm {st:St} (hnt:st.nt≤4194304) {d e:Option Tmp} {u v:SV} {m m' m'':Mem} (h:∀x,d=some x→e≠some x):(st.upd d u m).upd e v m''=(st.upd e v m').upd d u m'':=by
 simp only[St.upd,putS_comm st.nt hnt st.slots d e u v h]
theorem swap {ops:List Oper} {m0:Mem} {x y:It} {st:St} {K:St→Prop} (hnt:st.nt≤4194304) (hne:x.i≠y.i) (hfx:fits x) (hfy:fits y)
  (hb:∀j,j≤max x.i y.i→Nat.blt (rid (st.nr+j) 3) 4194304=true) (hf:free ops (y.c,y.o) (x.c,x.o)=true)
  (h:execI Γ ops m0 y st fun st'=>execI Γ ops m0 x st' K):execI Γ ops m0 x st fun st'=>execI Γ ops m0 y st' K:=by
 obtain ⟨xi,xc,xo⟩:=x
 obtain ⟨yi,yc,yo⟩:=y
 simp only[free,Bool.and_eq_true]at hf
 obtain ⟨⟨hc,hyx⟩,hxy⟩:=hf
 obtain ⟨a1,_,a3⟩:=notIn_spec hyx
 obtain ⟨b1,_,b3⟩:=notIn_spec hxy
 simp only[execI,exec1]at *
 -- what the one sees behind the other
 have ex:∀v m,(ex1 Γ (guards ops xi) m0 xc ((st.upd yo.dst v m).nr+xi) (evS (st.upd yo.dst v m).slots) (st.upd yo.dst v m).m (wnOf ops (st.upd yo.dst v m).slots xo) xo.op)=ex1 Γ (guards ops xi) m0 xc (st.nr+xi) (evS st.slots) m (wnOf ops st.slots xo) xo.op:=by
  intro v m
  funext k
  show ex1 Γ (guards ops xi) m0 xc (st.nr+xi) (evS (putS st.nt st.slots yo.dst v)) m (wnOf ops (putS st.nt st.slots yo.dst v) xo) xo.op k=_
  rw[wnOf_putS hnt hyx]
  exact ex1_congr fun z hz=>evS_putS hnt (a1 z hz)
 have ey:∀v m,(ex1 Γ (guards ops yi) m0 yc ((st.upd xo.dst v m).nr+yi) (evS (st.upd xo.dst v m).slots) (st.upd xo.dst v m).m (wnOf ops (st.upd xo.dst v m).slots yo) yo.op)=ex1 Γ (guards ops yi) m0 yc (st.nr+yi) (evS st.slots) m (wnOf ops st.slots yo) yo.op:=by
  intro v m
  funext k
  show ex1 Γ (guards ops yi) m0 yc (st.nr+yi) (evS (putS st.nt st.slots xo.dst v)) m (wnOf ops (putS st.nt st.slots xo.dst v) yo) yo.op k=_
  rw[wnOf_putS hnt hxy]
  exact ex1_congr fun z hz=>evS_putS hnt (b1 z hz)
 simp only[ex]at h
 simp only[ey]
 have hdd:∀z,yo.dst=some z→xo.dst≠some z:=fun z hz=>b3 z hz
 have eqK:∀u v m m' m'',(st.upd yo.dst v m).upd xo.dst u m''=(st.upd xo.dst u m').upd yo.dst v m'':=fun u v m m' m''=>upd_comm hnt hdd
 by_cases ht:yc= .t
 · -- y leaves memory alone
  subst ht
  rw[ex1_read (.inl ⟨rfl,rfl⟩)]at h
  obtain ⟨v,hv,h⟩:=h
  refine ex1_mono (fun u m' hk=> ?_) h
  rw[ex1_read (.inl ⟨rfl,rfl⟩)]
  refine ⟨v,hv,?_⟩
  rw[←eqK u v st.m m' m']
  exact hk
 ·by_cases ht':xc= .t
  ·subst ht'
   simp only[ex1_read (c:= .t) (.inl ⟨rfl,rfl⟩)]at h ⊢
   obtain ⟨v,m',u,hu,_⟩:=ex1_live h
   refine ⟨u,hu,?_⟩
   refine ex1_mono (fun v m'' hk=> ?_) h
   obtain ⟨u',hu',hk⟩:=hk
   rw[TR.uniq hu' hu]at hk
   rw[←eqK u v m'' st.m m'']
   exact hk
  ·cases yc with
   | t=>exact absurd rfl ht
   | r=>
    cases xc<;>simp[clsFree]at hc ht'
    rw[ex1_read (.inr ⟨rfl,rfl⟩)]at h
    obtain ⟨v,hv,h⟩:=h
    rw[ex1_read (.inr ⟨rfl,rfl⟩)]at h
    obtain ⟨u,hu,h⟩:=h
    rw[ex1_read (.inr ⟨rfl,rfl⟩)]
    refine ⟨u,hu,?_⟩
    rw[ex1_read (.inr ⟨rfl,rfl⟩)]
    refine ⟨v,hv,?_⟩
    rw[←eqK u v st.m st.m st.m]
    exact h
   | a=>
    cases xc<;>simp[clsFree]at hc ht'
    obtain ⟨v,g,hv⟩:=ex1_makes (hfy rfl) h
    have h2:=(hv _ _ _ _).1 h
    obtain ⟨u,g',hu⟩:=ex1_makes (hfx rfl) h2
    have h3:=(hu _ _ _ _).1 h2
    refine (hu _ _ _ _).2 ((hv _ _ _ _).2 ?_)
    have hm:app (st.nr+yi) g (app (st.nr+xi) g' st.m)=app (st.nr+xi) g' (app (st.nr+yi) g st.m):=by
     cases g with
     | none=>rfl
     | some g=>
      cases g' with
      | none=>rfl
      | some g'=>
       simp only[app,put]
       have q1:=blt_iff.1 (hb xi (by show xi≤max xi yi;omega))
       have q2:=blt_iff.1 (hb yi (by show yi≤max xi yi;omega))
       exact Tr.set_comm _ _ _ _ _ (rid_ne (by simp at hne;omega) (by omega) (by omega)) (blt_iff.2 (by unfold rid at *;omega)) (blt_iff.2 (by unfold rid at *;omega))
    have:=eqK u v (app (st.nr+yi) g st.m) (app (st.nr+xi) g' st.m) (app (st.nr+yi) g (app (st.nr+xi) g' st.m))
    rw[←this,hm]
    exact h3
   | w=>cases xc<;>simp[clsFree]at hc ht'
theorem to_front {ops:List Oper} {m0:Mem} {x:It}:∀(xs:List It) {ys:List It} {st:St} {K:St→Prop},st.nt≤4194304→(∀y∈xs,x.i≠y.i∧fits y∧free ops (y.c,y.o) (x.c,x.o)=true)→fits x→
  (∀j,(j=x.i∨∃y∈xs,j≤y.i)→Nat.blt (rid (st.nr+j) 3) 4194304=true)→execR Γ ops m0 (xs++x::ys) st K→execR Γ ops m0 (x::(xs++ys)) st K
 | [],_,_,_,_,_,_,_,h=>h
 | y::xs,ys,st,K,hnt,hall,hfx,hb,h=>by
  obtain ⟨h1,h2,h3⟩:=hall y (by simp)
  have h4:execI Γ ops m0 y st fun st'=>execI Γ ops m0 x st' fun st''=>execR Γ ops m0 (xs++ys) st'' K:=by
   have h':exec1 Γ ops m0 y.c y.i y.o st fun st'=>execR Γ ops m0 (xs++x::ys) st' K:=h
   refine exec1_mono (fun v m hk=> ?_) h'
   exact to_front xs (st:=st.upd y.o.dst v m) hnt (fun z hz=>hall z (by simp[hz])) hfx (fun j hj=>hb j (by
    rcases hj with hj | ⟨z,hz,hj⟩
    ·exact .inl hj
    ·exact .inr ⟨z,by simp[hz],hj⟩)) hk
  refine swap hnt h1 hfx h2 (fun j hj=> ?_) h3 h4
  have key:∀a b,a≤b→Nat.blt (rid (st.nr+b) 3) 4194304=true→Nat.blt (rid (st.nr+a) 3) 4194304=true:=fun a b hab hh=>by
   have:=blt_iff.1 hh
   exact blt_iff.2 (by unfold rid at *;omega)
  rcases Nat.le_total x.i y.i with hh | hh
  ·exact hb j (.inr ⟨y,by simp,by omega⟩)
  ·exact key j x.i (by omega) (hb x.i (.inl rfl))
end
def Closed (ops:List Oper) (S:Nat→Prop):Prop:=∀j o,ops[j]? =some o→S j→∀e∈o.after.toList,Region.binds .any e=true→S e.on
def Anc (ops:List Oper) (x i:Nat):Prop:=∀S,Closed ops S→S i→S x
theorem maskOf_spec {ms:List Nat} {o:Oper} {x:Nat} (h:Nat.testBit (maskOf ms o) x=true):∃e∈o.after.toList,Region.binds .any e=true∧(x=e.on∨Nat.testBit (ms.getD e.on 0) x=true):=by
 unfold maskOf at h
 have key:∀(l:List Edge) (s:Nat),Nat.testBit (l.foldl (fun s e=>bif Region.binds .any e then s ||| (2 ^ e.on ||| ms.getD e.on 0)else s) s) x=true→
   Nat.testBit s x=true∨∃e∈l,Region.binds .any e=true∧(x=e.on∨Nat.testBit (ms.getD e.on 0) x=true):=by
  intro l
  induction l with
  | nil=>intro s h;exact .inl h
  | cons e l ih=>
   intro s h
   simp only[List.foldl_cons]at h
   rcases ih _ h with h | ⟨e',he',hb,hx⟩
   ·cases hb:Region.binds .any e with
    | false=>rw[hb]at h;exact .inl h
    | true=>
     rw[hb]at h
     simp only[cond_true,Nat.testBit_or,Bool.or_eq_true,Nat.testBit_two_pow,decide_eq_true_eq]at h
     rcases h with h | h | h
     ·exact .inl h
     ·exact .inr ⟨e,by simp,hb,.inl h.symm⟩
     ·exact .inr ⟨e,by simp,hb,.inr h⟩
   ·exact .inr ⟨e',by simp[he'],hb,hx⟩
 rcases key _ _ h with h | h
 ·simp at h
 ·exact h
theorem freeRow_spec {ops:List Oper} {y:Cl×Oper} {mask:Nat}:∀(l:List (Cl×Oper)) (i:Nat),freeRow ops y mask i l=true→∀j x,l[j]? =some x→Nat.testBit mask (i+j)=true∨free ops x y=true
 | [],_,_,j,x,hj=>by simp at hj
 | z::l,i,h,j,x,hj=>by
  simp only[freeRow,Bool.and_eq_true,Bool.or_eq_true]at h
  cases j with
  | zero=>
   simp at hj
   subst hj
   exact h.1
  | succ j=>
   have:=freeRow_spec l (i+1) h.2 j x (by simpa using hj)
   rwa [show i+1+j=i+(j+1) by omega]at this
theorem drawOk_spec {ops:List Oper}:∀(l:List (Cl×Oper)) (j:Nat) (done:List (Cl×Oper)) (ms:List Nat),done.length=j→ms.length=j→(∀i y,l[i]? =some y→ops[j+i]? =some y.2)→
  (∀i x,i<j→Nat.testBit (ms.getD i 0) x=true→Anc ops x i)→drawOk ops j done l ms=true→
  ∀i y,l[i]? =some y→(∀e∈y.2.after.toList,Region.binds .any e=true→e.on<j+i)∧
   ∀k x,k<j+i→(done++l)[k]? =some x→free ops x y=true∨∀S,Closed ops S→(∀e∈y.2.after.toList,Region.binds .any e=true→S e.on)→S k
 | [],_,_,_,_,_,_,_,_,i,y,hi=>by simp at hi
 | z::l,j,done,ms,hd,hms,hops,hanc,h,i,y,hi=>by
  simp only[drawOk,Bool.and_eq_true]at h
  obtain ⟨⟨h1,h2⟩,h3⟩:=h
  have hedge:∀e∈z.2.after.toList,Region.binds .any e=true→e.on<j:=fun e he hb=>by
   have:=List.all_eq_true.1 h1 e he
   simp only[hb,Bool.not_true,Bool.false_or]at this
   exact blt_iff.1 this
  have hmask:∀x,Nat.testBit (maskOf ms z.2) x=true→∀S,Closed ops S→(∀e∈z.2.after.toList,Region.binds .any e=true→S e.on)→S x:=fun x hx S hS he=>by
   obtain ⟨e,he1,he2,he3⟩:=maskOf_spec hx
   rcases he3 with rfl | he3
   ·exact he e he1 he2
   ·exact hanc e.on x (hedge e he1 he2) he3 S hS (he e he1 he2)
  cases i with
  | zero=>
   simp at hi
   subst hi
   refine ⟨hedge,fun k x hk hx=> ?_⟩
   rw[List.getElem?_append_left (by omega)]at hx
   rcases freeRow_spec done 0 h2 k x hx with hh | hh
   ·rw[Nat.zero_add]at hh
    exact .inr (hmask k hh)
   ·exact .inl hh
  | succ i=>
   have:=drawOk_spec l (j+1) (done++ [z]) (ms++ [maskOf ms z.2]) (by simp[hd]) (by simp[hms]) (fun i y hy=>by
     have:=hops (i+1) y (by simpa using hy)
     rwa [show j+(i+1)=j+1+i by omega]at this)
    (fun i x hi hx S hS hSi=>by
     by_cases hij:i<j
     ·rw[List.getD_eq_getElem?_getD,List.getElem?_append_left (by omega),←List.getD_eq_getElem?_getD]at hx
      exact hanc i x hij hx S hS hSi
     ·have:i=j:=by omega
      subst this
      rw[List.getD_eq_getElem?_getD,List.getElem?_append_right (by omega),hms,Nat.sub_self]at hx
      simp only[List.getElem?_cons_zero,Option.getD_some]at hx
      exact hmask x hx S hS fun e he hb=>hS i z.2 (by simpa using hops 0 z rfl) hSi e he hb) h3 i y (by simpa using hi)
   rw[show j+1+i=j+(i+1) by omega]at this
   simpa using this
theorem mkIts_get:∀(l:List (Cl×Oper)) (i k:Nat),(mkIts i l)[k]? =(l[k]?).map fun x=>⟨i+k,x.1,x.2⟩
 | [],i,k=>by simp[mkIts]
 | (c,o)::l,i,0=>by simp[mkIts]
 | (c,o)::l,i,k+1=>by
  simp only[mkIts,List.getElem?_cons_succ]
  rw[mkIts_get l (i+1) k]
  congr 1
  funext x
  rw[show i+1+k=i+(k+1) by omega]
theorem mkIts_length:∀(l:List (Cl×Oper)) (i:Nat),(mkIts i l).length=l.length
 | [],_=>rfl
 | (c,o)::l,i=>by simp[mkIts,mkIts_length l]
theorem mkIts_lt:∀(l:List (Cl×Oper)) (i:Nat),(mkIts i l).Pairwise fun x y=>x.i<y.i
 | [],_=>by simp[mkIts]
 | (c,o)::l,i=>by
  simp only[mkIts,List.pairwise_cons]
  refine ⟨fun y hy=> ?_,mkIts_lt l (i+1)⟩
  obtain ⟨k,hk⟩:=List.mem_iff_getElem?.1 hy
  rw[mkIts_get]at hk
  cases hx:l[k]? with
  | none=>rw[hx]at hk;simp at hk
  | some x=>
   rw[hx]at hk
   simp at hk
   subst hk
   simp only
   omega
section
variable {P:Program} {Γ:Cx P}
theorem hasCl_ne {m0:Mem} {r:Nat} (h:hasCl m0 r= .a):False:=by
 unfold hasCl at h
 cases hb:has m0 r<;>rw[hb]at h<;>simp at h
theorem cvCls_ne {m0:Mem} {sl:Tr SV} {en:Tr Nat} {x:Operand} (h:cvCls m0 sl en x= .a):False:=by
 unfold cvCls at h
 split at h
 ·split at h
  ·exact hasCl_ne h
  ·split at h
   ·split at h
    ·exact hasCl_ne h
    ·cases h
   ·cases h
 ·cases h
theorem classes_makes {m0:Mem} {sl:Tr SV} {nr:Nat}:∀(l:List Oper) (i:Nat) (en:Tr Nat) (k:Nat) (o:Oper),(classes Γ m0 sl nr i l en)[k]? =some .a→l[k]? =some o→makes o.op=true
 | [],_,_,k,o,_,hk=>by simp at hk
 | z::l,i,en,0,o,h,hk=>by
  simp at hk
  subst hk
  simp only[classes,List.getElem?_cons_zero,Option.some.injEq]at h
  split at h
  ·rename_i c hc
   subst h
   cases hz:z.op<;>rw[hz]at hc<;>simp[isW]at hc<;>try rfl
   rename_i c
   split at hc<;>try (simp at hc;done)
   split at hc<;>simp at hc
  ·split at h
   ·split at h
    ·cases hb:has m0 _<;>rw[hb]at h<;>simp at h
    ·simp at h
   ·exact (cvCls_ne h).elim
   ·cases hb:(List.all _ _:Bool)<;>rw[hb]at h<;>simp at h
   ·simp at h
 | z::l,i,en,k+1,o,h,hk=>classes_makes l (i+1) _ k o (by simpa [classes]using h) (by simpa using hk)
theorem classes_length {m0:Mem} {sl:Tr SV} {nr:Nat}:∀(l:List Oper) (i:Nat) (en:Tr Nat),(classes Γ m0 sl nr i l en).length=l.length
 | [],_,_=>rfl
 | z::l,i,en=>by simp[classes,classes_length l]
theorem any_sound {T:Nat→Nat→Prop} {w0:World} {ops:Array Oper} {m0:Mem} {N nr nt:Nat} {Q:Exit→Act→World→Prop} {K:St→Prop}
  (hbound:∀j,j≤N→Nat.blt (rid (nr+j) 3) 4194304=true) (its:List It)
  (hits:∀x∈its,ops[x.i]? =some x.o∧fits x∧x.i<N)
  (hfree:∀x∈its,∀y∈its,y.i<x.i→free ops.toList (y.c,y.o) (x.c,x.o)=true∨∀S,Closed ops.toList S→(∀e∈x.o.after.toList,Region.binds .any e=true→S e.on)→S y.i)
  (hedge:∀x∈its,∀e∈x.o.after.toList,Region.binds .any e=true→e.on<x.i) {β0:Env}
  (hQ:∀β' st' a' w',EnvLe β0 β'→Rel β' T w0 st' a' w'→(st'.nr=nr∧st'.nt=nt)→(∀n,nr+N≤n→Fresh β' n)→K st'→Q .normal a' w'):
  ∀(f:Nat) (R:List It) (listed:Array Bool) (st:St) (a:Act) (w:World) (β:Env),R.length=f→(∀x∈R,x∈its)→R.Pairwise (fun x y=>x.i<y.i)→
   listed.size=ops.size→(∀i,listed.getD i true=false↔∃x∈R,x.i=i)→
   Closed ops.toList (fun i=>listed.getD i false=true)→
   EnvLe β0 β→Rel β T w0 st a w→(st.nr=nr∧st.nt=nt)→MemLe m0 st.m→(∀x∈R,Fresh β (nr+x.i))→(∀n,nr+N≤n→Fresh β n)→
   execR Γ ops.toList m0 R st K→wpAny P .any ops Q f listed a w:=by
 intro f
 induction f with
 | zero=>
  intro R listed st a w β hlen hR hsorted hsz hun hcl hle hrel hnr hm hfr hfr2 h
  have:R= []:=List.eq_nil_of_length_eq_zero hlen
  subst this
  refine ⟨?_,hQ _ _ _ _ hle hrel hnr hfr2 h⟩
  cases hr:Region.ready .any ops listed with
  | nil=>rfl
  | cons i l=>
   exfalso
   have hi:i∈Region.ready .any ops listed:=by rw[hr];simp
   obtain ⟨h1,_⟩:=mem_ready.1 hi
   obtain ⟨x,hx,_⟩:=(hun i).1 h1
   simp at hx
 | succ f ih=>
  intro R listed st a w β hlen hR hsorted hsz hun hcl hle hrel hnr hm hfr hfr2 h
  have listedOf:∀j,(∀x∈R,x.i≠j)→j<ops.size→listed.getD j false=true:=fun j hj hlt=>by
   have h1:¬listed.getD j true=false:=fun hh=>by
    obtain ⟨x,hx,he⟩:=(hun j).1 hh
    exact hj x hx he
   have hlt':j<listed.size:=by omega
   simp only[Array.getD,hlt',dif_pos]at h1 ⊢
   simpa using h1
  constructor
  ·intro hnil
   exfalso
   match R,hlen with
   | x::R',_=>
    obtain ⟨hx1,_,_⟩:=hits x (hR x (by simp))
    have:x.i∈Region.ready .any ops listed:=by
     refine mem_ready.2 ⟨(hun x.i).2 ⟨x,by simp,rfl⟩,x.o,hx1,fun e he hb=> ?_⟩
     have hlt:=hedge x (hR x (by simp)) e (by simpa using he) hb
     refine listedOf e.on (fun y hy=> ?_) ?_
     ·rcases List.mem_cons.1 hy with rfl | hy
      ·omega
      ·have:=(List.pairwise_cons.1 hsorted).1 y hy
       omega
     ·have:=(Array.getElem?_eq_some_iff.1 hx1).1
      omega
    rw[hnil]at this
    simp at this
  ·intro i hi
   obtain ⟨h1,o,ho,hall⟩:=mem_ready.1 hi
   obtain ⟨x,hx,rfl⟩:=(hun i).1 h1
   obtain ⟨hx1,hx2,hx3⟩:=hits x (hR x hx)
   obtain ⟨xs,ys,rfl⟩:=List.append_of_mem hx
   have hsorted':=List.pairwise_append.1 hsorted
   have hxo:o=x.o:=Option.some.inj (ho.symm.trans hx1)
   subst hxo
   have hxs:∀y∈xs,y.i<x.i:=fun y hy=>hsorted'.2.2 y hy x (by simp)
   have hfr':=to_front (Γ:=Γ) (ops:=ops.toList) (m0:=m0) xs (x:=x) (ys:=ys) (st:=st) (K:=K) hrel.nt (fun y hy=>by
    have hyR:y∈its:=hR y (by simp[hy])
    refine ⟨by have:=hxs y hy;omega,(hits y hyR).2.1,?_⟩
    rcases hfree x (hR x hx) y hyR (hxs y hy)with hh | hh
    ·exact hh
    ·exfalso
     have h3:=hh _ hcl (fun e he hb=>hall e (by simpa using he) hb)
     have h4:=(hun y.i).2 ⟨y,by simp[hy],rfl⟩
     simp only[Array.getD]at h3 h4
     split at h3
     ·rename_i hlt
      rw[dif_pos hlt]at h4
      rw[h3]at h4
      cases h4
     ·cases h3) hx2 (fun j hj=>by
    rw[hnr.1]
    rcases hj with rfl | ⟨y,hy,hj⟩
    ·exact hbound _ (by omega)
    ·have:=(hits y (hR y (by simp[hy]))).2.2
     exact hbound _ (by omega)) h
   have hfr'':exec1 Γ ops.toList m0 x.c x.i x.o st fun st'=>execR Γ ops.toList m0 (xs++ys) st' K:=hfr'
   have hstep:=exec1_sound (P:=P) (Γ:=Γ) (Q:=Q) hrel hm (i:=x.i) hx1 (by rw[hnr.1];exact hfr x (by simp)) (c:=x.c) hfr''
   refine wpOp_mono ?_ hstep
   rintro a' w' ⟨β',st',e1,e2,e3,e4,e5,e6⟩
   rw[hnr.1]at e2
   refine ih (xs++ys) (listed.setIfInBounds x.i true) st' a' w' β' (by simp at hlen ⊢;omega) (fun y hy=>hR y (by simp at hy ⊢;rcases hy with hy | hy<;>simp[hy]))
    (List.pairwise_append.2 ⟨hsorted'.1,(List.pairwise_cons.1 hsorted'.2.1).2,fun y hy z hz=>hsorted'.2.2 y hy z (by simp[hz])⟩) (by simp[hsz]) ?_ ?_ (hle.trans e1) e4 ⟨e3.1.trans hnr.1,e3.2.trans hnr.2⟩ e5 ?_ ?_ e6
   ·intro j
    have hxlt:x.i<listed.size:=by have:=(Array.getElem?_eq_some_iff.1 hx1).1;omega
    by_cases hj:j=x.i
    ·subst hj
     constructor
     ·intro hh
      simp[Array.getD,hxlt]at hh
     ·rintro ⟨y,hy,he⟩
      exfalso
      simp only[List.mem_append]at hy
      rcases hy with hy | hy
      ·have:=hxs y hy;omega
      ·have:=(List.pairwise_cons.1 hsorted'.2.1).1 y hy;omega
    ·rw[getD_set_ne true (Ne.symm hj),hun j]
     constructor
     ·rintro ⟨y,hy,he⟩
      simp only[List.mem_append,List.mem_cons]at hy
      rcases hy with hy | rfl | hy
      ·exact ⟨y,by simp[hy],he⟩
      ·exact absurd he (Ne.symm hj)
      ·exact ⟨y,by simp[hy],he⟩
     ·rintro ⟨y,hy,he⟩
      simp only[List.mem_append]at hy
      rcases hy with hy | hy
      ·exact ⟨y,by simp[hy],he⟩
      ·exact ⟨y,by simp[hy],he⟩
   ·intro j oj hoj hl e he hb
    by_cases hj:j=x.i
    ·subst hj
     have:oj=x.o:=by
      rw[Array.getElem?_toList]at hoj
      exact Option.some.inj (hoj.symm.trans hx1)
     subst this
     exact getD_set_true (hall e (by simpa using he) hb)
    ·simp only[getD_set_ne false (Ne.symm hj)]at hl
     exact getD_set_true (hcl j oj hoj hl e he hb)
   ·intro y hy
    have hyi:y.i≠x.i:=by
     simp only[List.mem_append]at hy
     rcases hy with hy | hy
     ·have:=hxs y hy;omega
     ·have:=(List.pairwise_cons.1 hsorted'.2.1).1 y hy;omega
    refine Ext.fresh e2 (by omega) (hfr y ?_)
    simp only[List.mem_append,List.mem_cons]at hy ⊢
    rcases hy with hy | hy
    ·exact .inl hy
    ·exact .inr (.inr hy)
   ·intro n hn
    exact Ext.fresh e2 (by omega) (hfr2 n hn)
end
structure Inv (β0 β:Env) (T:Nat→Nat→Prop) (w0:World) (st:St) (a:Act) (w:World):Prop where
 le:EnvLe β0 β
 rel:Rel β T w0 st a w
 fresh:∀n,st.nr≤n→Fresh β n
def Ex.toExit:Ex→Exit
 | .normal=> .normal
 | .exit id=> .exit id
 | .ret=> .ret
theorem frozen_le {P:Program} {Γ:Cx P} {st:St} {ops:List Oper}:MemLe (frozen Γ st ops) st.m:=by
 unfold frozen
 split
 ·exact memLe_leaf _
 ·rename_i ws _
  have:∀(ws:List Nat) (m:Mem),MemLe (ws.foldl (fun m r=>Tr.del m r) m) m:=by
   intro ws
   induction ws with
   | nil=>exact fun m=>MemLe.refl m
   | cons r ws ih=>exact fun m r' g h=>(Tr.get_del (ih (Tr.del m r) r' g h)).2
  exact this ws st.m
section
variable {P:Program} {Γ:Cx P} {T:Nat→Nat→Prop} {w0:World}
theorem region_text {ops:Array Oper} {Q:Exit→Act→World→Prop} {K:St→Prop} {m0:Mem}:
  ∀(l:List (Cl×Oper)) (i:Nat) (st:St) (a:Act) (w:World) (β:Env),(∀(k:Nat) (x:Cl×Oper),l[k]? =some x→ops[i+k]? =some x.2)→Rel β T w0 st a w→MemLe m0 st.m→
   (∀n,st.nr+i≤n→Fresh β n)→(∀β' st' a' w',EnvLe β β'→Rel β' T w0 st' a' w'→(st'.nr=st.nr∧st'.nt=st.nt)→(∀n,st.nr+i+l.length≤n→Fresh β' n)→K st'→Q .normal a' w')→
   execL Γ ops.toList m0 i l st K→wpOps P ops Q (List.range' i l.length) a w:=by
 intro l
 induction l with
 | nil=>
  intro i st a w β _ hrel _ hfr hQ h
  exact hQ β st a w (EnvLe.refl _) hrel ⟨rfl,rfl⟩ hfr h
 | cons x l ih=>
  intro i st a w β hops hrel hm hfr hQ h
  obtain ⟨c,o⟩:=x
  rw[List.length_cons,List.range'_succ,wpOps_cons]
  have ho:ops[i]? =some o:=by simpa using hops 0 _ rfl
  refine wpOp_mono ?_ (exec1_sound (P:=P) (Γ:=Γ) (Q:=Q) hrel hm ho (hfr _ (Nat.le_refl _)) h)
  rintro a' w' ⟨β',st',e1,e2,e3,e4,e5,e6⟩
  refine ih (i+1) st' a' w' β' (fun k y hk=>by have:=hops (k+1) y (by simpa using hk);rwa [show i+(k+1)=i+1+k by omega]at this) e4 e5
   (fun n hn=>Ext.fresh e2 (by omega) (hfr n (by omega))) (fun β'' st'' a'' w'' h1 h2 h3 h4 h5=>hQ β'' st'' a'' w'' (e1.trans h1) h2 ⟨h3.1.trans e3.1,h3.2.trans e3.2⟩ (fun n hn=>h4 n (by simp at hn;omega)) h5) e6
theorem region_any {id:Nat} {ops:Array Oper} {Q:Exit→Act→World→Prop} {K:St→Prop} {m0:Mem} {cls:List Cl} {st:St} {a:Act} {w:World} {β:Env} (hP:P.follows .mixedOrders=true)
  (hcl:cls.length=ops.toList.length) (hmk:∀(k:Nat) (o:Oper),cls[k]? =some Cl.a→ops.toList[k]? =some o→makes o.op=true) (hrel:Rel β T w0 st a w) (hm:MemLe m0 st.m) (hfr:∀n,st.nr≤n→Fresh β n)
  (hok:drawOk ops.toList 0 [] (cls.zip ops.toList) []=true) (hb:Nat.blt (rid (st.nr+ops.toList.length) 3) 4194304=true)
  (hQ:∀β' st' a' w',EnvLe β β'→Rel β' T w0 st' a' w'→(st'.nr=st.nr∧st'.nt=st.nt)→(∀n,st.nr+ops.toList.length≤n→Fresh β' n)→K st'→Q .normal a' w')
  (h:execL Γ ops.toList m0 0 (cls.zip ops.toList) st K):(Code.region id ops true).wp P Q a w:=by
 refine wp_region_any hP ?_
 have hzip:∀(k:Nat) (x:Cl×Oper),(cls.zip ops.toList)[k]? =some x→cls[k]? =some x.1∧ops.toList[k]? =some x.2:=fun k x hk=>by
  rw[List.getElem?_zip_eq_some]at hk
  exact hk
 have hzl:(cls.zip ops.toList).length=ops.size:=by simp[hcl]
 have hspec:=drawOk_spec (ops:=ops.toList) (cls.zip ops.toList) 0 [] [] rfl rfl (fun i y hy=>by rw[Nat.zero_add];exact (hzip i y hy).2) (fun i x hi=>by omega) hok
 have hmem:∀x∈mkIts 0 (cls.zip ops.toList),∃k,x.i=k∧(cls.zip ops.toList)[k]? =some (x.c,x.o):=fun x hx=>by
  obtain ⟨k,hk⟩:=List.mem_iff_getElem?.1 hx
  rw[mkIts_get]at hk
  cases hz:(cls.zip ops.toList)[k]? with
  | none=>rw[hz]at hk;simp at hk
  | some z=>
   rw[hz]at hk
   simp only[Option.map_some,Option.some.injEq,Nat.zero_add]at hk
   subst hk
   exact ⟨k,rfl,hz⟩
 rw[execL_eq]at h
 have hlen:(mkIts 0 (cls.zip ops.toList)).length=ops.size:=by rw[mkIts_length,hzl]
 refine any_sound (P:=P) (Γ:=Γ) (T:=T) (w0:=w0) (N:=ops.size) (nr:=st.nr) (nt:=st.nt) (K:=K) (m0:=m0) (β0:=β) ?_ (mkIts 0 (cls.zip ops.toList)) ?_ ?_ ?_ ?_ ops.size (mkIts 0 (cls.zip ops.toList)) _ st a _ β hlen (fun x hx=>hx) (mkIts_lt _ _) (by simp) ?_ ?_ (EnvLe.refl _) ?_ ⟨rfl,rfl⟩ hm ?_ ?_ h
 ·intro j hj
  have:=blt_iff.1 hb
  simp only[Array.length_toList]at this
  exact blt_iff.2 (by unfold rid at *;omega)
 ·intro x hx
  obtain ⟨k,rfl,hk⟩:=hmem x hx
  obtain ⟨h1,h2⟩:=hzip _ _ hk
  refine ⟨by rw[←Array.getElem?_toList];exact h2,fun hc=>hmk _ _ (by rw[←hc];exact h1) h2,?_⟩
  have:=(List.getElem?_eq_some_iff.1 h2).1
  simpa using this
 ·intro x hx y hy hlt
  obtain ⟨k,hk1,hk⟩:=hmem x hx
  obtain ⟨k',hk1',hk'⟩:=hmem y hy
  have:=(hspec k _ hk).2 k' (y.c,y.o) (by omega) (by simpa using hk')
  rcases this with hh | hh
  ·exact .inl hh
  ·refine .inr fun S hS he=> ?_
   rw[hk1']
   exact hh S hS he
 ·intro x hx e he hbn
  obtain ⟨k,hk1,hk⟩:=hmem x hx
  have:=(hspec k _ hk).1 e he hbn
  omega
 ·intro β' st' a' w' h1 h2 h3 h4 h5
  exact hQ β' st' a' w' h1 h2 h3 (by simpa using h4) h5
 ·intro i
  constructor
  ·intro hi
   have hlt:i<ops.size:=by
    rcases Nat.lt_or_ge i ops.size with hh | hh
    ·exact hh
    ·simp[Array.getD,Nat.not_lt.2 hh]at hi
   cases hz:(cls.zip ops.toList)[i]? with
   | none=>rw[List.getElem?_eq_none_iff]at hz;omega
   | some z=>
    refine ⟨⟨i,z.1,z.2⟩,List.mem_iff_getElem?.2 ⟨i,by rw[mkIts_get,hz];simp⟩,rfl⟩
  ·rintro ⟨x,hx,rfl⟩
   obtain ⟨k,hk1,hk⟩:=hmem x hx
   have hlt:x.i<ops.size:=by rw[hk1,←hzl];exact (List.getElem?_eq_some_iff.1 hk).1
   simp[Array.getD,hlt]
 ·intro j o _ hj
  exfalso
  rcases Nat.lt_or_ge j ops.size with h' | h'
  ·simp[Array.getD,h']at hj
  ·simp[Array.getD,Nat.not_lt.2 h']at hj
 ·exact ⟨hrel.nt,hrel.size,hrel.defers,hrel.slots,hrel.mem.grow (Fr.drew noT w _),hrel.glob⟩
 ·intro x hx
  exact hfr _ (by omega)
 ·intro n hn
  exact hfr n (by omega)
end
theorem both_spec {p q:Option Ob} {r:Ob} (h:both p q=some r) (hr:r.ok):∃p' q',p=some p'∧q=some q'∧p'.ok∧q'.ok:=by
 cases p with
 | none=>simp[both]at h
 | some p=>
  cases q with
  | none=>simp[both]at h
  | some q=>
   simp only[both,Option.some.injEq]at h
   subst h
   obtain ⟨h1,h2⟩:=Ob.and_ok hr
   exact ⟨p,q,rfl,rfl,h1,h2⟩
theorem eqA_spec {a b:A} {p:Ob} (h:eqA a b=some p) (hp:p.ok):a.val=b.val:=by
 unfold eqA at h
 split at h
 ·rename_i x y
  cases hd:decide (x=y)with
  | false=>rw[hd]at h;simp at h
  | true=>
   have:x=y:=by simpa using hd
   rw[this]
 ·simp only[Option.some.injEq]at h;subst h;exact hp
theorem eqN_spec {a b:N} {p:Ob} (h:eqN a b=some p) (hp:p.ok):a.val=b.val:=by
 unfold eqN at h
 split at h
 ·rename_i x y
  cases hd:Nat.beq x y with
  | false=>rw[hd]at h;simp at h
  | true=>rw[Nat.eq_of_beq_eq_true hd]
 ·simp only[Option.some.injEq]at h;subst h;exact hp
theorem eqB_spec {a b:B} {p:Ob} (h:eqB a b=some p) (hp:p.ok):a.val=b.val:=by
 unfold eqB at h
 split at h
 ·rename_i x y
  cases x<;>cases y<;>simp at h<;>rfl
 ·simp only[Option.some.injEq]at h;subst h;exact hp
theorem cond_some {b:Bool} {p:Option Ob} {q:Ob} (h:(bif b then p else none)=some q):b=true∧p=some q:=by
 cases b with
 | false=>simp at h
 | true=>exact ⟨rfl,h⟩
mutual
theorem SV.le_den {β:Env}:∀(s s':SV) (v:Value) (p:Ob),SV.le s s'=some p→p.ok→Den β s v→Den β s' v
 | _,.any,_,_,_,_,_=>by simp[Den]
 | .int k a,.int k' a',v,p,h,hp,hd=>by
  simp only[SV.le]at h
  obtain ⟨h1,h2⟩:=cond_some h
  have hk:k=k':=by simpa using h1
  subst hk
  simpa [Den,eqA_spec h2 hp]using hd
 | .bool b,.bool b',v,p,h,hp,hd=>by
  simp only[SV.le]at h
  simpa [Den,eqB_spec h hp]using hd
 | .ptr r o,.ptr r' o',v,p,h,hp,hd=>by
  simp only[SV.le]at h
  obtain ⟨h1,h2⟩:=cond_some h
  have hk:=Nat.eq_of_beq_eq_true h1
  subst hk
  simpa [Den,eqN_spec h2 hp]using hd
 | .slice r o l c,.slice r' o' l' c',v,p,h,hp,hd=>by
  simp only[SV.le]at h
  obtain ⟨h1,h2⟩:=cond_some h
  have hk:=Nat.eq_of_beq_eq_true h1
  subst hk
  obtain ⟨p1,p2,e1,e2,hp1,hp2⟩:=both_spec h2 hp
  obtain ⟨p3,p4,e3,e4,hp3,hp4⟩:=both_spec e2 hp2
  simpa [Den,eqN_spec e1 hp1,eqN_spec e3 hp3,eqN_spec e4 hp4]using hd
 | .iface t s,.iface t' s',v,p,h,hp,hd=>by
  simp only[SV.le]at h
  obtain ⟨h1,h2⟩:=cond_some h
  have hk:=Nat.eq_of_beq_eq_true h1
  subst hk
  simp only[Den]at *
  obtain ⟨u,k1,k2⟩:=hd
  exact ⟨u,SV.le_den s s' u p h2 hp k1,k2⟩
 | .agg l,.agg l',v,p,h,hp,hd=>by
  simp only[SV.le]at h
  simp only[Den]at *
  obtain ⟨vs,k1,k2⟩:=hd
  exact ⟨vs,leL_den l l' vs p h hp k1,k2⟩
 | .tup l,.tup l',v,p,h,hp,hd=>by
  simp only[SV.le]at h
  simp only[Den]at *
  obtain ⟨vs,k1,k2⟩:=hd
  exact ⟨vs,leL_den l l' vs p h hp k1,k2⟩
 | .bytes xs,.bytes ys,v,p,h,hp,hd=>by
  simp only[SV.le,Option.some.injEq]at h
  subst h
  have hp':xs=ys:=hp
  rw[←hp']
  exact hd
 | .val u,.val u',v,p,h,hp,hd=>by
  simp only[SV.le,Option.some.injEq]at h
  subst h
  have hp':u=u':=hp
  rw[←hp']
  exact hd
 | .any,.int _ _,_,_,h,_,_=>by simp[SV.le]at h
 | .any,.bool _,_,_,h,_,_=>by simp[SV.le]at h
 | .any,.ptr _ _,_,_,h,_,_=>by simp[SV.le]at h
 | .any,.slice _ _ _ _,_,_,h,_,_=>by simp[SV.le]at h
 | .any,.iface _ _,_,_,h,_,_=>by simp[SV.le]at h
 | .any,.agg _,_,_,h,_,_=>by simp[SV.le]at h
 | .any,.tup _,_,_,h,_,_=>by simp[SV.le]at h
 | .any,.bytes _,_,_,h,_,_=>by simp[SV.le]at h
 | .any,.val _,_,_,h,_,_=>by simp[SV.le]at h
 | .int _ _,.bool _,_,_,h,_,_=>by simp[SV.le]at h
 | .int _ _,.ptr _ _,_,_,h,_,_=>by simp[SV.le]at h
 | .int _ _,.slice _ _ _ _,_,_,h,_,_=>by simp[SV.le]at h
 | .int _ _,.iface _ _,_,_,h,_,_=>by simp[SV.le]at h
 | .int _ _,.agg _,_,_,h,_,_=>by simp[SV.le]at h
 | .int _ _,.tup _,_,_,h,_,_=>by simp[SV.le]at h
 | .int _ _,.bytes _,_,_,h,_,_=>by simp[SV.le]at h
 | .int _ _,.val _,_,_,h,_,_=>by simp[SV.le]at h
 | .bool _,.int _ _,_,_,h,_,_=>by simp[SV.le]at h
 | .bool _,.ptr _ _,_,_,h,_,_=>by simp[SV.le]at h
 | .bool _,.slice _ _ _ _,_,_,h,_,_=>by simp[SV.le]at h
 | .bool _,.iface _ _,_,_,h,_,_=>by simp[SV.le]at h
 | .bool _,.agg _,_,_,h,_,_=>by simp[SV.le]at h
 | .bool _,.tup _,_,_,h,_,_=>by simp[SV.le]at h
 | .bool _,.bytes _,_,_,h,_,_=>by simp[SV.le]at h
 | .bool _,.val _,_,_,h,_,_=>by simp[SV.le]at h
 | .ptr _ _,.int _ _,_,_,h,_,_=>by simp[SV.le]at h
 | .ptr _ _,.bool _,_,_,h,_,_=>by simp[SV.le]at h
 | .ptr _ _,.slice _ _ _ _,_,_,h,_,_=>by simp[SV.le]at h
 | .ptr _ _,.iface _ _,_,_,h,_,_=>by simp[SV.le]at h
 | .ptr _ _,.agg _,_,_,h,_,_=>by simp[SV.le]at h
 | .ptr _ _,.tup _,_,_,h,_,_=>by simp[SV.le]at h
 | .ptr _ _,.bytes _,_,_,h,_,_=>by simp[SV.le]at h
 | .ptr _ _,.val _,_,_,h,_,_=>by simp[SV.le]at h
 | .slice _ _ _ _,.int _ _,_,_,h,_,_=>by simp[SV.le]at h
 | .slice _ _ _ _,.bool _,_,_,h,_,_=>by simp[SV.le]at h
 | .slice _ _ _ _,.ptr _ _,_,_,h,_,_=>by simp[SV.le]at h
 | .slice _ _ _ _,.iface _ _,_,_,h,_,_=>by simp[SV.le]at h
 | .slice _ _ _ _,.agg _,_,_,h,_,_=>by simp[SV.le]at h
 | .slice _ _ _ _,.tup _,_,_,h,_,_=>by simp[SV.le]at h
 | .slice _ _ _ _,.bytes _,_,_,h,_,_=>by simp[SV.le]at h
 | .slice _ _ _ _,.val _,_,_,h,_,_=>by simp[SV.le]at h
 | .iface _ _,.int _ _,_,_,h,_,_=>by simp[SV.le]at h
 | .iface _ _,.bool _,_,_,h,_,_=>by simp[SV.le]at h
 | .iface _ _,.ptr _ _,_,_,h,_,_=>by simp[SV.le]at h
 | .iface _ _,.slice _ _ _ _,_,_,h,_,_=>by simp[SV.le]at h
 | .iface _ _,.agg _,_,_,h,_,_=>by simp[SV.le]at h
 | .iface _ _,.tup _,_,_,h,_,_=>by simp[SV.le]at h
 | .iface _ _,.bytes _,_,_,h,_,_=>by simp[SV.le]at h
 | .iface _ _,.val _,_,_,h,_,_=>by simp[SV.le]at h
 | .agg _,.int _ _,_,_,h,_,_=>by simp[SV.le]at h
 | .agg _,.bool _,_,_,h,_,_=>by simp[SV.le]at h
 | .agg _,.ptr _ _,_,_,h,_,_=>by simp[SV.le]at h
 | .agg _,.slice _ _ _ _,_,_,h,_,_=>by simp[SV.le]at h
 | .agg _,.iface _ _,_,_,h,_,_=>by simp[SV.le]at h
 | .agg _,.tup _,_,_,h,_,_=>by simp[SV.le]at h
 | .agg _,.bytes _,_,_,h,_,_=>by simp[SV.le]at h
 | .agg _,.val _,_,_,h,_,_=>by simp[SV.le]at h
 | .tup _,.int _ _,_,_,h,_,_=>by simp[SV.le]at h
 | .tup _,.bool _,_,_,h,_,_=>by simp[SV.le]at h
 | .tup _,.ptr _ _,_,_,h,_,_=>by simp[SV.le]at h
 | .tup _,.slice _ _ _ _,_,_,h,_,_=>by simp[SV.le]at h
 | .tup _,.iface _ _,_,_,h,_,_=>by simp[SV.le]at h
 | .tup _,.agg _,_,_,h,_,_=>by simp[SV.le]at h
 | .tup _,.bytes _,_,_,h,_,_=>by simp[SV.le]at h
 | .tup _,.val _,_,_,h,_,_=>by simp[SV.le]at h
 | .bytes _,.int _ _,_,_,h,_,_=>by simp[SV.le]at h
 | .bytes _,.bool _,_,_,h,_,_=>by simp[SV.le]at h
 | .bytes _,.ptr _ _,_,_,h,_,_=>by simp[SV.le]at h
 | .bytes _,.slice _ _ _ _,_,_,h,_,_=>by simp[SV.le]at h
 | .bytes _,.iface _ _,_,_,h,_,_=>by simp[SV.le]at h
 | .bytes _,.agg _,_,_,h,_,_=>by simp[SV.le]at h
 | .bytes _,.tup _,_,_,h,_,_=>by simp[SV.le]at h
 | .bytes _,.val _,_,_,h,_,_=>by simp[SV.le]at h
 | .val _,.int _ _,_,_,h,_,_=>by simp[SV.le]at h
 | .val _,.bool _,_,_,h,_,_=>by simp[SV.le]at h
 | .val _,.ptr _ _,_,_,h,_,_=>by simp[SV.le]at h
 | .val _,.slice _ _ _ _,_,_,h,_,_=>by simp[SV.le]at h
 | .val _,.iface _ _,_,_,h,_,_=>by simp[SV.le]at h
 | .val _,.agg _,_,_,h,_,_=>by simp[SV.le]at h
 | .val _,.tup _,_,_,h,_,_=>by simp[SV.le]at h
 | .val _,.bytes _,_,_,h,_,_=>by simp[SV.le]at h
theorem leL_den {β:Env}:∀(l l':List SV) (vs:List Value) (p:Ob),leL l l'=some p→p.ok→DenL β l vs→DenL β l' vs
 | [],[],vs,_,_,_,h=>h
 | s::l,s'::l',vs,p,hl,hp,h=>by
  simp only[leL]at hl
  obtain ⟨p1,p2,e1,e2,hp1,hp2⟩:=both_spec hl hp
  simp only[DenL]at *
  obtain ⟨v,vs',h1,h2,h3⟩:=h
  exact ⟨v,vs',SV.le_den s s' v p1 e1 hp1 h1,leL_den l l' vs' p2 e2 hp2 h2,h3⟩
 | [],_::_,_,_,hl,_,_=>by simp[leL]at hl
 | _::_,[],_,_,hl,_,_=>by simp[leL]at hl
 end
theorem leL_length:∀ {l l':List SV} {p:Ob},leL l l'=some p→l.length=l'.length
 | [],[],_,_=>rfl
 | s::l,s'::l',p,hl=>by
  simp only[leL]at hl
  cases h1:SV.le s s' with
  | none=>rw[h1]at hl;simp[both]at hl
  | some p1=>
   cases h2:leL l l' with
   | none=>rw[h1,h2]at hl;simp[both]at hl
   | some p2=>simp[leL_length h2]
 | [],_::_,_,hl=>by simp[leL]at hl
 | _::_,[],_,hl=>by simp[leL]at hl
theorem both_some {p q:Option Ob} {r:Ob} (h:both p q=some r):∃p' q',p=some p'∧q=some q'∧r=p'.and q':=by
 cases p with
 | none=>simp[both]at h
 | some p=>
  cases q with
  | none=>simp[both]at h
  | some q=>
   simp only[both,Option.some.injEq]at h
   exact ⟨p,q,rfl,rfl,h.symm⟩
theorem segsLe_den {β:Env}:∀ {l l':List Sg} {vs:List Value} {p:Ob},segsLe l l'=some p→p.ok→segsDen β l vs→segsDen β l' vs∧segsLen l=segsLen l'
 | [],[],vs,p,_,_,hd=>⟨hd,rfl⟩
 | s::l,s'::l',vs,p,h,hp,hd=>by
  obtain ⟨p1,p2,h1,h2,rfl⟩:=both_some h
  obtain ⟨hp1,hp2⟩:=Ob.and_ok hp
  obtain ⟨us,us',d1,d2,rfl⟩:=hd
  obtain ⟨f1,f2⟩:=segsLe_den h2 hp2 d2
  have key:s'.den β us∧s.len=s'.len:=by
   cases s with
   | cells c=>
    cases s' with
    | cells c'=>exact ⟨leL_den _ _ _ _ h1 hp1 d1,leL_length h1⟩
    | ints k n xs=>simp[Sg.le]at h1
   | ints k n xs=>
    cases s' with
    | cells c'=>simp[Sg.le]at h1
    | ints k' n' ys=>
     simp only[Sg.le]at h1
     cases hb:(decide (k=k') && Nat.beq n n')with
     | false=>rw[hb]at h1;simp at h1
     | true=>
      rw[hb]at h1
      simp only[cond_true,Option.some.injEq]at h1
      subst h1
      simp only[Bool.and_eq_true,decide_eq_true_eq]at hb
      obtain ⟨rfl,hn⟩:=hb
      have hn:=Nat.eq_of_beq_eq_true hn
      subst hn
      have:xs=ys:=hp1
      subst this
      exact ⟨d1,rfl⟩
  exact ⟨⟨us,us',key.1,f1,rfl⟩,by simp[segsLen,key.2,f2]⟩
 | [],_::_,_,_,h,_,_=>by simp[segsLe]at h
 | _::_,[],_,_,h,_,_=>by simp[segsLe]at h
theorem segsLe_len:∀ {l l':List Sg} {p:Ob},segsLe l l'=some p→segsLen l=segsLen l'
 | [],[],p,_=>rfl
 | s::l,s'::l',p,h=>by
  obtain ⟨p1,p2,h1,h2,rfl⟩:=both_some h
  have f2:=segsLe_len h2
  have key:s.len=s'.len:=by
   cases s with
   | cells c=>
    cases s' with
    | cells c'=>exact leL_length h1
    | ints k n xs=>simp[Sg.le]at h1
   | ints k n xs=>
    cases s' with
    | cells c'=>simp[Sg.le]at h1
    | ints k' n' ys=>
     simp only[Sg.le]at h1
     cases hb:(decide (k=k') && Nat.beq n n')with
     | false=>rw[hb]at h1;simp at h1
     | true=>
      simp only[Bool.and_eq_true]at hb
      exact Nat.eq_of_beq_eq_true hb.2
  simp[segsLen,key,f2]
 | [],_::_,_,h=>by simp[segsLe]at h
 | _::_,[],_,h=>by simp[segsLe]at h
theorem Ct.le_ints {c:Ct} {k:IntKind} {ys:List Int} {p:Ob} (h:c.le (.ints k ys)=some p) (hp:p.ok):c.asInts=some (k,ys):=by
 have h':(match c.asInts with | some (k',xs)=>bif decide (k'=k)then some (some (xs=ys))else none | none=>none)=some p:=by cases c<;>exact h
 split at h'
 ·rename_i k' xs hx
  cases hd:decide (k'=k)with
  | false=>rw[hd]at h';simp at h'
  | true=>
   rw[hd]at h'
   simp only[cond_true,Option.some.injEq]at h'
   subst h'
   have hk:k'=k:=by simpa using hd
   have hp':xs=ys:=hp
   rw[hx,hk,hp']
 ·simp at h'
theorem Ct.le_den {β:Env} {c c':Ct} {vs:List Value} {p:Ob} (h:c.le c'=some p) (hp:p.ok) (hd:c.den β vs):c'.den β vs:=by
 cases c' with
 | cells l=>
  cases c with
  | cells l0=>exact leL_den _ _ _ _ h hp hd
  | ints k xs=>simp[Ct.le]at h
  | segs l=>simp[Ct.le]at h
 | ints k xs=>exact Ct.asInts_den hd (Ct.le_ints h hp)
 | segs l=>
  cases c with
  | cells l0=>simp[Ct.le]at h
  | ints k xs=>simp[Ct.le]at h
  | segs l0=>exact (segsLe_den h hp hd).1
theorem Ct.le_len {c c':Ct} {p:Ob} (h:c.le c'=some p) (hp:p.ok):c.len=c'.len:=by
 cases c' with
 | cells l=>
  cases c with
  | cells l0=>exact leL_length h
  | ints k xs=>simp[Ct.le]at h
  | segs l=>simp[Ct.le]at h
 | ints k xs=>exact Ct.asInts_len (Ct.le_ints h hp)
 | segs l=>
  cases c with
  | cells l0=>simp[Ct.le]at h
  | ints k xs=>simp[Ct.le]at h
  | segs l0=>exact segsLe_len h
def cutEnv (β:Env) (nr:Nat) (ρ:List (Nat×Nat)):Env:=fun r=>if r<rid nr 0∨r%2=0 then β (renId ρ r)else none
mutual
theorem old_den {β:Env} {nr:Nat} {ρ:List (Nat×Nat)}:∀(s:SV) (v:Value),SV.old nr s=true→Den β (s.ren ρ) v→Den (cutEnv β nr ρ) s v
 | .any,_,_,_=>by simp[Den]
 | .int _ _,_,_,h=>by simpa [Den,SV.ren]using h
 | .bool _,_,_,h=>by simpa [Den,SV.ren]using h
 | .ptr r o,v,ho,h=>by
  simp only[SV.old]at ho
  simp only[Den,SV.ren]at *
  obtain ⟨b,o',h1,h2⟩:=h
  exact ⟨b,o',by unfold cutEnv;rw[if_pos (.inl (blt_iff.1 ho))];exact h1,h2⟩
 | .slice r o l c,v,ho,h=>by
  simp only[SV.old]at ho
  simp only[Den,SV.ren]at *
  obtain ⟨b,o',h1,h2⟩:=h
  exact ⟨b,o',by unfold cutEnv;rw[if_pos (.inl (blt_iff.1 ho))];exact h1,h2⟩
 | .iface t s,v,ho,h=>by
  simp only[SV.old]at ho
  simp only[Den,SV.ren]at *
  obtain ⟨u,h1,h2⟩:=h
  exact ⟨u,old_den s u ho h1,h2⟩
 | .agg l,v,ho,h=>by
  simp only[SV.old]at ho
  simp only[Den,SV.ren]at *
  obtain ⟨vs,h1,h2⟩:=h
  exact ⟨vs,oldL_den l vs ho h1,h2⟩
 | .tup l,v,ho,h=>by
  simp only[SV.old]at ho
  simp only[Den,SV.ren]at *
  obtain ⟨vs,h1,h2⟩:=h
  exact ⟨vs,oldL_den l vs ho h1,h2⟩
 | .bytes _,_,_,h=>by simpa [Den,SV.ren]using h
 | .val _,_,_,h=>by simpa [Den,SV.ren]using h
theorem oldL_den {β:Env} {nr:Nat} {ρ:List (Nat×Nat)}:∀(l:List SV) (vs:List Value),oldL nr l=true→DenL β (renL ρ l) vs→DenL (cutEnv β nr ρ) l vs
 | [],_,_,h=>by simpa [DenL,renL]using h
 | s::l,vs,ho,h=>by
  simp only[oldL,Bool.and_eq_true]at ho
  simp only[DenL,renL]at *
  obtain ⟨v,vs',h1,h2,h3⟩:=h
  exact ⟨v,vs',old_den s v ho.1 h1,oldL_den l vs' ho.2 h2,h3⟩
 end
theorem segsOld_den {β:Env} {nr:Nat} {ρ:List (Nat×Nat)}:∀ {l:List Sg} {vs:List Value},segsOld nr l=true→segsDen β (segsRen ρ l) vs→segsDen (cutEnv β nr ρ) l vs
 | [],vs,_,h=>h
 | .cells c::l,vs,ho,h=>by
  obtain ⟨us,us',h1,h2,rfl⟩:=h
  simp only[segsOld,Bool.and_eq_true]at ho
  exact ⟨us,us',oldL_den c us ho.1 h1,segsOld_den ho.2 h2,rfl⟩
 | .ints k n xs::l,vs,ho,h=>by
  obtain ⟨us,us',h1,h2,rfl⟩:=h
  simp only[segsOld]at ho
  exact ⟨us,us',h1,segsOld_den ho h2,rfl⟩
theorem Ct.old_den {β:Env} {nr:Nat} {ρ:List (Nat×Nat)} {c:Ct} {vs:List Value} (ho:c.old nr=true) (h:(c.ren ρ).den β vs):c.den (cutEnv β nr ρ) vs:=by
 cases c with
 | cells l=>exact oldL_den l vs ho h
 | ints k xs=>exact h
 | segs l=>exact segsOld_den ho h
theorem renL_length (ρ:List (Nat×Nat)):∀l:List SV,(renL ρ l).length=l.length
 | []=>rfl
 | s::l=>by simp[renL,renL_length ρ l]
theorem segsRen_len (ρ:List (Nat×Nat)):∀l:List Sg,segsLen (segsRen ρ l)=segsLen l
 | []=>rfl
 | .cells c::l=>by simp[segsRen,segsLen,Sg.len,renL_length,segsRen_len ρ l]
 | .ints k n xs::l=>by simp[segsRen,segsLen,Sg.len,segsRen_len ρ l]
theorem Ct.ren_len (ρ:List (Nat×Nat)) (c:Ct):(c.ren ρ).len=c.len:=by
 cases c with
 | cells l=>exact renL_length ρ l
 | ints k xs=>rfl
 | segs l=>exact segsRen_len ρ l
theorem renId_other {nr k:Nat}:∀ {ρ:List (Nat×Nat)},ρ.all (fun x=>ownId nr k x.1)=true→∀ {r:Nat},ownId nr k r=false→renId ρ r=r
 | [],_,_,_=>rfl
 | (h,c)::l,ha,r,hr=>by
  simp only[List.all_cons,Bool.and_eq_true]at ha
  unfold renId
  cases e:Nat.beq h r with
  | true=>
   have:=Nat.eq_of_beq_eq_true e
   subst this
   rw[ha.1]at hr;cases hr
  | false=>exact renId_other (ρ:=l) ha.2 hr
theorem noneOf_ne {r:Nat}:∀ {l:List Nat},noneOf r l=true→∀s∈l,r≠s
 | [],_,_,h=>nomatch h
 | t::l,h,s,hs=>by
  simp only[noneOf,Bool.and_eq_true,Bool.not_eq_true']at h
  rcases List.mem_cons.1 hs with rfl | hs
  ·intro e;rw[e,Nat.beq_refl]at h;cases h.1
  ·exact noneOf_ne h.2 s hs
theorem distinct_map {f:Nat→Nat}:∀ {l:List (Nat×Reg)},distinct (l.map fun x=>f x.1)=true→∀x∈l,∀y∈l,x.1≠y.1→f x.1≠f y.1
 | [],_,_,h,_,_,_=>nomatch h
 | t::l,h,x,hx,y,hy,hne=>by
  simp only[List.map_cons,distinct,Bool.and_eq_true]at h
  rcases List.mem_cons.1 hx with hx' | hx'
  ·rcases List.mem_cons.1 hy with hy' | hy'
   ·exact (hne (by rw[hx',hy'])).elim
   ·rw[hx'];exact noneOf_ne h.1 _ (List.mem_map.2 ⟨y,hy',rfl⟩)
  ·rcases List.mem_cons.1 hy with hy' | hy'
   ·rw[hy'];exact fun e=>noneOf_ne h.1 _ (List.mem_map.2 ⟨x,hx',rfl⟩) e.symm
   ·exact distinct_map h.2 x hx' y hy' hne
theorem get_fold_set {α:Type}:∀(l:List (Nat×α)) (t:Tr α) {i:Nat} {v:α},(l.foldl (fun t x=>Tr.set t x.1 x.2) t).get i=some v→(i,v)∈l∨t.get i=some v
 | [],_,_,_,h=> .inr h
 | x::l,t,i,v,h=>by
  rcases get_fold_set l _ h with h | h
  ·exact .inl (by simp[h])
  ·rcases Tr.get_set h with ⟨rfl,rfl⟩ | ⟨_,h⟩
   ·exact .inl (by simp)
   ·exact .inr h
theorem slotsLe_mem {st:St} {nr:Nat} {ρ:List (Nat×Nat)}:∀ {l:List (Nat×SV)} {p:Ob},slotsLe st nr ρ l=some p→p.ok→∀i v,(i,v)∈l→∃u q,st.slots.get i=some u∧SV.le u (v.ren ρ)=some q∧q.ok∧SV.old nr v=true
 | [],_,_,_,_,_,h=>by simp at h
 | (j,u)::l,p,hl,hp,i,v,h=>by
  simp only[slotsLe]at hl
  obtain ⟨p1,p2,e1,e2,hp1,hp2⟩:=both_spec hl hp
  rcases List.mem_cons.1 h with h | h
  ·injection h with e3 e4
   subst e3;subst e4
   split at e1
   ·rename_i u' hu
    obtain ⟨h1,h2⟩:=cond_some e1
    exact ⟨u',p1,hu,h2,hp1,h1⟩
   ·simp at e1
  ·exact slotsLe_mem e2 hp2 i v h
theorem regsLe_mem {st:St} {nr:Nat} {ρ:List (Nat×Nat)}:∀ {l:List (Nat×Reg)} {p:Ob},regsLe st nr ρ l=some p→p.ok→∀r g,(r,g)∈l→∃h q,st.m.get (renId ρ r)=some h∧h.ro=g.ro∧Ct.le h.c (g.c.ren ρ)=some q∧q.ok∧Ct.old nr g.c=true∧Nat.blt r (rid nr 0)=true
 | [],_,_,_,_,_,h=>by simp at h
 | (j,u)::l,p,hl,hp,i,v,h=>by
  simp only[regsLe]at hl
  obtain ⟨p1,p2,e1,e2,hp1,hp2⟩:=both_spec hl hp
  rcases List.mem_cons.1 h with h | h
  ·injection h with e3 e4
   subst e3;subst e4
   split at e1
   ·rename_i u' hu
    obtain ⟨h1,h2⟩:=cond_some e1
    simp only[Bool.and_eq_true,beq_iff_eq]at h1
    exact ⟨u',p1,hu,h1.1.1,h2,hp1,h1.1.2,h1.2⟩
   ·simp at e1
  ·exact regsLe_mem e2 hp2 i v h
theorem Rel.head {β:Env} {T:Nat→Nat→Prop} {w0 w:World} {st st0:St} {a:Act} {k:Nat} {h:Head} (hr:Rel β T w0 st a w) (hnt:st.nt=st0.nt) (hle:St.le st st0.nr k h):
  ∃ρ:List (Nat×Nat),ρ.all (fun x=>ownId st0.nr k x.1)=true∧Rel (cutEnv β (st0.nr+k) ρ) T w0 (h.st st0 k) a w:=by
 unfold St.le at hle
 refine ⟨names st st0.nr k h.slots,?_⟩
 generalize names st st0.nr k h.slots=ρ at hle ⊢
 unfold St.leR at hle
 cases hc:(ρ.all (fun x=>ownId st0.nr k x.1) && distinct (h.regs.map fun x=>renId ρ x.1))with
 | false=>rw[hc]at hle;exact hle.elim
 | true=>
 rw[hc]at hle
 simp only[cond_true]at hle
 simp only[Bool.and_eq_true]at hc
 obtain ⟨hρ,hdist⟩:=hc
 refine ⟨hρ,?_⟩
 obtain ⟨r0,hr0,hr1⟩:∃r0,both (slotsLe st (st0.nr+k) ρ h.slots) (regsLe st (st0.nr+k) ρ h.regs)=some r0∧r0.ok:=by
  cases hb:both (slotsLe st (st0.nr+k) ρ h.slots) (regsLe st (st0.nr+k) ρ h.regs)with
  | none=>rw[hb]at hle;exact hle.elim
  | some r0=>rw[hb]at hle;cases r0<;>exact ⟨_,rfl,hle⟩
 obtain ⟨p1,p2,hsl,hrg,hp1,hp2⟩:=both_spec hr0 hr1
 refine ⟨by show st0.nt≤4194304;rw[←hnt];exact hr.nt,by show a.tmps.size=st0.nt;rw[hr.size,hnt],hr.defers,fun i s hi=> ?_,?_,fun g=> ?_⟩
 ·rcases get_fold_set h.slots _ hi with hi | hi
  ·obtain ⟨u,q,h1,h2,hq,h3⟩:=slotsLe_mem hsl hp1 i s hi
   obtain ⟨v,h4,h5⟩:=hr.slots i u h1
   exact ⟨v,h4,old_den s v h3 (SV.le_den _ _ _ _ h2 hq h5)⟩
  ·rw[Tr.get_leaf]at hi;cases hi
 ·have hreg:∀r g,(h.st st0 k).m.get r=some g→(r,g)∈h.regs∧∃g' q,st.m.get (renId ρ r)=some g'∧g'.ro=g.ro∧Ct.le g'.c (g.c.ren ρ)=some q∧q.ok∧Ct.old (st0.nr+k) g.c=true∧Nat.blt r (rid (st0.nr+k) 0)=true:=fun r g hg=>by
   rcases get_fold_set h.regs _ hg with hg | hg
   ·exact ⟨hg,regsLe_mem hrg hp2 r g hg⟩
   ·rw[Tr.get_leaf]at hg;cases hg
  refine ⟨hr.mem.fr,fun r g hg=> ?_,fun r s g k' hne hg hk hro b o o' hb hb'=> ?_⟩
  ·obtain ⟨_,g',q,h1,h2,h3,hq,h4,h5⟩:=hreg r g hg
   obtain ⟨b,o,arr,t,fz,vs,k1,k2,k3,k4,k5⟩:=(hr.mem.reg _ g' h1).ex
   exact ⟨b,o,arr,t,fz,vs,by unfold cutEnv;rw[if_pos (.inl (blt_iff.1 h5))];exact k1,k2,Ct.old_den h4 (Ct.le_den h3 hq k3),k4,fun e=>k5 (h2.trans e)⟩
  ·obtain ⟨hm,g',q,h1,h2,h3,hq,_,h5⟩:=hreg r g hg
   obtain ⟨hm',k'',q',i1,i2,i3,hq',_,i5⟩:=hreg s k' hk
   unfold cutEnv at hb hb'
   rw[if_pos (.inl (blt_iff.1 h5))]at hb
   rw[if_pos (.inl (blt_iff.1 i5))]at hb'
   have:=hr.mem.disj _ _ g' k'' (distinct_map (f:=renId ρ) hdist _ hm _ hm' hne) h1 i1 (by rw[h2,i2];exact hro) b o o' hb hb'
   rw[Ct.le_len h3 hq,Ct.le_len i3 hq',Ct.ren_len,Ct.ren_len]at this
   exact this
 ·unfold cutEnv
  rw[if_pos (.inr (by unfold gid;omega)),renId_other hρ (by unfold ownId gid;simp)]
  exact hr.glob g
end Go.Sx
