import PyProof.Rows.All
import Wide.All
import OpenK.AllK
import KE.KDictOf
import PyProof.AttrMissSeq
import KE.KRevIter
import Open.Tops
import Lean
import PySem.Challenge.RW_us0027_01
set_option Elab.async false
section
open PySem
namespace Mine
set_option genSizeOf false
set_option genInjectivity false
inductive PV where
 | none
 | bool (b:Bool)
 | int (i:Int)
 | str (x:List Nat)
 | list (ps:List PV)
 | tup (ps:List PV)
 | dict (ks:List (List Nat)) (ps:List PV)
 | inst (ks:List Nat) (ps:List PV)
noncomputable def encL:List Nat→Nat
 | []=>0
 | c :: r=>c+1+128*encL r
noncomputable def enc (x:Str):Nat:=encL x.cps.toList
inductive BinK|add|sub|mul|fdiv|mod|pow|shl|shr|band|bor|bxor
inductive CmpK|eq|ne|lt|le|ge|is_|isNot|notIn
inductive BI|len|ord|chr|sum|max|hex|divmod|range|reversed|tuple|listRange|dictOf
inductive MK|join|bitLength|upper|lower|count
inductive PE where
 | lit (v:PV)
 | var (x:Nat)
 | glob (x:Nat)
 | bin (k:BinK) (a b:PE)
 | neg (a:PE)
 | inv (a:PE)
 | not (a:PE)
 | cmp (k:CmpK) (a b:PE)
 | and (l:List PE)
 | or (l:List PE)
 | ite (c a b:PE)
 | list (l:List PE)
 | tup (l:List PE)
 | idx (o i:PE)
 | slice (o a b c:PE)
 | call (f:Nat) (l:List PE)
 | bi (f:BI) (l:List PE)
 | meth (m:MK) (o:PE) (l:List PE)
 | imeth (o:PE) (m:Nat) (l:List PE)
 | attr (o:PE) (n:Nat)
 | gattr (g n:Nat)
 | gmeth (g m:Nat) (l:List PE)
 | comp (elt:PE) (xs:List Nat) (single:Bool) (iter:PE) (ifs:List PE) (caps:List Nat)
 | el (e:PE)
 | kv (k v:PE)
 | gen (e:PE) (xs:List Nat) (single:Bool) (iter:PE)
 | tv (e:PE)
inductive PS where
 | assign (x:Nat) (e:PE) (occ:List Nat)
 | unpack (xs:List Nat) (e:PE) (occ:List Nat)
 | unpackR (xs:List Nat) (e:PE) (occ:List Nat)
 | chain (xs:List Nat) (e:PE)
 | setidx (x:Nat) (i e:PE)
 | setattr (x a:Nat) (e:PE) (occ:List Nat)
 | append (x:Nat) (e:PE) (occ:List Nat)
 | extend (x:Nat) (e:PE) (occ:List Nat)
 | reverse (x:Nat)
 | aug (x:Nat) (k:BinK) (e:PE)
 | if_ (c:PE) (a b:List PS)
 | for_ (xs:List Nat) (single:Bool) (iter:PE) (occ:List Nat) (body orelse:List PS)
 | while_ (c:PE) (body:List PS)
 | ret (e:PE) (occ:List Nat)
 | brk
 | stuck
 | pass
structure FnP where
 params:List Nat
 body:List PS
inductive Fl where
 | next
 | brk
 | ret (v:PV)
noncomputable abbrev PEnv:=List (Nat × Bool × PV)
namespace PEnv
noncomputable def get:PEnv→Nat→Option (Bool × PV)
 | [],_=>none
 | (y,b) :: r,x=>match Nat.beq x y with
  | true=>some b
  | false=>PEnv.get r x
noncomputable def set:PEnv→Nat→Bool→PV→PEnv
 | [],x,b,v=>[(x,b,v)]
 | (y,c) :: r,x,b,v=>match Nat.beq x y with
  | true=>(x,b,v) :: r
  | false=>(y,c) :: PEnv.set r x b v
noncomputable def has (l:List Nat) (x:Nat):Bool:=l.any (Nat.beq x)
noncomputable def only (l:List Nat):PEnv→PEnv
 | []=>[]
 | (y,b) :: r=>match has l y with
  | true=>(y,b) :: only l r
  | false=>only l r
noncomputable def freeze (l:List Nat):PEnv→PEnv
 | []=>[]
 | (y,b,v) :: r=>match has l y with
  | true=>(y,false,v) :: freeze l r
  | false=>(y,b,v) :: freeze l r
noncomputable def cap (l:List Nat) (ρ:PEnv):PEnv:=freeze l (only l ρ)
end PEnv
noncomputable def PV.scalar:PV→Bool
 | .none | .bool _ | .int _ | .str _=>true
 | _=>false
noncomputable def beqL (a b:List Nat):Bool:=decide (a=b)
noncomputable def intBeq (a b:Int):Bool:=decide (a=b)
noncomputable def ob {α β:Type} (o:Option α) (f:α→Option β):Option β:=match o with
 | some a=>f a
 | none=>none
noncomputable def og {α:Type} (b:Bool) (x:α):Option α:=match b with
 | true=>some x
 | false=>none
noncomputable def ogn {α:Type} (b:Bool) (x:α):Option α:=match b with
 | true=>none
 | false=>some x
noncomputable def oif {β:Type} (o:Option Bool) (t f:Option β):Option β:=match o with
 | some b=>match b with
  | true=>t
  | false=>f
 | none=>none
noncomputable def oneE (l:List PE):Option PE:=match l with
 | [p]=>some p
 | _=>none
noncomputable def inst? (p:PV):Option (List Nat × List PV):=match p with
 | .inst ks ps=>some (ks,ps)
 | _=>none
noncomputable def one? (l:List PV):Option PV:=match l with
 | [p]=>some p
 | _=>none
noncomputable def two? (l:List PV):Option (PV × PV):=match l with
 | [p,q]=>some (p,q)
 | _=>none
noncomputable def int? (p:PV):Option Int:=match p with
 | .int i=>some i
 | _=>none
noncomputable def str? (p:PV):Option (List Nat):=match p with
 | .str x=>some x
 | _=>none
noncomputable def list? (p:PV):Option (List PV):=match p with
 | .list x=>some x
 | _=>none
noncomputable def bool? (p:PV):Option Bool:=match p with
 | .bool b=>some b
 | _=>none
noncomputable def tup? (p:PV):Option (List PV):=match p with
 | .tup x=>some x
 | _=>none
noncomputable def eqvL (f:PV→PV→Option Bool):List PV→List PV→Option Bool
 | [],[]=>some true
 | x :: r,y :: t=>ob (f x y) fun p=>ob (eqvL f r t) fun q=>some (p && q)
 | [],_ :: _=>some false
 | _ :: _,[]=>some false
noncomputable def eqv:Nat→PV→PV→Option Bool
 | 0,_,_=>none
 | n+1,a,b=>match a with
  | .int a=>ob (int? b) fun b=>some (intBeq a b)
  | .str a=>ob (str? b) fun b=>some (beqL a b)
  | .bool a=>ob (bool? b) fun b=>some (a == b)
  | .list a=>ob (list? b) fun b=>eqvL (eqv n) a b
  | .tup a=>ob (tup? b) fun b=>eqvL (eqv n) a b
  | _=>none
noncomputable def fits (i:Int):Bool:=Nat.blt (Nat.log2 i.natAbs) 67108864
noncomputable def lenOk {α:Type} (l:List α):Bool:=Nat.ble l.length 1000000
noncomputable def toNat?:Int→Option Nat
 | .ofNat n=>some n
 | .negSucc _=>none
noncomputable def repL {α:Type} (l:List α):Nat→List α
 | 0=>[]
 | n+1=>l++repL l n
noncomputable def binI (k:BinK) (a b:Int):Option PV:=match k with
 | .add=>some (.int (a+b))
 | .sub=>some (.int (a - b))
 | .mul=>og (fits a && fits b) (.int (a*b))
 | .fdiv=>ogn (intBeq b 0 || Builtin.divisionGoesByPylong a b) (.int (a.fdiv b))
 | .mod=>ogn (intBeq b 0) (.int (a.fmod b))
 | .pow=>ob (toNat? b) fun n=>og (Nat.ble ((Nat.log2 a.natAbs+1)*n) 67108864) (.int (a ^ n))
 | .shl=>ob (toNat? b) fun n=>og (Nat.ble (Nat.log2 a.natAbs+1+n) 67108864) (.int (a*2 ^ n))
 | .shr=>ob (toNat? b) fun n=>og (Nat.ble n 67108864) (.int (a.fdiv (2 ^ n)))
 | .band=>some (.int (Builtin.bitAnd a b))
 | .bor=>some (.int (Builtin.bitOr a b))
 | .bxor=>some (.int (Builtin.bitXor a b))
noncomputable def mulS {α:Type} (mk:List α→PV) (a:List α) (i:Int):Option PV:=ob (toNat? i) fun n=>og (Nat.ble (a.length*n) 1000000 && Nat.ble n 1000000 && lenOk a) (mk (repL a n))
noncomputable def catS {α:Type} (mk:List α→PV) (a b:List α):Option PV:=og (lenOk a && lenOk b) (mk (a++b))
noncomputable def binV (k:BinK) (a b:PV):Option PV:=match a with
 | .int a=>ob (int? b) (binI k a)
 | .str a=>match k with
  | .add=>ob (str? b) (catS .str a)
  | .mul=>ob (int? b) (mulS .str a)
  | _=>none
 | .list a=>match k with
  | .add=>ob (list? b) (catS .list a)
  | .mul=>ob (int? b) (mulS .list a)
  | _=>none
 | _=>none
noncomputable def hasStr (x:List Nat):List PV→Option Bool
 | []=>some false
 | p :: r=>ob (str? p) fun y=>ob (hasStr x r) fun b=>some (beqL y x || b)
noncomputable def hasKey (x:List Nat) (ks:List (List Nat)):Bool:=ks.any (beqL x)
noncomputable def intLt (a b:Int):Bool:=decide (a<b)
noncomputable def dict? (p:PV):Option (List (List Nat) × List PV):=match p with
 | .dict ks ps=>some (ks,ps)
 | _=>none
noncomputable def inV (a b:PV):Option Bool:=ob (str? a) fun x=>ob (list? b) (hasStr x)
noncomputable def cmpI (f:Int→Int→Bool) (a b:PV):Option Bool:=ob (int? a) fun a=>ob (int? b) fun b=>some (f a b)
noncomputable def cmpB (f:Bool→Bool→Bool) (a b:PV):Option Bool:=ob (bool? a) fun a=>ob (bool? b) fun b=>some (f a b)
noncomputable def notNone (p:PV):Option Bool:=match p with
 | .none=>some false
 | .str _=>some true
 | _=>none
noncomputable def cmpV (k:CmpK) (a b:PV):Option Bool:=match k with
 | .eq=>eqv 6 a b
 | .ne=>ob (eqv 6 a b) fun c=>some (!c)
 | .notIn=>ob (inV a b) fun c=>some (!c)
 | .is_=>cmpB (fun a b=>a == b) a b
 | .isNot=>match b with
  | .none=>notNone a
  | _=>cmpB (fun a b=>!(a == b)) a b
 | .lt=>cmpI intLt a b
 | .le=>cmpI (fun a b=>!intLt b a) a b
 | .ge=>cmpI (fun a b=>!intLt a b) a b
noncomputable def truthV:PV→Option Bool
 | .bool b=>some b
 | .int i=>some (!intBeq i 0)
 | .list l=>og (lenOk l) (!l.isEmpty)
 | .tup l=>og (lenOk l) (!l.isEmpty)
 | _=>none
noncomputable def place (i:Int) (n:Nat):Option Nat:=match i with
 | .ofNat k=>og (Nat.blt k n) k
 | .negSucc k=>og (Nat.blt k n) (n - (k+1))
noncomputable def seat {α:Type} (i:Int) (l:List α):Option Nat:=ob (place i l.length) fun k=>og (lenOk l) k
noncomputable def dictGet (x:List Nat):List (List Nat)→List PV→Option PV
 | k :: ks,v :: vs=>match beqL x k with
  | true=>some v
  | false=>dictGet x ks vs
 | _,_=>none
noncomputable def idxV (o i:PV):Option PV:=match o with
 | .list l=>ob (int? i) fun i=>ob (seat i l) fun k=>l[k]?
 | .tup l=>ob (int? i) fun i=>ob (seat i l) fun k=>l[k]?
 | .dict ks vs=>ob (str? i) fun x=>dictGet x ks vs
 | .str l=>ob (int? i) fun i=>ob (seat i l) fun k=>ob l[k]? fun c=>some (.str [c])
 | _=>none
noncomputable def pickL {α:Type} (l:List α) (lo hi st:Option Int):List α :=
 (sliceRange (sliceBounds lo hi st l.length).1 (sliceBounds lo hi st l.length).2.1 (sliceBounds lo hi st l.length).2.2).filterMap (l[·]?)
noncomputable def part?:PV→Option (Option Int)
 | .none=>some none
 | .int i=>some (some i)
 | _=>none
noncomputable def step?:PV→Option (Option Int)
 | .none=>some none
 | .int i=>ogn (intBeq i 0) (some i)
 | _=>none
noncomputable def none?:PV→Option Unit
 | .none=>some ()
 | _=>none
noncomputable def sliceV (o a b c:PV):Option PV:=match o with
 | .list l=>ob (part? a) fun a=>ob (part? b) fun b=>ob (step? c) fun c=>og (lenOk l) (.list (pickL l a b c))
 | .str l=>ob (part? a) fun a=>ob (part? b) fun b=>ob (none? c) fun _=>og (lenOk l) (.str (Txt.slice ⟨l.toArray⟩ a b).cps.toList)
 | _=>none
noncomputable def sumV:List PV→Int→Option Int
 | [],a=>some a
 | p :: r,a=>ob (int? p) fun i=>sumV r (a+i)
noncomputable def rangeUp (a:Int):Nat→List PV
 | 0=>[]
 | n+1=>.int a :: rangeUp (a+1) n
noncomputable def small (a:Int):Bool:=Nat.blt a.natAbs 1000000
noncomputable def range1 (n:Int):Option (List PV):=og (small n) (rangeUp 0 n.toNat)
noncomputable def range2 (a b:Int):Option (List PV):=og (small a && small b) (rangeUp a (b - a).toNat)
noncomputable def rangeV (l:List PV):Option (List PV):=match l with
 | []=>none
 | p :: r=>ob (int? p) fun a=>match r with
  | []=>range1 a
  | q :: r=>ob (int? q) fun b=>match r with
   | []=>range2 a b
   | _ :: _=>none
noncomputable def hexV (i:Int):List Nat:=(PySem.baseText "0x" 16 i).cps.toList
noncomputable def strs?:List PV→Option (List (List Nat))
 | []=>some []
 | p :: r=>ob (str? p) fun x=>ob (strs? r) fun l=>some (x :: l)
noncomputable def lenV (p:PV):Option PV:=match p with
 | .list x=>og (lenOk x) (.int x.length)
 | .str x=>og (lenOk x) (.int x.length)
 | .tup x=>og (lenOk x) (.int x.length)
 | _=>none
noncomputable def ordV (x:List Nat):Option PV:=match x with
 | [c]=>some (.int c)
 | _=>none
noncomputable def chrV (i:Int):Option PV:=match i with
 | .ofNat c=>og (Nat.blt c 1114112 && !(Nat.ble 55296 c && Nat.blt c 57344)) (.str [c])
 | .negSucc _=>none
noncomputable def divV (a b:Int):Option PV:=og (!(intBeq b 0 || Builtin.divisionGoesByPylong a b)) (.tup [.int (a.fdiv b),.int (a.fmod b)])
noncomputable def pair? (p:PV):Option (List Nat × PV):=ob (tup? p) fun t=>ob (two? t) fun q=>ob (str? q.1) fun x=>some (x,q.2)
noncomputable def keys?:List PV→Option (List (List Nat) × List PV)
 | []=>some ([],[])
 | p :: r=>ob (pair? p) fun x=>ob (keys? r) fun k=>some (x.1 :: k.1,x.2 :: k.2)
noncomputable def pairsV (a:List PV):Option PV:=ob (keys? a) fun k=>og (decide k.1.Nodup && Nat.blt k.1.length 1000) (.dict k.1 k.2)
noncomputable def biV (f:BI) (l:List PV):Option PV:=match f with
 | .len=>ob (one? l) lenV
 | .ord=>ob (one? l) fun p=>ob (str? p) ordV
 | .chr=>ob (one? l) fun p=>ob (int? p) chrV
 | .sum=>ob (one? l) fun p=>ob (list? p) fun x=>ob (og (lenOk x) x) fun x=>ob (sumV x 0) fun i=>some (.int i)
 | .max=>ob (two? l) fun p=>ob (int? p.1) fun a=>ob (int? p.2) fun b=>some (.int (match intLt a b with|true=>b|false=>a))
 | .hex=>ob (one? l) fun p=>ob (int? p) fun i=>og (Nat.ble (hexV i).length 1000000) (.str (hexV i))
 | .divmod=>ob (two? l) fun p=>ob (int? p.1) fun a=>ob (int? p.2) fun b=>divV a b
 | .tuple=>ob (one? l) fun p=>ob (list? p) fun x=>og (lenOk x) (.tup x)
 | .listRange=>ob (rangeV l) fun x=>some (.list x)
 | .dictOf=>ob (one? l) fun p=>ob (list? p) pairsV
 | .range=>none
 | .reversed=>none
noncomputable def joinV (sep:List Nat):List (List Nat)→List Nat
 | []=>[]
 | [x]=>x
 | x :: r=>x++sep++joinV sep r
noncomputable def sumLen:List (List Nat)→Nat
 | []=>0
 | x :: r=>x.length+sumLen r
noncomputable def methV (m:MK) (o:PV) (l:List PV):Option PV:=match m with
 | .join=>ob (str? o) fun sep=>ob (one? l) fun p=>ob (list? p) fun x=>ob (strs? x) fun xs=>og (Nat.ble (sumLen xs+xs.length*sep.length) 1000000) (.str (joinV sep xs))
 | .count=>ob (str? o) fun x=>ob (one? l) fun p=>ob (str? p) fun y=>some (.int (Txt.count ⟨x.toArray⟩ ⟨y.toArray⟩))
 | .bitLength=>ob (int? o) fun i=>og l.isEmpty (.int (Builtin.Int.intBits i))
 | .upper=>ob (str? o) fun x=>og (l.isEmpty && Nat.ble (Txt.upper ⟨x.toArray⟩).length 1000000) (.str (Txt.upper ⟨x.toArray⟩).cps.toList)
 | .lower=>ob (str? o) fun x=>og (l.isEmpty && Nat.ble (Txt.lower ⟨x.toArray⟩).length 1000000) (.str (Txt.lower ⟨x.toArray⟩).cps.toList)
structure Rc where
 ev:PEnv→PE→Option PV
 ts:PEnv→PE→Option Bool
 ex:PEnv→List PS→Option (PEnv × Fl)
 fn:Nat→List PV→Option PV
 me:Nat→List PV→Option PV
structure Gl where
 gv:Nat→Option PV
 ga:Nat→Nat→Option PV
 gm:Nat→Nat→List PV→Option PV
 ft:Nat→Option FnP
 mt:Nat→Option FnP
 ct:Nat→Option FnP
 sp:Nat→List PV→Option PV
noncomputable def evL (r:Rc) (ρ:PEnv):List PE→Option (List PV)
 | []=>some []
 | e :: l=>ob (r.ev ρ e) fun v=>ob (evL r ρ l) fun vs=>some (v :: vs)
noncomputable def attrV (n:Nat):List Nat→List PV→Option PV
 | k :: ks,v :: vs=>match Nat.beq n k with
  | true=>some v
  | false=>attrV n ks vs
 | _,_=>none
noncomputable def putAttr (n:Nat) (x:PV):List Nat→List PV→List Nat × List PV
 | k :: ks,v :: vs=>match Nat.beq n k with
  | true=>(k :: ks,x :: vs)
  | false=>(k :: (putAttr n x ks vs).1,v :: (putAttr n x ks vs).2)
 | _,_=>([n],[x])
noncomputable def bindT (xs:List Nat) (single:Bool) (v:PV) (ρ:PEnv):Option PEnv:=match single with
 | true=>match xs with
  | [x]=>some (PEnv.set ρ x false v)
  | _=>none
 | false=>ob (tup? v) fun vs=>go xs vs ρ
where
 go:List Nat→List PV→PEnv→Option PEnv
  | [],[],ρ=>some ρ
  | x :: xs,v :: vs,ρ=>go xs vs (PEnv.set ρ x false v)
  | [],_ :: _,_=>none
  | _ :: _,[],_=>none
noncomputable def itV (v:PV):Option (List PV × Bool):=match v with
 | .list x=>og (lenOk x) (x,true)
 | .str x=>og (lenOk x) (x.map fun c=>.str [c],false)
 | _=>none
noncomputable def iterV (r:Rc) (ρ:PEnv) (e:PE):Option (List PV × Bool):=match e with
 | .bi f l=>match f with
  | .range=>ob (evL r ρ l) fun vs=>ob (rangeV vs) fun x=>some (x,false)
  | .reversed=>ob (oneE l) fun a=>ob (r.ev ρ a) fun v=>ob (list? v) fun x=>og (lenOk x) (x.reverse,true)
  | _=>none
 | .tv e=>ob (r.ev ρ e) itV
 | _=>none
noncomputable def allT (r:Rc) (ρ:PEnv):List PE→Option Bool
 | []=>some true
 | c :: l=>oif (r.ts ρ c) (allT r ρ l) (some false)
noncomputable def anyT (r:Rc) (ρ:PEnv):List PE→Option Bool
 | []=>some false
 | c :: l=>oif (r.ts ρ c) (some true) (anyT r ρ l)
noncomputable def gGo (r:Rc) (xs:List Nat) (single:Bool) (ifs:List PE) (em:PEnv→PV→Option (PEnv × PV)):List PV→PEnv→PV→Option (PEnv × PV)
 | [],ρ,q=>some (ρ,q)
 | p :: ps,ρ,q=>ob (bindT xs single p ρ) fun ρ'=>oif (allT r ρ' ifs) (ob (em ρ' q) fun o=>gGo r xs single ifs em ps o.1 o.2) (gGo r xs single ifs em ps ρ' q)
noncomputable def emL (r:Rc) (e:PE) (ρ:PEnv) (q:PV):Option (PEnv × PV):=ob (r.ev ρ e) fun v=>ob (list? q) fun l=>og (lenOk l) (ρ,.list (l++[v]))
noncomputable def emD (r:Rc) (k v:PE) (ρ:PEnv) (q:PV):Option (PEnv × PV):=ob (r.ev ρ k) fun x=>ob (str? x) fun x=>ob (r.ev ρ v) fun y=>ob (dict? q) fun d=>og (!hasKey x d.1 && Nat.ble d.1.length 1000) (ρ,.dict (d.1++[x]) (d.2++[y]))
noncomputable def em2 (r:Rc) (e:PE) (xs:List Nat) (single:Bool) (iter:PE) (ρ:PEnv) (q:PV):Option (PEnv × PV):=ob (iterV r ρ iter) fun qs=>gGo r xs single [] (emL r e) qs.1 ρ q
noncomputable def emE (r:Rc) (e:PE):PEnv→PV→Option (PEnv × PV):=match e with
 | .el e=>emL r e
 | .kv k v=>emD r k v
 | .gen e xs si it=>em2 r e xs si it
 | _=>fun _ _=>none
noncomputable def acc0 (e:PE):PV:=match e with
 | .kv _ _=>.dict [] []
 | _=>.list []
noncomputable def andGo (r:Rc) (ρ:PEnv):List PE→Option PV
 | []=>none
 | e :: l=>match l.isEmpty with
  | true=>r.ev ρ e
  | false=>ob (r.ev ρ e) fun v=>oif (truthV v) (andGo r ρ l) (some v)
noncomputable def evStep (G:Gl) (r:Rc) (ρ:PEnv) (e:PE):Option PV:=match e with
 | .lit v=>some v
 | .var x=>ob (PEnv.get ρ x) fun b=>some b.2
 | .glob x=>G.gv x
 | .bin k a b=>ob (r.ev ρ a) fun x=>ob (r.ev ρ b) fun y=>binV k x y
 | .neg a=>ob (r.ev ρ a) fun x=>ob (int? x) fun i=>some (.int (-i))
 | .inv a=>ob (r.ev ρ a) fun x=>ob (int? x) fun i=>some (.int (-i - 1))
 | .not a=>ob (r.ev ρ a) fun v=>ob (truthV v) fun b=>some (.bool (!b))
 | .cmp k a b=>ob (r.ev ρ a) fun x=>ob (r.ev ρ b) fun y=>ob (cmpV k x y) fun b=>some (.bool b)
 | .and l=>andGo r ρ l
 | .ite c a b=>oif (r.ts ρ c) (r.ev ρ a) (r.ev ρ b)
 | .list l=>ob (evL r ρ l) fun vs=>some (.list vs)
 | .tup l=>ob (evL r ρ l) fun vs=>some (.tup vs)
 | .idx o i=>ob (r.ev ρ o) fun x=>ob (r.ev ρ i) fun y=>idxV x y
 | .slice o a b c=>ob (r.ev ρ o) fun x=>ob (r.ev ρ a) fun p=>ob (r.ev ρ b) fun q=>ob (r.ev ρ c) fun t=>sliceV x p q t
 | .call f l=>ob (evL r ρ l) fun vs=>r.fn f vs
 | .bi f l=>ob (evL r ρ l) fun vs=>biV f vs
 | .meth m o l=>ob (r.ev ρ o) fun x=>ob (evL r ρ l) fun vs=>methV m x vs
 | .imeth o m l=>ob (r.ev ρ o) fun x=>ob (inst? x) fun i=>ob (ogn (PEnv.has i.1 m) ()) fun _=>ob (evL r ρ l) fun vs=>r.me m (.inst i.1 i.2 :: vs)
 | .attr o n=>ob (r.ev ρ o) fun x=>ob (inst? x) fun i=>attrV n i.1 i.2
 | .gattr g n=>G.ga g n
 | .gmeth g m l=>ob (evL r ρ l) fun vs=>G.gm g m vs
 | .comp elt xs single iter ifs caps=>ob (iterV r ρ iter) fun ps=>ob (gGo r xs single ifs (emE r elt) ps.1 (PEnv.cap caps ρ) (acc0 elt)) fun o=>some o.2
 | .or _=>none
 | .el _=>none
 | .kv _ _=>none
 | .gen _ _ _ _=>none
 | .tv _=>none
noncomputable def tsStep (r:Rc) (ρ:PEnv) (e:PE):Option Bool:=match e with
 | .not a=>ob (r.ts ρ a) fun b=>some (!b)
 | .and l=>allT r ρ l
 | .or l=>anyT r ρ l
 | .cmp k a b=>ob (r.ev ρ a) fun x=>ob (r.ev ρ b) fun y=>cmpV k x y
 | .tv e=>ob (r.ev ρ e) truthV
 | _=>none
noncomputable def isL (v:PV):Bool:=match v with
 | .list _=>true
 | _=>false
noncomputable def isFr (e:PE):Bool:=match e with
 | .list _=>true
 | .bin _ _ _=>true
 | _=>false
noncomputable def freshE (e:PE) (v:PV):Bool:=isFr e && isL v
noncomputable def forGo (r:Rc) (xs:List Nat) (single:Bool) (body orelse:List PS):List PV→PEnv→Option (PEnv × Fl)
 | [],ρ=>r.ex ρ orelse
 | p :: ps,ρ=>ob (bindT xs single p ρ) fun ρ'=>ob (r.ex ρ' body) fun o=>match o.2 with
  | .next=>forGo r xs single body orelse ps o.1
  | .brk=>some (o.1,.next)
  | .ret v=>some (o.1,.ret v)
noncomputable def whileGo (r:Rc) (c:PE) (body:List PS):Nat→PEnv→Option (PEnv × Fl)
 | 0,_=>none
 | n+1,ρ=>oif (r.ts ρ c)
  (ob (r.ex ρ body) fun o=>match o.2 with
   | .next=>whileGo r c body n o.1
   | .brk=>some (o.1,.next)
   | .ret v=>some (o.1,.ret v))
  (some (ρ,.next))
noncomputable def frz (v:PV) (occ:List Nat) (ρ:PEnv):PEnv:=match v.scalar with
 | true=>ρ
 | false=>PEnv.freeze occ ρ
noncomputable def setAll:List Nat→PV→PEnv→PEnv
 | [],_,ρ=>ρ
 | x :: r,v,ρ=>setAll r v (PEnv.set ρ x false v)
noncomputable def ownL (ρ:PEnv) (x:Nat):Option (List PV):=ob (PEnv.get ρ x) fun b=>ob (og b.1 b.2) list?
noncomputable def ownI (ρ:PEnv) (x:Nat):Option (List Nat × List PV):=ob (PEnv.get ρ x) fun b=>ob (og b.1 b.2) inst?
noncomputable def exS (r:Rc) (ρ:PEnv) (s:PS):Option (PEnv × Fl):=match s with
 | .assign x e occ=>ob (r.ev (PEnv.only occ ρ) e) fun v=>some (PEnv.set (frz v occ ρ) x (freshE e v) v,.next)
 | .unpack xs e occ=>ob (r.ev (PEnv.only occ ρ) e) fun v=>ob (bindT xs false v (PEnv.freeze occ ρ)) fun ρ'=>some (ρ',.next)
 | .unpackR xs e occ=>ob (r.ev (PEnv.only occ ρ) e) fun v=>ob (tup? v) fun vs=>ob (bindT.go xs.reverse vs.reverse (PEnv.freeze occ ρ)) fun ρ'=>some (ρ',.next)
 | .chain xs e=>ob (r.ev [] e) fun v=>og v.scalar (setAll xs v ρ,.next)
 | .setidx x i e=>ob (r.ev ρ e) fun v=>ob (og v.scalar v) fun v=>ob (r.ev ρ i) fun w=>ob (int? w) fun k=>ob (toNat? k) fun _=>ob (ownL ρ x) fun l=>ob (seat k l) fun j=>some (PEnv.set ρ x true (.list (l.set j v)),.next)
 | .setattr x a e occ=>ob (r.ev (PEnv.only occ ρ) e) fun v=>ob (ownI (frz v occ ρ) x) fun i=>og (Nat.ble i.1.length 1000) (PEnv.set (frz v occ ρ) x true (.inst (putAttr a v i.1 i.2).1 (putAttr a v i.1 i.2).2),.next)
 | .append x e occ=>ob (r.ev (PEnv.only occ ρ) e) fun v=>ob (ownL (frz v occ ρ) x) fun l=>og (lenOk l) (PEnv.set (frz v occ ρ) x true (.list (l++[v])),.next)
 | .extend x e occ=>ob (r.ev (PEnv.only occ ρ) e) fun v=>ob (list? v) fun vs=>ob (ownL (PEnv.freeze occ ρ) x) fun l=>og (lenOk l && lenOk vs) (PEnv.set (PEnv.freeze occ ρ) x true (.list (l++vs)),.next)
 | .while_ c body=>whileGo r c body 40 ρ
 | .reverse x=>ob (ownL ρ x) fun l=>og (lenOk l) (PEnv.set ρ x true (.list l.reverse),.next)
 | .aug x k e=>ob (PEnv.get ρ x) fun b=>ob (int? b.2) fun i=>ob (r.ev ρ e) fun w=>ob (int? w) fun j=>ob (binI k i j) fun v=>og v.scalar (PEnv.set ρ x false v,.next)
 | .if_ c a b=>oif (r.ts ρ c) (r.ex ρ a) (r.ex ρ b)
 | .for_ xs single iter occ body orelse=>ob (iterV r (PEnv.only occ ρ) iter) fun ps=>match ps.2 with
  | true=>forGo r xs single body orelse ps.1 (PEnv.freeze occ ρ)
  | false=>forGo r xs single body orelse ps.1 ρ
 | .ret e occ=>ob (r.ev (PEnv.only occ ρ) e) fun v=>some (ρ,.ret v)
 | .brk=>some (ρ,.brk)
 | .stuck=>none
 | .pass=>some (ρ,.next)
noncomputable def exL (r:Rc):List PS→PEnv→Option (PEnv × Fl)
 | [],ρ=>some (ρ,.next)
 | s :: l,ρ=>ob (exS r ρ s) fun o=>match o.2 with
  | .next=>exL r l o.1
  | .brk=>some (o.1,.brk)
  | .ret v=>some (o.1,.ret v)
noncomputable def zipE:List Nat→List PV→Option PEnv
 | [],[]=>some []
 | x :: xs,v :: vs=>ob (zipE xs vs) fun ρ=>some ((x,false,v) :: ρ)
 | [],_ :: _=>none
 | _ :: _,[]=>none
noncomputable def runF (r:Rc) (f:FnP) (vs:List PV):Option PV:=ob (zipE f.params vs) fun ρ=>ob (r.ex ρ f.body) fun o=>match o.2 with
 | .ret v=>some v
 | .next=>some .none
 | .brk=>none
noncomputable def runC (r:Rc) (f:FnP) (vs:List PV):Option PV:=match f.params with
 | me :: xs=>ob (zipE xs vs) fun ρ=>ob (r.ex ((me,true,.inst [] []) :: ρ) f.body) fun o=>match o.2 with
  | .next=>ob (ownI o.1 me) fun i=>some (.inst i.1 i.2)
  | .brk=>none
  | .ret _=>none
 | []=>none
noncomputable def ogo {α:Type} (b:Bool) (x:Option α):Option α:=match b with
 | true=>x
 | false=>none
noncomputable def om {α β:Type} (o:Option α) (f:α→Option β) (y:Option β):Option β:=match o with
 | some a=>f a
 | none=>y
noncomputable def callS (G:Gl) (r:Rc) (f:Nat) (vs:List PV):Option PV:=om (G.ft f) (fun fp=>runF r fp vs) (ob (G.ct f) fun fp=>runC r fp vs)
noncomputable def sem (G:Gl):Nat→Rc
 | 0=>⟨fun _ _=>none,fun _ _=>none,fun _ _=>none,fun _ _=>none,fun _ _=>none⟩
 | n+1=>{
   ev:=evStep G (sem G n)
   ts:=tsStep (sem G n)
   ex:=fun ρ l=>exL (sem G n) l ρ
   fn:=fun f vs=>om (ogo (Nat.ble 140 n) (G.sp f vs)) some (callS G (sem G n) f vs)
   me:=fun m vs=>ob (G.mt m) fun fp=>runF (sem G n) fp vs }
end Mine
end
section
set_option maxRecDepth 100000
open PySem PySem.Calls PyProof.Rows PySem.W
set_option genSizeOf false
set_option genInjectivity false
namespace Mine
noncomputable def okN (x:Str):Bool:=x.cps.all fun c=>Nat.blt c 127
theorem encL_cons {c d:Nat} {r t:List Nat} (h1:c<127) (h2:d<127) (e:encL (c :: r)=encL (d :: t)):c=d∧encL r=encL t:=by
 have m1:=congrArg (· % 128) e
 have m2:=congrArg (· / 128) e
 simp only [encL,Nat.add_mul_mod_self_left,Nat.add_mul_div_left _ _ (show 0<128 by decide)] at m1 m2
 rw [Nat.mod_eq_of_lt (Nat.succ_lt_succ h1),Nat.mod_eq_of_lt (Nat.succ_lt_succ h2)] at m1
 rw [Nat.div_eq_of_lt (Nat.succ_lt_succ h1),Nat.div_eq_of_lt (Nat.succ_lt_succ h2),Nat.zero_add,Nat.zero_add] at m2
 exact ⟨Nat.succ.inj m1,m2⟩
theorem encL_inj:∀ {a b:List Nat},(∀ c∈a,c<127)→(∀ c∈b,c<127)→encL a=encL b→a=b
 | [],[],_,_,_=>rfl
 | [],_ :: _,_,_,e=>by rw [encL,encL,Nat.add_right_comm] at e;exact (Nat.succ_ne_zero _ e.symm).elim
 | _ :: _,[],_,_,e=>by rw [encL,encL,Nat.add_right_comm] at e;exact (Nat.succ_ne_zero _ e).elim
 | c :: r,d :: t,ha,hb,e=>by
  obtain ⟨h1,h2⟩:=encL_cons (ha c (.head _)) (hb d (.head _)) e
  rw [h1,encL_inj (fun c hc=>ha c (.tail _ hc)) (fun c hc=>hb c (.tail _ hc)) h2]
theorem okN_lt {x:Str} (h:okN x=true):∀ c∈x.cps.toList,c<127:=by
 intro c hc
 unfold okN at h
 have:=(Array.all_eq_true'.mp h) c (Array.mem_toList_iff.mp hc)
 exact Nat.le_of_ble_eq_true this
theorem enc_inj {x y:Str} (hx:okN x=true) (hy:okN y=true) (e:enc x=enc y):x=y:=by
 have:=encL_inj (okN_lt hx) (okN_lt hy) e
 cases x;cases y
 simp only [Str.mk.injEq]
 exact Array.toList_inj.mp this
noncomputable abbrev Hid:=Addr→Prop
noncomputable def Live (h:Heap) (a:Addr):Prop:=∃ o,h.get? a=some o
theorem Live.lt {h:Heap} {a:Addr} (x:Live h a):a<h.objs.size:=(by obtain ⟨_,e⟩:=x;exact Heap.lt_size e)
theorem not_live_size {h:Heap}:¬ Live h h.objs.size:=fun x=>Nat.lt_irrefl _ x.lt
noncomputable def isCd (o:Obj):Prop:=o.cls=.type "code"∧∃ vs,o.data=.fields vs
noncomputable def NoCd (h:Heap) (b:Addr):Prop:=∀ o,h.get? b=some o→¬ isCd o
theorem NoCd.of {h:Heap} {b:Addr} (n:¬ Live h b):NoCd h b:=fun o e=>(n ⟨o,e⟩).elim
theorem NoCd.of_data {h:Heap} {b:Addr} {o:Obj} (e:h.get? b=some o) (n:∀ vs,o.data ≠ .fields vs):NoCd h b:=fun o' e' ⟨_,vs,q⟩=>by rw [e] at e';cases e';exact n vs q
theorem NoCd.of_cls {h:Heap} {b:Addr} {o:Obj} (e:h.get? b=some o) (n:o.cls ≠ .type "code"):NoCd h b:=fun o' e' ⟨q,_⟩=>by rw [e] at e';cases e';exact n q
theorem NoCd.ns {h:Heap} {b:Addr} {m:Str→Option Value} (x:h.Ns b m):NoCd h b:=(by obtain ⟨_,_,_,e,d,_⟩:=x;exact .of_data e fun vs q=>by rw [d] at q;cases q)
theorem NoCd.cell {h:Heap} {b:Addr} {v:Option Value} (x:h.IsCell b v):NoCd h b:=(by obtain ⟨_,e,d⟩:=x;exact .of_data e fun vs q=>by rw [d] at q;cases q)
structure Cx where
 prog:Program
 w:World
 GA:Addr→Prop
 T:Addr→Prop
 B:Addr→Prop
 GI:Heap→Prop
 mg:Str→Option Value
 mb:Str→Option Value
 C:Addr
 ga_live:∀ h a,GI h→GA a→Live h a
 mono:∀ h h',GI h→(∀ a o,(GA a∨isCd o)→h.get? a=some o→h'.get? a=some o)→GI h'
 tB:∀ a,T a→B a
 bGA:∀ a,B a→GA a
 sysB:B sysModules
 ns_g:∀ h,GI h→h.Ns mainGlobals mg
 ns_b:∀ h,GI h→h.Ns builtinsNs mb
 lim:∀ h,GI h→h.NoLimit
 boot:∀ x:Str,x ≠ "__name__"→mb x=bootBuiltins x
structure Ext (cx:Cx) (W:Hid) (h h':Heap):Prop where
 keep:∀ a o,¬ W a→h.get? a=some o→h'.get? a=some o
 alive:∀ a,¬ W a∨cx.T a→Live h a→Live h' a
 gi:cx.GI h→cx.GI h'
namespace Ext
variable {cx:Cx} {W W':Hid} {h h' h'':Heap}
theorem refl:Ext cx W h h:=⟨fun _ _ _ e=>e,fun _ _ x=>x,fun x=>x⟩
theorem trans (x:Ext cx W h h') (y:Ext cx W h' h''):Ext cx W h h'':=⟨fun a o n e=>y.keep a o n (x.keep a o n e),fun a q l=>y.alive a q (x.alive a q l),fun g=>y.gi (x.gi g)⟩
theorem weaken (x:Ext cx W h h') (k:∀ a,W a→W' a):Ext cx W' h h':=⟨fun a o n e=>x.keep a o (fun w=>n (k a w)) e,fun a q l=>x.alive a (q.imp (fun n w=>n (k a w)) id) l,x.gi⟩
theorem live (x:Ext cx cx.T h h'):∀ a,Live h a→Live h' a:=fun a l=>x.alive a (Classical.em (cx.T a)).symm l
theorem of_keep (k:∀ a o,h.get? a=some o→h'.get? a=some o):Ext cx W h h' :=
 ⟨fun a o _ e=>k a o e,fun a _ ⟨o,e⟩=>⟨o,k a o e⟩,fun g=>cx.mono h h' g fun a o _ e=>k a o e⟩
theorem push (o:Obj):Ext cx W h (h.push o):=of_keep fun _ _ e=>Heap.get?_push_of_some _ e
theorem of_but {b:Addr} (hb:W b) (hg:cx.GI h→¬ cx.GA b) (hl:cx.T b→Live h' b) (k:Heap.ExtBut b h h') (nc:NoCd h b):Ext cx W h h' :=
 ⟨fun a o n e=>k a o (fun q=>n (q ▸ hb)) e,fun a c ⟨o,e⟩=>by
  by_cases q:a=b
  ·subst q;exact hl (c.resolve_left fun n=>n hb)
  ·exact ⟨o,k a o q e⟩,fun g=>cx.mono h h' g fun a o ga e=>k a o (fun q=>ga.elim (fun ga=>hg g (q ▸ ga)) (nc o (q ▸ e))) e⟩
theorem but (e:Ext cx cx.T h h') (g:cx.GI h) {b:Addr} (nl:¬ Live h b) (k:Heap.ExtBut b h' h'') (nc:NoCd h' b):Ext cx cx.T h h'' :=
 ⟨fun a o n x=>k a o (fun q=>nl ⟨o,q ▸ x⟩) (e.keep a o n x),fun a c l=>by
  obtain ⟨o,ho⟩:=e.alive a c l
  exact ⟨o,k a o (fun q=>nl (q ▸ l)) ho⟩,fun _=>cx.mono h' h'' (e.gi g) fun a o ga x=>k a o (fun q=>ga.elim (fun ga=>nl (q ▸ cx.ga_live h a g ga)) (nc o (q ▸ x))) x⟩
end Ext
noncomputable abbrev S (x:List Nat):Str:=⟨x.toArray⟩
theorem S_inj {x y:List Nat}:S x=S y↔x=y:=by
 constructor
 ·intro h
  have:x.toArray=y.toArray:=congrArg Str.cps h
  simpa using this
 ·rintro rfl;rfl
theorem S_of (x:Str):S x.cps.toList=x:=by cases x;simp [S]
noncomputable def AttrsAre (m:Str→Option Value):List Nat→List Value→Prop
 | [],vs=>vs=[]∧∀ x,m x=none
 | k :: ks,vs=>∃ y v ws m',k=enc y∧vs=v :: ws∧okN y=true∧AttrsAre m' ks ws∧∀ z,m z=if z=y then some v else m' z
theorem AttrsAre.nil {m:Str→Option Value} (h:∀ x,m x=none):AttrsAre m [] []:=⟨rfl,h⟩
theorem AttrsAre.cons {m m':Str→Option Value} {x:Str} {v:Value} {ks:List Nat} {vs:List Value} (ok:okN x=true) (r:AttrsAre m' ks vs) (h:∀ y,m y=if y=x then some v else m' y):AttrsAre m (enc x :: ks) (v :: vs):=⟨x,v,vs,m',rfl,rfl,ok,r,h⟩
noncomputable def IsIn (h:Heap) (a C d:Addr):Prop:=∃ o,h.get? a=some o∧o.cls=.ref C∧(∀ c,o.data ≠ .cls c)∧o.dict=some d
noncomputable def IsLs (h:Heap) (a:Addr) (vs:List Value):Prop:=∃ n,h.get? a=some ({ cls:=.type "list",data:=.seq vs.toArray n }:Obj)
noncomputable def IsTp (h:Heap) (a:Addr) (vs:List Value):Prop:=∃ n,h.get? a=some ({ cls:=.type "tuple",data:=.seq vs.toArray n }:Obj)
theorem IsLs.noCd {h:Heap} {a:Addr} {vs:List Value} (x:IsLs h a vs):NoCd h a:=(by obtain ⟨_,e⟩:=x;exact .of_data e fun vs q=>by cases q)
theorem IsLs.isList {h:Heap} {a:Addr} {vs:List Value} (x:IsLs h a vs):h.IsList a vs.toArray:=(by obtain ⟨n,e⟩:=x;exact ⟨_,e,rfl,n,rfl⟩)
theorem IsTp.isTup {h:Heap} {a:Addr} {vs:List Value} (x:IsTp h a vs):IsTup h a vs.toArray:=(by obtain ⟨n,e⟩:=x;exact ⟨_,e,rfl,n,rfl⟩)
mutual
noncomputable def Rep (cx:Cx) (h:Heap) (H:Hid):Value→PV→Prop
 | v,.none=>v=.none
 | v,.bool b=>v=.bool b
 | v,.int i=>∃ t,v=.int i t
 | v,.str x=>∃ t,v=.str (S x) t
 | v,.list ps=>∃ a vs,v=.ref a∧¬ H a∧IsLs h a vs∧RepAll cx h H vs ps
 | v,.tup ps=>∃ a vs,v=.ref a∧¬ H a∧IsTp h a vs∧RepAll cx h H vs ps
 | v,.dict ks ps=>∃ a kvs,v=.ref a∧¬ H a∧h.DictOf (strKind cx.prog cx.w) a kvs∧kvs.map (·.1)=ks.map S∧RepAll cx h H (kvs.map (·.2)) ps
 | v,.inst ks ps=>∃ a d m vs,v=.ref a∧¬ H a∧¬ H d∧IsIn h a cx.C d∧d ≠ a∧h.Ns1 d m∧AttrsAre m ks vs∧RepAll cx h H vs ps
noncomputable def RepAll (cx:Cx) (h:Heap) (H:Hid):List Value→List PV→Prop
 | vs,[]=>vs=[]
 | vs,p :: ps=>∃ v ws,vs=v :: ws∧Rep cx h H v p∧RepAll cx h H ws ps
end
section
variable {cx:Cx} {h h':Heap} {H H':Hid} {v:Value} {vs:List Value} {p q:PV} {ps:List PV}
theorem Rep.none:Rep cx h H .none .none:=rfl
theorem Rep.bool (b:Bool):Rep cx h H (.bool b) (.bool b):=rfl
theorem Rep.int (i:Int) (t:Tok):Rep cx h H (.int i t) (.int i):=⟨t,rfl⟩
theorem Rep.str (x:List Nat) (t:Tok):Rep cx h H (.str (S x) t) (.str x):=⟨t,rfl⟩
theorem Rep.list {a:Addr} (n:¬ H a) (l:IsLs h a vs) (r:RepAll cx h H vs ps):Rep cx h H (.ref a) (.list ps):=⟨a,vs,rfl,n,l,r⟩
theorem Rep.tup {a:Addr} (n:¬ H a) (l:IsTp h a vs) (r:RepAll cx h H vs ps):Rep cx h H (.ref a) (.tup ps):=⟨a,vs,rfl,n,l,r⟩
theorem Rep.dict {a:Addr} {kvs:List (Str × Value)} {ks:List (List Nat)} (n:¬ H a) (g:h.DictOf (strKind cx.prog cx.w) a kvs) (e:kvs.map (·.1)=ks.map S) (r:RepAll cx h H (kvs.map (·.2)) ps):Rep cx h H (.ref a) (.dict ks ps):=⟨a,kvs,rfl,n,g,e,r⟩
theorem Rep.inst {a d:Addr} {m:Str→Option Value} {ks:List Nat} (n:¬ H a) (n':¬ H d) (i:IsIn h a cx.C d) (ne:d ≠ a) (g:h.Ns1 d m) (e:AttrsAre m ks vs) (r:RepAll cx h H vs ps):Rep cx h H (.ref a) (.inst ks ps):=⟨a,d,m,vs,rfl,n,n',i,ne,g,e,r⟩
theorem RepAll.nil:RepAll cx h H [] []:=rfl
theorem RepAll.cons (a:Rep cx h H v p) (r:RepAll cx h H vs ps):RepAll cx h H (v :: vs) (p :: ps):=⟨v,vs,rfl,a,r⟩
theorem Rep.none' (r:Rep cx h H v .none):v=.none:=r
theorem Rep.bool' {b:Bool} (r:Rep cx h H v (.bool b)):v=.bool b:=r
theorem Rep.int' {i:Int} (r:Rep cx h H v (.int i)):∃ t,v=.int i t:=r
theorem Rep.str' {x:List Nat} (r:Rep cx h H v (.str x)):∃ t,v=.str (S x) t:=r
theorem Rep.list' (r:Rep cx h H v (.list ps)):∃ a vs,v=.ref a∧¬ H a∧IsLs h a vs∧RepAll cx h H vs ps:=r
theorem Rep.tup' (r:Rep cx h H v (.tup ps)):∃ a vs,v=.ref a∧¬ H a∧IsTp h a vs∧RepAll cx h H vs ps:=r
theorem Rep.dict' {ks:List (List Nat)} (r:Rep cx h H v (.dict ks ps)):∃ a kvs,v=.ref a∧¬ H a∧h.DictOf (strKind cx.prog cx.w) a kvs∧kvs.map (·.1)=ks.map S∧RepAll cx h H (kvs.map (·.2)) ps:=r
theorem Rep.inst' {ks:List Nat} (r:Rep cx h H v (.inst ks ps)):∃ a d m vs,v=.ref a∧¬ H a∧¬ H d∧IsIn h a cx.C d∧d ≠ a∧h.Ns1 d m∧AttrsAre m ks vs∧RepAll cx h H vs ps:=r
noncomputable def PV.isObj:PV→Bool
 | .list _ | .tup _ | .dict _ _ | .inst _ _=>true
 | _=>false
theorem Rep.isRef (r:Rep cx h H v p) (o:p.isObj=true:=by rfl):∃ a,v=.ref a:=by
 cases p with
 | list _|tup _|dict _ _=>obtain ⟨a,_,e,_⟩:=r;exact ⟨a,e⟩
 | inst _ _=>obtain ⟨a,_,_,_,e,_⟩:=r;exact ⟨a,e⟩
 | _=>exact (Bool.false_ne_true o).elim
theorem RepAll.nil' (r:RepAll cx h H vs []):vs=[]:=r
theorem RepAll.cons' (r:RepAll cx h H vs (p :: ps)):∃ v ws,vs=v :: ws∧Rep cx h H v p∧RepAll cx h H ws ps:=r
theorem RepAll.vnil' (r:RepAll cx h H [] ps):ps=[]:=by
 cases ps with
 | nil=>rfl
 | cons p ps=>obtain ⟨_,_,e,_⟩:=r;exact (List.cons_ne_nil _ _ e.symm).elim
theorem RepAll.vcons' (r:RepAll cx h H (v :: vs) ps):∃ p qs,ps=p :: qs∧Rep cx h H v p∧RepAll cx h H vs qs:=by
 cases ps with
 | nil=>exact (List.cons_ne_nil _ _ r).elim
 | cons p ps =>
  obtain ⟨_,_,e,x,y⟩:=r
  obtain ⟨e1,e2⟩:=List.cons.inj e
  exact ⟨p,ps,rfl,e1 ▸ x,e2 ▸ y⟩
mutual
theorem Rep.map (k:∀ a o,¬ H a→h.get? a=some o→¬ H' a∧h'.get? a=some o):∀ {v:Value} {p:PV},Rep cx h H v p→Rep cx h' H' v p
 | _,.none,r=>r
 | _,.bool _,r=>r
 | _,.int _,r=>r
 | _,.str _,r=>r
 | _,.list _,r=>by
  obtain ⟨a,vs,e,n,⟨m,ho⟩,r⟩:=r
  exact ⟨a,vs,e,(k _ _ n ho).1,⟨m,(k _ _ n ho).2⟩,RepAll.map k r⟩
 | _,.tup _,r=>by
  obtain ⟨a,vs,e,n,⟨m,ho⟩,r⟩:=r
  exact ⟨a,vs,e,(k _ _ n ho).1,⟨m,(k _ _ n ho).2⟩,RepAll.map k r⟩
 | _,.dict _ _,r=>by
  obtain ⟨a,kvs,e,n,⟨o,es,ep,ho,q⟩,e',r⟩:=r
  exact ⟨a,kvs,e,(k _ _ n ho).1,⟨o,es,ep,(k _ _ n ho).2,q⟩,e',RepAll.map k r⟩
 | _,.inst _ _,r=>by
  obtain ⟨a,d,m,vs,e,n,n',⟨o,h1,h2⟩,ne,⟨o',es,ep,h3,h4⟩,e',r⟩:=r
  exact ⟨a,d,m,vs,e,(k _ _ n h1).1,(k _ _ n' h3).1,⟨o,(k _ _ n h1).2,h2⟩,ne,⟨o',es,ep,(k _ _ n' h3).2,h4⟩,e',RepAll.map k r⟩
theorem RepAll.map (k:∀ a o,¬ H a→h.get? a=some o→¬ H' a∧h'.get? a=some o):∀ {vs:List Value} {ps:List PV},RepAll cx h H vs ps→RepAll cx h' H' vs ps
 | _,[],r=>r
 | _,_ :: _,r=>by
  obtain ⟨v,ws,e,a,r⟩:=r
  exact ⟨v,ws,e,Rep.map k a,RepAll.map k r⟩
end
variable {v:Value} {p:PV} {vs ws:List Value} {ps qs:List PV} {W:Hid}
theorem Rep.ext (x:Rep cx h H v p) (e:Ext cx W h h') (k:∀ a,W a→H a):Rep cx h' H v p:=x.map fun a _ n g=>⟨n,e.keep a _ (fun w=>n (k a w)) g⟩
theorem RepAll.ext (x:RepAll cx h H vs ps) (e:Ext cx W h h') (k:∀ a,W a→H a):RepAll cx h' H vs ps:=x.map fun a _ n g=>⟨n,e.keep a _ (fun w=>n (k a w)) g⟩
theorem Rep.open' (x:Rep cx h H v p) (k:∀ a,H' a→H a):Rep cx h H' v p:=x.map fun a _ n g=>⟨fun q=>n (k a q),g⟩
theorem RepAll.open' (x:RepAll cx h H vs ps) (k:∀ a,H' a→H a):RepAll cx h H' vs ps:=x.map fun a _ n g=>⟨fun q=>n (k a q),g⟩
theorem Rep.hide (x:Rep cx h H v p) (k:∀ a,Live h a→H' a→H a):Rep cx h H' v p:=x.map fun a o n g=>⟨fun q=>n (k a ⟨o,g⟩ q),g⟩
theorem Rep.scalar (x:Rep cx h H v p) (s:p.scalar=true):Rep cx h' H' v p:=by
 cases p <;> first|exact x|exact (Bool.false_ne_true s).elim
theorem RepAll.length (x:RepAll cx h H vs ps):vs.length=ps.length:=by
 induction ps generalizing vs with
 | nil=>exact congrArg List.length x
 | cons p ps ih=>obtain ⟨v,ws,rfl,_,r⟩:=x;exact congrArg Nat.succ (ih r)
theorem RepAll.append (x:RepAll cx h H vs ps) (y:RepAll cx h H ws qs):RepAll cx h H (vs++ws) (ps++qs):=by
 induction ps generalizing vs with
 | nil=>obtain rfl:=x.nil';exact y
 | cons p ps ih=>obtain ⟨v,us,rfl,a,r⟩:=x;exact .cons a (ih r)
theorem RepAll.get (x:RepAll cx h H vs ps) {k:Nat} {p:PV} (hp:ps[k]?=some p):∃ v,vs[k]?=some v∧Rep cx h H v p:=by
 induction ps generalizing vs k with
 | nil=>exact (Option.some_ne_none _ hp.symm).elim
 | cons p ps ih =>
  obtain ⟨v,us,rfl,a,r⟩:=x
  cases k with
  | zero=>exact ⟨v,rfl,Option.some.inj hp ▸ a⟩
  | succ k=>exact ih r hp
theorem RepAll.reverse (x:RepAll cx h H vs ps):RepAll cx h H vs.reverse ps.reverse:=by
 induction ps generalizing vs with
 | nil=>obtain rfl:=x.nil';exact .nil
 | cons p ps ih=>obtain ⟨v,us,rfl,a,r⟩:=x;rw [List.reverse_cons,List.reverse_cons];exact (ih r).append (.cons a .nil)
theorem RepAll.set (x:RepAll cx h H vs ps) (k:Nat) (y:Rep cx h H v p):RepAll cx h H (vs.set k v) (ps.set k p):=by
 induction ps generalizing vs k with
 | nil=>obtain rfl:=x.nil';exact .nil
 | cons p ps ih =>
  obtain ⟨v,us,rfl,a,r⟩:=x
  cases k with
  | zero=>exact .cons y r
  | succ k=>exact .cons a (ih r k)
theorem RepAll.rep (x:RepAll cx h H vs ps):∀ n,RepAll cx h H (repL vs n) (repL ps n)
 | 0=>.nil
 | n+1=>x.append (x.rep n)
end
theorem ob_i {α β:Type} {o:Option α} {f:α→Option β} {r:β} (e:ob o f=some r):∃ a,o=some a∧f a=some r:=by
 cases o with
 | none=>exact (Option.some_ne_none _ e.symm).elim
 | some a=>exact ⟨a,rfl,e⟩
theorem ob_e {α β:Type} {o:Option α} {f:α→Option β} {r:β} {P:Prop} (e:ob o f=some r) (k:∀ a,o=some a→f a=some r→P):P:=by
 cases o with
 | none=>exact (Option.some_ne_none _ e.symm).elim
 | some a=>exact k a rfl e
theorem oif_i {β:Type} {o:Option Bool} {t f:Option β} {r:β} (e:oif o t f=some r):(o=some true∧t=some r)∨(o=some false∧f=some r):=by
 cases o with
 | none=>exact (Option.some_ne_none _ e.symm).elim
 | some b=>cases b with
  | true=>exact .inl ⟨rfl,e⟩
  | false=>exact .inr ⟨rfl,e⟩
theorem og_i {α:Type} {b:Bool} {x r:α} (e:og b x=some r):b=true∧x=r:=by
 cases b with
 | false=>exact (Option.some_ne_none _ e.symm).elim
 | true=>exact ⟨rfl,Option.some.inj e⟩
theorem ogn_i {α:Type} {b:Bool} {x r:α} (e:ogn b x=some r):b=false∧x=r:=by
 cases b with
 | true=>exact (Option.some_ne_none _ e.symm).elim
 | false=>exact ⟨rfl,Option.some.inj e⟩
theorem toNat_i {i:Int} {n:Nat} (e:toNat? i=some n):i=(n:Int):=by
 cases i with
 | ofNat m=>exact congrArg Int.ofNat (Option.some.inj e)
 | negSucc m=>exact (Option.some_ne_none _ e.symm).elim
section
variable {cx:Cx} {h:Heap} {H:Hid} {v:Value} {vs:List Value} {p q:PV} {ps:List PV}
theorem Rep.toInst {i:List Nat × List PV} (r:Rep cx h H v p) (e:inst? p=some i):Rep cx h H v (.inst i.1 i.2):=by
 cases p with
 | inst ks ps=>exact Option.some.inj e ▸ r
 | _=>exact (Option.some_ne_none _ e.symm).elim
theorem RepAll.one' (r:RepAll cx h H vs [p]):∃ v,vs=[v]∧Rep cx h H v p:=by
 obtain ⟨v,ws,rfl,x,y⟩:=r.cons'
 exact ⟨v,by rw [y.nil'],x⟩
theorem RepAll.two' (r:RepAll cx h H vs [p,q]):∃ v w,vs=[v,w]∧Rep cx h H v p∧Rep cx h H w q:=by
 obtain ⟨v,ws,rfl,x,y⟩:=r.cons'
 obtain ⟨w,rfl,z⟩:=y.one'
 exact ⟨v,w,rfl,x,z⟩
theorem int_i {i:Int} (e:int? p=some i):p=.int i:=by
 cases p <;> first|exact (Option.some_ne_none _ e.symm).elim|exact congrArg _ (Option.some.inj e)
theorem str_i {x:List Nat} (e:str? p=some x):p=.str x:=by
 cases p <;> first|exact (Option.some_ne_none _ e.symm).elim|exact congrArg _ (Option.some.inj e)
theorem list_i (e:list? p=some ps):p=.list ps:=by
 cases p <;> first|exact (Option.some_ne_none _ e.symm).elim|exact congrArg _ (Option.some.inj e)
theorem bool_i {b:Bool} (e:bool? p=some b):p=.bool b:=by
 cases p <;> first|exact (Option.some_ne_none _ e.symm).elim|exact congrArg _ (Option.some.inj e)
theorem tup_i (e:tup? p=some ps):p=.tup ps:=by
 cases p <;> first|exact (Option.some_ne_none _ e.symm).elim|exact congrArg _ (Option.some.inj e)
theorem dict_i {k:List (List Nat) × List PV} (e:dict? p=some k):p=.dict k.1 k.2:=by
 cases p <;> first|exact (Option.some_ne_none _ e.symm).elim|(obtain rfl:=Option.some.inj e;rfl)
theorem Rep.toBool {b:Bool} (r:Rep cx h H v p) (e:bool? p=some b):v=.bool b:=(bool_i e ▸ r).bool'
theorem Rep.toTup (r:Rep cx h H v p) (e:tup? p=some ps):∃ a vs,v=.ref a∧¬ H a∧IsTp h a vs∧RepAll cx h H vs ps:=(tup_i e ▸ r).tup'
theorem one_i (e:one? ps=some p):ps=[p]:=by
 match ps,e with
 | [_],e=>exact congrArg (· :: []) (Option.some.inj e)
theorem two_i {t:PV × PV} (e:two? ps=some t):ps=[t.1,t.2]:=by
 match ps,e with
 | [_,_],e=>rw [← Option.some.inj e]
theorem RepAll.one (r:RepAll cx h H vs ps) (e:one? ps=some p):∃ v,vs=[v]∧Rep cx h H v p:=(one_i e ▸ r).one'
theorem RepAll.two {t:PV × PV} (r:RepAll cx h H vs ps) (e:two? ps=some t):∃ v w,vs=[v,w]∧Rep cx h H v t.1∧Rep cx h H w t.2:=(two_i e ▸ r).two'
theorem Rep.toInt {i:Int} (r:Rep cx h H v p) (e:int? p=some i):∃ t,v=.int i t:=(int_i e ▸ r).int'
theorem Rep.toStr {x:List Nat} (r:Rep cx h H v p) (e:str? p=some x):∃ t,v=.str (S x) t:=(str_i e ▸ r).str'
theorem Rep.toList (r:Rep cx h H v p) (e:list? p=some ps):∃ a vs,v=.ref a∧¬ H a∧IsLs h a vs∧RepAll cx h H vs ps:=(list_i e ▸ r).list'
end
noncomputable def VarAt (h:Heap) (env:Env) (x:Str) (v:Value):Prop :=
 (env.kindOf x=some .local∧∃ m,h.Ns env.locals m∧m x=some v)∨((env.kindOf x=some .cell∨(env.kindOf x=some .free∧(x == ("__classdict__":Str))=false))∧∃ c,env.cells.lookup x=some c∧h.IsCell c (some v))
noncomputable def Room (A:Around) (n:Nat):Prop:=A.handled=none∧A.depth+2*n<recursionLimit∧A.units+16*n<cLine
theorem Room.le {A:Around} {n m:Nat} (x:Room A n) (h:m≤n):Room A m:=⟨x.1,Nat.lt_of_le_of_lt (Nat.add_le_add_left (Nat.mul_le_mul_left 2 h) _) x.2.1,Nat.lt_of_le_of_lt (Nat.add_le_add_left (Nat.mul_le_mul_left 16 h) _) x.2.2⟩
structure Cn (cx:Cx) (h:Heap) (H:Hid):Prop where
 gi:cx.GI h
 hid:∀ a,H a→Live h a
 bH:∀ a,cx.B a→H a
 hg:∀ a,H a→cx.GA a→cx.B a
theorem Cn.ext {cx:Cx} {h h':Heap} {H:Hid} (c:Cn cx h H) (e:Ext cx cx.T h h'):Cn cx h' H:=⟨e.gi c.gi,fun a x=>e.live a (c.hid a x),c.bH,c.hg⟩
theorem Cn.tH {cx:Cx} {h:Heap} {H:Hid} (c:Cn cx h H):∀ a,cx.T a→H a:=fun a t=>c.bH a (cx.tB a t)
structure InE (cx:Cx) (n:Nat) (A:Around) (env:Env) (ns:List (Str × NameKind)) (ρ:PEnv) (H:Hid) (s:Shared):Prop where
 room:Room A n
 kind:env.scope.kind=.function
 glb:∀ f,ns.lookup f=some .globalImplicit→env.kindOf f=some .globalImplicit
 cel:∀ y,ns.lookup y=some .cell∨ns.lookup y=some .free→env.kindOf y=some .cell∧∃ c,env.cells.lookup y=some c
 glob:env.globals=mainGlobals
 blt:env.builtins=builtinsNs
 cn:Cn cx s.heap H
 lH:H env.locals
 cH:∀ n c,env.cells.lookup n=some c→H c
 nT:¬ cx.T env.locals∧∀ n c,env.cells.lookup n=some c→¬ cx.T c
 vars:∀ x b p,okN x=true→PEnv.get ρ (enc x)=some (b,p)→∃ v,VarAt s.heap env x v∧Rep cx s.heap H v p
theorem VarAt.keep {h h':Heap} {env:Env} {x:Str} {v:Value} (y:VarAt h env x v) (k:∀ a o,(a=env.locals∨∃ n c,env.cells.lookup n=some c∧a=c)→h.get? a=some o→h'.get? a=some o):VarAt h' env x v:=by
 rcases y with ⟨e,m,hn,hm⟩|⟨e,c,hc,hv⟩
 ·obtain ⟨o,es,ep,ho,r⟩:=hn
  exact .inl ⟨e,m,⟨o,es,ep,k _ _ (.inl rfl) ho,r⟩,hm⟩
 ·obtain ⟨o,ho,hd⟩:=hv
  exact .inr ⟨e,c,hc,⟨o,k _ _ (.inr ⟨x,c,hc,rfl⟩) ho,hd⟩⟩
theorem InE.ext {cx:Cx} {n:Nat} {A:Around} {env:Env} {ns:List (Str × NameKind)} {ρ:PEnv} {H:Hid} {s:Shared} (I:InE cx n A env ns ρ H s) {h':Heap} {tk':Nat} (e:Ext cx cx.T s.heap h') :
  InE cx n A env ns ρ H { s with heap:=h',toks:=tk' } :=
 ⟨I.room,I.kind,I.glb,I.cel,I.glob,I.blt,I.cn.ext e,I.lH,I.cH,I.nT,fun x b p ok g=>by
  obtain ⟨v,hv,hr⟩:=I.vars x b p ok g
  refine ⟨v,hv.keep fun a o ha g=>?_,hr.ext e I.cn.tH⟩
  rcases ha with rfl|⟨n,c,hc,rfl⟩
  ·exact e.keep _ _ I.nT.1 g
  ·exact e.keep _ _ (I.nT.2 n _ hc) g⟩
theorem InE.le {cx:Cx} {n m:Nat} {A:Around} {env:Env} {ns:List (Str × NameKind)} {ρ:PEnv} {H:Hid} {s:Shared} (I:InE cx n A env ns ρ H s) (h:m≤n):InE cx m A env ns ρ H s :=
 ⟨I.room.le h,I.kind,I.glb,I.cel,I.glob,I.blt,I.cn,I.lH,I.cH,I.nT,I.vars⟩
end Mine
end
section
set_option maxRecDepth 100000
open PySem PySem.Calls PyProof.Rows PySem.W
set_option genSizeOf false
set_option genInjectivity false
namespace Mine
theorem intBeq_iff {a b:Int}:intBeq a b=true↔a=b:=decide_eq_true_iff
theorem intBeq_false {a b:Int}:intBeq a b=false↔a ≠ b:=decide_eq_false_iff_not
theorem intBeq_eq {a b:Int}:intBeq a b=(a == b):=rfl
theorem intLt_eq {a b:Int}:intLt a b=decide (a<b):=rfl
theorem beqL_iff {a b:List Nat}:beqL a b=true↔a=b:=decide_eq_true_iff
theorem beqL_S {a b:List Nat}:beqL a b=(S a == S b):=by
 rw [Bool.eq_iff_iff,beqL_iff,beq_iff_eq,S_inj]
theorem bits_le (a:Int):Builtin.Int.intBits a≤Nat.log2 a.natAbs+1:=by
 unfold Builtin.Int.intBits
 split <;> omega
theorem blt_true {a b:Nat}:Nat.blt a b=true↔a<b:=by simp
theorem ble_true {a b:Nat}:Nat.ble a b=true↔a≤b:=by simp
noncomputable def Frs (cx:Cx) (h h':Heap) (H:Hid) (v:Value) (r:PV):Prop :=
 ∀ ps,r=.list ps→∃ D vs,v=.ref D∧¬ Live h D∧IsLs h' D vs∧RepAll cx h' (fun a=>H a∨a=D) vs ps
noncomputable def RetF (cx:Cx) (s:Shared) (H:Hid) (fr:Bool) (p:PV) (Q:Value→Shared→Prop):Prop :=
 ∀ v h' tk',Ext cx cx.T s.heap h'→Rep cx h' H v p→(fr=true→Frs cx s.heap h' H v p)→Q v { s with heap:=h',toks:=tk' }
theorem RetF.int {cx:Cx} {s:Shared} {H:Hid} {fr:Bool} {i:Int} {t tk:Nat} {Q:Value→Shared→Prop} (r:RetF cx s H fr (.int i) Q):Q (.int i t) { s with toks:=tk } :=
 r _ s.heap tk .refl (.int i t) fun _ ps e=>by cases e
theorem RetF.bool {cx:Cx} {s:Shared} {H:Hid} {fr:Bool} {b:Bool} {tk:Nat} {Q:Value→Shared→Prop} (r:RetF cx s H fr (.bool b) Q):Q (.bool b) { s with toks:=tk } :=
 r _ s.heap tk .refl (.bool b) fun _ ps e=>by cases e
theorem RetF.str {cx:Cx} {s:Shared} {H:Hid} {fr:Bool} {x:List Nat} {t tk:Nat} {Q:Value→Shared→Prop} (r:RetF cx s H fr (.str x) Q):Q (.str (S x) t) { s with toks:=tk } :=
 r _ s.heap tk .refl (.str x t) fun _ ps e=>by cases e
theorem RetF.newList {cx:Cx} {s:Shared} {H:Hid} {fr:Bool} {vs:List Value} {ps:List PV} {tk:Nat} {Q:Value→Shared→Prop} (hid:∀ a,H a→Live s.heap a) (r:RetF cx s H fr (.list ps) Q) (x:RepAll cx s.heap H vs ps) :
  Q (.ref s.heap.objs.size) { s with heap:=s.heap.push { cls:=.type "list",data:=.seq vs.toArray },toks:=tk }:=by
 have nl:¬ Live s.heap s.heap.objs.size:=not_live_size
 have nH:¬ H s.heap.objs.size:=fun q=>nl (hid _ q)
 have e:Ext cx cx.T s.heap (s.heap.push { cls:=.type "list",data:=.seq vs.toArray }):=.push _
 have g:IsLs (s.heap.push { cls:=.type "list",data:=.seq vs.toArray }) s.heap.objs.size vs:=⟨0,Heap.get?_push_size _ rfl⟩
 refine r _ _ tk e (.list nH g (x.map fun a o n q=>⟨n,Heap.get?_push_of_some _ q⟩)) fun _ qs eq=>?_
 cases eq
 refine ⟨_,vs,rfl,nl,g,x.map fun a o n q=>⟨fun w=>?_,Heap.get?_push_of_some _ q⟩⟩
 rcases w with w|w
 ·exact n w
 ·subst w;exact nl ⟨o,q⟩
theorem RetF.newTup {cx:Cx} {s:Shared} {H:Hid} {fr:Bool} {vs:List Value} {ps:List PV} {tk:Nat} {Q:Value→Shared→Prop} (hid:∀ a,H a→Live s.heap a) (r:RetF cx s H fr (.tup ps) Q) (x:RepAll cx s.heap H vs ps) :
  Q (.ref s.heap.objs.size) { s with heap:=s.heap.push { cls:=.type "tuple",data:=.seq vs.toArray },toks:=tk }:=by
 have nl:¬ Live s.heap s.heap.objs.size:=not_live_size
 have nH:¬ H s.heap.objs.size:=fun q=>nl (hid _ q)
 have e:Ext cx cx.T s.heap (s.heap.push { cls:=.type "tuple",data:=.seq vs.toArray }):=.push _
 have g:IsTp (s.heap.push { cls:=.type "tuple",data:=.seq vs.toArray }) s.heap.objs.size vs:=⟨0,Heap.get?_push_size _ rfl⟩
 exact r _ _ tk e (.tup nH g (x.map fun a o n q=>⟨n,Heap.get?_push_of_some _ q⟩)) fun _ qs eq=>by cases eq
section
variable {cx:Cx} {A:Around} {E:Value→Shared→Prop} {s:Shared} {H:Hid} {fr:Bool} {Q:Value→Shared→Prop}
noncomputable def opOf:BinK→Operator
 | .add=>.Add | .sub=>.Sub | .mul=>.Mult | .fdiv=>.FloorDiv | .mod=>.Mod | .pow=>.Pow | .shl=>.LShift | .shr=>.RShift | .band=>.BitAnd | .bor=>.BitOr | .bxor=>.BitXor
theorem mulOk_of {a b:Int} (ha:fits a=true) (hb:fits b=true):IntMulOk a b:=by
 have h1:=blt_true.mp ha
 have h2:=blt_true.mp hb
 have b1:=bits_le a
 have b2:=bits_le b
 have h3:Builtin.Int.intBits a+Builtin.Int.intBits b≤2 ^ 27:=Nat.le_trans (Nat.add_le_add (Nat.le_trans b1 h1) (Nat.le_trans b2 h2)) (by decide)
 unfold IntMulOk Builtin.Int.intTooBig bitsLine
 simp only [Bool.and_eq_true,decide_eq_true_eq,not_and]
 intro _
 rw [← Int.natCast_add]
 exact Int.not_lt.mpr (Int.ofNat_le.mpr h3)
theorem pow_fits {a:Int} {n:Nat} (q:Nat.ble ((Nat.log2 a.natAbs+1)*n) 67108864=true):(Builtin.Int.intBits a:Int)*(n:Int)≤2 ^ 27:=by
 rw [← Int.natCast_mul]
 exact Int.le_trans (Int.ofNat_le.mpr (Nat.le_trans (Nat.mul_le_mul_right n (bits_le a)) (ble_true.mp q))) (by decide)
theorem shl_fits {a:Int} {n:Nat} (q:Nat.ble (Nat.log2 a.natAbs+1+n) 67108864=true):(Builtin.Int.intBits a:Int)+(n:Int)≤2 ^ 27:=by
 rw [← Int.natCast_add]
 exact Int.le_trans (Int.ofNat_le.mpr (Nat.le_trans (Nat.add_le_add_right (bits_le a) n) (ble_true.mp q))) (by decide)
theorem bin_int {k:BinK} {a b:Int} {t u:Tok} {r:PV} (e:binI k a b=some r) (h:RetF cx s H fr r Q) :
  wpAny (model cx.prog cx.w) A (binaryOp (opOf k) (.int a t) (.int b u)) Q E s∧wpAny (model cx.prog cx.w) A (inplaceOp (opOf k) (.int a t) (.int b u)) Q E s:=by
 cases k with
 | add=>obtain rfl:=Option.some.inj e;exact ⟨PyProof.Rows.add_int h.int,iadd_int h.int⟩
 | sub=>obtain rfl:=Option.some.inj e;exact ⟨sub_int' h.int,isub_int h.int⟩
 | mul =>
  obtain ⟨q,rfl⟩:=og_i e
  have m:=mulOk_of ((Bool.and_eq_true _ _).mp q).1 ((Bool.and_eq_true _ _).mp q).2
  exact ⟨PyProof.Rows.mul_int h.int m,imul_int h.int m⟩
 | fdiv =>
  obtain ⟨q,rfl⟩:=ogn_i e
  obtain ⟨q1,q2⟩:=Bool.or_eq_false_iff.mp q
  exact ⟨floordiv_int (intBeq_false.mp q1) h.int (.inl q2),ifloordiv_int (intBeq_false.mp q1) h.int (.inl q2)⟩
 | mod =>
  obtain ⟨q,rfl⟩:=ogn_i e
  exact ⟨mod_int' (intBeq_false.mp q) h.int,imod_int (intBeq_false.mp q) h.int⟩
 | pow =>
  obtain ⟨n,h1,e1⟩:=ob_i e
  obtain rfl:=toNat_i h1
  obtain ⟨q,rfl⟩:=og_i e1
  exact ⟨pow_int (Int.natCast_nonneg n) (pow_fits q) h.int,ipow_int (Int.natCast_nonneg n) (pow_fits q) h.int⟩
 | shl =>
  obtain ⟨n,h1,e1⟩:=ob_i e
  obtain rfl:=toNat_i h1
  obtain ⟨q,rfl⟩:=og_i e1
  exact ⟨lshift_int (Int.natCast_nonneg n) (shl_fits q) h.int,ilshift_int (Int.natCast_nonneg n) (shl_fits q) h.int⟩
 | shr =>
  obtain ⟨n,h1,e1⟩:=ob_i e
  obtain rfl:=toNat_i h1
  obtain ⟨q,rfl⟩:=og_i e1
  exact ⟨rshift_int (Int.natCast_nonneg n) h.int,irshift_int (Int.natCast_nonneg n) h.int⟩
 | band=>obtain rfl:=Option.some.inj e;exact ⟨PyProof.Rows.and_int h.int,iand_int h.int⟩
 | bor=>obtain rfl:=Option.some.inj e;exact ⟨PyProof.Rows.or_int h.int,ior_int h.int⟩
 | bxor=>obtain rfl:=Option.some.inj e;exact ⟨PyProof.Rows.xor_int h.int,ixor_int h.int⟩
theorem S_append (a b:List Nat):S a++S b=S (a++b):=by
 show Str.append _ _=_
 simp [Str.append,S]
theorem S_length (a:List Nat):(S a).length=a.length:=by simp [Str.length]
theorem lenOk_le {α:Type} {l:List α} (h:lenOk l=true):l.length≤1000000:=ble_true.mp h
theorem sizeLine_big:(1000000:Nat)+1000000≤sizeLine:=by decide
theorem repL_length {α:Type} (l:List α):∀ n,(repL l n).length=l.length*n
 | 0=>rfl
 | n+1=>by rw [repL,List.length_append,repL_length l n,Nat.mul_succ,Nat.add_comm]
theorem repL_nil {α:Type}:∀ n,repL ([]:List α) n=[]
 | 0=>rfl
 | n+1=>by rw [repL,repL_nil n];rfl
theorem repL_fold {α:Type} (l:List α):∀ (n:Nat) (acc:Array α),(List.replicate n l.toArray).foldl (·++·) acc=acc++(repL l n).toArray
 | 0,acc=>(Array.append_empty).symm
 | n+1,acc=>by rw [List.replicate_succ,List.foldl_cons,repL_fold l n,repL,← List.append_toArray,Array.append_assoc]
theorem lens2 {α:Type} {a b:List α} (q:(lenOk a && lenOk b)=true):a.length+b.length≤sizeLine:=by
 obtain ⟨q1,q2⟩:=(Bool.and_eq_true _ _).mp q
 exact Nat.le_trans (Nat.add_le_add (lenOk_le q1) (lenOk_le q2)) sizeLine_big
theorem bin_str {a b:List Nat} {t u:Tok} {r:PV} (e:catS .str a b=some r) (h:RetF cx s H fr r Q) :
  wpAny (model cx.prog cx.w) A (binaryOp .Add (.str (S a) t) (.str (S b) u)) Q E s:=by
 obtain ⟨q,rfl⟩:=og_i e
 exact PyProof.Rows.add_str (fun t' tk=>by rw [S_append];exact h.str) (by rw [S_length,S_length];exact lens2 q)
theorem of_eq_false_b {b:Bool} (h:b=false):¬ b=true:=fun q=>Bool.false_ne_true (h.symm.trans q)
theorem big1:(1000000:Nat)≤sizeLine:=by decide
theorem mulS_i {α:Type} {mk:List α→PV} {a:List α} {i:Int} {r:PV} (e:mulS mk a i=some r):∃ n:Nat,i=n∧a.length*n≤1000000∧(n:Int)<2 ^ 63∧r=mk (repL a n):=by
 obtain ⟨n,h1,e1⟩:=ob_i e
 obtain ⟨q,e2⟩:=og_i e1
 obtain ⟨q,q3⟩:=(Bool.and_eq_true _ _).mp q
 obtain ⟨q1,q2⟩:=(Bool.and_eq_true _ _).mp q
 exact ⟨n,toNat_i h1,ble_true.mp q1,Int.lt_of_le_of_lt (Int.ofNat_le.mpr (ble_true.mp q2)) (by decide),e2.symm⟩
theorem no_less (n:Nat):¬ (n:Int) < -(2 ^ 63:Int):=Int.not_lt.mpr (Int.le_trans (by decide) (Int.natCast_nonneg n))
theorem bin_strmul {a:List Nat} {n:Int} {t u:Tok} {r:PV} (e:mulS .str a n=some r) (h:RetF cx s H fr r Q) :
  wpAny (model cx.prog cx.w) A (binaryOp .Mult (.str (S a) t) (.int n u)) Q E s:=by
 obtain ⟨n,rfl,q1,q2,rfl⟩:=mulS_i e
 refine P.mul_str (by rw [decide_eq_false (no_less n),decide_eq_false (Int.not_le.mpr q2)];rfl) (fun h1 _=>Int.not_lt.mpr ((Int.le_ediv_iff_mul_le (Int.lt_of_lt_of_le (by decide) (Int.not_lt.mp h1))).mpr ?_)) (fun h1 _=>decide_eq_false (Nat.not_lt.mpr ?_)) ?_
 ·rw [S_length,← Int.natCast_mul];exact Int.le_trans (Int.ofNat_le.mpr q1) (by decide)
 ·rw [S_length];exact Nat.le_trans q1 big1
 ·by_cases h1:(n:Int)<1
  ·rw [if_pos h1]
   obtain rfl:=Nat.lt_one_iff.mp (Int.ofNat_lt.mp h1)
   exact ⟨by decide,h.str (x:=[])⟩
  ·rw [if_neg h1]
   by_cases h2:((n:Int) == 1 || (S a).length == 0)=true
   ·rw [if_pos h2]
    have e:repL a n=a:=by
     rcases Bool.or_eq_true_iff.mp h2 with h2|h2
     ·obtain rfl:n=1:=Int.ofNat.inj (eq_of_beq h2)
      exact List.append_nil a
     ·obtain rfl:a=[]:=List.eq_nil_of_length_eq_zero ((S_length a).symm.trans (eq_of_beq h2))
      exact repL_nil n
    rw [e] at h
    exact h.str
   ·rw [if_neg h2,Int.toNat_natCast,repL_fold,Array.empty_append]
    exact ⟨by show (repL a n).toArray.size≤sizeLine;rw [List.size_toArray,repL_length];exact Nat.le_trans q1 big1,h.str⟩
end
section
variable {cx:Cx} {A:Around} {E:Value→Shared→Prop} {s:Shared} {H:Hid} {fr:Bool} {Q:Value→Shared→Prop}
theorem bin_list {v w:Value} {a b:List PV} {r:PV} (hid:∀ a,H a→Live s.heap a) (x:Rep cx s.heap H v (.list a)) (y:Rep cx s.heap H w (.list b)) (e:catS .list a b=some r) (h:RetF cx s H fr r Q) :
  wpAny (model cx.prog cx.w) A (binaryOp .Add v w) Q E s:=by
 obtain ⟨q,rfl⟩:=og_i e
 obtain ⟨_,xs,rfl,_,⟨m1,g1⟩,r1⟩:=x.list'
 obtain ⟨_,ys,rfl,_,⟨m2,g2⟩,r2⟩:=y.list'
 have z:=RetF.newList (tk:=s.toks) hid h (r1.append r2)
 refine P.add_list (n:=m1) (n2:=m2) g1 g2 ?_ (by rw [List.size_toArray,List.size_toArray,r1.length,r2.length];exact lens2 q)
 rw [List.append_toArray]
 exact z
theorem bin_listmul {v:Value} {a:List PV} {n:Int} {u:Tok} {r:PV} (hid:∀ a,H a→Live s.heap a) (x:Rep cx s.heap H v (.list a)) (e:mulS .list a n=some r) (h:RetF cx s H fr r Q) :
  wpAny (model cx.prog cx.w) A (binaryOp .Mult v (.int n u)) Q E s:=by
 obtain ⟨n,rfl,q1,q2,rfl⟩:=mulS_i e
 obtain ⟨a',vs,rfl,_,⟨m1,g1⟩,r1⟩:=x.list'
 have z:=RetF.newList (tk:=s.toks) hid h (r1.rep n)
 have hxn:((n:Nat):Int).toNat=n:=rfl
 have hX:=no_less n
 generalize ((n:Nat):Int)=X at hxn hX q2 ⊢
 have hsz2:vs.toArray.size*X.toNat≤1000000:=by
  rw [hxn,List.size_toArray,r1.length];exact q1
 have hf1:¬(!Builtin.List.listFitsIndex X)=true:=by
  unfold Builtin.List.listFitsIndex
  rw [decide_eq_true (Int.not_lt.mp hX),decide_eq_true q2];decide
 have hf3:¬Builtin.List.listTooLong (vs.toArray.size*X.toNat)=true:=of_eq_false_b (decide_eq_false (Nat.not_lt.mpr (Nat.le_trans hsz2 big1)))
 have tl:s.TypeIs (.ref a') "list":=⟨_,g1,rfl⟩
 have ti:∀ s':Shared,s'.TypeIs (.int X u) "int":=fun s'=>typeIs_int s' X u
 refine PySem.wpAny_binaryOp_repeat_ref (T:="list") (U:="int") (by decide) tl ti PySem.noFill_list_mul PySem.F.fills_int_mul PySem.F.slot_int_rmul PySem.repeat_list PySem.F.slot_int_index.lookup ?_
 refine PySem.call_meets PySem.F.slot_int_rmul (ti s) PySem.F.entry_int_rmul (PySem.F.args_int_rmul_2 _ _) (PySem.int___rmul___int_list X u a' vs.toArray m1) ⟨g1,rfl,tl,?_⟩
 refine PySem.call_meets PySem.F.slot_list_mul tl PySem.F.entry_list_mul (PySem.F.args_list_mul_2 _ _) (PySem.AutoListH.list___mul___list_int_3 a' vs.toArray m1 X u hf1 (Nat.not_lt.mpr (Nat.le_trans hsz2 (by decide))) hf3) ⟨g1,?_⟩
 have e2:List.foldl (fun x1 x2=>x1++x2) (#[]:Array Value) (List.replicate (if vs.toArray.isEmpty=true then 0 else X.toNat) vs.toArray)=(repL vs n).toArray:=by
  by_cases hv:vs=[]
  ·subst hv;rw [repL_nil];rfl
  ·rw [List.isEmpty_toArray,if_neg (fun q=>hv (List.isEmpty_iff.mp q)),hxn,repL_fold,Array.empty_append]
 rw [e2]
 exact z
end
end Mine
end
section
set_option maxRecDepth 100000
open PySem PySem.Calls PyProof.Rows PySem.W PySem.SeqAt
set_option genSizeOf false
set_option genInjectivity false
namespace Mine
section
variable {cx:Cx} {h:Heap} {H H':Hid}
theorem IsLs.inj {h:Heap} {a:Addr} {vs ws:List Value} (x:IsLs h a vs) (y:IsLs h a ws):vs=ws:=by
 obtain ⟨e,g⟩:=x
 obtain ⟨e',g'⟩:=y
 rw [g] at g'
 injection g' with g'
 injection g' with g1 g2 g3 g4
 injection g3 with g3 g5
 exact List.toArray_inj g3
theorem IsTp.inj {h:Heap} {a:Addr} {vs ws:List Value} (x:IsTp h a vs) (y:IsTp h a ws):vs=ws:=by
 obtain ⟨e,g⟩:=x
 obtain ⟨e',g'⟩:=y
 rw [g] at g'
 injection g' with g'
 injection g' with g1 g2 g3 g4
 injection g3 with g3 g5
 exact List.toArray_inj g3
theorem eqvL_same {f:PV→PV→Option Bool} (hf:∀ v p q r,Rep cx h H v p→Rep cx h H' v q→f p q=some r→r=true):∀ {vs:List Value} {a b:List PV} {r:Bool},RepAll cx h H vs a→RepAll cx h H' vs b→eqvL f a b=some r→r=true
 | _,[],[],_,_,_,e=>(Option.some.inj e).symm
 | _,[],_ :: _,_,x,y,e=>by
  obtain ⟨_,_,rfl,_⟩:=y.cons'
  cases x.nil'
 | _,_ :: _,[],_,x,y,e=>by
  obtain ⟨_,_,rfl,_⟩:=x.cons'
  cases y.nil'
 | _,p :: a,q :: b,_,x,y,e=>by
  obtain ⟨v,vs,rfl,x1,x2⟩:=x.cons'
  obtain ⟨v',vs',h1,y1,y2⟩:=y.cons'
  obtain ⟨rfl,rfl⟩:=List.cons.inj h1
  obtain ⟨i,h2,e1⟩:=ob_i e
  obtain ⟨j,h3,e2⟩:=ob_i e1
  rw [← Option.some.inj e2,hf _ _ _ _ x1 y1 h2,eqvL_same hf x2 y2 h3];rfl
theorem eqv_same:∀ (n:Nat) (v:Value) (p q:PV) (r:Bool),Rep cx h H v p→Rep cx h H' v q→eqv n p q=some r→r=true
 | 0,_,_,_,_,_,_,e=>(Option.some_ne_none _ e.symm).elim
 | n+1,v,p,q,r,x,y,e=>by
  cases p with
  | bool b =>
   obtain ⟨c,h1,e1⟩:=ob_i e
   have h2:=Value.bool.inj (x.bool'.symm.trans (y.toBool h1))
   rw [← Option.some.inj e1,h2,beq_self_eq_true]
  | int i =>
   obtain ⟨c,h1,e1⟩:=ob_i e
   obtain ⟨t,h2⟩:=x.int'
   obtain ⟨u,h3⟩:=y.toInt h1
   rw [← Option.some.inj e1,(Value.int.inj (h2.symm.trans h3)).1,intBeq_iff]
  | str i =>
   obtain ⟨c,h1,e1⟩:=ob_i e
   obtain ⟨t,h2⟩:=x.str'
   obtain ⟨u,h3⟩:=y.toStr h1
   rw [← Option.some.inj e1,S_inj.mp (Value.str.inj (h2.symm.trans h3)).1,beqL_iff]
  | list i =>
   obtain ⟨c,h1,e1⟩:=ob_i e
   obtain ⟨a,vs,h2,_,l,xs⟩:=x.list'
   obtain ⟨b,ws,h3,_,l',ys⟩:=y.toList h1
   obtain rfl:=Value.ref.inj (h2.symm.trans h3)
   obtain rfl:=l.inj l'
   exact eqvL_same (eqv_same n) xs ys e1
  | tup i =>
   obtain ⟨c,h1,e1⟩:=ob_i e
   obtain ⟨a,vs,h2,_,l,xs⟩:=x.tup'
   obtain ⟨b,ws,h3,_,l',ys⟩:=y.toTup h1
   obtain rfl:=Value.ref.inj (h2.symm.trans h3)
   obtain rfl:=l.inj l'
   exact eqvL_same (eqv_same n) xs ys e1
  | _=>exact (Option.some_ne_none _ e.symm).elim
end
structure ItemsEq (A:Around) (s:Shared) (vs ws:List Value) (r:Bool) (e:Nat→Bool):Prop where
 at':∀ j v w,vs[j]?=some v→ws[j]?=some w→EqAt A s v w (e j)
 yes:vs.length=ws.length→r=(List.range vs.length).all e
 no:vs.length ≠ ws.length→r=false
section
variable {cx:Cx} {H H':Hid}
theorem items_eq {A:Around} {s:Shared} {f:PV→PV→Option Bool} (ih:∀ v w p q r,Rep cx s.heap H v p→Rep cx s.heap H' w q→f p q=some r→EqAt A s v w r):∀ {a b:List PV} {vs ws:List Value} {r:Bool},RepAll cx s.heap H vs a→RepAll cx s.heap H' ws b→eqvL f a b=some r→∃ e,ItemsEq A s vs ws r e
 | [],[],_,_,_,x,y,e=>by
  obtain rfl:=x.nil'
  obtain rfl:=y.nil'
  exact ⟨fun _=>true,⟨fun _ _ _ h=>(Option.some_ne_none _ h.symm).elim,fun _=>(Option.some.inj e).symm,fun h=>(h rfl).elim⟩⟩
 | [],_ :: _,_,_,_,x,y,e=>by
  obtain rfl:=x.nil'
  obtain ⟨_,_,rfl,_⟩:=y.cons'
  exact ⟨fun _=>true,⟨fun _ _ _ h=>(Option.some_ne_none _ h.symm).elim,fun h=>(Nat.succ_ne_zero _ h.symm).elim,fun _=>(Option.some.inj e).symm⟩⟩
 | _ :: _,[],_,_,_,x,y,e=>by
  obtain rfl:=y.nil'
  obtain ⟨_,_,rfl,_⟩:=x.cons'
  exact ⟨fun _=>true,⟨fun _ _ _ _ h=>(Option.some_ne_none _ h.symm).elim,fun h=>(Nat.succ_ne_zero _ h).elim,fun _=>(Option.some.inj e).symm⟩⟩
 | p :: a,q :: b,_,_,_,x,y,e=>by
  obtain ⟨v,vs,rfl,x1,x2⟩:=x.cons'
  obtain ⟨w,ws,rfl,y1,y2⟩:=y.cons'
  obtain ⟨i,h2,e1⟩:=ob_i e
  obtain ⟨j,h3,e2⟩:=ob_i e1
  obtain ⟨g,k1,k2,k3⟩:=items_eq ih x2 y2 h3
  refine ⟨fun j=>match j with|0=>i|j+1=>g j,⟨fun j v' w' a1 a2=>?_,fun hl=>?_,fun hl=>?_⟩⟩
  ·cases j with
   | zero=>exact Option.some.inj a1 ▸ Option.some.inj a2 ▸ ih _ _ _ _ _ x1 y1 h2
   | succ j=>exact k1 j v' w' a1 a2
  ·rw [← Option.some.inj e2,k2 (Nat.succ.inj hl),List.length_cons,List.range_succ_eq_map,List.all_cons,List.all_map]
   rfl
  ·rw [← Option.some.inj e2,k3 (fun z=>hl (congrArg Nat.succ z)),Bool.and_false]
variable {A:Around} {s:Shared} {a b:Addr} {vs ws:List Value} {r:Bool} {e:Nat→Bool}
theorem ItemsEq.arr (K:ItemsEq A s vs ws r e):∀ j (h1:j<vs.toArray.size) (h2:j<ws.toArray.size),EqAt A s vs.toArray[j] ws.toArray[j] (e j):=fun j h1 h2=>K.at' j _ _ (List.getElem?_eq_getElem h1) (List.getElem?_eq_getElem h2)
theorem eqAt_list (K:ItemsEq A.in1 s vs ws r e) (l1:IsLs s.heap a vs) (l2:IsLs s.heap b ws) (hu:A.units<cLine):RcAt A s (.ref a) (.ref b) r∧RcNeAt A s (.ref a) (.ref b) (!r):=by
 by_cases hl:vs.length=ws.length
 ·rw [K.yes hl]
  exact ⟨RcAt.lists l1.isList l2.isList hl hu K.arr,RcNeAt.lists l1.isList l2.isList hl hu K.arr⟩
 ·rw [K.no hl]
  exact ⟨RcAt.lists_lengths l1.isList l2.isList (bne_iff_ne.mpr hl) hu,RcNeAt.lists_lengths l1.isList l2.isList (bne_iff_ne.mpr hl) hu⟩
theorem eqAt_tup (K:ItemsEq A.in1 s vs ws r e) (l1:IsTp s.heap a vs) (l2:IsTp s.heap b ws) (hu:A.units<cLine):RcAt A s (.ref a) (.ref b) r∧RcNeAt A s (.ref a) (.ref b) (!r):=by
 have t1:s.heap.IsTuple a vs.toArray:=l1.isTup
 have t2:s.heap.IsTuple b ws.toArray:=l2.isTup
 have hr:((List.range (min vs.toArray.size ws.toArray.size)).all e && vs.toArray.size == ws.toArray.size)=r:=by
  show ((List.range (min vs.length ws.length)).all e && vs.length == ws.length)=r
  by_cases hl:vs.length=ws.length
  ·rw [K.yes hl,← hl,Nat.min_self,beq_self_eq_true,Bool.and_true]
  ·rw [K.no hl,beq_false_of_ne hl,Bool.and_false]
 exact ⟨hr ▸ RcAt.tuples t1 t2 hu K.arr,hr ▸ RcNeAt.tuples t1 t2 hu K.arr⟩
theorem eq_all:∀ (n:Nat) {A:Around} {s:Shared} {v w:Value} {p q:PV} {r:Bool},Rep cx s.heap H v p→Rep cx s.heap H' w q→eqv n p q=some r→A.units+n<cLine→EqAt A s v w r∧RcAt A s v w r∧RcNeAt A s v w (!r)
 | 0,_,_,_,_,_,_,_,_,_,e,_=>(Option.some_ne_none _ e.symm).elim
 | n+1,A,s,v,w,p,q,r,x,y,e,hu=>by
  have hu1:A.units<cLine:=Nat.lt_of_le_of_lt (Nat.le_add_right _ _) hu
  have ih:∀ v w p q r,Rep cx s.heap H v p→Rep cx s.heap H' w q→eqv n p q=some r→EqAt A.in1 s v w r:=fun v w p q r x y e =>
   (eq_all n (A:=A.in1) x y e (by show A.units+1+n<cLine;rw [Nat.add_right_comm];exact hu)).1
  have same:∀ (a b:Addr),v=.ref a→w=.ref b→RcAt A s (.ref a) (.ref b) r→EqAt A s (.ref a) (.ref b) r:=fun a b h1 h2 h=>by
   by_cases hab:a=b
   ·subst hab
    rw [eqv_same (n+1) _ _ _ _ (h1 ▸ x) (h2 ▸ y) e]
    exact EqAt.same _
   ·exact EqAt.of_refs hab h
  cases p with
  | bool b =>
   obtain ⟨c,h1,e1⟩:=ob_i e
   obtain rfl:=x.bool'
   obtain rfl:=y.toBool h1
   obtain rfl:=Option.some.inj e1
   exact ⟨EqAt.bool_bool _ _,fun prog w E Q h=>PyProof.Rows.eq_bool h,RcNeAt.bool_bool _ _⟩
  | int i =>
   obtain ⟨c,h1,e1⟩:=ob_i e
   obtain ⟨t,rfl⟩:=x.int'
   obtain ⟨u,rfl⟩:=y.toInt h1
   obtain rfl:=Option.some.inj e1
   rw [intBeq_eq]
   exact ⟨EqAt.int_int _ _ _ _,fun prog w E Q h=>PyProof.Rows.eq_int h,RcNeAt.int_int _ _ _ _⟩
  | str i =>
   obtain ⟨c,h1,e1⟩:=ob_i e
   obtain ⟨t,rfl⟩:=x.str'
   obtain ⟨u,rfl⟩:=y.toStr h1
   obtain rfl:=Option.some.inj e1
   rw [beqL_S]
   exact ⟨EqAt.str_str _ _ _ _,fun prog w E Q h=>PyProof.Rows.eq_str h,RcNeAt.str_str _ _ _ _⟩
  | list i =>
   obtain ⟨c,h1,e1⟩:=ob_i e
   obtain ⟨a,vs,h2,_,l,xs⟩:=x.list'
   obtain ⟨b,ws,h3,_,l',ys⟩:=y.toList h1
   obtain ⟨g,K⟩:=items_eq ih xs ys e1
   have:=eqAt_list K l l' hu1
   rw [h2,h3]
   exact ⟨same a b h2 h3 this.1,this⟩
  | tup i =>
   obtain ⟨c,h1,e1⟩:=ob_i e
   obtain ⟨a,vs,h2,_,l,xs⟩:=x.tup'
   obtain ⟨b,ws,h3,_,l',ys⟩:=y.toTup h1
   obtain ⟨g,K⟩:=items_eq ih xs ys e1
   have:=eqAt_tup K l l' hu1
   rw [h2,h3]
   exact ⟨same a b h2 h3 this.1,this⟩
  | _=>exact (Option.some_ne_none _ e.symm).elim
theorem rcAt (n:Nat) {A:Around} {s:Shared} {v w:Value} {p q:PV} {r:Bool} (x:Rep cx s.heap H v p) (y:Rep cx s.heap H' w q) (e:eqv n p q=some r) (hu:A.units+n<cLine):RcAt A s v w r:=(eq_all n x y e hu).2.1
theorem rcNeAt (n:Nat) {A:Around} {s:Shared} {v w:Value} {p q:PV} {r:Bool} (x:Rep cx s.heap H v p) (y:Rep cx s.heap H' w q) (e:eqv n p q=some r) (hu:A.units+n<cLine):RcNeAt A s v w (!r):=(eq_all n x y e hu).2.2
end
section
variable {cx:Cx} {H H':Hid}
noncomputable def isS (x:Str) (y:Value):Bool:=match y with | .str z _=>z == x|_=>false
theorem hasStr_eqs {A:Around} {s:Shared} {x:List Nat} {t:Tok}:∀ {ps:List PV} {vs:List Value} {r:Bool},RepAll cx s.heap H vs ps→hasStr x ps=some r→(∀ y∈vs,EqAt A s y (.str (S x) t) (isS (S x) y))∧r=vs.any (isS (S x))
 | [],_,_,a,e=>by
  obtain rfl:=a.nil'
  exact ⟨fun _ h=>(List.not_mem_nil h).elim,(Option.some.inj e).symm⟩
 | p :: ps,_,_,a,e=>by
  obtain ⟨v,vs,rfl,a1,a2⟩:=a.cons'
  obtain ⟨y,h1,e1⟩:=ob_i e
  obtain ⟨b,h2,e2⟩:=ob_i e1
  obtain ⟨u,rfl⟩:=a1.toStr h1
  obtain ⟨k1,k2⟩:=hasStr_eqs (A:=A) (t:=t) a2 h2
  refine ⟨fun z hz=>?_,?_⟩
  ·rcases List.mem_cons.mp hz with rfl|hz
   ·exact EqAt.str_str _ _ _ _
   ·exact k1 z hz
  ·rw [List.any_cons,← k2,← Option.some.inj e2,beqL_S]
   rfl
theorem at_get {x:List Nat} {cx:Cx} {h:Heap} {H:Hid} {p:PV}:∀ {kvs:List (Str × Value)} {ks:List (List Nat)} {ps:List PV},kvs.map (·.1)=ks.map S→RepAll cx h H (kvs.map (·.2)) ps→dictGet x ks ps=some p→∃ v,valueAt kvs (S x)=some v∧Rep cx h H v p
 | [],[],_,_,r,e=>by
  cases r.vnil'
  exact (Option.some_ne_none _ e.symm).elim
 | [],_ :: _,_,e,_,_=>by cases e
 | _ :: _,[],_,e,_,_=>by cases e
 | (k,v) :: kvs,y :: ks,ps,e,r,hg=>by
  simp only [List.map_cons,List.cons.injEq] at e
  obtain rfl:k=S y:=e.1
  obtain ⟨p',ps',rfl,a,l⟩:=r.vcons'
  have hg:(match beqL x y with|true=>some p' | false=>dictGet x ks ps')=some p:=hg
  unfold valueAt
  rw [List.find?_cons]
  cases q:beqL x y with
  | true =>
   rw [q] at hg
   obtain rfl:=Option.some.inj hg
   obtain rfl:=beqL_iff.mp q
   exact ⟨v,by rw [decide_eq_true rfl];rfl,a⟩
  | false =>
   rw [q] at hg
   have h2:¬ (S y=S x):=fun z=>by rw [S_inj.mp z,beqL_iff.mpr rfl] at q;cases q
   obtain ⟨w,h3,h4⟩:=at_get e.2 l hg
   exact ⟨w,by rw [decide_eq_false h2];exact h3,h4⟩
end
end Mine
end
section
set_option maxRecDepth 100000
open PySem PySem.Calls PyProof.Rows PySem.W PySem.SeqAt
set_option genSizeOf false
set_option genInjectivity false
namespace Mine
noncomputable def copOf:CmpK→CmpOp
 | .eq=>.Eq | .ne=>.NotEq | .lt=>.Lt | .le=>.LtE | .ge=>.GtE | .is_=>.Is | .isNot=>.IsNot | .notIn=>.NotIn
section
variable {cx:Cx} {A:Around} {E:Value→Shared→Prop} {s:Shared} {H H':Hid} {Q:Value→Shared→Prop}
theorem notIn_ok {v w:Value} {p q:PV} {b:Bool} (x:Rep cx s.heap H v p) (y:Rep cx s.heap H' w q) (e:inV p q=some b) (h:Q (.bool (!b)) s) :
  wpAny (model cx.prog cx.w) A (compareOp .NotIn v w) Q E s:=by
 obtain ⟨a,h1,e1⟩:=ob_i e
 obtain ⟨l,h2,e2⟩:=ob_i e1
 obtain ⟨t,rfl⟩:=x.toStr h1
 obtain ⟨c,vs,rfl,_,l,r⟩:=y.toList h2
 obtain ⟨h3,rfl⟩:=hasStr_eqs (A:=A.in1) (t:=t) r e2
 rw [← List.any_toArray] at h
 exact notIn_listAt _ l.isList (fun y hy=>h3 y (List.mem_toArray.mp hy)) h
theorem notNone_ok {v:Value} {p:PV} {b:Bool} (x:Rep cx s.heap H v p) (e:notNone p=some b) (h:Q (.bool b) s):wpAny (model cx.prog cx.w) A (compareOp .IsNot v .none) Q E s:=by
 cases p with
 | none =>
  obtain rfl:=x.none'
  obtain rfl:=Option.some.inj e
  exact isNot_none h
 | str y =>
  obtain ⟨t,rfl⟩:=x.str'
  obtain rfl:=Option.some.inj e
  exact isNot_none h
 | _=>exact (Option.some_ne_none _ e.symm).elim
theorem not_lt_le {a b:Int}:(!intLt b a)=decide (a≤b):=by
 rw [intLt_eq,← decide_not]
 exact decide_eq_decide.mpr Int.not_lt
theorem cmpI_i {f:Int→Int→Bool} {v w:Value} {p q:PV} {b:Bool} (x:Rep cx s.heap H v p) (y:Rep cx s.heap H' w q) (e:cmpI f p q=some b):∃ i j t u,v=.int i t∧w=.int j u∧b=f i j:=by
 obtain ⟨i,h1,e1⟩:=ob_i e
 obtain ⟨j,h2,e2⟩:=ob_i e1
 obtain ⟨t,h3⟩:=x.toInt h1
 obtain ⟨u,h4⟩:=y.toInt h2
 exact ⟨i,j,t,u,h3,h4,(Option.some.inj e2).symm⟩
theorem cmpB_i {f:Bool→Bool→Bool} {v w:Value} {p q:PV} {b:Bool} (x:Rep cx s.heap H v p) (y:Rep cx s.heap H' w q) (e:cmpB f p q=some b):∃ i j,v=.bool i∧w=.bool j∧b=f i j:=by
 obtain ⟨i,h1,e1⟩:=ob_i e
 obtain ⟨j,h2,e2⟩:=ob_i e1
 exact ⟨i,j,x.toBool h1,y.toBool h2,(Option.some.inj e2).symm⟩
theorem units6 {a:Nat} (h:a+8<cLine):a+6<cLine:=Nat.lt_of_succ_lt (Nat.lt_of_succ_lt h)
theorem cmp_ok {k:CmpK} {v w:Value} {p q:PV} {b:Bool} (bH:∀ a,cx.B a→H' a) (hu:A.units+8<cLine) (x:Rep cx s.heap H v p) (y:Rep cx s.heap H' w q) (e:cmpV k p q=some b)
  (h:∀ tk,Q (.bool b) { s with toks:=tk }):wpAny (model cx.prog cx.w) A (compareOp (copOf k) v w) Q E s:=by
 have h0:Q (.bool b) s:=h s.toks
 cases k with
 | eq=>exact EqBoolInt.of_rc (rcAt 6 x y e (units6 hu)) h0
 | ne =>
  obtain ⟨c,e1,e2⟩:=ob_i e
  exact EqBoolInt.of_rcne (rcNeAt 6 x y e1 (units6 hu)) (Option.some.inj e2 ▸ h0)
 | notIn =>
  obtain ⟨c,e1,e2⟩:=ob_i e
  exact notIn_ok x y e1 (Option.some.inj e2 ▸ h0)
 | is_ =>
  obtain ⟨i,j,rfl,rfl,rfl⟩:=cmpB_i x y e
  exact is_bool h0
 | isNot =>
  cases q with
  | none =>
   obtain rfl:=y.none'
   exact notNone_ok x e h0
  | bool =>
   obtain ⟨i,j,rfl,rfl,rfl⟩:=cmpB_i x y e
   exact isnot_bool h0
  | _ =>
   obtain ⟨i,_,e1⟩:=ob_i e
   exact (Option.some_ne_none _ e1.symm).elim
 | lt =>
  obtain ⟨i,j,t,u,rfl,rfl,rfl⟩:=cmpI_i x y e
  exact PyProof.Rows.lt_int (intLt_eq ▸ h0)
 | le =>
  obtain ⟨i,j,t,u,rfl,rfl,rfl⟩:=cmpI_i x y e
  exact PyProof.Rows.le_int (not_lt_le ▸ h0)
 | ge =>
  obtain ⟨i,j,t,u,rfl,rfl,rfl⟩:=cmpI_i x y e
  exact PyProof.Rows.ge_int (not_lt_le ▸ h0)
theorem lenOk_63 {α:Type} {l:List α} (h:lenOk l=true):(l.length:Int)<2 ^ 63:=Int.lt_of_le_of_lt (Int.ofNat_le.mpr (lenOk_le h)) (by decide)
theorem RepAll.fit {vs:List Value} {ps:List PV} (r:RepAll cx s.heap H vs ps) (h:lenOk ps=true):(vs.toArray.size:Int)<2 ^ 63:=by
 have:=lenOk_63 h
 rwa [← r.length] at this
theorem RepAll.isE {vs:List Value} {ps:List PV} (r:RepAll cx s.heap H vs ps):ps.isEmpty=vs.toArray.isEmpty:=by
 cases ps with
 | nil=>obtain rfl:=r.nil';rfl
 | cons p ps=>obtain ⟨v,ws,rfl,_⟩:=r.cons';rfl
theorem truth_ok {v:Value} {p:PV} {b:Bool} {Q:Bool→Shared→Prop} (x:Rep cx s.heap H v p) (e:truthV p=some b)
  (h:∀ tk,Q b { s with toks:=tk }):wpAny (model cx.prog cx.w) A (truthy v) Q E s:=by
 cases p with
 | bool c =>
  obtain rfl:=x.bool'
  obtain rfl:=Option.some.inj e
  exact wpAny_truthy_bool (h s.toks)
 | int i =>
  obtain ⟨t,rfl⟩:=x.int'
  obtain rfl:=Option.some.inj e
  exact PySem.P.truthy_int (by have:=h s.toks;rwa [intBeq_eq] at this)
 | list l =>
  obtain ⟨a,vs,rfl,_,ls,r⟩:=x.list'
  obtain ⟨h1,rfl⟩:=og_i e
  exact wpAny_truthy_list ls.isList (r.fit h1) (r.isE ▸ h _)
 | tup l =>
  obtain ⟨a,vs,rfl,_,ls,r⟩:=x.tup'
  obtain ⟨h1,rfl⟩:=og_i e
  exact PyProof.Rows.truthy_tuple ls.isTup (r.fit h1) (r.isE ▸ h _)
 | _=>exact (Option.some_ne_none _ e.symm).elim
end
end Mine
end
section
set_option maxRecDepth 100000
open PySem PySem.Calls PyProof.Rows PySem.W
set_option genSizeOf false
set_option genInjectivity false
namespace Mine
theorem place_some {i:Int} {n k:Nat} (h:place i n=some k):k<n∧((0≤i∧i.toNat=k)∨(i<0 ∧ -(n:Int)≤i∧(i+n).toNat=k)):=by
 cases i with
 | ofNat m =>
  obtain ⟨h1,rfl⟩:=og_i h
  exact ⟨blt_true.mp h1,.inl ⟨Int.natCast_nonneg _,rfl⟩⟩
 | negSucc m =>
  obtain ⟨h1,rfl⟩:=og_i h
  have q:=blt_true.mp h1
  exact ⟨Nat.sub_lt (Nat.lt_of_le_of_lt (Nat.zero_le _) q) (Nat.succ_pos m),.inr ⟨Int.negSucc_lt_zero _,Int.neg_le_neg (Int.ofNat_le.mpr q),congrArg Int.toNat (Int.subNatNat_of_le q)⟩⟩
theorem seqIndex_of_place {i:Int} {n k:Nat} (h:place i n=some k):seqIndex? i n=some k:=by
 obtain ⟨h1,h2⟩:=place_some h
 rcases h2 with ⟨h2,h3⟩|⟨h2,h3,h4⟩
 ·rw [← h3]
  exact PySem.seqIndex_of h2 ((Int.toNat_lt h2).mp (h3 ▸ h1))
 ·rw [← h4]
  exact PySem.seqIndex_neg h2 h3
theorem seat_i {α:Type} {i:Int} {l:List α} {k:Nat} (h:seat i l=some k):place i l.length=some k∧l.length≤1000000:=by
 obtain ⟨m,h1,e1⟩:=ob_i h
 obtain ⟨h2,rfl⟩:=og_i e1
 exact ⟨h1,lenOk_le h2⟩
theorem seat_lt {i:Int} {n k:Nat} (h:place i n=some k) (hn:n≤1000000):-9223372036854775808≤i∧i<9223372036854775808:=by
 have hN:(n:Int)≤1000000:=Int.ofNat_le.mpr hn
 obtain ⟨h1,⟨h2,h3⟩|⟨h2,h3,h4⟩⟩:=place_some h
 ·exact ⟨Int.le_trans (by decide) h2,Int.lt_of_lt_of_le ((Int.toNat_lt h2).mp (h3 ▸ h1)) (Int.le_trans hN (by decide))⟩
 ·exact ⟨Int.le_trans (Int.le_trans (by decide) (Int.neg_le_neg hN)) h3,Int.lt_trans h2 (by decide)⟩
section
variable {cx:Cx} {A:Around} {E:Value→Shared→Prop} {s:Shared} {H H':Hid} {Q:Value→Shared→Prop}
theorem idx_ok {value slice:Expr} {v w:Value} {p q r:PV} (x:Rep cx s.heap H v p) (y:Rep cx s.heap H' w q) (e:idxV p q=some r)
  (hs:∀ o i,subscripted slice false o i=operate [o,i] (getItem o i)) (h:∀ v' tk,Rep cx s.heap H v' r→Q v' { s with toks:=tk }) :
  wpAny (model cx.prog cx.w) A (subscriptTail value slice v w) Q E s:=by
 cases p with
 | list l =>
  obtain ⟨i,k1,e1⟩:=ob_i e
  obtain ⟨t,rfl⟩:=y.toInt k1
  obtain ⟨k,k2,e2⟩:=ob_i e1
  obtain ⟨hk,hl⟩:=seat_i k2
  obtain ⟨a,vs,rfl,_,l1,xs⟩:=x.list'
  obtain ⟨v',g1,g2⟩:=xs.get e2
  obtain ⟨i1,i2⟩:=seat_lt hk hl
  refine tail_any l1.isList.typeIs slot_list_getitem.lookup ?_ (hs _ _)
  rcases (place_some hk).2 with ⟨h2,h3⟩|⟨h2,h3,h4⟩
  ·exact wpAny_getItem_list l1.isList h2 i2 (x:=v') (by rw [h3,List.getElem?_toArray];exact g1) (h v' s.toks g2)
  ·exact wpAny_getItem_list_neg l1.isList h2 (by rw [List.size_toArray,xs.length];exact h3) i1 (x:=v') (by rw [List.size_toArray,xs.length,h4,List.getElem?_toArray];exact g1) (h v' s.toks g2)
 | tup l =>
  obtain ⟨i,k1,e1⟩:=ob_i e
  obtain ⟨t,rfl⟩:=y.toInt k1
  obtain ⟨k,k2,e2⟩:=ob_i e1
  obtain ⟨hk,hl⟩:=seat_i k2
  obtain ⟨a,vs,rfl,_,l1,xs⟩:=x.tup'
  obtain ⟨v',g1,g2⟩:=xs.get e2
  obtain ⟨i1,i2⟩:=seat_lt hk hl
  exact item_tupleT l1.isTup i1 i2 (j:=k) (x:=v') (by rw [xs.length];exact seqIndex_of_place hk) g1 (h v' s.toks g2) (hs _ _)
 | dict ks ps =>
  obtain ⟨a,k1,e1⟩:=ob_i e
  obtain ⟨t,rfl⟩:=y.toStr k1
  obtain ⟨d,kvs,rfl,_,g,k,xs⟩:=x.dict'
  obtain ⟨v',g1,g2⟩:=at_get k xs e1
  exact tail_any g.mapOf.typeIs slot_dict_getitem.lookup (wpAny_getItem_of (knd:=strKind cx.prog cx.w) (k:=S a) (strKind_is cx.prog cx.w _ _) g.mapOf g1 (h v' _ g2)) (hs _ _)
 | str l =>
  obtain ⟨i,k1,e1⟩:=ob_i e
  obtain ⟨u,rfl⟩:=y.toInt k1
  obtain ⟨k,k2,e2⟩:=ob_i e1
  obtain ⟨hk,hl⟩:=seat_i k2
  obtain ⟨c,hc,e3⟩:=ob_i e2
  obtain rfl:=Option.some.inj e3
  obtain ⟨t,rfl⟩:=x.str'
  obtain ⟨i1,i2⟩:=seat_lt hk hl
  refine tail_any (typeIs_str _ _ _) slot_str_getitem.lookup (getItem_str (c:=c) ?_ ?_ (h _ _ (.str [c] _))) (hs _ _)
  ·exact Bool.or_eq_false_iff.mpr ⟨decide_eq_false (Int.not_lt.mpr i1),decide_eq_false (Int.not_le.mpr i2)⟩
  ·rw [S_length,seqIndex_of_place hk]
   show l.toArray[k]?=some c
   rw [List.getElem?_toArray]
   exact hc
 | _=>exact (Option.some_ne_none _ e.symm).elim
theorem part_is {h:Heap} {v:Value} {p:PV} {o:Option Int} (x:Rep cx h H v p) (e:part? p=some o):IsPart v o:=by
 cases p with
 | none =>
  obtain rfl:=x.none'
  obtain rfl:=Option.some.inj e
  exact .none
 | int i =>
  obtain ⟨t,rfl⟩:=x.int'
  obtain rfl:=Option.some.inj e
  exact .int _ _
 | _=>exact (Option.some_ne_none _ e.symm).elim
theorem step_is {h:Heap} {v:Value} {p:PV} {o:Option Int} (x:Rep cx h H v p) (e:step? p=some o):IsPart v o∧o ≠ some 0:=by
 cases p with
 | none =>
  obtain rfl:=x.none'
  obtain rfl:=Option.some.inj e
  exact ⟨.none,fun h=>Option.some_ne_none _ h.symm⟩
 | int i =>
  obtain ⟨t,rfl⟩:=x.int'
  obtain ⟨q,rfl⟩:=ogn_i e
  exact ⟨.int _ _,fun h=>intBeq_false.mp q (Option.some.inj h)⟩
 | _=>exact (Option.some_ne_none _ e.symm).elim
theorem none_is {h:Heap} {v:Value} {p:PV} {o:Unit} (x:Rep cx h H v p) (e:none? p=some o):v=.none:=by
 cases p with
 | none=>exact x.none'
 | _=>exact (Option.some_ne_none _ e.symm).elim
theorem RepAll.places {h:Heap} {vs:List Value} {ps:List PV} (x:RepAll cx h H vs ps):∀ js:List Nat,RepAll cx h H (js.filterMap (vs[·]?)) (js.filterMap (ps[·]?))
 | []=>.nil
 | j :: js=>by
  have ih:=x.places js
  cases hn:ps[j]? with
  | some n =>
   obtain ⟨v,e1,e2⟩:=x.get hn
   simp only [List.filterMap_cons,hn,e1]
   exact .cons e2 ih
  | none =>
   have hv:vs[j]?=none:=by
    rw [List.getElem?_eq_none_iff] at hn ⊢
    rw [x.length];exact hn
   simp only [List.filterMap_cons,hn,hv]
   exact ih
theorem pick_eq {vs:List Value} {lo hi st:Option Int}:slicePick vs.toArray lo hi st=(pickL vs lo hi st).toArray:=by
 simp [slicePick,pickL]
theorem RepAll.pick {h:Heap} {vs:List Value} {ps:List PV} (x:RepAll cx h H vs ps) (lo hi st:Option Int):RepAll cx h H (pickL vs lo hi st) (pickL ps lo hi st):=by
 unfold pickL
 rw [x.length]
 exact x.places _
noncomputable def partTok:Value→Option (Int × Tok)
 | .int i t=>some (i,t)
 | _=>none
theorem isPart_tok {v:Value} {o:Option Int} (x:IsPart v o):(partTok v).map (·.1)=o∧partValue (partTok v)=v:=by
 cases x <;> exact ⟨rfl,rfl⟩
theorem made_part {va vb:Value} {a b:Option Int} {x:Str} {t:Tok} (pa:IsPart va a) (pb:IsPart vb b) (hx:x.length≤sizeLine) (h:∀ t' k,Q (.str (Txt.slice x a b) t') { s with toks:=k }):(sliceMade x t (partTok va) (partTok vb) none).post Q s:=by
 cases pa <;> cases pb <;> exact post_val_or_str ⟨Nat.le_trans (Txt.slice_le _ _ _) hx,h⟩
theorem slice_ok {value slice:Expr} {v va vb vc:Value} {p a b c r:PV} {ops:List Value} {fr:Bool} (hid:∀ a,H a→Live s.heap a) (x:Rep cx s.heap H v p) (xa:Rep cx s.heap H va a) (xb:Rep cx s.heap H vb b) (xc:Rep cx s.heap H vc c) (e:sliceV p a b c=some r)
  (hs:subscripted slice false v (.ref s.heap.objs.size)=operate ops (getItem v (.ref s.heap.objs.size))) (h:RetF cx s H fr r Q) :
  wpAny (model cx.prog cx.w) A (subscriptTail value slice v (.ref s.heap.objs.size)) Q E { s with heap:=s.heap.push { cls:=.type "slice",data:=.fields #[va,vb,vc] } }:=by
 cases p with
 | list l =>
  obtain ⟨a',ha,k1⟩:=ob_i e
  obtain ⟨b',hb,k2⟩:=ob_i k1
  obtain ⟨c',hc,k3⟩:=ob_i k2
  obtain ⟨hl,rfl⟩:=og_i k3
  obtain ⟨_,vs,rfl,_,l0,xs⟩:=x.list'
  obtain ⟨pc,pc0⟩:=step_is xc hc
  have e1:Ext cx cx.T s.heap (s.heap.push { cls:=.type "slice",data:=.fields #[va,vb,vc] }):=.push _
  have l1:IsLs (s.heap.push { cls:=.type "slice",data:=.fields #[va,vb,vc] }) _ _:=⟨_,Heap.get?_push_of_some _ l0.choose_spec⟩
  refine tail_any (Heap.IsList.typeIs (s:={ s with heap:=s.heap.push { cls:=.type "slice",data:=.fields #[va,vb,vc] } }) l1.isList) slot_list_getitem.lookup
   (wpAny_getItem_list_slice l1.isList (Heap.IsSliceOf.new ..) (part_is xa ha) (part_is xb hb) pc pc0 ?_ (by rw [List.size_toArray,xs.length];exact Nat.le_trans (lenOk_le hl) (Nat.le_trans (Nat.le_add_right _ _) sizeLine_big))) hs
  rw [pick_eq]
  refine RetF.newList (s:={ s with heap:=s.heap.push { cls:=.type "slice",data:=.fields #[va,vb,vc] } }) (tk:=s.toks) (fr:=fr) (fun a q=>e1.live a (hid a q)) (fun v h' tk' e2 r2 f2=>?_) ((xs.pick a' b' c').map fun a o n g=>⟨n,Heap.get?_push_of_some _ g⟩)
  refine h v h' tk' (e1.trans e2) r2 fun q ps eq=>?_
  obtain ⟨D,vs,z1,nl,r⟩:=f2 q ps eq
  exact ⟨D,vs,z1,fun w=>nl (e1.live _ w),r⟩
 | str l =>
  obtain ⟨a',ha,k1⟩:=ob_i e
  obtain ⟨b',hb,k2⟩:=ob_i k1
  obtain ⟨_,hc,k3⟩:=ob_i k2
  obtain ⟨hl,rfl⟩:=og_i k3
  obtain ⟨t,rfl⟩:=x.str'
  obtain rfl:=none_is xc hc
  have pa:=part_is xa ha
  have pb:=part_is xb hb
  have e1:Ext cx cx.T s.heap (s.heap.push { cls:=.type "slice",data:=.fields #[va,vb,.none] }):=.push _
  refine tail_any (o:=.str (S l) t) (T:="str") (s:={ s with heap:=s.heap.push { cls:=.type "slice",data:=.fields #[va,vb,.none] } }) (typeIs_str _ _ _) slot_str_getitem.lookup
   (wpAny_getItem_str_slice (l:=partTok va) (u:=partTok vb) (st:=none) ⟨_,Heap.get?_push_size _ rfl,rfl,by rw [(isPart_tok pa).2,(isPart_tok pb).2];rfl⟩ rfl ?_) hs
  exact made_part pa pb (s:={ s with heap:=s.heap.push { cls:=.type "slice",data:=.fields #[va,vb,.none] } }) (by rw [S_length];exact Nat.le_trans (lenOk_le hl) (Nat.le_trans (Nat.le_add_right _ _) sizeLine_big))
   fun t' k=>by
    have z:=h (.str (S (Txt.slice (S l) a' b').cps.toList) t') _ k e1 (.str _ _) fun _ ps q=>PV.noConfusion q
    rw [S_of] at z
    exact z
 | _=>exact (Option.some_ne_none _ e.symm).elim
end
end Mine
end
section
set_option maxRecDepth 100000
open PySem PySem.Calls PyProof.Rows PySem.W
set_option genSizeOf false
set_option genInjectivity false
namespace Mine
noncomputable abbrev Ns:=List (Str × NameKind)
noncomputable def biNm:BI→Option (Str × Value)
 | .len=>some ("len",.builtin "len")
 | .ord=>some ("ord",.builtin "ord")
 | .chr=>some ("chr",.builtin "chr")
 | .sum=>some ("sum",.builtin "sum")
 | .max=>some ("max",.builtin "max")
 | .hex=>some ("hex",.builtin "hex")
 | .divmod=>some ("divmod",.builtin "divmod")
 | .tuple=>some ("tuple",.type "tuple")
 | .dictOf=>some ("dict",.type "dict")
 | _=>none
noncomputable def mkNm:MK→Str
 | .join=>"join" | .bitLength=>"bit_length" | .upper=>"upper" | .lower=>"lower" | .count=>"count"
noncomputable def atNames:List Str:=["raw","n","nt","norm","is_simple"]
noncomputable def plainStar (e:Expr):Prop:=∀ rest env,starEach (e :: rest) env=(false,eval e env) :: starEach rest env
inductive CTg:Ns→Expr→List Nat→Bool→Prop
 | one {ns:Ns} {x:Str} {k:Nat} {p:Pos}:okN x=true→enc x=k→(ns.lookup x=some .local∨ns.lookup x=some .cell)→CTg ns (.Name x p) [k] true
 | many {ns:Ns} {xs:List (Str × Pos)} {ks:List Nat} {m:Nat} {p:Pos}:(∀ x∈xs,okN x.1=true∧(ns.lookup x.1=some .local∨ns.lookup x.1=some .cell))→xs.map (fun x=>enc x.1)=ks→xs ≠ [] →
   CTg ns (.Tuple (xs.map fun x=>.Name x.1 x.2) m p) ks false
structure CompOk (ns:Ns) (scope:Scope) (caps:List Nat):Prop where
 kind:scope.kind=.function
 sep:∀ y∈scope.names,y.2=.cell→∀ z∈scope.names,z.1=y.1→z.2=.cell
 names:∀ y∈scope.names,y.2=.local→scope.names.lookup y.1=some .local
 free:∀ y∈scope.names,y.2=.free→ns.lookup y.1=some .cell∨ns.lookup y.1=some .free
 caps:∃ fr:List Str,caps=fr.map enc∧∀ y∈fr,okN y=true∧scope.names.lookup y=some .free
theorem nos {α:Type} {a:α} {P:Prop} (h:none=some a):P:=(Option.some_ne_none _ h.symm).elim
theorem ogo_i {α:Type} {b:Bool} {x:Option α} {r:α} (h:ogo b x=some r):b=true∧x=some r:=by
 induction b using Bool.casesOn with
 | true=>exact ⟨rfl,h⟩
 | false=>exact nos h
theorem band {a b:Bool} (h:(a && b)=true):a=true∧b=true:=Bool.and_eq_true_iff.mp h
noncomputable def oe {α:Type} (b:Bool) (x y:Option α):Option α:=match b with
 | true=>x
 | false=>y
theorem oe_i {α:Type} {b:Bool} {x y:Option α} {r:α} (h:oe b x y=some r):(b=true∧x=some r)∨y=some r:=by
 induction b using Bool.casesOn with
 | true=>exact .inl ⟨rfl,h⟩
 | false=>exact .inr h
theorem om_i {α β:Type} {o:Option α} {f:α→Option β} {y:Option β} {r:β} (h:om o f y=some r):(∃ a,o=some a∧f a=some r)∨y=some r:=by
 induction o using Option.casesOn with
 | none=>exact .inr h
 | some a=>exact .inl ⟨a,rfl,h⟩
noncomputable abbrev Glb (ns:Ns) (x:Str):Prop:=ns.lookup x=some .globalImplicit
noncomputable abbrev Tgt (ns:Ns) (x:Str):Prop:=ns.lookup x=some .local∨ns.lookup x=some .cell
noncomputable abbrev NoDbg (x:Str):Prop:=(x == ("__debug__":Str))=false
noncomputable def glbB (ns:Ns) (x:Str):Bool:=decide (ns.lookup x=some .globalImplicit)
theorem glbB_i {ns:Ns} {x:Str} (h:glbB ns x=true):Glb ns x:=of_decide_eq_true h
noncomputable def tgtB (ns:Ns) (x:Str):Bool:=okN x && decide (Tgt ns x)
theorem tgtB_i {ns:Ns} {x:Str} (h:tgtB ns x=true):okN x=true∧Tgt ns x:=⟨(band h).1,of_decide_eq_true (band h).2⟩
noncomputable def locB (ns:Ns) (x:Str):Bool:=okN x && decide (ns.lookup x=some .local)
theorem locB_i {ns:Ns} {x:Str} (h:locB ns x=true):okN x=true∧ns.lookup x=some .local:=⟨(band h).1,of_decide_eq_true (band h).2⟩
noncomputable def okD (x:Str):Bool:=okN x && !(x == ("__debug__":Str))
theorem okD_i {x:Str} (h:okD x=true):okN x=true∧NoDbg x:=⟨(band h).1,(Bool.not_eq_true' _).mp (band h).2⟩
noncomputable def glbD (ns:Ns) (x:Str):Bool:=okD x && glbB ns x
theorem glbD_i {ns:Ns} {x:Str} (h:glbD ns x=true):okN x=true∧NoDbg x∧Glb ns x:=⟨(okD_i (band h).1).1,(okD_i (band h).1).2,glbB_i (band h).2⟩
noncomputable def l1? {α:Type} (l:List α):Option α:=match l with
 | [a]=>some a
 | _=>none
theorem l1_i {α:Type} {l:List α} {a:α} (h:l1? l=some a):l=[a]:=by
 match l,h with
 | [_],h=>exact congrArg (· :: []) (Option.some.inj h)
noncomputable def pickE {α:Type} (name:Str→Pos→α) (attr:Expr→Str→Pos→α) (slice:Option Expr→Option Expr→Option Expr→Pos→α) (tup:List Expr→Nat→Pos→α) (call:Expr→List Expr→List Keyword→Pos→α) (lc:Expr→List Comprehension→Scope→Pos→α) (sub:Expr→Expr→Pos→α) (dc:Expr→Expr→List Comprehension→Scope→Pos→α) (d:α) (e:Expr):α:=match e with
 | .Name x p=>name x p
 | .Attribute o n p=>attr o n p
 | .Slice a b c p=>slice a b c p
 | .Tuple l k p=>tup l k p
 | .Call g l k p=>call g l k p
 | .ListComp a g s p=>lc a g s p
 | .Subscript v i p=>sub v i p
 | .DictComp k v g s p=>dc k v g s p
 | _=>d
noncomputable def nm? (e:Expr):Option (Str × Pos):=pickE (fun x p=>some (x,p)) (fun _ _ _=>none) (fun _ _ _ _=>none) (fun _ _ _=>none) (fun _ _ _ _=>none) (fun _ _ _ _=>none) (fun _ _ _=>none) (fun _ _ _ _ _=>none) none e
noncomputable def at? (e:Expr):Option (Expr × Str × Pos):=pickE (fun _ _=>none) (fun o n p=>some (o,n,p)) (fun _ _ _ _=>none) (fun _ _ _=>none) (fun _ _ _ _=>none) (fun _ _ _ _=>none) (fun _ _ _=>none) (fun _ _ _ _ _=>none) none e
noncomputable def sl? (e:Expr):Option (Option Expr × Option Expr × Option Expr × Pos):=pickE (fun _ _=>none) (fun _ _ _=>none) (fun a b c p=>some (a,b,c,p)) (fun _ _ _=>none) (fun _ _ _ _=>none) (fun _ _ _ _=>none) (fun _ _ _=>none) (fun _ _ _ _ _=>none) none e
noncomputable def tp? (e:Expr):Option (List Expr × Nat × Pos):=pickE (fun _ _=>none) (fun _ _ _=>none) (fun _ _ _ _=>none) (fun l k p=>some (l,k,p)) (fun _ _ _ _=>none) (fun _ _ _ _=>none) (fun _ _ _=>none) (fun _ _ _ _ _=>none) none e
noncomputable def cl? (e:Expr):Option (Expr × List Expr × List Keyword × Pos):=pickE (fun _ _=>none) (fun _ _ _=>none) (fun _ _ _ _=>none) (fun _ _ _=>none) (fun g l k p=>some (g,l,k,p)) (fun _ _ _ _=>none) (fun _ _ _=>none) (fun _ _ _ _ _=>none) none e
noncomputable def lc? (e:Expr):Option (Expr × List Comprehension × Scope × Pos):=pickE (fun _ _=>none) (fun _ _ _=>none) (fun _ _ _ _=>none) (fun _ _ _=>none) (fun _ _ _ _=>none) (fun a g s p=>some (a,g,s,p)) (fun _ _ _=>none) (fun _ _ _ _ _=>none) none e
noncomputable def sb? (e:Expr):Option (Expr × Expr × Pos):=pickE (fun _ _=>none) (fun _ _ _=>none) (fun _ _ _ _=>none) (fun _ _ _=>none) (fun _ _ _ _=>none) (fun _ _ _ _=>none) (fun v i p=>some (v,i,p)) (fun _ _ _ _ _=>none) none e
noncomputable def dc? (e:Expr):Option (Expr × Expr × List Comprehension × Scope × Pos):=pickE (fun _ _=>none) (fun _ _ _=>none) (fun _ _ _ _=>none) (fun _ _ _=>none) (fun _ _ _ _=>none) (fun _ _ _ _=>none) (fun _ _ _=>none) (fun k v g s p=>some (k,v,g,s,p)) none e
noncomputable def cpB (e:Expr):Bool:=(lc? e).isSome || (dc? e).isSome
section
variable {e:Expr}
theorem nm_i {x:Str × Pos} (h:nm? e=some x):e=.Name x.1 x.2:=by
 induction e using Expr.casesOn <;> first|exact nos h|(obtain rfl:=Option.some.inj h;rfl)
theorem at_i {x:Expr × Str × Pos} (h:at? e=some x):e=.Attribute x.1 x.2.1 x.2.2:=by
 induction e using Expr.casesOn <;> first|exact nos h|(obtain rfl:=Option.some.inj h;rfl)
theorem sl_i {x:Option Expr × Option Expr × Option Expr × Pos} (h:sl? e=some x):e=.Slice x.1 x.2.1 x.2.2.1 x.2.2.2:=by
 induction e using Expr.casesOn <;> first|exact nos h|(obtain rfl:=Option.some.inj h;rfl)
theorem tp_i {x:List Expr × Nat × Pos} (h:tp? e=some x):e=.Tuple x.1 x.2.1 x.2.2:=by
 induction e using Expr.casesOn <;> first|exact nos h|(obtain rfl:=Option.some.inj h;rfl)
theorem cl_i {x:Expr × List Expr × List Keyword × Pos} (h:cl? e=some x):e=.Call x.1 x.2.1 x.2.2.1 x.2.2.2:=by
 induction e using Expr.casesOn <;> first|exact nos h|(obtain rfl:=Option.some.inj h;rfl)
theorem sb_i {x:Expr × Expr × Pos} (h:sb? e=some x):e=.Subscript x.1 x.2.1 x.2.2:=by
 induction e using Expr.casesOn <;> first|exact nos h|(obtain rfl:=Option.some.inj h;rfl)
end
noncomputable def bins:List BinK:=[.add,.sub,.mul,.fdiv,.mod,.pow,.shl,.shr,.band,.bor,.bxor]
noncomputable def cops:List CmpK:=[.eq,.ne,.lt,.le,.ge,.is_,.isNot,.notIn]
noncomputable def bis:List BI:=[.len,.ord,.chr,.sum,.max,.hex,.divmod,.tuple,.dictOf]
noncomputable def mks:List MK:=[.join,.bitLength,.upper,.lower,.count]
noncomputable def biOf (x:Str):Option BI:=bis.find? fun b=>(biNm b).any fun t=>t.1 == x
noncomputable def mkOf (x:Str):Option MK:=mks.find? fun m=>mkNm m == x
noncomputable def binOf (o:Operator):Option BinK:=bins.find? fun k=>decide (opOf k=o)
noncomputable def copK (o:CmpOp):Option CmpK:=cops.find? fun k=>decide (copOf k=o)
theorem find_i {α:Type} {p:α→Bool} {l:List α} {a:α} (h:l.find? p=some a):p a=true:=List.find?_some h
theorem biOf_i {x:Str} {b:BI} (h:biOf x=some b):b∈bis∧∃ v,biNm b=some (x,v):=by
 have q:=find_i h
 refine ⟨List.mem_of_find?_eq_some h,?_⟩
 cases hb:biNm b with
 | none=>rw [hb] at q;exact (Bool.false_ne_true q).elim
 | some t=>rw [hb] at q;exact ⟨t.2,by rw [← eq_of_beq q]⟩
theorem binOf_i {o:Operator} {k:BinK} (h:binOf o=some k):opOf k=o:=of_decide_eq_true (p:=opOf k=o) (find_i (p:=fun k=>decide (opOf k=o)) h)
theorem copK_i {o:CmpOp} {k:CmpK} (h:copK o=some k):copOf k=o:=of_decide_eq_true (p:=copOf k=o) (find_i (p:=fun k=>decide (copOf k=o)) h)
theorem mkOf_i {x:Str} {k:MK} (h:mkOf x=some k):mkNm k=x:=eq_of_beq (find_i (p:=fun m=>mkNm m == x) h)
noncomputable def namesT (B:Str→Bool):List Expr→Option (List (Str × Pos))
 | []=>some []
 | e :: r=>ob (nm? e) fun x=>ogo (B x.1) (ob (namesT B r) fun l=>some (x :: l))
theorem namesT_i {B:Str→Bool}:∀ {l:List Expr} {xs:List (Str × Pos)},namesT B l=some xs→l=xs.map (fun x=>.Name x.1 x.2)∧∀ x∈xs,B x.1=true
 | [],_,h=>by
  obtain rfl:=Option.some.inj h
  exact ⟨rfl,fun x hx=>nomatch hx⟩
 | e :: r,_,h=>by
  refine ob_e h fun x h1 k1=>?_
  obtain ⟨h2,k2⟩:=ogo_i k1
  refine ob_e k2 fun l h3 k3=>?_
  obtain rfl:=Option.some.inj k3
  obtain ⟨h4,h5⟩:=namesT_i h3
  refine ⟨by rw [nm_i h1,h4];rfl,fun y hy=>?_⟩
  rcases List.mem_cons.mp hy with rfl|hy
  ·exact h2
  ·exact h5 y hy
noncomputable def encs (xs:List (Str × Pos)):List Nat:=xs.map fun x=>enc x.1
noncomputable def trT1g (ns:Ns) (x:Str × Pos):Option (List Nat × Bool):=ogo (tgtB ns x.1) (some ([enc x.1],true))
noncomputable def trTm (ns:Ns) (l:List Expr × Nat × Pos):Option (List Nat × Bool):=ogo (!l.1.isEmpty) (ob (namesT (tgtB ns) l.1) fun xs=>some (encs xs,false))
noncomputable def trTg (ns:Ns) (t:Expr):Option (List Nat × Bool):=om (nm? t) (trT1g ns) (ob (tp? t) (trTm ns))
theorem trTg_i {ns:Ns} {t:Expr} {r:List Nat × Bool} (h:trTg ns t=some r):CTg ns t r.1 r.2:=by
 rcases om_i h with ⟨x,h1,k1⟩|k1
 ·obtain ⟨h2,k2⟩:=ogo_i k1
  obtain ⟨h3,h4⟩:=tgtB_i h2
  obtain rfl:=Option.some.inj k2
  rw [nm_i h1]
  exact .one h3 rfl h4
 ·refine ob_e k1 fun l h1 k1=>?_
  obtain ⟨h2,k2⟩:=ogo_i k1
  refine ob_e k2 fun xs h3 k3=>?_
  obtain rfl:=Option.some.inj k3
  obtain ⟨h4,h5⟩:=namesT_i h3
  rw [tp_i h1,h4]
  rw [h4] at h2
  refine .many (fun x hx=>tgtB_i (h5 x hx)) rfl fun q=>?_
  rw [q] at h2
  exact Bool.false_ne_true h2
noncomputable def scopeB (ns:Ns) (sc:Scope):Bool:=decide (sc.kind=.function∧∀ y∈sc.names,(y.2=.cell→∀ z∈sc.names,z.1=y.1→z.2=.cell)∧(y.2=.local→sc.names.lookup y.1=some .local)∧(y.2=.free→(ns.lookup y.1=some .cell∨ns.lookup y.1=some .free)∧okN y.1=true∧sc.names.lookup y.1=some .free))
noncomputable def scopeT (ns:Ns) (sc:Scope):Option (List Nat):=ogo (scopeB ns sc) (some (((sc.names.filter fun y=>decide (y.2=.free)).map (·.1)).map enc))
theorem scopeT_i {ns:Ns} {sc:Scope} {caps:List Nat} (h:scopeT ns sc=some caps):CompOk ns sc caps:=by
 obtain ⟨h0,h3⟩:=ogo_i h
 obtain ⟨h1,h2⟩:=of_decide_eq_true h0
 refine ⟨h1,fun y hy=>(h2 y hy).1,fun y hy=>(h2 y hy).2.1,fun y hy q=>((h2 y hy).2.2 q).1,_,(Option.some.inj h3).symm,fun x hx=>?_⟩
 obtain ⟨y,hy,rfl⟩:=List.mem_map.mp hx
 obtain ⟨hy,q⟩:=List.mem_filter.mp hy
 exact ((h2 y hy).2.2 (of_decide_eq_true q)).2
noncomputable abbrev TrF:=Ns→Expr→Option PE
noncomputable def trL (f:Expr→Option PE):List Expr→Option (List PE)
 | []=>some []
 | e :: r=>ob (f e) fun a=>ob (trL f r) fun l=>some (a :: l)
noncomputable def trL1 (f:Expr→Option PE) (es:List Expr):Option (List PE):=ogo (!es.isEmpty) (trL f es)
noncomputable def trO (f:Expr→Option PE) (o:Option Expr):Option PE:=match o with
 | none=>some (.lit .none)
 | some e=>f e
noncomputable def trC (c:Const):Option PE:=match c with
 | .int i=>some (.lit (.int i))
 | .str x=>some (.lit (.str x.cps.toList))
 | .bool b=>some (.lit (.bool b))
 | .none=>some (.lit .none)
 | _=>none
noncomputable def trBi (f:Expr→Option PE) (es:List Expr) (b:BI):Option PE:=ob (trL1 f es) fun l=>some (.bi b l)
noncomputable def trFn (f:Expr→Option PE) (x:Str) (es:List Expr):Option PE:=ogo (okN x) (ob (trL1 f es) fun l=>some (.call (enc x) l))
noncomputable abbrev CallX:=Expr × List Expr × List Keyword × Pos
noncomputable def innB (ns:Ns) (c:CallX) (y:Str):Bool:=c.2.2.1.isEmpty && glbB ns y
noncomputable def inn? (ns:Ns) (e:Expr):Option ((Str × Pos) × CallX):=ob (cl? e) fun c=>ob (nm? c.1) fun y=>ogo (innB ns c y.1) (some (y,c))
theorem inn_i {ns:Ns} {e:Expr} {t:(Str × Pos) × CallX} (h:inn? ns e=some t):e=.Call (.Name t.1.1 t.1.2) t.2.2.1 [] t.2.2.2.2∧Glb ns t.1.1:=by
 refine ob_e h fun c h1 k1=>ob_e k1 fun y h2 k2=>?_
 obtain ⟨h3,k3⟩:=ogo_i k2
 obtain rfl:=Option.some.inj k3
 exact ⟨by rw [cl_i h1,nm_i h2,List.isEmpty_iff.mp (band h3).1],glbB_i (band h3).2⟩
noncomputable def trTwo (f:Expr→Option PE) (ns:Ns) (es:List Expr):Option PE:=ob (l1? es) fun e=>ob (inn? ns e) fun t=>ogo (t.1.1 == ("range":Str)) (ob (trL1 f t.2.2.1) fun l=>some (.bi .listRange l))
noncomputable def trNamed (f:Expr→Option PE) (ns:Ns) (x:Str) (es:List Expr):Option PE:=om (biOf x) (trBi f es) (oe (x == ("list":Str)) (trTwo f ns es) (trFn f x es))
noncomputable def gnm? (ns:Ns) (o:Expr):Option (Str × Pos):=ob (nm? o) fun x=>ogo (glbB ns x.1) (some x)
noncomputable def gmB (x m:Str) (es:List Expr):Bool:=okD x && !(m == ("":Str)) && Nat.ble es.length 3
noncomputable def trGm (f:Expr→Option PE) (m:Str) (es:List Expr) (x:Str × Pos):Option PE:=ogo (gmB x.1 m es) (ob (trL1 f es) fun l=>some (.gmeth (enc x.1) (enc m) l))
noncomputable def trMk (f:Expr→Option PE) (o:Expr) (es:List Expr) (k:MK):Option PE:=ogo ((cl? o).isNone && Nat.ble es.length 3) (ob (f o) fun a=>ob (trL f es) fun l=>some (.meth k a l))
noncomputable def trIm (f:Expr→Option PE) (o:Expr) (m:Str) (es:List Expr):Option PE:=ob (nm? o) fun _=>ogo (Nat.ble es.length 3) (ob (f o) fun a=>ob (trL f es) fun l=>some (.imeth a (enc m) l))
noncomputable def trMeth (f:Expr→Option PE) (ns:Ns) (o:Expr) (m:Str) (es:List Expr):Option PE:=om (gnm? ns o) (trGm f m es) (om (mkOf m) (trMk f o es) (trIm f o m es))
noncomputable def trCn (f:Expr→Option PE) (ns:Ns) (es:List Expr) (x:Str × Pos):Option PE:=ogo (glbD ns x.1) (trNamed f ns x.1 es)
noncomputable def trCm (f:Expr→Option PE) (ns:Ns) (es:List Expr) (p:Pos) (a:Expr × Str × Pos):Option PE:=ogo ((a.2.2.endLine == p.line) && okN a.2.1) (trMeth f ns a.1 a.2.1 es)
noncomputable def trCall (f:Expr→Option PE) (ns:Ns) (g:Expr) (es:List Expr) (ks:List Keyword) (p:Pos):Option PE:=ogo ks.isEmpty (om (nm? g) (trCn f ns es) (ob (at? g) (trCm f ns es p)))
noncomputable def trRr (f:Expr→Option PE) (es:List Expr):Option PE:=ob (trL1 f es) fun l=>some (.bi .range l)
noncomputable def trRv (f:Expr→Option PE) (es:List Expr):Option PE:=ob (l1? es) fun x=>ob (f x) fun a=>some (.bi .reversed [a])
noncomputable def trR (f:Expr→Option PE) (ns:Ns) (e:Expr):Option PE:=ob (inn? ns e) fun t=>oe (t.1.1 == ("range":Str)) (trRr f t.2.2.1) (ogo (t.1.1 == ("reversed":Str)) (trRv f t.2.2.1))
noncomputable def trI (f:Expr→Option PE) (ns:Ns) (e:Expr):Option PE:=om (trR f ns e) some (ob (f e) fun a=>some (.tv a))
noncomputable def ginB (ns:Ns) (o:CmpOp) (x:Str):Bool:=decide (o=.In) && glbD ns x
noncomputable def gin? (ns:Ns) (o:CmpOp) (y:Expr):Option (Str × Pos):=ob (nm? y) fun x=>ogo (ginB ns o x.1) (some x)
theorem gin_i {ns:Ns} {o:CmpOp} {y:Expr} {x:Str × Pos} (h:gin? ns o y=some x):o=.In∧y=.Name x.1 x.2∧okN x.1=true∧NoDbg x.1∧Glb ns x.1:=by
 refine ob_e h fun z h1 k1=>?_
 obtain ⟨h2,k2⟩:=ogo_i k1
 obtain rfl:=Option.some.inj k2
 exact ⟨of_decide_eq_true (band h2).1,nm_i h1,glbD_i (band h2).2⟩
structure Tr where
 E:TrF
 T:TrF
noncomputable def trComp (r:Tr) (ns:Ns) (g:Comprehension) (sc:Scope) (el:Option PE):Option PE:=ogo (decide (g.is_async=0))
 (ob (scopeT ns sc) fun caps=>ob (trTg sc.names g.target) fun t=>ob (trI (r.E ns) ns g.iter) fun pi=>ob (trL (r.T sc.names) g.ifs) fun pifs=>ob el fun pe=>some (.comp pe t.1 t.2 pi pifs caps))
noncomputable def trEl (r:Tr) (ns:Ns) (e:Expr):Option PE:=ob (r.E ns e) fun a=>some (.el a)
noncomputable def trKv (r:Tr) (ns:Ns) (k v:Expr):Option PE:=ob (r.E ns k) fun a=>ob (r.E ns v) fun b=>some (.kv a b)
noncomputable def trGen (r:Tr) (ns:Ns) (e:Expr) (g:Comprehension):Option PE:=ogo (decide (g.is_async=0) && g.ifs.isEmpty) (ob (trTg ns g.target) fun t=>ob (trI (r.E ns) ns g.iter) fun pi=>ob (r.E ns e) fun a=>some (.gen a t.1 t.2 pi))
noncomputable def trLc (r:Tr) (ns:Ns) (e:Expr) (gs:List Comprehension) (sc:Scope):Option PE:=match gs with
 | [g]=>trComp r ns g sc (trEl r sc.names e)
 | [g,g2]=>trComp r ns g sc (trGen r sc.names e g2)
 | _=>none
noncomputable def trDc (r:Tr) (ns:Ns) (k v:Expr) (gs:List Comprehension) (sc:Scope):Option PE:=ob (l1? gs) fun g=>trComp r ns g sc (trKv r sc.names k v)
noncomputable def trCmp3 (r:Tr) (ns:Ns) (o:CmpOp) (y:Expr) (a:PE):Option PE:=ob (copK o) fun k=>ob (r.E ns y) fun b=>some (.cmp k a b)
noncomputable def trGin (a:PE) (x:Str × Pos):Option PE:=some (.gmeth (enc x.1) 0 [a])
noncomputable def trCmp2 (r:Tr) (ns:Ns) (o:CmpOp) (y:Expr) (a:PE):Option PE:=om (gin? ns o y) (trGin a) (trCmp3 r ns o y a)
noncomputable def trSl (r:Tr) (ns:Ns) (a:PE) (t:Option Expr × Option Expr × Option Expr × Pos):Option PE:=ob (trO (r.E ns) t.1) fun x=>ob (trO (r.E ns) t.2.1) fun y=>ob (trO (r.E ns) t.2.2.1) fun z=>some (.slice a x y z)
noncomputable def trSub (r:Tr) (ns:Ns) (i:Expr) (a:PE):Option PE:=om (sl? i) (trSl r ns a) (ob (r.E ns i) fun b=>some (.idx a b))
noncomputable def trGa (x nm:Str):Option PE:=ogo (okD x) (some (.gattr (enc x) (enc nm)))
noncomputable def trAt (r:Tr) (ns:Ns) (o:Expr) (nm:Str):Option PE:=ogo (decide (nm∈atNames)) (ob (r.E ns o) fun a=>some (.attr a (enc nm)))
noncomputable def trUn (o:UnaryOp) (a:PE):Option PE:=match o with
 | .USub=>some (.neg a)
 | .Invert=>some (.inv a)
 | .Not=>some (.not a)
 | .UAdd=>none
noncomputable def trNm (ns:Ns) (x:Str):Option PE:=oe (glbB ns x) (some (.glob (enc x))) (some (.var (enc x)))
noncomputable def trE1 (r:Tr) (ns:Ns) (e:Expr):Option PE:=match e with
 | .Constant c _ _=>trC c
 | .Name x _=>ogo (okD x) (trNm ns x)
 | .BinOp l o y _=>ob (binOf o) fun k=>ob (r.E ns l) fun a=>ob (r.E ns y) fun b=>some (.bin k a b)
 | .UnaryOp o x _=>ob (r.E ns x) (trUn o)
 | .Compare l os ys _=>ob (l1? os) fun o=>ob (l1? ys) fun y=>ob (r.E ns l) (trCmp2 r ns o y)
 | .BoolOp o es _=>ogo (decide (o=.And)) (ob (trL (r.E ns) es) fun l=>some (.and l))
 | .IfExp c x y _=>ob (r.T ns c) fun pc=>ob (r.E ns x) fun a=>ob (r.E ns y) fun b=>some (.ite pc a b)
 | .List es _=>ogo (Nat.ble es.length 1000) (ob (trL (r.E ns) es) fun l=>some (.list l))
 | .Tuple es _ _=>ogo (Nat.ble es.length 1000) (ob (trL (r.E ns) es) fun l=>some (.tup l))
 | .Subscript v i _=>ob (r.E ns v) (trSub r ns i)
 | .Call g es ks p=>trCall (r.E ns) ns g es ks p
 | .Attribute o nm _=>ob (nm? o) fun x=>ogo (okN nm) (oe (glbB ns x.1) (trGa x.1 nm) (trAt r ns o nm))
 | .ListComp elt gs sc _=>trLc r ns elt gs sc
 | .DictComp k v gs sc _=>trDc r ns k v gs sc
 | _=>none
noncomputable def trT1 (r:Tr) (ns:Ns) (e:Expr):Option PE:=match e with
 | .UnaryOp o x _=>ogo (decide (o=.Not)) (ob (r.T ns x) fun a=>some (.not a))
 | .BoolOp o es _=>ob (trL (r.T ns) es) fun l=>some (match o with | .And=>.and l | .Or=>.or l)
 | .Compare l os ys _=>ob (l1? os) fun o=>ob (l1? ys) fun y=>ob (r.E ns l) (trCmp3 r ns o y)
 | .IfExp ..=>none
 | e=>ob (r.E ns e) fun a=>some (.tv a)
noncomputable def tr:Nat→Tr
 | 0=>⟨fun _ _=>none,fun _ _=>none⟩
 | n+1=>⟨trE1 (tr n),trT1 (tr n)⟩
noncomputable def CE (ns:Ns) (e:Expr) (pe:PE):Prop:=∃ n,(tr n).E ns e=some pe
noncomputable def CT (ns:Ns) (e:Expr) (pe:PE):Prop:=∃ n,(tr n).T ns e=some pe
noncomputable def CEs (ns:Ns) (es:List Expr) (l:List PE):Prop:=∃ n,trL ((tr n).E ns) es=some l
noncomputable def CTs (ns:Ns) (es:List Expr) (l:List PE):Prop:=∃ n,trL ((tr n).T ns) es=some l
noncomputable def CI (ns:Ns) (e:Expr) (pe:PE):Prop:=∃ n,trI ((tr n).E ns) ns e=some pe
section
variable {ns:Ns} {e:Expr} {pe:PE}
theorem CE.step (h:CE ns e pe):∃ n,trE1 (tr n) ns e=some pe:=by
 obtain ⟨n,h⟩:=h
 cases n with
 | zero=>exact nos h
 | succ n=>exact ⟨n,h⟩
theorem CT.step (h:CT ns e pe):∃ n,trT1 (tr n) ns e=some pe:=by
 obtain ⟨n,h⟩:=h
 cases n with
 | zero=>exact nos h
 | succ n=>exact ⟨n,h⟩
structure Facts (e:Expr):Prop where
 star:plainStar e
 sub:∀ o x,subscripted e false o x=operate [o,x] (getItem o x)
 fold:∀ env x,foldedSetIterable e env x=pure x
 mark:∀ op,behindInMarks op e=false
 base:cl? e=none→∀ nm env,attributeBase e nm env (eval e env)=eval e env
 swap:cpB e=false→∀ t l env,swapsWith e t l env=pure false
 tup:tp? e=none→∀ ts j p env,swappedStores [.Tuple ts j p] e env=pure none
theorem CE.facts (h:CE ns e pe):Facts e:=by
 obtain ⟨n,h⟩:=h.step
 induction e using Expr.casesOn <;> first
  | exact nos h
  | exact ⟨fun _ _=>rfl,fun _ _=>rfl,fun _ _=>rfl,fun _=>rfl,fun _ _ _=>rfl,fun _ _ _ _=>rfl,fun _ _ _ _ _=>rfl⟩
  | exact ⟨fun _ _=>rfl,fun _ _=>rfl,fun _ _=>rfl,fun _=>rfl,fun _ _ _=>rfl,fun _ _ _ _=>rfl,fun q=>nos q.symm⟩
  | exact ⟨fun _ _=>rfl,fun _ _=>rfl,fun _ _=>rfl,fun _=>rfl,fun _ _ _=>rfl,fun q=>(Bool.false_ne_true q.symm).elim,fun _ _ _ _ _=>rfl⟩
  | exact ⟨fun _ _=>rfl,fun _ _=>rfl,fun _ _=>rfl,fun _=>rfl,fun q=>nos q.symm,fun _ _ _ _=>rfl,fun _ _ _ _ _=>rfl⟩
theorem CEs.nil' {l:List PE} (h:CEs ns [] l):l=[]:=by
 obtain ⟨n,h⟩:=h
 exact (Option.some.inj h).symm
theorem CEs.cons' {es:List Expr} {l:List PE} (h:CEs ns (e :: es) l):∃ a m,l=a :: m∧CE ns e a∧CEs ns es m:=by
 obtain ⟨n,h⟩:=h
 obtain ⟨a,ha,k1⟩:=ob_i h
 obtain ⟨m,hm,k2⟩:=ob_i k1
 exact ⟨a,m,(Option.some.inj k2).symm,⟨n,ha⟩,n,hm⟩
theorem CTs.nil' {l:List PE} (h:CTs ns [] l):l=[]:=by
 obtain ⟨n,h⟩:=h
 exact (Option.some.inj h).symm
theorem CTs.cons' {es:List Expr} {l:List PE} (h:CTs ns (e :: es) l):∃ a m,l=a :: m∧CT ns e a∧CTs ns es m:=by
 obtain ⟨n,h⟩:=h
 obtain ⟨a,ha,k1⟩:=ob_i h
 obtain ⟨m,hm,k2⟩:=ob_i k1
 exact ⟨a,m,(Option.some.inj k2).symm,⟨n,ha⟩,n,hm⟩
theorem CEs.one (h:CE ns e pe):CEs ns [e] [pe]:=by
 obtain ⟨n,h⟩:=h
 exact ⟨n,by unfold trL;rw [h];rfl⟩
theorem trL1_i {n:Nat} {es:List Expr} {l:List PE} (h:trL1 ((tr n).E ns) es=some l):∃ e r,es=e :: r∧CEs ns (e :: r) l:=by
 obtain ⟨h1,h2⟩:=ogo_i h
 induction es using List.casesOn with
 | nil=>exact (Bool.false_ne_true h1).elim
 | cons e r=>exact ⟨e,r,rfl,n,h2⟩
end
end Mine
end
section
set_option maxRecDepth 100000
open PySem PySem.Calls PyProof.Rows PySem.W
set_option genSizeOf false
set_option genInjectivity false
namespace Mine
section
variable {cx:Cx} {s:Shared} {H:Hid} {fr:Bool} {p:PV} {Q:Value→Shared→Prop} {h':Heap} {tk':Nat}
theorem Frs.after {h₀ h₁ h₂:Heap} {v:Value} (f:Frs cx h₁ h₂ H v p) (k:∀ a,Live h₀ a→Live h₁ a):Frs cx h₀ h₂ H v p:=fun ps e=>by
 obtain ⟨D,vs,e1,e2,r⟩:=f ps e
 exact ⟨D,vs,e1,fun l=>e2 (k _ l),r⟩
theorem RetF.after (r:RetF cx s H fr p Q) (e:Ext cx cx.T s.heap h'):RetF cx { s with heap:=h',toks:=tk' } H fr p Q :=
 fun v h₂ tk₂ e₂ r₂ f₂=>r v h₂ tk₂ (e.trans e₂) r₂ fun q=>(f₂ q).after e.live
theorem RetF.plain (r:RetF cx s H false p Q) {v:Value} {tk:Nat} (e:Ext cx cx.T s.heap h') (x:Rep cx h' H v p):Q v { s with heap:=h',toks:=tk }:=r v h' tk e x fun q=>by cases q
end
noncomputable def Callee (cx:Cx) (v:Value):Prop:=∀ {A:Around} {env:Env} {E:Value→Shared→Prop} {Q:Value→Shared→Prop} {s:Shared} {pos:Pos} {e:Expr} {rest:List Expr},cx.GI s.heap →
 wpAny (model cx.prog cx.w) A (spliced (backTo pos (starEach (e :: rest) env))) (fun vs s₁=>cx.GI s₁.heap∧wpAny (model cx.prog cx.w) A (call v vs) Q E s₁) E s →
 starEach (e :: rest) env=(false,eval e env) :: starEach rest env→(backTo pos (starEach rest env)).any (·.1)=false →
 wpAny (model cx.prog cx.w) A (callWith pos v [] (backTo pos (starEach (e :: rest) env)) []) Q E s
theorem callee_builtin {cx:Cx} {id:String}:Callee cx (.builtin id):=fun _ h he hp=>callWith_builtin1 (wpAny_mono h (fun _ _ x=>x.2) fun _ _ x=>x) he hp
theorem callee_type {cx:Cx} {T:String}:Callee cx (.type T):=fun _ h he hp=>callWith_type1 (wpAny_mono h (fun _ _ x=>x.2) fun _ _ x=>x) he hp
noncomputable def CallOk (cx:Cx) (n:Nat) (v:Value) (ps:List PV) (r:PV):Prop :=
 ∀ {A:Around} {E:Value→Shared→Prop} {s:Shared} {H:Hid} {Q:Value→Shared→Prop} {vs:List Value},Room A n→Cn cx s.heap H→RepAll cx s.heap H vs ps→RetF cx s H false r Q→wpAny (model cx.prog cx.w) A (call v vs) Q E s
noncomputable def biNames:List Str:=["len","ord","chr","sum","max","hex","divmod","tuple","list","range","dict","zip","reversed"]
structure GOk (cx:Cx) (G:Gl):Prop where
 gv:∀ x p,okN x=true→G.gv (enc x)=some p→∃ v,cx.mg x=some v∧∀ h,cx.GI h→Rep cx h (fun a=>¬ cx.GA a∨cx.B a) v p
 ga:∀ g n p,okN g=true→okN n=true→G.ga (enc g) (enc n)=some p→∃ v,cx.mg g=some v∧∀ {A:Around} {E:Value→Shared→Prop} {s:Shared} {Q:Value→Shared→Prop},cx.GI s.heap →
  (∀ w tk,Rep cx s.heap (fun a=>¬ cx.GA a∨cx.B a) w p→Q w { s with toks:=tk })→wpAny (model cx.prog cx.w) A (getAttr v n true) Q E s
 gm:∀ g m ps r,okN g=true→okN m=true→m ≠ ""→G.gm (enc g) (enc m) ps=some r→∃ v T id,cx.mg g=some v∧PlainAttrs T∧Slot T m id∧typeOf (.builtin id)=pure (.type "method_descriptor") ∧
  (∀ s:Shared,cx.GI s.heap→s.TypeIs v T∧(∀ a,v=.ref a→∃ ob,s.heap.get? a=some ob∧ob.dict=none)) ∧
  ∀ {A:Around} {E:Value→Shared→Prop} {s:Shared} {H:Hid} {Q:Value→Shared→Prop} {vs:List Value},Room A 60→Cn cx s.heap H→RepAll cx s.heap H vs ps→RetF cx s H false r Q→wpAny (model cx.prog cx.w) A (call (.builtin id) (v :: vs)) Q E s
 gin:∀ g p r,okN g=true→G.gm (enc g) 0 [p]=some r→∃ v b,cx.mg g=some v∧r=.bool b∧∀ {A:Around} {E:Value→Shared→Prop} {s:Shared} {H:Hid} {Q:Value→Shared→Prop} {x:Value},cx.GI s.heap→Rep cx s.heap H x p→(∀ tk,Q (.bool b) { s with toks:=tk })→wpAny (model cx.prog cx.w) A (compareOp .In x v) Q E s
 fn:∀ f n ps r,okN f=true→(sem G n).fn (enc f) ps=some r→∃ v,cx.mg f=some v∧Callee cx v
 cls:∃ N mN,(∀ h,cx.GI h→ClsAt h cx.C N mN)∧mN "__getattribute__"=none∧mN "__setattr__"=none∧(∀ n∈atNames,mN n=none∧typeLookup (.type "object") n=pure none)∧∀ h,cx.GI h→cx.GA cx.C
 bi:∀ x:Str,x∈biNames→cx.mg x=none
structure SndN (cx:Cx) (G:Gl) (n:Nat):Prop where
 ev:∀ {ns:Ns} {e:Expr} {pe:PE} {A:Around} {env:Env} {ρ:PEnv} {H:Hid} {s:Shared} {p:PV} {Q:Value→Shared→Prop} {E:Value→Shared→Prop},CE ns e pe→InE cx (n+60) A env ns ρ H s →
  (sem G n).ev ρ pe=some p→RetF cx s H (freshE pe p) p Q→wpAny (model cx.prog cx.w) A (eval e env) Q E s
 ts:∀ {ns:Ns} {e:Expr} {pe:PE} {A:Around} {env:Env} {ρ:PEnv} {H:Hid} {s:Shared} {b:Bool} {Q:Bool→Shared→Prop} {E:Value→Shared→Prop},CT ns e pe→InE cx (n+60) A env ns ρ H s →
  (sem G n).ts ρ pe=some b→(∀ h' tk',Ext cx cx.T s.heap h'→Q b { s with heap:=h',toks:=tk' })→wpAny (model cx.prog cx.w) A (isTrue e env (eval e env)) Q E s
 fn:∀ f v ps r,okN f=true→cx.mg f=some v→(sem G n).fn (enc f) ps=some r→CallOk cx (n+60) v ps r
 me:∀ m ps r,okN m=true→(sem G n).me (enc m) ps=some r→∃ f o fd,(∀ h,cx.GI h→h.get? f=some o)∧o.data=.func fd∧CallOk cx (n+60) (.ref f) ps r ∧
  ∀ {A:Around} {E:Value→Shared→Prop} {s:Shared} {H:Hid} {Q:Value × List Value→Shared→Prop} {v:Value} {ks:List Nat} {qs:List PV} {pl:Sem Bool},cx.GI s.heap→Rep cx s.heap H v (.inst ks qs)→PEnv.has ks (enc m)=false→Q (.ref f,[v]) s→wpAny (model cx.prog cx.w) A (getMethod v m pl) Q E s
section
variable {cx:Cx} {G:Gl} {n:Nat} {ns:Ns} {A:Around} {env:Env} {ρ:PEnv} {H:Hid} {s:Shared} {E:Value→Shared→Prop} {Q:Value→Shared→Prop}
theorem ld_glob {x:Str} {v:Value} {p:Pos} {m:Nat} (I:InE cx m A env ns ρ H s) (hx:ns.lookup x=some .globalImplicit) (hd:(x == ("__debug__":Str))=false) (hv:cx.mg x=some v) (h:Q v s) :
  wpAny (model cx.prog cx.w) A (eval (.Name x p) env) Q E s :=
 Name_function_global I.kind (I.glb _ hx) (loadGlobal_global (mg:=cx.mg) (by rw [I.glob];exact cx.ns_g _ I.cn.gi) hv h) hd
theorem ld_bi {x:Str} {v:Value} {p:Pos} {m:Nat} (I:InE cx m A env ns ρ H s) (hx:ns.lookup x=some .globalImplicit) (hd:(x == ("__debug__":Str))=false) (hn:cx.mg x=none) (hne:x ≠ "__name__") (hv:bootBuiltins x=some v) (h:Q v s) :
  wpAny (model cx.prog cx.w) A (eval (.Name x p) env) Q E s :=
 Name_function_global I.kind (I.glb _ hx) (loadGlobal_builtin (mg:=cx.mg) (mb:=cx.mb) (by rw [I.glob];exact cx.ns_g _ I.cn.gi) hn (by rw [I.blt];exact cx.ns_b _ I.cn.gi) ((cx.boot x hne).trans hv) h) hd
theorem ld_var {x:Str} {b:Bool} {pv:PV} {p:Pos} {m:Nat} (I:InE cx m A env ns ρ H s) (ok:okN x=true) (hd:(x == ("__debug__":Str))=false) (hg:PEnv.get ρ (enc x)=some (b,pv)) (h:∀ v,Rep cx s.heap H v pv→Q v s) :
  wpAny (model cx.prog cx.w) A (eval (.Name x p) env) Q E s:=by
 obtain ⟨v,hv,hr⟩:=I.vars x b pv ok hg
 refine wpAny_Name ?_ hd
 rcases hv with ⟨k,m,hn,hm⟩|⟨k,c,hc,hcell⟩
 ·exact wpAny_loadName_local I.kind k hn hm (h v hr)
 ·rcases k with k|⟨k,kn⟩
  ·exact wpAny_loadName_cell I.kind k hc hcell (h v hr)
  ·exact wpAny_loadName_free I.kind k hc hcell (h v hr) kn
theorem evL_ok (S:SndN cx G n):∀ {es:List Expr} {l:List PE} {s:Shared} {ps:List PV} {pos:Pos} {Q:List Value→Shared→Prop},CEs ns es l→InE cx (n+60) A env ns ρ H s→evL (sem G n) ρ l=some ps →
  (∀ vs h' tk',Ext cx cx.T s.heap h'→RepAll cx h' H vs ps→Q vs { s with heap:=h',toks:=tk' })→wpAny (model cx.prog cx.w) A (spliced (backTo pos (starEach es env))) Q E s
 | [],_,s,_,pos,Q,hc,I,e,h=>by
  obtain rfl:=hc.nil'
  exact args_nil (h [] s.heap s.toks .refl (Option.some.inj e ▸ .nil))
 | x :: es,_,s,_,pos,Q,hc,I,e,h=>by
  obtain ⟨a,m,rfl,hx,hr⟩:=hc.cons'
  obtain ⟨v,hv,k1⟩:=ob_i e
  obtain ⟨vs,hvs,k2⟩:=ob_i k1
  refine args_cons (S.ev hx I hv fun v' h₁ t₁ e₁ r₁ _=>?_) (hx.facts.star _ _)
  exact evL_ok S hr (I.ext e₁) hvs fun vs' h₂ t₂ e₂ r₂=>h (v' :: vs') h₂ t₂ (e₁.trans e₂) (Option.some.inj k2 ▸ .cons (r₁.ext e₂ I.cn.tH) r₂)
theorem CEs.plain:∀ {es:List Expr} {l:List PE},CEs ns es l→∀ {pos:Pos},(backTo pos (starEach es env)).any (·.1)=false
 | [],_,_,_=>rfl
 | x :: es,_,hc,pos=>by
  obtain ⟨a,m,rfl,hx,hr⟩:=hc.cons'
  rw [hx.facts.star]
  exact CEs.plain hr (pos:=pos)
theorem CEs.length:∀ {es:List Expr} {l:List PE},CEs ns es l→es.length=l.length
 | [],_,hc=>by
  obtain rfl:=hc.nil'
  rfl
 | x :: es,_,hc=>by
  obtain ⟨a,m,rfl,_,hr⟩:=hc.cons'
  exact congrArg Nat.succ hr.length
theorem evL_length {r:Rc} {ρ:PEnv}:∀ {l:List PE} {ps:List PV},evL r ρ l=some ps→ps.length=l.length
 | [],_,e=>Option.some.inj e ▸ rfl
 | x :: l,ps,e=>by
  obtain ⟨v,_,k1⟩:=ob_i e
  obtain ⟨vs,hvs,k2⟩:=ob_i k1
  exact Option.some.inj k2 ▸ congrArg Nat.succ (evL_length hvs)
theorem call_named {x:Str} {v:Value} {np pos:Pos} {e:Expr} {es:List Expr} {l:List PE} {ps:List PV} (S:SndN cx G n) (I:InE cx (n+60) A env ns ρ H s) (hv:Callee cx v) (hc:CEs ns (e :: es) l) (he:evL (sem G n) ρ l=some ps)
  (ld:∀ {Q:Value→Shared→Prop},Q v s→wpAny (model cx.prog cx.w) A (eval (.Name x np) env) Q E s)
  (hcall:∀ vs h' tk',Ext cx cx.T s.heap h'→RepAll cx h' H vs ps→wpAny (model cx.prog cx.w) A (call v vs) Q E { s with heap:=h',toks:=tk' }) :
  wpAny (model cx.prog cx.w) A (eval (.Call (.Name x np) (e :: es) [] pos) env) Q E s:=by
 refine Call_ (ld (hv I.cn.gi (evL_ok S hc I he fun vs h' tk' e₁ r₁=>⟨e₁.gi I.cn.gi,hcall vs h' tk' e₁ r₁⟩) ?_ ?_))
 ·obtain ⟨_,_,_,hx,_⟩:=hc.cons'
  exact hx.facts.star _ _
 ·obtain ⟨_,_,_,_,hr⟩:=hc.cons'
  exact hr.plain
end
end Mine
end
section
set_option maxRecDepth 100000
open PySem PySem.Calls PyProof.Rows PySem.W
set_option genSizeOf false
set_option genInjectivity false
namespace Mine
theorem keys_none_list:typeLookup (.type "list") "keys"=pure none:=am_miss_of_fast (by kernel_rfl)
theorem keys_list {prog:Program} {w:World} {A:Around} {E:Value→Shared→Prop} {s:Shared} {a:Addr} {vs:List Value} {Q:Option Value→Shared→Prop} (l:IsLs s.heap a vs) (hA:A.handled=none)
  (h:∀ h' tk,(∀ b o,s.heap.get? b=some o→h'.get? b=some o)→Q none { s with heap:=h',toks:=tk }):wpAny (model prog w) A (getAttr? (.ref a) "keys") Q E s:=by
 obtain ⟨k,hx⟩:=l
 obtain ⟨hp,g,d,tk,os⟩:=s
 have hT:∀ tk',(⟨hp,g,d,tk',os⟩:Shared).TypeIs (.ref a) "list":=fun _=>⟨_,hx,rfl⟩
 have f1:=sub_AttributeError
 have f3:=F.slot_list_getattribute.lookup
 have f4:=F.slot_list_getattribute.bind (.ref a)
 have f5:=am_list_getattr_none
 unfold getAttr? getAttrBy? getAttrBy
 repeat (any_goals (first|assumption|exact hT _|((with_reducible show wpAny _ _ (call (Value.builtin "list.__getattribute__") _ _) _ _ _);refine call_meets F.slot_list_getattribute (hT _) am_entry_list_getattribute (F.args_list_getattribute_2 _ _) (meets_getattribute_miss_list a vs.toArray k #[] "keys" _ keys_none_list (by decide) (by decide +kernel)) ⟨hx,hA,fun h' tk' e hx'=>?_⟩)|wp_step))
 obtain ⟨t',u',he⟩:=hx'.there
 show wpAny _ _ (getattributeRaised _ _ _ _ _ _ _) _ _ _
 unfold getattributeRaised
 repeat (any_goals (first|assumption|wp_step))
 exact h h' tk' hx'.keeps
theorem plain_dict_loop:plainId "dict.update.loop"=true:=by decide +kernel
theorem entry_dict_loop:entryFor table "dict.update.loop"=some Builtin.«dict.update.loop»:=entryFor_of_tree (by kernel_rfl)
theorem IsLs.map {h h':Heap} {a:Addr} {vs:List Value} (l:IsLs h a vs) (k:∀ o,h.get? a=some o→h'.get? a=some o):IsLs h' a vs:=(by obtain ⟨n,e⟩:=l;exact ⟨n,k _ e⟩)
noncomputable abbrev It:=Str × Value × Value
noncomputable def kvOf (x:It):Str × Value:=(x.1,x.2.2)
theorem stored_take {items:List It} (hn:(items.map (·.1)).Nodup) {i:Nat} {x:It} (hx:items[i]?=some x):stored ((items.take i).map kvOf) x.1 x.2.2=(items.take (i+1)).map kvOf:=by
 obtain ⟨hi,rfl⟩:=List.getElem?_eq_some_iff.mp hx
 rw [List.take_succ_eq_append_getElem hi,List.map_append]
 unfold stored
 refine if_neg fun q=>?_
 obtain ⟨kv,hm,hk⟩:=List.any_eq_true.mp q
 obtain ⟨y,hy,rfl⟩:=List.mem_map.mp hm
 have hk:y.1=items[i].1:=of_decide_eq_true hk
 have e:=List.take_append_drop i items
 rw [← e,List.map_append,List.drop_eq_getElem_cons hi] at hn
 exact (List.nodup_append.mp hn).2.2 _ (List.mem_map_of_mem hy) _ (.head _) hk
section
variable {prog:Program} {w:World} {A:Around} {E:Value→Shared→Prop} {R:Result→Shared→Prop}
structure PrL (h:Heap) (a:Addr) (va:List Value) (items:List It):Prop where
 ls:IsLs h a va
 len:items.length=va.length
 at':∀ (i:Nat) (x:It),items[i]?=some x→∃ b,va[i]?=some (Value.ref b)∧IsTp h b [x.2.1,x.2.2]
 key:∀ x∈items,∃ t,x.2.1=.str x.1 t
 nd:(items.map (·.1)).Nodup
 sz:items.length≤1000
theorem dict_loop {h₀:Heap} {d z a:Addr} {res:Value} {va:List Value} {items:List It} (hh:A.handled=none) (P:PrL h₀ a va items) (nd:¬ Live h₀ d) (nz:¬ Live h₀ z) (dz:d ≠ z) (hE:∀ e s,E e s→R (.error e) s) :
  ∀ (n i:Nat) (j:Int) (s:Shared),i+n=items.length→(∀ b o,h₀.get? b=some o→s.heap.get? b=some o)→s.heap.IsListIter z a i→s.heap.DictOf (strKind prog w) d ((items.take i).map kvOf) →
   (∀ h' tk,h'.DictOf (strKind prog w) d (items.map kvOf)→(∀ b o,h₀.get? b=some o→h'.get? b=some o)→R (.ok (.ret res)) { s with heap:=h',toks:=tk }) →
   codeAny (model prog w) A (.builtin "dict.update.loop" ⟨[.ref d,.ref z,.int j 0,res],[]⟩) R s
 | 0,i,j,s,hi,k0,hit,ha,hR=>by
  refine codeAny_builtin entry_dict_loop ?_
  rw [Around.under_plainId plain_dict_loop]
  show wpAny _ A.in1 (pyNext (.ref z) >>= _) _ _ _
  obtain rfl:i=items.length:=hi
  rw [List.take_length] at ha
  have il:s.heap.IsList a va.toArray:=(P.ls.map (k0 a)).isList
  refine wpAny_bind (wpAny_mono (wpAny_pyNext_list_end (E:=E) hh hit il (by rw [P.len,List.getElem?_toArray];exact List.getElem?_eq_none (Nat.le_refl _)) fun h' k=>?_) (fun _ _ x=>x) fun e s' x=>hE e s' x)
  show wpAny _ A.in1 (Builtin.Dict.addKeywords d [] >>= fun _=>ret res) _ _ _
  refine wpAny_bind ?_
  unfold Builtin.Dict.addKeywords
  refine wpAny_pure (wpAny_pure ?_)
  exact hR h' s.toks (ha.at fun o e=>k _ o dz e) fun b o e=>k b o (fun q=>nz (q ▸ ⟨o,e⟩)) (k0 b o e)
 | n+1,i,j,s,hi,k0,hit,ha,hR=>by
  refine codeAny_builtin entry_dict_loop ?_
  rw [Around.under_plainId plain_dict_loop]
  show wpAny _ A.in1 (pyNext (.ref z) >>= _) _ _ _
  have hlt:i<items.length:=hi ▸ Nat.lt_add_of_pos_right (Nat.succ_pos n)
  have hx:=List.getElem?_eq_getElem hlt
  generalize items[i]=x at hx
  obtain ⟨b,hb,hl⟩:=P.at' i x hx
  obtain ⟨t,ht⟩:=P.key x (List.mem_of_getElem? hx)
  have il:s.heap.IsList a va.toArray:=(P.ls.map (k0 a)).isList
  refine wpAny_bind (wpAny_mono (wpAny_pyNext_list_item (E:=E) (x:=.ref b) hit il (by rw [List.getElem?_toArray];exact hb) fun h' it' sb=>?_) (fun _ _ x=>x) fun e s' x=>hE e s' x)
  have k1:∀ b o,h₀.get? b=some o→h'.get? b=some o:=fun b o e=>sb.extBut b o (fun q=>nz (q ▸ ⟨o,e⟩)) (k0 b o e)
  show wpAny _ A.in1 (holding [Value.ref b] _ >>= fun _=>again (.builtin "dict.update.loop" ⟨[.ref d,.ref z,rawInt (j+1),res],[]⟩)) _ _ _
  refine wpAny_bind (wpAny_holding ?_)
  refine wpAny_bind (wpAny_tryCatch ?_)
  show wpAny _ A.in1 (Builtin.Dict.pairItems (.ref b)) _ _ _
  unfold Builtin.Dict.pairItems
  obtain ⟨cnt,hp⟩:=hl
  have hp:=k1 _ _ hp
  refine wpAny_bind (wpAny_typeOf (T:="tuple") ⟨_,hp,rfl⟩ ?_)
  rw [if_pos (by decide)]
  refine wpAny_bind (wpAny_seqItems hp rfl ?_)
  refine wpAny_pure ?_
  show wpAny _ A.in1 (holding [x.2.1,x.2.2] (dictSet d x.2.1 x.2.2)) _ _ _
  refine wpAny_holding ?_
  have ha':Heap.DictOf (strKind prog w) h' d ((items.take i).map kvOf):=ha.at fun o e=>sb.extBut d o dz e
  refine wpAny_dictSet_pairs (knd:=strKind prog w) (k:=x.1) (by rw [ht];exact strKind_is _ _ _ _) ha' (fun h₂ hd₂ hs₂=>?_) ?_
  ·rw [stored_take P.nd hx] at hd₂
   refine wpAny_pure ⟨plainId_quiet plain_dict_loop _,?_⟩
   exact dict_loop hh P nd nz dz hE n (i+1) (j+1) _ (by rw [← hi,Nat.add_right_comm,Nat.add_assoc]) (fun b o e=>hs₂.extBut b o (fun q=>nd (q ▸ ⟨o,e⟩)) (k1 b o e)) (it'.extBut hs₂.extBut dz.symm) hd₂ hR
  ·rw [List.length_map]
   exact Nat.le_trans (Nat.le_trans (List.length_take_le _ _) (Nat.le_trans (Nat.le_of_lt hlt) P.sz)) (Nat.le_trans (by decide) sizeLine_big)
theorem call_dict_list {s:Shared} {Q:Value→Shared→Prop} {a:Addr} {va:List Value} {items:List It} (hh:A.handled=none) (P:PrL s.heap a va items)
  (h:∀ h' tk,h'.DictOf (strKind prog w) s.heap.objs.size (items.map kvOf)→(∀ b o,s.heap.get? b=some o→h'.get? b=some o)→Q (.ref s.heap.objs.size) { s with heap:=h',toks:=tk }):wpAny (model prog w) A (call (.type "dict") [.ref a]) Q E s:=by
 refine callType_codes (Q₁:=fun obj s₁=>obj=.ref s.heap.objs.size∧s₁={ s with heap:=s.heap.push { cls:=.type "dict",data:=.dict #[] } }) F.kt_called_dict (F.kt_typeCall_dict_1 _) F.entry_dict_init (kt_code_dict_new _ ⟨rfl,rfl⟩) ?_
 rintro obj s₁ ⟨rfl,rfl⟩
 have hnew:(s.heap.push { cls:=.type "dict",data:=.dict #[] }).DictOf (strKind prog w) s.heap.objs.size []:=Heap.DictOf.new s.heap
 have keep0:∀ b o,s.heap.get? b=some o→(s.heap.push { cls:=.type "dict",data:=.dict #[] }).get? b=some o:=fun b o e=>Heap.get?_push_of_some _ e
 refine ⟨hnew.typeIs,F.args_dict_init_2 _ _,?_⟩
 unfold Builtin.«dict.__init__»
 refine wpAny_bind ?_
 unfold Builtin.Dict.selfAndRest
 refine wpAny_bind (wpAny_notOrdered_dict hnew.typeIs ?_)
 show wpAny _ _ (pure (s.heap.objs.size,[Value.ref a])) _ _ _
 refine wpAny_pure ?_
 show wpAny _ _ (Builtin.Dict.updateFrom "dict.__init__" s.heap.objs.size (.ref a) [] .none) _ _ _
 unfold Builtin.Dict.updateFrom
 have l0:=P.ls.map (keep0 a)
 refine wpAny_bind (wpAny_typeOf (T:="list") ⟨_,l0.choose_spec,rfl⟩ ?_)
 rw [if_pos (by decide)]
 refine wpAny_bind (wpAny_mono (keys_list (E:=E) (s:=⟨s.heap.push { cls:=.type "dict",data:=.dict #[] },s.gens,s.drawn,s.toks,s.os⟩) l0 hh fun h₁ t₁ k₁=>?_) (fun _ _ x=>x) fun e s' x=>x)
 rw [if_pos (show (none:Option Value).isNone=true from rfl)]
 refine wpAny_bind (wpAny_rule ?_)
 have hd₁:Heap.DictOf (strKind prog w) h₁ s.heap.objs.size []:=hnew.at fun o e=>k₁ _ _ e
 have lt1:s.heap.objs.size<h₁.objs.size:=Heap.lt_size (k₁ _ _ (Heap.get?_push_size s.heap (o:={ cls:=.type "dict",data:=.dict #[] }) rfl))
 have k2:∀ b o,s.heap.get? b=some o→h₁.get? b=some o:=fun b o e=>k₁ _ _ (keep0 b o e)
 refine wpAny_bind (wpAny_mono (wpAny_pyIter_list (E:=E) (items:=va.toArray) (s:=⟨h₁,s.gens,s.drawn,t₁,s.os⟩) (P.ls.map (k2 a)).isList (Q:=fun v s'=>v=.ref h₁.objs.size∧s'=⟨h₁.push { cls:=.type "list_iterator",data:=.fields #[.ref a,.int 0 0] },s.gens,s.drawn,t₁,s.os⟩) ⟨rfl,rfl⟩) (fun v s' q=>?_) fun e s' x=>x)
 obtain ⟨rfl,rfl⟩:=q
 refine wpAny_pure ⟨plainId_quiet plain_dict_loop _,?_⟩
 refine dict_loop (A:=A.in1) (h₀:=s.heap) (z:=h₁.objs.size) hh P not_live_size (fun ⟨o,e⟩=>absurd (Heap.lt_size (k2 _ _ e)) (Nat.lt_irrefl _)) (Nat.ne_of_lt lt1) (fun e s' x=>x) items.length 0 0 ⟨h₁.push { cls:=.type "list_iterator",data:=.fields #[.ref a,.int 0 0] },s.gens,s.drawn,t₁,s.os⟩ (Nat.zero_add _) (fun b o e=>Heap.get?_push_of_some _ (k2 b o e)) ⟨_,Heap.get?_push_size _ rfl,rfl,rfl⟩ (hd₁.at fun o e=>Heap.get?_push_of_some _ e) fun h₃ t₃ d₃ k₃=>⟨rfl,h h₃ t₃ d₃ k₃⟩
end
section
variable {cx:Cx} {A:Around} {s:Shared} {H:Hid} {E:Value→Shared→Prop} {Q:Value→Shared→Prop}
theorem keys_rep {h:Heap}:∀ {ps:List PV} {vs:List Value} {k:List (List Nat) × List PV},RepAll cx h H vs ps→keys? ps=some k →
  ∃ items:List It,items.length=vs.length∧items.map (·.1)=k.1.map S∧(∀ (i:Nat) (x:It),items[i]?=some x→∃ a,vs[i]?=some (Value.ref a)∧IsTp h a [x.2.1,x.2.2])∧(∀ x∈items,∃ t,x.2.1=Value.str x.1 t)∧RepAll cx h H (items.map (·.2.2)) k.2
 | [],vs,k,r,e=>by
  obtain rfl:=r.nil'
  obtain rfl:=Option.some.inj e
  exact ⟨[],rfl,rfl,fun i x hx=>nos hx,fun x hx=>(nomatch hx),.nil⟩
 | p :: ps,vs,k,r,e=>by
  obtain ⟨v,vs,rfl,a,r⟩:=r.cons'
  refine ob_e e fun q h1 e=>ob_e e fun k' h2 e=>?_
  obtain rfl:=Option.some.inj e
  obtain ⟨items,e1,e2,e3,e4,e5⟩:=keys_rep r h2
  refine ob_e h1 fun t h3 e=>ob_e e fun u h4 e=>ob_e e fun x h5 e=>?_
  obtain rfl:=Option.some.inj e
  obtain ⟨b,ws,rfl,_,l,y⟩:=a.toTup h3
  obtain ⟨v1,v2,rfl,y1,y2⟩:=y.two h4
  obtain ⟨tt,rfl⟩:=y1.toStr h5
  refine ⟨(S x,.str (S x) tt,v2) :: items,congrArg Nat.succ e1,congrArg (S x :: ·) e2,fun i y hy=>?_,fun y hy=>?_,.cons y2 e5⟩
  ·cases i with
   | zero=>exact ⟨_,rfl,Option.some.inj hy ▸ l⟩
   | succ i=>exact e3 i y hy
  ·rcases List.mem_cons.mp hy with rfl|hy
   ·exact ⟨tt,rfl⟩
   ·exact e4 y hy
theorem dof_ok {a:Addr} {va:List Value} {ps:List PV} {r:PV} (hh:A.handled=none) (c:Cn cx s.heap H) (la:IsLs s.heap a va) (ra:RepAll cx s.heap H va ps) (e:pairsV ps=some r) (h:RetF cx s H false r Q) :
  wpAny (model cx.prog cx.w) A (call (.type "dict") [.ref a]) Q E s:=by
 refine ob_e e fun k hks e=>?_
 obtain ⟨q,rfl⟩:=og_i e
 obtain ⟨q1,q2⟩:=band q
 obtain ⟨items,e1,e2,e3,e4,e5⟩:=keys_rep ra hks
 have l1:items.length=k.1.length:=by rw [← List.length_map (f:=fun x:It=>x.1),e2,List.length_map]
 have nd:(items.map (·.1)).Nodup:=e2 ▸ List.pairwise_map.mpr ((of_decide_eq_true q1).imp fun n z=>n (S_inj.mp z))
 refine call_dict_list hh ⟨la,e1,e3,e4,nd,l1 ▸ Nat.le_of_lt (blt_true.mp q2)⟩ fun h' tk d k=>?_
 refine h.plain (.of_keep k) (.dict (fun z=>not_live_size (c.hid _ z)) d ?_ ?_)
 ·rw [List.map_map];exact e2
 ·rw [List.map_map]
  exact e5.ext (.of_keep k) c.tH
end
end Mine
end
section
set_option maxRecDepth 100000
open PySem PySem.Calls PyProof.Rows PySem.W
set_option genSizeOf false
set_option genInjectivity false
namespace Mine
section
variable {cx:Cx} {A:Around} {E:Value→Shared→Prop} {s:Shared} {H:Hid} {Q:Value→Shared→Prop}
noncomputable def intAt (ps:List PV) (i:Nat):Int:=((ps[i]?).bind int?).getD 0
theorem sumV_pre:∀ {ps:List PV} {a r:Int},sumV ps a=some r→r=a+preSum (intAt ps) ps.length∧∀ (i:Nat) (p:PV),ps[i]?=some p→∃ k,p=.int k∧intAt ps i=k
 | [],a,r,e=>⟨(Option.some.inj e).symm.trans (Int.add_zero a).symm,fun i p h=>nos h⟩
 | p :: ps,a,r,e=>by
  obtain ⟨k,hk,k1⟩:=ob_i e
  obtain rfl:=int_i hk
  obtain ⟨h1,h2⟩:=sumV_pre k1
  have sh:∀ n,preSum (intAt (.int k :: ps)) (n+1)=k+preSum (intAt ps) n:=fun n=>by
   induction n with
   | zero=>exact Int.add_comm 0 k
   | succ n ih =>
    rw [show preSum (intAt (.int k :: ps)) (n+1+1)=preSum (intAt (.int k :: ps)) (n+1)+intAt ps n from rfl,ih]
    exact Int.add_assoc ..
  refine ⟨by rw [h1,List.length_cons,sh,Int.add_assoc],fun i p h=>?_⟩
  cases i with
  | zero=>exact ⟨k,(Option.some.inj h).symm,rfl⟩
  | succ i=>exact h2 i p h
theorem iter_list {l:Addr} {items:Array Value} {Q:Value→Shared→Prop} (hl:s.heap.IsList l items)
  (h:∀ s₂:Shared,s₂={ s with heap:=s.heap.push { cls:=.type "list_iterator",data:=.fields #[.ref l,.int 0 0] } } →
   (s₂.heap.IsListIter s.heap.objs.size l 0∧s₂.heap.IsList l items)→(∀ b∈[s.heap.objs.size,l],b<s₂.heap.objs.size)→l ≠ s.heap.objs.size→Q (.ref s.heap.objs.size) s₂) :
  wpAny (model cx.prog cx.w) A (pyIter (.ref l)) Q E s:=by
 have hlt:l<s.heap.objs.size:=by obtain ⟨_,e,_⟩:=hl;exact Heap.lt_size e
 refine wpAny_pyIter_list hl (h _ rfl ⟨⟨_,Heap.get?_push_size _ rfl,rfl,rfl⟩,hl.push _⟩ (fun b hb=>?_) (Nat.ne_of_lt hlt))
 show b<(s.heap.push _).objs.size
 rw [Heap.size_push]
 rcases List.mem_cons.mp hb with rfl|hb
 ·exact Nat.lt_succ_self _
 ·rcases List.mem_cons.mp hb with rfl|hb
  ·exact Nat.lt_succ_of_lt hlt
  ·cases hb
theorem sum_ok {a:Addr} {vs:List Value} {ps:List PV} {r:Int} (hh:A.handled=none) (l:IsLs s.heap a vs) (x:RepAll cx s.heap H vs ps) (e:sumV ps 0=some r) (h:RetF cx s H false (.int r) Q) :
  wpAny (model cx.prog cx.w) A (call (.builtin "sum") [.ref a]) Q E s:=by
 obtain ⟨h1,h2⟩:=sumV_pre e
 refine call_sum_walkG (iter_list l.isList fun s₂ es st hfp hlI=>?_)
 subst es
 refine ⟨_,_,_,_,_,_,intAt ps,rfl,Walks.list (A:=A.in1) hh _ a hlI vs.toArray,st,hfp,fun i v hv=>?_,fun h' tk t' hk=>?_⟩
 ·have hv:vs[i]?=some v:=by simpa using hv
  have hlt:i<ps.length:=by rw [← x.length];exact (List.getElem?_eq_some_iff.mp hv).1
  have hp:ps[i]?=some ps[i]:=List.getElem?_eq_getElem hlt
  generalize ps[i]=p at hp
  obtain ⟨k,rfl,hk⟩:=h2 i p hp
  obtain ⟨v',e1,e2⟩:=x.get hp
  obtain rfl:=Option.some.inj (hv.symm.trans e1)
  rw [hk]
  exact e2
 ·have hr:preSum (intAt ps) vs.toArray.size=r:=by rw [List.size_toArray,x.length,h1,Int.zero_add]
  rw [hr]
  exact h.plain (.of_keep (old_kept hk)) (.int r t')
theorem max_ok {a b:Int} {t u:Tok} (hh:A.handled=none) (h:RetF cx s H false (.int (match intLt a b with|true=>b|false=>a)) Q) :
  wpAny (model cx.prog cx.w) A (call (.builtin "max") [.int a t,.int b u]) Q E s:=by
 refine max_two_ints hh fun h' tk hk=>?_
 rw [intLt_eq] at h
 by_cases q:a<b
 ·rw [if_pos q]
  rw [decide_eq_true q] at h
  exact h.plain (.of_keep hk) (.int b u)
 ·rw [if_neg q]
  rw [decide_eq_false q] at h
  exact h.plain (.of_keep hk) (.int a t)
theorem sizeLine_1:1000000≤sizeLine:=Nat.le_trans (by decide) sizeLine_big
theorem chr_ok {i:Int} {t:Tok} {r:PV} (e:chrV i=some r) (h:RetF cx s H false r Q):wpAny (model cx.prog cx.w) A (call (.builtin "chr") [.int i t]) Q E s:=by
 cases i with
 | negSucc n=>exact (Option.some_ne_none _ e.symm).elim
 | ofNat n =>
  obtain ⟨q,rfl⟩:=og_i e
  rw [Bool.and_eq_true,blt_true] at q
  refine PySem.P.chr_of_int ?_ h.str
  have h2:¬ ((Int.ofNat n) > 0x10FFFF):=fun z=>by have:=q.1;simp only [Int.ofNat_eq_natCast] at z;omega
  have h1:¬ (Int.ofNat n<0):=Int.not_lt.mpr (Int.natCast_nonneg n)
  rw [decide_eq_false h1,decide_eq_false h2];rfl
theorem hex_ok {i:Int} {t:Tok} (q:Nat.ble (hexV i).length 1000000=true) (h:RetF cx s H false (.str (hexV i)) Q):wpAny (model cx.prog cx.w) A (call (.builtin "hex") [.int i t]) Q E s:=by
 refine PySem.P.hex_of_int ?_ ?_
 ·have:=h.str (x:=hexV i) (t:=s.toks) (tk:=s.toks+1)
  rwa [hexV,S_of] at this
 ·show (baseText "0x" 16 i).cps.size≤sizeLine
  rw [← Array.length_toList]
  exact Nat.le_trans (ble_true.mp q) sizeLine_1
theorem divmod_ok {a b:Int} {t u:Tok} {r:PV} (c:Cn cx s.heap H) (e:divV a b=some r) (h:RetF cx s H false r Q):wpAny (model cx.prog cx.w) A (call (.builtin "divmod") [.int a t,.int b u]) Q E s:=by
 obtain ⟨q,rfl⟩:=og_i e
 obtain ⟨q1,q2⟩:=Bool.or_eq_false_iff.mp ((Bool.not_eq_true' _).mp q)
 refine PyProof.Rows.divmod_int (intBeq_false.mp q1) ?_ (.inl q2)
 exact RetF.newTup (vs:=[.int _ _,.int _ _]) c.hid h (.cons (.int _ _) (.cons (.int _ _) .nil))
theorem len_big {vs:List Value} {ps:List PV} (x:RepAll cx s.heap H vs ps) (q:lenOk ps=true):vs.toArray.size≤sizeLine∧vs.toArray.size=ps.length∧(vs.toArray.size:Int)<2 ^ 63:=by
 have e:vs.toArray.size=ps.length:=by rw [List.size_toArray,x.length]
 refine ⟨e ▸ Nat.le_trans (lenOk_le q) sizeLine_1,e,?_⟩
 rw [e]
 exact Int.lt_of_le_of_lt (Int.ofNat_le.mpr (lenOk_le q)) (by decide)
theorem len_ok {v:Value} {p r:PV} (x:Rep cx s.heap H v p) (e:lenV p=some r) (h:RetF cx s H false r Q):wpAny (model cx.prog cx.w) A (call (.builtin "len") [v]) Q E s:=by
 cases p with
 | list ps =>
  obtain ⟨a,vs,rfl,_,l,x⟩:=x.list'
  obtain ⟨q,rfl⟩:=og_i e
  obtain ⟨_,e1,b⟩:=len_big x q
  refine PyProof.Rows.len_list l.isList b ?_
  rw [e1]
  exact h.int
 | tup ps =>
  obtain ⟨a,vs,rfl,_,l,x⟩:=x.tup'
  obtain ⟨q,rfl⟩:=og_i e
  obtain ⟨_,e1,b⟩:=len_big x q
  refine PyProof.Rows.len_tuple l.isTup b ?_
  rw [e1]
  exact h.int
 | str y =>
  obtain ⟨t,rfl⟩:=x.str'
  obtain ⟨q,rfl⟩:=og_i e
  refine PySem.P.len_str (by rw [S_length];exact Int.not_le.mpr (Int.lt_of_le_of_lt (Int.ofNat_le.mpr (lenOk_le q)) (by decide))) ?_
  rw [S_length]
  exact h.int
 | _=>exact (Option.some_ne_none _ e.symm).elim
theorem ord_ok {x:List Nat} {t:Tok} {r:PV} (e:ordV x=some r) (h:RetF cx s H false r Q):wpAny (model cx.prog cx.w) A (call (.builtin "ord") [.str (S x) t]) Q E s:=by
 match x,e with
 | [c],e =>
  obtain rfl:=Option.some.inj e
  exact PySem.P.ord_of_char h.int
theorem tuple_ok {a:Addr} {vs:List Value} {ps:List PV} (c:Cn cx s.heap H) (l:IsLs s.heap a vs) (x:RepAll cx s.heap H vs ps) (q:lenOk ps=true) (h:RetF cx s H false (.tup ps) Q):wpAny (model cx.prog cx.w) A (call (.type "tuple") [.ref a]) Q E s:=by
 refine call_tuple_list l.isList (fun h' hk=>?_) (len_big x q).1
 have e2:Ext cx cx.T s.heap h':=.of_keep hk
 exact RetF.newTup (s:={ s with heap:=h',toks:=s.toks }) (tk:=s.toks) (c.ext e2).hid (h.after e2) (x.ext e2 c.tH)
theorem bi_ok {b:BI} {f:Str} {v:Value} {vs:List Value} {ps:List PV} {r:PV} (hb:biNm b=some (f,v)) (hh:A.handled=none) (c:Cn cx s.heap H) (x:RepAll cx s.heap H vs ps) (e:biV b ps=some r) (h:RetF cx s H false r Q) :
  wpAny (model cx.prog cx.w) A (call v vs) Q E s:=by
 cases b with
 | len =>
  obtain ⟨p,h1,e⟩:=ob_i e
  obtain ⟨w,rfl,x1⟩:=x.one h1
  obtain rfl:=(Prod.mk.inj (Option.some.inj hb)).2
  exact len_ok x1 e h
 | ord =>
  obtain ⟨p,h1,e⟩:=ob_i e
  obtain ⟨w,rfl,x1⟩:=x.one h1
  obtain ⟨y,h2,e⟩:=ob_i e
  obtain ⟨t,rfl⟩:=x1.toStr h2
  obtain rfl:=(Prod.mk.inj (Option.some.inj hb)).2
  exact ord_ok e h
 | chr =>
  obtain ⟨p,h1,e⟩:=ob_i e
  obtain ⟨w,rfl,x1⟩:=x.one h1
  obtain ⟨y,h2,e⟩:=ob_i e
  obtain ⟨t,rfl⟩:=x1.toInt h2
  obtain rfl:=(Prod.mk.inj (Option.some.inj hb)).2
  exact chr_ok e h
 | sum =>
  obtain ⟨p,h1,e⟩:=ob_i e
  obtain ⟨w,rfl,x1⟩:=x.one h1
  obtain ⟨y,h2,e⟩:=ob_i e
  obtain ⟨a,ws,rfl,_,l,x2⟩:=x1.toList h2
  obtain ⟨y',h3,e3⟩:=ob_i e
  obtain ⟨_,rfl⟩:=og_i h3
  obtain ⟨i,h4,e4⟩:=ob_i e3
  obtain rfl:=Option.some.inj e4
  obtain rfl:=(Prod.mk.inj (Option.some.inj hb)).2
  exact sum_ok hh l x2 h4 h
 | max =>
  obtain ⟨p,h1,e⟩:=ob_i e
  obtain ⟨w,w',rfl,x1,y1⟩:=x.two h1
  obtain ⟨i,h2,e⟩:=ob_i e
  obtain ⟨j,h3,e⟩:=ob_i e
  obtain ⟨t,rfl⟩:=x1.toInt h2
  obtain ⟨u,rfl⟩:=y1.toInt h3
  obtain rfl:=Option.some.inj e
  obtain rfl:=(Prod.mk.inj (Option.some.inj hb)).2
  exact max_ok hh h
 | hex =>
  obtain ⟨p,h1,e⟩:=ob_i e
  obtain ⟨w,rfl,x1⟩:=x.one h1
  obtain ⟨y,h2,e⟩:=ob_i e
  obtain ⟨t,rfl⟩:=x1.toInt h2
  obtain ⟨q,rfl⟩:=og_i e
  obtain rfl:=(Prod.mk.inj (Option.some.inj hb)).2
  exact hex_ok q h
 | divmod =>
  obtain ⟨p,h1,e⟩:=ob_i e
  obtain ⟨w,w',rfl,x1,y1⟩:=x.two h1
  obtain ⟨i,h2,e⟩:=ob_i e
  obtain ⟨j,h3,e⟩:=ob_i e
  obtain ⟨t,rfl⟩:=x1.toInt h2
  obtain ⟨u,rfl⟩:=y1.toInt h3
  obtain rfl:=(Prod.mk.inj (Option.some.inj hb)).2
  exact divmod_ok c e h
 | tuple =>
  obtain ⟨p,h1,e⟩:=ob_i e
  obtain ⟨w,rfl,x1⟩:=x.one h1
  obtain ⟨y,h2,e⟩:=ob_i e
  obtain ⟨a,ws,rfl,_,l,x2⟩:=x1.toList h2
  obtain ⟨q,rfl⟩:=og_i e
  obtain rfl:=(Prod.mk.inj (Option.some.inj hb)).2
  exact tuple_ok c l x2 q h
 | dictOf =>
  obtain ⟨p,h1,e⟩:=ob_i e
  obtain ⟨w,rfl,x1⟩:=x.one h1
  obtain ⟨y,h2,e⟩:=ob_i e
  obtain ⟨a,ws,rfl,_,l,x2⟩:=x1.toList h2
  obtain rfl:=(Prod.mk.inj (Option.some.inj hb)).2
  exact dof_ok hh c l x2 e h
 | _=>exact (Option.some_ne_none _ hb.symm).elim
theorem strs_rep {h:Heap}:∀ {vs:List Value} {ps:List PV} {xs:List (List Nat)},RepAll cx h H vs ps→strs? ps=some xs→StrsAre vs (xs.map S)
 | _,[],_,x,e=>by obtain rfl:=x.nil';obtain rfl:=Option.some.inj e;exact .nil
 | _,p :: ps,_,x,e=>by
  obtain ⟨v,ws,rfl,x,y⟩:=x.cons'
  obtain ⟨z,h1,e⟩:=ob_i e
  obtain ⟨l,h2,e⟩:=ob_i e
  obtain ⟨t,rfl⟩:=x.toStr h1
  obtain rfl:=Option.some.inj e
  exact .cons (S z) t (strs_rep y h2)
theorem join_flat (glue:List Nat):∀ (l:List (List Nat)) (acc:Array Nat),(List.foldl (fun acc (p:Str)=>acc++(S glue).cps++p.cps) acc (l.map S)).toList=acc.toList++(l.map fun x=>glue++x).flatten
 | [],acc=>by simp
 | x :: l,acc=>by
  rw [List.map_cons,List.foldl_cons,join_flat glue l,List.map_cons,List.flatten_cons]
  simp
theorem joinV_flat (glue:List Nat):∀ (x:List Nat) (l:List (List Nat)),joinV glue (x :: l)=x++(l.map fun x=>glue++x).flatten
 | x,[]=>by simp [joinV]
 | x,y :: l=>by
  rw [joinV,joinV_flat glue y l]
  ·simp
  ·intro h;cases h
theorem join_eq (sep:List Nat) (xs:List (List Nat)):Txt.join (S sep) (xs.map S)=S (joinV sep xs):=by
 have:∀ a b:Str,a.cps.toList=b.cps.toList→a=b:=fun a b h=>by
  cases a;cases b
  simp only [Str.mk.injEq]
  exact Array.toList_inj.mp h
 apply this
 unfold Txt.join Builtin.Str.glued
 cases xs with
 | nil=>rfl
 | cons x l =>
  simp only [List.map_cons,List.headD_cons,List.drop_succ_cons,List.drop_zero]
  rw [join_flat sep l,joinV_flat]
theorem sumLen_eq:∀ xs:List (List Nat),((xs.map S).map (·.length)).sum=sumLen xs
 | []=>rfl
 | x :: r=>by rw [List.map_cons,List.map_cons,List.sum_cons,sumLen_eq r,S_length];rfl
noncomputable def mkId:MK→String
 | .join=>"str.join" | .bitLength=>"int.bit_length" | .upper=>"str.upper" | .lower=>"str.lower" | .count=>"str.count"
theorem upper_ok {x:List Nat} {t:Tok} (q:Nat.ble (Txt.upper (S x)).length 1000000=true) (h:RetF cx s H false (.str (Txt.upper (S x)).cps.toList) Q):wpAny (model cx.prog cx.w) A (call (.builtin "str.upper") [.str (S x) t]) Q E s:=by
 refine SC.upper ?_ ?_
 ·unfold Builtin.Str.tooLong
  exact decide_eq_false (Nat.not_lt.mpr (Nat.le_trans (ble_true.mp q) sizeLine_1))
 ·have:=h.str (x:=(Txt.upper (S x)).cps.toList) (t:=s.toks) (tk:=s.toks+1)
  rwa [S_of] at this
theorem lower_ok {x:List Nat} {t:Tok} (q:Nat.ble (Txt.lower (S x)).length 1000000=true) (h:RetF cx s H false (.str (Txt.lower (S x)).cps.toList) Q):wpAny (model cx.prog cx.w) A (call (.builtin "str.lower") [.str (S x) t]) Q E s:=by
 refine SC.lower ?_ ?_
 ·unfold Builtin.Str.tooLong
  exact decide_eq_false (Nat.not_lt.mpr (Nat.le_trans (ble_true.mp q) sizeLine_1))
 ·have:=h.str (x:=(Txt.lower (S x)).cps.toList) (t:=s.toks) (tk:=s.toks+1)
  rwa [S_of] at this
theorem join_ok {x:List Nat} {xs:List (List Nat)} {t:Tok} {a:Addr} {vs:List Value} {ps:List PV} (l:IsLs s.heap a vs) (y:RepAll cx s.heap H vs ps) (hx:strs? ps=some xs) (q:Nat.ble (sumLen xs+xs.length*x.length) 1000000=true) (h:RetF cx s H false (.str (joinV x xs)) Q) :
  wpAny (model cx.prog cx.w) A (call (.builtin "str.join") [.str (S x) t,.ref a]) Q E s:=by
 refine join_list l.isList (ys:=xs.map S) (by simpa using strs_rep y hx) ?_ (fun t' k=>?_)
 ·rw [sumLen_eq,S_length,List.length_map];exact Nat.le_trans (ble_true.mp q) sizeLine_1
 ·rw [join_eq];exact h.str
end
end Mine
end
section
set_option maxRecDepth 100000
open PySem PySem.Calls PyProof.Rows PySem.W
set_option genSizeOf false
set_option genInjectivity false
namespace Mine
theorem AttrsAre.get {H:Hid} {cx:Cx} {h:Heap} {x:Str} (ok:okN x=true) {r:PV}:∀ {ks:List Nat} {ps:List PV} {m:Str→Option Value} {vs:List Value},AttrsAre m ks vs→RepAll cx h H vs ps→attrV (enc x) ks ps=some r→∃ v,m x=some v∧Rep cx h H v r
 | [],_,_,_,_,_,e=>nos e
 | _ :: _,[],_,_,_,_,e=>nos e
 | _ :: ks,p :: ps,m,_,hat,a,e=>by
  obtain ⟨y,v,ws,m',rfl,rfl,ok',r',hm⟩:=hat
  obtain ⟨_,_,h1,a1,a2⟩:=a
  obtain ⟨rfl,rfl⟩:=List.cons.inj h1
  have e:(match Nat.beq (enc x) (enc y) with|true=>some p|false=>attrV (enc x) ks ps)=some r:=e
  rw [hm]
  cases q:Nat.beq (enc x) (enc y) with
  | true =>
   rw [q] at e
   exact ⟨v,if_pos (enc_inj ok ok' (Nat.eq_of_beq_eq_true q)),Option.some.inj e ▸ a1⟩
  | false =>
   rw [q] at e
   rw [if_neg fun z=>Nat.ne_of_beq_eq_false q (congrArg enc z)]
   exact r'.get ok a2 e
theorem AttrsAre.miss {x:Str}:∀ {ks:List Nat} {m:Str→Option Value} {vs:List Value},AttrsAre m ks vs→PEnv.has ks (enc x)=false→m x=none
 | [],_,_,hat,_=>hat.2 x
 | _ :: ks,m,_,hat,e=>by
  obtain ⟨y,v,ws,m',rfl,rfl,ok',r',hm⟩:=hat
  obtain ⟨e1,e2⟩:=Bool.or_eq_false_iff.mp (show (Nat.beq (enc x) (enc y) || PEnv.has ks (enc x))=false from e)
  rw [hm,if_neg fun z=>Nat.ne_of_beq_eq_false e1 (congrArg enc z)]
  exact r'.miss e2
theorem IsIn.inst {h:Heap} {a C d:Addr} {m:Str→Option Value} (x:IsIn h a C d) (n:d ≠ a) (y:h.Ns1 d m):h.Inst a C m:=by
 obtain ⟨o,h1,h2,h3,h4⟩:=x
 exact ⟨o,h1,h2,h3,.inr ⟨d,h4,n,y⟩⟩
theorem handed_rep {cx:Cx} {h:Heap} {H:Hid} {v:Value} {p:PV} (x:Rep cx h H v p):handedOut v=pure v:=by
 cases p with
 | none=>obtain rfl:=x.none';rfl
 | bool b=>obtain rfl:=x.bool';rfl
 | int i=>obtain ⟨_,rfl⟩:=x.int';rfl
 | str i=>obtain ⟨_,rfl⟩:=x.str';rfl
 | _=>obtain ⟨_,e⟩:=x.isRef;rw [e];rfl
section
variable {cx:Cx} {G:Gl} {n:Nat} {ns:Ns} {A:Around} {env:Env} {ρ:PEnv} {H:Hid} {s:Shared} {E:Value→Shared→Prop} {Q:Value→Shared→Prop}
theorem attr_ok (g:GOk cx G) {v:Value} {x:Str} {ks:List Nat} {ps:List PV} {r:PV} (ok:okN x=true) (ha:x∈atNames) (c:Cn cx s.heap H) (hr:Rep cx s.heap H v (.inst ks ps)) (e:attrV (enc x) ks ps=some r) (h:RetF cx s H false r Q) :
  wpAny (model cx.prog cx.w) A (getAttr v x true) Q E s:=by
 obtain ⟨_,_,_,_,rfl,n1,n2,hi,ne,hns,hat,hall⟩:=hr.inst'
 obtain ⟨N,mN,hcls,h1,h2,h3,_⟩:=g.cls
 obtain ⟨v',e1,e2⟩:=hat.get ok hall e
 have X:=hcls _ c.gi
 obtain ⟨nm,q,bs,sn,sub,col,dd,k0,k1,k2,k3,k5,hC⟩:=X.obj
 have hQ:Q v' ⟨s.heap,s.gens,s.drawn,s.toks+1,s.os⟩:=h.plain (tk:=s.toks+1) .refl e2
 have:=load_attr (prog:=cx.prog) (w:=cx.w) (A:=A) (E:=E) (g:=s.gens) (d:=s.drawn) (t:=s.toks) (os:=s.os) (expr:=true) hC X.ns h1 (h3 x ha).1 (h3 x ha).2 (hi.inst ne hns) e1 (handed_rep e2) hQ
 exact this
theorem glob_rep {v:Value} {p:PV} (c:Cn cx s.heap H) (x:Rep cx s.heap (fun a=>¬ cx.GA a∨cx.B a) v p):Rep cx s.heap H v p:=x.open' fun a hH=>by
 by_cases q:cx.GA a
 ·exact .inr (c.hg a hH q)
 ·exact .inl q
theorem args_of (S:SndN cx G n) {es:List Expr} {l:List PE} {ps:List PV} {pos:Pos} {v:Value} {id:String} {first:List Value} (I:InE cx (n+60) A env ns ρ H s) (hv:v=.builtin id) (hc:CEs ns es l) (he:evL (sem G n) ρ l=some ps)
  (hcall:∀ vs h' tk',Ext cx cx.T s.heap h'→RepAll cx h' H vs ps→wpAny (model cx.prog cx.w) A (call v (first++vs)) Q E { s with heap:=h',toks:=tk' }) :
  wpAny (model cx.prog cx.w) A (callWith pos v first (backTo pos (starEach es env)) []) Q E s:=by
 subst hv
 cases es with
 | nil =>
  obtain rfl:=hc.nil'
  exact callWith_builtin rfl (PyProof.Rows.evalArgs_none (hcall [] s.heap s.toks .refl (Option.some.inj he ▸ .nil)))
 | cons x es =>
  have hs:=evL_ok S hc I he (E:=E) (pos:=pos) (Q:=fun vs s'=>wpAny (model cx.prog cx.w) A (call (.builtin id) (first++vs)) Q E s') hcall
  obtain ⟨a,m,rfl,hx,hr⟩:=hc.cons'
  rw [hx.facts.star] at hs ⊢
  exact callWith_builtin (by show (false || (backTo pos (starEach _ env)).any (·.1))=false;rw [hr.plain];rfl) (evalArgs_plain hs)
theorem args_fun (S:SndN cx G n) {es:List Expr} {l:List PE} {ps:List PV} {pos:Pos} {f:Addr} {o:Obj} {fd:FuncData} {first:List Value} (I:InE cx (n+60) A env ns ρ H s) (ho:∀ h,cx.GI h→h.get? f=some o) (hd:o.data=.func fd) (hc:CEs ns es l) (he:evL (sem G n) ρ l=some ps)
  (hcall:∀ vs h' tk',Ext cx cx.T s.heap h'→RepAll cx h' H vs ps→wpAny (model cx.prog cx.w) A (call (.ref f) (first++vs)) Q E { s with heap:=h',toks:=tk' }) :
  wpAny (model cx.prog cx.w) A (callWith pos (.ref f) first (backTo pos (starEach es env)) []) Q E s:=by
 cases es with
 | nil =>
  obtain rfl:=hc.nil'
  exact callWith_function (o:=o) (fd:=fd) (PyProof.Rows.evalArgs_none ⟨⟨ho _ I.cn.gi,hd⟩,hcall [] s.heap s.toks .refl (Option.some.inj he ▸ .nil)⟩)
 | cons x es =>
  have hs:=evL_ok S hc I he (E:=E) (pos:=pos) (Q:=fun vs s'=>(s'.heap.get? f=some o∧o.data=.func fd)∧wpAny (model cx.prog cx.w) A (call (.ref f) (first++vs)) Q E s')
   (fun vs h' tk' e r=>⟨⟨ho _ (e.gi I.cn.gi),hd⟩,hcall vs h' tk' e r⟩)
  obtain ⟨a,m,rfl,hx,hr⟩:=hc.cons'
  rw [hx.facts.star] at hs ⊢
  exact callWith_function (evalArgs_plain hs)
theorem meth_ok {m:MK} {v:Value} {vs:List Value} {p:PV} {ps:List PV} {r:PV} (c:Cn cx s.heap H) (x:Rep cx s.heap H v p) (y:RepAll cx s.heap H vs ps) (e:methV m p ps=some r) (h:RetF cx s H false r Q) :
  wpAny (model cx.prog cx.w) A (call (.builtin (mkId m)) (v :: vs)) Q E s:=by
 cases m with
 | join =>
  obtain ⟨sep,h1,e1⟩:=ob_i e
  obtain ⟨t,rfl⟩:=x.toStr h1
  obtain ⟨q,h2,e2⟩:=ob_i e1
  obtain ⟨w,rfl,y1⟩:=y.one h2
  obtain ⟨zs,h3,e3⟩:=ob_i e2
  obtain ⟨a,ws,rfl,_,l,y2⟩:=y1.toList h3
  obtain ⟨xs,h4,e4⟩:=ob_i e3
  obtain ⟨h5,rfl⟩:=og_i e4
  exact join_ok l y2 h4 h5 h
 | bitLength =>
  obtain ⟨i,h1,e1⟩:=ob_i e
  obtain ⟨t,rfl⟩:=x.toInt h1
  obtain ⟨h5,rfl⟩:=og_i e1
  obtain rfl:=List.isEmpty_iff.mp h5
  obtain rfl:=y.nil'
  exact PyProof.Rows.call_int_bit_length h.int
 | upper =>
  obtain ⟨z,h1,e1⟩:=ob_i e
  obtain ⟨t,rfl⟩:=x.toStr h1
  obtain ⟨h5,rfl⟩:=og_i e1
  obtain ⟨q1,q2⟩:=(Bool.and_eq_true _ _).mp h5
  obtain rfl:=List.isEmpty_iff.mp q1
  obtain rfl:=y.nil'
  exact upper_ok q2 h
 | lower =>
  obtain ⟨z,h1,e1⟩:=ob_i e
  obtain ⟨t,rfl⟩:=x.toStr h1
  obtain ⟨h5,rfl⟩:=og_i e1
  obtain ⟨q1,q2⟩:=(Bool.and_eq_true _ _).mp h5
  obtain rfl:=List.isEmpty_iff.mp q1
  obtain rfl:=y.nil'
  exact lower_ok q2 h
 | count =>
  obtain ⟨z,h1,e1⟩:=ob_i e
  obtain ⟨t,rfl⟩:=x.toStr h1
  obtain ⟨q,h2,e2⟩:=ob_i e1
  obtain ⟨w,rfl,y1⟩:=y.one h2
  obtain ⟨zs,h3,e3⟩:=ob_i e2
  obtain ⟨u,rfl⟩:=y1.toStr h3
  obtain rfl:=Option.some.inj e3
  exact SC.count h.int
end
end Mine
end
section
set_option maxRecDepth 100000
open PySem PySem.Calls PyProof.Rows PySem.W
set_option genSizeOf false
set_option genInjectivity false
namespace Mine
section
variable {cx:Cx} {G:Gl} {n:Nat} {ns:Ns} {A:Around} {env:Env} {ρ:PEnv} {H:Hid} {s:Shared} {E:Value→Shared→Prop} {Q:Value→Shared→Prop}
theorem call_method {M:Model} {o:Expr} {name:Str} {apos pos:Pos} {args:List Expr} (hbase:attributeBase o name env (eval o env)=eval o env)
  (hfew:methodCallForm (args.length+([]:List Keyword).length) (backTo pos (starEach args env)) (backToKw pos (keywordEach [] env))=true) (hline:(apos.endLine == pos.line)=true)
  (h:wpAny M A (eval o env) (fun ov s₁=>∀ pl,wpAny M A (getMethod ov name pl) (fun r s₂=>wpAny M A (callWith pos r.1 r.2 (backTo pos (starEach args env)) []) Q E s₂) E s₁) E s) :
  wpAny M A (eval (.Call (.Attribute o name apos) args [] pos) env) Q E s:=by
 rw [arm_eval_Call,hbase]
 refine wpAny_bind (wpAny_mono h (fun ov s₁ h₁=>?_) fun _ _ e=>e)
 refine wpAny_bind (wpAny_standAt ?_)
 have hpos:methodCallPos true o env apos pos=pure pos:=by unfold methodCallPos;simp [hline]
 unfold methodCall
 rw [hfew]
 refine wpAny_bind (wpAny_holding ?_)
 unfold calleeOf
 rw [if_pos rfl]
 refine wpAny_mono (h₁ _) (fun r s₂ h₂=>?_) fun _ _ e=>e
 obtain ⟨f,first⟩:=r
 exact wpAny_bind (wpAny_of_eq hpos h₂)
theorem few_of {es:List Expr} {l:List PE} (hc:CEs ns es l) (hl:es.length<10) {pos:Pos}:methodCallForm (es.length+([]:List Keyword).length) (backTo pos (starEach es env)) (backToKw pos (keywordEach [] env))=true:=by
 have h1:(backTo pos (starEach es env)).all (fun x=>!x.1)=true:=by
  have:=hc.plain (env:=env) (pos:=pos)
  rw [List.any_eq_not_all_not,Bool.not_eq_false'] at this
  exact this
 unfold methodCallForm
 rw [h1]
 exact decide_eq_true (Nat.lt_trans hl (by decide))
theorem boot_list:bootBuiltins "list"=some (.type "list"):=by decide +kernel
theorem boot_range:bootBuiltins "range"=some (.type "range"):=by decide +kernel
theorem boot_reversed:bootBuiltins "reversed"=some (.type "reversed"):=by decide +kernel
noncomputable def callB (v:Value):Bool:=match v with
 | .builtin _=>true
 | .type _=>true
 | _=>false
theorem callB_ok {cx:Cx} {v:Value} (h:callB v=true):Callee cx v:=by
 cases v <;> first|exact (Bool.false_ne_true h).elim|exact callee_builtin|exact callee_type
noncomputable def bootB (t:Str × Value):Bool:=biNames.contains t.1 && (decide (t.1 ≠ "__name__") && (decide (bootBuiltins t.1=some t.2) && callB t.2))
theorem boots:(bis.all fun b=>(biNm b).any bootB)=true:=by decide +kernel
theorem bi_facts (g:GOk cx G) {b:BI} {f:Str} {v:Value} (hb:b∈bis) (h:biNm b=some (f,v)):cx.mg f=none∧f ≠ "__name__"∧bootBuiltins f=some v∧Callee cx v:=by
 have q:=List.all_eq_true.mp boots b hb
 rw [h] at q
 obtain ⟨q1,q⟩:=Bool.and_eq_true_iff.mp (show bootB (f,v)=true from q)
 obtain ⟨q2,q⟩:=Bool.and_eq_true_iff.mp q
 obtain ⟨q3,q4⟩:=Bool.and_eq_true_iff.mp q
 exact ⟨g.bi _ (List.contains_iff_mem.mp q1),of_decide_eq_true q2,of_decide_eq_true q3,callB_ok q4⟩
set_option maxHeartbeats 4000000 in
theorem meth_find {m:MK} {v:Value} {p:PV} {ps:List PV} {r:PV} {pl:Sem Bool} {Q:Value × List Value→Shared→Prop} (x:Rep cx s.heap H v p) (e:methV m p ps=some r) (h:Q (.builtin (mkId m),[v]) s) :
  wpAny (model cx.prog cx.w) A (getMethod v (mkNm m) pl) Q E s:=by
 cases m with
 | join =>
  obtain ⟨z,h1,_⟩:=ob_i e
  obtain ⟨t,rfl⟩:=x.toStr h1
  exact GM.join h
 | upper =>
  obtain ⟨z,h1,_⟩:=ob_i e
  obtain ⟨t,rfl⟩:=x.toStr h1
  exact GM.upper h
 | lower =>
  obtain ⟨z,h1,_⟩:=ob_i e
  obtain ⟨t,rfl⟩:=x.toStr h1
  exact GM.lower h
 | bitLength =>
  obtain ⟨z,h1,_⟩:=ob_i e
  obtain ⟨t,rfl⟩:=x.toInt h1
  have h2:Q (.builtin "int.bit_length",[_]) s:=h
  show wpAny _ _ (getMethod _ ("bit_length":Str) _) _ _ _
  exact getMethod_builtin (typeIs_int _ _ _) F.plainAttrs_int F.slot_int_bit_length F.type_int_bit_length (fun _ e=>nomatch e) h2
 | count =>
  obtain ⟨z,h1,_⟩:=ob_i e
  obtain ⟨t,rfl⟩:=x.toStr h1
  have h2:Q (.builtin "str.count",[_]) s:=h
  show wpAny _ _ (getMethod _ ("count":Str) _) _ _ _
  exact getMethod_builtin (typeIs_str _ _ _) F.plainAttrs_str F.slot_str_count F.type_str_count (fun _ e=>nomatch e) h2
theorem bin_ok {k:BinK} {v u:Value} {x y r:PV} {fr:Bool} (c:Cn cx s.heap H) (a:Rep cx s.heap H v x) (b:Rep cx s.heap H u y) (e:binV k x y=some r) (h:RetF cx s H fr r Q) :
  wpAny (model cx.prog cx.w) A (binaryOp (opOf k) v u) Q E s:=by
 cases x with
 | int i =>
  obtain ⟨j,h1,e1⟩:=ob_i e
  obtain ⟨t,rfl⟩:=a.int'
  obtain ⟨u,rfl⟩:=b.toInt h1
  exact (bin_int e1 h).1
 | str i =>
  obtain ⟨t,rfl⟩:=a.str'
  cases k with
  | add =>
   obtain ⟨j,h1,e1⟩:=ob_i e
   obtain ⟨u,rfl⟩:=b.toStr h1
   exact bin_str e1 h
  | mul =>
   obtain ⟨j,h1,e1⟩:=ob_i e
   obtain ⟨u,rfl⟩:=b.toInt h1
   exact bin_strmul e1 h
  | _=>exact (Option.some_ne_none _ e.symm).elim
 | list i =>
  cases k with
  | add =>
   obtain ⟨j,h1,e1⟩:=ob_i e
   exact bin_list c.hid a (list_i h1 ▸ b) e1 h
  | mul =>
   obtain ⟨j,h1,e1⟩:=ob_i e
   obtain ⟨u,rfl⟩:=b.toInt h1
   exact bin_listmul c.hid a e1 h
  | _=>exact (Option.some_ne_none _ e.symm).elim
 | _=>exact (Option.some_ne_none _ e.symm).elim
end
end Mine
end
section
set_option maxRecDepth 100000
open PySem PySem.Calls PyProof.Rows PySem.W
set_option genSizeOf false
set_option genInjectivity false
namespace Mine
structure Rest (cx:Cx) (G:Gl) (n:Nat):Prop where
 comp:∀ {ns:Ns} {e:Expr} {pe:PE} {A:Around} {env:Env} {ρ:PEnv} {H:Hid} {s:Shared} {v:PV} {Q:Value→Shared→Prop} {E:Value→Shared→Prop},
  cpB e=true→CE ns e pe→InE cx (n+60) A env ns ρ H s→evStep G (sem G n) ρ pe=some v→RetF cx s H (freshE pe v) v Q→wpAny (model cx.prog cx.w) A (eval e env) Q E s
 lrange:∀ {A:Around} {E:Value→Shared→Prop} {s:Shared} {H:Hid} {Q:Value→Shared→Prop} {vs:List Value} {ps:List PV} {r:PV},A.handled=none→Cn cx s.heap H→RepAll cx s.heap H vs ps→biV .listRange ps=some r→RetF cx s H false r Q →
  wpAny (model cx.prog cx.w) A (call (.type "range") vs) (fun v s₁=>cx.GI s₁.heap∧wpAny (model cx.prog cx.w) A (call (.type "list") [v]) Q E s₁) E s
section
variable {r:Rc} {G:Gl} {ρ:PEnv} {m:Nat} {ns:Ns} {pe:PE} {p:PV} {P:Prop}
theorem i_name {x:Str} {q:Pos} (hc:trE1 (tr m) ns (.Name x q)=some pe) (he:evStep G r ρ pe=some p) (g:okN x=true→NoDbg x→Glb ns x→G.gv (enc x)=some p→freshE pe p=false→P) (K:∀ b,okN x=true→NoDbg x→PEnv.get ρ (enc x)=some (b,p)→freshE pe p=false→P):P:=by
 obtain ⟨h,k1⟩:=ogo_i hc
 obtain ⟨ok,hd⟩:=okD_i h
 rcases oe_i k1 with ⟨hg,k2⟩|k2
 ·obtain rfl:=Option.some.inj k2
  exact g ok hd (glbB_i hg) he rfl
 ·obtain rfl:=Option.some.inj k2
  refine ob_e he fun b hv k=>K b.1 ok hd ?_ rfl
  rw [hv,← Option.some.inj k]
theorem i_bin {l y:Expr} {o:Operator} {q:Pos} (hc:trE1 (tr m) ns (.BinOp l o y q)=some pe) (he:evStep G r ρ pe=some p) (K:∀ k a b x z,opOf k=o→CE ns l a→CE ns y b→r.ev ρ a=some x→r.ev ρ b=some z→binV k x z=some p→P):P:=by
 refine ob_e hc fun k hk k1=>ob_e k1 fun a h1 k2=>ob_e k2 fun b h2 k3=>?_
 obtain rfl:=Option.some.inj k3
 exact ob_e he fun x hx k1=>ob_e k1 fun z hz k2=>K k a b x z (binOf_i hk) ⟨m,h1⟩ ⟨m,h2⟩ hx hz k2
theorem i_un {y:Expr} {o:UnaryOp} {q:Pos} (hc:trE1 (tr m) ns (.UnaryOp o y q)=some pe) (he:evStep G r ρ pe=some p) (K:∀ a x,CE ns y a→r.ev ρ a=some x→(∃ i,int? x=some i∧((o=.USub∧p=.int (-i))∨(o=.Invert∧p=.int (-i - 1))))∨(∃ b,o=.Not∧truthV x=some b∧p=.bool (!b))→freshE pe p=false→P):P:=by
 refine ob_e hc fun a h1 k1=>?_
 induction o using UnaryOp.casesOn with
 | USub =>
  obtain rfl:=Option.some.inj k1
  exact ob_e he fun x hx k1=>ob_e k1 fun i hi k2=>K a x ⟨m,h1⟩ hx (.inl ⟨i,hi,.inl ⟨rfl,(Option.some.inj k2).symm⟩⟩) rfl
 | Invert =>
  obtain rfl:=Option.some.inj k1
  exact ob_e he fun x hx k1=>ob_e k1 fun i hi k2=>K a x ⟨m,h1⟩ hx (.inl ⟨i,hi,.inr ⟨rfl,(Option.some.inj k2).symm⟩⟩) rfl
 | Not =>
  obtain rfl:=Option.some.inj k1
  exact ob_e he fun x hx k1=>ob_e k1 fun b hb k2=>K a x ⟨m,h1⟩ hx (.inr ⟨b,rfl,hb,(Option.some.inj k2).symm⟩) rfl
 | UAdd=>exact nos k1
theorem i_cmp {l:Expr} {os:List CmpOp} {ys:List Expr} {q:Pos} (hc:trE1 (tr m) ns (.Compare l os ys q)=some pe) (he:evStep G r ρ pe=some p)
  (g:∀ (a:PE) (x:Str × Pos) (z:PV),os=[.In]→ys=[.Name x.1 x.2]→okN x.1=true→NoDbg x.1→Glb ns x.1→CE ns l a→r.ev ρ a=some z→G.gm (enc x.1) 0 [z]=some p→freshE pe p=false→P)
  (K:∀ k y a b x z c,os=[copOf k]→ys=[y]→CE ns l a→CE ns y b→r.ev ρ a=some x→r.ev ρ b=some z→cmpV k x z=some c→p=.bool c→freshE pe p=false→P):P:=by
 refine ob_e hc fun o ho k1=>ob_e k1 fun y hy k2=>ob_e k2 fun a h1 k3=>?_
 rcases om_i k3 with ⟨x,hx,k4⟩|k4
 ·obtain rfl:=Option.some.inj k4
  obtain ⟨h4,h3,h5,h6,h7⟩:=gin_i hx
  refine ob_e he fun vs hvs k1=>ob_e hvs fun v hv k7=>?_
  obtain rfl:=Option.some.inj k7
  exact g a x v (by rw [l1_i ho,h4]) (by rw [l1_i hy,h3]) h5 h6 h7 ⟨m,h1⟩ hv k1 rfl
 ·refine ob_e k4 fun k hk k5=>ob_e k5 fun b h2 k6=>?_
  obtain rfl:=Option.some.inj k6
  exact ob_e he fun x hx k1=>ob_e k1 fun z hz k2=>ob_e k2 fun c hc k3=>K k y a b x z c (by rw [l1_i ho,copK_i hk]) (l1_i hy) ⟨m,h1⟩ ⟨m,h2⟩ hx hz hc (Option.some.inj k3).symm rfl
theorem i_and {o:BoolOp} {es:List Expr} {q:Pos} (hc:trE1 (tr m) ns (.BoolOp o es q)=some pe) (he:evStep G r ρ pe=some p) (K:∀ l,o=.And→CEs ns es l→andGo r ρ l=some p→freshE pe p=false→P):P:=by
 obtain ⟨ho,k1⟩:=ogo_i hc
 refine ob_e k1 fun l hl k2=>?_
 obtain rfl:=Option.some.inj k2
 exact K l (of_decide_eq_true ho) ⟨m,hl⟩ he rfl
theorem i_ite {c x y:Expr} {q:Pos} (hc:trE1 (tr m) ns (.IfExp c x y q)=some pe) (he:evStep G r ρ pe=some p) (K:∀ pc a b,CT ns c pc→CE ns x a→CE ns y b→oif (r.ts ρ pc) (r.ev ρ a) (r.ev ρ b)=some p→freshE pe p=false→P):P:=by
 refine ob_e hc fun pc h1 k1=>ob_e k1 fun a h2 k2=>ob_e k2 fun b h3 k3=>?_
 obtain rfl:=Option.some.inj k3
 exact K pc a b ⟨m,h1⟩ ⟨m,h2⟩ ⟨m,h3⟩ he rfl
theorem i_list {es:List Expr} {q:Pos} (hc:trE1 (tr m) ns (.List es q)=some pe) (he:evStep G r ρ pe=some p) (K:∀ l vs,es.length≤1000→CEs ns es l→evL r ρ l=some vs→p=.list vs→P):P:=by
 obtain ⟨hlen,k1⟩:=ogo_i hc
 refine ob_e k1 fun l hl k2=>?_
 obtain rfl:=Option.some.inj k2
 exact ob_e he fun vs hvs k=>K l vs (ble_true.mp hlen) ⟨m,hl⟩ hvs (Option.some.inj k).symm
theorem i_tup {es:List Expr} {k:Nat} {q:Pos} (hc:trE1 (tr m) ns (.Tuple es k q)=some pe) (he:evStep G r ρ pe=some p) (K:∀ l vs,es.length≤1000→CEs ns es l→evL r ρ l=some vs→p=.tup vs→P):P:=by
 obtain ⟨hlen,k1⟩:=ogo_i hc
 refine ob_e k1 fun l hl k2=>?_
 obtain rfl:=Option.some.inj k2
 exact ob_e he fun vs hvs k=>K l vs (ble_true.mp hlen) ⟨m,hl⟩ hvs (Option.some.inj k).symm
theorem i_sub {v i:Expr} {q:Pos} (hc:trE1 (tr m) ns (.Subscript v i q)=some pe) (he:evStep G r ρ pe=some p)
  (g:∀ lo hi st sq a b c d x y z w,i=.Slice lo hi st sq→CE ns v a→trO ((tr m).E ns) lo=some b→trO ((tr m).E ns) hi=some c→trO ((tr m).E ns) st=some d→r.ev ρ a=some x→r.ev ρ b=some y→r.ev ρ c=some z→r.ev ρ d=some w→sliceV x y z w=some p→freshE pe p=false→P)
  (K:∀ a b x z,CE ns v a→CE ns i b→r.ev ρ a=some x→r.ev ρ b=some z→idxV x z=some p→freshE pe p=false→P):P:=by
 refine ob_e hc fun a h1 k1=>?_
 rcases om_i k1 with ⟨t,ht,k2⟩|k2
 ·refine ob_e k2 fun b h2 k3=>ob_e k3 fun c h3 k4=>ob_e k4 fun d h4 k5=>?_
  obtain rfl:=Option.some.inj k5
  exact ob_e he fun x hx k1=>ob_e k1 fun y hy k2=>ob_e k2 fun z hz k3=>ob_e k3 fun w hw k4=>g _ _ _ _ a b c d x y z w (sl_i ht) ⟨m,h1⟩ h2 h3 h4 hx hy hz hw k4 rfl
 ·refine ob_e k2 fun b h2 k3=>?_
  obtain rfl:=Option.some.inj k3
  exact ob_e he fun x hx k1=>ob_e k1 fun z hz k2=>K a b x z ⟨m,h1⟩ ⟨m,h2⟩ hx hz k2 rfl
theorem i_attr {o:Expr} {nm:Str} {q:Pos} (hc:trE1 (tr m) ns (.Attribute o nm q)=some pe) (he:evStep G r ρ pe=some p)
  (g:∀ x:Str × Pos,o=.Name x.1 x.2→okN x.1=true→NoDbg x.1→Glb ns x.1→okN nm=true→G.ga (enc x.1) (enc nm)=some p→freshE pe p=false→P)
  (K:∀ (x:Str × Pos) (a:PE) (y:PV) (i:List Nat × List PV),o=.Name x.1 x.2→okN nm=true→nm∈atNames→CE ns o a→r.ev ρ a=some y→inst? y=some i→attrV (enc nm) i.1 i.2=some p→freshE pe p=false→P):P:=by
 refine ob_e hc fun x hx k1=>?_
 obtain ⟨ok',k2⟩:=ogo_i k1
 rcases oe_i k2 with ⟨hg,k3⟩|k3
 ·obtain ⟨h4,k4⟩:=ogo_i k3
  obtain rfl:=Option.some.inj k4
  exact g x (nm_i hx) (okD_i h4).1 (okD_i h4).2 (glbB_i hg) ok' he rfl
 ·obtain ⟨hat,k4⟩:=ogo_i k3
  refine ob_e k4 fun a h1 k5=>?_
  obtain rfl:=Option.some.inj k5
  exact ob_e he fun y hy k1=>ob_e k1 fun i hi k2=>K x a y i (nm_i hx) ok' (of_decide_eq_true hat) ⟨m,h1⟩ hy hi k2 rfl
theorem i_named {x:Str} {es:List Expr} (hc:trNamed ((tr m).E ns) ns x es=some pe) (he:evStep G r ρ pe=some p)
  (b:∀ b u e rest l vs,es=e :: rest→b∈bis→biNm b=some (x,u)→CEs ns (e :: rest) l→evL r ρ l=some vs→biV b vs=some p→freshE pe p=false→P)
  (c:∀ (y:Str × Pos) (kq:Pos) (e:Expr) (rest:List Expr) (l:List PE) (vs:List PV),es=[.Call (.Name y.1 y.2) (e :: rest) [] kq]→x = "list"→y.1 = "range"→Glb ns y.1→CEs ns (e :: rest) l→evL r ρ l=some vs→biV .listRange vs=some p→freshE pe p=false→P)
  (K:∀ e rest l vs,es=e :: rest→okN x=true→CEs ns (e :: rest) l→evL r ρ l=some vs→r.fn (enc x) vs=some p→freshE pe p=false→P):P:=by
 rcases om_i hc with ⟨d,hb,k1⟩|k1
 ·refine ob_e k1 fun l hl k2=>?_
  obtain rfl:=Option.some.inj k2
  obtain ⟨e,rest,h0,hcs⟩:=trL1_i hl
  obtain ⟨hb,u,hu⟩:=biOf_i hb
  exact ob_e he fun vs hvs k1=>b d u e rest l vs h0 hb hu hcs hvs k1 rfl
 ·rcases oe_i k1 with ⟨h9,k2⟩|k2
  ·refine ob_e k2 fun e1 he1 k3=>ob_e k3 fun t ht k4=>?_
   obtain ⟨h8,k5⟩:=ogo_i k4
   refine ob_e k5 fun l hl k7=>?_
   obtain ⟨h1,h2⟩:=inn_i ht
   obtain ⟨e2,rest,h3,hcs⟩:=trL1_i hl
   obtain rfl:=Option.some.inj k7
   exact ob_e he fun vs hvs k1=>c t.1 _ e2 rest l vs (by rw [l1_i he1,h1,h3]) (eq_of_beq h9) (eq_of_beq h8) h2 hcs hvs k1 rfl
  ·obtain ⟨ok,k3⟩:=ogo_i k2
   refine ob_e k3 fun l hl k4=>?_
   obtain rfl:=Option.some.inj k4
   obtain ⟨e,rest,h0,hcs⟩:=trL1_i hl
   exact ob_e he fun vs hvs k1=>K e rest l vs h0 ok hcs hvs k1 rfl
theorem few3 {es:List Expr} (h:Nat.ble es.length 3=true):es.length<10:=Nat.lt_of_le_of_lt (ble_true.mp h) (by decide)
theorem i_meth {o:Expr} {nm:Str} {es:List Expr} (hc:trMeth ((tr m).E ns) ns o nm es=some pe) (he:evStep G r ρ pe=some p)
  (g:∀ (x:Str × Pos) (l:List PE) (vs:List PV),o=.Name x.1 x.2→Glb ns x.1→okN x.1=true→NoDbg x.1→nm ≠ ""→es.length<10→CEs ns es l→evL r ρ l=some vs→G.gm (enc x.1) (enc nm) vs=some p→freshE pe p=false→P)
  (d:∀ k a l x vs,mkNm k=nm→cl? o=none→es.length<10→CE ns o a→CEs ns es l→r.ev ρ a=some x→evL r ρ l=some vs→methV k x vs=some p→freshE pe p=false→P)
  (K:∀ (y:Str × Pos) (a:PE) (l:List PE) (x:PV) (i:List Nat × List PV) (vs:List PV),o=.Name y.1 y.2→es.length<10→CE ns o a→CEs ns es l→r.ev ρ a=some x→inst? x=some i→PEnv.has i.1 (enc nm)=false→evL r ρ l=some vs→r.me (enc nm) (.inst i.1 i.2 :: vs)=some p→freshE pe p=false→P):P:=by
 rcases om_i hc with ⟨x,hx,k1⟩|k1
 ·refine ob_e hx fun y hy k2=>?_
  obtain ⟨hg,k3⟩:=ogo_i k2
  obtain rfl:=Option.some.inj k3
  obtain ⟨h5,k4⟩:=ogo_i k1
  obtain ⟨h6,h7⟩:=band h5
  obtain ⟨h8,h9⟩:=band h6
  refine ob_e k4 fun l hl k5=>?_
  obtain rfl:=Option.some.inj k5
  exact ob_e he fun vs hvs k1=>g y l vs (nm_i hy) (glbB_i hg) (okD_i h8).1 (okD_i h8).2 (beq_eq_false_iff_ne.mp ((Bool.not_eq_true' _).mp h9)) (few3 h7) ⟨m,(ogo_i hl).2⟩ hvs k1 rfl
 ·rcases om_i k1 with ⟨k,hk,k2⟩|k2
  ·obtain ⟨h3,k3⟩:=ogo_i k2
   refine ob_e k3 fun a h1 k4=>ob_e k4 fun l h2 k5=>?_
   obtain rfl:=Option.some.inj k5
   exact ob_e he fun x hx k1=>ob_e k1 fun vs hvs k2=>d k a l x vs (mkOf_i hk) (Option.isNone_iff_eq_none.mp (band h3).1) (few3 (band h3).2) ⟨m,h1⟩ ⟨m,h2⟩ hx hvs k2 rfl
  ·refine ob_e k2 fun y hy k3=>?_
   obtain ⟨hlen,k4⟩:=ogo_i k3
   refine ob_e k4 fun a h1 k4=>ob_e k4 fun l h2 k5=>?_
   obtain rfl:=Option.some.inj k5
   exact ob_e he fun x hx k1=>ob_e k1 fun i hi k2=>ob_e k2 fun u hh k3=>ob_e k3 fun vs hvs k4=>K y a l x i vs (nm_i hy) (few3 hlen) ⟨m,h1⟩ ⟨m,h2⟩ hx hi (ogn_i hh).1 hvs k4 rfl
theorem i_call {f:Expr} {es:List Expr} {ks:List Keyword} {q:Pos} (hc:trE1 (tr m) ns (.Call f es ks q)=some pe)
  (K:∀ x:Str × Pos,f=.Name x.1 x.2→ks=[]→Glb ns x.1→NoDbg x.1→trNamed ((tr m).E ns) ns x.1 es=some pe→P) (M:∀ a:Expr × Str × Pos,f=.Attribute a.1 a.2.1 a.2.2→ks=[]→(a.2.2.endLine == q.line)=true→okN a.2.1=true→trMeth ((tr m).E ns) ns a.1 a.2.1 es=some pe→P):P:=by
 obtain ⟨h0,k1⟩:=ogo_i hc
 have h0:=List.isEmpty_iff.mp h0
 rcases om_i k1 with ⟨x,hx,k2⟩|k2
 ·obtain ⟨h1,k3⟩:=ogo_i k2
  obtain ⟨_,hd,hg⟩:=glbD_i h1
  exact K x (nm_i hx) h0 hg hd k3
 ·refine ob_e k2 fun a ha k3=>?_
  obtain ⟨h1,k4⟩:=ogo_i k3
  exact M a (at_i ha) h0 (band h1).1 (band h1).2 k4
end
section
variable {cx:Cx} {G:Gl} {n:Nat} {ns:Ns} {A:Around} {env:Env} {ρ:PEnv} {H:Hid} {s:Shared} {E:Value→Shared→Prop} {Q:Value→Shared→Prop}
theorem InE.down {m:Nat} (I:InE cx (m+1+60) A env ns ρ H s):InE cx (m+60) A env ns ρ H s:=I.le (by omega)
theorem InE.units {m:Nat} (I:InE cx (m+60) A env ns ρ H s):A.units+8<cLine:=by have:=I.room.2.2;omega
theorem call_two {x y:Str} {v u:Value} {np mp pos q:Pos} {e:Expr} {es:List Expr} {l:List PE} {ps:List PV} (S:SndN cx G n) (I:InE cx (n+60) A env ns ρ H s) (hv:Callee cx v) (hu:Callee cx u) (hc:CEs ns (e :: es) l) (he:evL (sem G n) ρ l=some ps)
  (ldx:∀ {Q:Value→Shared→Prop} {s:Shared},cx.GI s.heap→Q v s→wpAny (model cx.prog cx.w) A (eval (.Name x np) env) Q E s)
  (ldy:∀ {Q:Value→Shared→Prop} {s:Shared},cx.GI s.heap→Q u s→wpAny (model cx.prog cx.w) A (eval (.Name y mp) env) Q E s)
  (hcall:∀ vs h' tk',Ext cx cx.T s.heap h'→RepAll cx h' H vs ps→wpAny (model cx.prog cx.w) A (call u vs) (fun w s₁=>cx.GI s₁.heap∧wpAny (model cx.prog cx.w) A (call v [w]) Q E s₁) E { s with heap:=h',toks:=tk' }) :
  wpAny (model cx.prog cx.w) A (eval (.Call (.Name x np) [.Call (.Name y mp) (e :: es) [] q] [] pos) env) Q E s:=by
 refine Call_ (ldx I.cn.gi (hv I.cn.gi (args_cons ?_) rfl rfl))
 refine wpAny_mono (call_named S I hu hc he (Q:=fun w s₁=>cx.GI s₁.heap∧wpAny (model cx.prog cx.w) A (call v [w]) Q E s₁) (fun hq=>ldy I.cn.gi hq) hcall) (fun w s₁ h₁=>?_) fun _ _ x=>x
 exact args_nil h₁
theorem and_ok (S:SndN cx G n) {pos:Pos}:∀ {es:List Expr} {l:List PE} {s:Shared} {v:PV},CEs ns es l→InE cx (n+60) A env ns ρ H s→RetF cx s H false v Q→andGo (sem G n) ρ l=some v→wpAny (model cx.prog cx.w) A (boolOp pos .And (evalEach es env)) Q E s
 | [],_,s,v,hc,I,h,e=>by
  obtain rfl:=hc.nil'
  exact nos e
 | [x],_,s,v,hc,I,h,e=>by
  obtain ⟨a,m,rfl,hx,hr⟩:=hc.cons'
  obtain rfl:=hr.nil'
  exact S.ev hx I e fun v' h' tk' e' r' _=>h.plain e' r'
 | x :: y :: es,_,s,v,hc,I,h,e=>by
  obtain ⟨a,m,rfl,hx,hr⟩:=hc.cons'
  obtain ⟨b,m2,rfl,_⟩:=hr.cons'
  obtain ⟨w,hw,k1⟩:=ob_i (show ob ((sem G n).ev ρ a) (fun v=>oif (truthV v) (andGo (sem G n) ρ (b :: m2)) (some v))=some v from e)
  show wpAny _ _ (eval x env >>= fun v=>standAt pos >>= fun _=>holding [v] (truthy v) >>= fun t=>match BoolOp.And,t with | .And,false | .Or,true=>pure v|_,_=>boolOp pos .And (evalEach (y :: es) env)) _ _ _
  refine wpAny_bind (S.ev hx I hw fun v' h₁ t₁ e₁ r₁ _=>wpAny_bind (wpAny_standAt (wpAny_bind (wpAny_holding ?_))))
  rcases oif_i k1 with ⟨ht,k2⟩|⟨ht,k2⟩
  ·exact truth_ok (s:={ s with heap:=h₁,toks:=t₁ }) r₁ ht fun tk=>and_ok S (pos:=pos) hr (I.ext (tk':=tk) e₁) (h.after e₁) k2
  ·exact truth_ok (s:={ s with heap:=h₁,toks:=t₁ }) r₁ ht fun tk=>wpAny_pure (h.plain e₁ (Option.some.inj k2 ▸ r₁))
theorem opt_ok (S:SndN cx G n) {m:Nat} {o:Option Expr} {a:PE} {p:PV} (hc:trO ((tr m).E ns) o=some a) (I:InE cx (n+60) A env ns ρ H s) (e:(sem G n).ev ρ a=some p)
  (h:∀ v h' tk',Ext cx cx.T s.heap h'→Rep cx h' H v p→Q v { s with heap:=h',toks:=tk' }):wpAny (model cx.prog cx.w) A (evalPart o env) Q E s:=by
 induction o using Option.casesOn with
 | none =>
  obtain rfl:=Option.some.inj hc
  induction n using Nat.casesOn with
  | zero=>exact nos e
  | succ n =>
   obtain rfl:=Option.some.inj e
   exact wpAny_pure (h .none s.heap s.toks .refl .none)
 | some x=>exact S.ev ⟨m,hc⟩ I e fun v h' tk' e r _=>h v h' tk' e r
theorem ops_ok (lo hi st:Option Expr) (sq:Pos) (v i:Value):∃ ops,subscripted (.Slice lo hi st sq) false v i=operate ops (getItem v i):=by
 cases st with
 | none=>exact ⟨_,rfl⟩
 | some _=>exact ⟨_,rfl⟩
theorem ld_b2 (g:GOk cx G) {x:Str} {v:Value} {np:Pos} {s₀:Shared} (I:InE cx (n+60) A env ns ρ H s₀) (hx:ns.lookup x=some .globalImplicit) (hd:(x == ("__debug__":Str))=false) (hn:cx.mg x=none) (hne:x ≠ "__name__") (hv:bootBuiltins x=some v) {Q:Value→Shared→Prop} {s:Shared} (gi:cx.GI s.heap) (hq:Q v s) :
  wpAny (model cx.prog cx.w) A (eval (.Name x np) env) Q E s :=
 Name_function_global I.kind (I.glb _ hx) (loadGlobal_builtin (mg:=cx.mg) (mb:=cx.mb) (by rw [I.glob];exact cx.ns_g _ gi) hn (by rw [I.blt];exact cx.ns_b _ gi) ((cx.boot _ hne).trans hv) hq) hd
theorem len_line {k:Nat} (h:k≤1000):k≤sizeLine:=Nat.le_trans h (Nat.le_trans (by decide) sizeLine_big)
theorem RetF.no {fr:Bool} {p:PV} (h:RetF cx s H fr p Q) (e:fr=false):RetF cx s H false p Q:=e ▸ h
theorem named_step (g:GOk cx G) (S:SndN cx G n) (R:Rest cx G n) {m:Nat} {x:Str} {np p:Pos} {es:List Expr} {pe:PE} {v:PV} (hg:Glb ns x) (hd:NoDbg x) (hc:trNamed ((tr m).E ns) ns x es=some pe) (I:InE cx (n+60) A env ns ρ H s) (he:evStep G (sem G n) ρ pe=some v) (h:RetF cx s H (freshE pe v) v Q) :
  wpAny (model cx.prog cx.w) A (eval (.Call (.Name x np) es [] p) env) Q E s:=by
 refine i_named hc he (fun b u e rest l vs h0 hb hu hcs hvs k fr=>?_) (fun y kq e rest l vs h0 h1 h2 h3 hcs hvs k fr=>?_) fun e rest l vs h0 ok hcs hvs k fr=>?_
 ·obtain ⟨f1,f2,f3,f4⟩:=bi_facts g hb hu
  rw [h0]
  exact call_named S I f4 hcs hvs (fun hq=>ld_bi I hg hd f1 f2 f3 hq) fun vs' h' tk' e' r'=>bi_ok (s:={ s with heap:=h',toks:=tk' }) hu I.room.1 (I.cn.ext e') r' k (RetF.after (h.no fr) e')
 ·rw [h0]
  rw [h1] at hg ⊢
  rw [h2] at h3 ⊢
  exact call_two S I callee_type callee_type hcs hvs (fun gi hq=>ld_b2 g I hg rfl (g.bi _ (by decide)) (by decide) boot_list gi hq) (fun gi hq=>ld_b2 g I h3 rfl (g.bi _ (by decide)) (by decide) boot_range gi hq)
   fun vs' h' tk' e' r'=>R.lrange (s:={ s with heap:=h',toks:=tk' }) I.room.1 (I.cn.ext e') r' k (RetF.after (h.no fr) e')
 ·obtain ⟨v,hv,hcal⟩:=g.fn _ _ _ _ ok k
  rw [h0]
  exact call_named S I hcal hcs hvs (fun hq=>ld_glob I hg hd hv hq) fun vs' h' tk' e' r'=>S.fn _ v _ _ ok hv k I.room (I.cn.ext e') r' (RetF.after (h.no fr) e')
theorem meth_step (g:GOk cx G) (S:SndN cx G n) {m:Nat} {o:Expr} {nm:Str} {ap p:Pos} {es:List Expr} {pe:PE} {v:PV} (hl:(ap.endLine == p.line)=true) (ok:okN nm=true) (hc:trMeth ((tr m).E ns) ns o nm es=some pe) (I:InE cx (n+60) A env ns ρ H s) (he:evStep G (sem G n) ρ pe=some v) (h:RetF cx s H (freshE pe v) v Q) :
  wpAny (model cx.prog cx.w) A (eval (.Call (.Attribute o nm ap) es [] p) env) Q E s:=by
 refine i_meth hc he (fun x l vs h0 hg ok' hd ne hlen h1 hvs k fr=>?_) (fun k a l x vs h0 hb hlen h1 h2 hx hvs k fr=>?_) fun y a l x i vs h0 hlen h1 h2 hx hi hh hvs k fr=>?_
 ·obtain ⟨v,T,id,hv,pa,sl,ty,ht,hcall⟩:=g.gm _ _ _ _ ok' ok ne k
  rw [h0]
  exact call_method rfl (few_of h1 hlen) hl (ld_glob I hg hd hv fun pl=>getMethod_builtin (ht _ I.cn.gi).1 pa sl ty (ht _ I.cn.gi).2
   (args_of S I rfl h1 hvs fun vs' h₂ t₂ e₂ r₂=>hcall (s:={ s with heap:=h₂,toks:=t₂ }) (I.room.le (Nat.le_add_left _ _)) (I.cn.ext e₂) r₂ (RetF.after (h.no fr) e₂)))
 ·rw [← h0]
  exact call_method (h1.facts.base hb _ _) (few_of h2 hlen) hl (S.ev h1 I hx fun v h₁ t₁ e₁ r₁ _ pl=>meth_find (s:={ s with heap:=h₁,toks:=t₁ }) r₁ k
   (args_of S (I.ext e₁) rfl h2 hvs fun vs' h₂ t₂ e₂ r₂=>meth_ok (s:={ s with heap:=h₂,toks:=t₂ }) (I.cn.ext (e₁.trans e₂)) (r₁.ext e₂ I.cn.tH) r₂ k (RetF.after (h.no fr) (e₁.trans e₂))))
 ·obtain ⟨f,o',fd,ho,hd,hcall,hget⟩:=S.me _ _ _ ok k
  rw [h0] at h1 ⊢
  exact call_method rfl (few_of h2 hlen) hl (S.ev h1 I hx fun v h₁ t₁ e₁ r₁ _ pl=>hget (e₁.gi I.cn.gi) (r₁.toInst hi) hh
   (args_fun S (I.ext e₁) ho hd h2 hvs fun vs' h₂ t₂ e₂ r₂=>hcall (s:={ s with heap:=h₂,toks:=t₂ }) I.room (I.cn.ext (e₁.trans e₂)) (.cons ((r₁.toInst hi).ext e₂ I.cn.tH) r₂) (RetF.after (h.no fr) (e₁.trans e₂))))
theorem const_step {m k:Nat} {c:Const} {q:Pos} {pe:PE} {p:PV} (hc:trC c=some pe) (he:evStep G (sem G m) ρ pe=some p) (h:RetF cx s H (freshE pe p) p Q):wpAny (model cx.prog cx.w) A (eval (.Constant c k q) env) Q E s:=by
 induction c using Const.casesOn with
 | int =>
  obtain rfl:=Option.some.inj hc
  obtain rfl:=Option.some.inj he
  exact wpAny_Constant_int h.int
 | str x =>
  obtain rfl:=Option.some.inj hc
  obtain rfl:=Option.some.inj he
  have:=h.str (t:=s.toks) (tk:=s.toks+1)
  rw [S_of] at this
  exact wpAny_Constant_str this
 | bool =>
  obtain rfl:=Option.some.inj hc
  obtain rfl:=Option.some.inj he
  exact wpAny_Constant_bool (h.bool (tk:=s.toks))
 | none =>
  obtain rfl:=Option.some.inj hc
  obtain rfl:=Option.some.inj he
  exact wpAny_Constant_none (h .none s.heap s.toks .refl .none fun _ _ e=>PV.noConfusion e)
 | _=>exact nos hc
theorem ev_step (g:GOk cx G) (S:SndN cx G n) (R:Rest cx G n) {e:Expr} {pe:PE} {p:PV} (hc:CE ns e pe) (I:InE cx (n+60) A env ns ρ H s) (he:evStep G (sem G n) ρ pe=some p) (h:RetF cx s H (freshE pe p) p Q) :
  wpAny (model cx.prog cx.w) A (eval e env) Q E s:=by
 obtain ⟨m,hc⟩:=hc.step
 induction e using Expr.casesOn with
 | Constant c=>exact const_step hc he h
 | Name x q=>exact i_name hc he (fun ok hd hg hv fr=>(g.gv _ _ ok hv).elim fun v hr=>ld_glob I hg hd hr.1 ((h.no fr).plain .refl (glob_rep I.cn (hr.2 _ I.cn.gi)))) fun b ok hd hv fr=>ld_var I ok hd hv fun v' r=>(h.no fr).plain .refl r
 | BinOp l o r q =>
  exact i_bin hc he fun k a b x z ho h1 h2 hx hz k2=>wpAny_BinOp (S.ev h1 I hx fun v h₁ t₁ e₁ r₁ _=>S.ev h2 (I.ext e₁) hz fun u h₂ t₂ e₂ r₂ _ =>
   ho ▸ bin_ok (s:={ s with heap:=h₂,toks:=t₂ }) (I.cn.ext (e₁.trans e₂)) (r₁.ext e₂ I.cn.tH) r₂ k2 (h.after (e₁.trans e₂)))
 | UnaryOp o y q =>
  refine i_un hc he fun a x h1 hx k fr=>wpAny_UnaryOp (S.ev h1 I hx fun v h₁ t₁ e₁ r₁ _=>?_)
  have h:=(h.no fr).after (tk':=t₁) e₁
  rcases k with ⟨i,hi,⟨rfl,rfl⟩|⟨rfl,rfl⟩⟩|⟨b,rfl,hb,rfl⟩
  ·obtain ⟨t,rfl⟩:=r₁.toInt hi
   exact PySem.P.neg_int h.int
  ·obtain ⟨t,rfl⟩:=r₁.toInt hi
   exact PyProof.Rows.invert_int h.int
  ·exact not_value (truth_ok (s:={ s with heap:=h₁,toks:=t₁ }) r₁ hb fun tk=>RetF.bool (tk:=tk) h)
 | Compare l os ys q =>
  refine i_cmp hc he (fun a x z h1 h2 h5 h6 h7 ha hz k fr=>?_) fun k y a b x z c h1 h2 ha hb hx hz k rp fr=>?_
  ·obtain ⟨u,b,hu,rfl,hin⟩:=g.gin _ _ _ h5 k
   rw [h1,h2]
   exact wpAny_Compare1 (S.ev ha I hz fun v h₁ t₁ e₁ r₁ _=>ld_glob (I.ext (tk':=t₁) e₁) h7 h6 hu (hin (s:={ s with heap:=h₁,toks:=t₁ }) (e₁.gi I.cn.gi) r₁ fun _=>(h.no fr).plain e₁ (.bool b))) rfl
  ·rw [h1,h2]
   obtain rfl:=rp
   exact wpAny_Compare1 (S.ev ha I hx fun v h₁ t₁ e₁ r₁ _=>S.ev hb (I.ext e₁) hz fun u h₂ t₂ e₂ r₂ _ =>
    cmp_ok (s:={ s with heap:=h₂,toks:=t₂ }) I.cn.bH I.units (r₁.ext e₂ I.cn.tH) r₂ k fun tk=>RetF.bool (tk:=tk) ((h.no fr).after (tk':=t₂) (e₁.trans e₂))) (hb.facts.mark _)
 | BoolOp o es q=>exact i_and hc he fun l ho hl k fr=>ho ▸ and_ok S hl I (h.no fr) k
 | IfExp c x y q =>
  refine i_ite hc he fun pc a b h1 h2 h3 k fr=>wpAny_IfExp ?_
  rcases oif_i k with ⟨hb,k1⟩|⟨hb,k1⟩
  ·exact S.ts h1 I hb fun h' tk' e'=>S.ev h2 (I.ext e') k1 fun v h₂ t₂ e₂ r₂ _=>RetF.plain (h.no fr) (e'.trans e₂) r₂
  ·exact S.ts h1 I hb fun h' tk' e'=>S.ev h3 (I.ext e') k1 fun v h₂ t₂ e₂ r₂ _=>RetF.plain (h.no fr) (e'.trans e₂) r₂
 | List es q =>
  refine i_list hc he fun l vs hlen h1 hvs rp=>?_
  obtain rfl:=rp
  exact wpAny_List (evL_ok S h1 I hvs fun vs' h₁ t₁ e₁ r₁=>⟨by rw [r₁.length,evL_length hvs,← h1.length];exact len_line hlen,
   RetF.newList (s:={ s with heap:=h₁,toks:=t₁ }) (tk:=t₁) (I.cn.ext e₁).hid (h.after e₁) r₁⟩)
 | Tuple es k q =>
  refine i_tup hc he fun l vs hlen h1 hvs rp=>?_
  obtain rfl:=rp
  exact wpAny_Tuple (evL_ok S h1 I hvs fun vs' h₁ t₁ e₁ r₁=>⟨by rw [r₁.length,evL_length hvs,← h1.length];exact len_line hlen,
   RetF.newTup (s:={ s with heap:=h₁,toks:=t₁ }) (tk:=t₁) (I.cn.ext e₁).hid (h.after e₁) r₁⟩)
 | Subscript v i q =>
  refine i_sub hc he (fun lo hi st sq a b c d x y z w hs h1 h2 h3 h4 hx hy hz hw k fr=>?_) fun a b x z h1 h2 hx hz k fr=>?_
  ·rw [hs]
   refine Subscript_ (S.ev h1 I hx fun v h₁ t₁ e₁ r₁ _=>wpAny_Slice (opt_ok S h2 (I.ext e₁) hy fun va h₂ t₂ e₂ r₂=>opt_ok S h3 (I.ext (e₁.trans e₂)) hz fun vb h₃ t₃ e₃ r₃ =>
    opt_ok S h4 (I.ext ((e₁.trans e₂).trans e₃)) hw fun vc h₄ t₄ e₄ r₄=>?_))
   obtain ⟨ops,hs⟩:=ops_ok lo hi st sq v (.ref h₄.objs.size)
   exact slice_ok (s:={ s with heap:=h₄,toks:=t₄ }) (fr:=false) (I.cn.ext (((e₁.trans e₂).trans e₃).trans e₄)).hid (r₁.ext ((e₂.trans e₃).trans e₄) I.cn.tH) (r₂.ext (e₃.trans e₄) I.cn.tH) (r₃.ext e₄ I.cn.tH) r₄ k hs (RetF.after (h.no fr) (((e₁.trans e₂).trans e₃).trans e₄))
  ·exact Subscript_ (S.ev h1 I hx fun v h₁ t₁ e₁ r₁ _=>S.ev h2 (I.ext e₁) hz fun u h₂ t₂ e₂ r₂ _ =>
    idx_ok (s:={ s with heap:=h₂,toks:=t₂ }) (r₁.ext e₂ I.cn.tH) r₂ k h2.facts.sub fun v' tk r'=>RetF.plain (h.no fr) (e₁.trans e₂) r')
 | Call f es ks q =>
  refine i_call hc (fun x h0 h1 hg hd k=>?_) fun a h0 h1 hl ok k=>?_
  ·rw [h0,h1]
   exact named_step g S R hg hd k I he h
  ·rw [h0,h1]
   exact meth_step g S hl ok k I he h
 | Attribute o nm q =>
  rw [arm_eval_Attribute]
  refine i_attr hc he (fun x h0 ok hd hg ok' k fr=>?_) fun x a y i h0 ok' hat h1 hy hi k fr=>?_
  ·obtain ⟨v,hv,hr⟩:=g.ga _ _ _ ok ok' k
   rw [h0]
   exact wpAny_bind (show wpAny _ _ (eval _ env) _ _ _ from ld_glob I hg hd hv (wpAny_bind (wpAny_standAt (wpAny_bind (wpAny_holding
    (hr I.cn.gi fun w tk r=>wpAny_bind (wpAny_pure (wpAny_pure (RetF.plain (h.no fr) .refl (glob_rep I.cn r))))))))))
  ·rw [h0] at h1 ⊢
   exact wpAny_bind (show wpAny _ _ (eval _ env) _ _ _ from S.ev h1 I hy fun v h₁ t₁ e₁ r₁ _=>wpAny_bind (wpAny_standAt (wpAny_bind (wpAny_holding
    (attr_ok g ok' hat (I.cn.ext e₁) (r₁.toInst hi) k fun v' h₂ t₂ e₂ r₂ _=>wpAny_bind (wpAny_pure (wpAny_pure (RetF.plain (h.no fr) (e₁.trans e₂) r₂))))))))
 | ListComp elt gs sc q=>exact R.comp rfl ⟨m+1,hc⟩ I he h
 | DictComp k v gs sc q=>exact R.comp rfl ⟨m+1,hc⟩ I he h
 | _=>exact nos hc
end
end Mine
end
section
set_option maxRecDepth 100000
open PySem PySem.Calls PyProof.Rows PySem.W
set_option genSizeOf false
set_option genInjectivity false
namespace Mine
section
variable {cx:Cx} {G:Gl} {n:Nat} {ns:Ns} {A:Around} {env:Env} {ρ:PEnv} {H:Hid} {s:Shared} {E:Value→Shared→Prop} {Q:Bool→Shared→Prop}
theorem allT_ok (S:SndN cx G n):∀ {es:List Expr} {l:List PE} {s:Shared} {b:Bool},CTs ns es l→InE cx (n+60) A env ns ρ H s→(∀ h' tk',Ext cx cx.T s.heap h'→Q b { s with heap:=h',toks:=tk' }) →
  allT (sem G n) ρ l=some b→wpAny (model cx.prog cx.w) A (allTrue .And es env) Q E s
 | [],_,s,b,hc,I,h,e=>by
  obtain rfl:=hc.nil'
  exact wpAny_allTrue_And_nil (Option.some.inj e ▸ h s.heap s.toks .refl)
 | x :: es,_,s,b,hc,I,h,e=>by
  obtain ⟨a,m,rfl,hx,hr⟩:=hc.cons'
  refine wpAny_allTrue_And_cons ?_
  rcases oif_i e with ⟨ht,k⟩|⟨ht,k⟩
  ·exact S.ts hx I ht fun h₁ t₁ e₁=>allT_ok S hr (I.ext e₁) (fun h₂ t₂ e₂=>h h₂ t₂ (e₁.trans e₂)) k
  ·obtain rfl:=Option.some.inj k
   exact S.ts hx I ht fun h₁ t₁ e₁=>h h₁ t₁ e₁
theorem anyT_ok (S:SndN cx G n):∀ {es:List Expr} {l:List PE} {s:Shared} {b:Bool},CTs ns es l→InE cx (n+60) A env ns ρ H s→(∀ h' tk',Ext cx cx.T s.heap h'→Q b { s with heap:=h',toks:=tk' }) →
  anyT (sem G n) ρ l=some b→wpAny (model cx.prog cx.w) A (allTrue .Or es env) Q E s
 | [],_,s,b,hc,I,h,e=>by
  obtain rfl:=hc.nil'
  exact wpAny_allTrue_Or_nil (Option.some.inj e ▸ h s.heap s.toks .refl)
 | x :: es,_,s,b,hc,I,h,e=>by
  obtain ⟨a,m,rfl,hx,hr⟩:=hc.cons'
  refine wpAny_allTrue_Or_cons ?_
  rcases oif_i e with ⟨ht,k⟩|⟨ht,k⟩
  ·obtain rfl:=Option.some.inj k
   exact S.ts hx I ht fun h₁ t₁ e₁=>h h₁ t₁ e₁
  ·exact S.ts hx I ht fun h₁ t₁ e₁=>anyT_ok S hr (I.ext e₁) (fun h₂ t₂ e₂=>h h₂ t₂ (e₁.trans e₂)) k
theorem val_ok (S:SndN cx G n) {m:Nat} {e:Expr} {pe:PE} {b:Bool} (hc:ob ((tr m).E ns e) (fun a=>some (.tv a))=some pe) (I:InE cx (n+60) A env ns ρ H s) (he:tsStep (sem G n) ρ pe=some b)
  (hi:isTrue e env (eval e env)=(do let v ← eval e env;standAt e.pos;holding [v] (truthy v))) (h:∀ h' tk',Ext cx cx.T s.heap h'→Q b { s with heap:=h',toks:=tk' }):wpAny (model cx.prog cx.w) A (isTrue e env (eval e env)) Q E s:=by
 refine ob_e hc fun a ha k=>?_
 obtain rfl:=Option.some.inj k
 exact ob_e he fun v hv k=>wpAny_isTrue_value (S.ev ⟨m,ha⟩ I hv fun v' h₁ t₁ e₁ r₁ _=>truth_ok (s:={ s with heap:=h₁,toks:=t₁ }) r₁ k fun tk=>h h₁ tk e₁) hi
theorem j_cmp {r:Rc} {m:Nat} {l:Expr} {os:List CmpOp} {ys:List Expr} {q:Pos} {pe:PE} {b:Bool} {P:Prop} (hc:trT1 (tr m) ns (.Compare l os ys q)=some pe) (he:tsStep r ρ pe=some b)
  (K:∀ k y a d x z,os=[copOf k]→ys=[y]→CE ns l a→CE ns y d→r.ev ρ a=some x→r.ev ρ d=some z→cmpV k x z=some b→P):P:=by
 refine ob_e hc fun o ho k1=>ob_e k1 fun y hy k2=>ob_e k2 fun a h1 k3=>ob_e k3 fun k hk k5=>ob_e k5 fun d h2 k6=>?_
 obtain rfl:=Option.some.inj k6
 exact ob_e he fun x hx k1=>ob_e k1 fun z hz k2=>K k y a d x z (by rw [l1_i ho,copK_i hk]) (l1_i hy) ⟨m,h1⟩ ⟨m,h2⟩ hx hz k2
theorem ts_step (S:SndN cx G n) {e:Expr} {pe:PE} {b:Bool} (hc:CT ns e pe) (I:InE cx (n+60) A env ns ρ H s) (he:tsStep (sem G n) ρ pe=some b) (h:∀ h' tk',Ext cx cx.T s.heap h'→Q b { s with heap:=h',toks:=tk' }) :
  wpAny (model cx.prog cx.w) A (isTrue e env (eval e env)) Q E s:=by
 obtain ⟨m,hc⟩:=hc.step
 induction e using Expr.casesOn with
 | UnaryOp o x q =>
  obtain ⟨ho,k1⟩:=ogo_i hc
  obtain rfl:=of_decide_eq_true ho
  refine ob_e k1 fun a ha k=>?_
  obtain rfl:=Option.some.inj k
  refine ob_e he fun c hb k=>?_
  obtain rfl:=Option.some.inj k
  exact wpAny_isTrue_Not (S.ts ⟨m,ha⟩ I hb h)
 | BoolOp o es q =>
  refine ob_e hc fun a ha k=>?_
  induction o using BoolOp.casesOn with
  | And =>
   obtain rfl:=Option.some.inj k
   exact wpAny_isTrue_BoolOp (allT_ok S ⟨m,ha⟩ I h he)
  | Or =>
   obtain rfl:=Option.some.inj k
   exact wpAny_isTrue_BoolOp (anyT_ok S ⟨m,ha⟩ I h he)
 | Compare l os ys q =>
  refine j_cmp hc he fun k y a d x z h1 h2 ha hd hx hz k=>?_
  rw [h1,h2]
  exact wpAny_isTrue_Compare1 (S.ev ha I hx fun v h₁ t₁ e₁ r₁ _=>S.ev hd (I.ext e₁) hz fun u h₂ t₂ e₂ r₂ _ =>
   cmp_ok (s:={ s with heap:=h₂,toks:=t₂ }) I.cn.bH I.units (r₁.ext e₂ I.cn.tH) r₂ k fun tk=>wpAny_truthy_bool (h h₂ tk (e₁.trans e₂))) (hd.facts.mark _)
 | IfExp=>exact nos hc
 | _=>exact val_ok S hc I he rfl h
end
end Mine
end
section
set_option maxRecDepth 100000
open PySem PySem.Calls PyProof.Rows PySem.W
set_option genSizeOf false
set_option genInjectivity false
namespace Mine
structure ItOk (cx:Cx) (A:Around) (it:Addr) (hb:Heap) (Hs:Hid) (ps:List PV) (P:Nat→Value→Prop) (St:Nat→Heap→Prop) (fp:List Addr):Prop where
 walks:Walks cx.prog cx.w A it fp [it] ps.length P St
 fp:∀ a∈fp,a=it∨(¬ Hs a∧Live hb a)
 cls:∀ i h,St i h→∃ o nm,h.get? it=some o∧o.cls=.type nm∧nm∈(["list_iterator","list_reverseiterator","range_iterator","str_iterator","str_ascii_iterator"]:List String)
 val:∀ h,(∀ a o,¬ Hs a→hb.get? a=some o→h.get? a=some o)→∀ i v,P i v→∃ p,ps[i]?=some p∧Rep cx h Hs v p
theorem rangeUp_length:∀ (n:Nat) (a:Int),(rangeUp a n).length=n
 | 0,_=>rfl
 | n+1,a=>by rw [rangeUp,List.length_cons,rangeUp_length n]
theorem rangeUp_get:∀ (n:Nat) (a:Int) (i:Nat),i<n→(rangeUp a n)[i]?=some (.int (a+i))
 | 0,_,_,h=>absurd h (Nat.not_lt_zero _)
 | n+1,a,0,_=>by simp [rangeUp]
 | n+1,a,i+1,h=>by
  rw [rangeUp,List.getElem?_cons_succ,rangeUp_get n (a+1) i (by omega)]
  rw [Int.natCast_add,Int.add_assoc,Int.add_comm 1];rfl
theorem rangeUp_scalar:∀ (n:Nat) (a:Int),∀ p∈rangeUp a n,p.scalar=true
 | 0,_,p,h=>by cases h
 | n+1,a,p,h=>by
  rcases List.mem_cons.mp h with rfl|h
  ·rfl
  ·exact rangeUp_scalar n _ p h
theorem small_i {a:Int} (h:small a=true):-1000000<a∧a<1000000:=by
 have:=blt_true.mp h
 omega
theorem range_small {a b:Int} (ha:small a=true) (hb:small b=true):Builtin.Range.small a b 1=true∧(b - a).toNat<2000000:=by
 obtain ⟨h1,h2⟩:=small_i ha
 obtain ⟨h3,h4⟩:=small_i hb
 refine ⟨?_,by omega⟩
 unfold Builtin.Range.small Builtin.Range.rangeFitsLong
 rw [rangeSize_one]
 split <;> simp <;> omega
section
variable {cx:Cx} {G:Gl} {n:Nat} {ns:Ns} {A:Around} {env:Env} {ρ:PEnv} {H:Hid} {s:Shared} {E:Value→Shared→Prop} {Q:Value→Shared→Prop}
theorem range_walk {a b:Int} {r:Addr} {t u v:Tok} {hb:Heap} (hh:A.handled=none) (ha:small a=true) (hb':small b=true) (hr:IsRange s.heap r a b 1 t u v) (e:Ext cx cx.T hb s.heap)
  (h:∀ it h₂ P St fp,Ext cx cx.T s.heap h₂→¬ Live s.heap it→Live h₂ it→(∀ hb Hs,ItOk cx A it hb Hs (rangeUp a (b - a).toNat) P St fp)→St 0 h₂→fp=[it]→Q (.ref it) { s with heap:=h₂ }) :
  wpAny (model cx.prog cx.w) A (pyIter (.ref r)) Q E s:=by
 obtain ⟨h1,h2⟩:=range_small ha hb'
 refine wpAny_pyIter_range hr h1 ?_
 have ok:∀ hb Hs,ItOk cx A s.heap.objs.size hb Hs (rangeUp a (b - a).toNat) (fun i v=>i<(b - a).toNat∧∃ t,v=.int (a+i*1) t) (fun i h=>IsRangeIter h s.heap.objs.size (a+(i:Nat)*1) (((b - a).toNat:Int) - (i:Nat)) 1) [s.heap.objs.size]:=fun hb Hs=>by
  refine ⟨?_,fun a ha=>.inl (by simpa using ha),fun i h st=>⟨_,_,st,rfl,by simp⟩,fun h _ i v hv=>?_⟩
  ·rw [rangeUp_length]
   exact (Walks.range (prog:=cx.prog) (w:=cx.w) hh s.heap.objs.size a 1 (b - a).toNat).bound
  ·obtain ⟨hi,t,rfl⟩:=hv
   refine ⟨_,rangeUp_get _ a i hi,?_⟩
   rw [Int.mul_one]
   exact .int _ t
 refine h _ _ _ _ _ (.push _) not_live_size ⟨_,Heap.get?_push_size _ rfl⟩ ok ?_ rfl
 show IsRangeIter _ _ _ _ _
 rw [rangeSize_nat]
 simpa using Heap.get?_push_size _ rfl
theorem range_call {vs:List Value} {ps:List PV} {x:List PV} (r:RepAll cx s.heap H vs ps) (hx:rangeV ps=some x)
  (h:∀ a b r t u v tk,small a=true→small b=true→x=rangeUp a (b - a).toNat→IsRange (s.heap.push { cls:=.type "range",data:=.fields #[.int a t,.int b u,.int 1 v] }) r a b 1 t u v→Ext cx cx.T s.heap (s.heap.push { cls:=.type "range",data:=.fields #[.int a t,.int b u,.int 1 v] })→¬ Live s.heap r →
   Q (.ref r) { s with heap:=s.heap.push { cls:=.type "range",data:=.fields #[.int a t,.int b u,.int 1 v] },toks:=tk }) :
  wpAny (model cx.prog cx.w) A (call (.type "range") vs) Q E s:=by
 cases ps with
 | nil=>exact (Option.some_ne_none _ hx.symm).elim
 | cons p ps =>
  obtain ⟨i,hi,y1⟩:=ob_i hx
  obtain ⟨w1,ws,rfl,q1,q2⟩:=r.cons'
  obtain ⟨t,rfl⟩:=q1.toInt hi
  cases ps with
  | nil =>
   obtain ⟨sm,ex⟩:=og_i y1
   obtain rfl:=q2.nil'
   exact call_range_1 (h 0 i _ _ _ _ _ (by decide) sm ((Int.sub_zero i).symm ▸ ex.symm) (IsRange.new ..) (.push _) not_live_size)
  | cons q ps =>
   obtain ⟨j,hj,y2⟩:=ob_i y1
   obtain ⟨w2,ws2,rfl,q3,q4⟩:=q2.cons'
   obtain ⟨u,rfl⟩:=q3.toInt hj
   cases ps with
   | nil =>
    obtain ⟨sm,ex⟩:=og_i y2
    obtain ⟨sm1,sm2⟩:=Bool.and_eq_true_iff.mp sm
    obtain rfl:=q4.nil'
    exact call_range_2 (h i j _ _ _ _ _ sm1 sm2 ex.symm (IsRange.new ..) (.push _) not_live_size)
   | cons _ _=>exact (Option.some_ne_none _ y2.symm).elim
theorem strSigns (x:List Nat):(x.map fun c=>PV.str [c]).length=(S x).cps.size:=List.length_map _
theorem rep_at {hb h:Heap} {vs:List Value} {ps:List PV} (r:RepAll cx hb H vs ps) (hk:∀ a o,¬ (H a∨¬ Live hb a)→hb.get? a=some o→h.get? a=some o) {i:Nat} {v:Value} (hv:vs[i]?=some v):∃ p,ps[i]?=some p∧Rep cx h (fun a=>H a∨¬ Live hb a) v p:=by
 have hlt:i<ps.length:=r.length ▸ (List.getElem?_eq_some_iff.mp hv).1
 obtain ⟨v',e1,e2⟩:=r.get (List.getElem?_eq_getElem hlt)
 obtain rfl:=Option.some.inj (hv.symm.trans e1)
 exact ⟨_,List.getElem?_eq_getElem hlt,e2.map fun b o nb g=>⟨fun q=>Or.elim q nb fun z=>z ⟨o,g⟩,hk b o (fun q=>Or.elim q nb fun z=>z ⟨o,g⟩) g⟩⟩
theorem two_fp {it a:Addr} {P:Addr→Prop} (h:P a):∀ b∈[it,a],b=it∨P b:=fun b hb=>by
 rcases List.mem_cons.mp hb with hb|hb
 ·exact .inl hb
 ·exact .inr (List.mem_singleton.mp hb ▸ h)
theorem it_list {h₁:Heap} {a:Addr} {vs:List Value} {ps:List PV} (hh:A.handled=none) (nH:¬ H a) (l:IsLs h₁ a vs) (r:RepAll cx h₁ H vs ps) (hne:a ≠ h₁.objs.size) :
  ItOk cx A h₁.objs.size h₁ (fun a=>H a∨¬ Live h₁ a) ps (fun i v=>vs.toArray[i]?=some v) (fun i h=>h.IsListIter h₁.objs.size a i∧h.IsList a vs.toArray) [h₁.objs.size,a]:=by
 have lv:Live h₁ a:=⟨_,l.choose_spec⟩
 refine ⟨?_,two_fp ⟨fun q=>Or.elim q nH fun z=>z lv,lv⟩,fun i h st=>?_,fun h' hk i v hv=>rep_at r hk (by rw [← List.getElem?_toArray];exact hv)⟩
 ·rw [← r.length]
  exact Walks.list (prog:=cx.prog) (w:=cx.w) (A:=A) hh h₁.objs.size a hne vs.toArray
 ·obtain ⟨⟨o,h1,h2,_⟩,_⟩:=st
  exact ⟨o,_,h1,h2,.head _⟩
theorem it_rev {h₁:Heap} {a:Addr} {vs:List Value} {ps:List PV} (hh:A.handled=none) (nH:¬ H a) (l:IsLs h₁ a vs) (r:RepAll cx h₁ H vs ps) (hne:a ≠ h₁.objs.size) :
  ItOk cx A h₁.objs.size h₁ (fun a=>H a∨¬ Live h₁ a) ps.reverse (fun i v=>i<vs.toArray.size∧vs.toArray[vs.toArray.size - 1 - i]?=some v)
   (fun i h=>i≤vs.toArray.size∧h.IsRevIter h₁.objs.size a ((vs.toArray.size:Int) - 1 - (i:Int))∧h.IsList a vs.toArray) [h₁.objs.size,a]:=by
 have lv:Live h₁ a:=⟨_,l.choose_spec⟩
 refine ⟨?_,two_fp ⟨fun q=>Or.elim q nH fun z=>z lv,lv⟩,fun i h st=>?_,fun h' hk i v hv=>rep_at r.reverse hk ?_⟩
 ·rw [List.length_reverse,← r.length]
  exact (Walks.listRev (prog:=cx.prog) (w:=cx.w) (A:=A) hh h₁.objs.size a hne vs.toArray).bound
 ·obtain ⟨_,⟨o,h1,h2,_⟩,_⟩:=st
  exact ⟨o,_,h1,h2,.tail _ (.head _)⟩
 ·rw [List.getElem?_reverse hv.1,← List.getElem?_toArray]
  exact hv.2
theorem it_str {h₁:Heap} {x:List Nat} {St:Nat→Heap→Prop} (hW:Walks cx.prog cx.w A h₁.objs.size [h₁.objs.size] [h₁.objs.size] (Mine.S x).cps.size (SignAt (Mine.S x)) St)
  (hK:∀ i h,St i h→∃ o nm,h.get? h₁.objs.size=some o∧o.cls=.type nm∧nm∈(["list_iterator","list_reverseiterator","range_iterator","str_iterator","str_ascii_iterator"]:List String)) :
  ItOk cx A h₁.objs.size h₁ (fun a=>H a∨¬ Live h₁ a) (x.map fun c=>.str [c]) (SignAt (Mine.S x)) St [h₁.objs.size]:=by
 refine ⟨by rw [strSigns];exact hW,fun b hb=>.inl (List.mem_singleton.mp hb),hK,fun h' hk i v hv=>?_⟩
 obtain ⟨c,u,hc,rfl⟩:=hv
 have hc:x[i]?=some c:=by rw [← List.getElem?_toArray];exact hc
 exact ⟨.str [c],by rw [List.getElem?_map,hc];rfl,.str [c] u⟩
theorem evL_one {r:Rc} {a:PE} {v:PV} (h:r.ev ρ a=some v):evL r ρ [a]=some [v]:=by unfold evL;rw [h];rfl
theorem CI.fold {e:Expr} {pi:PE} (hc:CI ns e pi):∀ env x,foldedSetIterable e env x=pure x:=by
 obtain ⟨m,hc⟩:=hc
 rcases om_i hc with ⟨p,hp,k1⟩|k1
 ·refine ob_e hp fun t ht _=>?_
  rw [(inn_i ht).1]
  exact fun _ _=>rfl
 ·exact ob_e k1 fun a ha _=>(CE.facts ⟨m,ha⟩).fold
theorem small_len {α:Type} {l:List α} (hl:lenOk l=true):l.length≤2000000:=Nat.le_trans (lenOk_le hl) (by decide)
theorem iter_i {r:Rc} {m:Nat} {e:Expr} {pi:PE} {ps:List PV} {fl:Bool} {P:Prop} (hc:trI ((tr m).E ns) ns e=some pi) (he:iterV r ρ pi=some (ps,fl))
  (c:∀ (x:Str × Pos) (kp:Pos) (d:Expr) (rest:List Expr) (l:List PE) (vs:List PV),e=.Call (.Name x.1 x.2) (d :: rest) [] kp→x.1 = "range"→Glb ns x.1→CEs ns (d :: rest) l→evL r ρ l=some vs→rangeV vs=some ps→fl=false→P)
  (d:∀ (x:Str × Pos) (kp:Pos) (d:Expr) (a:PE) (v:PV) (xs:List PV),e=.Call (.Name x.1 x.2) [d] [] kp→x.1 = "reversed"→Glb ns x.1→CE ns d a→r.ev ρ a=some v→list? v=some xs→lenOk xs=true→ps=xs.reverse→fl=true→P)
  (K:∀ a v,CE ns e a→r.ev ρ a=some v→itV v=some (ps,fl)→P):P:=by
 rcases om_i hc with ⟨p,hp,k1⟩|k1
 ·obtain rfl:=Option.some.inj k1
  refine ob_e hp fun t ht k2=>?_
  obtain ⟨h1,h2⟩:=inn_i ht
  rcases oe_i k2 with ⟨h3,k3⟩|k3
  ·refine ob_e k3 fun l hl k4=>?_
   obtain rfl:=Option.some.inj k4
   obtain ⟨d,rest,h4,hcs⟩:=trL1_i hl
   refine ob_e he fun vs hvs k5=>ob_e k5 fun x hx k6=>?_
   obtain ⟨h5,h6⟩:=Prod.mk.inj (Option.some.inj k6)
   exact c t.1 _ d rest l vs (by rw [h1,h4]) (eq_of_beq h3) h2 hcs hvs (hx.trans (congrArg some h5)) h6.symm
  ·obtain ⟨h3,k4⟩:=ogo_i k3
   refine ob_e k4 fun y hy k5=>ob_e k5 fun a ha k6=>?_
   obtain rfl:=Option.some.inj k6
   refine ob_e (o:=r.ev ρ a) he fun v hv k8=>ob_e k8 fun x hx k9=>?_
   obtain ⟨hl,h4⟩:=og_i k9
   obtain ⟨h5,h6⟩:=Prod.mk.inj h4
   exact d t.1 _ y a v x (by rw [h1,l1_i hy]) (eq_of_beq h3) h2 ⟨m,ha⟩ hv hx hl h5.symm h6.symm
 ·refine ob_e k1 fun a ha k2=>?_
  obtain rfl:=Option.some.inj k2
  exact ob_e he fun v hv k3=>K a v ⟨m,ha⟩ hv k3
theorem iter_ok (g:GOk cx G) (S:SndN cx G n) {e:Expr} {pi:PE} {ps:List PV} {fl:Bool} (hc:CI ns e pi) (I:InE cx (n+60) A env ns ρ H s) (he:iterV (sem G n) ρ pi=some (ps,fl))
  (h:∀ it hb h₂ tk P St fp,Ext cx cx.T s.heap hb→Ext cx cx.T hb h₂→¬ Live hb it→Live h₂ it→ItOk cx A it hb (fun a=>H a∨¬ Live hb a) ps P St fp→St 0 h₂→ps.length≤2000000 →
   (fl=false→(∀ p∈ps,p.scalar=true)∧∀ a∈fp,a=it)→Q (.ref it) { s with heap:=h₂,toks:=tk }) :
  wpAny (model cx.prog cx.w) A (eval e env) (fun x s₁=>wpAny (model cx.prog cx.w) A (pyIter x) Q E s₁) E s:=by
 obtain ⟨m,hc⟩:=hc
 refine iter_i hc he (fun x kp e rest l vs h0 h1 hr hcs hvs hx hf=>?_) (fun x kp e a v xs h0 h1 hr hce hv hx hl hps hf=>?_) fun a v hce hv k1=>?_
 ·rw [h0,h1]
  rw [h1] at hr
  refine call_named S I callee_type hcs hvs (fun hq=>ld_bi I hr rfl (g.bi _ (by decide)) (by decide) boot_range hq) fun vs' h₁ t₁ e₁ r₁=>?_
  refine range_call r₁ hx fun a b r t u v tk' sa sb ex hr' e₂ nl=>?_
  refine range_walk (s:={ s with heap:=_,toks:=_ }) I.room.1 sa sb hr' e₂ fun it h₂ P St fp e₃ nl₂ lv ok st hfp=>?_
  rw [← ex] at ok
  exact h it h₁ h₂ _ P St fp e₁ (e₂.trans e₃) (fun l=>nl₂ (e₂.live _ l)) lv (ok _ _) st (by rw [ex,rangeUp_length];exact Nat.le_of_lt (range_small sa sb).2)
   fun _=>⟨ex ▸ rangeUp_scalar _ _,fun a ha=>List.mem_singleton.mp (hfp ▸ ha)⟩
 ·rw [h0,h1]
  rw [h1] at hr
  refine call_named S I callee_type (CEs.one hce) (evL_one hv) (fun hq=>ld_bi I hr rfl (g.bi _ (by decide)) (by decide) boot_reversed hq) fun vs' h₁ t₁ e₁ r₁=>?_
  obtain ⟨w,rfl,r2⟩:=r₁.one'
  obtain ⟨a,vs,rfl,nH,l,xs⟩:=r2.toList hx
  have hne:a ≠ h₁.objs.size:=Nat.ne_of_lt (Live.lt ⟨_,l.choose_spec⟩)
  refine call_reversed_list l.isList ?_
  have hit:(h₁.push (revObj a ((vs.toArray.size:Int) - 1))).IsRevIter h₁.objs.size a ((vs.toArray.size:Int) - 1):=⟨_,Heap.get?_push_size _ rfl,rfl,rfl⟩
  rw [hps] at h
  exact wpAny_pyIter_revIter hit (h h₁.objs.size h₁ _ t₁ _ _ _ e₁ (.push _) not_live_size ⟨_,Heap.get?_push_size _ rfl⟩ (it_rev I.room.1 nH l xs hne) ⟨Nat.zero_le _,(Int.sub_zero _).symm ▸ hit,l.isList.push _⟩ (by rw [List.length_reverse];exact small_len hl) (fun q=>(Bool.false_ne_true (q.symm.trans hf)).elim))
 ·refine S.ev hce I hv fun w h₁ t₁ e₁ r₁ _=>?_
  induction v using PV.casesOn with
  | list x =>
   obtain ⟨hl,k4⟩:=og_i k1
   obtain ⟨k5,k6⟩:=Prod.mk.inj k4
   rw [← k5] at h
   obtain ⟨a,vs,rfl,nH,l,xs⟩:=r₁.list'
   refine iter_list l.isList fun s₂ es st hfp hlI=>?_
   subst es
   exact h h₁.objs.size h₁ _ t₁ _ _ _ e₁ (.push _) not_live_size ⟨_,Heap.get?_push_size _ rfl⟩ (it_list I.room.1 nH l xs hlI) st (small_len hl) (fun q=>(Bool.false_ne_true (q.symm.trans k6.symm)).elim)
  | str x =>
   obtain ⟨hl,k4⟩:=og_i k1
   obtain ⟨k5,k6⟩:=Prod.mk.inj k4
   rw [← k5] at h
   obtain ⟨t,rfl⟩:=r₁.str'
   have sc:∀ p∈x.map fun c=>PV.str [c],p.scalar=true:=fun p hp=>by
    obtain ⟨c,_,rfl⟩:=List.mem_map.mp hp
    rfl
   cases hall:(Mine.S x).cps.all (·<128)
   ·refine wpAny_pyIter_wide hall ?_
    exact h h₁.objs.size h₁ _ t₁ _ _ [h₁.objs.size] e₁ (.push _) not_live_size ⟨_,Heap.get?_push_size _ rfl⟩ (it_str (Walks.strWide I.room.1 _ _ _) fun i h st=>(by obtain ⟨o,h1,h2,_⟩:=st;exact ⟨o,_,h1,h2,.tail _ (.tail _ (.tail _ (.head _)))⟩)) ⟨_,Heap.get?_push_size _ rfl,rfl,rfl⟩ (by rw [List.length_map];exact small_len hl) (fun _=>⟨sc,fun a ha=>List.mem_singleton.mp ha⟩)
   ·refine wpAny_pyIter_ascii hall ?_
    exact h h₁.objs.size h₁ _ t₁ _ _ [h₁.objs.size] e₁ (.push _) not_live_size ⟨_,Heap.get?_push_size _ rfl⟩ (it_str (Walks.strAscii I.room.1 _ _ _) fun i h st=>(by obtain ⟨o,h1,h2,_⟩:=st;exact ⟨o,_,h1,h2,.tail _ (.tail _ (.tail _ (.tail _ (.head _))))⟩)) ⟨_,Heap.get?_push_size _ rfl,rfl,rfl⟩ (by rw [List.length_map];exact small_len hl) (fun _=>⟨sc,fun a ha=>List.mem_singleton.mp ha⟩)
  | _=>exact nos k1
end
end Mine
end
section
set_option maxRecDepth 100000
open PySem PySem.Calls PyProof.Rows PySem.W
set_option genSizeOf false
set_option genInjectivity false
namespace Mine
structure Own where
 cell:Hid
 inst:Addr
instance:CoeFun Own fun _=>Hid:=⟨Own.cell⟩
noncomputable def HH (Hx:Hid) (env:Env) (own:Own) (ow:Nat→Hid) (P:Nat→Prop):Hid:=fun a=>Hx a∨a=env.locals∨own a∨∃ k,¬ P k∧ow k a
noncomputable abbrev HA (Hx:Hid) (env:Env) (own:Own) (ow:Nat→Hid):Hid:=HH Hx env own ow fun _=>False
noncomputable def WW (cx:Cx) (env:Env) (own:Own) (ow:Nat→Hid):Hid:=fun a=>cx.T a∨a=env.locals∨own a∨∃ k,ow k a
noncomputable def OwnRep (cx:Cx) (iv:Addr) (h:Heap) (H:Hid) (O:Hid) (v:Value):PV→Prop
 | .list ps=>∃ D vs,v=.ref D∧(∀ a,O a↔a=D)∧IsLs h D vs∧RepAll cx h H vs ps
 | .inst ks ps=>∃ d m vs,v=.ref iv∧(∀ z,O z↔z=iv∨z=d)∧IsIn h iv cx.C d∧d ≠ iv∧h.Ns1 d m∧AttrsAre m ks vs∧RepAll cx h H vs ps
 | _=>False
structure InS (cx:Cx) (m:Nat) (A:Around) (env:Env) (ns:Ns) (Hx:Hid) (own:Own) (ow:Nat→Hid) (ρ:PEnv) (h:Heap):Prop where
 room:Room A m
 kind:env.scope.kind=.function
 glb:∀ f,ns.lookup f=some .globalImplicit→env.kindOf f=some .globalImplicit
 loc:∀ y,ns.lookup y=some .local→env.kindOf y=some .local
 cel:∀ y,ns.lookup y=some .cell→env.kindOf y=some .cell∧∃ c,env.cells.lookup y=some c∧own c
 fre:∀ y,ns.lookup y=some .free→env.kindOf y=some .cell∧∃ c,env.cells.lookup y=some c
 glob:env.globals=mainGlobals
 blt:env.builtins=builtinsNs
 cn:Cn cx h Hx
 nsl:∃ m,h.Ns env.locals m
 cells:∀ c,own c→∃ v,h.IsCell c v
 cinj:∀ n n' c,env.cells.lookup n=some c→own c→env.cells.lookup n'=some c→n=n'
 fH:¬ Hx env.locals∧∀ c,own c→¬ Hx c
 fG:¬ cx.GA env.locals∧∀ c,own c→¬ cx.GA c
 lcl:¬ own env.locals
 outer:∀ n c,env.cells.lookup n=some c→¬ own c→Hx c∧¬ cx.T c
 owL:∀ k a,ow k a→Live h a∧¬ Hx a∧a ≠ env.locals∧¬ own a∧¬ cx.GA a
 owP:∀ k a,ow k a→∃ p,PEnv.get ρ k=some (true,p)
 owA:∀ j k a,ow j a→ow k a→j=k
 vars:∀ x b p,okN x=true→PEnv.get ρ (enc x)=some (b,p)→∃ v,VarAt h env x v∧(b=false→Rep cx h (HA Hx env own ow) v p)∧(b=true→OwnRep cx own.inst h (HA Hx env own ow) (ow (enc x)) v p)
theorem IsIn.map {h h':Heap} {a C d:Addr} (l:IsIn h a C d) (k:∀ o,h.get? a=some o→h'.get? a=some o):IsIn h' a C d:=(by obtain ⟨o,e,r⟩:=l;exact ⟨o,k _ e,r⟩)
theorem IsLs.live {h:Heap} {a:Addr} {vs:List Value} (l:IsLs h a vs):Live h a:=(by obtain ⟨_,e⟩:=l;exact ⟨_,e⟩)
theorem IsIn.live {h:Heap} {a C d:Addr} (l:IsIn h a C d):Live h a:=(by obtain ⟨o,e,_⟩:=l;exact ⟨o,e⟩)
theorem Ns_live {h:Heap} {a:Addr} {m:Str→Option Value} (l:h.Ns a m):Live h a:=(by obtain ⟨o,_,_,e,_⟩:=l;exact ⟨o,e⟩)
theorem Ns1_live {h:Heap} {a:Addr} {m:Str→Option Value} (l:h.Ns1 a m):Live h a:=(by obtain ⟨o,_,_,e,_⟩:=l;exact ⟨o,e⟩)
theorem OwnRep.map {cx:Cx} {iv:Addr} {h h':Heap} {H H' O O':Hid} {v:Value} {p:PV} (x:OwnRep cx iv h H O v p) (ko:∀ a o,O a→h.get? a=some o→h'.get? a=some o) (hO:∀ a,O' a↔O a)
  (k:∀ a o,¬ H a→h.get? a=some o→¬ H' a∧h'.get? a=some o):OwnRep cx iv h' H' O' v p:=by
 cases p with
 | list ps =>
  obtain ⟨D,vs,e,hD,l,r⟩:=x
  exact ⟨D,vs,e,fun a=>(hO a).trans (hD a),l.map fun o=>ko _ o ((hD D).mpr rfl),r.map k⟩
 | inst ks ps =>
  obtain ⟨d,m,vs,e,hD,i,ne,n,at',r⟩:=x
  exact ⟨d,m,vs,e,fun z=>(hO z).trans (hD z),i.map fun o=>ko _ o ((hD _).mpr (.inl rfl)),ne,n.at fun o=>ko _ o ((hD d).mpr (.inr rfl)),at',r.map k⟩
 | _=>exact x.elim
theorem OwnRep.rep {cx:Cx} {iv:Addr} {h:Heap} {H H' O:Hid} {v:Value} {p:PV} (x:OwnRep cx iv h H O v p) (hO:∀ a,O a→¬ H' a) (k:∀ a,H' a→H a):Rep cx h H' v p:=by
 cases p with
 | list ps =>
  obtain ⟨D,vs,rfl,hD,l,r⟩:=x
  exact .list (hO _ ((hD D).mpr rfl)) l (r.open' k)
 | inst ks ps =>
  obtain ⟨d,m,vs,rfl,hD,i,ne,n,at',r⟩:=x
  exact .inst (hO _ ((hD _).mpr (.inl rfl))) (hO _ ((hD d).mpr (.inr rfl))) i ne n at' (r.open' k)
 | _=>exact x.elim
namespace InS
variable {cx:Cx} {m:Nat} {A:Around} {env:Env} {ns:Ns} {Hx:Hid} {own:Own} {ow:Nat→Hid} {ρ:PEnv} {h h':Heap}
theorem frame_live (I:InS cx m A env ns Hx own ow ρ h):Live h env.locals∧∀ c,own c→Live h c:=by
 refine ⟨(by obtain ⟨_,n⟩:=I.nsl;exact Ns_live n),fun c oc=>?_⟩
 obtain ⟨v,o,e,_⟩:=I.cells c oc
 exact ⟨o,e⟩
theorem noT (I:InS cx m A env ns Hx own ow ρ h):¬ cx.T env.locals∧∀ n c,env.cells.lookup n=some c→¬ cx.T c :=
 ⟨fun t=>I.fG.1 (cx.bGA _ (cx.tB _ t)),fun n c e t=>by
  by_cases q:own c
  ·exact I.fG.2 c q (cx.bGA _ (cx.tB _ t))
  ·exact (I.outer n c e q).2 t⟩
theorem cnH (I:InS cx m A env ns Hx own ow ρ h) (P:Nat→Prop):Cn cx h (HH Hx env own ow P):=by
 refine ⟨I.cn.gi,fun a q=>?_,fun a b=>.inl (I.cn.bH a b),fun a q g=>?_⟩
 ·rcases q with q|rfl|q|⟨k,_,q⟩
  ·exact I.cn.hid a q
  ·exact I.frame_live.1
  ·exact I.frame_live.2 a q
  ·exact (I.owL k a q).1
 ·rcases q with q|rfl|q|⟨k,_,q⟩
  ·exact I.cn.hg a q g
  ·exact (I.fG.1 g).elim
  ·exact (I.fG.2 a q g).elim
  ·exact ((I.owL k a q).2.2.2.2 g).elim
theorem toE (I:InS cx m A env ns Hx own ow ρ h) (P:Nat→Prop) {ρ':PEnv} (hρ:∀ k b p,PEnv.get ρ' k=some (b,p)→P k∧PEnv.get ρ k=some (b,p)) {s:Shared} (hs:s.heap=h):InE cx m A env ns ρ' (HH Hx env own ow P) s:=by
 subst hs
 have up:∀ a,HH Hx env own ow P a→HA Hx env own ow a:=fun a q=>by
  rcases q with q|q|q|⟨k,_,q⟩
  ·exact .inl q
  ·exact .inr (.inl q)
  ·exact .inr (.inr (.inl q))
  ·exact .inr (.inr (.inr ⟨k,fun x=>x,q⟩))
 refine ⟨I.room,I.kind,I.glb,fun y q=>?_,I.glob,I.blt,I.cnH P,.inr (.inl rfl),fun n c e=>?_,I.noT,fun x b p ok g=>?_⟩
 ·rcases q with q|q
  ·obtain ⟨h1,c,h2,_⟩:=I.cel y q
   exact ⟨h1,c,h2⟩
  ·exact I.fre y q
 ·by_cases q:own c
  ·exact .inr (.inr (.inl q))
  ·exact .inl (I.outer n c e q).1
 ·obtain ⟨hP,g'⟩:=hρ _ _ _ g
  obtain ⟨v,hv,h1,h2⟩:=I.vars x b p ok g'
  refine ⟨v,hv,?_⟩
  cases b with
  | false=>exact (h1 rfl).open' up
  | true =>
   refine (h2 rfl).rep (fun a oa q=>?_) up
   obtain ⟨_,n1,n2,n3,_⟩:=I.owL _ _ oa
   rcases q with q|q|q|⟨k,nk,q⟩
   ·exact n1 q
   ·exact n2 q
   ·exact n3 q
   ·exact nk (I.owA _ _ _ q oa ▸ hP)
theorem ext (I:InS cx m A env ns Hx own ow ρ h) (e:Ext cx cx.T h h'):InS cx m A env ns Hx own ow ρ h':=by
 have kl:∀ o,h.get? env.locals=some o→h'.get? env.locals=some o:=fun o=>e.keep _ o I.noT.1
 have kc:∀ c,own c→∀ o,h.get? c=some o→h'.get? c=some o:=fun c oc o=>e.keep _ o fun t=>I.fG.2 c oc (cx.bGA _ (cx.tB _ t))
 have kw:∀ k a,ow k a→∀ o,h.get? a=some o→h'.get? a=some o:=fun k a oa o=>e.keep _ o fun t=>(I.owL k a oa).2.2.2.2 (cx.bGA _ (cx.tB _ t))
 have kr:∀ a o,¬ HA Hx env own ow a→h.get? a=some o→¬ HA Hx env own ow a∧h'.get? a=some o:=fun a o n g=>⟨n,e.keep a o (fun t=>n (.inl (I.cn.tH a t))) g⟩
 refine ⟨I.room,I.kind,I.glb,I.loc,I.cel,I.fre,I.glob,I.blt,I.cn.ext e,?_,fun c oc=>?_,I.cinj,I.fH,I.fG,I.lcl,I.outer,fun k a oa=>⟨e.live a (I.owL k a oa).1,(I.owL k a oa).2⟩,I.owP,I.owA,fun x b p ok g=>?_⟩
 ·obtain ⟨m,o,es,ep,ho,r⟩:=I.nsl
  exact ⟨m,o,es,ep,kl o ho,r⟩
 ·obtain ⟨v,o,ho,r⟩:=I.cells c oc
  exact ⟨v,o,kc c oc o ho,r⟩
 ·obtain ⟨v,hv,h1,h2⟩:=I.vars x b p ok g
  refine ⟨v,hv.keep fun a o ha g=>?_,fun q=>(h1 q).map kr,fun q=>(h2 q).map (fun a o oa=>kw _ a oa o) (fun _=>Iff.rfl) kr⟩
  rcases ha with rfl|⟨n,c,hc,rfl⟩
  ·exact kl o g
  ·exact e.keep _ _ (I.noT.2 n _ hc) g
end InS
theorem get_set {ρ:PEnv} {x y:Nat} {b:Bool} {v:PV}:PEnv.get (PEnv.set ρ x b v) y=if y=x then some (b,v) else PEnv.get ρ y:=by
 induction ρ with
 | nil =>
  simp only [PEnv.set,PEnv.get]
  by_cases q:y=x
  ·subst q;simp [Nat.beq_refl]
  ·have:Nat.beq y x=false:=by cases h:Nat.beq y x with|true=>exact (q (Nat.eq_of_beq_eq_true h)).elim|false=>rfl
   rw [this,if_neg q]
 | cons z r ih =>
  obtain ⟨z,c⟩:=z
  simp only [PEnv.set]
  cases hxz:Nat.beq x z with
  | true =>
   have:=Nat.eq_of_beq_eq_true hxz
   subst this
   simp only [PEnv.get]
   by_cases q:y=x
   ·subst q;simp [Nat.beq_refl]
   ·have:Nat.beq y x=false:=by cases h:Nat.beq y x with|true=>exact (q (Nat.eq_of_beq_eq_true h)).elim|false=>rfl
    rw [this,if_neg q]
  | false =>
   simp only [PEnv.get]
   cases hyz:Nat.beq y z with
   | true =>
    have:=Nat.eq_of_beq_eq_true hyz
    subst this
    have:y ≠ x:=fun q=>by subst q;rw [Nat.beq_refl] at hxz;cases hxz
    rw [if_neg this]
   | false=>exact ih
theorem has_iff {l:List Nat} {x:Nat}:PEnv.has l x=true↔x∈l:=by
 unfold PEnv.has
 rw [List.any_eq_true]
 constructor
 ·rintro ⟨y,hy,e⟩
  exact Nat.eq_of_beq_eq_true e ▸ hy
 ·intro h;exact ⟨x,h,Nat.beq_refl x⟩
theorem get_only {l:List Nat} {ρ:PEnv} {x:Nat}:PEnv.get (PEnv.only l ρ) x=if x∈l then PEnv.get ρ x else none:=by
 induction ρ with
 | nil=>simp [PEnv.only,PEnv.get]
 | cons z r ih =>
  obtain ⟨z,c⟩:=z
  simp only [PEnv.only]
  cases hz:PEnv.has l z with
  | true =>
   simp only [PEnv.get]
   cases hxz:Nat.beq x z with
   | true =>
    have:=Nat.eq_of_beq_eq_true hxz
    subst this
    rw [if_pos (has_iff.mp hz)]
   | false=>exact ih
  | false =>
   rw [ih]
   by_cases q:x∈l
   ·rw [if_pos q,if_pos q]
    simp only [PEnv.get]
    cases hxz:Nat.beq x z with
    | true =>
     have:=Nat.eq_of_beq_eq_true hxz
     subst this
     rw [has_iff.mpr q] at hz;cases hz
    | false=>rfl
   ·rw [if_neg q,if_neg q]
theorem get_freeze {l:List Nat} {ρ:PEnv} {x:Nat}:PEnv.get (PEnv.freeze l ρ) x=(PEnv.get ρ x).map fun c=>if x∈l then (false,c.2) else c:=by
 induction ρ with
 | nil=>rfl
 | cons z r ih =>
  obtain ⟨z,b,c⟩:=z
  simp only [PEnv.freeze]
  cases hz:PEnv.has l z with
  | true =>
   simp only [PEnv.get]
   cases hxz:Nat.beq x z with
   | true =>
    have:=Nat.eq_of_beq_eq_true hxz
    subst this
    simp [has_iff.mp hz]
   | false=>exact ih
  | false =>
   simp only [PEnv.get]
   cases hxz:Nat.beq x z with
   | true =>
    have:=Nat.eq_of_beq_eq_true hxz
    subst this
    have:x ∉ l:=fun q=>by rw [has_iff.mpr q] at hz;cases hz
    simp [this]
   | false=>exact ih
namespace InS
variable {cx:Cx} {m:Nat} {A:Around} {env:Env} {ns:Ns} {Hx:Hid} {own:Own} {ow:Nat→Hid} {ρ:PEnv} {h h':Heap}
noncomputable def cut (ow:Nat→Hid) (l:List Nat):Nat→Hid:=fun k a=>ow k a∧k ∉ l
theorem HA_cut (l:List Nat):HA Hx env own (cut ow l)=HH Hx env own ow (·∈l):=by
 funext a
 refine propext ⟨fun q=>?_,fun q=>?_⟩
 ·rcases q with q|q|q|⟨k,_,q,n⟩
  ·exact .inl q
  ·exact .inr (.inl q)
  ·exact .inr (.inr (.inl q))
  ·exact .inr (.inr (.inr ⟨k,n,q⟩))
 ·rcases q with q|q|q|⟨k,n,q⟩
  ·exact .inl q
  ·exact .inr (.inl q)
  ·exact .inr (.inr (.inl q))
  ·exact .inr (.inr (.inr ⟨k,fun x=>x,q,n⟩))
theorem frozen (I:InS cx m A env ns Hx own ow ρ h) (l:List Nat):InS cx m A env ns Hx own (cut ow l) (PEnv.freeze l ρ) h:=by
 have up:∀ a,HA Hx env own (cut ow l) a→HA Hx env own ow a:=fun a q=>by
  rcases q with q|q|q|⟨k,_,q,_⟩
  ·exact .inl q
  ·exact .inr (.inl q)
  ·exact .inr (.inr (.inl q))
  ·exact .inr (.inr (.inr ⟨k,fun x=>x,q⟩))
 refine ⟨I.room,I.kind,I.glb,I.loc,I.cel,I.fre,I.glob,I.blt,I.cn,I.nsl,I.cells,I.cinj,I.fH,I.fG,I.lcl,I.outer,fun k a oa=>I.owL k a oa.1,fun k a oa=>?_,fun j k a oj ok=>I.owA j k a oj.1 ok.1,fun x b p ok g=>?_⟩
 ·obtain ⟨p,hp⟩:=I.owP k a oa.1
  exact ⟨p,by rw [get_freeze,hp];simp [oa.2]⟩
 ·rw [get_freeze,Option.map_eq_some_iff] at g
  obtain ⟨⟨b',p'⟩,g1,g2⟩:=g
  obtain ⟨v,hv,h1,h2⟩:=I.vars x b' p' ok g1
  by_cases q:enc x∈l
  ·rw [if_pos q] at g2
   injection g2 with e1 e2
   subst e1 e2
   refine ⟨v,hv,fun _=>?_,fun q=>by cases q⟩
   cases b' with
   | false=>exact (h1 rfl).open' up
   | true =>
    refine (h2 rfl).rep (fun a oa z=>?_) up
    obtain ⟨_,n1,n2,n3,_⟩:=I.owL _ _ oa
    rcases z with z|z|z|⟨k,_,z,nk⟩
    ·exact n1 z
    ·exact n2 z
    ·exact n3 z
    ·exact nk (I.owA _ _ _ oa z ▸ q)
  ·rw [if_neg q] at g2
   injection g2 with e1 e2
   subst e1 e2
   refine ⟨v,hv,fun z=>(h1 z).open' up,fun z=>(h2 z).map (fun _ _ _ e=>e) (fun a=>⟨fun y=>y.1,fun y=>⟨y,q⟩⟩) fun a o n g=>⟨fun z=>n (up a z),g⟩⟩
end InS
end Mine
end
section
set_option maxRecDepth 100000
open PySem PySem.Calls PyProof.Rows PySem.W
set_option genSizeOf false
set_option genInjectivity false
namespace Mine
noncomputable abbrev add (H:Hid) (D:Addr):Hid:=fun a=>H a∨a=D
namespace InS
variable {cx:Cx} {m:Nat} {A:Around} {env:Env} {ns:Ns} {Hx:Hid} {own:Own} {ow:Nat→Hid} {ρ:PEnv} {h h':Heap} {D:Addr}
theorem le {m':Nat} (I:InS cx m A env ns Hx own ow ρ h) (l:m'≤m):InS cx m' A env ns Hx own ow ρ h:={ I with room:=I.room.le l }
theorem extAdd (I:InS cx m A env ns Hx own ow ρ h) (e:Ext cx cx.T h h') (nl:¬ Live h D) (l:Live h' D):InS cx m A env ns (add Hx D) own ow ρ h':=by
 have J:=I.ext e
 have nG:¬ cx.GA D:=fun g=>nl (cx.ga_live h D I.cn.gi g)
 have HAeq:∀ a,HA (add Hx D) env own ow a→HA Hx env own ow a∨a=D:=fun a q=>by
  rcases q with (q|q)|q|q|q
  ·exact .inl (.inl q)
  ·exact .inr q
  ·exact .inl (.inr (.inl q))
  ·exact .inl (.inr (.inr (.inl q)))
  ·exact .inl (.inr (.inr (.inr q)))
 have kr:∀ a o,¬ HA Hx env own ow a→h.get? a=some o→¬ HA (add Hx D) env own ow a∧h'.get? a=some o:=fun a o n g =>
  ⟨fun q=>(HAeq a q).elim n fun q=>nl ⟨o,q ▸ g⟩,e.keep a o (fun t=>n (.inl (I.cn.tH a t))) g⟩
 have kw:∀ k a,ow k a→∀ o,h.get? a=some o→h'.get? a=some o:=fun k a oa o=>e.keep _ o fun t=>(I.owL k a oa).2.2.2.2 (cx.bGA _ (cx.tB _ t))
 refine { J with cn:=⟨J.cn.gi,fun a q=>q.elim (J.cn.hid a) fun q=>q ▸ l,fun a b=>.inl (J.cn.bH a b),fun a q g=>q.elim (fun q=>J.cn.hg a q g) fun q=>(nG (q ▸ g)).elim⟩,fH:=?_,outer:=fun n c e q=>⟨.inl (J.outer n c e q).1,(J.outer n c e q).2⟩,owL:=?_,vars:=?_ }
 ·exact ⟨fun q=>q.elim J.fH.1 fun q=>nl (q ▸ I.frame_live.1),fun c oc q=>q.elim (J.fH.2 c oc) fun q=>nl (q ▸ I.frame_live.2 c oc)⟩
 ·intro k a oa
  obtain ⟨h1,h2,h3⟩:=J.owL k a oa
  exact ⟨h1,fun q=>q.elim h2 fun q=>nl (q ▸ (I.owL k a oa).1),h3⟩
 ·intro x b p ok g
  obtain ⟨v,hv,h1,h2⟩:=I.vars x b p ok g
  refine ⟨v,hv.keep fun a o ha g=>?_,fun q=>(h1 q).map kr,fun q=>(h2 q).map (fun a o oa=>kw _ a oa o) (fun _=>Iff.rfl) kr⟩
  rcases ha with rfl|⟨n,c,hc,rfl⟩
  ·exact e.keep _ _ I.noT.1 g
  ·exact e.keep _ _ (I.noT.2 n _ hc) g
theorem unAdd (I:InS cx m A env ns (add Hx D) own ow ρ h) (bH:∀ a,cx.B a→Hx a) (outer:∀ n c,env.cells.lookup n=some c→¬ own c→Hx c):InS cx m A env ns Hx own ow ρ h:=by
 have up:∀ a,HA Hx env own ow a→HA (add Hx D) env own ow a:=fun a q=>by
  rcases q with q|q|q|q
  ·exact .inl (.inl q)
  ·exact .inr (.inl q)
  ·exact .inr (.inr (.inl q))
  ·exact .inr (.inr (.inr q))
 refine { I with cn:=⟨I.cn.gi,fun a q=>I.cn.hid a (.inl q),bH,fun a q=>I.cn.hg a (.inl q)⟩,fH:=⟨fun q=>I.fH.1 (.inl q),fun c oc q=>I.fH.2 c oc (.inl q)⟩,outer:=fun n c e q=>⟨outer n c e q,(I.outer n c e q).2⟩,owL:=?_,vars:=?_ }
 ·intro k a oa
  obtain ⟨h1,h2,h3⟩:=I.owL k a oa
  exact ⟨h1,fun q=>h2 (.inl q),h3⟩
 ·intro x b p ok g
  obtain ⟨v,hv,h1,h2⟩:=I.vars x b p ok g
  exact ⟨v,hv,fun q=>(h1 q).open' up,fun q=>(h2 q).map (fun _ _ _ e=>e) (fun _=>Iff.rfl) fun a o n g=>⟨fun z=>n (up a z),g⟩⟩
theorem turned (I:InS cx m A env ns Hx own ow ρ h) {b:Addr} (hb:b=env.locals∨own b) (k:Heap.ExtBut b h h') (hl:Live h' b):Ext cx (WW cx env own ow) h h'∧Cn cx h' Hx:=by
 have nG:¬ cx.GA b:=hb.elim (fun q=>q ▸ I.fG.1) (I.fG.2 b)
 have nH:¬ Hx b:=hb.elim (fun q=>q ▸ I.fH.1) (I.fH.2 b)
 have nc:NoCd h b:=hb.elim (fun q=>q ▸ ((by obtain ⟨_,n⟩:=I.nsl;exact NoCd.ns n))) fun q=>(by obtain ⟨_,n⟩:=I.cells b q;exact NoCd.cell n)
 have e:Ext cx (WW cx env own ow) h h':=.of_but (b:=b) (hb.elim (fun q=>.inr (.inl q)) fun q=>.inr (.inr (.inl q))) (fun _=>nG) (fun _=>hl) k nc
 refine ⟨e,e.gi I.cn.gi,fun a q=>?_,I.cn.bH,I.cn.hg⟩
 obtain ⟨o,ho⟩:=I.cn.hid a q
 exact ⟨o,k a o (fun z=>nH (z ▸ q)) ho⟩
theorem owcut (I:InS cx m A env ns Hx own ow ρ h) {x:Str} {b:Bool} {p:PV}:∀ k a,InS.cut ow [enc x] k a→∃ q,PEnv.get (PEnv.set ρ (enc x) b p) k=some (true,q):=fun k a oa=>by
 obtain ⟨q,hq⟩:=I.owP k a oa.1
 have:k ≠ enc x:=fun e=>oa.2 (by simp [e])
 exact ⟨q,by rw [get_set,if_neg this];exact hq⟩
theorem bind (I:InS cx m A env ns Hx own ow ρ h) {x:Str} {v:Value} {p:PV} {b:Addr} (okx:okN x=true) (hb:b=env.locals∨own b) (k:Heap.ExtBut b h h') (hn:∃ m,h'.Ns env.locals m) (hc:∀ c,own c→∃ v,h'.IsCell c v)
  (hv:VarAt h' env x v) (ho:∀ y w,y ≠ x→VarAt h env y w→VarAt h' env y w) (hr:Rep cx h (HA Hx env own (cut ow [enc x])) v p):InS cx m A env ns Hx own (cut ow [enc x]) (PEnv.set ρ (enc x) false p) h':=by
 have hl:Live h' b:=hb.elim (fun q=>q ▸ ((by obtain ⟨_,n⟩:=hn;exact Ns_live n))) fun q=>((by obtain ⟨_,o,e,_⟩:=hc b q;exact ⟨o,e⟩))
 obtain ⟨e,c⟩:=I.turned hb k hl
 have bHA:∀ ow',HA Hx env own ow' b:=fun ow'=>hb.elim (fun q=>.inr (.inl q)) fun q=>.inr (.inr (.inl q))
 have up:∀ a,HA Hx env own (cut ow [enc x]) a→HA Hx env own ow a:=fun a q=>by
  rcases q with q|q|q|⟨k,_,q,_⟩
  ·exact .inl q
  ·exact .inr (.inl q)
  ·exact .inr (.inr (.inl q))
  ·exact .inr (.inr (.inr ⟨k,fun x=>x,q⟩))
 have kr:∀ a o,¬ HA Hx env own ow a→h.get? a=some o→¬ HA Hx env own (cut ow [enc x]) a∧h'.get? a=some o:=fun a o n g=>⟨fun q=>n (up a q),k a o (fun q=>n (q ▸ bHA ow)) g⟩
 have kw:∀ j a,ow j a→∀ o,h.get? a=some o→h'.get? a=some o:=fun j a oa o=>k a o fun q=>by
  obtain ⟨_,_,n2,n3,_⟩:=I.owL j a oa
  rcases hb with z|z
  ·exact n2 (q.trans z)
  ·exact n3 (q ▸ z)
 refine { I with cn:=c,nsl:=hn,cells:=hc,owL:=?_,owP:=I.owcut,owA:=fun i j a oi oj=>I.owA i j a oi.1 oj.1,vars:=?_ }
 ·intro j a oa
  obtain ⟨⟨o,h1⟩,h2⟩:=I.owL j a oa.1
  exact ⟨⟨o,kw j a oa.1 o h1⟩,h2⟩
 ·intro y b' p' ok g
  rw [get_set] at g
  by_cases q:enc y=enc x
  ·rw [if_pos q] at g
   have:y=x:=enc_inj ok okx q
   subst this
   cases g
   exact ⟨v,hv,fun _=>hr.map fun a o n g=>⟨n,k a o (fun q=>n (q ▸ bHA _)) g⟩,fun z=>by cases z⟩
  ·rw [if_neg q] at g
   obtain ⟨w,hw,h1,h2⟩:=I.vars y b' p' ok g
   refine ⟨w,ho y w (fun z=>q (z ▸ rfl)) hw,fun z=>(h1 z).map kr,fun z=>(h2 z).map (fun a o oa=>kw _ a oa o) (fun a=>⟨fun u=>u.1,fun u=>⟨u,by simpa using q⟩⟩) kr⟩
noncomputable def adopt (ow:Nat→Hid) (x:Nat) (D:Addr):Nat→Hid:=fun k a=>(k=x∧a=D)∨(k ≠ x∧ow k a)
theorem bindOwn (I:InS cx m A env ns (add Hx D) own ow ρ h) {x:Str} {vs:List Value} {ps:List PV} {b:Addr} (bH:∀ a,cx.B a→Hx a) (nH:¬ Hx D) (nG:¬ cx.GA D) (outer:∀ n c,env.cells.lookup n=some c→¬ own c→Hx c) (okx:okN x=true) (hb:b=env.locals∨own b) (k:Heap.ExtBut b h h') (hn:∃ m,h'.Ns env.locals m) (hc:∀ c,own c→∃ v,h'.IsCell c v)
  (hv:VarAt h' env x (.ref D)) (ho:∀ y w,y ≠ x→VarAt h env y w→VarAt h' env y w) (hl:IsLs h D vs) (hr:RepAll cx h (HA (add Hx D) env own ow) vs ps):InS cx m A env ns Hx own (adopt ow (enc x) D) (PEnv.set ρ (enc x) true (.list ps)) h':=by
 have nl:D ≠ env.locals:=fun q=>I.fH.1 (.inr q.symm)
 have no:¬ own D:=fun q=>I.fH.2 D q (.inr rfl)
 have lb:Live h' b:=hb.elim (fun q=>q ▸ ((by obtain ⟨_,n⟩:=hn;exact Ns_live n))) fun q=>((by obtain ⟨_,o,e,_⟩:=hc b q;exact ⟨o,e⟩))
 have Db:D ≠ b:=fun q=>hb.elim (fun z=>nl (q.trans z)) fun z=>no (q ▸ z)
 obtain ⟨e,c⟩:=I.turned hb k lb
 have up:∀ a,HA Hx env own (adopt ow (enc x) D) a→HA (add Hx D) env own ow a:=fun a q=>by
  rcases q with q|q|q|⟨k,_,⟨_,q⟩|⟨_,q⟩⟩
  ·exact .inl (.inl q)
  ·exact .inr (.inl q)
  ·exact .inr (.inr (.inl q))
  ·exact .inl (.inr q)
  ·exact .inr (.inr (.inr ⟨k,fun x=>x,q⟩))
 have bHA:HA (add Hx D) env own ow b:=hb.elim (fun q=>.inr (.inl q)) fun q=>.inr (.inr (.inl q))
 have kr:∀ a o,¬ HA (add Hx D) env own ow a→h.get? a=some o→¬ HA Hx env own (adopt ow (enc x) D) a∧h'.get? a=some o:=fun a o n g=>⟨fun q=>n (up a q),k a o (fun q=>n (q ▸ bHA)) g⟩
 have kw:∀ j a,ow j a→∀ o,h.get? a=some o→h'.get? a=some o:=fun j a oa o=>k a o fun q=>by
  obtain ⟨_,_,n2,n3,_⟩:=I.owL j a oa
  rcases hb with z|z
  ·exact n2 (q.trans z)
  ·exact n3 (q ▸ z)
 refine { I with cn:=⟨c.gi,fun a q=>c.hid a (.inl q),bH,fun a q=>c.hg a (.inl q)⟩,nsl:=hn,cells:=hc,fH:=⟨fun q=>I.fH.1 (.inl q),fun c oc q=>I.fH.2 c oc (.inl q)⟩,outer:=fun n c e q=>⟨outer n c e q,(I.outer n c e q).2⟩,owL:=?_,owP:=?_,owA:=?_,vars:=?_ }
 ·intro j a oa
  rcases oa with ⟨rfl,rfl⟩|⟨_,oa⟩
  ·obtain ⟨o,ho⟩:=hl.live
   exact ⟨⟨o,k _ o Db ho⟩,nH,nl,no,nG⟩
  ·obtain ⟨⟨o,h1⟩,h2,h3⟩:=I.owL j a oa
   exact ⟨⟨o,kw j a oa o h1⟩,fun q=>h2 (.inl q),h3⟩
 ·intro j a oa
  rcases oa with ⟨rfl,rfl⟩|⟨ne,oa⟩
  ·exact ⟨_,by rw [get_set,if_pos rfl]⟩
  ·obtain ⟨q,hq⟩:=I.owP j a oa
   exact ⟨q,by rw [get_set,if_neg ne];exact hq⟩
 ·intro i j a oi oj
  rcases oi with ⟨rfl,rfl⟩|⟨_,oi⟩ <;> rcases oj with ⟨rfl,e⟩|⟨_,oj⟩
  ·rfl
  ·exact ((I.owL j a oj).2.1 (.inr rfl)).elim
  ·exact ((I.owL i a oi).2.1 (.inr e)).elim
  ·exact I.owA i j a oi oj
 ·intro y b' p' ok g
  rw [get_set] at g
  by_cases q:enc y=enc x
  ·rw [if_pos q] at g
   have:y=x:=enc_inj ok okx q
   subst this
   cases g
   refine ⟨_,hv,fun z=>(by cases z),fun _=>⟨D,vs,rfl,fun a=>⟨fun u=>u.elim (fun u=>u.2) fun u=>(u.1 rfl).elim,fun u=>.inl ⟨rfl,u⟩⟩,hl.map fun o=>k _ o Db,hr.map kr⟩⟩
  ·rw [if_neg q] at g
   obtain ⟨w,hw,h1,h2⟩:=I.vars y b' p' ok g
   exact ⟨w,ho y w (fun z=>q (z ▸ rfl)) hw,fun z=>(h1 z).map kr,fun z=>(h2 z).map (fun a o oa=>kw _ a oa o) (fun a=>⟨fun u=>u.elim (fun u=>(q u.1).elim) fun u=>u.2,fun u=>.inr ⟨q,u⟩⟩) kr⟩
end InS
section
variable {cx:Cx} {m:Nat} {A:Around} {env:Env} {ns:Ns} {Hx:Hid} {own:Own} {ow:Nat→Hid} {ρ:PEnv} {s:Shared} {E:Value→Shared→Prop} {Q:Unit→Shared→Prop}
theorem store_name (I:InS cx m A env ns Hx own ow ρ s.heap) {x:Str} {v:Value} (hx:ns.lookup x=some .local∨ns.lookup x=some .cell)
  (h:∀ b h' tk,(b=env.locals∨own b)→Heap.ExtBut b s.heap h'→(∃ m,h'.Ns env.locals m)→(∀ c,own c→∃ v,h'.IsCell c v)→VarAt h' env x v→(∀ y w,y ≠ x→VarAt s.heap env y w→VarAt h' env y w)→Q () { s with heap:=h',toks:=tk }) :
  wpAny (model cx.prog cx.w) A (storeName env x v) Q E s:=by
 obtain ⟨mm,hmm⟩:=I.nsl
 have hp:(env.scope.kind == .class || (env.scope.kind == .module && env.locals != env.globals))=false:=by rw [I.kind];rfl
 rcases hx with hx|hx
 ·have hk:=I.loc x hx
  refine wpAny_storeName_local hk hmm (fun h' hn' hs'=>?_) hp
  have cl:∀ c,own c→∀ o,s.heap.get? c=some o→h'.get? c=some o:=fun c oc o=>hs'.extBut c o fun q=>I.lcl (q ▸ oc)
  refine h env.locals h' _ (.inl rfl) hs'.extBut ⟨_,hn'⟩ (fun c oc=>?_) (.inl ⟨hk,_,hn',by simp⟩) fun y w ne hy=>?_
  ·obtain ⟨v,o,e,r⟩:=I.cells c oc
   exact ⟨v,o,cl c oc o e,r⟩
  ·rcases hy with ⟨e,m2,hn2,h2⟩|⟨e,c,hc,o,ho,r⟩
   ·refine .inl ⟨e,_,hn',?_⟩
    simp only [if_neg ne]
    rw [← h2]
    obtain ⟨o1,es1,ep1,g1,d1,_,f1⟩:=hmm
    obtain ⟨o2,es2,ep2,g2,d2,_,f2⟩:=hn2
    rw [g1] at g2
    cases g2
    rw [d1] at d2
    cases d2
    rw [← f1,← f2]
   ·refine .inr ⟨e,c,hc,o,hs'.extBut c o (fun q=>?_) ho,r⟩
    by_cases oc:own c
    ·exact I.lcl (q ▸ oc)
    ·obtain ⟨o1,es1,ep1,g1,d1,_⟩:=hmm
     rw [q,g1] at ho
     cases ho
     rw [d1] at r
     cases r
 ·obtain ⟨hk,c,hc,oc⟩:=I.cel x hx
  obtain ⟨v0,hv0⟩:=I.cells c oc
  refine wpAny_storeName_cell I.kind hk hc hv0 fun h' hv' hs'=>?_
  refine h c h' _ (.inr oc) hs'.extBut ⟨mm,?_⟩ (fun d od=>?_) (.inr ⟨.inl hk,c,hc,hv'⟩) fun y w ne hy=>?_
  ·obtain ⟨o,es,ep,e,r⟩:=hmm
   exact ⟨o,es,ep,hs'.extBut _ o (fun q=>I.lcl (q ▸ oc)) e,r⟩
  ·by_cases q:d=c
   ·subst q;exact ⟨_,hv'⟩
   ·obtain ⟨v,o,e,r⟩:=I.cells d od
    exact ⟨v,o,hs'.extBut _ o q e,r⟩
  ·rcases hy with ⟨e,m2,⟨o,es,ep,g,r⟩,h2⟩|⟨e,d,hd,o,ho,r⟩
   ·exact .inl ⟨e,m2,⟨o,es,ep,hs'.extBut _ o (fun q=>I.lcl (q ▸ oc)) g,r⟩,h2⟩
   ·exact .inr ⟨e,d,hd,o,hs'.extBut _ o (fun q=>ne (I.cinj _ _ c (q ▸ hd) oc hc)) ho,r⟩
end
end Mine
end
section
set_option maxRecDepth 100000
open PySem PySem.Calls PyProof.Rows PySem.W
set_option genSizeOf false
set_option genInjectivity false
namespace Mine
section
variable {cx:Cx} {A:Around} {E:Value→Shared→Prop} {s:Shared} {Q:Value→Shared→Prop} {D:Addr} {vs:List Value}
theorem mapSeq_any (f:Array Value→Array Value) (xs:Array Value) (n:Nat):∃ n',Obj.mapSeq f { cls:=.type "list",data:=.seq xs n }={ cls:=.type "list",data:=.seq (f xs) n' }:=⟨_,rfl⟩
theorem append_ok {v:Value} (l:IsLs s.heap D vs) (hz:vs.length≤1000000) (h:∀ h',Heap.SameBut D s.heap h'→IsLs h' D (vs++[v])→Q .none { s with heap:=h' }) :
  wpAny (model cx.prog cx.w) A (call (.builtin "list.append") [.ref D,v]) Q E s:=by
 obtain ⟨n,g⟩:=l
 have:=sizeLine_big
 refine append_at g (fun h' hs hg=>h h' hs ⟨n+1,?_⟩) (by simp only [List.size_toArray];omega)
 rw [hg]
 simp
theorem extend_ok {b:Addr} {ws:List Value} (l:IsLs s.heap D vs) (l2:IsLs s.heap b ws) (hz:vs.length≤1000000) (hz2:ws.length≤1000000) (h:∀ h',Heap.SameBut D s.heap h'→IsLs h' D (vs++ws)→Q .none { s with heap:=h' }) :
  wpAny (model cx.prog cx.w) A (call (.builtin "list.extend") [.ref D,.ref b]) Q E s:=by
 obtain ⟨n,g⟩:=l
 obtain ⟨n2,g2⟩:=l2
 have:=sizeLine_big
 have door:¬(!vs.toArray.isEmpty && Builtin.List.listTooLong (vs.toArray.size+ws.toArray.size))=true:=by
  have:Builtin.List.listTooLong (vs.toArray.size+ws.toArray.size)=false:=by
   unfold Builtin.List.listTooLong
   simp only [List.size_toArray,decide_eq_false_iff_not];omega
  rw [this,Bool.and_false];exact Bool.false_ne_true
 refine call_meets F.slot_list_extend ⟨_,g,rfl⟩ F.entry_list_extend (F.args_list_extend_2 _ _) (AutoSeq1.list_extend_list_list_0 D vs.toArray n b ws.toArray n2 door (by simp only [List.size_toArray];omega) (by simp only [List.size_toArray];omega)) ⟨g,g2,?_⟩
 have hg:=Heap.get?_update_self (Obj.mapSeq fun xs=>xs++ws.toArray) g rfl
 obtain ⟨n',e'⟩:=mapSeq_any (fun xs=>xs++ws.toArray) vs.toArray n
 have e:vs.toArray++ws.toArray=(vs++ws).toArray:=by simp
 rw [e',e] at hg
 exact h _ (Heap.SameBut.update ..) ⟨n',hg⟩
theorem reverse_ok (l:IsLs s.heap D vs) (hz:vs.length≤1000000) (h:∀ h',Heap.SameBut D s.heap h'→IsLs h' D vs.reverse→Q .none { s with heap:=h' }) :
  wpAny (model cx.prog cx.w) A (call (.builtin "list.reverse") [.ref D]) Q E s:=by
 obtain ⟨n,g⟩:=l
 have:=sizeLine_big
 refine call_meets F.slot_list_reverse ⟨_,g,rfl⟩ F.entry_list_reverse (F.args_list_reverse_1 _) (AutoSeq1.list_reverse_list_0 D vs.toArray n (by simp only [List.size_toArray];omega)) ⟨g,?_⟩
 have hg:=Heap.get?_update_self (Obj.mapSeq fun xs=>xs.reverse) g rfl
 obtain ⟨n',e'⟩:=mapSeq_any (fun xs=>xs.reverse) vs.toArray n
 have e:vs.toArray.reverse=vs.reverse.toArray:=by simp
 rw [e',e] at hg
 exact h _ (Heap.SameBut.update ..) ⟨n',hg⟩
theorem setitem_ok {k:Int} {t:Tok} {j:Nat} {v:Value} {Q:Unit→Shared→Prop} (l:IsLs s.heap D vs) (hz:vs.length≤1000000) (hj:place k vs.length=some j) (hk:0≤k) (h:∀ h',Heap.SameBut D s.heap h'→IsLs h' D (vs.set j v)→Q () { s with heap:=h' }) :
  wpAny (model cx.prog cx.w) A (setItem (.ref D) (.int k t) v) Q E s:=by
 obtain ⟨n,g⟩:=l
 obtain ⟨hlt,hp⟩:=place_some hj
 have hT:s.TypeIs (.ref D) "list":=⟨_,g,rfl⟩
 have hfit:k<2 ^ 63:=by rcases hp with ⟨h1,h2⟩|⟨h1,_⟩ <;> omega
 unfold setItem
 try with_reducible refine wpAny_holding ?_
 first|refine wpAny_bind (wpAny_pure ?_)|skip
 refine wpAny_bind (wpAny_sequenceKey hT (by decide) ?_)
 refine wpAny_bind (wpAny_callSpecial?_slot (name:=Str.ofString "__setitem__") hT slot_list_setitem
  (wpAny_call_entry slot_list_setitem hT entry_list_setitem ?_ (args_list_setitem _ _ _)))
 show wpAny _ _ (Builtin.List.listSubscript? (.int k t) >>= _) _ _ s
 refine wpAny_bind (wpAny_listSubscript_int (fitsIndex_of hk hfit) ?_)
 clear hfit
 have hkj:k=(j:Int):=by rcases hp with ⟨h1,h2⟩|⟨h1,_⟩ <;> omega
 subst hkj
 have hx':vs.toArray[j]?=some vs[j]:=by simp [hlt]
 show wpAny _ _ ((seqItemAt D j >>= fun r=>pure (r.map (j,·))) >>= _) _ _ s
 refine wpAny_bind (wpAny_bind (wpAny_seqItemAt g rfl (wpAny_pure ?_)))
 rw [hx']
 show wpAny _ _ (setSeqItemAt D j v >>= _) _ _ s
 have hfin:IsLs (s.heap.update D (Obj.mapSeq (·.setIfInBounds j v))) D (vs.set j v):=by
  have hg:=Heap.get?_update_self (Obj.mapSeq (·.setIfInBounds j v)) g rfl
  obtain ⟨n',e'⟩:=mapSeq_any (·.setIfInBounds j v) vs.toArray n
  have e:vs.toArray.setIfInBounds j v=(vs.set j v).toArray:=by simp
  rw [e',e] at hg
  exact ⟨n',hg⟩
 refine wpAny_bind (wpAny_setSeqItemAt g rfl ?_)
 first
  | exact wpAny_bind (wpAny_pure (wpAny_pure ⟨.none,rfl,wpAny_pure (h _ (Heap.SameBut.update ..) hfin)⟩))
  | exact wpAny_pure ⟨.none,rfl,wpAny_pure (h _ (Heap.SameBut.update ..) hfin)⟩
end
namespace InS
variable {cx:Cx} {m:Nat} {A:Around} {env:Env} {ns:Ns} {Hx:Hid} {own:Own} {ow:Nat→Hid} {ρ:PEnv} {h h':Heap}
theorem frz (I:InS cx m A env ns Hx own ow ρ h) {occ:List Nat} {v:Value} {p:PV} (x:Rep cx h (HH Hx env own ow (·∈occ)) v p) :
  ∃ ow',InS cx m A env ns Hx own ow' (Mine.frz p occ ρ) h∧Rep cx h (HA Hx env own ow') v p∧∀ k a,ow' k a→ow k a:=by
 unfold Mine.frz
 cases hs:p.scalar with
 | true=>exact ⟨ow,I,x.scalar hs,fun _ _ z=>z⟩
 | false=>exact ⟨cut ow occ,I.frozen occ,by rw [HA_cut];exact x,fun _ _ z=>z.1⟩
theorem mutL (I:InS cx m A env ns Hx own ow ρ h) {x:Str} {D:Addr} {vs:List Value} {ps:List PV} (okx:okN x=true) (hD:∀ a,ow (enc x) a↔a=D) (hv:VarAt h env x (.ref D)) (k:Heap.SameBut D h h') (hl0:∃ us,IsLs h D us) (hl:IsLs h' D vs)
  (hr:RepAll cx h (HA Hx env own ow) vs ps) (hvar:∀ y w,VarAt h env y w→VarAt h' env y w):InS cx m A env ns Hx own ow (PEnv.set ρ (enc x) true (.list ps)) h'∧Ext cx (WW cx env own ow) h h':=by
 obtain ⟨_,nH,nl,no,nG⟩:=I.owL (enc x) D ((hD D).mpr rfl)
 have e:Ext cx (WW cx env own ow) h h':=.of_but (b:=D) (.inr (.inr (.inr ⟨enc x,(hD D).mpr rfl⟩))) (fun _=>nG) (fun _=>hl.live) k.extBut ((by obtain ⟨_,n⟩:=hl0;exact n.noCd))
 have DHA:HA Hx env own ow D:=.inr (.inr (.inr ⟨enc x,fun z=>z,(hD D).mpr rfl⟩))
 have kr:∀ a o,¬ HA Hx env own ow a→h.get? a=some o→¬ HA Hx env own ow a∧h'.get? a=some o:=fun a o n g=>⟨n,k.extBut a o (fun q=>n (q ▸ DHA)) g⟩
 have kb:∀ a o,a ≠ D→h.get? a=some o→h'.get? a=some o:=fun a o q g=>k.extBut a o q g
 refine ⟨{ I with cn:=⟨e.gi I.cn.gi,fun a q=>?_,I.cn.bH,I.cn.hg⟩,nsl:=?_,cells:=fun c oc=>?_,owL:=fun j a oa=>?_,owP:=fun j a oa=>?_,vars:=?_ },e⟩
 ·obtain ⟨o,ho⟩:=I.cn.hid a q
  exact ⟨o,kb a o (fun z=>nH (z ▸ q)) ho⟩
 ·obtain ⟨mm,o,es,ep,g,r⟩:=I.nsl
  exact ⟨mm,o,es,ep,kb _ o (Ne.symm nl) g,r⟩
 ·obtain ⟨v,o,g,r⟩:=I.cells c oc
  exact ⟨v,o,kb _ o (fun z=>no (z ▸ oc)) g,r⟩
 ·obtain ⟨⟨o,h1⟩,h2⟩:=I.owL j a oa
  by_cases q:a=D
  ·subst q;exact ⟨hl.live,h2⟩
  ·exact ⟨⟨o,kb a o q h1⟩,h2⟩
 ·by_cases q:j=enc x
  ·exact ⟨_,by rw [get_set,if_pos q]⟩
  ·obtain ⟨p,hp⟩:=I.owP j a oa
   exact ⟨p,by rw [get_set,if_neg q];exact hp⟩
 ·intro y b' p' ok g
  rw [get_set] at g
  by_cases q:enc y=enc x
  ·rw [if_pos q] at g
   have:y=x:=enc_inj ok okx q
   subst this
   cases g
   exact ⟨_,hvar _ _ hv,fun z=>(by cases z),fun _=>⟨D,vs,rfl,hD,hl,hr.map kr⟩⟩
  ·rw [if_neg q] at g
   obtain ⟨w,hw,h1,h2⟩:=I.vars y b' p' ok g
   exact ⟨w,hvar _ _ hw,fun z=>(h1 z).map kr,fun z=>(h2 z).map (fun a o oa=>kb a o fun z=>q (I.owA _ _ a oa ((hD a).mpr z))) (fun _=>Iff.rfl) kr⟩
theorem keepVar {D:Addr} (k:Heap.SameBut D h h') (nl:D ≠ env.locals) (nc:∀ n c,env.cells.lookup n=some c→c ≠ D):∀ y w,VarAt h env y w→VarAt h' env y w:=fun y w hy =>
 hy.keep fun a o ha g=>k.extBut a o (fun q=>by
  rcases ha with rfl|⟨n,c,hc,rfl⟩
  ·exact nl q.symm
  ·exact nc n _ hc q) g
theorem owCell (I:InS cx m A env ns Hx own ow ρ h) {k:Nat} {D:Addr} (o:ow k D):D ≠ env.locals∧∀ n c,env.cells.lookup n=some c→c ≠ D:=by
 obtain ⟨_,nH,nl,no,_⟩:=I.owL k D o
 refine ⟨nl,fun n c hc q=>?_⟩
 subst q
 exact nH (I.outer n c hc no).1
end InS
end Mine
end
section
set_option maxRecDepth 100000
open PySem PySem.Calls PyProof.Rows PySem.W
set_option genSizeOf false
set_option genInjectivity false
namespace Mine
noncomputable def isTgt (ns:Ns) (x:Str):Prop:=ns.lookup x=some .local∨ns.lookup x=some .cell
noncomputable def uni (a:List Nat):List Nat→List Nat
 | []=>a
 | x :: r=>match PEnv.has a x with
  | true=>uni a r
  | false=>uni (a++[x]) r
noncomputable def unis (f:PE→List Nat):List PE→List Nat
 | []=>[]
 | e :: r=>uni (f e) (unis f r)
noncomputable def occ:Nat→PE→List Nat
 | 0,_=>[]
 | n+1,e=>match e with
  | .var x=>[x]
  | .bin _ a b=>uni (occ n a) (occ n b)
  | .neg a=>occ n a
  | .inv a=>occ n a
  | .not a=>occ n a
  | .cmp _ a b=>uni (occ n a) (occ n b)
  | .and l=>unis (occ n) l
  | .or l=>unis (occ n) l
  | .ite c a b=>uni (occ n c) (uni (occ n a) (occ n b))
  | .list l=>unis (occ n) l
  | .tup l=>unis (occ n) l
  | .idx a b=>uni (occ n a) (occ n b)
  | .slice o a b c=>uni (uni (occ n o) (occ n a)) (uni (occ n b) (occ n c))
  | .call _ l=>unis (occ n) l
  | .bi _ l=>unis (occ n) l
  | .meth _ o l=>uni (occ n o) (unis (occ n) l)
  | .imeth o _ l=>uni (occ n o) (unis (occ n) l)
  | .attr o _=>occ n o
  | .gmeth _ _ l=>unis (occ n) l
  | .comp _ _ _ i _ caps=>uni (occ n i) caps
  | .tv a=>occ n a
  | _=>[]
noncomputable abbrev oc (e:PE):List Nat:=occ 20 e
noncomputable def chB (ts:List Expr):Bool:=Nat.ble 2 ts.length
noncomputable def trCh (r:Tr) (ns:Ns) (ts:List Expr) (e:Expr):Option PS:=ogo (chB ts) (ob (namesT (tgtB ns) ts) fun xs=>ob (r.E ns e) fun pe=>some (.chain (encs xs) pe))
noncomputable def trAsN (r:Tr) (ns:Ns) (e:Expr) (x:Str × Pos):Option PS:=ogo (tgtB ns x.1) (ob (r.E ns e) fun pe=>some (.assign (enc x.1) pe (oc pe)))
noncomputable def trUn2 (r:Tr) (ns:Ns) (e:Expr) (l:List Expr × Nat × Pos):Option PS:=ogo ((tp? e).isNone && !cpB e) (ob (trTm ns l) fun xs=>ogo (!xs.2) (ob (r.E ns e) fun pe=>some (.unpack xs.1 pe (oc pe))))
noncomputable def swapB (x y:Str × Pos) (u v:Expr):Bool:=(!(x.1 == y.1)) && ((y.2.line == x.2.line) && (!([u,v].all (foldedForSure 8)) && !([u,v].all (constantsAlone 8))))
noncomputable def two2? {α:Type} (l:List α):Option (α × α):=match l with
 | [a,b]=>some (a,b)
 | _=>none
theorem two2_i {α:Type} {l:List α} {a:α × α} (h:two2? l=some a):l=[a.1,a.2]:=by
 match l,h with
 | [_,_],h=>obtain rfl:=Option.some.inj h;rfl
noncomputable def trUr (r:Tr) (ns:Ns) (e:Expr) (l v:List Expr × Nat × Pos):Option PS:=ob (namesT (locB ns) l.1) fun xs=>ob (two2? xs) fun x=>ob (two2? v.1) fun y=>ogo (swapB x.1 x.2 y.1 y.2) (ob (r.E ns y.1) fun _=>ob (r.E ns y.2) fun _=>ob (r.E ns e) fun pe=>some (.unpackR (encs [x.1,x.2]) pe (oc pe)))
noncomputable def trAsT (r:Tr) (ns:Ns) (e:Expr) (l:List Expr × Nat × Pos):Option PS:=om (tp? e) (trUr r ns e l) (trUn2 r ns e l)
noncomputable def trIx (r:Tr) (ns:Ns) (e:Expr) (t:Expr × Expr × Pos):Option PS:=ob (nm? t.1) fun x=>ogo (okD x.1 && !cpB e) (ob (r.E ns t.2.1) fun a=>ob (r.E ns e) fun b=>some (.setidx (enc x.1) a b))
noncomputable def saB (x a:Str) (e:Expr):Bool:=okD x && okN a && decide (a∈atNames) && !cpB e
noncomputable def trSa (r:Tr) (ns:Ns) (e:Expr) (t:Expr × Str × Pos):Option PS:=ob (nm? t.1) fun x=>ogo (saB x.1 t.2.1 e) (ob (r.E ns e) fun b=>some (.setattr (enc x.1) (enc t.2.1) b (oc b)))
noncomputable def trAs1 (r:Tr) (ns:Ns) (e t:Expr):Option PS:=om (nm? t) (trAsN r ns e) (om (tp? t) (trAsT r ns e) (om (sb? t) (trIx r ns e) (ob (at? t) (trSa r ns e))))
noncomputable def trAsg (r:Tr) (ns:Ns) (ts:List Expr) (e:Expr):Option PS:=om (l1? ts) (trAs1 r ns e) (trCh r ns ts e)
noncomputable def trAp (r:Tr) (ns:Ns) (x:Str) (es:List Expr):Option PS:=ob (l1? es) fun e=>ob (r.E ns e) fun b=>some (.append (enc x) b (oc b))
noncomputable def msB (x:Str) (c:CallX) (a:Expr × Str × Pos):Bool:=okD x && c.2.2.1.isEmpty && (a.2.2.endLine == c.2.2.2.line)
noncomputable def trXt (r:Tr) (ns:Ns) (x:Str) (es:List Expr):Option PS:=ob (l1? es) fun e=>ob (r.E ns e) fun b=>some (.extend (enc x) b (oc b))
noncomputable def trMs (r:Tr) (ns:Ns) (x m:Str) (es:List Expr):Option PS:=oe (m == ("append":Str)) (trAp r ns x es) (oe (m == ("extend":Str)) (trXt r ns x es) (ogo (m == ("reverse":Str) && es.isEmpty) (some (.reverse (enc x)))))
noncomputable def trEx (r:Tr) (ns:Ns) (e:Expr):Option PS:=ob (cl? e) fun c=>ob (at? c.1) fun a=>ob (nm? a.1) fun x=>ogo (msB x.1 c a) (trMs r ns x.1 a.2.1 c.2.1)
noncomputable def trAug (r:Tr) (ns:Ns) (t:Expr) (o:Operator) (e:Expr):Option PS:=ob (nm? t) fun x=>ogo (tgtB ns x.1) (ob (binOf o) fun k=>ob (r.E ns e) fun a=>some (.aug (enc x.1) k a))
noncomputable def trFor (r:Tr) (f:Ns→Stmt→PS) (ns:Ns) (t it:Expr) (a b:List Stmt):Option PS:=ob (trTg ns t) fun x=>ob (trI (r.E ns) ns it) fun pi=>some (.for_ x.1 x.2 pi (oc pi) (a.map (f ns)) (b.map (f ns)))
noncomputable def trS1 (r:Tr) (f:Ns→Stmt→PS) (ns:Ns) (st:Stmt):Option PS:=match st with
 | .Assign ts e _=>trAsg r ns ts e
 | .Expr e _=>trEx r ns e
 | .AugAssign t o e _=>trAug r ns t o e
 | .If c a b _=>ob (r.T ns c) fun pc=>some (.if_ pc (a.map (f ns)) (b.map (f ns)))
 | .For t it a b _=>trFor r f ns t it a b
 | .Return v _=>ob v fun e=>ob (r.E ns e) fun pe=>some (.ret pe (oc pe))
 | .While c a b _=>ogo b.isEmpty (ob (r.T ns c) fun pc=>some (.while_ pc (a.map (f ns))))
 | .Break _=>some .brk
 | .Pass _=>some .pass
 | _=>none
noncomputable def trSt:Nat→Ns→Stmt→PS
 | 0,_,_=>.stuck
 | n+1,ns,st=>(trS1 (tr n) (trSt n) ns st).getD .stuck
noncomputable def CS (ns:Ns) (st:Stmt) (ps:PS):Prop:=∃ n,trSt n ns st=ps
noncomputable def CSs (ns:Ns) (ss:List Stmt) (l:List PS):Prop:=∃ n,ss.map (trSt n ns)=l
section
variable {m:Nat} {f:Ns→Stmt→PS} {ns:Ns} {ps:PS} {P:Prop}
theorem s_asg {ts:List Expr} {e:Expr} (hc:trAsg (tr m) ns ts e=some ps)
  (a:∀ (x:Str × Pos) pe,ts=[.Name x.1 x.2]→okN x.1=true→isTgt ns x.1→CE ns e pe→ps=.assign (enc x.1) pe (oc pe)→P)
  (u:∀ l j q xs pe,ts=[.Tuple l j q]→CTg ns (.Tuple l j q) xs false→tp? e=none→cpB e=false→CE ns e pe→ps=.unpack xs pe (oc pe)→P)
  (w:∀ (x y:Str × Pos) (u v:Expr) j q j' q' pe,ts=[.Tuple [.Name x.1 x.2,.Name y.1 y.2] j q]→e=.Tuple [u,v] j' q'→locB ns x.1=true→locB ns y.1=true→swapB x y u v=true→(∃ a,CE ns u a)→(∃ a,CE ns v a)→CE ns e pe→ps=.unpackR (encs [x,y]) pe (oc pe)→P)
  (i:∀ (x:Str × Pos) j q k b,ts=[.Subscript (.Name x.1 x.2) j q]→okD x.1=true→cpB e=false→CE ns j k→CE ns e b→ps=.setidx (enc x.1) k b→P)
  (d:∀ (x:Str × Pos) k q b,ts=[.Attribute (.Name x.1 x.2) k q]→okD x.1=true→okN k=true→k∈atNames→cpB e=false→CE ns e b→ps=.setattr (enc x.1) (enc k) b (oc b)→P)
  (c:∀ (xs:List (Str × Pos)) pe,ts=xs.map (fun x=>.Name x.1 x.2)→(∀ x∈xs,tgtB ns x.1=true)→2≤xs.length→CE ns e pe→ps=.chain (encs xs) pe→P):P:=by
 rcases om_i hc with ⟨t,ht,k1⟩|k1
 ·rcases om_i k1 with ⟨x,hx,k2⟩|k2
  ·obtain ⟨h2,k3⟩:=ogo_i k2
   exact ob_e k3 fun pe h3 k4=>a x pe (by rw [l1_i ht,nm_i hx]) (tgtB_i h2).1 (tgtB_i h2).2 ⟨m,h3⟩ (Option.some.inj k4).symm
  ·rcases om_i k2 with ⟨l,hl,k3⟩|k3
   ·rcases om_i k3 with ⟨v,hv,k4⟩|k4
    ·refine ob_e k4 fun xs h1 k5=>ob_e k5 fun x h2 k6=>ob_e k6 fun y h3 k7=>?_
     obtain ⟨h4,k8⟩:=ogo_i k7
     refine ob_e k8 fun b1 h5 k9=>ob_e k9 fun b2 h6 k10=>ob_e k10 fun pe h7 k11=>?_
     obtain ⟨h8,h9⟩:=namesT_i h1
     rw [two2_i h2] at h8 h9
     exact w x.1 x.2 y.1 y.2 _ _ _ _ pe (by rw [l1_i ht,tp_i hl,h8];rfl) (by rw [tp_i hv,two2_i h3]) (h9 _ (.head _)) (h9 _ (.tail _ (.head _))) h4 ⟨_,m,h5⟩ ⟨_,m,h6⟩ ⟨m,h7⟩ (Option.some.inj k11).symm
    ·obtain ⟨h1,k5⟩:=ogo_i k4
     refine ob_e k5 fun xs h2 k6=>?_
     obtain ⟨h3,k7⟩:=ogo_i k6
     refine ob_e k7 fun pe h4 k8=>?_
     have h5:trTg ns (.Tuple l.1 l.2.1 l.2.2)=some xs:=h2
     have h6:=trTg_i h5
     rw [(Bool.not_eq_true' _).mp h3] at h6
     exact u l.1 l.2.1 l.2.2 xs.1 pe (by rw [l1_i ht,tp_i hl]) h6 (Option.isNone_iff_eq_none.mp (band h1).1) ((Bool.not_eq_true' _).mp (band h1).2) ⟨m,h4⟩ (Option.some.inj k8).symm
   ·rcases om_i k3 with ⟨z,hz,k4⟩|k4
    ·refine ob_e k4 fun x hx k5=>?_
     obtain ⟨h1,k6⟩:=ogo_i k5
     exact ob_e k6 fun k h2 k7=>ob_e k7 fun b h3 k8=>i x z.2.1 z.2.2 k b (by rw [l1_i ht,sb_i hz,nm_i hx]) (band h1).1 ((Bool.not_eq_true' _).mp (band h1).2) ⟨m,h2⟩ ⟨m,h3⟩ (Option.some.inj k8).symm
    ·refine ob_e k4 fun z hz k5=>ob_e k5 fun x hx k6=>?_
     obtain ⟨h1,k7⟩:=ogo_i k6
     obtain ⟨h2,h3⟩:=band h1
     obtain ⟨h4,h5⟩:=band h2
     exact ob_e k7 fun b h6 k8=>d x z.2.1 z.2.2 b (by rw [l1_i ht,at_i hz,nm_i hx]) (band h4).1 (band h4).2 (of_decide_eq_true h5) ((Bool.not_eq_true' _).mp h3) ⟨m,h6⟩ (Option.some.inj k8).symm
 ·obtain ⟨h1,k2⟩:=ogo_i k1
  refine ob_e k2 fun xs h2 k3=>ob_e k3 fun pe h3 k4=>?_
  obtain ⟨h4,h5⟩:=namesT_i h2
  exact c xs pe h4 h5 (by have:=ble_true.mp h1;rw [h4,List.length_map] at this;exact this) ⟨m,h3⟩ (Option.some.inj k4).symm
theorem s_ex {e:Expr} (hc:trEx (tr m) ns e=some ps)
  (a:∀ (x:Str × Pos) ap q y b,e=.Call (.Attribute (.Name x.1 x.2) "append" ap) [y] [] q→okD x.1=true→(ap.endLine == q.line)=true→CE ns y b→ps=.append (enc x.1) b (oc b)→P)
  (d:∀ (x:Str × Pos) ap q y b,e=.Call (.Attribute (.Name x.1 x.2) "extend" ap) [y] [] q→okD x.1=true→(ap.endLine == q.line)=true→CE ns y b→ps=.extend (enc x.1) b (oc b)→P)
  (r:∀ (x:Str × Pos) ap q,e=.Call (.Attribute (.Name x.1 x.2) "reverse" ap) [] [] q→okD x.1=true→(ap.endLine == q.line)=true→ps=.reverse (enc x.1)→P):P:=by
 refine ob_e hc fun c hc k1=>ob_e k1 fun d' hd k2=>ob_e k2 fun x hx k3=>?_
 obtain ⟨h1,k4⟩:=ogo_i k3
 obtain ⟨h2,h3⟩:=band h1
 obtain ⟨h4,h5⟩:=band h2
 have h0:e=.Call (.Attribute (.Name x.1 x.2) d'.2.1 d'.2.2) c.2.1 [] c.2.2.2:=by rw [cl_i hc,at_i hd,nm_i hx,List.isEmpty_iff.mp h5]
 rcases oe_i k4 with ⟨h6,k5⟩|k5
 ·exact ob_e k5 fun y hy k6=>ob_e k6 fun b hb k7=>a x _ _ y b (by rw [h0,eq_of_beq h6,l1_i hy]) h4 h3 ⟨m,hb⟩ (Option.some.inj k7).symm
 rcases oe_i k5 with ⟨h6,k5⟩|k5
 ·exact ob_e k5 fun y hy k6=>ob_e k6 fun b hb k7=>d x _ _ y b (by rw [h0,eq_of_beq h6,l1_i hy]) h4 h3 ⟨m,hb⟩ (Option.some.inj k7).symm
 ·obtain ⟨h6,k6⟩:=ogo_i k5
  exact r x _ _ (by rw [h0,eq_of_beq (band h6).1,List.isEmpty_iff.mp (band h6).2]) h4 h3 (Option.some.inj k6).symm
theorem s_aug {t:Expr} {o:Operator} {e:Expr} (hc:trAug (tr m) ns t o e=some ps) (K:∀ (x:Str × Pos) k a,t=.Name x.1 x.2→tgtB ns x.1=true→opOf k=o→CE ns e a→ps=.aug (enc x.1) k a→P):P:=by
 refine ob_e hc fun x hx k1=>?_
 obtain ⟨h1,k2⟩:=ogo_i k1
 exact ob_e k2 fun k hk k3=>ob_e k3 fun a ha k4=>K x k a (nm_i hx) h1 (binOf_i hk) ⟨m,ha⟩ (Option.some.inj k4).symm
theorem CS.step {st:Stmt} (hc:CS ns st ps) (a:ps=.stuck→P) (K:∀ n,trS1 (tr n) (trSt n) ns st=some ps→P):P:=by
 obtain ⟨n,h⟩:=hc
 induction n using Nat.casesOn with
 | zero=>exact a h.symm
 | succ n =>
  have h:(trS1 (tr n) (trSt n) ns st).getD .stuck=ps:=h
  cases q:trS1 (tr n) (trSt n) ns st with
  | none=>rw [q] at h;exact a h.symm
  | some p=>rw [q] at h;exact K n (by rw [q];exact congrArg some h)
end
noncomputable def PostS (cx:Cx) (m:Nat) (A:Around) (env:Env) (ns:Ns) (Hx:Hid) (own:Own) (ow:Nat→Hid) (ρ':PEnv) (s:Shared) (Q:Flow→Shared→Prop):Fl→Prop
 | .next=>∀ h' tk ow',Ext cx (WW cx env own ow) s.heap h'→(∀ k a,ow' k a→(∃ j,ow j a)∨¬ Live s.heap a)→InS cx m A env ns Hx own ow' ρ' h'→Q .next { s with heap:=h',toks:=tk }
 | .brk=>∀ h' tk ow',Ext cx (WW cx env own ow) s.heap h'→(∀ k a,ow' k a→(∃ j,ow j a)∨¬ Live s.heap a)→InS cx m A env ns Hx own ow' ρ' h'→Q .brk { s with heap:=h',toks:=tk }
 | .ret p=>∀ h' tk v,Ext cx (WW cx env own ow) s.heap h'→Cn cx h' Hx→Rep cx h' Hx v p→Q (.ret v) { s with heap:=h',toks:=tk }
theorem WW_trans {cx:Cx} {env:Env} {own:Own} {ow ow':Nat→Hid} {h h' h'':Heap} (e:Ext cx (WW cx env own ow) h h') (sub:∀ k a,ow' k a→(∃ j,ow j a)∨¬ Live h a) (e':Ext cx (WW cx env own ow') h' h''):Ext cx (WW cx env own ow) h h'':=by
 refine ⟨fun a o n g=>e'.keep a o (fun w=>?_) (e.keep a o n g),fun a c l=>?_,fun g=>e'.gi (e.gi g)⟩
 ·rcases w with w|w|w|⟨k,w⟩
  ·exact n (.inl w)
  ·exact n (.inr (.inl w))
  ·exact n (.inr (.inr (.inl w)))
  ·exact (sub k a w).elim (fun ⟨j,q⟩=>n (.inr (.inr (.inr ⟨j,q⟩)))) fun q=>q ⟨o,g⟩
 ·by_cases w:WW cx env own ow' a
  ·rcases w with w|w|w|⟨k,w⟩
   ·exact e'.alive a (.inr w) (e.alive a c l)
   ·exact c.elim (fun n=>(n (.inr (.inl w))).elim) fun t=>e'.alive a (.inr t) (e.alive a (.inr t) l)
   ·exact c.elim (fun n=>(n (.inr (.inr (.inl w)))).elim) fun t=>e'.alive a (.inr t) (e.alive a (.inr t) l)
   ·exact c.elim (fun n=>(sub k a w).elim (fun ⟨j,q⟩=>(n (.inr (.inr (.inr ⟨j,q⟩)))).elim) fun q=>(q l).elim) fun t=>e'.alive a (.inr t) (e.alive a (.inr t) l)
  ·exact e'.alive a (.inl w) (e.alive a c l)
theorem sub_trans {cx:Cx} {m:Nat} {A:Around} {env:Env} {ns:Ns} {Hx:Hid} {own:Own} {ρ':PEnv} {ow ow' ow'':Nat→Hid} {h h':Heap} (e:Ext cx (WW cx env own ow) h h') (I':InS cx m A env ns Hx own ow' ρ' h') (sub:∀ k a,ow' k a→(∃ j,ow j a)∨¬ Live h a)
  (sub':∀ k a,ow'' k a→(∃ j,ow' j a)∨¬ Live h' a):∀ k a,ow'' k a→(∃ j,ow j a)∨¬ Live h a:=fun k a o=>by
 rcases sub' k a o with ⟨j,q⟩|q
 ·exact sub j a q
 ·by_cases l:Live h a
  ·by_cases w:WW cx env own ow a
   ·rcases w with w|w|w|w
    ·exact (q (e.alive a (.inr w) l)).elim
    ·exact (q (w ▸ I'.frame_live.1)).elim
    ·exact (q (I'.frame_live.2 a w)).elim
    ·exact .inl w
   ·exact (q (e.alive a (.inl w) l)).elim
  ·exact .inr l
theorem WW_of_ext {cx:Cx} {env:Env} {own:Own} {ow:Nat→Hid} {h h':Heap} (e:Ext cx cx.T h h'):Ext cx (WW cx env own ow) h h':=e.weaken fun _ t=>.inl t
theorem HA_mono {Hx:Hid} {env:Env} {own:Own} {ow ow':Nat→Hid} (k:∀ j a,ow' j a→ow j a):∀ a,HA Hx env own ow' a→HA Hx env own ow a:=fun a w=>by
 rcases w with w|w|w|⟨j,n,w⟩
 ·exact .inl w
 ·exact .inr (.inl w)
 ·exact .inr (.inr (.inl w))
 ·exact .inr (.inr (.inr ⟨j,n,k j a w⟩))
theorem InS.up {cx:Cx} {m m':Nat} {A:Around} {env:Env} {ns:Ns} {Hx:Hid} {own:Own} {ow:Nat→Hid} {ρ:PEnv} {h:Heap} (I:InS cx m A env ns Hx own ow ρ h) (r:Room A m'):InS cx m' A env ns Hx own ow ρ h:={ I with room:=r }
section
variable {cx:Cx} {m:Nat} {A:Around} {env:Env} {ns:Ns} {Hx:Hid} {own:Own} {E:Value→Shared→Prop}
theorem go_len:∀ {ks:List Nat} {ps:List PV} {ρ ρ':PEnv},bindT.go ks ps ρ=some ρ'→ks.length=ps.length
 | [],[],_,_,_=>rfl
 | [],_ :: _,_,_,h=>(Option.some_ne_none _ h.symm).elim
 | _ :: _,[],_,_,h=>(Option.some_ne_none _ h.symm).elim
 | _ :: ks,_ :: ps,_,_,h=>congrArg Nat.succ (go_len (ks:=ks) (ps:=ps) h)
theorem cut_le {ow:Nat→Hid} {l:List Nat}:∀ j a,InS.cut ow l j a→ow j a:=fun _ _ q=>q.1
theorem bound_live {h':Heap} {b:Addr} (hb:b=env.locals∨own b) (hn:∃ m,h'.Ns env.locals m) (hc:∀ c,own c→∃ v,h'.IsCell c v):Live h' b :=
 hb.elim (fun q=>q ▸ ((by obtain ⟨_,n⟩:=hn;exact Ns_live n))) fun q=>((by obtain ⟨_,o,e,_⟩:=hc b q;exact ⟨o,e⟩))
theorem names_ok {β:Type} {nm:β→Str} {f:β→Value→Sem Unit} (hf:∀ {y v} {Q:Unit→Shared→Prop} {s:Shared},wpAny (model cx.prog cx.w) A (storeName env (nm y) v) Q E s→wpAny (model cx.prog cx.w) A (f y v) Q E s) :
  ∀ {xs:List β} {s:Shared} {ow:Nat→Hid} {ρ ρ':PEnv} {vs:List Value} {ps:List PV} {Q:Unit→Shared→Prop},(∀ x∈xs,okN (nm x)=true∧isTgt ns (nm x))→InS cx m A env ns Hx own ow ρ s.heap→RepAll cx s.heap (HA Hx env own ow) vs ps →
   bindT.go (xs.map fun x=>enc (nm x)) ps ρ=some ρ'→(∀ h' tk ow',Ext cx (WW cx env own ow) s.heap h'→(∀ k a,ow' k a→ow k a)→InS cx m A env ns Hx own ow' ρ' h'→Q () { s with heap:=h',toks:=tk }) →
   wpAny (model cx.prog cx.w) A (assignInOrder (xs.map f) vs) Q E s
 | [],s,ow,ρ,ρ',vs,[],Q,_,I,hr,hb,h=>by
  obtain rfl:=hr.nil'
  exact assignInOrder_nil (h s.heap s.toks ow .refl (fun _ _ x=>x) (Option.some.inj hb ▸ I))
 | [],s,ow,ρ,ρ',vs,_ :: _,Q,_,I,hr,hb,h=>(Option.some_ne_none _ hb.symm).elim
 | _ :: _,s,ow,ρ,ρ',vs,[],Q,_,I,hr,hb,h=>(Option.some_ne_none _ hb.symm).elim
 | x :: xs,s,ow,ρ,ρ',vs,p :: ps,Q,hx,I,hr,hb,h=>by
  obtain ⟨v,ws,rfl,a,r⟩:=hr.cons'
  obtain ⟨okx,tx⟩:=hx x (.head _)
  refine assignInOrder_cons (hf (store_name I tx fun b h' tk hb' k hn hc hv ho=>?_))
  have e:=(I.turned hb' k (bound_live hb' hn hc)).1
  have bHA:HA Hx env own ow b:=hb'.elim (fun q=>.inr (.inl q)) fun q=>.inr (.inr (.inl q))
  refine names_ok hf (fun y hy=>hx y (.tail _ hy)) (I.bind okx hb' k hn hc hv ho (a.open' (HA_mono cut_le))) (r.map fun a o n g=>⟨fun q=>n (HA_mono cut_le a q),k a o (fun q=>n (q ▸ bHA)) g⟩) hb fun h'' tk'' ow'' e'' sub'' I''=>?_
  exact h h'' tk'' ow'' (WW_trans e (fun j a q=>.inl ⟨j,q.1⟩) e'') (fun j a q=>(sub'' j a q).1) I''
theorem assignEach_names {xs:List (Str × Pos)}:(assignEach (xs.map fun x=>Expr.Name x.1 x.2) env).map (·.2)=xs.map (fun x=>assign (.Name x.1 x.2) env)∧(assignEach (xs.map fun x=>Expr.Name x.1 x.2) env).findIdx? (·.1)=none∧(assignEach (xs.map fun x=>Expr.Name x.1 x.2) env).length=xs.length:=by
 induction xs with
 | nil=>exact ⟨rfl,rfl,rfl⟩
 | cons x xs ih =>
  have e:assignEach ((x :: xs).map fun x=>Expr.Name x.1 x.2) env=(false,assign (.Name x.1 x.2) env) :: assignEach (xs.map fun x=>Expr.Name x.1 x.2) env:=rfl
  rw [e]
  refine ⟨by rw [List.map_cons,ih.1];rfl,?_,by rw [List.length_cons,ih.2.2];rfl⟩
  rw [List.findIdx?_cons,ih.2.1]
  rfl
theorem tgt_ok {t:Expr} {xs:List Nat} {si:Bool} {s:Shared} {ow:Nat→Hid} {ρ ρ':PEnv} {v:Value} {p:PV} {Q:Unit→Shared→Prop} (tg:CTg ns t xs si) (I:InS cx m A env ns Hx own ow ρ s.heap) (hb:bindT xs si p ρ=some ρ') (hr:Rep cx s.heap (HA Hx env own ow) v p)
  (h:∀ h' tk ow',Ext cx (WW cx env own ow) s.heap h'→(∀ k a,ow' k a→ow k a)→InS cx m A env ns Hx own ow' ρ' h'→Q () { s with heap:=h',toks:=tk }):wpAny (model cx.prog cx.w) A (assign t env v) Q E s:=by
 cases tg with
 | one ok hk tx =>
  obtain rfl:=hk
  obtain rfl:=Option.some.inj hb
  exact wpAny_assign_Name (store_name I tx fun b h' tk hb' k hn hc hv ho=>h h' tk _ (I.turned hb' k (bound_live hb' hn hc)).1 cut_le (I.bind ok hb' k hn hc hv ho (hr.open' (HA_mono cut_le))))
 | many hx hks hne =>
  obtain rfl:=hks
  obtain ⟨ps,h1,k1⟩:=ob_i hb
  obtain ⟨a,vs,rfl,_,l,r⟩:=hr.toTup h1
  have hlen:=go_len k1
  rw [List.length_map] at hlen
  obtain ⟨e1,e2,e3⟩:=assignEach_names (env:=env)
  refine assign_Tuple_tuple I.room.1 l.isTup (by rw [e3,List.size_toArray,r.length,hlen]) e2 fun h₁ k₁=>?_
  have ex:Ext cx cx.T s.heap h₁:=Ext.refl.but I.cn.gi not_live_size k₁ (.of not_live_size)
  rw [e1,List.toList_toArray]
  exact names_ok (nm:=fun x:Str × Pos=>x.1) (s:={ s with heap:=h₁ }) (fun q=>wpAny_assign_Name q) hx (I.ext ex) (r.map fun a o n g=>⟨n,ex.keep a o (fun t=>n (.inl (I.cn.tH a t))) g⟩) k1
   fun h' tk ow' e' sub' I'=>h h' tk ow' (WW_trans (WW_of_ext ex) (fun j a q=>.inl ⟨j,q⟩) e') sub' I'
end
end Mine
end
section
set_option maxRecDepth 100000
open PySem PySem.Calls PyProof.Rows PySem.W
set_option genSizeOf false
set_option genInjectivity false
namespace Mine
structure SndX (cx:Cx) (G:Gl) (n:Nat):Prop extends SndN cx G n where
 ex:∀ {ns:Ns} {ss:List Stmt} {l:List PS} {A:Around} {env:Env} {Hx:Hid} {own:Own} {ow:Nat→Hid} {ρ ρ':PEnv} {fl:Fl} {s:Shared} {Q:Flow→Shared→Prop} {E:Value→Shared→Prop},CSs ns ss l→InS cx (n+60) A env ns Hx own ow ρ s.heap →
  (sem G n).ex ρ l=some (ρ',fl)→PostS cx (n+60) A env ns Hx own ow ρ' s Q fl→wpAny (model cx.prog cx.w) A (execs ss env) Q E s
noncomputable def AsgC (cx:Cx) (G:Gl) (n:Nat):Prop:=∀ {ns:Ns} {x:Str} {e:Expr} {pe:PE} {occ:List Nat} {q p:Pos} {A:Around} {env:Env} {Hx:Hid} {own:Own} {ow:Nat→Hid} {ρ ρ':PEnv} {fl:Fl} {s:Shared} {Q:Flow→Shared→Prop} {E:Value→Shared→Prop},
 cpB e=true→okN x=true→isTgt ns x→CE ns e pe→InS cx (n+60) A env ns Hx own ow ρ s.heap→exS (sem G n) ρ (.assign (enc x) pe occ)=some (ρ',fl)→PostS cx (n+60) A env ns Hx own ow ρ' s Q fl →
 wpAny (model cx.prog cx.w) A (exec (.Assign [.Name x q] e p) env) Q E s
section
variable {r:Rc} {ρ ρ':PEnv} {fl:Fl} {P:PEnv→Fl→Prop} {k:Nat} {pe:PE} {oc:List Nat}
theorem pn_e {ρ₁:PEnv} {f₁:Fl} (h:some (ρ₁,f₁)=some (ρ',fl)) (a:P ρ₁ f₁):P ρ' fl:=by
 obtain ⟨h1,h2⟩:=Prod.mk.inj (Option.some.inj h)
 rw [← h1,← h2]
 exact a
theorem x_assign (he:exS r ρ (.assign k pe oc)=some (ρ',fl)) (K:∀ v,r.ev (PEnv.only oc ρ) pe=some v→P (PEnv.set (frz v oc ρ) k (freshE pe v) v) .next):P ρ' fl :=
 ob_e he fun v hv k=>pn_e k (K v hv)
theorem x_unpack {xs:List Nat} (he:exS r ρ (.unpack xs pe oc)=some (ρ',fl)) (K:∀ v ρ₁,r.ev (PEnv.only oc ρ) pe=some v→bindT xs false v (PEnv.freeze oc ρ)=some ρ₁→P ρ₁ .next):P ρ' fl :=
 ob_e he fun v hv k=>ob_e k fun ρ₁ hb k=>pn_e k (K v ρ₁ hv hb)
theorem x_unpackR {xs:List Nat} (he:exS r ρ (.unpackR xs pe oc)=some (ρ',fl)) (K:∀ v us ρ₁,r.ev (PEnv.only oc ρ) pe=some v→tup? v=some us→bindT.go xs.reverse us.reverse (PEnv.freeze oc ρ)=some ρ₁→P ρ₁ .next):P ρ' fl :=
 ob_e he fun v hv k=>ob_e k fun us hu k=>ob_e k fun ρ₁ hb k=>pn_e k (K v us ρ₁ hv hu hb)
theorem x_chain {xs:List Nat} (he:exS r ρ (.chain xs pe)=some (ρ',fl)) (K:∀ v,r.ev [] pe=some v→v.scalar=true→P (setAll xs v ρ) .next):P ρ' fl:=by
 refine ob_e he fun v hv k=>?_
 obtain ⟨h1,h2⟩:=og_i k
 exact pn_e (congrArg some h2) (K v hv h1)
theorem ownL_i {x:Nat} {l:List PV} (h:ownL ρ x=some l):PEnv.get ρ x=some (true,.list l):=by
 refine ob_e h fun bv h1 k1=>ob_e k1 fun w h2 k2=>?_
 obtain ⟨b,v⟩:=bv
 obtain ⟨h3,h4⟩:=og_i h2
 have h3:b=true:=h3
 have h4:v=w:=h4
 rw [h1,h3,h4,list_i k2]
theorem x_aug {b:BinK} (he:exS r ρ (.aug k b pe)=some (ρ',fl)) (K:∀ fb i w j v,PEnv.get ρ k=some (fb,.int i)→r.ev ρ pe=some w→int? w=some j→binI b i j=some v→v.scalar=true→P (PEnv.set ρ k false v) .next):P ρ' fl:=by
 refine ob_e he fun bv hg k1=>ob_e k1 fun i hi k2=>ob_e k2 fun w hj k3=>ob_e k3 fun j hjj k4=>ob_e k4 fun v hv k5=>?_
 obtain ⟨h1,h2⟩:=og_i k5
 refine pn_e (congrArg some h2) (K bv.1 i w j v ?_ hj hjj hv h1)
 rw [hg,← int_i hi]
theorem x_setidx {i:PE} (he:exS r ρ (.setidx k i pe)=some (ρ',fl)) (K:∀ v w z l j,r.ev ρ pe=some v→v.scalar=true→r.ev ρ i=some w→int? w=some ((z:Nat):Int)→PEnv.get ρ k=some (true,.list l)→seat ((z:Nat):Int) l=some j→P (PEnv.set ρ k true (.list (l.set j v))) .next):P ρ' fl:=by
 refine ob_e he fun v hv k1=>ob_e k1 fun v' hs k2=>?_
 obtain ⟨hsc,hvv⟩:=og_i hs
 obtain rfl:=hvv
 refine ob_e k2 fun w hk k3=>ob_e k3 fun z hz k4=>ob_e k4 fun z' hz' k5=>ob_e k5 fun l hl k6=>ob_e k6 fun j hj k7=>?_
 obtain rfl:=toNat_i hz'
 exact pn_e k7 (K v w z' l j hv hsc hk hz (ownL_i hl) hj)
theorem x_append (he:exS r ρ (.append k pe oc)=some (ρ',fl)) (K:∀ v l,r.ev (PEnv.only oc ρ) pe=some v→PEnv.get (frz v oc ρ) k=some (true,.list l)→lenOk l=true→P (PEnv.set (frz v oc ρ) k true (.list (l++[v]))) .next):P ρ' fl:=by
 refine ob_e he fun v hv k1=>ob_e k1 fun l hl k2=>?_
 obtain ⟨h1,h2⟩:=og_i k2
 exact pn_e (congrArg some h2) (K v l hv (ownL_i hl) h1)
theorem x_extend (he:exS r ρ (.extend k pe oc)=some (ρ',fl)) (K:∀ us l,r.ev (PEnv.only oc ρ) pe=some (.list us)→PEnv.get (PEnv.freeze oc ρ) k=some (true,.list l)→lenOk l=true→lenOk us=true→P (PEnv.set (PEnv.freeze oc ρ) k true (.list (l++us))) .next):P ρ' fl:=by
 refine ob_e he fun v hv k1=>ob_e k1 fun us hu k2=>ob_e k2 fun l hl k3=>?_
 obtain ⟨h1,h2⟩:=og_i k3
 obtain rfl:=list_i hu
 exact pn_e (congrArg some h2) (K us l hv (ownL_i hl) (band h1).1 (band h1).2)
theorem x_reverse (he:exS r ρ (.reverse k)=some (ρ',fl)) (K:∀ l,PEnv.get ρ k=some (true,.list l)→lenOk l=true→P (PEnv.set ρ k true (.list l.reverse)) .next):P ρ' fl:=by
 refine ob_e he fun l hl k2=>?_
 obtain ⟨h1,h2⟩:=og_i k2
 exact pn_e (congrArg some h2) (K l (ownL_i hl) h1)
theorem x_ret (he:exS r ρ (.ret pe oc)=some (ρ',fl)) (K:∀ v,r.ev (PEnv.only oc ρ) pe=some v→P ρ (.ret v)):P ρ' fl:=ob_e he fun v hv k=>pn_e k (K v hv)
end
section
variable {cx:Cx} {G:Gl} {n:Nat} {A:Around} {env:Env} {ns:Ns} {Hx:Hid} {own:Own} {ow:Nat→Hid} {ρ ρ':PEnv} {s:Shared} {Q:Flow→Shared→Prop} {E:Value→Shared→Prop} {fl:Fl}
theorem InS.ofOcc {m:Nat} (I:InS cx m A env ns Hx own ow ρ s.heap) (occ:List Nat):InE cx m A env ns (PEnv.only occ ρ) (HH Hx env own ow (·∈occ)) s:=I.toE _ (fun k b p g=>by
 rw [get_only] at g
 split at g
 ·rename_i q;exact ⟨q,g⟩
 ·cases g) rfl
theorem InS.ofAll {m:Nat} (I:InS cx m A env ns Hx own ow ρ s.heap):InE cx m A env ns ρ (HH Hx env own ow fun _=>True) s:=I.toE _ (fun _ _ _ g=>⟨trivial,g⟩) rfl
theorem isL_list {v:PV} (h:isL v=true):∃ ps,v=.list ps:=by
 cases v <;> first|exact ⟨_,rfl⟩|exact (Bool.false_ne_true h).elim
theorem freshE_list {pe:PE} {v:PV} (h:freshE pe v=true):∃ ps,v=.list ps:=by
 exact isL_list (band h).2
theorem bind_ok {m:Nat} (I:InS cx m A env ns Hx own ow ρ s.heap) {x:Str} (okx:okN x=true) (tx:isTgt ns x) {occ:List Nat} {pe:PE} {w:Value} {v:PV} {h₁:Heap} {t₁:Nat} {Q:Unit→Shared→Prop} (e₁:Ext cx cx.T s.heap h₁) (r₁:Rep cx h₁ (HH Hx env own ow (·∈occ)) w v)
  (f₁:freshE pe v=true→Frs cx s.heap h₁ (HH Hx env own ow (·∈occ)) w v)
  (h:∀ h' tk ow',Ext cx (WW cx env own ow) s.heap h'→(∀ k a,ow' k a→(∃ j,ow j a)∨¬ Live s.heap a)→InS cx m A env ns Hx own ow' (PEnv.set (Mine.frz v occ ρ) (enc x) (freshE pe v) v) h'→Q () { s with heap:=h',toks:=tk }) :
  wpAny (model cx.prog cx.w) A (storeName env x w) Q E { s with heap:=h₁,toks:=t₁ }:=by
 cases hf:freshE pe v with
 | false =>
  rw [hf] at h
  obtain ⟨ow',I',r',sub'⟩:=(I.ext e₁).frz r₁
  refine store_name (s:={ s with heap:=h₁,toks:=t₁ }) I' tx fun b h' tk hb k hn hc hv ho=>?_
  have e:=(I'.turned hb k (bound_live hb hn hc)).1
  exact h h' tk _ (WW_trans (WW_of_ext e₁) (fun j a q=>.inl ⟨j,sub' j a q⟩) e) (fun j a q=>.inl ⟨j,sub' j a q.1⟩) (I'.bind okx hb k hn hc hv ho (r'.open' (HA_mono cut_le)))
 | true =>
  rw [hf] at h
  have hl:=freshE_list hf
  obtain ⟨ps,rfl⟩:=hl
  obtain ⟨D,vs,rfl,nl,l,r⟩:=f₁ hf ps rfl
  have I':=((I.extAdd e₁ nl l.live).frozen occ)
  have nH:¬ Hx D:=fun q=>nl (I.cn.hid D q)
  have nG:¬ cx.GA D:=fun q=>nl (cx.ga_live _ D I.cn.gi q)
  refine store_name (s:={ s with heap:=h₁,toks:=t₁ }) I' tx fun b h' tk hb k hn hc hv ho=>?_
  have e:=(I'.turned hb k (bound_live hb hn hc)).1
  have r':RepAll cx h₁ (HA (add Hx D) env own (InS.cut ow occ)) vs ps:=r.open' fun a q=>by
   rcases q with (q|q)|q|q|⟨k,_,q,n⟩
   ·exact .inl (.inl q)
   ·exact .inr q
   ·exact .inl (.inr (.inl q))
   ·exact .inl (.inr (.inr (.inl q)))
   ·exact .inl (.inr (.inr (.inr ⟨k,n,q⟩)))
  have I'':=I'.bindOwn I.cn.bH nH nG (fun n c e q=>(I.outer n c e q).1) okx hb k hn hc hv ho l r'
  refine h h' tk _ (WW_trans (WW_of_ext e₁) (fun j a q=>.inl ⟨j,q.1⟩) e) (fun j a q=>?_) I''
  rcases q with ⟨_,q⟩|⟨_,q⟩
  ·exact .inr (q ▸ nl)
  ·exact .inl ⟨j,q.1⟩
theorem ld_own {m:Nat} (I:InS cx m A env ns Hx own ow ρ s.heap) {x:Str} {v:Value} {p:Pos} {Q:Value→Shared→Prop} (hd:(x == ("__debug__":Str))=false) (hv:VarAt s.heap env x v) (h:Q v s):wpAny (model cx.prog cx.w) A (eval (.Name x p) env) Q E s:=by
 refine wpAny_Name ?_ hd
 rcases hv with ⟨k,m,hn,hm⟩|⟨k,c,hc,hcell⟩
 ·exact wpAny_loadName_local I.kind k hn hm h
 ·rcases k with k|⟨k,kn⟩
  ·exact wpAny_loadName_cell I.kind k hc hcell h
  ·exact wpAny_loadName_free I.kind k hc hcell h kn
theorem ldn_own {m:Nat} (I:InS cx m A env ns Hx own ow ρ s.heap) {x:Str} {v:Value} {Q:Value→Shared→Prop} (hv:VarAt s.heap env x v) (h:Q v s):wpAny (model cx.prog cx.w) A (loadName env x) Q E s:=by
 rcases hv with ⟨k,m,hn,hm⟩|⟨k,c,hc,hcell⟩
 ·exact wpAny_loadName_local I.kind k hn hm h
 ·rcases k with k|⟨k,kn⟩
  ·exact wpAny_loadName_cell I.kind k hc hcell h
  ·exact wpAny_loadName_free I.kind k hc hcell h kn
theorem assign_step (S:SndX cx G n) {x:Str} {q p:Pos} {e:Expr} {pe:PE} {occ:List Nat} (ok:okN x=true) (tx:isTgt ns x) (hs:swapsWith e (some (.Name x q)) p.line env=pure false) (hc:CE ns e pe) (I:InS cx (n+60) A env ns Hx own ow ρ s.heap)
  (he:exS (sem G n) ρ (.assign (enc x) pe occ)=some (ρ',fl)) (h:PostS cx (n+60) A env ns Hx own ow ρ' s Q fl):wpAny (model cx.prog cx.w) A (exec (.Assign [.Name x q] e p) env) Q E s:=by
 exact x_assign (P:=fun ρ' fl=>PostS cx (n+60) A env ns Hx own ow ρ' s Q fl→_) he (fun v hv h=>wpAny_Assign_Name (S.ev hc (I.ofOcc occ) hv fun w h₁ t₁ e₁ r₁ f₁=>bind_ok I ok tx e₁ r₁ f₁ h) hs) h
theorem unpack_step (S:SndX cx G n) {xs:List Nat} {e:Expr} {pe:PE} {occ:List Nat} {p:Pos} {elts:List Expr} {j:Nat} {tp:Pos} (tg:CTg ns (.Tuple elts j tp) xs false) (hs:swapsWithSole [.Tuple elts j tp] e p.line env=pure false) (hw:swappedStores [.Tuple elts j tp] e env=pure none) (hc:CE ns e pe)
  (I:InS cx (n+60) A env ns Hx own ow ρ s.heap) (he:exS (sem G n) ρ (.unpack xs pe occ)=some (ρ',fl)) (h:PostS cx (n+60) A env ns Hx own ow ρ' s Q fl):wpAny (model cx.prog cx.w) A (exec (.Assign [.Tuple elts j tp] e p) env) Q E s:=by
 refine x_unpack (P:=fun ρ' fl=>PostS cx (n+60) A env ns Hx own ow ρ' s Q fl→_) he (fun v ρ₁ hv hb h=>Assign_Tuple (S.ev hc (I.ofOcc occ) hv fun w h₁ t₁ e₁ r₁ f₁=>?_) hs hw) h
 exact tgt_ok (s:={ s with heap:=h₁,toks:=t₁ }) tg ((I.ext e₁).frozen occ) hb (by rw [InS.HA_cut];exact r₁) fun h' tk ow' e' sub' I''=>h h' tk ow' (WW_trans (WW_of_ext e₁) (fun j a q=>.inl ⟨j,q.1⟩) e') (fun j a q=>.inl ⟨j,(sub' j a q).1⟩) I''
theorem unpackR_step (S:SndX cx G n) {xs:List (Str × Pos)} {e:Expr} {pe:PE} {occ:List Nat} {j:Nat} {tp p:Pos} (hx:∀ x∈xs,okN x.1=true∧ns.lookup x.1=some .local) (hs:swapsWithSole [.Tuple (xs.map fun x=>.Name x.1 x.2) j tp] e p.line env=pure false)
  (hw:swappedStores [.Tuple (xs.map fun x=>.Name x.1 x.2) j tp] e env=pure (some (xs.map (·.1)))) (hc:CE ns e pe) (I:InS cx (n+60) A env ns Hx own ow ρ s.heap) (he:exS (sem G n) ρ (.unpackR (encs xs) pe occ)=some (ρ',fl)) (h:PostS cx (n+60) A env ns Hx own ow ρ' s Q fl) :
  wpAny (model cx.prog cx.w) A (exec (.Assign [.Tuple (xs.map fun x=>.Name x.1 x.2) j tp] e p) env) Q E s:=by
 refine x_unpackR (P:=fun ρ' fl=>PostS cx (n+60) A env ns Hx own ow ρ' s Q fl→_) he (fun v us ρ₁ hv hu hb h=>Assign_Tuple_swapped (S.ev hc (I.ofOcc occ) hv fun w h₁ t₁ e₁ r₁ f₁=>?_) hs hw) h
 have I':=(I.ext e₁).frozen occ
 rw [← InS.HA_cut] at r₁
 obtain ⟨a,ws,rfl,nH,l,r⟩:=r₁.toTup hu
 have hl:=go_len hb
 rw [List.length_reverse,encs,List.length_map,List.length_reverse] at hl
 rw [show (xs.map (·.1)).length=ws.toArray.size by rw [List.length_map,List.size_toArray,r.length,hl]]
 refine unpackItems_tuple (s:={ s with heap:=h₁,toks:=t₁ }) I.room.1 l.isTup fun h₂ k₂=>?_
 have ex:Ext cx cx.T h₁ h₂:=Ext.refl.but (e₁.gi I.cn.gi) not_live_size k₂ (.of not_live_size)
 rw [List.toList_toArray,← List.map_reverse,List.map_map]
 rw [encs,← List.map_reverse] at hb
 exact names_ok (nm:=fun x:Str × Pos=>x.1) (s:={ s with heap:=h₂,toks:=t₁ }) (f:=fun x v=>bindName env x.1 v) (fun q=>wpAny_bindName q) (fun y hy=>⟨(hx y (List.mem_reverse.mp hy)).1,.inl (hx y (List.mem_reverse.mp hy)).2⟩) (I'.ext ex)
  ((r.map fun a o n g=>⟨n,ex.keep a o (fun t=>n (.inl (I.cn.tH a t))) g⟩).reverse) hb fun h' tk ow' e' sub' I''=>h h' tk ow' (WW_trans (WW_of_ext (e₁.trans ex)) (fun j a q=>.inl ⟨j,q.1⟩) e') (fun j a q=>.inl ⟨j,(sub' j a q).1⟩) I''
theorem setAll_step:∀ {xs:List (Str × Pos)} {ow:Nat→Hid} {ρ:PEnv} {s:Shared} {v:Value} {p:PV} {Q:Unit→Shared→Prop},(∀ x∈xs,okN x.1=true∧isTgt ns x.1)→p.scalar=true→Rep cx s.heap (fun _=>False) v p→InS cx (n+60) A env ns Hx own ow ρ s.heap →
  (∀ h' tk ow',Ext cx (WW cx env own ow) s.heap h'→(∀ k a,ow' k a→(∃ j,ow j a)∨¬ Live s.heap a)→InS cx (n+60) A env ns Hx own ow' (setAll (encs xs) p ρ) h'→Q () { s with heap:=h',toks:=tk }) →
  wpAny (model cx.prog cx.w) A (assignAll v ((assignEach (xs.map fun x=>.Name x.1 x.2) env).map (·.2))) Q E s
 | [],ow,ρ,s,v,p,Q,_,_,_,I,h=>wpAny_pure (h s.heap s.toks ow .refl (fun k a q=>.inl ⟨k,q⟩) I)
 | [x],ow,ρ,s,v,p,Q,hx,hp,hr,I,h=>by
  obtain ⟨okx,tx⟩:=hx x (.head _)
  show wpAny _ _ (assign (.Name x.1 x.2) env v) _ _ _
  refine wpAny_assign_Name (store_name I tx fun b h' tk hb k hn hc hv ho=>?_)
  exact h h' tk _ (I.turned hb k (bound_live hb hn hc)).1 (fun j a q=>.inl ⟨j,q.1⟩) (I.bind okx hb k hn hc hv ho (hr.scalar hp))
 | x :: y :: xs,ow,ρ,s,v,p,Q,hx,hp,hr,I,h=>by
  obtain ⟨okx,tx⟩:=hx x (.head _)
  show wpAny _ _ (holding [v] (assign (.Name x.1 x.2) env v) >>= fun _=>assignAll v ((assignEach ((y :: xs).map fun x=>.Name x.1 x.2) env).map (·.2))) _ _ _
  refine wpAny_bind (wpAny_holding (wpAny_assign_Name (store_name I tx fun b h' tk hb k hn hc hv ho=>?_)))
  have I':=I.bind (p:=p) okx hb k hn hc hv ho (hr.scalar hp)
  have e:=(I.turned hb k (bound_live hb hn hc)).1
  refine setAll_step (xs:=y :: xs) (s:={ s with heap:=h',toks:=tk }) (fun z hz=>hx z (.tail _ hz)) hp (hr.scalar hp) I' fun h'' tk'' ow'' e'' sub'' I''=>?_
  exact h h'' tk'' ow'' (WW_trans e (fun j a q=>.inl ⟨j,q.1⟩) e'') (sub_trans e I' (fun j a q=>.inl ⟨j,q.1⟩) sub'') I''
theorem swaps_two {xs:List (Str × Pos)} {e:Expr} (l:Nat) (h2:2≤xs.length):swapsWithSole (xs.map fun x=>Expr.Name x.1 x.2) e l env=pure false∧swappedStores (xs.map fun x=>Expr.Name x.1 x.2) e env=pure none:=by
 match xs,h2 with
 | _ :: _ :: _,_=>exact ⟨rfl,rfl⟩
theorem chain_step (S:SndX cx G n) {xs:List (Str × Pos)} {e:Expr} {pe:PE} {p:Pos} (hx:∀ x∈xs,okN x.1=true∧isTgt ns x.1) (h2:2≤xs.length) (hc:CE ns e pe) (I:InS cx (n+60) A env ns Hx own ow ρ s.heap)
  (he:exS (sem G n) ρ (.chain (encs xs) pe)=some (ρ',fl)) (h:PostS cx (n+60) A env ns Hx own ow ρ' s Q fl):wpAny (model cx.prog cx.w) A (exec (.Assign (xs.map fun x=>.Name x.1 x.2) e p) env) Q E s:=by
 refine x_chain (P:=fun ρ' fl=>PostS cx (n+60) A env ns Hx own ow ρ' s Q fl→_) he (fun v hv hsc h=>?_) h
 rw [exec_Assign]
 refine wpAny_bind (wpAny_standAt ?_)
 rw [(swaps_two _ h2).1]
 refine wpAny_bind (wpAny_pure ?_)
 rw [if_neg (by decide)]
 refine wpAny_bind (S.ev hc (I.toE (ρ':=[]) (fun _=>True) (fun k b p g=>(Option.some_ne_none _ g.symm).elim) rfl) hv fun w h₁ t₁ e₁ r₁ _=>?_)
 rw [(swaps_two 0 h2).2]
 refine wpAny_bind (wpAny_pure ?_)
 show wpAny _ _ (assignAll w _ >>= fun _=>(pure Flow.next:Sem Flow)) _ _ _
 refine wpAny_bind (setAll_step (s:={ s with heap:=h₁,toks:=t₁ }) hx hsc (r₁.scalar hsc) (I.ext e₁) fun h' tk ow' e' sub' I'=>wpAny_pure ?_)
 exact h h' tk ow' (WW_trans (WW_of_ext e₁) (fun j a q=>.inl ⟨j,q⟩) e') (sub_trans (WW_of_ext e₁) (I.ext e₁) (fun j a q=>.inl ⟨j,q⟩) sub') I'
theorem own_put {m:Nat} {h:Heap} (I:InS cx m A env ns Hx own ow ρ h) {x:Str} (ok:okN x=true) {l:List PV} (hg:PEnv.get ρ (enc x)=some (true,.list l)):∃ D vs,VarAt h env x (.ref D)∧(∀ a,ow (enc x) a↔a=D)∧IsLs h D vs∧RepAll cx h (HA Hx env own ow) vs l ∧
  ∀ h₃ ws l',Heap.SameBut D h h₃→IsLs h₃ D ws→RepAll cx h (HA Hx env own ow) ws l'→InS cx m A env ns Hx own ow (PEnv.set ρ (enc x) true (.list l')) h₃∧Ext cx (WW cx env own ow) h h₃:=by
 obtain ⟨w,hw,_,h2⟩:=I.vars x _ _ ok hg
 obtain ⟨D,vs,rfl,hD,ll,rr⟩:=h2 rfl
 refine ⟨D,vs,hw,hD,ll,rr,fun h₃ ws l' k₃ l₃ r₃=>?_⟩
 have oc:=I.owCell ((hD D).mpr rfl)
 exact I.mutL ok hD hw k₃ ⟨_,ll⟩ l₃ r₃ (InS.keepVar k₃ oc.1 oc.2)
theorem aug_step (S:SndX cx G n) {x:Str} {b:BinK} {e:Expr} {a:PE} {q p:Pos} (ok:okN x=true) (tx:isTgt ns x) (hc:CE ns e a) (I:InS cx (n+60) A env ns Hx own ow ρ s.heap)
  (he:exS (sem G n) ρ (.aug (enc x) b a)=some (ρ',fl)) (h:PostS cx (n+60) A env ns Hx own ow ρ' s Q fl):wpAny (model cx.prog cx.w) A (exec (.AugAssign (.Name x q) (opOf b) e p) env) Q E s:=by
 refine x_aug (P:=fun ρ' fl=>PostS cx (n+60) A env ns Hx own ow ρ' s Q fl→_) he (fun fb i w j v hg hj hjj hv hsc h=>?_) h
 obtain ⟨w,hw,h1,h2⟩:=I.vars x fb _ ok hg
 have hwi:∃ t,w=.int i t:=by
  induction fb using Bool.casesOn with
  | false=>exact h1 rfl
  | true=>exact (h2 rfl).elim
 obtain ⟨t,rfl⟩:=hwi
 refine wpAny_AugAssign_Name (ldn_own I hw (S.ev hc I.ofAll hj fun u h₁ t₁ e₁ r₁ _=>?_))
 obtain ⟨t',rfl⟩:=r₁.toInt hjj
 refine (bin_int (fr:=false) (s:={ s with heap:=h₁,toks:=t₁ }) (H:=fun _=>False) (cx:=cx) hv fun w' h₂ t₂ e₂ r₂ _=>?_).2
 have I':=I.ext (e₁.trans e₂)
 refine store_name (s:={ s with heap:=h₂,toks:=t₂ }) I' tx fun bb h' tk hb k hn hcc hv' ho=>?_
 exact h h' tk _ (WW_trans (WW_of_ext (e₁.trans e₂)) (fun j a q=>.inl ⟨j,q⟩) (I'.turned hb k (bound_live hb hn hcc)).1) (fun j a q=>.inl ⟨j,q.1⟩) (I'.bind ok hb k hn hcc hv' ho (r₂.scalar hsc))
theorem setidx_step (S:SndX cx G n) {x:Str} {i e:Expr} {a b:PE} {np q p:Pos} (ok:okN x=true) (hd:(x == ("__debug__":Str))=false) (hs:swapsWith e (some (.Subscript (.Name x np) i q)) p.line env=pure false) (hi:CE ns i a) (hc:CE ns e b)
  (I:InS cx (n+60) A env ns Hx own ow ρ s.heap) (he:exS (sem G n) ρ (.setidx (enc x) a b)=some (ρ',fl)) (h:PostS cx (n+60) A env ns Hx own ow ρ' s Q fl):wpAny (model cx.prog cx.w) A (exec (.Assign [.Subscript (.Name x np) i q] e p) env) Q E s:=by
 refine x_setidx (P:=fun ρ' fl=>PostS cx (n+60) A env ns Hx own ow ρ' s Q fl→_) he (fun v w z l j hv hsc hk hki hg hj h=>?_) h
 obtain ⟨hp,hll⟩:=seat_i hj
 refine wpAny_Assign_Subscript (S.ev hc I.ofAll hv fun u h₁ t₁ e₁ r₁ _=>?_) hs
 have I₁:=I.ext e₁
 obtain ⟨D,vs,hw,hD,_⟩:=own_put I₁ ok hg
 refine ld_own (s:={ s with heap:=h₁,toks:=t₁ }) I₁ hd hw (S.ev hi I₁.ofAll hk fun iv h₂ t₂ e₂ r₂ _=>?_)
 have I₂:=I₁.ext e₂
 obtain ⟨D',vs2,hw2,hD',ll2,rr2,put⟩:=own_put I₂ ok hg
 obtain rfl:D'=D:=(hD _).mp ((hD' _).mpr rfl)
 obtain ⟨t,rfl⟩:=r₂.toInt hki
 refine setitem_ok (s:={ s with heap:=h₂,toks:=t₂ }) ll2 (by rw [rr2.length];omega) (by rw [rr2.length];exact hp) (Int.natCast_nonneg _) fun h₃ k₃ l₃=>?_
 obtain ⟨I₃,E₃⟩:=put h₃ _ _ k₃ l₃ (rr2.set j (r₁.scalar hsc))
 exact h h₃ t₂ ow (WW_trans (WW_of_ext (e₁.trans e₂)) (fun j a q=>.inl ⟨j,q⟩) E₃) (fun j a q=>.inl ⟨j,q⟩) I₃
end
end Mine
end
section
set_option maxRecDepth 100000
open PySem PySem.Calls PyProof.Rows PySem.W
set_option genSizeOf false
set_option genInjectivity false
namespace Mine
theorem frz_get {v p:PV} {occ:List Nat} {ρ:PEnv} {k:Nat} (h:PEnv.get (frz v occ ρ) k=some (true,p)):PEnv.get ρ k=some (true,p):=by
 unfold frz at h
 cases hv:v.scalar with
 | true=>rw [hv] at h;exact h
 | false =>
  rw [hv] at h
  have h:PEnv.get (PEnv.freeze occ ρ) k=some (true,p):=h
  rw [get_freeze,Option.map_eq_some_iff] at h
  obtain ⟨⟨b,q⟩,h1,h2⟩:=h
  split at h2
  ·exact (Bool.false_ne_true (Prod.mk.inj h2).1).elim
  ·exact h2 ▸ h1
section
variable {cx:Cx} {G:Gl} {n:Nat} {A:Around} {env:Env} {ns:Ns} {Hx:Hid} {own:Own} {ow:Nat→Hid} {ρ ρ':PEnv} {s:Shared} {Q:Flow→Shared→Prop} {E:Value→Shared→Prop} {fl:Fl}
theorem not_interactive {m:Nat} (I:InS cx m A env ns Hx own ow ρ s.heap):interactive env=false:=by
 unfold interactive
 rw [I.kind];rfl
theorem list_meth {m:Nat} {x nm:Str} {id:String} {np ap q p:Pos} {es:List Expr} {l:List PE} {D:Addr} {vs:List Value} (I:InS cx m A env ns Hx own ow ρ s.heap) (hd:(x == ("__debug__":Str))=false) (hl:(ap.endLine == q.line)=true) (hc:CEs ns es l) (hlen:es.length<10) (hw:VarAt s.heap env x (.ref D)) (ll:IsLs s.heap D vs)
  (sl:Slot "list" nm id) (ty:typeOf (.builtin id)=pure (.type "method_descriptor")) (h:wpAny (model cx.prog cx.w) A (callWith q (.builtin id) [.ref D] (backTo q (starEach es env)) []) (fun v s'=>v=.none∧Q .next s') E s) :
  wpAny (model cx.prog cx.w) A (exec (.Expr (.Call (.Attribute (.Name x np) nm ap) es [] q) p) env) Q E s:=by
 refine wpAny_Expr (call_method rfl (few_of hc hlen) hl (ld_own I hd hw fun pl=>?_)) (not_interactive I) rfl
 refine getMethod_builtin ⟨_,ll.choose_spec,rfl⟩ F.plainAttrs_list sl ty (fun b e=>?_) (wpAny_mono h (fun v s' h'=>?_) fun _ _ x=>x)
 ·obtain rfl:=Value.ref.inj e
  exact ⟨_,ll.choose_spec,rfl⟩
 ·obtain ⟨h1,h2⟩:=h'
  obtain rfl:=h1
  exact h2
theorem append_step (S:SndX cx G n) {x:Str} {e:Expr} {a:PE} {occ:List Nat} {np ap q p:Pos} (ok:okN x=true) (hd:(x == ("__debug__":Str))=false) (hl:(ap.endLine == q.line)=true) (hc:CE ns e a)
  (I:InS cx (n+60) A env ns Hx own ow ρ s.heap) (he:exS (sem G n) ρ (.append (enc x) a occ)=some (ρ',fl)) (h:PostS cx (n+60) A env ns Hx own ow ρ' s Q fl) :
  wpAny (model cx.prog cx.w) A (exec (.Expr (.Call (.Attribute (.Name x np) "append" ap) [e] [] q) p) env) Q E s:=by
 refine x_append (P:=fun ρ' fl=>PostS cx (n+60) A env ns Hx own ow ρ' s Q fl→_) he (fun v l hv hg hll h=>?_) h
 have hcs:CEs ns [e] [a]:=.one hc
 obtain ⟨D,vs,hw,hD,ll,_⟩:=own_put I ok (frz_get hg)
 refine list_meth I hd hl hcs (by show 1<10;decide) hw ll F.slot_list_append F.type_list_append (args_of S.toSndN (I.ofOcc occ) rfl hcs (evL_one hv) fun ws h₁ t₁ e₁ r₁=>?_)
 obtain ⟨w,rfl,r₂⟩:=r₁.one'
 obtain ⟨ow',I',r',sub'⟩:=(I.ext e₁).frz r₂
 obtain ⟨D',vs2,_,hD',ll2,rr2,put⟩:=own_put I' ok hg
 obtain rfl:D'=D:=(hD _).mp (sub' _ _ ((hD' _).mpr rfl))
 refine append_ok (s:={ s with heap:=h₁,toks:=t₁ }) ll2 (by rw [rr2.length];exact lenOk_le hll) fun h₃ k₃ l₃=>?_
 obtain ⟨I₃,E₃⟩:=put h₃ _ _ k₃ l₃ (rr2.append (.cons r' .nil))
 exact ⟨rfl,h h₃ t₁ ow' (WW_trans (WW_of_ext e₁) (fun j a q=>.inl ⟨j,sub' j a q⟩) E₃) (fun j a q=>.inl ⟨j,sub' j a q⟩) I₃⟩
theorem extend_step (S:SndX cx G n) {x:Str} {e:Expr} {a:PE} {occ:List Nat} {np ap q p:Pos} (ok:okN x=true) (hd:(x == ("__debug__":Str))=false) (hl:(ap.endLine == q.line)=true) (hc:CE ns e a)
  (I:InS cx (n+60) A env ns Hx own ow ρ s.heap) (he:exS (sem G n) ρ (.extend (enc x) a occ)=some (ρ',fl)) (h:PostS cx (n+60) A env ns Hx own ow ρ' s Q fl) :
  wpAny (model cx.prog cx.w) A (exec (.Expr (.Call (.Attribute (.Name x np) "extend" ap) [e] [] q) p) env) Q E s:=by
 refine x_extend (P:=fun ρ' fl=>PostS cx (n+60) A env ns Hx own ow ρ' s Q fl→_) he (fun us l hv hg hll hlu h=>?_) h
 have hcs:CEs ns [e] [a]:=.one hc
 obtain ⟨D,vs,hw,hD,ll,_⟩:=own_put I ok (frz_get (v:=.list us) hg)
 refine list_meth I hd hl hcs (by show 1<10;decide) hw ll F.slot_list_extend F.type_list_extend (args_of S.toSndN (I.ofOcc occ) rfl hcs (evL_one hv) fun ws h₁ t₁ e₁ r₁=>?_)
 obtain ⟨w,rfl,r₂⟩:=r₁.one'
 rw [← InS.HA_cut] at r₂
 obtain ⟨D',vs2,_,hD',ll2,rr2,put⟩:=own_put ((I.ext e₁).frozen occ) ok hg
 obtain rfl:D'=D:=(hD _).mp ((hD' _).mpr rfl).1
 obtain ⟨b,us',rfl,_,lb,rb⟩:=r₂.list'
 refine extend_ok (s:={ s with heap:=h₁,toks:=t₁ }) ll2 lb (by rw [rr2.length];exact lenOk_le hll) (by rw [rb.length];exact lenOk_le hlu) fun h₃ k₃ l₃=>?_
 obtain ⟨I₃,E₃⟩:=put h₃ _ _ k₃ l₃ (rr2.append rb)
 exact ⟨rfl,h h₃ t₁ _ (WW_trans (WW_of_ext e₁) (fun j a q=>.inl ⟨j,q.1⟩) E₃) (fun j a q=>.inl ⟨j,q.1⟩) I₃⟩
theorem reverse_step {x:Str} {np ap q p:Pos} (ok:okN x=true) (hd:(x == ("__debug__":Str))=false) (hl:(ap.endLine == q.line)=true)
  (I:InS cx (n+60) A env ns Hx own ow ρ s.heap) (he:exS (sem G n) ρ (.reverse (enc x))=some (ρ',fl)) (h:PostS cx (n+60) A env ns Hx own ow ρ' s Q fl) :
  wpAny (model cx.prog cx.w) A (exec (.Expr (.Call (.Attribute (.Name x np) "reverse" ap) [] [] q) p) env) Q E s:=by
 refine x_reverse (P:=fun ρ' fl=>PostS cx (n+60) A env ns Hx own ow ρ' s Q fl→_) he (fun l hg hll h=>?_) h
 obtain ⟨D,vs,hw,hD,ll,rr,put⟩:=own_put I ok hg
 refine list_meth I hd hl (l:=[]) ⟨0,rfl⟩ (by decide) hw ll F.slot_list_reverse F.type_list_reverse (callWith_builtin rfl (PyProof.Rows.evalArgs_none ?_))
 show wpAny _ _ (call (.builtin "list.reverse") [.ref D]) _ _ _
 refine reverse_ok ll (by rw [rr.length];exact lenOk_le hll) fun h₃ k₃ l₃=>?_
 obtain ⟨I₃,E₃⟩:=put h₃ _ _ k₃ l₃ rr.reverse
 exact ⟨rfl,h h₃ s.toks _ E₃ (fun j a q=>.inl ⟨j,q⟩) I₃⟩
theorem ret_step (S:SndX cx G n) {e:Expr} {pe:PE} {occ:List Nat} {p:Pos} (hc:CE ns e pe) (I:InS cx (n+60) A env ns Hx own ow ρ s.heap) (he:exS (sem G n) ρ (.ret pe occ)=some (ρ',fl)) (h:PostS cx (n+60) A env ns Hx own ow ρ' s Q fl) :
  wpAny (model cx.prog cx.w) A (exec (.Return (some e) p) env) Q E s:=by
 exact x_ret (P:=fun ρ' fl=>PostS cx (n+60) A env ns Hx own ow ρ' s Q fl→_) he (fun v hv h=>wpAny_Return_some (S.ev hc (I.ofOcc occ) hv fun w h₁ t₁ e₁ r₁ _=>h h₁ t₁ w (WW_of_ext e₁) (I.cn.ext e₁) (r₁.open' fun a q=>.inl q))) h
theorem PostS.after {m:Nat} {h₁:Heap} {t₁:Nat} {ow₁:Nat→Hid} {ρ₁:PEnv} (h:PostS cx m A env ns Hx own ow ρ' s Q fl) (e:Ext cx (WW cx env own ow) s.heap h₁) (I₁:InS cx m A env ns Hx own ow₁ ρ₁ h₁) (sub:∀ k a,ow₁ k a→(∃ j,ow j a)∨¬ Live s.heap a) :
  PostS cx m A env ns Hx own ow₁ ρ' { s with heap:=h₁,toks:=t₁ } Q fl:=by
 cases fl with
 | next=>exact fun h' tk ow' e' sub' I'=>h h' tk ow' (WW_trans e sub e') (sub_trans e I₁ sub sub') I'
 | brk=>exact fun h' tk ow' e' sub' I'=>h h' tk ow' (WW_trans e sub e') (sub_trans e I₁ sub sub') I'
 | ret p=>exact fun h' tk v e' c r=>h h' tk v (WW_trans e sub e') c r
theorem if_step (S:SndX cx G n) {c:Expr} {a b:List Stmt} {pc:PE} {l r:List PS} {p:Pos} (hc:CT ns c pc) (ha:CSs ns a l) (hb:CSs ns b r) (I:InS cx (n+60) A env ns Hx own ow ρ s.heap) (he:exS (sem G n) ρ (.if_ pc l r)=some (ρ',fl))
  (h:PostS cx (n+60) A env ns Hx own ow ρ' s Q fl):wpAny (model cx.prog cx.w) A (exec (.If c a b p) env) Q E s:=by
 refine wpAny_If ?_
 rcases oif_i he with ⟨ht,k⟩|⟨ht,k⟩
 ·exact S.ts hc I.ofAll ht fun h₁ t₁ e₁=>S.ex ha (I.ext e₁) k (h.after (WW_of_ext e₁) (I.ext e₁) fun k a q=>.inl ⟨k,q⟩)
 ·exact S.ts hc I.ofAll ht fun h₁ t₁ e₁=>S.ex hb (I.ext e₁) k (h.after (WW_of_ext e₁) (I.ext e₁) fun k a q=>.inl ⟨k,q⟩)
end
end Mine
end
section
set_option maxRecDepth 100000
open PySem PySem.Calls PyProof.Rows PySem.W
set_option genSizeOf false
set_option genInjectivity false
namespace Mine
section
variable {cx:Cx} {m:Nat} {A:Around} {env:Env} {ns:Ns} {Hx:Hid} {own:Own} {ow:Nat→Hid} {ρ:PEnv} {h h':Heap} {it:Addr}
theorem InS.moved (I:InS cx m A env ns (add Hx it) own ow ρ h) (k:Heap.ExtBut it h h') (nc:NoCd h it) (nG:¬ cx.GA it) (bH:∀ a,cx.B a→Hx a) (nH:¬ Hx it) (outer:∀ n c,env.cells.lookup n=some c→¬ own c→Hx c):InS cx m A env ns Hx own ow ρ h':=by
 have kb:∀ a o,a ≠ it→h.get? a=some o→h'.get? a=some o:=k
 have nl:env.locals ≠ it:=fun q=>I.fH.1 (.inr q)
 have no:∀ c,own c→c ≠ it:=fun c oc q=>I.fH.2 c oc (.inr q)
 have nw:∀ j a,ow j a→a ≠ it:=fun j a oa q=>(I.owL j a oa).2.1 (.inr q)
 have up:∀ a,HA Hx env own ow a→HA (add Hx it) env own ow a:=fun a q=>by
  rcases q with q|q|q|q
  ·exact .inl (.inl q)
  ·exact .inr (.inl q)
  ·exact .inr (.inr (.inl q))
  ·exact .inr (.inr (.inr q))
 have kr:∀ a o,¬ HA (add Hx it) env own ow a→h.get? a=some o→¬ HA Hx env own ow a∧h'.get? a=some o:=fun a o n g=>⟨fun q=>n (up a q),kb a o (fun q=>n (.inl (.inr q))) g⟩
 have gi:cx.GI h':=cx.mono h h' I.cn.gi fun a o ga g=>kb a o (fun q=>ga.elim (fun ga=>nG (q ▸ ga)) (nc o (q ▸ g))) g
 refine { I with cn:=⟨gi,fun a q=>?_,bH,fun a q=>I.cn.hg a (.inl q)⟩,nsl:=?_,cells:=fun c oc=>?_,fH:=⟨fun q=>I.fH.1 (.inl q),fun c oc q=>I.fH.2 c oc (.inl q)⟩,outer:=fun n c e q=>⟨outer n c e q,(I.outer n c e q).2⟩,owL:=fun j a oa=>?_,vars:=?_ }
 ·obtain ⟨o,ho⟩:=I.cn.hid a (.inl q)
  exact ⟨o,kb a o (fun z=>nH (z ▸ q)) ho⟩
 ·obtain ⟨mm,o,es,ep,g,r⟩:=I.nsl
  exact ⟨mm,o,es,ep,kb _ o nl g,r⟩
 ·obtain ⟨v,o,g,r⟩:=I.cells c oc
  exact ⟨v,o,kb _ o (no c oc) g,r⟩
 ·obtain ⟨⟨o,h1⟩,h2,h3⟩:=I.owL j a oa
  exact ⟨⟨o,kb a o (nw j a oa) h1⟩,fun q=>h2 (.inl q),h3⟩
 ·intro x b p ok g
  obtain ⟨v,hv,h1,h2⟩:=I.vars x b p ok g
  refine ⟨v,hv.keep fun a o ha g=>kb a o (fun q=>?_) g,fun q=>(h1 q).map kr,fun q=>(h2 q).map (fun a o oa=>kb a o (nw _ a oa)) (fun _=>Iff.rfl) kr⟩
  rcases ha with rfl|⟨n,c,hc,rfl⟩
  ·exact nl q
  ·subst q
   by_cases oc:own a
   ·exact no a oc rfl
   ·exact nH (outer n a hc oc)
theorem InS.reAdd (I:InS cx m A env ns Hx own ow ρ h) (l:Live h it) (nG:¬ cx.GA it) (n1:it ≠ env.locals) (n2:¬ own it) (n3:∀ k,¬ ow k it)
  (hv:∀ x b p,okN x=true→PEnv.get ρ (enc x)=some (b,p)→∃ v,VarAt h env x v∧(b=false→Rep cx h (HA (add Hx it) env own ow) v p)∧(b=true→OwnRep cx own.inst h (HA (add Hx it) env own ow) (ow (enc x)) v p)):InS cx m A env ns (add Hx it) own ow ρ h :=
 {I with cn:=⟨I.cn.gi,fun a q=>q.elim (I.cn.hid a) fun q=>q ▸ l,fun a b=>.inl (I.cn.bH a b),fun a q g=>q.elim (fun q=>I.cn.hg a q g) fun q=>(nG (q ▸ g)).elim⟩,fH:=⟨fun q=>q.elim I.fH.1 fun q=>n1 q.symm,fun c oc q=>q.elim (I.fH.2 c oc) fun q=>n2 (q ▸ oc)⟩,outer:=fun n c e q=>⟨.inl (I.outer n c e q).1,(I.outer n c e q).2⟩,owL:=fun k a oa=>⟨(I.owL k a oa).1,fun q=>q.elim (I.owL k a oa).2.1 fun q=>n3 k (q ▸ oa),(I.owL k a oa).2.2⟩,vars:=hv }
theorem InS.moved' (I:InS cx m A env ns (add Hx it) own ow ρ h) (k:Heap.ExtBut it h h') (nc:NoCd h it) (l:Live h' it) (nG:¬ cx.GA it) (bH:∀ a,cx.B a→Hx a) (nH:¬ Hx it) (outer:∀ n c,env.cells.lookup n=some c→¬ own c→Hx c):InS cx m A env ns (add Hx it) own ow ρ h':=by
 refine (I.moved k nc nG bH nH outer).reAdd l nG (fun q=>I.fH.1 (.inr q.symm)) (fun q=>I.fH.2 it q (.inr rfl)) (fun j q=>(I.owL j it q).2.1 (.inr rfl)) fun x b p ok g=>?_
 have nw:∀ j a,ow j a→a ≠ it:=fun j a oa q=>(I.owL j a oa).2.1 (.inr q)
 have kr:∀ a o,¬ HA (add Hx it) env own ow a→h.get? a=some o→¬ HA (add Hx it) env own ow a∧h'.get? a=some o:=fun a o n g=>⟨n,k a o (fun q=>n (.inl (.inr q))) g⟩
 obtain ⟨v,hv,h1,h2⟩:=I.vars x b p ok g
 refine ⟨v,hv.keep fun a o ha g=>k a o (fun q=>?_) g,fun q=>(h1 q).map kr,fun q=>(h2 q).map (fun a o oa=>k a o (nw _ a oa)) (fun _=>Iff.rfl) kr⟩
 rcases ha with rfl|⟨n,c,hc,rfl⟩
 ·exact I.fH.1 (.inr q)
 ·subst q
  by_cases oc:own a
  ·exact I.fH.2 a oc (.inr rfl)
  ·exact nH (outer n a hc oc)
theorem Ext.butW {W:Hid} {h₀ h h':Heap} (e:Ext cx W h₀ h) (nG:¬ cx.GA it) (nl:¬ Live h₀ it) (k:Heap.ExtBut it h h') (nc:NoCd h it):Ext cx W h₀ h' :=
 ⟨fun a o n x=>k a o (fun q=>nl ⟨o,q ▸ x⟩) (e.keep a o n x),fun a c l=>by
  obtain ⟨o,ho⟩:=e.alive a c l
  exact ⟨o,k a o (fun q=>nl (q ▸ l)) ho⟩,fun g=>cx.mono h h' (e.gi g) fun a o ga x=>k a o (fun q=>ga.elim (fun ga=>nG (q ▸ ga)) (nc o (q ▸ x))) x⟩
theorem iter_noCd {h:Heap} {it:Addr} (hc:∃ o nm,h.get? it=some o∧o.cls=.type nm∧nm∈(["list_iterator","list_reverseiterator","range_iterator","str_iterator","str_ascii_iterator"]:List String)):NoCd h it:=by
 obtain ⟨o,nm,ho,hcl,hm⟩:=hc
 refine .of_cls ho fun q=>?_
 rw [hcl] at q
 injection q with q
 subst q
 simp at hm
theorem letOwned_ok {A:Around} {E:Value→Shared→Prop} {s:Shared} {Q:Unit→Shared→Prop} {t:Expr} {xs:List Nat} {si:Bool} {v:Value} (tg:CTg ns t xs si) (hc:∃ o nm,s.heap.get? it=some o∧o.cls=.type nm∧nm∈(["list_iterator","list_reverseiterator","range_iterator","str_iterator","str_ascii_iterator"]:List String))
  (h:Q () s):wpAny (model cx.prog cx.w) A (letOwnedTupleGo t (.ref it) v) Q E s:=by
 cases tg with
 | one=>exact wpAny_pure h
 | many =>
  obtain ⟨o,nm,ho,hcl,hm⟩:=hc
  unfold letOwnedTupleGo
  cases v with
  | ref a =>
   refine wpAny_bind (wpAny_load ho ?_)
   rw [hcl]
   have hn:(["enumerate","zip","dict_itemiterator","dict_reverseitemiterator","odict_iterator","itertools.zip_longest","itertools.pairwise"]:List String).contains nm=false:=by
    simp only [List.mem_cons,List.not_mem_nil,or_false] at hm
    rcases hm with rfl|rfl|rfl|rfl|rfl <;> decide
   cases o.data with
   | fields vs =>
    show wpAny _ _ (if (_ && _)=true then _ else _) _ _ _
    rw [hn,Bool.false_and,if_neg Bool.false_ne_true]
    exact wpAny_pure h
   | _=>exact wpAny_pure h
  | _=>exact wpAny_pure h
end
end Mine
end
section
set_option maxRecDepth 100000
open PySem PySem.Calls PyProof.Rows PySem.W
set_option genSizeOf false
set_option genInjectivity false
namespace Mine
section
variable {cx:Cx} {G:Gl} {n:Nat} {A:Around} {env:Env} {ns:Ns} {Hx:Hid} {own:Own} {ow:Nat→Hid} {ρ ρ':PEnv} {s:Shared} {Q:Flow→Shared→Prop} {E:Value→Shared→Prop} {fl:Fl}
theorem drop_step {α:Type} {l:List α} {i:Nat} {x:α} (h:l[i]?=some x):l.drop i=x :: l.drop (i+1):=by
 obtain ⟨hi,e⟩:=List.getElem?_eq_some_iff.mp h
 rw [List.drop_eq_getElem_cons hi,e]
noncomputable def Turn (J:Nat→Shared→Prop) (Q:Flow→Shared→Prop) (n:Nat):Flow→Shared→Prop
 | .brk,s=>Q .next s
 | .ret v,s=>Q (.ret v) s
 | _,s=>∃ m,m<n∧J m s
theorem for_rule {prog:Program} {w:World} {target:Expr} {it:Value} {body orelse:List Stmt} (J:Nat→Shared→Prop)
  (turn:∀ {E':Value→Shared→Prop} n s,J n s→wpAny (model prog w) A (pyNext it) (fun r s₁=>(r=none→wpAny (model prog w) A (execs orelse env) Q E' s₁)∧∀ v,r=some v→wpAny (model prog w) A (letOwnedTupleGo target it v) (fun _ s₂ =>
   wpAny (model prog w) A (assign target env v) (fun _ s₃=>wpAny (model prog w) A (execs body env) (Turn J Q n) E' s₃) E' s₂) E' s₁) E' s)
  (n:Nat) (h:J n s):codeAny (model prog w) A (.forLoop target it body orelse env) (fun r s'=>match r with | .ok f=>Q f s' | .error e=>cameBackBy (model prog w) A env E e s') s:=by
 refine codeAny_forLoop_any J (fun n s hJ=>wpAny_mono (turn n s hJ) (fun r s₁ h₁=>?_) fun _ _ x=>x) n h
 induction r using Option.casesOn with
 | none=>exact h₁.1 rfl
 | some v =>
  refine wpAny_mono (h₁.2 v rfl) (fun _ s₂ h₂=>wpAny_mono h₂ (fun _ s₃ h₃=>wpAny_mono h₃ (fun f s₄ h₄=>?_) fun _ _ x=>x) fun _ _ x=>x) fun _ _ x=>x
  induction f using Flow.casesOn <;> exact h₄
structure LoopI (cx:Cx) (m:Nat) (A:Around) (env:Env) (ns:Ns) (Hx:Hid) (own:Own) (ow:Nat→Hid) (s:Shared) (it:Addr) (Hz:Hid) (h₂:Heap) (len:Nat) (St:Nat→Heap→Prop) (go:Nat→PEnv→Prop) (i:Nat) (h:Heap) (ow':Nat→Hid) (ρi:PEnv):Prop where
 le:i≤len
 st:St i h
 ins:InS cx m A env ns (add Hx it) own ow' ρi h
 ext:Ext cx (WW cx env own ow) s.heap h
 sub:∀ k a,ow' k a→(∃ j,ow j a)∨¬ Live s.heap a
 hz:∀ k a,ow' k a→Hz a
 keep:∀ a o,¬ Hz a→h₂.get? a=some o→h.get? a=some o
 go:go i ρi
inductive LoopJ (cx:Cx) (m:Nat) (A:Around) (env:Env) (ns:Ns) (Hx:Hid) (own:Own) (ow:Nat→Hid) (s:Shared) (it:Addr) (Hz:Hid) (h₂:Heap) (len:Nat) (St:Nat→Heap→Prop) (go:Nat→PEnv→Prop) (k:Nat) (s':Shared):Prop
 | mk (i:Nat) (h:Heap) (tk:Nat) (ow':Nat→Hid) (ρi:PEnv) (es:s'={ s with heap:=h,toks:=tk }) (ek:k=len+1 - i) (J:LoopI cx m A env ns Hx own ow s it Hz h₂ len St go i h ow' ρi):LoopJ cx m A env ns Hx own ow s it Hz h₂ len St go k s'
theorem for_i {r:Rc} {xs:List Nat} {si:Bool} {l l':List PS} {p:PV} {ps:List PV} {ρ₀:PEnv} (he:forGo r xs si l l' (p :: ps) ρ₀=some (ρ',fl)):∃ ρ₄ ρ₅ fo,bindT xs si p ρ₀=some ρ₄∧r.ex ρ₄ l=some (ρ₅,fo)∧((fo=.next∧forGo r xs si l l' ps ρ₅=some (ρ',fl))∨(ρ'=ρ₅∧((fo=.brk∧fl=.next)∨∃ v,fo=.ret v∧fl=.ret v))):=by
 refine ob_e he fun ρ₄ hb g1=>ob_e g1 fun o hex g2=>?_
 obtain ⟨ρ₅,fo⟩:=o
 refine ⟨ρ₄,ρ₅,fo,hb,hex,?_⟩
 induction fo using Fl.casesOn with
 | next=>exact .inl ⟨rfl,g2⟩
 | brk =>
  obtain ⟨h1,h2⟩:=Prod.mk.inj (Option.some.inj g2)
  exact .inr ⟨h1.symm,.inl ⟨rfl,h2.symm⟩⟩
 | ret v =>
  obtain ⟨h1,h2⟩:=Prod.mk.inj (Option.some.inj g2)
  exact .inr ⟨h1.symm,.inr ⟨v,rfl,h2.symm⟩⟩
theorem loop_ok (S:SndX cx G n) {t itE:Expr} {a b:List Stmt} {xs:List Nat} {si:Bool} {l r:List PS} {it:Addr} {ps:List PV} {P:Nat→Value→Prop} {St:Nat→Heap→Prop} {fp:List Addr} {Hz:Hid} {h₂:Heap} {tk:Nat} {ow₀:Nat→Hid} {ρ₀:PEnv}
  (tg:CTg ns t xs si) (ca:CSs ns a l) (cb:CSs ns b r) (I:InS cx (n+60) A env ns Hx own ow ρ s.heap)
  (nl:¬ Live s.heap it) (W:Walks cx.prog cx.w A it fp [it] ps.length P St) (hfp:∀ a∈fp,a=it∨¬ Hz a) (hcls:∀ i h,St i h→∃ o nm,h.get? it=some o∧o.cls=.type nm∧nm∈(["list_iterator","list_reverseiterator","range_iterator","str_iterator","str_ascii_iterator"]:List String))
  (val:∀ h,(∀ a o,¬ Hz a→h₂.get? a=some o→h.get? a=some o)→∀ i v,P i v→∃ p,ps[i]?=some p∧Rep cx h Hz v p)
  (J:InS cx (n+60) A env ns (add Hx it) own ow₀ ρ₀ h₂) (hz1:∀ a,HA (add Hx it) env own ow₀ a→Hz a) (hz2:∀ a,¬ Live h₂ a→Hz a) (st0:St 0 h₂)
  (E₀:Ext cx (WW cx env own ow) s.heap h₂) (sub₀:∀ k a,ow₀ k a→(∃ j,ow j a)∨¬ Live s.heap a)
  (he:forGo (sem G n) xs si l r ps ρ₀=some (ρ',fl)) (h:PostS cx (n+60) A env ns Hx own ow ρ' s Q fl) :
  codeAny (model cx.prog cx.w) A (.forLoop t (.ref it) a b env) (fun r s'=>match r with | .ok f=>Q f s' | .error e=>cameBackBy (model cx.prog cx.w) A env E e s') { s with heap:=h₂,toks:=tk }:=by
 have nG:¬ cx.GA it:=fun q=>nl (cx.ga_live _ it I.cn.gi q)
 have nH:¬ Hx it:=fun q=>nl (I.cn.hid _ q)
 have bH:=I.cn.bH
 have outer:∀ n c,env.cells.lookup n=some c→¬ own c→Hx c:=fun n c e q=>(I.outer n c e q).1
 have hxz:∀ a,Hx a→Hz a:=fun a q=>hz1 a (.inl (.inl q))
 have itz:Hz it:=hz1 it (.inl (.inr rfl))
 refine for_rule (LoopJ cx (n+60) A env ns Hx own ow s it Hz h₂ ps.length St fun i ρi=>forGo (sem G n) xs si l r (ps.drop i) ρi=some (ρ',fl)) (fun {E'} k s'=>?_) (ps.length+1)
  ⟨0,h₂,tk,ow₀,ρ₀,rfl,rfl,Nat.zero_le _,st0,J,E₀,sub₀,fun k a q=>hz1 a (.inr (.inr (.inr ⟨k,fun z=>z,q⟩))),fun _ _ _ g=>g,he⟩
 rintro ⟨i,h',tk',ow',ρi,rfl,rfl,hi,hst,Ii,Ei,subi,hzi,keep,hgo⟩
 have HAz:∀ a,HA (add Hx it) env own ow' a→Hz a:=fun a q=>by
  rcases q with q|q|q|⟨k,_,q⟩
  ·exact hz1 a (.inl q)
  ·exact hz1 a (.inr (.inl q))
  ·exact hz1 a (.inr (.inr (.inl q)))
  ·exact hzi k a q
 by_cases hlt:i<ps.length
 ·refine W.item i { s with heap:=h',toks:=tk' } _ _ hlt hst fun v h₃ t₃ hP st₃ k₃=>?_
  have k₃':Heap.ExtBut it h' h₃:=fun a o q g=>k₃ a o (by simpa using q) g
  have ncI:NoCd h' it:=iter_noCd (hcls _ _ hst)
  obtain ⟨o,nm,ho,hcl⟩:=hcls _ _ st₃
  have I₃:=Ii.moved' k₃' ncI ⟨o,ho⟩ nG bH nH outer
  have keep₃:∀ a o,¬ Hz a→h₂.get? a=some o→h₃.get? a=some o:=fun a o q g=>k₃' a o (fun z=>q (z ▸ itz)) (keep a o q g)
  obtain ⟨p,hp,hr⟩:=val h₃ keep₃ i v hP
  refine ⟨fun z=>nos z.symm,fun v' ev=>?_⟩
  obtain rfl:=Option.some.inj ev
  refine letOwned_ok (s:={ s with heap:=h₃,toks:=t₃ }) tg ⟨o,nm,ho,hcl⟩ ?_
  rw [drop_step hp] at hgo
  obtain ⟨ρ₄,ρ₅,fo,hb,hex,g2⟩:=for_i hgo
  ·
   have E₃:Ext cx (WW cx env own ow) s.heap h₃:=Ext.butW Ei nG nl k₃' ncI
   refine tgt_ok (s:={ s with heap:=h₃,toks:=t₃ }) tg I₃ hb (hr.open' HAz) fun h₄ t₄ ow₄ e₄ sub₄ I₄=>?_
   have wwz:∀ ow'':Nat→Hid,(∀ k a,ow'' k a→Hz a)→∀ a,WW cx env own ow'' a→Hz a:=fun ow'' hz a w=>by
    rcases w with w|w|w|⟨j,w⟩
    ·exact hxz a (I.cn.tH a w)
    ·exact hz1 a (.inr (.inl w))
    ·exact hz1 a (.inr (.inr (.inl w)))
    ·exact hz j a w
   have hz₄:∀ k a,ow₄ k a→Hz a:=fun k a q=>hzi k a (sub₄ k a q)
   have keep₄:∀ a o,¬ Hz a→h₂.get? a=some o→h₄.get? a=some o:=fun a o q g=>e₄.keep a o (fun w=>q (wwz ow' hzi a w)) (keep₃ a o q g)
   have E₄:Ext cx (WW cx env own ow) s.heap h₄:=WW_trans E₃ subi e₄
   have subs₄:∀ k a,ow₄ k a→(∃ j,ow j a)∨¬ Live s.heap a:=fun k a q=>subi k a (sub₄ k a q)
   have itW:∀ ow'':Nat→Hid,(∀ j,¬ ow'' j it)→¬ WW cx env own ow'' it:=fun ow'' no w=>by
    rcases w with w|w|w|⟨j,w⟩
    ·exact nG (cx.bGA _ (cx.tB _ w))
    ·exact I₄.fH.1 (.inr w.symm)
    ·exact I₄.fH.2 it w (.inr rfl)
    ·exact no j w
   have stf:∀ (j:Nat) (g g':Heap) (ow'':Nat→Hid),(∀ k a,ow'' k a→Hz a)→(∀ j,¬ ow'' j it)→Ext cx (WW cx env own ow'') g g'→St j g→St j g':=fun j g g' ow'' hz no e st=>W.frame j g g' st fun b hb o q=>by
    rcases hfp b hb with rfl|nb
    ·exact e.keep _ o (itW ow'' no) q
    ·exact e.keep _ o (fun w=>nb (wwz ow'' hz b w)) q
   have no':∀ (ow'':Nat→Hid) {ρ'':PEnv} {g:Heap},InS cx (n+60) A env ns (add Hx it) own ow'' ρ'' g→∀ j,¬ ow'' j it:=fun ow'' _ _ I j q=>(I.owL j it q).2.1 (.inr rfl)
   have st₄:=stf (i+1) h₃ h₄ ow' hzi (no' ow' I₃) e₄ st₃
   rcases g2 with ⟨rfl,g2⟩|⟨rfl,⟨rfl,rfl⟩|⟨pv,rfl,rfl⟩⟩
   ·refine S.ex (s:={ s with heap:=h₄,toks:=t₄ }) ca I₄ hex fun h₅ t₅ ow₅ e₅ sub₅ I₅=>?_
    refine ⟨ps.length+1 - (i+1),Nat.sub_lt_sub_left (Nat.lt_succ_of_le hi) (Nat.lt_succ_self i),i+1,h₅,t₅,ow₅,ρ₅,rfl,rfl,hlt,stf (i+1) h₄ h₅ ow₄ hz₄ (no' ow₄ I₄) e₅ st₄,I₅,WW_trans E₄ subs₄ e₅,sub_trans E₄ I₄ subs₄ sub₅,fun k a q=>?_,fun a o q g=>e₅.keep a o (fun w=>q (wwz ow₄ hz₄ a w)) (keep₄ a o q g),g2⟩
    rcases sub₅ k a q with ⟨j,q⟩|q
    ·exact hz₄ j a q
    ·refine Classical.byContradiction fun nz=>?_
     have lv:Live h₂ a:=Classical.byContradiction fun z=>nz (hz2 a z)
     obtain ⟨o,g⟩:=lv
     exact q ⟨o,keep₄ a o nz g⟩
   ·refine S.ex (s:={ s with heap:=h₄,toks:=t₄ }) ca I₄ hex fun h₅ t₅ ow₅ e₅ sub₅ I₅=>?_
    exact h h₅ t₅ ow₅ (WW_trans E₄ subs₄ e₅) (sub_trans E₄ I₄ subs₄ sub₅) (I₅.unAdd bH outer)
   ·refine S.ex (s:={ s with heap:=h₄,toks:=t₄ }) ca I₄ hex fun h₅ t₅ v₅ e₅ c₅ r₅=>?_
    exact h h₅ t₅ v₅ (WW_trans E₄ subs₄ e₅) ⟨c₅.gi,fun a q=>c₅.hid a (.inl q),bH,I.cn.hg⟩ (r₅.open' fun a q=>.inl q)
 ·obtain rfl:i=ps.length:=Nat.le_antisymm hi (Nat.not_lt.mp hlt)
  refine W.done { s with heap:=h',toks:=tk' } _ _ hst fun h₃ t₃ k₃=>?_
  have k₃':Heap.ExtBut it h' h₃:=fun a o q g=>k₃ a o (by simpa using q) g
  have ncI:NoCd h' it:=iter_noCd (hcls _ _ hst)
  have I₃:=Ii.moved k₃' ncI nG bH nH outer
  have E₃:Ext cx (WW cx env own ow) s.heap h₃:=Ext.butW Ei nG nl k₃' ncI
  rw [List.drop_length] at hgo
  exact ⟨fun _=>S.ex (s:={ s with heap:=h₃,toks:=t₃ }) cb I₃ hgo (h.after E₃ I₃ subi),fun v z=>nos z⟩
theorem for_step (g:GOk cx G) (S:SndX cx G n) {t itE:Expr} {a b:List Stmt} {xs:List Nat} {si:Bool} {pi:PE} {occ:List Nat} {l r:List PS} {p:Pos} (hs:∀ x,foldedSetIterable itE env x=pure x) (tg:CTg ns t xs si) (ci:CI ns itE pi) (ca:CSs ns a l) (cb:CSs ns b r)
  (I:InS cx (n+60) A env ns Hx own ow ρ s.heap) (he:exS (sem G n) ρ (.for_ xs si pi occ l r)=some (ρ',fl)) (h:PostS cx (n+60) A env ns Hx own ow ρ' s Q fl):wpAny (model cx.prog cx.w) A (exec (.For t itE a b p) env) Q E s:=by
 refine ob_e he fun po hit he=>?_
 obtain ⟨ps,fo⟩:=po
 induction fo using Bool.casesOn with
 | true =>
  refine wpAny_For (iter_ok g S.toSndN ci (I.ofOcc occ) hit fun it hb h₂ tk P St fp e₁ e₂ nl lv ok st0 hlen hsc=>?_) hs
  have nl0:¬ Live s.heap it:=fun q=>nl (e₁.live it q)
  refine loop_ok (itE:=itE) S tg ca cb I nl0 ok.walks (Hz:=fun a=>HH Hx env own ow (·∈occ) a∨¬ Live hb a) (fun a ha=>(ok.fp a ha).imp id fun q=>q.1) ok.cls (fun h' hk i v hP=>ok.val h' (fun a o q g=>hk a o q (e₂.keep a o (fun t=>q (.inl (.inl (I.cn.tH a t)))) g)) i v hP)
   (((I.ext e₁).extAdd e₂ nl lv).frozen occ) (fun a q=>?_) (fun a q=>.inr fun z=>q (e₂.live a z)) st0 (WW_of_ext (e₁.trans e₂)) (fun k a q=>.inl ⟨k,q.1⟩) he h
  rcases q with (q|q)|q|q|⟨k,_,q,nk⟩
  ·exact .inl (.inl q)
  ·exact .inr (q ▸ nl)
  ·exact .inl (.inr (.inl q))
  ·exact .inl (.inr (.inr (.inl q)))
  ·exact .inl (.inr (.inr (.inr ⟨k,nk,q⟩)))
 | false =>
  refine wpAny_For (iter_ok g S.toSndN ci (I.ofOcc occ) hit fun it hb h₂ tk P St fp e₁ e₂ nl lv ok st0 hlen hsc=>?_) hs
  have nl0:¬ Live s.heap it:=fun q=>nl (e₁.live it q)
  obtain ⟨hscal,hfp⟩:=hsc rfl
  refine loop_ok (itE:=itE) S tg ca cb I nl0 ok.walks (Hz:=fun a=>HA Hx env own ow a∨¬ Live hb a) (fun a ha=>.inl (hfp a ha)) ok.cls (fun h' hk i v hP=>?_)
   ((I.ext e₁).extAdd e₂ nl lv) (fun a q=>?_) (fun a q=>.inr fun z=>q (e₂.live a z)) st0 (WW_of_ext (e₁.trans e₂)) (fun k a q=>.inl ⟨k,q⟩) he h
  ·obtain ⟨pp,h1,h2⟩:=ok.val hb (fun _ _ _ g=>g) i v hP
   exact ⟨pp,h1,h2.scalar (hscal pp (List.mem_of_getElem? h1))⟩
  ·rcases q with (q|q)|q|q|q
   ·exact .inl (.inl q)
   ·exact .inr (q ▸ nl)
   ·exact .inl (.inr (.inl q))
   ·exact .inl (.inr (.inr (.inl q)))
   ·exact .inl (.inr (.inr (.inr q)))
theorem wh_i {r:Rc} {c:PE} {l:List PS} {k:Nat} {ρ₀:PEnv} (he:whileGo r c l (k+1) ρ₀=some (ρ',fl)):(r.ts ρ₀ c=some true∧∃ ρ₅ fo,r.ex ρ₀ l=some (ρ₅,fo)∧((fo=.next∧whileGo r c l k ρ₅=some (ρ',fl))∨(ρ'=ρ₅∧((fo=.brk∧fl=.next)∨∃ v,fo=.ret v∧fl=.ret v))))∨(r.ts ρ₀ c=some false∧ρ'=ρ₀∧fl=.next):=by
 rcases oif_i he with ⟨ht,g1⟩|⟨ht,g1⟩
 ·refine .inl ⟨ht,ob_e g1 fun o hex g2=>?_⟩
  obtain ⟨ρ₅,fo⟩:=o
  refine ⟨ρ₅,fo,hex,?_⟩
  induction fo using Fl.casesOn with
  | next=>exact .inl ⟨rfl,g2⟩
  | brk =>
   obtain ⟨h1,h2⟩:=Prod.mk.inj (Option.some.inj g2)
   exact .inr ⟨h1.symm,.inl ⟨rfl,h2.symm⟩⟩
  | ret v =>
   obtain ⟨h1,h2⟩:=Prod.mk.inj (Option.some.inj g2)
   exact .inr ⟨h1.symm,.inr ⟨v,rfl,h2.symm⟩⟩
 ·obtain ⟨h1,h2⟩:=Prod.mk.inj (Option.some.inj g1)
  exact .inr ⟨ht,h1.symm,h2.symm⟩
inductive WhJ (cx:Cx) (m:Nat) (A:Around) (env:Env) (ns:Ns) (Hx:Hid) (own:Own) (ow:Nat→Hid) (s:Shared) (go:Nat→PEnv→Prop) (k:Nat) (s':Shared):Prop
 | mk (h:Heap) (tk:Nat) (ow':Nat→Hid) (ρi:PEnv) (es:s'={ s with heap:=h,toks:=tk }) (I:InS cx m A env ns Hx own ow' ρi h) (e:Ext cx (WW cx env own ow) s.heap h) (sub:∀ k a,ow' k a→(∃ j,ow j a)∨¬ Live s.heap a) (g:go k ρi):WhJ cx m A env ns Hx own ow s go k s'
theorem while_step (S:SndX cx G n) {c:Expr} {a:List Stmt} {pc:PE} {l:List PS} {p:Pos} (hc:CT ns c pc) (ca:CSs ns a l) (I:InS cx (n+60) A env ns Hx own ow ρ s.heap) (he:exS (sem G n) ρ (.while_ pc l)=some (ρ',fl))
  (h:PostS cx (n+60) A env ns Hx own ow ρ' s Q fl):wpAny (model cx.prog cx.w) A (exec (.While c a [] p) env) Q E s:=by
 refine wpAny_While (codeAny_whileLoop (WhJ cx (n+60) A env ns Hx own ow s fun k ρi=>whileGo (sem G n) pc l k ρi=some (ρ',fl)) (fun k s' J=>?_) 40 ⟨s.heap,s.toks,ow,ρ,rfl,I,.refl,fun k a q=>.inl ⟨k,q⟩,he⟩)
 obtain ⟨h',tk',ow',ρi,rfl,Ii,Ei,subi,hgo⟩:=J
 induction k using Nat.casesOn with
 | zero=>exact nos hgo
 | succ k =>
  rcases wh_i hgo with ⟨ht,ρ₂,fo,hex,g2⟩|⟨ht,rfl,rfl⟩
  ·refine S.ts (s:={ s with heap:=h',toks:=tk' }) hc Ii.ofAll ht fun h₁ t₁ e₁=>?_
   rw [if_pos rfl]
   have I₁:=Ii.ext e₁
   have E₁:=WW_trans Ei subi (WW_of_ext (own:=own) (env:=env) (ow:=ow') e₁)
   rcases g2 with ⟨rfl,g2⟩|⟨rfl,⟨rfl,rfl⟩|⟨pv,rfl,rfl⟩⟩
   ·exact S.ex (s:={ s with heap:=h₁,toks:=t₁ }) ca I₁ hex fun h₂ t₂ ow₂ e₂ sub₂ I₂=>⟨k,Nat.lt_succ_self _,h₂,t₂,ow₂,ρ₂,rfl,I₂,WW_trans E₁ subi e₂,sub_trans E₁ I₁ subi sub₂,g2⟩
   ·exact S.ex (s:={ s with heap:=h₁,toks:=t₁ }) ca I₁ hex fun h₂ t₂ ow₂ e₂ sub₂ I₂=>h h₂ t₂ ow₂ (WW_trans E₁ subi e₂) (sub_trans E₁ I₁ subi sub₂) I₂
   ·exact S.ex (s:={ s with heap:=h₁,toks:=t₁ }) ca I₁ hex fun h₂ t₂ v₂ e₂ c₂ r₂=>h h₂ t₂ v₂ (WW_trans E₁ subi e₂) c₂ r₂
  ·refine S.ts (s:={ s with heap:=h',toks:=tk' }) hc Ii.ofAll ht fun h₁ t₁ e₁=>?_
   rw [if_neg Bool.false_ne_true]
   exact wpAny_execs_nil (h h₁ t₁ ow' (WW_trans Ei subi (WW_of_ext e₁)) subi (Ii.ext e₁))
end
end Mine
end
section
set_option maxRecDepth 100000
open PySem PySem.Calls PyProof.Rows PySem.W
set_option genSizeOf false
set_option genInjectivity false
namespace Mine
section
variable {cx:Cx} {m:Nat} {A:Around} {env:Env} {ns:Ns} {Hx:Hid} {own:Own} {ow:Nat→Hid} {ρ:PEnv} {h h':Heap}
theorem InS.hidMoved (I:InS cx m A env ns Hx own ow ρ h) {b:Addr} (hb:Hx b) (nG:¬ cx.GA b) (nc:∀ n c,env.cells.lookup n=some c→c ≠ b) (k:Heap.ExtBut b h h') (ncd:NoCd h b) (l:Live h' b):InS cx m A env ns Hx own ow ρ h':=by
 have nl:env.locals ≠ b:=fun q=>I.fH.1 (q ▸ hb)
 have no:∀ c,own c→c ≠ b:=fun c oc q=>I.fH.2 c oc (q ▸ hb)
 have nw:∀ j a,ow j a→a ≠ b:=fun j a oa q=>(I.owL j a oa).2.1 (q ▸ hb)
 have kr:∀ a o,¬ HA Hx env own ow a→h.get? a=some o→¬ HA Hx env own ow a∧h'.get? a=some o:=fun a o n g=>⟨n,k a o (fun q=>n (.inl (q ▸ hb))) g⟩
 have gi:cx.GI h':=cx.mono h h' I.cn.gi fun a o ga g=>k a o (fun q=>ga.elim (fun ga=>nG (q ▸ ga)) (ncd o (q ▸ g))) g
 refine { I with cn:=⟨gi,fun a q=>?_,I.cn.bH,I.cn.hg⟩,nsl:=?_,cells:=fun c oc=>?_,owL:=fun j a oa=>?_,vars:=?_ }
 ·by_cases z:a=b
  ·exact z ▸ l
  ·obtain ⟨o,ho⟩:=I.cn.hid a q
   exact ⟨o,k a o z ho⟩
 ·obtain ⟨mm,o,es,ep,g,r⟩:=I.nsl
  exact ⟨mm,o,es,ep,k _ o nl g,r⟩
 ·obtain ⟨v,o,g,r⟩:=I.cells c oc
  exact ⟨v,o,k _ o (no c oc) g,r⟩
 ·obtain ⟨⟨o,h1⟩,h2⟩:=I.owL j a oa
  exact ⟨⟨o,k a o (nw j a oa) h1⟩,h2⟩
 ·intro x bb p ok g
  obtain ⟨v,hv,h1,h2⟩:=I.vars x bb p ok g
  refine ⟨v,hv.keep fun a o ha g=>k a o (fun q=>?_) g,fun q=>(h1 q).map kr,fun q=>(h2 q).map (fun a o oa=>k a o (nw _ a oa)) (fun _=>Iff.rfl) kr⟩
  rcases ha with rfl|⟨n,c,hc,rfl⟩
  ·exact nl q
  ·exact nc n a hc q
theorem lookup_relabel {x:Str} {k:NameKind} (hk:k ≠ .free):∀ {names:List (Str × NameKind)},names.lookup x=some k →
  (names.map fun (n,k)=>if (k == NameKind.free && env.scope.kind == .function && env.kindOf n == some .cell) then (n,NameKind.cell) else (n,k)).lookup x=some k
 | [],h=>by simp at h
 | (n,j) :: r,h=>by
  have ih:=@lookup_relabel x k hk r
  show List.lookup x ((if (j == NameKind.free && env.scope.kind == .function && env.kindOf n == some .cell)=true then (n,NameKind.cell) else (n,j)) :: _)=_
  cases hx:x == n with
  | true =>
   simp only [List.lookup_cons,hx] at h
   cases h
   have:(k == NameKind.free)=false:=by simpa using hk
   simp [List.lookup_cons,hx,this]
  | false =>
   simp only [List.lookup_cons,hx] at h
   by_cases hc:(j == NameKind.free && env.scope.kind == .function && env.kindOf n == some .cell)=true
   ·rw [if_pos hc];simp only [List.lookup_cons,hx];exact ih h
   ·rw [if_neg hc];simp only [List.lookup_cons,hx];exact ih h
theorem lookup_relabel_free {x:Str} (hf:env.scope.kind=.function) (hk:env.kindOf x=some .cell):∀ {names:List (Str × NameKind)},names.lookup x=some .free →
  (names.map fun (n,k)=>if (k == NameKind.free && env.scope.kind == .function && env.kindOf n == some .cell) then (n,NameKind.cell) else (n,k)).lookup x=some .cell
 | [],h=>by simp at h
 | (n,j) :: r,h=>by
  have ih:=@lookup_relabel_free x hf hk r
  show List.lookup x ((if (j == NameKind.free && env.scope.kind == .function && env.kindOf n == some .cell)=true then (n,NameKind.cell) else (n,j)) :: _)=_
  cases hx:x == n with
  | true =>
   simp only [List.lookup_cons,hx] at h
   cases h
   have:x=n:=by simpa using hx
   subst this
   simp [List.lookup_cons,hf,hk]
  | false =>
   simp only [List.lookup_cons,hx] at h
   by_cases hc:(j == NameKind.free && env.scope.kind == .function && env.kindOf n == some .cell)=true
   ·rw [if_pos hc];simp only [List.lookup_cons,hx];exact ih h
   ·rw [if_neg hc];simp only [List.lookup_cons,hx];exact ih h
noncomputable def clFrom (env:Env):List (Str × NameKind)→List (Str × Addr)→List (Str × Addr)
 | [],acc=>acc
 | (n,k) :: r,acc=>if k == .free then clFrom env r ((n,(env.cells.lookup n).getD 0) :: acc) else clFrom env r acc
theorem closure_eq {scope:Scope} (hc:∀ y∈scope.names,y.2=.free→∃ c,env.cells.lookup y.1=some c):closureFor scope env=pure (clFrom env scope.names []):=by
 unfold closureFor
 have:∀ (names:List (Str × NameKind)) (acc:List (Str × Addr)),(∀ y∈names,y.2=.free→∃ c,env.cells.lookup y.1=some c) →
   (forIn names acc (fun (x:Str × NameKind) (cs:List (Str × Addr))=>if x.2 == .free then (do let a ← cellOf env x.1;pure (ForInStep.yield ((x.1,a) :: cs))) else pure (ForInStep.yield cs)):Sem _)=pure (clFrom env names acc):=by
  intro names
  induction names with
  | nil=>intro acc _;rfl
  | cons y r ih =>
   intro acc hy
   obtain ⟨n,k⟩:=y
   rw [List.forIn_cons]
   unfold clFrom
   by_cases hk:(k == NameKind.free)=true
   ·obtain ⟨c,hc⟩:=hy (n,k) (.head _) (by simpa using hk)
    simp only [hk,if_true]
    have:cellOf env n=pure c:=by unfold cellOf;rw [hc]
    rw [this]
    simp only [pure_bind]
    rw [hc]
    exact ih _ fun z hz=>hy z (.tail _ hz)
   ·have hk':(k == NameKind.free)=false:=by simpa using hk
    simp only [hk',Bool.false_eq_true,if_false,pure_bind]
    exact ih _ fun z hz=>hy z (.tail _ hz)
 have h2:=this scope.names [] hc
 exact (bind_pure _).trans h2
theorem clFrom_spec:∀ {names:List (Str × NameKind)} {acc:List (Str × Addr)},(∀ y∈names,y.2=.free→∃ c,env.cells.lookup y.1=some c)→(∀ n c,acc.lookup n=some c→env.cells.lookup n=some c) →
  (∀ n c,(clFrom env names acc).lookup n=some c→env.cells.lookup n=some c)∧(∀ n,((∃ c,acc.lookup n=some c)∨(n,NameKind.free)∈names)→∃ c,(clFrom env names acc).lookup n=some c)
 | [],acc,_,ha=>⟨ha,fun n hn=>hn.elim id fun q=>nomatch q⟩
 | (y,k) :: r,acc,hy,ha=>by
  unfold clFrom
  by_cases hk:(k == NameKind.free)=true
  ·rw [if_pos hk]
   obtain ⟨c,hc⟩:=hy (y,k) (.head _) (by simpa using hk)
   obtain ⟨h1,h2⟩:=clFrom_spec (names:=r) (acc:=(y,(env.cells.lookup y).getD 0) :: acc) (fun z hz=>hy z (.tail _ hz)) (fun n d hd=>by
    rw [List.lookup_cons] at hd
    cases hb:n == y with
    | true =>
     rw [hb] at hd
     have:n=y:=by simpa using hb
     subst this
     rw [hc] at hd ⊢
     exact hd
    | false=>rw [hb] at hd;exact ha n d hd)
   refine ⟨h1,fun n hn=>h2 n ?_⟩
   rcases hn with ⟨d,hd⟩|hn
   ·left
    rw [List.lookup_cons]
    cases n == y with
    | true=>exact ⟨_,rfl⟩
    | false=>exact ⟨d,hd⟩
   ·rcases List.mem_cons.mp hn with e|hn
    ·left
     injection e with e1 e2
     subst e1
     exact ⟨_,by rw [List.lookup_cons,beq_self_eq_true]⟩
    ·exact .inr hn
  ·rw [if_neg hk]
   obtain ⟨h1,h2⟩:=clFrom_spec (names:=r) (acc:=acc) (fun z hz=>hy z (.tail _ hz)) ha
   refine ⟨h1,fun n hn=>h2 n ?_⟩
   rcases hn with hn|hn
   ·exact .inl hn
   ·rcases List.mem_cons.mp hn with e|hn
    ·injection e with e1 e2
     subst e2
     exact (hk rfl).elim
    ·exact .inr hn
end
section
variable {prog:Program} {w:World} {A:Around} {E:Value→Shared→Prop} {R:Result→Shared→Prop} {s:Shared}
noncomputable def tests (ifs:List Expr) (env:Env):Sem Bool:=forIn ifs true fun c r=>if r=true then do let ok ← isTrue c env (eval c env);pure (ForInStep.yield ok) else pure (ForInStep.yield r)
noncomputable def gTurn (target:Expr) (ifs:List Expr) (q0:Pos) (EM:Sem Unit) (next:Code) (it:Value) (env:Env):Sem PySem.Fin:=do
 standAt q0
 match ← pyNext it with
 | none=>pure (.done .next)
 | some v =>
  letOwnedTupleGo target it v
  assign target env v
  let mut ok:=true
  for c in ifs do
   if ok then ok ← isTrue c env (eval c env)
  if ok then EM
  again next
theorem cp_den {e:Expr} (h:cpB e=true) (d:Nat) (it acc:Value) (env:Env):(A.under (.compLoop e d it acc env)=A∧(model prog w).den (.compLoop e d it acc env)=(compTurn e d it acc env).onRaise (fun x=>do noteFrame x env;theTreesLotGoes x)) ∧
  A.under (.compStart e d it acc env)=A∧(model prog w).den (.compStart e d it acc env)=(compStart e d it acc env).onRaise (fun x=>do noteFrame x env;standAt theWindowsPlace):=by
 induction e using Expr.casesOn <;> first|exact (Bool.false_ne_true h).elim|exact ⟨⟨rfl,rfl⟩,rfl,rfl⟩
theorem comp_rule {e target:Expr} {d:Nat} {ifs:List Expr} {q0:Pos} {EM:Sem Unit} {it acc:Value} {env:Env} (hcp:cpB e=true) (hturn:compTurn e d it acc env=gTurn target ifs q0 EM (.compLoop e d it acc env) it env) (J:Nat→Shared→Prop)
  (turn:∀ {E':Value→Shared→Prop} n s,J n s→wpAny (model prog w) A (pyNext it) (fun r s₁=>(r=none→R (.ok .next) s₁)∧∀ v,r=some v→wpAny (model prog w) A (letOwnedTupleGo target it v) (fun _ s₀=>wpAny (model prog w) A (assign target env v) (fun _ s₂ =>
   wpAny (model prog w) A (tests ifs env) (fun ok s₃=>(ok=true→wpAny (model prog w) A EM (fun _ s₅=>∃ m,m<n∧J m s₅) E' s₃)∧(ok=false→∃ m,m<n∧J m s₃)) E' s₂) E' s₀) E' s₁) E' s)
  (n:Nat) (h:J n s):codeAny (model prog w) A (.compLoop e d it acc env) R s:=by
 refine codeAny_loop rfl J (fun n s hI=>?_) n h
 obtain ⟨⟨h1,h2⟩,_⟩:=cp_den (prog:=prog) (w:=w) (A:=A) hcp d it acc env
 rw [h1,h2]
 refine wpAny_noted ?_
 rw [hturn]
 refine wpAny_bind (wpAny_standAt (wpAny_bind (wpAny_mono (turn n s hI) (fun r s₁ h₁=>?_) fun _ _ h'=>h')))
 induction r using Option.casesOn with
 | none=>exact wpAny_pure (h₁.1 rfl)
 | some v =>
  refine wpAny_bind (wpAny_mono (h₁.2 v rfl) (fun _ s₀ h₀'=>wpAny_bind (wpAny_mono h₀' (fun _ s₂ h₂=>wpAny_bind (wpAny_mono h₂ (fun ok s₃ h₃=>?_) fun _ _ h'=>h')) fun _ _ h'=>h')) fun _ _ h'=>h')
  induction ok using Bool.casesOn with
  | false=>exact wpAny_pure ⟨rfl,h₃.2 rfl⟩
  | true=>exact wpAny_bind (wpAny_mono (h₃.1 rfl) (fun _ s₅ h₅=>wpAny_pure ⟨rfl,h₅⟩) fun _ _ h'=>h')
theorem comp_start {e:Expr} {d:Nat} {g:Comprehension} {it acc:Value} {env:Env} (hcp:cpB e=true) (hcl:(clausesOf e)[d]?=some g) (ha:g.is_async=0) (h0:codeAny (model prog w) A (.compLoop e d it acc env) R s)
  (h:wpAny (model prog w) A (pyIter it) (fun it' s'=>codeAny (model prog w) A (.compLoop e d it' acc env) R s') (notedBy (model prog w) A env fun x s'=>R (.error x) s') s):codeAny (model prog w) A (.compStart e d it acc env) R s:=by
 refine codeAny_of_tree ?_
 obtain ⟨_,h1,h2⟩:=cp_den (prog:=prog) (w:=w) (A:=A) hcp d it acc env
 rw [h1,h2]
 refine wpAny_notedAt ?_
 unfold compStart
 rw [hcl]
 have e0:((some g).elim false fun g=>g.is_async != 0)=false:=by
  show (g.is_async != 0)=false
  rw [ha];rfl
 rw [e0]
 show wpAny _ A (ask >>= _) _ _ s
 refine wpAny_bind (wpAny_askSetting (wpAny_ite ?_))
 split
 ·first
   | exact wpAny_bind (wpAny_pure (wpAny_pure (And.intro rfl h0)))
   | exact wpAny_pure (And.intro rfl h0)
 ·first
   | exact wpAny_bind (wpAny_rule (wpAny_bind (wpAny_standAt (wpAny_bind (wpAny_mono h (fun it' s' h'=>wpAny_pure (And.intro rfl h')) fun _ _ x=>x)))))
   | (refine wpAny_bind (wpAny_rule ?_);show wpAny _ _ (standAt g.iter.pos >>= _) _ _ s;exact wpAny_bind (wpAny_standAt (wpAny_bind (wpAny_mono h (fun it' s' h'=>wpAny_pure (And.intro rfl h')) fun _ _ x=>x))))
end
end Mine
end
section
set_option maxRecDepth 100000
open PySem PySem.Calls PyProof.Rows PySem.W
set_option genSizeOf false
set_option genInjectivity false
namespace Mine
theorem mem_lookup_free {names:List (Str × NameKind)} {y:Str} {k:NameKind} (h:names.lookup y=some k):(y,k)∈names:=by
 induction names with
 | nil=>simp at h
 | cons z r ih =>
  obtain ⟨n,j⟩:=z
  rw [List.lookup_cons] at h
  cases hb:y == n with
  | true =>
   rw [hb] at h
   cases h
   have:y=n:=by simpa using hb
   subst this
   exact .head _
  | false=>rw [hb] at h;exact .tail _ (ih h)
theorem cap_i {l:List Nat} {ρ:PEnv} {x:Nat} {b:Bool} {q:PV} (h:PEnv.get (PEnv.cap l ρ) x=some (b,q)):x∈l∧b=false∧∃ b',PEnv.get ρ x=some (b',q):=by
 unfold PEnv.cap at h
 rw [get_freeze,Option.map_eq_some_iff] at h
 obtain ⟨⟨b',q'⟩,g1,g2⟩:=h
 rw [get_only] at g1
 by_cases hin:x∈l
 ·rw [if_pos hin] at g1 g2
  obtain ⟨h1,h2⟩:=Prod.mk.inj g2
  exact ⟨hin,h1.symm,b',h2 ▸ g1⟩
 ·rw [if_neg hin] at g1
  exact nos g1
section
variable {cx:Cx} {G:Gl} {n:Nat} {A:Around} {env:Env} {ns:Ns} {ρ:PEnv} {H:Hid} {s:Shared} {E:Value→Shared→Prop} {Q:Value→Shared→Prop}
theorem tests_false {env:Env}:∀ (es:List Expr),(forIn es false (fun c r=>if r=true then do let ok ← isTrue c env (eval c env);pure (ForInStep.yield ok) else pure (ForInStep.yield r)):Sem Bool)=pure false
 | []=>rfl
 | e :: es=>by
  rw [List.forIn_cons,if_neg Bool.false_ne_true,pure_bind]
  exact tests_false es
theorem tests_ok (S:SndN cx G n) {env:Env} {ns:Ns} {ρ:PEnv} {H:Hid}:∀ {es:List Expr} {l:List PE} {s:Shared} {b:Bool} {Q:Bool→Shared→Prop},CTs ns es l→InE cx (n+60) A env ns ρ H s→allT (sem G n) ρ l=some b→(∀ h' tk',Ext cx cx.T s.heap h'→Q b { s with heap:=h',toks:=tk' }) →
  wpAny (model cx.prog cx.w) A (tests es env) Q E s
 | [],_,s,b,Q,hc,I,e,h=>by
  obtain rfl:=hc.nil'
  exact wpAny_pure (Option.some.inj e ▸ h s.heap s.toks .refl)
 | x :: es,_,s,b,Q,hc,I,e,h=>by
  obtain ⟨a,m,rfl,hx,hr⟩:=hc.cons'
  unfold tests
  rw [List.forIn_cons,if_pos rfl]
  rcases oif_i e with ⟨ht,k⟩|⟨ht,k⟩
  ·exact wpAny_bind (wpAny_bind (S.ts hx I ht fun h₁ t₁ e₁=>wpAny_pure (tests_ok S hr (I.ext e₁) k fun h₂ t₂ e₂=>h h₂ t₂ (e₁.trans e₂))))
  ·obtain rfl:=Option.some.inj k
   exact wpAny_bind (wpAny_bind (S.ts hx I ht fun h₁ t₁ e₁=>wpAny_pure (wpAny_of_eq (tests_false es) (h h₁ t₁ e₁))))
noncomputable def AccR (cx:Cx) (H:Hid) (h:Heap) (D:Addr):PV→Prop
 | .list q=>∃ vs,IsLs h D vs∧RepAll cx h H vs q
 | .dict ks q=>∃ kvs,h.DictOf (strKind cx.prog cx.w) D kvs∧kvs.map (·.1)=ks.map S∧RepAll cx h H (kvs.map (·.2)) q
 | _=>False
theorem AccR.map {H H':Hid} {h h':Heap} {D:Addr} {q:PV} (r:AccR cx H h D q) (kD:∀ o,h.get? D=some o→h'.get? D=some o) (k:∀ a o,¬ H a→h.get? a=some o→¬ H' a∧h'.get? a=some o):AccR cx H' h' D q:=by
 induction q using PV.casesOn with
 | list q =>
  obtain ⟨vs,l,r⟩:=r
  exact ⟨vs,l.map kD,r.map k⟩
 | dict ks q =>
  obtain ⟨kvs,l,e,r⟩:=r
  exact ⟨kvs,l.at kD,e,r.map k⟩
 | _=>exact r.elim
theorem dict_at {h:Heap} {D:Addr} {kvs:List (Str × Value)} (l:h.DictOf (strKind cx.prog cx.w) D kvs):Live h D∧NoCd h D:=by
 obtain ⟨o,es,ep,ho,hc,_⟩:=l
 exact ⟨⟨o,ho⟩,.of_cls ho (by rw [hc.1];intro q;injection q with q;exact absurd q (by decide))⟩
theorem AccR.live {H:Hid} {h:Heap} {D:Addr} {q:PV} (r:AccR cx H h D q):Live h D:=by
 induction q using PV.casesOn with
 | list q=>exact (by obtain ⟨vs,l,r⟩:=r;exact l.live)
 | dict ks q=>exact (by obtain ⟨kvs,l,r⟩:=r;exact (dict_at l).1)
 | _=>exact r.elim
theorem AccR.done {H H':Hid} {h:Heap} {D:Addr} {q:PV} (r:AccR cx H h D q) (n:¬ H' D) (k:∀ a,H' a→H a):Rep cx h H' (.ref D) q:=by
 induction q using PV.casesOn with
 | list q =>
  obtain ⟨vs,l,r⟩:=r
  exact .list n l (r.open' k)
 | dict ks q =>
  obtain ⟨kvs,l,e,r⟩:=r
  exact .dict n l e (r.open' k)
 | _=>exact r.elim
noncomputable def FrC (env:Env) (own:Own):Hid:=fun a=>a=env.locals∨own a
structure Kp (cx:Cx) (Z Y:Hid) (h h':Heap):Prop where
 keep:∀ a o,¬ Z a→h.get? a=some o→h'.get? a=some o
 live:∀ a,¬ Y a→Live h a→Live h' a
 gi:cx.GI h→cx.GI h'
theorem Kp.refl {Z Y:Hid} {h:Heap}:Kp cx Z Y h h:=⟨fun _ _ _ g=>g,fun _ _ l=>l,fun g=>g⟩
theorem Kp.trans {Z Y:Hid} {h h' h'':Heap} (x:Kp cx Z Y h h') (y:Kp cx Z Y h' h''):Kp cx Z Y h h'':=⟨fun a o z g=>y.keep a o z (x.keep a o z g),fun a n l=>y.live a n (x.live a n l),fun g=>y.gi (x.gi g)⟩
theorem Kp.ofExt {Z Y:Hid} {h h':Heap} (x:Ext cx cx.T h h') (k:∀ a,cx.T a→Z a):Kp cx Z Y h h':=⟨fun a o z g=>x.keep a o (fun q=>z (k a q)) g,fun a _ l=>x.live a l,x.gi⟩
noncomputable abbrev KpE (cx:Cx) (env:Env) (own:Own) (D:Addr):Heap→Heap→Prop:=Kp cx (fun a=>cx.T a∨FrC env own a∨a=D) fun _=>False
noncomputable abbrev KpL (cx:Cx) (env:Env) (own:Own) (D it:Addr):Heap→Heap→Prop:=Kp cx (fun a=>cx.T a∨FrC env own a∨a=D∨a=it) fun a=>a=it
theorem KpE.up {cenv:Env} {own:Own} {D it:Addr} {h h':Heap} (x:KpE cx cenv own D h h'):KpL cx cenv own D it h h':=⟨fun a o z g=>x.keep a o (fun q=>z (by
  rcases q with q|q|q
  ·exact .inl q
  ·exact .inr (.inl q)
  ·exact .inr (.inr (.inl q)))) g,fun a _ l=>x.live a (fun q=>q) l,x.gi⟩
theorem HA_none {Hi:Hid} {env:Env} {own:Own} {ow:Nat→Hid} (no:∀ k a,¬ ow k a) {a:Addr} (q:HA Hi env own ow a):Hi a∨FrC env own a:=by
 rcases q with q|q|q|⟨k,_,q⟩
 ·exact .inl q
 ·exact .inr (.inl q)
 ·exact .inr (.inr q)
 ·exact (no k a q).elim
theorem WW_none {env:Env} {own:Own} {ow:Nat→Hid} (no:∀ k a,¬ ow k a) {a:Addr} (q:WW cx env own ow a):cx.T a∨FrC env own a:=by
 rcases q with q|q|q|⟨k,q⟩
 ·exact .inl q
 ·exact .inr (.inl q)
 ·exact .inr (.inr q)
 ·exact (no k a q).elim
theorem g_i {r:Rc} {xs:List Nat} {si:Bool} {l:List PE} {em:PEnv→PV→Option (PEnv × PV)} {p q:PV} {ps:List PV} {o:PEnv × PV} (h:gGo r xs si l em (p :: ps) ρ q=some o):∃ ρ',bindT xs si p ρ=some ρ'∧((allT r ρ' l=some true∧∃ ρ₂ q₂,em ρ' q=some (ρ₂,q₂)∧gGo r xs si l em ps ρ₂ q₂=some o)∨(allT r ρ' l=some false∧gGo r xs si l em ps ρ' q=some o)):=by
 refine ob_e h fun ρ' hb k=>⟨ρ',hb,?_⟩
 rcases oif_i k with ⟨ht,k⟩|⟨ht,k⟩
 ·exact ob_e k fun v hv k=>.inl ⟨ht,v.1,v.2,hv,k⟩
 ·exact .inr ⟨ht,k⟩
end
structure LpB (cx:Cx) (cenv:Env) (own:Own) (H0:Hid) (it D:Addr) (Hb:Hid):Prop where
 hz:∀ a,add H0 it a∨FrC cenv own a→Hb a
 nH:¬ H0 it
 hD:H0 D
 bH:∀ a,cx.B a→H0 a
 nGit:¬ cx.GA it
 nGD:¬ cx.GA D
 outer:∀ n c,cenv.cells.lookup n=some c→¬ own c→H0 c
structure LpI (cx:Cx) (m:Nat) (A:Around) (cenv:Env) (names:Ns) (H0:Hid) (own:Own) (it D:Addr) (h₀:Heap) (len:Nat) (St:Nat→Heap→Prop) (go:Nat→PEnv→PV→Prop) (i:Nat) (h:Heap) (ow':Nat→Hid) (ρi:PEnv) (q:PV):Prop where
 le:i≤len
 st:St i h
 no:∀ k a,¬ ow' k a
 ins:InS cx m A cenv names (add H0 it) own ow' ρi h
 kp:KpL cx cenv own D it h₀ h
 rep:AccR cx (fun a=>add H0 it a∨FrC cenv own a) h D q
 go:go i ρi q
inductive LpJ (cx:Cx) (m:Nat) (A:Around) (cenv:Env) (names:Ns) (H0:Hid) (own:Own) (it D:Addr) (s:Shared) (len:Nat) (St:Nat→Heap→Prop) (go:Nat→PEnv→PV→Prop) (k:Nat) (s':Shared):Prop
 | mk (i:Nat) (h:Heap) (tk:Nat) (ow':Nat→Hid) (ρi:PEnv) (q:PV) (es:s'={ s with heap:=h,toks:=tk }) (ek:k=len+1 - i) (J:LpI cx m A cenv names H0 own it D s.heap len St go i h ow' ρi q):LpJ cx m A cenv names H0 own it D s len St go k s'
noncomputable def EmitOk (cx:Cx) (n:Nat) (A:Around) (em:PEnv→PV→Option (PEnv × PV)) (EM:Sem Unit) (cenv:Env) (names:Ns) (own:Own) (Hx:Hid) (D:Addr):Prop :=
 ∀ {s:Shared} {ow:Nat→Hid} {ρ ρ':PEnv} {q q':PV} {E':Value→Shared→Prop} {P':Shared→Prop},em ρ q=some (ρ',q')→(∀ k a,¬ ow k a)→InS cx (n+60) A cenv names Hx own ow ρ s.heap→AccR cx (fun a=>Hx a∨FrC cenv own a) s.heap D q →
  (∀ h' tk ow',(∀ k a,¬ ow' k a)→InS cx (n+60) A cenv names Hx own ow' ρ' h'→KpE cx cenv own D s.heap h'→AccR cx (fun a=>Hx a∨FrC cenv own a) h' D q'→P' { s with heap:=h',toks:=tk }) →
  wpAny (model cx.prog cx.w) A EM (fun _ s'=>P' s') E' s
section
variable {cx:Cx} {G:Gl} {n:Nat} {A:Around} {names:Ns} {cenv:Env} {own:Own} {H0:Hid}
theorem loop_gen (S:SndN cx G n) {e target:Expr} {ifs:List Expr} {pifs:List PE} {xs:List Nat} {si:Bool} {d:Nat} {q0:Pos} {EM:Sem Unit} {it D:Addr} {hb:Heap} {Hb:Hid} {ps:List PV} {P:Nat→Value→Prop} {St:Nat→Heap→Prop} {fp:List Addr}
  {R:Result→Shared→Prop} {em:PEnv→PV→Option (PEnv × PV)} (hcp:cpB e=true) (hturn:compTurn e d (.ref it) (.ref D) cenv=gTurn target ifs q0 EM (.compLoop e d (.ref it) (.ref D) cenv) (.ref it) cenv)
  (tg:CTg names target xs si) (cifs:CTs names ifs pifs) (okI:ItOk cx A it hb Hb ps P St fp) (B:LpB cx cenv own H0 it D Hb) (emit:EmitOk cx n A em EM cenv names own (add H0 it) D)
  {s:Shared} {ρ₀ ρe:PEnv} {a₀ ae:PV} {ow₀:Nat→Hid} (no₀:∀ k a,¬ ow₀ k a) (I₀:InS cx (n+60) A cenv names (add H0 it) own ow₀ ρ₀ s.heap) (k0:∀ a o,¬ Hb a→hb.get? a=some o→s.heap.get? a=some o) (st0:St 0 s.heap)
  (r0:AccR cx (fun a=>add H0 it a∨FrC cenv own a) s.heap D a₀) (hgo:gGo (sem G n) xs si pifs em ps ρ₀ a₀=some (ρe,ae))
  (fin:∀ h' tk ow',(∀ k a,¬ ow' k a)→InS cx (n+60) A cenv names H0 own ow' ρe h'→KpL cx cenv own D it s.heap h'→AccR cx (fun a=>H0 a∨FrC cenv own a) h' D ae→R (.ok .next) { s with heap:=h',toks:=tk }) :
  codeAny (model cx.prog cx.w) A (.compLoop e d (.ref it) (.ref D) cenv) R s:=by
 have hit:add H0 it it:=.inr rfl
 have hD':add H0 it D:=.inl B.hD
 have itD:it ≠ D:=fun q=>B.nH (q ▸ B.hD)
 have TH:∀ a,cx.T a→H0 a:=fun a t=>B.bH a (cx.tB _ t)
 have TG:∀ a,cx.T a→cx.GA a:=fun a t=>cx.bGA _ (cx.tB _ t)
 have itF:¬ FrC cenv own it:=fun q=>q.elim (fun q=>I₀.fH.1 (q ▸ hit)) fun q=>I₀.fH.2 _ q hit
 have DF:¬ FrC cenv own D:=fun q=>q.elim (fun q=>I₀.fH.1 (q ▸ hD')) fun q=>I₀.fH.2 _ q hD'
 have zb:∀ a,(cx.T a∨FrC cenv own a∨a=D∨a=it)→Hb a:=fun a q=>by
  rcases q with q|q|q|q
  ·exact B.hz a (.inl (.inl (TH a q)))
  ·exact B.hz a (.inr q)
  ·exact B.hz a (.inl (q ▸ hD'))
  ·exact B.hz a (.inl (q ▸ hit))
 have stE:∀ {j:Nat} {g g':Heap},KpE cx cenv own D g g'→St j g→St j g':=fun {j g g'} e st=>okI.walks.frame j g g' st fun b hb' o gg=>e.keep b o (fun z=>by
  rcases okI.fp b hb' with rfl|⟨q,_⟩
  ·rcases z with z|z|z
   ·exact B.nGit (TG _ z)
   ·exact itF z
   ·exact itD z
  ·rcases z with z|z|z
   ·exact q (zb b (.inl z))
   ·exact q (zb b (.inr (.inl z)))
   ·exact q (zb b (.inr (.inr (.inl z))))) gg
 refine comp_rule hcp hturn (LpJ cx (n+60) A cenv names H0 own it D s ps.length St fun i ρi q=>gGo (sem G n) xs si pifs em (ps.drop i) ρi q=some (ρe,ae)) (fun k s' J=>?_) (ps.length+1) ⟨0,s.heap,s.toks,ow₀,ρ₀,a₀,rfl,rfl,Nat.zero_le _,st0,no₀,I₀,.refl,r0,hgo⟩
 obtain ⟨i,h',tk',ow',ρi,qi,rfl,rfl,hi,hst,no,Ii,Ki,hr1,hgo2⟩:=J
 have ncI:NoCd h' it:=iter_noCd (okI.cls _ _ hst)
 have kit:∀ {h₅:Heap},Heap.ExtBut it h' h₅→(cx.GI h'→cx.GI h₅)→KpL cx cenv own D it s.heap h₅:=fun {h₅} k₅ gi=>Ki.trans ⟨fun a o z g=>k₅ a o (fun q=>z (.inr (.inr (.inr q)))) g,fun a z ⟨o,g⟩=>⟨o,k₅ a o z g⟩,gi⟩
 by_cases hlt:i<ps.length
 ·refine okI.walks.item i { s with heap:=h',toks:=tk' } _ _ hlt hst fun v h₅ t₅ hP st₅ k₅=>⟨fun z=>nos z.symm,fun v' ev=>?_⟩
  obtain rfl:=Option.some.inj ev
  have k₅':Heap.ExtBut it h' h₅:=fun a o q g=>k₅ a o (fun z=>q (List.mem_singleton.mp z)) g
  obtain ⟨o,nm,ho,hcl⟩:=okI.cls _ _ st₅
  have I₅:=Ii.moved' k₅' ncI ⟨o,ho⟩ B.nGit B.bH B.nH B.outer
  have K₅:KpL cx cenv own D it s.heap h₅:=kit k₅' fun _=>I₅.cn.gi
  have r₅:AccR cx (fun a=>add H0 it a∨FrC cenv own a) h₅ D qi:=hr1.map (fun o g=>k₅' D o itD.symm g) fun a o q g=>⟨q,k₅' a o (fun z=>q (.inl (z ▸ hit))) g⟩
  obtain ⟨pp,hp,hrv⟩:=okI.val h₅ (fun a o q g=>K₅.keep a o (fun z=>q (zb a z)) (k0 a o q g)) i v hP
  refine letOwned_ok (s:={ s with heap:=h₅,toks:=t₅ }) tg ⟨o,nm,ho,hcl⟩ ?_
  rw [drop_step hp] at hgo2
  obtain ⟨ρ₆,hbd,g1⟩:=g_i hgo2
  refine tgt_ok (s:={ s with heap:=h₅,toks:=t₅ }) tg I₅ hbd (hrv.open' fun a q=>B.hz a (HA_none no q)) fun h₆ t₆ ow₆ e₆ sub₆ I₆=>?_
  have no₆:∀ k a,¬ ow₆ k a:=fun k a q=>no k a (sub₆ k a q)
  have K₆:KpE cx cenv own D h₅ h₆:=⟨fun a o z g=>e₆.keep a o (fun w=>z ((WW_none no w).imp id .inl)) g,fun a _ l=>by
    by_cases w:WW cx cenv own ow' a
    ·rcases WW_none no w with t|t|t
     ·exact e₆.alive a (.inr t) l
     ·exact t ▸ I₆.frame_live.1
     ·exact I₆.frame_live.2 a t
    ·exact e₆.alive a (.inl w) l,fun g=>e₆.gi g⟩
  have r₆:AccR cx (fun a=>add H0 it a∨FrC cenv own a) h₆ D qi:=r₅.map (fun o g=>e₆.keep D o (fun w=>(WW_none no w).elim (fun t=>B.nGD (TG _ t)) DF) g) fun a o q g=>⟨q,e₆.keep a o (fun w=>(WW_none no w).elim (fun t=>q (.inl (.inl (TH a t)))) fun t=>q (.inr t)) g⟩
  have nx:ps.length+1 - (i+1)<ps.length+1 - i:=Nat.sub_lt_sub_left (Nat.lt_succ_of_le hi) (Nat.lt_succ_self i)
  have extT:∀ {g':Heap},Ext cx cx.T h₆ g'→AccR cx (fun a=>add H0 it a∨FrC cenv own a) g' D qi:=fun {g'} e=>r₆.map (fun o gg=>e.keep D o (fun t=>B.nGD (TG _ t)) gg) fun a o q gg=>⟨q,e.keep a o (fun t=>q (.inl (.inl (TH a t)))) gg⟩
  have K67:∀ {g':Heap},Ext cx cx.T h₆ g'→KpE cx cenv own D h₅ g':=fun {g'} e=>K₆.trans (.ofExt e fun a t=>.inl t)
  rcases g1 with ⟨hall,ρ₇,q₇,hem,g2⟩|⟨hall,g2⟩
  ·refine tests_ok S (s:={ s with heap:=h₆,toks:=t₆ }) cifs I₆.ofAll hall fun h₇ t₇ e₇=>⟨fun _=>?_,fun z=>(Bool.false_ne_true z.symm).elim⟩
   refine emit (s:={ s with heap:=h₇,toks:=t₇ }) hem no₆ (I₆.ext e₇) (extT e₇) fun h₈ t₈ ow₈ no₈ I₈ K₈ r₈=>?_
   have K:=(K67 e₇).trans K₈
   exact ⟨_,nx,i+1,h₈,t₈,ow₈,ρ₇,q₇,rfl,rfl,hlt,stE K st₅,no₈,I₈,K₅.trans (KpE.up K),r₈,g2⟩
  ·refine tests_ok S (s:={ s with heap:=h₆,toks:=t₆ }) cifs I₆.ofAll hall fun h₇ t₇ e₇=>⟨fun z=>(Bool.false_ne_true z).elim,fun _=>?_⟩
   exact ⟨_,nx,i+1,h₇,t₇,ow₆,ρ₆,qi,rfl,rfl,hlt,stE (K67 e₇) st₅,no₆,I₆.ext e₇,K₅.trans (KpE.up (K67 e₇)),extT e₇,g2⟩
 ·obtain rfl:i=ps.length:=Nat.le_antisymm hi (Nat.not_lt.mp hlt)
  refine okI.walks.done { s with heap:=h',toks:=tk' } _ _ hst fun h₅ t₅ k₅=>⟨fun _=>?_,fun v z=>nos z⟩
  have k₅':Heap.ExtBut it h' h₅:=fun a o q g=>k₅ a o (fun z=>q (List.mem_singleton.mp z)) g
  rw [List.drop_length] at hgo2
  obtain ⟨h1,h2⟩:=Prod.mk.inj (Option.some.inj hgo2)
  have I₅:=Ii.moved k₅' ncI B.nGit B.bH B.nH B.outer
  exact fin h₅ t₅ ow' no (h1 ▸ I₅) (kit k₅' fun _=>I₅.cn.gi) (h2 ▸ hr1.map (fun o g=>k₅' D o itD.symm g) fun a o q g=>⟨fun z=>q (z.imp .inl id),k₅' a o (fun z=>q (.inl (z ▸ hit))) g⟩)
end
end Mine
end
section
set_option maxRecDepth 100000
open PySem PySem.Calls PyProof.Rows PySem.W
set_option genSizeOf false
set_option genInjectivity false
namespace Mine
section
variable {M:Model} {A:Around} {E:Value→Shared→Prop} {s:Shared}
theorem newEnv_gen {scope:Scope} {globals:Addr} {cl:List (Str × Addr)} {qual:Str} {outer:Env} {Q:Env→Shared→Prop}
  (h:Q { scope,locals:=s.heap.objs.size,globals,cells:=cellsFrom (s.heap.objs.size+1) scope.names cl,qual,func:=none,code:=outer.code,frame:=outer.frame,builtins:=outer.builtins }
   {s with heap:=pushCells (s.heap.push { cls:=.type "dict",data:=.dict #[] }) scope.names }) :
  wpAny M A (newFunctionEnv scope globals cl [] qual none .none (some outer)) Q E s:=by
 simp only [newFunctionEnv,Option.isSome_some,if_true]
 refine wpAny_bind (wpAny_alloc (wpAny_bind (wpAny_layCells _ (fun name kind cells=>?_) _ _ _ _ ?_)))
 ·cases hkc:kind == NameKind.cell <;> simp [hkc]
 ·rw [show ({ s with heap:=s.heap.push { cls:=.type "dict",data:=.dict #[] } }:Shared).heap.objs.size=s.heap.objs.size+1 from Heap.size_push ..]
  exact wpAny_pure h
end
theorem cellsFrom_app:∀ (names:List (Str × NameKind)) (k:Nat) (acc:List (Str × Addr)),cellsFrom k names acc=cellsFrom k names []++acc
 | [],_,_=>rfl
 | (n,j) :: r,k,acc=>by
  unfold cellsFrom
  by_cases hj:(j == NameKind.cell)=true
  ·rw [if_pos hj,if_pos hj,cellsFrom_app r (k+1) ((n,k) :: acc),cellsFrom_app r (k+1) [(n,k)],List.append_assoc];rfl
  ·rw [if_neg hj,if_neg hj]
   exact cellsFrom_app r k acc
theorem cellsFrom_kind:∀ {names:List (Str × NameKind)} {k:Nat} {acc:List (Str × Addr)} {y:Str × Addr},y∈cellsFrom k names acc→y∈acc∨(y.1,NameKind.cell)∈names
 | [],_,_,_,h=>.inl h
 | (n,j) :: r,k,acc,y,h=>by
  unfold cellsFrom at h
  by_cases hj:(j == NameKind.cell)=true
  ·rw [if_pos hj] at h
   rcases cellsFrom_kind h with q|q
   ·rcases List.mem_cons.mp q with rfl|q
    ·obtain rfl:j=.cell:=by simpa using hj
     exact .inr (.head _)
    ·exact .inl q
   ·exact .inr (.tail _ q)
  ·rw [if_neg hj] at h
   exact (cellsFrom_kind h).imp id (.tail _)
theorem lookup_app {x:Str}:∀ {a b:List (Str × Addr)},(a++b).lookup x=(a.lookup x).or (b.lookup x)
 | [],b=>rfl
 | (n,c) :: a,b=>by
  rw [List.cons_append,List.lookup_cons,List.lookup_cons]
  cases x == n with
  | true=>rfl
  | false=>exact lookup_app
structure CfB (cx:Cx) (env:Env) (s:Shared) (scope:Scope) (K:List (Str × Addr)) (own:Own) (C D it:Addr) (h₄:Heap):Prop where
 k1:∀ n c,K.lookup n=some c→own c∨env.cells.lookup n=some c
 k2:∀ n,scope.names.lookup n=some .cell→∃ c,K.lookup n=some c∧own c
 k3:∀ n,scope.names.lookup n=some .free→∃ c,K.lookup n=some c∧env.cells.lookup n=some c
 k4:∀ n n' c,K.lookup n=some c→own c→K.lookup n'=some c→n=n'
 k5:∀ c,own c→¬ Live s.heap c∧c ≠ C∧c ≠ D∧c ≠ it
 cell:∀ c,own c→∃ v,h₄.IsCell c v
 nC:¬ Live s.heap C
 nD:¬ Live s.heap D
 nI:¬ Live s.heap it
 DC:D ≠ C
 itC:it ≠ C
 itD:it ≠ D
 ext:Ext cx cx.T s.heap h₄
 lD:Live h₄ D
 lI:Live h₄ it
 ns:∃ mm,h₄.Ns C mm
section
variable {cx:Cx} {G:Gl} {n:Nat} {A:Around} {env:Env} {ns:Ns} {ρ:PEnv} {H:Hid} {s:Shared} {E:Value→Shared→Prop} {Q:Value→Shared→Prop}
theorem comp_frame {scope:Scope} {caps:List Nat} {C D it:Addr} {h₄:Heap} {K:List (Str × Addr)} {own:Own} (ok:CompOk ns scope caps) (I:InE cx (n+60) A env ns ρ H s) (B:CfB cx env s scope K own C D it h₄) :
  InS cx (n+60) A (compEnvC scope K C env) scope.names (add (add H D) it) own (fun _ _=>False) (PEnv.cap caps ρ) h₄:=by
 have gis:=I.cn.gi
 have nG:∀ {a},¬ Live s.heap a→¬ cx.GA a:=fun nl q=>nl (cx.ga_live _ _ gis q)
 have cn4:Cn cx h₄ (add (add H D) it):=⟨B.ext.gi gis,fun a q=>by
   rcases q with (q|q)|q
   ·exact B.ext.live a (I.cn.hid a q)
   ·exact q ▸ B.lD
   ·exact q ▸ B.lI,fun a b=>.inl (.inl (I.cn.bH a b)),fun a q ga=>by
   rcases q with (q|q)|q
   ·exact I.cn.hg a q ga
   ·exact (nG B.nD (q ▸ ga)).elim
   ·exact (nG B.nI (q ▸ ga)).elim⟩
 have hiN:∀ {a},¬ Live s.heap a→a ≠ D→a ≠ it→¬ add (add H D) it a:=fun l n1 n2 q=>by
  rcases q with (q|q)|q
  ·exact l (I.cn.hid _ q)
  ·exact n1 q
  ·exact n2 q
 refine ⟨I.room,ok.kind,fun f hf=>lookup_relabel (by decide) hf,fun y hy=>lookup_relabel (by decide) hy,fun y hy=>⟨lookup_relabel (by decide) hy,B.k2 y hy⟩,fun y hy=>?_,I.glob,I.blt,cn4,B.ns,B.cell,B.k4,
  ⟨hiN B.nC B.DC.symm B.itC.symm,fun c q=>(by obtain ⟨h1,h2,h3,h4⟩:=B.k5 c q;exact hiN h1 h3 h4)⟩,⟨nG B.nC,fun c q=>nG (B.k5 c q).1⟩,fun q=>(B.k5 _ q).2.1 rfl,fun n c e q=>?_,fun k a q=>q.elim,fun k a q=>q.elim,fun j k a q=>q.elim,fun x b q okx gq=>?_⟩
 ·obtain ⟨h1,_⟩:=I.cel y (ok.free _ (mem_lookup_free hy) rfl)
  obtain ⟨c,hc,_⟩:=B.k3 y hy
  exact ⟨lookup_relabel_free I.kind h1 hy,c,hc⟩
 ·have hc:=(B.k1 n c e).resolve_left q
  exact ⟨.inl (.inl (I.cH n c hc)),I.nT.2 n c hc⟩
 ·obtain ⟨hin,hb,b',g1⟩:=cap_i gq
  obtain ⟨fr,hfr,hall⟩:=ok.caps
  rw [hfr] at hin
  obtain ⟨y,hy,hxy⟩:=List.mem_map.mp hin
  obtain ⟨oky,hyf⟩:=hall y hy
  obtain rfl:=enc_inj oky okx hxy
  obtain ⟨v,hv,hr⟩:=I.vars y b' q okx g1
  obtain ⟨hk,_⟩:=I.cel y (ok.free _ (mem_lookup_free hyf) rfl)
  obtain ⟨c,hc2,hc⟩:=B.k3 y hyf
  have hcell:s.heap.IsCell c (some v):=by
   rcases hv with ⟨k,_⟩|⟨_,c',hc',h⟩
   ·exact (NameKind.noConfusion (Option.some.inj (hk.symm.trans k)))
   ·exact Option.some.inj (hc'.symm.trans hc) ▸ h
  refine ⟨v,.inr ⟨.inl (lookup_relabel_free I.kind hk hyf),c,hc2,?_⟩,fun _=>?_,fun z=>(Bool.false_ne_true (hb.symm.trans z)).elim⟩
  ·obtain ⟨o,ho,hd⟩:=hcell
   exact ⟨o,B.ext.keep c o (I.nT.2 y c hc) ho,hd⟩
  ·refine hr.map fun a o na gg=>⟨fun q=>?_,B.ext.keep a o (fun t=>na (I.cn.tH a t)) gg⟩
   rcases q with ((q|q)|q)|q|q|⟨_,_,q⟩
   ·exact na q
   ·exact B.nD ⟨o,q ▸ gg⟩
   ·exact B.nI ⟨o,q ▸ gg⟩
   ·exact B.nC ⟨o,(show a=C from q) ▸ gg⟩
   ·exact (B.k5 a q).1 ⟨o,gg⟩
   ·exact q
structure CpT (cx:Cx) (G:Gl) (n:Nat) (A:Around) (e target iter:Expr) (ifs:List Expr) (gs:List Comprehension) (scope:Scope) (pos q0:Pos) (newAcc:Sem Value) (o0:Obj) (EM:Addr→Env→Sem Unit) (pel:PE):Prop where
 cp:cpB e=true
 cl:clausesOf e=⟨target,iter,ifs,0⟩ :: gs
 turn:∀ (it D:Addr) cenv,compTurn e 0 (.ref it) (.ref D) cenv=gTurn target ifs q0 (EM D cenv) (.compLoop e 0 (.ref it) (.ref D) cenv) (.ref it) cenv
 ev:∀ env,eval e env=comprehension e scope env pos newAcc false (eval iter env)
 use:∀ env u,evalThenUse e env u=(do let _ ← comprehension e scope env pos newAcc false (eval iter env) (some u))
 new:∀ {E:Value→Shared→Prop} {s:Shared} {Q:Value→Shared→Prop},Q (.ref s.heap.objs.size) { s with heap:=s.heap.push o0 }→wpAny (model cx.prog cx.w) A newAcc Q E s
 r0:∀ (H:Hid) (h:Heap),AccR cx H (h.push o0) h.objs.size (acc0 pel)
 emit:∀ {cenv:Env} {own:Own} {Hx:Hid} {D:Addr},Hx D→¬ cx.GA D→(∀ n c,cenv.cells.lookup n=some c→c ≠ D)→EmitOk cx n A (emE (sem G n) pel) (EM D cenv) cenv scope.names own Hx D
theorem comp_core (g:GOk cx G) (S:SndN cx G n) {e target iter:Expr} {ifs:List Expr} {gs:List Comprehension} {scope:Scope} {pos q0:Pos} {newAcc:Sem Value} {o0:Obj} {EM:Addr→Env→Sem Unit} {pel pi:PE} (T:CpT cx G n A e target iter ifs gs scope pos q0 newAcc o0 EM pel)
  {pifs:List PE} {xs:List Nat} {si:Bool} {caps:List Nat} {ps:List PV} {fl:Bool} {use:Option (Value→Sem Unit)} {ρe:PEnv} {ae:PV} (ok:CompOk ns scope caps) (tg:CTg scope.names target xs si) (ci:CI ns iter pi) (cifs:CTs scope.names ifs pifs) (I:InE cx (n+60) A env ns ρ H s)
  (hit:iterV (sem G n) ρ pi=some (ps,fl)) (hgo:gGo (sem G n) xs si pifs (emE (sem G n) pel) ps (PEnv.cap caps ρ) (acc0 pel)=some (ρe,ae))
  (fin:∀ C D h₁ tk,¬ Live s.heap C→¬ Live s.heap D→D ≠ C→Ext cx cx.T s.heap h₁→(∃ m,h₁.Ns C m)→AccR cx (fun a=>H a∨a=C∨a=D) h₁ D ae→compPost (model cx.prog cx.w) A E use Q (.ref D) C (.ok .next) { s with heap:=h₁,toks:=tk }) :
  wpAny (model cx.prog cx.w) A (comprehension e scope env pos newAcc false (eval iter env) use) Q E s:=by
 have hfree:∀ y∈scope.names,y.2=.free→∃ c,env.cells.lookup y.1=some c:=fun y hy hf=>(I.cel y.1 (ok.free y hy hf)).2
 obtain ⟨cl1,cl2⟩:=clFrom_spec (env:=env) (names:=scope.names) (acc:=[]) hfree (fun n c h=>nos h)
 refine wpAny_comprehension_free (g:=⟨target,iter,ifs,0⟩) (gs:=gs) T.cl (fun x=>ci.fold _ _) (closure_eq hfree) ok.kind ok.names ?_
 refine iter_ok g S ci I hit fun it hb h₂ tk P St fp e₁ e₂ nl lv okI st0 hpl _=>?_
 refine T.new (newEnv_gen ?_)
 dsimp only
 have rD3:=fun H=>T.r0 H h₂
 generalize hH3:h₂.push o0=H3 at rD3
 have size3:H3.objs.size=h₂.objs.size+1:=by rw [← hH3,Heap.size_push]
 obtain ⟨D,hD⟩:∃ D,D=h₂.objs.size:=⟨_,rfl⟩
 obtain ⟨C,hC⟩:∃ C,C=H3.objs.size:=⟨_,rfl⟩
 rw [← hD] at rD3
 rw [← hC,← hD]
 have sizeF:(H3.push { cls:=.type "dict",data:=.dict #[] }).objs.size=C+1:=by rw [Heap.size_push,hC]
 have cok:=cellsFrom_ok scope.names (H3.push { cls:=.type "dict",data:=.dict #[] }) (C+1) [] ⟨fun _ _ hm=>(nomatch hm),List.Pairwise.nil⟩ (Nat.le_of_eq sizeF.symm)
 rw [sizeF] at cok
 rw [cellsFrom_app scope.names (C+1) (clFrom env scope.names [])]
 have okd:∀ {y:Str} {c:Addr},(y,c)∈cellsFrom (C+1) scope.names []→(y,NameKind.cell)∈scope.names:=fun hm=>(cellsFrom_kind hm).elim (fun q=>nomatch q) id
 have ohas:∀ {y:Str},scope.names.lookup y=some .cell→∃ c,(cellsFrom (C+1) scope.names []).lookup y=some c:=fun hy=>Option.isSome_iff_exists.mp (cellsFrom_some scope.names (C+1) [] (.inl hy))
 generalize cellsFrom (C+1) scope.names []=OL at cok okd ohas ⊢
 have k34:∀ b o,H3.get? b=some o→(pushCells (H3.push { cls:=.type "dict",data:=.dict #[] }) scope.names).get? b=some o:=fun b o e=>pushCells_keeps _ _ b o (Heap.get?_push_of_some _ e)
 have hns₄:(pushCells (H3.push { cls:=.type "dict",data:=.dict #[] }) scope.names).Ns C fun _=>none:=by
  rw [hC];exact (Heap.Ns.new H3 (.type "dict")).keeps (pushCells_keeps _ _)
 generalize pushCells (H3.push { cls:=.type "dict",data:=.dict #[] }) scope.names=h₄ at cok k34 hns₄ ⊢
 have above:∀ {m c},OL.lookup m=some c→C+1≤c∧h₄.IsCell c none:=fun {m c} hc=>(cok.empty m c (mem_of_lookup hc)).symm
 have eb2:Ext cx cx.T s.heap h₂:=e₁.trans e₂
 have e23:Ext cx cx.T h₂ H3:=hH3 ▸ Ext.push _
 have e34:Ext cx cx.T H3 h₄:=.of_keep k34
 have e24:Ext cx cx.T h₂ h₄:=e23.trans e34
 have nlD2:¬ Live h₂ D:=hD ▸ not_live_size
 have nlC2:¬ Live h₂ C:=fun q=>(hC ▸ not_live_size:¬ Live H3 C) (e23.live C q)
 have nlO2:∀ {m c},OL.lookup m=some c→¬ Live h₂ c:=fun hc l=>Nat.lt_irrefl C (Nat.lt_of_lt_of_le (above hc).1 (Nat.le_of_lt (Nat.lt_of_lt_of_eq (e23.live _ l).lt hC.symm)))
 have DC:D<C:=by rw [hD,hC,size3];exact Nat.lt_succ_self _
 have F:CfB cx env s scope (OL++clFrom env scope.names []) ⟨fun c=>∃ m,OL.lookup m=some c,0⟩ C D it h₄:=by
  have ls:∀ {n:Str} {c:Addr},(OL++clFrom env scope.names []).lookup n=some c→OL.lookup n=some c∨env.cells.lookup n=some c:=fun {n c} hc=>by
   rw [lookup_app] at hc
   cases q:OL.lookup n with
   | some d=>rw [q] at hc;exact .inl hc
   | none=>rw [q] at hc;exact .inr (cl1 n c hc)
  refine ⟨fun n c hc=>(ls hc).imp (fun q=>⟨n,q⟩) id,fun n hn=>?_,fun n hn=>?_,fun n n' c h1 oc h2=>?_,fun c ⟨m,hm⟩=>⟨fun l=>nlO2 hm (eb2.live c l),fun q=>Nat.not_succ_le_self C (q ▸ (above hm).1),fun q=>Nat.lt_asymm DC (q ▸ (above hm).1),fun q=>nlO2 hm (q ▸ lv)⟩,fun c ⟨m,hm⟩=>⟨_,(above hm).2⟩,
   fun q=>nlC2 (eb2.live C q),fun q=>nlD2 (eb2.live D q),fun q=>nl (e₁.live it q),Nat.ne_of_lt DC,fun q=>nlC2 (q ▸ lv),fun q=>nlD2 (q ▸ lv),eb2.trans e24,?_,e24.live it lv,⟨_,hns₄⟩⟩
  ·obtain ⟨c,hc⟩:=ohas hn
   exact ⟨c,by rw [lookup_app,hc];rfl,n,hc⟩
  ·obtain ⟨c,hc⟩:=cl2 n (.inr (mem_lookup_free hn))
   refine ⟨c,?_,cl1 n c hc⟩
   rw [lookup_app]
   cases q:OL.lookup n with
   | none=>exact hc
   | some d=>exact NameKind.noConfusion (ok.sep _ (okd (mem_of_lookup q)) rfl (n,.free) (mem_lookup_free hn) rfl)
  ·have no:∀ {n},env.cells.lookup n=some c→¬ ∃ m,OL.lookup m=some c:=fun hc ⟨m,hm⟩=>nlO2 hm (eb2.live c (I.cn.hid _ (I.cH _ c hc)))
   exact (ls h1).elim (fun h1=>(ls h2).elim (fun h2=>name_of_addr cok.apart (mem_of_lookup h1) (mem_of_lookup h2)) fun h2=>(no h2 oc).elim) fun h1=>(no h1 oc).elim
  ·exact ((rD3 fun _=>False).map (fun o g=>k34 D o g) fun a o q g=>⟨q,k34 a o g⟩).live
 have J4:=comp_frame ok I F
 have nG:∀ {a},¬ Live s.heap a→¬ cx.GA a:=fun nl q=>nl (cx.ga_live _ _ I.cn.gi q)
 have B:LpB cx (compEnvC scope (OL++clFrom env scope.names []) C env) ⟨fun c=>∃ m,OL.lookup m=some c,0⟩ (add H D) it D (fun a=>H a∨¬ Live hb a):=by
  refine ⟨fun a q=>?_,fun q=>q.elim (fun q=>F.nI (I.cn.hid _ q)) F.itD,.inr rfl,fun a b=>.inl (I.cn.bH a b),nG F.nI,nG F.nD,fun n c e q=>.inl (I.cH n c ((F.k1 n c e).resolve_left q))⟩
  rcases q with ((q|q)|q)|q|⟨m,q⟩
  ·exact .inl q
  ·exact .inr fun l=>nlD2 (e₂.live D (q ▸ l))
  ·exact .inr (q ▸ nl)
  ·exact .inr fun l=>nlC2 (e₂.live C ((show a=C from q) ▸ l))
  ·exact .inr fun l=>nlO2 q (e₂.live a l)
 have ncD:∀ n c,(compEnvC scope (OL++clFrom env scope.names []) C env).cells.lookup n=some c→c ≠ D:=fun n c e q=>(F.k1 n c e).elim (fun h=>(F.k5 c h).2.2.1 q) fun h=>F.nD (q ▸ I.cn.hid _ (I.cH n c h))
 have st4:St 0 h₄:=okI.walks.frame 0 h₂ h₄ st0 fun b hb' o gg=>e24.keep b o (fun t=>by
  rcases okI.fp b hb' with rfl|⟨q,_⟩
  ·exact B.nGit (cx.bGA _ (cx.tB _ t))
  ·exact q (.inl (I.cn.tH b t))) gg
 have loop:=loop_gen (s:={ s with heap:=h₄,toks:=tk }) (R:=compPost (model cx.prog cx.w) A E use Q (.ref D) C) S T.cp (T.turn it D _) tg cifs okI B (T.emit (.inl (.inr rfl)) B.nGD ncD) (fun k a q=>q) J4 (fun a o q gg=>e24.keep a o (fun t=>q (.inl (I.cn.tH a t))) (e₂.keep a o (fun t=>q (.inl (I.cn.tH a t))) gg)) st4
  ((rD3 _).map (fun o g=>k34 D o g) fun a o q g=>⟨q,k34 a o g⟩) hgo fun h' tk' ow' no I' Kl r'=>?_
 ·exact comp_start T.cp (by rw [T.cl];rfl) rfl loop (okI.walks.self 0 _ _ _ st4 loop)
 ·refine fin C D h' tk' F.nC F.nD F.DC ⟨fun a o t gg=>Kl.keep a o (fun z=>?_) (F.ext.keep a o t gg),fun a _ l=>Kl.live a (fun z=>F.nI (z ▸ l)) (F.ext.live a l),fun gg=>Kl.gi (F.ext.gi gg)⟩ I'.nsl (r'.map (fun o g=>g) fun a o q g=>⟨fun z=>q ?_,g⟩)
  ·rcases z with z|(z|z)|z|z
   ·exact t z
   ·exact F.nC ((show a=C from z) ▸ ⟨o,gg⟩)
   ·exact (F.k5 a z).1 ⟨o,gg⟩
   ·exact F.nD (z ▸ ⟨o,gg⟩)
   ·exact F.nI (z ▸ ⟨o,gg⟩)
  ·rcases z with z|z|z
   ·exact .inl (.inl z)
   ·exact .inr (.inl z)
   ·exact .inl (.inr z)
end
end Mine
end
section
set_option maxRecDepth 100000
open PySem PySem.Calls PyProof.Rows PySem.W
set_option genSizeOf false
set_option genInjectivity false
namespace Mine
theorem stored_fresh {kvs:List (Str × Value)} {ks:List (List Nat)} {x:List Nat} (v:Value) (e:kvs.map (·.1)=ks.map S) (h:hasKey x ks=false):stored kvs (S x) v=kvs++[(S x,v)]:=by
 unfold stored
 refine if_neg fun q=>?_
 obtain ⟨kv,hm,hk⟩:=List.any_eq_true.mp q
 have hk:kv.1=S x:=of_decide_eq_true hk
 have:S x∈ks.map S:=by rw [← e,← hk];exact List.mem_map_of_mem hm
 obtain ⟨y,hy,hyx⟩:=List.mem_map.mp this
 obtain rfl:=S_inj.mp hyx
 exact Bool.false_ne_true (h.symm.trans (List.any_eq_true.mpr ⟨y,hy,beqL_iff.mpr rfl⟩))
section
variable {cx:Cx} {G:Gl} {n:Nat} {A:Around} {names:Ns} {cenv:Env} {own:Own} {Hx:Hid} {D:Addr}
theorem kpE_at {h h':Heap} (k:Heap.ExtBut D h h') (l:Live h' D) (gi:cx.GI h→cx.GI h'):KpE cx cenv own D h h' :=
 ⟨fun a o z g=>k a o (fun q=>z (.inr (.inr q))) g,fun a _ ⟨o,g⟩=>by
  by_cases q:a=D
  ·exact q ▸ l
  ·exact ⟨o,k a o q g⟩,gi⟩
theorem noH {s:Shared} {ow:Nat→Hid} {a:Addr} (z:Hx a∨FrC cenv own a):HH Hx cenv own ow (fun _=>True) a:=z.imp id fun z=>z.imp id .inl
theorem emit_add {s:Shared} {ow:Nat→Hid} {ρ:PEnv} {P':Shared→Prop} {q':PV} {h₈ h₉:Heap} {t:Nat} (hD:Hx D) (nGD:¬ cx.GA D) (ncD:∀ n c,cenv.cells.lookup n=some c→c ≠ D) (no:∀ k a,¬ ow k a) (I:InS cx (n+60) A cenv names Hx own ow ρ s.heap) (e₈:Ext cx cx.T s.heap h₈) (k₉:Heap.ExtBut D h₈ h₉) (nc:NoCd h₈ D) (l₉:Live h₉ D) (r₉:AccR cx (fun a=>Hx a∨FrC cenv own a) h₉ D q')
  (h:∀ h' tk ow',(∀ k a,¬ ow' k a)→InS cx (n+60) A cenv names Hx own ow' ρ h'→KpE cx cenv own D s.heap h'→AccR cx (fun a=>Hx a∨FrC cenv own a) h' D q'→P' { s with heap:=h',toks:=tk }):P' { s with heap:=h₉,toks:=t }:=by
 have I₉:=(I.ext e₈).hidMoved (b:=D) hD nGD ncD k₉ nc l₉
 exact h h₉ t ow no I₉ (Kp.trans (.ofExt e₈ fun a t=>.inl t) (kpE_at k₉ l₉ fun _=>I₉.cn.gi)) r₉
theorem emit_list (S:SndN cx G n) {elt:Expr} {pe:PE} (ce:CE names elt pe) (hD:Hx D) (nGD:¬ cx.GA D) (ncD:∀ n c,cenv.cells.lookup n=some c→c ≠ D) :
  EmitOk cx n A (emL (sem G n) pe) (do let _ ← call (.builtin "list.append") [.ref D,← eval elt cenv]) cenv names own Hx D:=by
 intro s ow ρ ρ' q q' E' P' he no I r h
 refine ob_e he fun v hv k=>ob_e k fun l hl k=>?_
 obtain ⟨hll,k⟩:=og_i k
 obtain ⟨h1,h2⟩:=Prod.mk.inj k
 obtain rfl:=h1
 obtain rfl:=h2
 obtain rfl:=list_i hl
 obtain ⟨vs,lD,hr⟩:=r
 have TD:¬ cx.T D:=fun t=>nGD (cx.bGA _ (cx.tB _ t))
 refine wpAny_bind (S.ev ce I.ofAll hv fun vv h₈ t₈ e₈ r₈ _=>?_)
 have lD₈:IsLs h₈ D vs:=lD.map fun o g=>e₈.keep D o TD g
 have hr₈:RepAll cx h₈ (fun a=>Hx a∨FrC cenv own a) vs l:=hr.map fun a o z g=>⟨z,e₈.keep a o (fun t=>z (.inl (I.cn.tH a t))) g⟩
 refine wpAny_bind (append_ok (s:={ s with heap:=h₈,toks:=t₈ }) lD₈ (by rw [hr.length];exact lenOk_le hll) fun h₉ k₉ l₉=>wpAny_pure ?_)
 exact emit_add (s:=s) (q':=.list (l++[v])) hD nGD ncD no I e₈ k₉.extBut lD₈.noCd l₉.live ⟨vs++[vv],l₉,(hr₈.append (.cons (r₈.open' fun a z=>noH (s:=s) z) .nil)).map fun a o z g=>⟨z,k₉.extBut a o (fun w=>z (.inl (w ▸ hD))) g⟩⟩ h
theorem emit_dict (S0:SndN cx G n) {kx vx:Expr} {pk pv:PE} {pos:Pos} (ck:CE names kx pk) (cv:CE names vx pv) (hD:Hx D) (nGD:¬ cx.GA D) (ncD:∀ n c,cenv.cells.lookup n=some c→c ≠ D) :
  EmitOk cx n A (emD (sem G n) pk pv) (do
      let kv ← eval kx cenv
      let vv ← holding [kv] (eval vx cenv)
      standAt pos
      holding [kv,vv] (dictSet D kv vv)) cenv names own Hx D:=by
 intro s ow ρ ρ' q q' E' P' he no I r h
 refine ob_e he fun w hx k=>ob_e k fun x hw k=>ob_e k fun v hv k=>ob_e k fun d hd k=>?_
 obtain ⟨hll,k⟩:=og_i k
 obtain ⟨h1,h2⟩:=Prod.mk.inj k
 obtain rfl:=h1
 obtain rfl:=h2
 obtain rfl:=dict_i hd
 obtain ⟨kvs,lD,hk,hr⟩:=r
 obtain ⟨hkey,hsz⟩:=band hll
 have TD:¬ cx.T D:=fun t=>nGD (cx.bGA _ (cx.tB _ t))
 refine wpAny_bind (S0.ev ck I.ofAll hx fun kk h₇ t₇ e₇ r₇ _=>?_)
 obtain ⟨tk,rfl⟩:=r₇.toStr hw
 refine wpAny_bind (wpAny_holding (S0.ev (s:={ s with heap:=h₇,toks:=t₇ }) cv (I.ext e₇).ofAll hv fun vv h₈ t₈ e₈ r₈ _=>?_))
 have e68:=e₇.trans e₈
 have lD₈:h₈.DictOf (strKind cx.prog cx.w) D kvs:=lD.at fun o g=>e68.keep D o TD g
 have hr₈:RepAll cx h₈ (fun a=>Hx a∨FrC cenv own a) (kvs.map (·.2)) d.2:=hr.map fun a o z g=>⟨z,e68.keep a o (fun t=>z (.inl (I.cn.tH a t))) g⟩
 have hlk:kvs.length≤1000:=by
  rw [← List.length_map (f:=fun x:Str × Value=>x.1),hk,List.length_map]
  exact ble_true.mp hsz
 refine wpAny_bind (wpAny_standAt (wpAny_holding (wpAny_dictSet_pairs (knd:=strKind cx.prog cx.w) (k:=Mine.S x) (strKind_is _ _ _ _) lD₈ (fun h₉ l₉ k₉=>?_) (Nat.le_trans hlk (Nat.le_trans (by decide) sizeLine_big)))))
 rw [stored_fresh vv hk ((Bool.not_eq_true' _).mp hkey)] at l₉
 refine emit_add (s:=s) (q':=.dict (d.1++[x]) (d.2++[v])) hD nGD ncD no I e68 k₉.extBut (dict_at lD₈).2 (dict_at l₉).1 ⟨kvs++[(Mine.S x,vv)],l₉,by rw [List.map_append,List.map_append,hk];rfl,?_⟩ h
 rw [List.map_append]
 exact (hr₈.append (.cons (r₈.open' fun a z=>noH (s:=s) z) .nil)).map fun a o z g=>⟨z,k₉.extBut a o (fun w=>z (.inl (w ▸ hD))) g⟩
theorem emit_two (g:GOk cx G) (S:SndN cx G n) {elt iter2 t1 iter1 t2:Expr} {ifs:List Expr} {xs:List Nat} {si:Bool} {pe pi:PE} {scope:Scope} {pos:Pos} (ce:CE names elt pe) (ci:CI names iter2 pi) (tg:CTg names t2 xs si)
  (hD:Hx D) (nGD:¬ cx.GA D) (ncD:∀ n c,cenv.cells.lookup n=some c→c ≠ D) :
  EmitOk cx n A (em2 (sem G n) pe xs si pi) (do
    let x ← eval iter2 cenv
    standAt iter2.pos
    let x ← foldedSetIterable iter2 cenv x
    let _ ← runOwn (.compStart (.ListComp elt [⟨t1,iter1,ifs,0⟩,⟨t2,iter2,[],0⟩] scope pos) 1 (← holding [x] (pyIter x)) (.ref D) cenv) cenv) cenv names own Hx D:=by
 intro s ow ρ ρ' q q' E' P' he no I r h
 refine ob_e he fun qs hit hgo=>?_
 obtain ⟨qs,fl⟩:=qs
 have hi:=iter_ok g S (E:=E') (Q:=fun it s'=>wpAny (model cx.prog cx.w) A (runOwn (.compStart (.ListComp elt [⟨t1,iter1,ifs,0⟩,⟨t2,iter2,[],0⟩] scope pos) 1 it (.ref D) cenv) cenv) (fun _ s'=>P' s') E' s') ci I.ofAll hit fun it hb h₂ tk P St fp e₁ e₂ nl lv okI st0 hpl _=>?_
 ·refine wpAny_bind (wpAny_mono hi (fun x s₁ h₁=>wpAny_bind (wpAny_standAt ?_)) fun _ _ z=>z)
  rw [ci.fold cenv x]
  exact wpAny_bind (wpAny_pure (wpAny_bind (wpAny_holding (wpAny_mono h₁ (fun it s₂ h₂=>wpAny_bind (wpAny_mono h₂ (fun _ s₃ h₃=>wpAny_pure h₃) fun _ _ z=>z)) fun _ _ z=>z))))
 ·refine wpAny_runOwn ?_
  rw [Around.mark_none]
  have eT:=e₁.trans e₂
  have nls:¬ Live s.heap it:=fun z=>nl (e₁.live it z)
  have TD:¬ cx.T D:=fun t=>nGD (cx.bGA _ (cx.tB _ t))
  have r0:AccR cx (fun a=>add Hx it a∨FrC cenv own a) h₂ D q:=r.map (fun o gg=>eT.keep D o TD gg) fun a o z gg=>⟨fun w=>w.elim (fun w=>w.elim (fun w=>z (.inl w)) fun w=>nls (w ▸ ⟨o,gg⟩)) fun w=>z (.inr w),eT.keep a o (fun t=>z (.inl (I.cn.tH a t))) gg⟩
  have B:LpB cx cenv own Hx it D (fun a=>HH Hx cenv own ow (fun _=>True) a∨¬ Live hb a):=⟨fun a z=>z.elim (fun z=>z.elim (fun z=>.inl (.inl z)) fun z=>.inr (z ▸ nl)) fun z=>.inl (noH (s:=s) (.inr z)),fun z=>nls (I.cn.hid it z),hD,I.cn.bH,fun z=>nls (cx.ga_live _ _ I.cn.gi z),nGD,fun n c e z=>(I.outer n c e z).1⟩
  have loop:=loop_gen (s:={ s with heap:=h₂,toks:=tk }) (R:=fun r s'=>match r with | .ok _=>P' s' | .error x=>cameBackBy (model cx.prog cx.w) A cenv E' x s') S (e:=.ListComp elt [⟨t1,iter1,ifs,0⟩,⟨t2,iter2,[],0⟩] scope pos) (d:=1) (q0:=iter2.pos) (target:=t2) (ifs:=[]) (pifs:=[]) (EM:=do let _ ← call (.builtin "list.append") [.ref D,← eval elt cenv]) rfl rfl tg ⟨0,rfl⟩ okI B (emit_list S ce (.inl hD) nGD ncD) no ((I.ext e₁).extAdd e₂ nl lv)
   (fun a o z gg=>e₂.keep a o (fun t=>z (.inl (.inl (I.cn.tH a t)))) gg) st0 r0 hgo fun h' tk' ow' no' I' Kl r'=>?_
  ·exact comp_start (g:=⟨t2,iter2,[],0⟩) rfl rfl rfl loop (okI.walks.self 0 _ _ _ st0 loop)
  ·exact h h' tk' ow' no' I' ⟨fun a o z gg=>Kl.keep a o (fun w=>by
    rcases w with w|w|w|w
    ·exact z (.inl w)
    ·exact z (.inr (.inl w))
    ·exact z (.inr (.inr w))
    ·exact nls (w ▸ ⟨o,gg⟩)) (eT.keep a o (fun t=>z (.inl t)) gg),fun a _ l=>Kl.live a (fun w=>nls (w ▸ l)) (eT.live a l),fun gg=>Kl.gi (eT.gi gg)⟩ r'
end
noncomputable def lsO:Obj:={ cls:=.type "list",dict:=none,data:=.seq ([]:List Value).toArray }
noncomputable def dcO:Obj:={ cls:=.type "dict",dict:=none,data:=.dict #[] }
section
variable {cx:Cx} {G:Gl} {n:Nat} {A:Around} {ns:Ns}
theorem r0_list (H:Hid) (h:Heap):AccR cx H (h.push lsO) h.objs.size (.list []):=⟨[],⟨0,Heap.get?_push_size _ rfl⟩,.nil⟩
theorem cpT_list (S:SndN cx G n) {elt t it:Expr} {ifs:List Expr} {sc:Scope} {p:Pos} {pe:PE} (ce:CE sc.names elt pe) :
  CpT cx G n A (.ListComp elt [⟨t,it,ifs,0⟩] sc p) t it ifs [] sc (firstIterPos [⟨t,it,ifs,0⟩] p) it.pos (newList []) lsO (fun D cenv=>do let _ ← call (.builtin "list.append") [.ref D,← eval elt cenv]) (.el pe) :=
 ⟨rfl,rfl,fun _ _ _=>rfl,fun _=>rfl,fun _ _=>rfl,fun h=>wpAny_newObj_type h,r0_list,fun h1 h2 h3=>emit_list S ce h1 h2 h3⟩
theorem cpT_two (g:GOk cx G) (S:SndN cx G n) {elt t it t2 it2:Expr} {ifs:List Expr} {sc:Scope} {p:Pos} {pe pi:PE} {xs:List Nat} {si:Bool} (ce:CE sc.names elt pe) (ci:CI sc.names it2 pi) (tg:CTg sc.names t2 xs si) :
  CpT cx G n A (.ListComp elt [⟨t,it,ifs,0⟩,⟨t2,it2,[],0⟩] sc p) t it ifs [⟨t2,it2,[],0⟩] sc (firstIterPos [⟨t,it,ifs,0⟩,⟨t2,it2,[],0⟩] p) it.pos (newList []) lsO (fun D cenv=>do
    let x ← eval it2 cenv
    standAt it2.pos
    let x ← foldedSetIterable it2 cenv x
    let _ ← runOwn (.compStart (.ListComp elt [⟨t,it,ifs,0⟩,⟨t2,it2,[],0⟩] sc p) 1 (← holding [x] (pyIter x)) (.ref D) cenv) cenv) (.gen pe xs si pi) :=
 ⟨rfl,rfl,fun it' D cenv=>by
  unfold gTurn
  simp only [bind_assoc,pure_bind]
  rfl,fun _=>rfl,fun _ _=>rfl,fun h=>wpAny_newObj_type h,r0_list,fun h1 h2 h3=>emit_two g S ce ci tg h1 h2 h3⟩
theorem cpT_dict (S:SndN cx G n) {k v t it:Expr} {ifs:List Expr} {sc:Scope} {p:Pos} {pk pv:PE} (ck:CE sc.names k pk) (cv:CE sc.names v pv) :
  CpT cx G n A (.DictComp k v [⟨t,it,ifs,0⟩] sc p) t it ifs [] sc (firstIterPos [⟨t,it,ifs,0⟩] p) it.pos newDict dcO (fun D cenv=>do
      let kv ← eval k cenv
      let vv ← holding [kv] (eval v cenv)
      standAt { k.pos with endLine:=v.pos.endLine,endCol:=v.pos.endCol }
      holding [kv,vv] (dictSet D kv vv)) (.kv pk pv) :=
 ⟨rfl,rfl,fun _ _ _=>rfl,fun _=>rfl,fun _ _=>rfl,fun h=>wpAny_newObj_type h,fun H h=>⟨[],Heap.DictOf.new h,rfl,.nil⟩,fun h1 h2 h3=>emit_dict S ck cv h1 h2 h3⟩
theorem i_cp (g:GOk cx G) (S:SndN cx G n) {e:Expr} {pe:PE} {P:Prop} (hcp:cpB e=true) (hc:CE ns e pe)
  (K:∀ {target iter:Expr} {ifs:List Expr} {gs:List Comprehension} {scope:Scope} {pos q0:Pos} {newAcc:Sem Value} {o0:Obj} {EM:Addr→Env→Sem Unit} {pel pi:PE} {pifs:List PE} {xs:List Nat} {si:Bool} {caps:List Nat},CpT cx G n A e target iter ifs gs scope pos q0 newAcc o0 EM pel→CompOk ns scope caps→CTg scope.names target xs si→CI ns iter pi→CTs scope.names ifs pifs→pe=.comp pel xs si pi pifs caps→P):P:=by
 obtain ⟨m,hc⟩:=hc.step
 have go:∀ {g:Comprehension} {sc:Scope} {el:Option PE},trComp (tr m) ns g sc el=some pe→(∀ {caps:List Nat} {t:List Nat × Bool} {pi:PE} {pifs:List PE} {pel:PE},g.is_async=0→CompOk ns sc caps→CTg sc.names g.target t.1 t.2→CI ns g.iter pi→CTs sc.names g.ifs pifs→el=some pel→pe=.comp pel t.1 t.2 pi pifs caps→P)→P:=fun {g sc el} h K=>by
  obtain ⟨h1,h2⟩:=ogo_i h
  refine ob_e h2 fun caps h3 k=>ob_e k fun t h4 k=>ob_e k fun pi h5 k=>ob_e k fun pifs h6 k=>ob_e k fun pel h7 k=>?_
  exact K (of_decide_eq_true h1) (scopeT_i h3) (trTg_i h4) ⟨m,h5⟩ ⟨m,h6⟩ h7 (Option.some.inj k).symm
 induction e using Expr.casesOn with
 | ListComp elt gs sc p =>
  have hc:trLc (tr m) ns elt gs sc=some pe:=hc
  match gs,hc with
  | [⟨t1,it1,ifs1,as1⟩],hc =>
   refine go hc fun h0 h1 h2 h3 h4 h5 h6=>?_
   obtain rfl:as1=0:=h0
   refine ob_e h5 fun a ha k=>?_
   obtain rfl:=Option.some.inj k
   exact K (cpT_list S ⟨m,ha⟩) h1 h2 h3 h4 h6
  | [⟨t1,it1,ifs1,as1⟩,⟨t2,it2,ifs2,as2⟩],hc =>
   refine go hc fun h0 h1 h2 h3 h4 h5 h6=>?_
   obtain rfl:as1=0:=h0
   obtain ⟨h7,h8⟩:=ogo_i h5
   obtain ⟨h9,h10⟩:=band h7
   refine ob_e h8 fun t ht k=>ob_e k fun pi hpi k=>ob_e k fun a ha k=>?_
   obtain rfl:=Option.some.inj k
   obtain rfl:as2=0:=of_decide_eq_true h9
   obtain rfl:ifs2=[]:=List.isEmpty_iff.mp h10
   exact K (cpT_two g S ⟨m,ha⟩ ⟨m,hpi⟩ (trTg_i ht)) h1 h2 h3 h4 h6
 | DictComp k v gs sc p =>
  refine ob_e hc fun g1 hg hc=>?_
  obtain rfl:=l1_i hg
  obtain ⟨t1,it1,ifs1,as1⟩:=g1
  refine go hc fun h0 h1 h2 h3 h4 h5 h6=>?_
  obtain rfl:as1=0:=h0
  refine ob_e h5 fun a ha k=>ob_e k fun b hb k=>?_
  obtain rfl:=Option.some.inj k
  exact K (cpT_dict S ⟨m,ha⟩ ⟨m,hb⟩) h1 h2 h3 h4 h6
 | _=>exact (Bool.false_ne_true hcp).elim
end
end Mine
end
section
set_option maxRecDepth 100000
open PySem PySem.Calls PyProof.Rows PySem.W
set_option genSizeOf false
set_option genInjectivity false
namespace Mine
section
variable {cx:Cx} {G:Gl} {n:Nat}
theorem comp_x {r:Rc} {ρ:PEnv} {pel pi:PE} {pifs:List PE} {xs:List Nat} {si:Bool} {caps:List Nat} {v:PV} (he:evStep G r ρ (.comp pel xs si pi pifs caps)=some v):∃ ps fl ρe,iterV r ρ pi=some (ps,fl)∧gGo r xs si pifs (emE r pel) ps (PEnv.cap caps ρ) (acc0 pel)=some (ρe,v):=by
 refine ob_e he fun po hit k=>ob_e k fun o hgo k=>?_
 obtain rfl:=Option.some.inj k
 exact ⟨po.1,po.2,o.1,hit,hgo⟩
theorem comp_ok (g:GOk cx G) (S:SndN cx G n) {ns:Ns} {e:Expr} {pe:PE} {A:Around} {env:Env} {ρ:PEnv} {H:Hid} {s:Shared} {v:PV} {Q:Value→Shared→Prop} {E:Value→Shared→Prop}
  (hcp:cpB e=true) (hc:CE ns e pe) (I:InE cx (n+60) A env ns ρ H s) (he:evStep G (sem G n) ρ pe=some v) (h:RetF cx s H (freshE pe v) v Q):wpAny (model cx.prog cx.w) A (eval e env) Q E s:=by
 refine i_cp (A:=A) g S hcp hc fun T ok tg ci cifs rp=>?_
 obtain rfl:=rp
 obtain ⟨ps,fl,ρe,hit,hgo⟩:=comp_x he
 rw [T.ev]
 refine comp_core g S T ok tg ci cifs I hit hgo fun C D h₁ tk nlC nlD DC e₁ hns r=>?_
 obtain ⟨mm,hns⟩:=hns
 refine ⟨mm,hns,fun h' k'=>?_⟩
 exact RetF.plain (h.no rfl) (tk:=tk) (e₁.but I.cn.gi nlC k'.extBut (.ns hns)) ((r.map (fun o gg=>k'.extBut D o DC gg) fun a o q gg=>⟨q,k'.extBut a o (fun z=>q (.inr (.inl z))) gg⟩).done (fun q=>nlD (I.cn.hid _ q)) fun a q=>.inl q)
theorem asgC_zero:AsgC cx G 0:=fun _ _ _ _ _ he _=>nos he
theorem asgC_succ (g:GOk cx G) (S:SndN cx G n) (S1:SndN cx G (n+1)):AsgC cx G (n+1):=by
 intro ns x e pe occ q p A env Hx own ow ρ ρ' fl s Q E hcp ok tx hc I he h
 obtain ⟨b,hsw⟩:∃ b,swapsWith e (some (.Name x q)) p.line env=pure b:=by
  induction e using Expr.casesOn <;> first|exact (Bool.false_ne_true hcp).elim|exact ⟨_,rfl⟩
 refine x_assign (P:=fun ρ' fl=>PostS cx (n+1+60) A env ns Hx own ow ρ' s Q fl→_) he (fun v hv h=>?_) h
 induction b using Bool.casesOn with
 | false =>
  refine wpAny_Assign_Name (S1.ev hc (I.ofOcc occ) hv fun w h₁ t₁ e₁ r₁ f₁=>?_) hsw
  exact bind_ok I ok tx e₁ r₁ f₁ h
 | true =>
  refine i_cp (A:=A) g S hcp hc fun T okc tg ci cifs rp=>?_
  obtain rfl:=rp
  obtain ⟨ps,fl,ρe,hit,hgo⟩:=comp_x (G:=G) (r:=sem G n) hv
  rw [exec_Assign_Name_used _ _ _ _ hsw,T.use]
  refine wpAny_bind (wpAny_standAt (wpAny_bind ?_))
  have IE:InE cx (n+60) A env ns (PEnv.only occ ρ) (HH Hx env own ow (·∈occ)) s:=(I.ofOcc occ).le (Nat.add_le_add_right (Nat.le_succ n) 60)
  refine wpAny_bind (wpAny_mono (comp_core g S T okc tg ci cifs IE hit hgo (use:=some (assign (.Name x q) env)) (Q:=fun _ s'=>Q .next s') fun C D h₁ tk nlC nlD DC e₁ hns hr=>?_) (fun _ s' hq=>wpAny_pure (wpAny_pure hq)) fun _ _ e=>e)
  obtain ⟨mm,hns⟩:=hns
  have lC:Live h₁ C:=Ns_live hns
  have nGC:¬ cx.GA C:=fun z=>nlC (cx.ga_live _ _ I.cn.gi z)
  have nHC:¬ Hx C:=fun z=>nlC (I.cn.hid _ z)
  have outer:∀ n c,env.cells.lookup n=some c→¬ own c→Hx c:=fun n c e q=>(I.outer n c e q).1
  have J:=I.extAdd e₁ nlC lC
  have nHD:¬ HH (add Hx C) env own ow (·∈occ) D:=fun z=>by
   rcases z with (z|z)|z|z|⟨k,_,z⟩
   ·exact nlD (I.cn.hid _ z)
   ·exact DC z
   ·exact nlD (z ▸ I.frame_live.1)
   ·exact nlD (I.frame_live.2 _ z)
   ·exact nlD (I.owL _ _ z).1
  have r₁:Rep cx h₁ (HH (add Hx C) env own ow (·∈occ)) (.ref D) v:=hr.done nHD fun a z=>by
   rcases z with (z|z)|z|z|z
   ·exact .inl (.inl z)
   ·exact .inr (.inl z)
   ·exact .inl (.inr (.inl z))
   ·exact .inl (.inr (.inr (.inl z)))
   ·exact .inl (.inr (.inr (.inr z)))
  obtain ⟨ow',J',r',sub'⟩:=J.frz r₁
  show wpAny _ _ (assign (.Name x q) env (.ref D)) _ _ _
  refine wpAny_assign_Name (store_name (s:={ s with heap:=h₁,toks:=tk }) J' tx fun b h' tk' hb k hn hc' hv'' ho=>?_)
  have J'':=J'.bind ok hb k hn hc' hv'' ho (r'.open' (HA_mono cut_le))
  have eW:=(J'.turned hb k (bound_live hb hn hc')).1
  have Cb:C ≠ b:=fun z=>by
   rcases hb with hb|hb
   ·exact J'.fH.1 (.inr (z.trans hb).symm)
   ·exact J'.fH.2 b hb (.inr z.symm)
  obtain ⟨oo,es,ep,go,rr⟩:=hns
  refine ⟨mm,⟨oo,es,ep,k C oo Cb go,rr⟩,fun h'' k''=>?_⟩
  have ncC:NoCd h' C:=.ns (m:=mm) ⟨oo,es,ep,k C oo Cb go,rr⟩
  have I'':=J''.moved k''.extBut ncC nGC I.cn.bH nHC outer
  have EW:Ext cx (WW cx env own ow) s.heap h':=WW_trans (WW_of_ext e₁) (fun j a z=>.inl ⟨j,sub' j a z⟩) eW
  exact h h'' tk' _ (Ext.butW EW nGC nlC k''.extBut ncC) (fun j a z=>.inl ⟨j,sub' j a z.1⟩) I''
end
end Mine
end
section
set_option maxRecDepth 100000
open PySem PySem.Calls PyProof.Rows PySem.W
set_option genSizeOf false
set_option genInjectivity false
namespace Mine
structure FunAt (cx:Cx) (a:Addr) (o:Obj) (fd:FuncData) (body:List Stmt) (names:List Str) (fp:FnP):Prop where
 obj:∀ h,cx.GI h→h.get? a=some o
 data:o.data=.func fd
 code:∀ h,cx.GI h→h.CodeRec fd.code fd.qualname
 bodyE:fd.body=.stmts body
 clo:fd.closure=[]
 glob:fd.globals=mainGlobals
 blt:fd.builtins=builtinsNs
 par:fp.params=names.map enc
 nodup:names.Nodup
 nms:∀ x∈names,okN x=true∧isTgt fd.scope.names x
 bind:∀ vals:List Value,vals.length=names.length→bindArgs fd ⟨vals,[]⟩=pure (names.zip vals)
 css:CSs fd.scope.names body fp.body
 kind:fd.scope.kind=.function
 co:fd.scope.isCoroutine=false
 gen:fd.scope.isGenerator=false
 free:∀ y,fd.scope.names.lookup y ≠ some .free
theorem bindL_miss {K:Str→Option NameKind} {x:Str}:∀ {names:List Str} {vs:List Value} {m:Str→Option Value},x ∉ names→bindL K (names.zip vs) m x=m x
 | [],vs,m,_=>rfl
 | n :: names,[],m,_=>rfl
 | n :: names,v :: vs,m,h=>by
  rw [List.zip_cons_cons,bindL,bindL_miss (fun q=>h (.tail _ q))]
  split
  ·exact if_neg (fun q=>h (by rw [q];exact .head _))
  ·rfl
theorem bindC_miss {K:Str→Option NameKind} {x:Str}:∀ {names:List Str} {vs:List Value} {m:Str→Option Value},x ∉ names→bindC K (names.zip vs) m x=m x
 | [],vs,m,_=>rfl
 | n :: names,[],m,_=>rfl
 | n :: names,v :: vs,m,h=>by
  rw [List.zip_cons_cons,bindC,bindC_miss (fun q=>h (.tail _ q))]
  split
  ·rfl
  ·exact if_neg (fun q=>h (by rw [q];exact .head _))
theorem bindL_get {K:Str→Option NameKind} {x:Str} {v:Value} (hk:K x=some .local):∀ {names:List Str} {vs:List Value} {m:Str→Option Value},names.Nodup→(x,v)∈names.zip vs→bindL K (names.zip vs) m x=some v
 | [],vs,m,_,h=>by simp at h
 | n :: names,[],m,_,h=>by simp at h
 | n :: names,w :: vs,m,nd,h=>by
  obtain ⟨nd1,nd2⟩:=List.nodup_cons.mp nd
  rw [List.zip_cons_cons] at h ⊢
  rw [bindL]
  rcases List.mem_cons.mp h with e|h
  ·injection e with e1 e2
   subst e1 e2
   rw [bindL_miss nd1,if_pos hk]
   simp
  ·exact bindL_get hk nd2 h
theorem bindC_get {K:Str→Option NameKind} {x:Str} {v:Value} (hk:K x ≠ some .local):∀ {names:List Str} {vs:List Value} {m:Str→Option Value},names.Nodup→(x,v)∈names.zip vs→bindC K (names.zip vs) m x=some v
 | [],vs,m,_,h=>by simp at h
 | n :: names,[],m,_,h=>by simp at h
 | n :: names,w :: vs,m,nd,h=>by
  obtain ⟨nd1,nd2⟩:=List.nodup_cons.mp nd
  rw [List.zip_cons_cons] at h ⊢
  rw [bindC]
  rcases List.mem_cons.mp h with e|h
  ·injection e with e1 e2
   subst e1 e2
   rw [bindC_miss nd1,if_neg hk]
   simp
  ·exact bindC_get hk nd2 h
theorem zipE_get {cx:Cx} {h:Heap} {H:Hid}:∀ {names:List Str} {vs:List Value} {ps:List PV} {ρ:PEnv},(∀ x∈names,okN x=true)→RepAll cx h H vs ps→zipE (names.map enc) ps=some ρ→vs.length=names.length ∧
  ∀ x b p,okN x=true→PEnv.get ρ (enc x)=some (b,p)→b=false∧∃ v,(x,v)∈names.zip vs∧Rep cx h H v p
 | [],vs,[],ρ,_,r,e=>by
  obtain rfl:=r.nil'
  obtain rfl:=Option.some.inj e
  exact ⟨rfl,fun x b p _ g=>(Option.some_ne_none _ g.symm).elim⟩
 | [],_,_ :: _,_,_,_,e=>(Option.some_ne_none _ e.symm).elim
 | _ :: _,_,[],_,_,_,e=>(Option.some_ne_none _ e.symm).elim
 | n :: names,vs,p :: ps,ρ,hok,r,e=>by
  obtain ⟨v,ws,rfl,a,r'⟩:=r.cons'
  obtain ⟨ρ',hz,k1⟩:=ob_i e
  obtain rfl:=Option.some.inj k1
  obtain ⟨h1,h2⟩:=zipE_get (fun x hx=>hok x (.tail _ hx)) r' hz
  refine ⟨congrArg Nat.succ h1,fun x b q okx g=>?_⟩
  unfold PEnv.get at g
  cases hq:Nat.beq (enc x) (enc n) with
  | true =>
   rw [hq] at g
   obtain ⟨g1,g2⟩:=Prod.mk.inj (Option.some.inj g)
   obtain rfl:=enc_inj okx (hok n (.head _)) (Nat.eq_of_beq_eq_true hq)
   exact ⟨g1.symm,v,.head _,g2 ▸ a⟩
  | false =>
   rw [hq] at g
   obtain ⟨hb,w,hw,hr⟩:=h2 x b q okx g
   exact ⟨hb,w,.tail _ hw,hr⟩
theorem Ext.into {cx:Cx} {W:Hid} {h₀ h h':Heap} (e:Ext cx cx.T h₀ h) (e':Ext cx W h h') (hW:∀ a,W a→cx.T a∨¬ Live h₀ a):Ext cx cx.T h₀ h' :=
 ⟨fun a o t g=>e'.keep a o (fun w=>(hW a w).elim t fun q=>q ⟨o,g⟩) (e.keep a o t g),fun a c l=>by
  by_cases t:cx.T a
  ·exact e'.alive a (.inr t) (e.live a l)
  ·exact e'.alive a (.inl fun w=>(hW a w).elim t fun q=>q l) (e.live a l),fun g=>e'.gi (e.gi g)⟩
section
variable {cx:Cx} {G:Gl} {n:Nat}
theorem Room.lt {A:Around} {n:Nat} (x:Room A n):A.depth<recursionLimit:=Nat.lt_of_le_of_lt (Nat.le_add_right _ _) x.2.1
theorem Room.deeper {A:Around} {env:Env} {n:Nat} (x:Room A (n+1)):Room (A.deeper env) n :=
 ⟨x.1,Nat.lt_of_le_of_lt (show A.depth+1+2*n≤A.depth+(2*n+2) from (Nat.add_assoc A.depth 1 (2*n)).symm ▸ Nat.add_le_add_left (Nat.add_comm (2*n) 1 ▸ Nat.le_succ (2*n+1)) _) x.2.1,
  Nat.lt_of_le_of_lt (show A.units+3+16*n≤A.units+(16*n+16) from (Nat.add_assoc A.units 3 (16*n)).symm ▸ Nat.add_le_add_left (Nat.add_comm (16*n) 3 ▸ Nat.add_le_add_left (show 3≤16 by decide) (16*n)) _) x.2.2⟩
theorem call_frame {A:Around} {a:Addr} {o:Obj} {fd:FuncData} {body:List Stmt} {names:List Str} {fp:FnP} (F:FunAt cx a o fd body names fp) {s s₁:Shared} {H:Hid} {vs:List Value} {ps:List PV} {ρ:PEnv} (room:A.handled=none∧A.depth+1+2*(n+60)<recursionLimit∧A.units+3+16*(n+60)<cLine) (cn:Cn cx s.heap H) (x:RepAll cx s.heap H vs ps) (hz:zipE fp.params ps=some ρ)
  (X:InCallC s (callEnvC fd s.heap.objs.size a).locals (bindL (callEnvC fd s.heap.objs.size a).kindOf (names.zip vs) fun _=>none) (callEnvC fd s.heap.objs.size a).cells (bindC (callEnvC fd s.heap.objs.size a).kindOf (names.zip vs) fun _=>none) s₁) :
  Ext cx cx.T s.heap s₁.heap∧(∀ b,WW cx (callEnvC fd s.heap.objs.size a) ⟨fun c=>∃ n,(callEnvC fd s.heap.objs.size a).cells.lookup n=some c,0⟩ (fun _ _=>False) b→cx.T b∨¬ Live s.heap b) ∧
  InS cx (n+60) (A.deeper (callEnvC fd s.heap.objs.size a)) (callEnvC fd s.heap.objs.size a) fd.scope.names H ⟨fun c=>∃ n,(callEnvC fd s.heap.objs.size a).cells.lookup n=some c,0⟩ (fun _ _=>False) ρ s₁.heap:=by
 generalize hE:callEnvC fd s.heap.objs.size a=env at X ⊢
 have kindE:∀ y,env.kindOf y=fd.scope.names.lookup y:=fun y=>by rw [← hE];rfl
 have cellE:env.cells=cellsFrom (s.heap.objs.size+1) fd.scope.names []:=by rw [← hE];rfl
 have es:Ext cx cx.T s.heap s₁.heap:=.of_keep X.toInCall.keep
 have nlL:¬ Live s.heap env.locals:=fun l=>Nat.lt_irrefl _ (Nat.lt_of_lt_of_le l.lt X.toInCall.fresh)
 have nlc:∀ m c,env.cells.lookup m=some c→¬ Live s.heap c:=fun m c hc l=>Nat.lt_irrefl _ (Nat.lt_trans (Nat.lt_of_lt_of_le l.lt X.toInCall.fresh) (X.above m c (mem_of_lookup hc)))
 have nG:∀ b,¬ Live s.heap b→¬ cx.GA b:=fun b q g=>q (cx.ga_live _ b cn.gi g)
 rw [F.par] at hz
 obtain ⟨hlen,hget⟩:=zipE_get (fun x hx=>(F.nms x hx).1) x hz
 have up:∀ b,HA H env ⟨fun c=>∃ n,env.cells.lookup n=some c,0⟩ (fun _ _=>False) b→Live s.heap b→H b:=fun b q l=>by
  rcases q with q|q|⟨m,q⟩|⟨_,_,q⟩
  ·exact q
  ·exact (nlL (q ▸ l)).elim
  ·exact (nlc m b q l).elim
  ·exact q.elim
 refine ⟨es,fun b w=>?_,⟨⟨room.1,?_,?_⟩,?_,fun f hf=>(kindE f).trans hf,fun y hy=>(kindE y).trans hy,fun y hy=>⟨(kindE y).trans hy,?_⟩,fun y hy=>(F.free y hy).elim,?_,?_,cn.ext es,⟨_,X.toInCall.ns⟩,fun c ⟨m,hc⟩=>⟨_,X.cell m c hc⟩,fun m m' c h1 _ h2=>name_of_addr X.apart (mem_of_lookup h1) (mem_of_lookup h2),
  ⟨fun q=>nlL (cn.hid _ q),fun c ⟨m,hc⟩ q=>nlc m c hc (cn.hid _ q)⟩,⟨nG _ nlL,fun c ⟨m,hc⟩=>nG _ (nlc m c hc)⟩,fun ⟨m,hc⟩=>Nat.lt_irrefl _ (X.above m _ (mem_of_lookup hc)),fun m c hc q=>(q ⟨m,hc⟩).elim,fun k b q=>q.elim,fun k b q=>q.elim,fun j k b q=>q.elim,fun y b p oky g=>?_⟩⟩
 ·rcases w with w|w|⟨m,w⟩|⟨_,w⟩
  ·exact .inl w
  ·exact .inr (w ▸ nlL)
  ·exact .inr (nlc m b w)
  ·exact w.elim
 ·exact room.2.1
 ·exact room.2.2
 ·rw [← hE];exact F.kind
 ·have:(env.cells.lookup y).isSome=true:=by rw [cellE];exact cellsFrom_some _ _ _ (.inl hy)
  obtain ⟨c,hc⟩:=Option.isSome_iff_exists.mp this
  exact ⟨c,hc,y,hc⟩
 ·rw [← hE];exact F.glob
 ·rw [← hE];exact F.blt
 ·obtain ⟨rfl,v,hv,hr⟩:=hget y b p oky g
  have hmem:y∈names:=(List.of_mem_zip hv).1
  refine ⟨v,?_,fun _=>(hr.hide (H':=HA H env ⟨fun c=>∃ n,env.cells.lookup n=some c,0⟩ fun _ _=>False) fun b l q=>up b q l).map fun b o q gg=>⟨q,es.keep b o (fun t=>q (.inl (cn.tH b t))) gg⟩,fun z=>by cases z⟩
  rcases (F.nms y hmem).2 with hk|hk
  ·have hk':env.kindOf y=some .local:=(kindE y).trans hk
   exact .inl ⟨hk',_,X.toInCall.ns,bindL_get hk' F.nodup hv⟩
  ·have hk':env.kindOf y=some .cell:=(kindE y).trans hk
   have:(env.cells.lookup y).isSome=true:=by rw [cellE];exact cellsFrom_some _ _ _ (.inl hk)
   obtain ⟨c,hc⟩:=Option.isSome_iff_exists.mp this
   have hcell:=X.cell y c hc
   rw [bindC_get (by rw [hk'];decide) F.nodup hv] at hcell
   exact .inr ⟨.inl hk',c,hc,hcell⟩
theorem bind_kinds {a:Addr} {o:Obj} {fd:FuncData} {body:List Stmt} {names:List Str} {fp:FnP} (F:FunAt cx a o fd body names fp) {vs:List Value} {k:Nat}:∀ x∈names.zip vs,fd.scope.names.lookup x.1=some .local∨(fd.scope.names.lookup x.1=some .cell∧((cellsFrom k fd.scope.names []).lookup x.1).isSome=true):=fun x hx=>by
 have hm:x.1∈names:=(List.of_mem_zip (show (x.1,x.2)∈names.zip vs from hx)).1
 rcases (F.nms _ hm).2 with h|h
 ·exact .inl h
 ·exact .inr ⟨h,cellsFrom_some _ _ _ (.inl h)⟩
noncomputable abbrev ownC (env:Env):Own:=⟨fun c=>∃ n,env.cells.lookup n=some c,0⟩
noncomputable abbrev noW:Nat→Hid:=fun _ _=>False
theorem fun_enter {a:Addr} {o:Obj} {fd:FuncData} {body:List Stmt} {names:List Str} {fp:FnP} (F:FunAt cx a o fd body names fp) {A:Around} {E:Value→Shared→Prop} {Q:Value→Shared→Prop} {s:Shared} {H:Hid} {vs:List Value} {ps:List PV} {ρ:PEnv} (room:Room A (n+1+60)) (cn:Cn cx s.heap H) (x:RepAll cx s.heap H vs ps) (hz:zipE fp.params ps=some ρ)
  (h:∀ h₁ t₁ {E'},Ext cx cx.T s.heap h₁→(∀ b,WW cx (callEnvC fd s.heap.objs.size a) (ownC (callEnvC fd s.heap.objs.size a)) noW b→cx.T b∨¬ Live s.heap b)→InS cx (n+60) (A.deeper (callEnvC fd s.heap.objs.size a)) (callEnvC fd s.heap.objs.size a) fd.scope.names H (ownC (callEnvC fd s.heap.objs.size a)) noW ρ h₁ →
   wpAny (model cx.prog cx.w) (A.deeper (callEnvC fd s.heap.objs.size a)) (execs body (callEnvC fd s.heap.objs.size a)) (fun fl s'=>Q (match fl with | .ret v=>v|_=>.none) s') E' { s with heap:=h₁,toks:=t₁ }):wpAny (model cx.prog cx.w) A (call (.ref a) vs) Q E s:=by
 have hlen:vs.length=names.length:=(zipE_get (fun x hx=>(F.nms x hx).1) x (F.par ▸ hz)).1
 refine wpAny_call (codeAny_call_cells (binds:=names.zip vs) room.lt (F.obj _ cn.gi) F.data (cx.lim _ cn.gi) (F.code _ cn.gi) F.bodyE (F.bind vs hlen) F.clo (bind_kinds F) (fun s₁ X=>?_) F.co F.gen F.kind)
 obtain ⟨es,hW,I⟩:=call_frame (n:=n) (A:=A) F (Room.deeper (env:=callEnvC fd s.heap.objs.size a) room) cn x hz X
 obtain ⟨h₁,t₁,rfl⟩:=X.toInCall.same
 exact h h₁ t₁ es hW I
theorem fun_ok (S:SndX cx G n) {a:Addr} {o:Obj} {fd:FuncData} {body:List Stmt} {names:List Str} {fp:FnP} (F:FunAt cx a o fd body names fp) {ps:List PV} {r:PV} (hr:runF (sem G n) fp ps=some r):CallOk cx (n+1+60) (.ref a) ps r:=by
 intro A E s H Q vs room cn x h
 obtain ⟨ρ,hz,k1⟩:=ob_i hr
 obtain ⟨⟨ρ',fo⟩,hex,k2⟩:=ob_i k1
 refine fun_enter F room cn x hz fun h₁ t₁ _ es hW I=>?_
 cases fo with
 | ret v =>
  obtain rfl:=Option.some.inj k2
  exact S.ex F.css I hex fun h' tk w e c rr=>h.plain (es.into e hW) rr
 | next =>
  obtain rfl:=Option.some.inj k2
  exact S.ex F.css I hex fun h' tk ow' e sub I'=>h.plain (tk:=tk) (es.into e hW) .none
 | brk=>exact (Option.some_ne_none _ k2.symm).elim
end
end Mine
end
section
set_option maxRecDepth 100000
open PySem PySem.Calls PyProof.Rows PySem.W
set_option genSizeOf false
set_option genInjectivity false
namespace Mine
theorem AttrsAre.put {cx:Cx} {h:Heap} {H:Hid} {x:Str} (ok:okN x=true) {v:Value} {p:PV} (r:Rep cx h H v p):∀ {ks:List Nat} {ps:List PV} {m:Str→Option Value} {vs:List Value},AttrsAre m ks vs→RepAll cx h H vs ps →
  ∃ vs2,AttrsAre (fun y=>if y=x then some v else m y) (putAttr (enc x) p ks ps).1 vs2∧RepAll cx h H vs2 (putAttr (enc x) p ks ps).2
 | [],_,m,_,hat,a=>⟨[v],.cons (m':=fun _=>none) ok (.nil fun _=>rfl) (fun y=>by rw [hat.2 y]),.cons r .nil⟩
 | _ :: _,[],m,_,hat,a=>by
  obtain ⟨_,_,_,_,_,h1,_⟩:=hat
  exact (List.cons_ne_nil _ _ (h1.symm.trans a)).elim
 | _ :: ks,q :: ps,m,_,hat,a=>by
  obtain ⟨y,w,ws,m',rfl,rfl,ok',at',hm⟩:=hat
  obtain ⟨_,_,h1,a,l⟩:=a
  obtain ⟨rfl,rfl⟩:=List.cons.inj h1
  show ∃ vs2,AttrsAre _ (match Nat.beq (enc x) (enc y) with|true=>(enc y :: ks,p :: ps)|false=>(enc y :: (putAttr (enc x) p ks ps).1,q :: (putAttr (enc x) p ks ps).2)).1 vs2∧RepAll cx h H vs2 (match Nat.beq (enc x) (enc y) with|true=>(enc y :: ks,p :: ps)|false=>(enc y :: (putAttr (enc x) p ks ps).1,q :: (putAttr (enc x) p ks ps).2)).2
  cases e:Nat.beq (enc x) (enc y) with
  | true =>
   obtain rfl:=enc_inj ok ok' (Nat.eq_of_beq_eq_true e)
   refine ⟨v :: ws,.cons ok' at' (fun z=>?_),.cons r l⟩
   rw [hm z]
   by_cases q:z=x
   ·rw [if_pos q,if_pos q]
   ·rw [if_neg q,if_neg q,if_neg q]
  | false =>
   have ne:y ≠ x:=fun q=>Nat.ne_of_beq_eq_false e (by rw [q])
   obtain ⟨vs2,h1,h2⟩:=AttrsAre.put ok r at' l
   refine ⟨w :: vs2,.cons ok' h1 (fun z=>?_),.cons a h2⟩
   rw [hm z]
   by_cases q:z=y
   ·rw [if_neg (q ▸ ne),if_pos q,if_pos q]
   ·rw [if_neg q,if_neg q]
theorem AttrsAre.within:∀ {ks:List Nat} {m:Str→Option Value} {vs:List Value},AttrsAre m ks vs→∃ nsl:List Str,Within m nsl∧nsl.length=ks.length
 | [],_,_,hat=>⟨[],fun y hy=>(hy (hat.2 y)).elim,rfl⟩
 | _ :: ks,_,_,hat=>by
  obtain ⟨x,w,ws,m',rfl,rfl,_,at',hm⟩:=hat
  obtain ⟨l,h1,h2⟩:=at'.within
  refine ⟨x :: l,fun y hy=>?_,congrArg Nat.succ h2⟩
  rw [hm y] at hy
  by_cases q:y=x
  ·exact q ▸ .head _
  ·rw [if_neg q] at hy
   exact .tail _ (h1 y hy)
theorem ownI_i {ρ:PEnv} {x:Nat} {i:List Nat × List PV} (h:ownI ρ x=some i):PEnv.get ρ x=some (true,.inst i.1 i.2):=by
 refine ob_e h fun bv h1 k1=>ob_e k1 fun w h2 k2=>?_
 obtain ⟨b,v⟩:=bv
 obtain ⟨h3,h4⟩:=og_i h2
 have h3:b=true:=h3
 have h4:v=w:=h4
 rw [h1,h3,h4]
 induction w using PV.casesOn with
 | inst ks ps=>exact Option.some.inj k2 ▸ rfl
 | _=>exact nos k2
theorem x_setattr {r:Rc} {ρ ρ':PEnv} {fl:Fl} {P:PEnv→Fl→Prop} {k a:Nat} {pe:PE} {oc:List Nat} (he:exS r ρ (.setattr k a pe oc)=some (ρ',fl)) (K:∀ v ks ps,r.ev (PEnv.only oc ρ) pe=some v→PEnv.get (frz v oc ρ) k=some (true,.inst ks ps)→ks.length≤1000→P (PEnv.set (frz v oc ρ) k true (.inst (putAttr a v ks ps).1 (putAttr a v ks ps).2)) .next):P ρ' fl:=by
 refine ob_e he fun v hv k1=>ob_e k1 fun i hi k2=>?_
 obtain ⟨h1,h2⟩:=og_i k2
 exact pn_e (congrArg some h2) (K v i.1 i.2 hv (ownI_i hi) (ble_true.mp h1))
noncomputable def starE:Expr→Bool
 | .Starred ..=>true
 | _=>false
theorem swap_ok {ns:Ns} {x y:Str × Pos} {u v:Expr} {j j':Nat} {q q':Pos} (h:swapB x y u v=true) (hu:∃ a,CE ns u a) (hv:∃ a,CE ns v a):∀ env:Env,env.scope.kind=.function→env.kindOf x.1=some .local→env.kindOf y.1=some .local →
  swappedStores [.Tuple [.Name x.1 x.2,.Name y.1 y.2] j q] (.Tuple [u,v] j' q') env=pure (some [x.1,y.1]):=by
 intro env hk hx hy
 have hb:env.blockKind=.function:=by
  unfold Env.blockKind
  rw [hk]
  rfl
 unfold swapB at h
 obtain ⟨h1,h⟩:=band h
 obtain ⟨h2,h⟩:=band h
 obtain ⟨h3,h4⟩:=band h
 have ns:∀ {e:Expr},(∃ a,CE ns e a)→starE e=false:=fun {e} he=>by
  obtain ⟨a,hc⟩:=he
  obtain ⟨m,hc⟩:=hc.step
  induction e using Expr.casesOn <;> first|rfl|exact nos hc
 have e1:(if (env.kindOf x.1 == some .local && x.2.line == x.2.line)=true then some x.1 else none)=some x.1:=if_pos (by rw [hx,beq_self_eq_true,beq_self_eq_true];rfl)
 have e2:(if (env.kindOf y.1 == some .local && y.2.line == x.2.line)=true then some y.1 else none)=some y.1:=if_pos (by rw [hy,h2];rfl)
 refine (if_neg ?_).trans ((if_neg ?_).trans ?_)
 ·rw [hb];exact Bool.false_ne_true
 ·show ¬ (starE u || (starE v || false))=true
  rw [ns hu,ns hv];decide
 ·dsimp only
  generalize hN:List.filterMap _ [Expr.Name x.1 x.2,Expr.Name y.1 y.2]=N
  obtain rfl:N=[x.1,y.1]:=hN.symm.trans ((List.filterMap_cons_some (by exact e1)).trans (congrArg _ ((List.filterMap_cons_some (by exact e2)).trans (congrArg _ List.filterMap_nil))))
  refine (if_neg ?_).trans ((if_neg ?_).trans ((if_neg ?_).trans rfl))
  ·have hd:[x.1,y.1].eraseDups=[x.1,y.1]:=by
    rw [List.eraseDups_cons,List.filter_cons_of_pos (by rw [Bool.not_eq_true'] at h1 ⊢;rw [Bool.eq_false_iff] at h1 ⊢;exact fun z=>h1 (beq_iff_eq.mpr (beq_iff_eq.mp z).symm))]
    rfl
   show ¬ ((2 != 2) || ([x.1,y.1].eraseDups.length != 2))=true
   rw [hd];exact Bool.false_ne_true
  ·exact fun z=>Bool.false_ne_true (((Bool.not_eq_true' _).mp h3).symm.trans z)
  ·exact fun z=>Bool.false_ne_true (((Bool.not_eq_true' _).mp h4).symm.trans z)
section
variable {cx:Cx} {G:Gl} {n:Nat} {A:Around} {env:Env} {ns:Ns} {Hx:Hid} {own:Own} {ow:Nat→Hid} {ρ ρ':PEnv} {s:Shared} {Q:Flow→Shared→Prop} {E:Value→Shared→Prop} {fl:Fl}
theorem InS.mutI {m:Nat} {h h':Heap} (I:InS cx m A env ns Hx own ow ρ h) {x:Str} {d:Addr} {mm:Str→Option Value} {ks:List Nat} {vs:List Value} {ps:List PV} (okx:okN x=true) (hD:∀ z,ow (enc x) z↔z=own.inst∨z=d) (hv:VarAt h env x (.ref own.inst))
  (k:∀ b o,b ≠ own.inst→b ≠ d→h.get? b=some o→h'.get? b=some o) (nc1:NoCd h own.inst) (nc2:NoCd h d) (hi:IsIn h' own.inst cx.C d) (ne:d ≠ own.inst) (hn:h'.Ns1 d mm) (ha:AttrsAre mm ks vs) (hr:RepAll cx h (HA Hx env own ow) vs ps) :
  InS cx m A env ns Hx own ow (PEnv.set ρ (enc x) true (.inst ks ps)) h'∧Ext cx (WW cx env own ow) h h':=by
 have oa:ow (enc x) own.inst:=(hD _).mpr (.inl rfl)
 have od:ow (enc x) d:=(hD _).mpr (.inr rfl)
 have kw:∀ b o,¬ ow (enc x) b→h.get? b=some o→h'.get? b=some o:=fun b o q=>k b o (fun z=>q (z ▸ oa)) (fun z=>q (z ▸ od))
 have lv:∀ b,ow (enc x) b→Live h' b:=fun b q=>((hD b).mp q).elim (fun z=>z ▸ hi.live) fun z=>z ▸ Ns1_live hn
 have gi:cx.GI h':=cx.mono h h' I.cn.gi fun b o ga g=>kw b o (fun q=>ga.elim (fun ga=>(I.owL _ b q).2.2.2.2 ga) (((hD b).mp q).elim (fun z=>nc1 o (z ▸ g)) fun z=>nc2 o (z ▸ g))) g
 have e:Ext cx (WW cx env own ow) h h':=⟨fun b o n g=>kw b o (fun q=>n (.inr (.inr (.inr ⟨_,q⟩)))) g,fun b c ⟨o,g⟩=>by
  by_cases q:ow (enc x) b
  ·exact lv b q
  ·exact ⟨o,kw b o q g⟩,fun _=>gi⟩
 have HAo:∀ b,ow (enc x) b→HA Hx env own ow b:=fun b q=>.inr (.inr (.inr ⟨enc x,fun z=>z,q⟩))
 have kr:∀ b o,¬ HA Hx env own ow b→h.get? b=some o→¬ HA Hx env own ow b∧h'.get? b=some o:=fun b o nb g=>⟨nb,kw b o (fun q=>nb (HAo b q)) g⟩
 have hvar:∀ y w,VarAt h env y w→VarAt h' env y w:=fun y w hy=>hy.keep fun b o hb g=>kw b o (fun q=>by
  have oc:=I.owCell q
  rcases hb with rfl|⟨n,c,hc,rfl⟩
  ·exact oc.1 rfl
  ·exact oc.2 n _ hc rfl) g
 refine ⟨{ I with cn:=⟨gi,fun b q=>?_,I.cn.bH,I.cn.hg⟩,nsl:=?_,cells:=fun c oc=>?_,owL:=fun j b ob=>?_,owP:=fun j b ob=>?_,vars:=?_ },e⟩
 ·obtain ⟨o,ho⟩:=I.cn.hid b q
  exact ⟨o,kw b o (fun z=>(I.owL _ b z).2.1 q) ho⟩
 ·obtain ⟨mm,o,es,ep,g,r⟩:=I.nsl
  exact ⟨mm,o,es,ep,kw _ o (fun z=>(I.owL _ _ z).2.2.1 rfl) g,r⟩
 ·obtain ⟨v,o,g,r⟩:=I.cells c oc
  exact ⟨v,o,kw _ o (fun z=>(I.owL _ _ z).2.2.2.1 oc) g,r⟩
 ·obtain ⟨⟨o,h1⟩,h2⟩:=I.owL j b ob
  by_cases q:ow (enc x) b
  ·exact ⟨lv b q,h2⟩
  ·exact ⟨⟨o,kw b o q h1⟩,h2⟩
 ·by_cases q:j=enc x
  ·exact ⟨_,by rw [get_set,if_pos q]⟩
  ·obtain ⟨p,hp⟩:=I.owP j b ob
   exact ⟨p,by rw [get_set,if_neg q];exact hp⟩
 ·intro y b' p' ok g
  rw [get_set] at g
  by_cases q:enc y=enc x
  ·rw [if_pos q] at g
   have:y=x:=enc_inj ok okx q
   subst this
   cases g
   exact ⟨_,hvar _ _ hv,fun z=>(by cases z),fun _=>⟨d,mm,vs,rfl,hD,hi,ne,hn,ha,hr.map kr⟩⟩
  ·rw [if_neg q] at g
   obtain ⟨w,hw,h1,h2⟩:=I.vars y b' p' ok g
   exact ⟨w,hvar _ _ hw,fun z=>(h1 z).map kr,fun z=>(h2 z).map (fun b o ob=>kw b o fun z=>q (I.owA _ _ b ob z)) (fun _=>Iff.rfl) kr⟩
theorem setattr_step (g:GOk cx G) (S:SndX cx G n) {x a:Str} {e:Expr} {b:PE} {occ:List Nat} {np q p:Pos} (ok:okN x=true) (oka:okN a=true) (hat:a∈atNames) (hd:(x == ("__debug__":Str))=false) (hs:swapsWith e (some (.Attribute (.Name x np) a q)) p.line env=pure false) (hc:CE ns e b)
  (I:InS cx (n+60) A env ns Hx own ow ρ s.heap) (he:exS (sem G n) ρ (.setattr (enc x) (enc a) b occ)=some (ρ',fl)) (h:PostS cx (n+60) A env ns Hx own ow ρ' s Q fl):wpAny (model cx.prog cx.w) A (exec (.Assign [.Attribute (.Name x np) a q] e p) env) Q E s:=by
 ···refine x_setattr (P:=fun ρ' fl=>PostS cx (n+60) A env ns Hx own ow ρ' s Q fl→_) he (fun v ks us hv hg hks h=>?_) h
    refine plainObj_wpAny_Assign_Attribute (S.ev hc (I.ofOcc occ) hv fun w h₁ t₁ e₁ r₁ _=>?_) hs
    obtain ⟨ow',I',r',sub'⟩:=(I.ext e₁).frz r₁
    obtain ⟨u,hw,_,h2⟩:=I'.vars x _ _ ok hg
    obtain ⟨d,mm,vs,rfl,hD,hi,ne,hn,hat',rr⟩:=h2 rfl
    refine ld_own (s:={ s with heap:=h₁,toks:=t₁ }) I' hd hw ?_
    obtain ⟨N,mN,hcls,k1,k2,k3,k4⟩:=g.cls
    have X:=hcls _ I'.cn.gi
    obtain ⟨nm,qn,bs,sn,sub,col,dd,c0,c1,c2,c3,c5,hC⟩:=X.obj
    have hxC:own.inst ≠ cx.C:=fun z=>(I'.owL _ _ ((hD own.inst).mpr (.inl rfl))).2.2.2.2 (z ▸ k4 _ I'.cn.gi)
    obtain ⟨nsl,hwi,hlen⟩:=hat'.within
    obtain ⟨vs2,ha2,hr2⟩:=hat'.put oka r' rr
    have big:=sizeLine_big
    refine store_attr (h:=h₁) (g:=s.gens) (d:=s.drawn) (t:=t₁) (os:=s.os) PySem.F.store_object hC X.ns k2 (k3 a hat).1 (k3 a hat).2 hxC (hi.inst ne hn) (fun h₃ t₃ I₃ kk same=>?_) hwi (by omega)
    obtain ⟨oi,hoi,hci,hdi,hdict⟩:=hi
    obtain ⟨o1,ho1,hc1,hd1,_,hdict1⟩:=same oi hoi
    have hi3:IsIn h₃ own.inst cx.C d:=⟨o1,ho1,hc1.trans hci,fun c=>by rw [hd1];exact hdi c,hdict1 d hdict⟩
    have hn3:h₃.Ns1 d (fun y=>if y=a then some w else mm y):=by
     obtain ⟨o2,ho2,_,_,hd2⟩:=I₃
     rw [ho1] at ho2
     cases ho2
     rcases hd2 with ⟨hz,_⟩|⟨d2,hz,_,hns⟩
     ·rw [hdict1 d hdict] at hz;cases hz
     ·rw [hdict1 d hdict] at hz
      cases hz
      exact hns
    have keep:∀ b o,b ≠ own.inst→b ≠ d→h₁.get? b=some o→h₃.get? b=some o:=fun b o n1 n2 gg=>kk b o n1 (fun o₀ dx g0 gd=>by
     rw [hoi] at g0
     cases g0
     rw [hdict] at gd
     cases gd
     exact n2) gg
    obtain ⟨I4,E4⟩:=I'.mutI ok hD hw keep (.of_cls hoi (by rw [hci];intro z;cases z)) (.ns hn.ns) hi3 ne hn3 ha2 hr2
    exact h h₃ t₃ ow' (WW_trans (WW_of_ext e₁) (fun j z q=>.inl ⟨j,sub' j z q⟩) E4) (fun j z q=>.inl ⟨j,sub' j z q⟩) I4
theorem PostS.room {m m':Nat} (h:PostS cx m A env ns Hx own ow ρ' s Q fl) (r:Room A m):PostS cx m' A env ns Hx own ow ρ' s Q fl:=by
 cases fl with
 | next=>exact fun h' tk ow' e' sub' I'=>h h' tk ow' e' sub' (I'.up r)
 | brk=>exact fun h' tk ow' e' sub' I'=>h h' tk ow' e' sub' (I'.up r)
 | ret p=>exact h
theorem st_step (g:GOk cx G) (S:SndX cx G n) (AC:AsgC cx G n) {st:Stmt} {ps:PS} (hc:CS ns st ps) (I:InS cx (n+60) A env ns Hx own ow ρ s.heap) (he:exS (sem G n) ρ ps=some (ρ',fl)) (h:PostS cx (n+60) A env ns Hx own ow ρ' s Q fl) :
  wpAny (model cx.prog cx.w) A (exec st env) Q E s:=by
 refine hc.step (fun z=>nos (z ▸ he)) fun m hc=>?_
 induction st using Stmt.casesOn with
 | Assign ts e p =>
  refine s_asg hc (fun x pe ht ok tx ce rp=>?_) (fun l j q xs pe ht tg hT hl ce rp=>?_) (fun x y u v j q j' q' pe ht h0 lx ly sw hu hv ce rp=>?_) (fun x j q k b ht hd hl ci ce rp=>?_) (fun x k q b ht hd oka hat hl ce rp=>?_) fun xs pe ht hx h2 ce rp=>?_
  ·obtain rfl:=rp
   rw [ht]
   cases hl:cpB e with
   | false=>exact assign_step S ok tx (ce.facts.swap hl _ _ env) ce I he h
   | true=>exact AC hl ok tx ce I he h
  ·obtain rfl:=rp
   rw [ht]
   exact unpack_step S tg ((show swapsWithSole [_] _ _ env=swapsWith _ (some _) _ env from rfl).trans (ce.facts.swap hl _ _ env)) (ce.facts.tup hT _ _ _ env) ce I he h
  ·obtain rfl:=rp
   obtain ⟨okx,hlx⟩:=locB_i lx
   obtain ⟨oky,hly⟩:=locB_i ly
   rw [ht,h0]
   rw [h0] at ce
   exact unpackR_step (xs:=[x,y]) S (fun z hz=>by
    rcases List.mem_cons.mp hz with rfl|hz
    ·exact ⟨okx,hlx⟩
    ·obtain rfl:=List.mem_singleton.mp hz
     exact ⟨oky,hly⟩) rfl (swap_ok sw hu hv env I.kind (I.loc _ hlx) (I.loc _ hly)) ce I he h
  ·obtain rfl:=rp
   rw [ht]
   exact setidx_step S (okD_i hd).1 (okD_i hd).2 (ce.facts.swap hl _ _ env) ci ce I he h
  ·obtain rfl:=rp
   rw [ht]
   exact setattr_step g S (okD_i hd).1 oka hat (okD_i hd).2 (ce.facts.swap hl _ _ env) ce I he h
  ·obtain rfl:=rp
   rw [ht]
   exact chain_step S (fun x hxx=>tgtB_i (hx x hxx)) h2 ce I he h
 | Expr e p =>
  refine s_ex hc (fun x ap q y b h0 hd hl ce rp=>?_) (fun x ap q y b h0 hd hl ce rp=>?_) fun x ap q h0 hd hl rp=>?_
  ·obtain rfl:=rp
   rw [h0]
   exact append_step S (okD_i hd).1 (okD_i hd).2 hl ce I he h
  ·obtain rfl:=rp
   rw [h0]
   exact extend_step S (okD_i hd).1 (okD_i hd).2 hl ce I he h
  ·obtain rfl:=rp
   rw [h0]
   exact reverse_step (okD_i hd).1 (okD_i hd).2 hl I he h
 | AugAssign t o e p =>
  refine s_aug hc fun x k a h0 tx ho ce rp=>?_
  obtain rfl:=rp
  rw [h0,← ho]
  exact aug_step S (tgtB_i tx).1 (tgtB_i tx).2 ce I he h
 | If c a b p =>
  refine ob_e hc fun pc h1 k=>?_
  obtain rfl:=Option.some.inj k
  exact if_step S ⟨m,h1⟩ ⟨m,rfl⟩ ⟨m,rfl⟩ I he h
 | For t it a b p =>
  refine ob_e hc fun x h1 k=>ob_e k fun pi h2 k=>?_
  obtain rfl:=Option.some.inj k
  have ci:CI ns it pi:=⟨m,h2⟩
  exact for_step g S (fun x=>ci.fold _ _) (trTg_i h1) ci ⟨m,rfl⟩ ⟨m,rfl⟩ I he h
 | While c a b p =>
  obtain ⟨h0,k⟩:=ogo_i hc
  refine ob_e k fun pc h1 k=>?_
  obtain rfl:=Option.some.inj k
  obtain rfl:=List.isEmpty_iff.mp h0
  exact while_step S ⟨m,h1⟩ ⟨m,rfl⟩ I he h
 | Return o p =>
  refine ob_e hc fun e h1 k=>ob_e k fun pe h2 k=>?_
  obtain rfl:=Option.some.inj k
  rw [h1]
  exact ret_step S ⟨m,h2⟩ I he h
 | Break p =>
  obtain rfl:=Option.some.inj hc
  exact pn_e (P:=fun ρ' fl=>PostS cx (n+60) A env ns Hx own ow ρ' s Q fl→_) he (fun h=>wpAny_Break (h s.heap s.toks ow .refl (fun k a q=>.inl ⟨k,q⟩) I)) h
 | Pass p =>
  obtain rfl:=Option.some.inj hc
  exact pn_e (P:=fun ρ' fl=>PostS cx (n+60) A env ns Hx own ow ρ' s Q fl→_) he (fun h=>wpAny_Pass (h s.heap s.toks ow .refl (fun k a q=>.inl ⟨k,q⟩) I)) h
 | _=>exact nos hc
theorem CSs.nil' {l:List PS} (h:CSs ns [] l):l=[]:=by
 obtain ⟨n,h⟩:=h
 exact h.symm
theorem CSs.cons' {e:Stmt} {es:List Stmt} {l:List PS} (h:CSs ns (e :: es) l):∃ a m,l=a :: m∧CS ns e a∧CSs ns es m:=by
 obtain ⟨n,h⟩:=h
 exact ⟨_,_,h.symm,⟨n,rfl⟩,n,rfl⟩
theorem exl_i {r:Rc} {a:PS} {l:List PS} (he:exL r (a :: l) ρ=some (ρ',fl)):∃ ρ₁ fo,exS r ρ a=some (ρ₁,fo)∧((fo=.next∧exL r l ρ₁=some (ρ',fl))∨(ρ'=ρ₁∧((fo=.brk∧fl=.brk)∨∃ v,fo=.ret v∧fl=.ret v))):=by
 refine ob_e he fun o hex g2=>?_
 obtain ⟨ρ₁,fo⟩:=o
 refine ⟨ρ₁,fo,hex,?_⟩
 induction fo using Fl.casesOn with
 | next=>exact .inl ⟨rfl,g2⟩
 | brk =>
  obtain ⟨h1,h2⟩:=Prod.mk.inj (Option.some.inj g2)
  exact .inr ⟨h1.symm,.inl ⟨rfl,h2.symm⟩⟩
 | ret v =>
  obtain ⟨h1,h2⟩:=Prod.mk.inj (Option.some.inj g2)
  exact .inr ⟨h1.symm,.inr ⟨v,rfl,h2.symm⟩⟩
theorem exs_ok (g:GOk cx G) (S:SndX cx G n) (AC:AsgC cx G n):∀ {ss:List Stmt} {l:List PS} {ow:Nat→Hid} {ρ ρ':PEnv} {s:Shared} {fl:Fl} {Q:Flow→Shared→Prop},CSs ns ss l→InS cx (n+60) A env ns Hx own ow ρ s.heap→exL (sem G n) l ρ=some (ρ',fl)→PostS cx (n+60) A env ns Hx own ow ρ' s Q fl →
  wpAny (model cx.prog cx.w) A (execs ss env) Q E s
 | [],_,ow,ρ,ρ',s,fl,Q,hc,I,he,h=>by
  obtain rfl:=hc.nil'
  obtain ⟨k4,k5⟩:=Prod.mk.inj (Option.some.inj he)
  obtain rfl:=k4
  obtain rfl:=k5
  exact wpAny_execs_nil (h s.heap s.toks ow .refl (fun k a q=>.inl ⟨k,q⟩) I)
 | st :: ss,_,ow,ρ,ρ',s,fl,Q,hc,I,he,h=>by
  obtain ⟨a,m,rfl,h1,hr⟩:=hc.cons'
  obtain ⟨ρ₁,fo,hs,⟨rfl,k1⟩|⟨rfl,⟨rfl,rfl⟩|⟨v,rfl,rfl⟩⟩⟩:=exl_i he
  ·exact wpAny_execs_cons (st_step g S AC h1 I hs fun h₁ t₁ ow₁ e₁ sub₁ I₁=>exs_ok g S AC hr I₁ k1 (h.after e₁ I₁ sub₁))
  ·exact wpAny_execs_cons (st_step g S AC h1 I hs fun h₁ t₁ ow₁ e₁ sub₁ I₁=>h h₁ t₁ ow₁ e₁ sub₁ I₁)
  ·exact wpAny_execs_cons (st_step g S AC h1 I hs fun h₁ t₁ w e₁ c₁ r₁=>h h₁ t₁ w e₁ c₁ r₁)
end
end Mine
end
section
set_option maxRecDepth 100000
open PySem PySem.Calls PyProof.Rows PySem.W
set_option genSizeOf false
set_option genInjectivity false
namespace Mine
section
variable {cx:Cx} {G:Gl} {n:Nat}
theorem init_frame {A:Around} {a:Addr} {o:Obj} {fd:FuncData} {body:List Stmt} {me:Str} {names:List Str} {fp:FnP} (F:FunAt cx a o fd body (me :: names) fp) {h₀:Heap} {s s₁:Shared} {H:Hid} {x dx:Addr} {vs:List Value} {ps:List PV} {ρ:PEnv}
  (room:A.handled=none∧A.depth+1+2*(n+60)<recursionLimit∧A.units+3+16*(n+60)<cLine) (cn:Cn cx h₀ H) (e₀:Ext cx cx.T h₀ s.heap) (nx:¬ Live h₀ x) (nd:¬ Live h₀ dx) (hi:IsIn s.heap x cx.C dx) (ne:dx ≠ x) (hns:s.heap.Ns1 dx fun _=>none)
  (xr:RepAll cx h₀ H vs ps) (hz:zipE (names.map enc) ps=some ρ)
  (X:InCallC s (callEnvC fd s.heap.objs.size a).locals (bindL (callEnvC fd s.heap.objs.size a).kindOf ((me :: names).zip (.ref x :: vs)) fun _=>none) (callEnvC fd s.heap.objs.size a).cells (bindC (callEnvC fd s.heap.objs.size a).kindOf ((me :: names).zip (.ref x :: vs)) fun _=>none) s₁) :
  (∀ b,WW cx (callEnvC fd s.heap.objs.size a) ⟨fun c=>∃ n,(callEnvC fd s.heap.objs.size a).cells.lookup n=some c,x⟩ (fun k b=>k=enc me∧(b=x∨b=dx)) b→cx.T b∨¬ Live h₀ b) ∧
  InS cx (n+60) (A.deeper (callEnvC fd s.heap.objs.size a)) (callEnvC fd s.heap.objs.size a) fd.scope.names H ⟨fun c=>∃ n,(callEnvC fd s.heap.objs.size a).cells.lookup n=some c,x⟩ (fun k b=>k=enc me∧(b=x∨b=dx)) ((enc me,true,.inst [] []) :: ρ) s₁.heap:=by
 generalize hE:callEnvC fd s.heap.objs.size a=env at X ⊢
 have kindE:∀ y,env.kindOf y=fd.scope.names.lookup y:=fun y=>by rw [← hE];rfl
 have cellE:env.cells=cellsFrom (s.heap.objs.size+1) fd.scope.names []:=by rw [← hE];rfl
 have es:Ext cx cx.T s.heap s₁.heap:=.of_keep X.toInCall.keep
 have e01:Ext cx cx.T h₀ s₁.heap:=e₀.trans es
 have nlLs:¬ Live s.heap env.locals:=fun l=>Nat.lt_irrefl _ (Nat.lt_of_lt_of_le l.lt X.toInCall.fresh)
 have nlcs:∀ m c,env.cells.lookup m=some c→¬ Live s.heap c:=fun m c hc l=>Nat.lt_irrefl _ (Nat.lt_trans (Nat.lt_of_lt_of_le l.lt X.toInCall.fresh) (X.above m c (mem_of_lookup hc)))
 have nlL:¬ Live h₀ env.locals:=fun l=>nlLs (e₀.live _ l)
 have nlc:∀ m c,env.cells.lookup m=some c→¬ Live h₀ c:=fun m c hc l=>nlcs m c hc (e₀.live _ l)
 have nG:∀ b,¬ Live h₀ b→¬ cx.GA b:=fun b q g=>q (cx.ga_live _ b cn.gi g)
 have lx:Live s.heap x:=hi.live
 have ld:Live s.heap dx:=Ns1_live hns
 obtain ⟨hlen,hget⟩:=zipE_get (fun x hx=>(F.nms x (.tail _ hx)).1) xr hz
 have okme:=(F.nms me (.head _)).1
 have upH:∀ b,HA H env ⟨fun c=>∃ n,env.cells.lookup n=some c,x⟩ (fun k b=>k=enc me∧(b=x∨b=dx)) b→Live h₀ b→H b:=fun b q l=>by
  rcases q with q|q|⟨m,q⟩|⟨_,_,_,q|q⟩
  ·exact q
  ·exact (nlL (q ▸ l)).elim
  ·exact (nlc m b q l).elim
  ·exact (nx (q ▸ l)).elim
  ·exact (nd (q ▸ l)).elim
 refine ⟨fun b w=>?_,⟨⟨room.1,room.2.1,room.2.2⟩,?_,fun f hf=>(kindE f).trans hf,fun y hy=>(kindE y).trans hy,fun y hy=>⟨(kindE y).trans hy,?_⟩,fun y hy=>(F.free y hy).elim,?_,?_,cn.ext e01,⟨_,X.toInCall.ns⟩,fun c ⟨m,hc⟩=>⟨_,X.cell m c hc⟩,fun m m' c h1 _ h2=>name_of_addr X.apart (mem_of_lookup h1) (mem_of_lookup h2),
  ⟨fun q=>nlL (cn.hid _ q),fun c ⟨m,hc⟩ q=>nlc m c hc (cn.hid _ q)⟩,⟨nG _ nlL,fun c ⟨m,hc⟩=>nG _ (nlc m c hc)⟩,fun ⟨m,hc⟩=>Nat.lt_irrefl _ (X.above m _ (mem_of_lookup hc)),fun m c hc q=>(q ⟨m,hc⟩).elim,fun k b q=>?_,fun k b q=>⟨.inst [] [],?_⟩,fun j k b q1 q2=>q1.1.trans q2.1.symm,fun y b p oky g=>?_⟩⟩
 ·rcases w with w|w|⟨m,w⟩|⟨_,_,w|w⟩
  ·exact .inl w
  ·exact .inr (w ▸ nlL)
  ·exact .inr (nlc m b w)
  ·exact .inr (w ▸ nx)
  ·exact .inr (w ▸ nd)
 ·rw [← hE];exact F.kind
 ·have:(env.cells.lookup y).isSome=true:=by rw [cellE];exact cellsFrom_some _ _ _ (.inl hy)
  obtain ⟨c,hc⟩:=Option.isSome_iff_exists.mp this
  exact ⟨c,hc,y,hc⟩
 ·rw [← hE];exact F.glob
 ·rw [← hE];exact F.blt
 ·obtain ⟨_,q⟩:=q
  have lb:Live s.heap b:=q.elim (fun z=>z ▸ lx) fun z=>z ▸ ld
  have nb:¬ Live h₀ b:=q.elim (fun z=>z ▸ nx) fun z=>z ▸ nd
  exact ⟨es.live b lb,fun z=>nb (cn.hid _ z),fun z=>nlLs (z ▸ lb),fun ⟨m,hc⟩=>nlcs m b hc lb,nG b nb⟩
 ·obtain ⟨rfl,_⟩:=q
  simp only [PEnv.get,Nat.beq_refl]
 ·simp only [PEnv.get] at g
  have varAt:∀ {y:Str} {v:Value},(y,v)∈(me :: names).zip (.ref x :: vs)→VarAt s₁.heap env y v:=fun {y v} hv=>by
   have hmem:y∈me :: names:=(List.of_mem_zip hv).1
   rcases (F.nms y hmem).2 with hk|hk
   ·have hk':env.kindOf y=some .local:=(kindE y).trans hk
    exact .inl ⟨hk',_,X.toInCall.ns,bindL_get hk' F.nodup hv⟩
   ·have hk':env.kindOf y=some .cell:=(kindE y).trans hk
    have:(env.cells.lookup y).isSome=true:=by rw [cellE];exact cellsFrom_some _ _ _ (.inl hk)
    obtain ⟨c,hc⟩:=Option.isSome_iff_exists.mp this
    have hcell:=X.cell y c hc
    rw [bindC_get (by rw [hk'];decide) F.nodup hv] at hcell
    exact .inr ⟨.inl hk',c,hc,hcell⟩
  split at g
  ·rename_i hq
   cases g
   have:=enc_inj oky okme (Nat.eq_of_beq_eq_true hq)
   subst this
   refine ⟨.ref x,varAt (.head _),fun z=>(by cases z),fun _=>⟨dx,fun _=>none,[],rfl,fun z=>⟨fun q=>q.2,fun q=>⟨rfl,q⟩⟩,hi.map fun o=>X.toInCall.keep _ o,ne,hns.at fun o=>X.toInCall.keep _ o,.nil fun _=>rfl,.nil⟩⟩
  ·obtain ⟨rfl,v,hv,hr⟩:=hget y b p oky g
   refine ⟨v,varAt (.tail _ hv),fun _=>(hr.hide (H':=HA H env ⟨fun c=>∃ n,env.cells.lookup n=some c,x⟩ fun k b=>k=enc me∧(b=x∨b=dx)) fun b l q=>upH b q l).map fun b o q gg=>⟨q,e01.keep b o (fun t=>q (.inl (cn.tH b t))) gg⟩,fun z=>by cases z⟩
structure ClassOk (cx:Cx) (N:Addr) (mN:Str→Option Value) (a:Addr) (o:Obj) (fd:FuncData) (body:List Stmt) (me:Str) (names:List Str) (fp:FnP):Prop where
 cls:∀ h,cx.GI h→ClsAt h cx.C N mN
 ini:mN "__init__"=some (.ref a)
 fcls:o.cls=.type "function"
 fn:FunAt cx a o fd body (me :: names) fp
theorem class_ok (S:SndX cx G n) {N:Addr} {mN:Str→Option Value} {a:Addr} {o:Obj} {fd:FuncData} {body:List Stmt} {me:Str} {names:List Str} {fp:FnP} (K:ClassOk cx N mN a o fd body me names fp) {ps:List PV} {r:PV} (hr:runC (sem G n) fp ps=some r):CallOk cx (n+1+60) (.ref cx.C) ps r:=by
 intro A E s H Q vs room cn x h
 have F:=K.fn
 have X:=K.cls _ cn.gi
 obtain ⟨nm,qn,bs,sn,sub,col,dd,c0,c1,c2,c3,c5,hC⟩:=X.obj
 obtain ⟨hh,gg,dr,tk,os⟩:=s
 unfold runC at hr
 rw [F.par,List.map_cons] at hr
 obtain ⟨ρ,hz,k1⟩:=ob_i hr
 obtain ⟨⟨ρ',fo⟩,hex,k2⟩:=ob_i k1
 ·clear k1 hr
  refine wpAny_call_obj_init PySem.F.objNew hC X.ns K.ini (F.obj _ cn.gi) K.fcls fun h' x' dx Mk=>?_
  have e₀:Ext cx cx.T hh h':=.of_keep Mk.keeps
  have nx:¬ Live hh x':=fun ⟨oo,g⟩=>by rw [Mk.newX] at g;cases g
  have nd:¬ Live hh dx:=fun ⟨oo,g⟩=>by rw [Mk.newD] at g;cases g
  obtain ⟨ox,hx,hcx,hncx,hdx⟩:=Mk.inst
  have hdd:=Mk.dict ox hx
  have hi:IsIn h' x' cx.C dx:=⟨ox,hx,hcx,hncx,hdd⟩
  have hnsd:h'.Ns1 dx fun _=>none:=by
   rcases hdx with ⟨hn0,_⟩|⟨d',hd',_,hns'⟩
   ·rw [hn0] at hdd;cases hdd
   ·obtain rfl:=Option.some.inj (hd'.symm.trans hdd);exact hns'
  have hne:dx ≠ x':=by
   rcases hdx with ⟨hn0,_⟩|⟨d',hd',hne',_⟩
   ·rw [hn0] at hdd;cases hdd
   ·obtain rfl:=Option.some.inj (hd'.symm.trans hdd);exact hne'
  have hlen:vs.length=names.length:=(zipE_get (fun x hx=>(F.nms x (.tail _ hx)).1) x hz).1
  have room':(A.under (.builtin "type.__call__" ⟨.ref cx.C :: vs,[]⟩)).handled=none∧(A.under (.builtin "type.__call__" ⟨.ref cx.C :: vs,[]⟩)).depth+1+2*(n+60)<recursionLimit∧(A.under (.builtin "type.__call__" ⟨.ref cx.C :: vs,[]⟩)).units+3+16*(n+60)<cLine:=by
   refine ⟨room.1,?_,?_⟩
   ·show A.depth+1+1+2*(n+60)<recursionLimit
    have:=room.2.1;omega
   ·have hu:(A.under (.builtin "type.__call__" ⟨.ref cx.C :: vs,[]⟩)).units≤A.units+4:=by
     show A.units+_≤_
     exact Nat.add_le_add_left (Nat.le_of_ble_eq_true rfl) _
    have:=room.2.2;omega
  refine wpAny_call (codeAny_call_cells (binds:=(me :: names).zip (.ref x' :: vs)) (by have:=room'.2.1;omega) (F.obj _ (e₀.gi cn.gi)) F.data (cx.lim _ (e₀.gi cn.gi)) (F.code _ (e₀.gi cn.gi)) F.bodyE (F.bind (.ref x' :: vs) (by rw [List.length_cons,List.length_cons,hlen])) F.clo (bind_kinds F) (fun s₁ X1=>?_) F.co F.gen F.kind)
  obtain ⟨hW,I⟩:=init_frame (n:=n) F (s:=⟨h',gg,dr,tk,os⟩) room' cn e₀ nx nd hi hne hnsd x hz X1
  have es:Ext cx cx.T hh s₁.heap:=e₀.trans (.of_keep X1.toInCall.keep)
  obtain ⟨h₁,t₁,rfl⟩:=X1.toInCall.same
  cases fo with
  | next =>
   obtain ⟨i,hoi,k3⟩:=ob_i k2
   obtain rfl:=Option.some.inj k3
   refine S.ex F.css I hex fun h₂ t₂ ow' e sub I'=>⟨rfl,?_⟩
   obtain ⟨u,hu,_,h2⟩:=I'.vars me _ _ (F.nms me (.head _)).1 (ownI_i hoi)
   obtain ⟨d,mm,ws,rfl,hD,hi2,ne2,hn2,ha2,hr2⟩:=h2 rfl
   have nH:∀ z,ow' (enc me) z→¬ H z:=fun z q=>(I'.owL _ z q).2.1
   exact h.plain (tk:=t₂) (es.into e hW) (.inst (nH _ ((hD _).mpr (.inl rfl))) (nH _ ((hD _).mpr (.inr rfl))) hi2 ne2 hn2 ha2 (hr2.open' fun a q=>.inl q))
  | brk=>exact (Option.some_ne_none _ k2.symm).elim
  | ret _=>exact (Option.some_ne_none _ k2.symm).elim
structure TopOk (cx:Cx) (G:Gl):Prop extends GOk cx G where
 fns:∀ f fp,okN f=true→G.ft (enc f)=some fp→∃ a o fd body names,cx.mg f=some (.ref a)∧FunAt cx a o fd body names fp
 sps:∀ f v ps r,okN f=true→G.sp (enc f) ps=some r→cx.mg f=some v→CallOk cx 200 v ps r
 cts:∀ f fp,okN f=true→G.ct (enc f)=some fp→cx.mg f=some (.ref cx.C)∧∃ N mN a o fd body me names,ClassOk cx N mN a o fd body me names fp
 mts:∀ m fp,okN m=true→G.mt (enc m)=some fp→∃ a o fd body names,FunAt cx a o fd body names fp∧∀ {A:Around} {E:Value→Shared→Prop} {s:Shared} {H:Hid} {Q:Value × List Value→Shared→Prop} {v:Value} {ks:List Nat} {qs:List PV} {pl:Sem Bool},
  cx.GI s.heap→Rep cx s.heap H v (.inst ks qs)→PEnv.has ks (enc m)=false→Q (.ref a,[v]) s→wpAny (model cx.prog cx.w) A (getMethod v m pl) Q E s
 rest:∀ n,SndN cx G n→Rest cx G n
theorem fn_e {n f:Nat} {ps:List PV} {r:PV} {P:Prop} (he:(sem G (n+1)).fn f ps=some r) (a:140≤n→G.sp f ps=some r→P) (b:∀ fp,G.ft f=some fp→runF (sem G n) fp ps=some r→P) (c:∀ fp,G.ct f=some fp→runC (sem G n) fp ps=some r→P):P:=by
 rcases om_i he with ⟨u,h1,h2⟩|h1
 ·obtain rfl:=Option.some.inj h2
  obtain ⟨h3,h4⟩:=ogo_i h1
  exact a (Nat.le_of_ble_eq_true h3) h4
 ·rcases om_i h1 with ⟨fp,h2,h3⟩|h2
  ·exact b fp h2 h3
  ·exact ob_e h2 fun fp h3 h4=>c fp h3 h4
theorem all_ok (T:TopOk cx G):∀ n,SndX cx G n∧AsgC cx G n
 | 0=>⟨⟨⟨fun _ _ e=>nos e,fun _ _ e=>nos e,fun f v ps r _ _ e=>nos e,fun m ps r _ e=>nos e⟩,fun _ _ e=>nos e⟩,asgC_zero⟩
 | n+1=>by
  obtain ⟨S,AC⟩:=all_ok T n
  have g:=T.toGOk
  have S1:SndN cx G (n+1):=by
   refine ⟨fun hc I he h=>ev_step g S.toSndN (T.rest n S.toSndN) hc I.down he h,fun hc I he h=>ts_step S.toSndN hc I.down he h,fun f v ps r ok hv he=>?_,fun m ps r ok he=>?_⟩
   ·refine fn_e he (fun hb hu=>fun room=>T.sps f v ps _ ok hu hv (room.le (Nat.add_le_add_right (Nat.le_succ_of_le hb) 60))) (fun fp hfp he=>?_) fun fp hfp he=>?_
    ·obtain ⟨a,o,fd,body,names,hmg,F⟩:=T.fns f fp ok hfp
     obtain rfl:=Option.some.inj (hv.symm.trans hmg)
     exact fun room=>fun cn x h=>fun_ok S F he room cn x h
    ·obtain ⟨hmg,N,mN,a,o,fd,body,me,names,K⟩:=T.cts f fp ok hfp
     obtain rfl:=Option.some.inj (hv.symm.trans hmg)
     exact fun room=>fun cn x h=>class_ok S K he room cn x h
   ·refine ob_e he fun fp hfp he=>?_
    obtain ⟨a,o,fd,body,names,F,hm⟩:=T.mts m fp ok hfp
    exact ⟨a,o,fd,F.obj,F.data,fun room=>fun cn x h=>fun_ok S F he room cn x h,fun gi x hh hq=>hm gi x hh hq⟩
  exact ⟨⟨S1,fun hc I he h=>exs_ok g S AC hc (I.le (Nat.add_le_add_right (Nat.le_succ n) 60)) he (h.room I.room)⟩,asgC_succ g S.toSndN S1⟩
end
end Mine
end
section
set_option maxRecDepth 100000
open PySem PySem.Calls PyProof.Rows PySem.W
set_option genSizeOf false
set_option genInjectivity false
namespace Mine
section
variable {cx:Cx} {A:Around} {E:Value→Shared→Prop} {s:Shared} {H:Hid} {Q:Value→Shared→Prop}
theorem ints_rep {h:Heap} {a:Int}:∀ {n:Nat} {vs:List Value},vs.length=n→(∀ (i:Nat) (v:Value),vs[i]?=some v→∃ t,v=.int (a+i*1) t)→RepAll cx h H vs (rangeUp a n)
 | 0,[],_,_=>.nil
 | n+1,v :: vs,hl,hv=>by
  obtain ⟨t,rfl⟩:=hv 0 v rfl
  have e:a+((0:Nat):Int)*1=a:=by simp
  rw [e]
  refine .cons (.int a t) (ints_rep (a:=a+1) (by simpa using hl) fun i w hw=>?_)
  obtain ⟨t',rfl⟩:=hv (i+1) w (by simpa using hw)
  exact ⟨t',congrArg (Value.int · t') (by rw [Int.natCast_add,Int.mul_one,Int.mul_one,Int.add_comm (i:Int),← Int.add_assoc];rfl)⟩
 | 0,_ :: _,hl,_=>by cases hl
 | n+1,[],hl,_=>by cases hl
theorem list_range_ok {r:Addr} {a b:Int} {t u v:Tok} (hh:A.handled=none) (c:Cn cx s.heap H) (ha:small a=true) (hb:small b=true) (hr:IsRange s.heap r a b 1 t u v) (h:RetF cx s H false (.list (rangeUp a (b - a).toNat)) Q) :
  wpAny (model cx.prog cx.w) A (call (.type "list") [.ref r]) Q E s:=by
 obtain ⟨h1,h2⟩:=range_small ha hb
 refine call_list_range hh hr h1 (rangeSize_nat a b) (by omega) fun h' tk acc c' hk hS hi=>?_
 have nl:¬ Live s.heap s.heap.objs.size:=not_live_size
 have e:acc.toList.toArray=acc:=by simp
 refine h.plain (.of_keep hk) (.list (fun q=>nl (c.hid _ q)) ⟨c',by rw [hS,e]⟩ (ints_rep (by rw [Array.length_toList];exact hi.1) fun i w hw=>hi.2 i w (by simpa using hw)))
theorem lrange_ok {vs:List Value} {ps:List PV} {r:PV} (hh:A.handled=none) (c:Cn cx s.heap H) (x:RepAll cx s.heap H vs ps) (e:biV .listRange ps=some r) (h:RetF cx s H false r Q) :
  wpAny (model cx.prog cx.w) A (call (.type "range") vs) (fun v s₁=>cx.GI s₁.heap∧wpAny (model cx.prog cx.w) A (call (.type "list") [v]) Q E s₁) E s:=by
 obtain ⟨x',hx,e1⟩:=ob_i e
 obtain rfl:=Option.some.inj e1
 refine range_call x hx fun a b r t u v tk sa sb ex hr e₂ _=>?_
 subst ex
 exact ⟨e₂.gi c.gi,list_range_ok (s:={ s with heap:=_,toks:=_ }) hh (c.ext e₂) sa sb hr (h.after e₂)⟩
end
end Mine
end
section
set_option maxRecDepth 100000
open PySem PySem.Calls PyProof.Rows PySem.W
set_option genSizeOf false
set_option genInjectivity false
namespace Mine
section
variable {cx:Cx} {G:Gl} {A:Around} {s:Shared} {H:Hid} {E:Value→Shared→Prop} {Q:Value→Shared→Prop}
theorem rest_ok (g:GOk cx G) (n:Nat) (S:SndN cx G n):Rest cx G n:=⟨fun b c I he h=>comp_ok g S b c I he h,lrange_ok⟩
end
end Mine
end
section
set_option maxRecDepth 100000
open PySem PySem.Calls PyProof.Rows PySem.W
set_option genSizeOf false
set_option genInjectivity false
namespace Mine
noncomputable def TabOk (h:Heap) (P:Addr) (pos:Pos) (qual:Str):Prop :=
 h.get? P=some (tabObj #[])∨∃ c' oc vs t,h.get? P=some (tabObj #[rawInt pos.line,rawInt pos.col,.ref c'])∧h.get? c'=some oc∧oc.cls=.type "code"∧oc.data=.fields vs∧vs[1]?=some (.str qual t)
theorem TabOk.mono {h h':Heap} {P:Addr} {pos:Pos} {qual:Str} (x:TabOk h P pos qual) (kP:∀ o,h.get? P=some o→h'.get? P=some o) (kc:∀ a o,isCd o→h.get? a=some o→h'.get? a=some o):TabOk h' P pos qual:=by
 rcases x with x|⟨c',oc,vs,t,e1,e2,e3,e4,e5⟩
 ·exact .inl (kP _ x)
 ·exact .inr ⟨c',oc,vs,t,kP _ e1,kc _ _ ⟨e3,vs,e4⟩ e2,e3,e4,e5⟩
theorem TabOk.live {h:Heap} {P:Addr} {pos:Pos} {qual:Str} (x:TabOk h P pos qual):Live h P:=by
 rcases x with x|⟨c',oc,vs,t,e1,_⟩
 ·exact ⟨_,x⟩
 ·exact ⟨_,e1⟩
theorem TabOk.noCd {h:Heap} {P:Addr} {pos:Pos} {qual:Str} (x:TabOk h P pos qual):NoCd h P:=by
 rcases x with x|⟨c',oc,vs,t,e1,_⟩
 ·exact .of_cls x (by intro q;cases q)
 ·exact .of_cls e1 (by intro q;cases q)
section
variable {M:Model} {A:Around} {E:Value→Shared→Prop} {s:Shared} {name qual:Str} {params:Arguments} {body:List Stmt} {scope:Scope} {env:Env} {c P:Addr} {pos:Pos} {firstLine:Nat} {mg:Str→Option Value} {clos:List (Str × Addr)} {Q:Value→Shared→Prop}
theorem nest_make (hcl:closureFor scope env=pure clos) (hne:clos ≠ []) (hge0:env.globals=mainGlobals) (hg:s.heap.Ns mainGlobals mg) (hcode:env.code=.ref c) (C:CodeHd s.heap c P) (hT:TabOk s.heap P pos qual) (hdoc:docOf body=none)
  (hgP:mainGlobals ≠ P) (hb:s.heap.BuiltinsAt mg P)
  (h:∀ f c' ctv h' tk,(∀ b o,b ≠ P→s.heap.get? b=some o→h'.get? b=some o)→¬ Live s.heap f→h'.get? f=some (fnMade name qual params body scope clos .none ((mg "__name__").getD .none) c' ctv)→h'.CodeRec (.ref c') qual→TabOk h' P pos qual→f ≠ P →
   Q (.ref f) { s with heap:=h',toks:=tk }) :
  wpAny M A (makeFunction name qual params (.stmts body) scope env [] [] [] pos firstLine) Q E s:=by
 rw [makeFunction_eq]
 simp only [List.zip_nil_right,List.filterMap_nil,List.isEmpty_nil,if_true,pure_bind]
 obtain ⟨bm,ob,hbm,hne0,_,hneP,hbo,hcls,hdict,hdata⟩:=hb
 unfold makeTail
 rw [hcl,hge0]
 refine wpAny_bind (wpAny_pure ?_)
 cases clos with
 | nil=>exact (hne rfl).elim
 | cons q r =>
 simp only [List.isEmpty_cons,Bool.false_eq_true,if_false]
 refine wpAny_bind (wpAny_newTextTuple ?_)
 have push:∀ (oT:Obj) b o,s.heap.get? b=some o→(s.heap.push oT).get? b=some o:=fun oT b o e=>Heap.get?_push_of_some _ e
 have ltP:P<s.heap.objs.size:=hT.live.lt
 rcases hT with hP|⟨c',oc,vs,t,hP,hc1,hc2,hc3,hc4⟩
 ·refine wpAny_bind (wpAny_functionCodeX hcode ((C.keeps (push _)).code (push _ _ _ hP) trivial) ((C.keeps (push _)).tab (push _ _ _ hP)) rfl fun c' h' tk hx hge hlt _ hrec htb hP2=>?_)
  have hg':=(hg.push _).extBut hx hgP
  have hx':Heap.ExtBut P s.heap h':=fun b o hb' e=>hx b o hb' (push _ _ _ e)
  have hge':s.heap.objs.size≤c':=Nat.le_trans (by rw [Heap.size_push];omega) hge
  refine wpAny_bind (wpAny_builtinsFor hg' hbm hne0 (hx' _ _ hneP hbo) hcls hdict hdata ?_)
  refine wpAny_bind (wpAny_nsGet hg' ?_)
  rw [hdoc]
  obtain ⟨P',_,_,⟨oc,vs,g1,g2,g3,_⟩,_⟩:=hP2
  obtain ⟨c₂,o₂,vs₂,t₂,e₂,r1,r2,r3⟩:=hrec
  cases e₂
  obtain rfl:=Option.some.inj (r1.symm.trans g1)
  have lt1:s.heap.objs.size<h'.objs.size:=Nat.lt_of_le_of_lt hge' hlt
  have lift:∀ (oo:Obj) b o,h'.get? b=some o→(h'.push oo).get? b=some o:=fun oo b o e=>Heap.get?_push_of_some _ e
  exact wpAny_bind (wpAny_pure (wpAny_newObj_type (h h'.objs.size c' _ _ tk (fun b o q e=>lift _ _ _ (hx' b o q e)) (fun ⟨o,e⟩=>absurd (Heap.lt_size e) (Nat.not_lt.mpr (Nat.le_of_lt lt1))) (Heap.get?_push_size _ rfl)
   ⟨c',_,vs₂,t₂,rfl,lift _ _ _ r1,r2,r3⟩ (Or.inr ⟨c',_,vs₂,t₂,lift _ _ _ htb.2,lift _ _ _ r1,g2,r2,r3⟩) (Nat.ne_of_gt (Nat.lt_trans ltP lt1))) (by size_fits)))
 ·refine wpAny_bind (wpAny_functionCode_hit (c':=.ref c') hcode ((C.keeps (push _)).code (push _ _ _ hP) (by simp [TriplesOk,rawInt])) (by simp [codeAmong,rawInt]) ?_)
  refine wpAny_bind (wpAny_builtinsFor (hg.push _) hbm hne0 (push _ _ _ hbo) hcls hdict hdata ?_)
  refine wpAny_bind (wpAny_nsGet (hg.push _) ?_)
  rw [hdoc]
  have lift:∀ (o1 o2:Obj) b o,s.heap.get? b=some o→((s.heap.push o1).push o2).get? b=some o:=fun o1 o2 b o e=>Heap.get?_push_of_some _ (push _ _ _ e)
  refine wpAny_bind (wpAny_pure (wpAny_newObj_type (h _ c' _ _ s.toks (fun b o q e=>lift _ _ _ _ e) (fun ⟨o,e⟩=>Nat.lt_irrefl _ (Nat.lt_trans (Heap.lt_size e) (by rw [Heap.size_push];exact Nat.lt_succ_self _))) (Heap.get?_push_size _ rfl)
   ⟨c',oc,vs,t,rfl,lift _ _ _ _ hc1,hc3,hc4⟩ (Or.inr ⟨c',oc,vs,t,lift _ _ _ _ hP,lift _ _ _ _ hc1,hc2,hc3,hc4⟩) ?_) (by size_fits)))
  exact Nat.ne_of_gt (Nat.lt_trans ltP (by rw [Heap.size_push];exact Nat.lt_succ_self _))
end
end Mine
end
section
set_option maxRecDepth 100000
open PySem PySem.Calls PyProof.Rows PySem.W
set_option genSizeOf false
set_option genInjectivity false
namespace Mine
theorem get_app {r:Bool × PV} {x:Nat} {b:PEnv}:∀ {a:PEnv},PEnv.get (a++b) x=some r→PEnv.get a x=some r∨PEnv.get b x=some r
 | [],h=>.inr h
 | (y,v) :: a,h=>by
  have h:(match Nat.beq x y with|true=>some v|false=>PEnv.get (a++b) x)=some r:=h
  show (match Nat.beq x y with|true=>some v|false=>PEnv.get a x)=some r∨_
  cases q:Nat.beq x y with
  | true=>rw [q] at h;exact .inl h
  | false=>rw [q] at h;exact get_app h
theorem rmiss {x:Str}:∀ {names:List Str} {vs:List Value} {acc:List (Str × Value)},x ∉ names→((names.zip vs).reverseAux acc).lookup x=acc.lookup x
 | [],_,_,_=>rfl
 | _ :: _,[],_,_=>rfl
 | n :: names,w :: vs,acc,h=>by
  refine (rmiss (acc:=(n,w) :: acc) fun q=>h (.tail _ q)).trans ?_
  rw [List.lookup_cons,show (x == n)=false from beq_eq_false_iff_ne.mpr fun q=>h (by rw [q];exact .head _)]
theorem rhit {x:Str} {v:Value}:∀ {names:List Str} {vs:List Value} {acc:List (Str × Value)},names.Nodup→(x,v)∈names.zip vs→((names.zip vs).reverseAux acc).lookup x=some v
 | [],_,_,_,h=>nomatch h
 | _ :: _,[],_,_,h=>nomatch h
 | n :: names,w :: vs,acc,nd,h=>by
  show ((names.zip vs).reverseAux ((n,w) :: acc)).lookup x=some v
  obtain ⟨nd1,nd2⟩:=List.nodup_cons.mp nd
  rcases List.mem_cons.mp h with e|h
  ·obtain ⟨rfl,rfl⟩:=Prod.mk.inj e
   refine (rmiss (acc:=(x,v) :: acc) nd1).trans ?_
   rw [List.lookup_cons,beq_self_eq_true]
  ·exact rhit nd2 h
section
variable {M:Model} {Γ:Ctx} {env:Env} {bs:List Stmt}
theorem wp_app {Q:Flow→Pos→Shared→Prop} {E:Value→Pos→Shared→Prop}:∀ {as:List Stmt} {p:Pos} {s:Shared},Sem.wp M Γ (execs as env) (fun f p' s'=>match f with | .next=>Sem.wp M Γ (execs bs env) Q E p' s' | f=>Q f p' s') E p s→Sem.wp M Γ (execs (as++bs) env) Q E p s
 | [],_,_,h=>h
 | a :: as,_,_,h=>by
  rw [execs_cons,Sem.wp_bind'] at h
  rw [List.cons_append,execs_cons,Sem.wp_bind']
  refine Sem.wp_mono M Γ _ (fun f p' s' h'=>?_) (fun _ _ _ h'=>h') _ _ h
  cases f <;> first|exact wp_app h' | exact h'
theorem execs_app {A:Around} {as:List Stmt} {Q:Flow→Shared→Prop} {E:Value→Shared→Prop} {s:Shared} (h:wpAny M A (execs as env) (fun f s'=>match f with | .next=>wpAny M A (execs bs env) Q E s' | f=>Q f s') E s):wpAny M A (execs (as++bs) env) Q E s:=fun Γ p hΓ =>
 wp_app (Sem.wp_mono M Γ _ (fun f p' s' h'=>by cases f <;> first|exact h' Γ p' hΓ|exact h') (fun _ _ _ h'=>h') _ _ (h Γ p hΓ))
end
structure ExtL (cx:Cx) (W:Hid) (h h':Heap):Prop where
 keep:∀ a o,¬ W a→h.get? a=some o→h'.get? a=some o
 live:∀ a,Live h a→Live h' a
 gi:cx.GI h→cx.GI h'
section
variable {cx:Cx} {W H:Hid} {h h' h'':Heap}
theorem ExtL.of (e:Ext cx cx.T h h') (k:∀ a,cx.T a→W a):ExtL cx W h h':=⟨fun a o n g=>e.keep a o (fun t=>n (k a t)) g,e.live,e.gi⟩
theorem ExtL.trans (x:ExtL cx W h h') (y:ExtL cx W h' h''):ExtL cx W h h'':=⟨fun a o n g=>y.keep a o n (x.keep a o n g),fun a l=>y.live a (x.live a l),fun g=>y.gi (x.gi g)⟩
theorem ExtL.ext (x:ExtL cx W h h'):Ext cx W h h':=⟨x.keep,fun a _ l=>x.live a l,x.gi⟩
theorem ExtL.cn (x:ExtL cx W h h') (c:Cn cx h H):Cn cx h' H:=⟨x.gi c.gi,fun a q=>x.live a (c.hid a q),c.bH,c.hg⟩
theorem IsCell_map {c:Addr} {v:Option Value} (x:h.IsCell c v) (k:∀ o,h.get? c=some o→h'.get? c=some o):h'.IsCell c v:=(by obtain ⟨o,e,d⟩:=x;exact ⟨o,k _ e,d⟩)
theorem CodeRec_map {c:Addr} {q:Str} (x:h.CodeRec (.ref c) q) (k:∀ o,h.get? c=some o→h'.get? c=some o):h'.CodeRec (.ref c) q:=by
 obtain ⟨c₁,o,vs,t,e,e1,e2,e3⟩:=x
 obtain rfl:=Value.ref.inj e
 exact ⟨_,o,vs,t,rfl,k _ e1,e2,e3⟩
theorem InE.extL {n:Nat} {A:Around} {env:Env} {ns:Ns} {ρ:PEnv} {s:Shared} {tk':Nat} (I:InE cx n A env ns ρ H s) (e:ExtL cx W s.heap h') (wH:∀ a,W a→H a) (nl:¬ W env.locals) (nc:∀ n c,env.cells.lookup n=some c→¬ W c):InE cx n A env ns ρ H { s with heap:=h',toks:=tk' } :=
 ⟨I.room,I.kind,I.glb,I.cel,I.glob,I.blt,e.cn I.cn,I.lH,I.cH,I.nT,fun x b p ok g=>by
  obtain ⟨v,hv,hr⟩:=I.vars x b p ok g
  refine ⟨v,hv.keep fun a o ha g=>?_,hr.ext e.ext wH⟩
  rcases ha with rfl|⟨n,c,hc,rfl⟩
  ·exact e.keep _ _ nl g
  ·exact e.keep _ _ (nc _ _ hc) g⟩
end
noncomputable abbrev Nst:=Arguments × List Stmt × Scope × Pos
noncomputable def isLoc (o:Option NameKind):Bool:=match o with
 | some .local=>true
 | _=>false
noncomputable def noCell (o:NameKind):Bool:=match o with
 | .cell=>false
 | _=>true
theorem isLoc_i {o:Option NameKind} (h:isLoc o=true):o=some .local:=by
 induction o using Option.casesOn with
 | none=>exact (Bool.false_ne_true h).elim
 | some k=>induction k using NameKind.casesOn <;> first|rfl|exact (Bool.false_ne_true h).elim
structure InnT (q:Nst) (names:List Str) (ns:Ns):Prop where
 sc:(q.2.2.1.kind,q.2.2.1.isCoroutine,q.2.2.1.isGenerator)=(.function,false,false)
 loc:(ns.all fun y=>isLoc (some y.2) && isLoc (q.2.2.1.names.lookup y.1))=true
 nms:(names.all fun x=>okN x && isLoc (q.2.2.1.names.lookup x))=true
 nc:(q.2.2.1.names.all fun y=>noCell y.2)=true
 fr:q.2.2.1.names.lookup ("inner":Str)=some .free
 nd:names.Nodup
structure Inn (cx:Cx) (W Hx:Hid) (f:Addr) (fd:FuncData) (q:Nst) (names:List Str):Prop where
 body:fd.body=.stmts q.2.1
 scope:fd.scope=q.2.2.1
 glob:fd.globals=mainGlobals
 blt:fd.builtins=builtinsNs
 bind:∀ vals:List Value,vals.length=names.length→bindArgs fd ⟨vals,[]⟩=pure (names.zip vals)
 tW:∀ a,cx.T a→W a
 wH:∀ a,W a→Hx a
 fW:¬ W f
 cW:∃ c',fd.code=.ref c'∧¬ W c'
 cl:∀ m c,fd.closure.lookup m=some c→Hx c∧¬ W c
structure InnS (cx:Cx) (Hx:Hid) (f:Addr) (fd:FuncData) (ρf:PEnv) (h:Heap):Prop where
 cn:Cn cx h Hx
 fn:∃ o,h.get? f=some o∧o.data=.func fd
 code:h.CodeRec fd.code fd.qualname
 self:∃ ci,fd.closure.lookup ("inner":Str)=some ci∧h.IsCell ci (some (.ref f))
 vars:∀ x b p,okN x=true→PEnv.get ρf (enc x)=some (b,p)→b=false∧fd.scope.names.lookup x=some .free∧(x == ("__classdict__":Str))=false∧∃ c v,fd.closure.lookup x=some c∧h.IsCell c (some v)∧Rep cx h Hx v p
section
variable {cx:Cx} {W Hx:Hid} {f:Addr} {fd:FuncData} {q:Nst} {names:List Str} {ρf:PEnv} {ns:Ns} {h h':Heap}
theorem InnS.ext (Z:Inn cx W Hx f fd q names) (x:InnS cx Hx f fd ρf h) (e:ExtL cx W h h'):InnS cx Hx f fd ρf h':=by
 obtain ⟨cn,⟨o,ho,hd⟩,hc,⟨ci,h4,h5⟩,hv⟩:=x
 obtain ⟨c',h1,h2⟩:=Z.cW
 refine ⟨e.cn cn,⟨o,e.keep _ _ Z.fW ho,hd⟩,?_,⟨ci,h4,IsCell_map h5 fun o=>e.keep _ o (Z.cl _ _ h4).2⟩,fun x b p ok g=>?_⟩
 ·rw [h1] at hc ⊢
  exact CodeRec_map hc fun o=>e.keep _ o h2
 ·obtain ⟨hb,h6,h7,c,v,h8,h9,r⟩:=hv x b p ok g
  exact ⟨hb,h6,h7,c,v,h8,IsCell_map h9 fun o=>e.keep _ o (Z.cl _ _ h8).2,r.ext e.ext Z.wH⟩
noncomputable def noI:Own:=⟨fun _=>False,0⟩
theorem WW_in {L:Addr} (n:¬ Live h L) {env:Env} (e:env.locals=L):∀ a,WW cx env noI noW a→cx.T a∨¬ Live h a:=fun a w=>by
 rcases w with w|w|w|⟨_,w⟩
 ·exact .inl w
 ·exact .inr (w ▸ e ▸ n)
 ·exact w.elim
 ·exact w.elim
theorem inn_call (Z:Inn cx W Hx f fd q names) (t:InnT q names ns) {A:Around} {E:Value→Shared→Prop} {Q:Value→Shared→Prop} {s:Shared} {vs:List Value} {ps:List PV} {ρp:PEnv} {n:Nat} (J:InnS cx Hx f fd ρf s.heap) (room:Room A (n+61)) (x:RepAll cx s.heap Hx vs ps) (hz:zipE (names.map enc) ps=some ρp)
  (h:∀ h₀ tk {E'},Ext cx cx.T s.heap h₀→InS cx (n+60) (A.deeper (callEnv fd s.heap.objs.size f)) (callEnv fd s.heap.objs.size f) ns Hx noI noW (ρp++ρf) h₀→wpAny (model cx.prog cx.w) (A.deeper (callEnv fd s.heap.objs.size f)) (execs q.2.1 (callEnv fd s.heap.objs.size f)) (fun fl s'=>Q (match fl with | .ret v=>v|_=>.none) s') E' { s with heap:=h₀,toks:=tk }) :
  wpAny (model cx.prog cx.w) A (call (.ref f) vs) Q E s:=by
 obtain ⟨o,ho,hd⟩:=J.fn
 obtain ⟨k1,k2⟩:=Prod.mk.inj t.sc
 obtain ⟨k2,k3⟩:=Prod.mk.inj k2
 have hs:=Z.scope
 have nm:∀ y∈names,okN y=true∧fd.scope.names.lookup y=some .local:=fun y hy=>by
  obtain ⟨h1,h2⟩:=band (List.all_eq_true.mp t.nms y hy)
  exact ⟨h1,hs ▸ isLoc_i h2⟩
 have lc:∀ y k,ns.lookup y=some k→k=.local∧fd.scope.names.lookup y=some .local:=fun y k hy=>by
  obtain ⟨h1,h2⟩:=band (List.all_eq_true.mp t.loc _ (mem_of_lookup hy))
  exact ⟨Option.some.inj (isLoc_i h1),hs ▸ isLoc_i h2⟩
 obtain ⟨hlen,hget⟩:=zipE_get (fun y hy=>(nm y hy).1) x hz
 refine wpAny_call (codeAny_call_def (binds:=names.zip vs) room.lt ho hd (cx.lim _ J.cn.gi) J.code Z.body (.of_eq (Z.bind vs hlen)) (fun y hy=>?_) (fun y hy=>?_) (fun h₀ hN kk=>h h₀ _ (.of_keep kk) ?_) (hs ▸ k2) (hs ▸ k3) (hs ▸ k1))
 ·rw [hs] at hy
  intro e
  have:=List.all_eq_true.mp t.nc y hy
  rw [e] at this
  exact Bool.false_ne_true this
 ·exact (nm _ (List.of_mem_zip (show (y.1,y.2)∈names.zip vs from hy)).1).2
 ·generalize hE:callEnv fd s.heap.objs.size f=env
  have eL:env.locals=s.heap.objs.size:=by rw [← hE];rfl
  have eC:env.cells=fd.closure:=by rw [← hE];rfl
  have eK:∀ y,env.kindOf y=fd.scope.names.lookup y:=fun y=>by rw [← hE];rfl
  have nl:¬ Live s.heap env.locals:=eL ▸ not_live_size
  have up:∀ b,HA Hx env noI noW b→Live s.heap b→Hx b:=fun b q l=>by
   rcases q with q|q|q|⟨_,_,q⟩
   ·exact q
   ·exact (nl (q ▸ l)).elim
   ·exact q.elim
   ·exact q.elim
  have lift:∀ {v:Value} {p:PV},Rep cx s.heap Hx v p→Rep cx h₀ (HA Hx env noI noW) v p:=fun r=>(r.hide fun b l q=>up b q l).map fun b o q gg=>⟨q,kk b o gg⟩
  refine ⟨hE ▸ room.deeper,hE ▸ (congrArg Scope.kind hs).trans k1,fun y q=>(nomatch (lc y _ q).1),fun y q=>(eK y).trans (lc y _ q).2,fun y q=>(nomatch (lc y _ q).1),fun y q=>(nomatch (lc y _ q).1),hE ▸ Z.glob,hE ▸ Z.blt,J.cn.ext (.of_keep kk),⟨_,eL ▸ hN⟩,fun c q=>q.elim,fun _ _ _ _ q=>q.elim,
   ⟨fun q=>nl (J.cn.hid _ q),fun c q=>q.elim⟩,⟨fun g=>nl (cx.ga_live _ _ J.cn.gi g),fun c q=>q.elim⟩,fun q=>q,fun m c e _=>?_,fun k a q=>q.elim,fun k a q=>q.elim,fun j k a q=>q.elim,fun y b p oky g=>?_⟩
  ·obtain ⟨h1,h2⟩:=Z.cl m c (eC ▸ e)
   exact ⟨h1,fun t=>h2 (Z.tW _ t)⟩
  ·rcases get_app g with g|g
   ·obtain ⟨rfl,v,hv,hr⟩:=hget y b p oky g
    exact ⟨v,.inl ⟨(eK y).trans (nm y (List.of_mem_zip hv).1).2,_,eL ▸ hN,rhit t.nd hv⟩,fun _=>lift hr,fun z=>(nomatch z)⟩
   ·obtain ⟨rfl,h1,h2,c,v,hc,hcell,hr⟩:=J.vars y b p oky g
    exact ⟨v,.inr ⟨.inr ⟨(eK y).trans h1,h2⟩,c,eC ▸ hc,IsCell_map hcell (kk _)⟩,fun _=>lift hr,fun z=>(nomatch z)⟩
structure At (cx:Cx) (W Hx:Hid) (f:Addr) (fd:FuncData) (ρf:PEnv) (n:Nat) (A:Around) (env:Env) (ns:Ns) (ρ:PEnv) (H:Hid) (h₀:Heap) (s:Shared):Prop where
 e:ExtL cx W h₀ s.heap
 I:InE cx (n+60) A env ns ρ H s
 J:InnS cx Hx f fd ρf s.heap
 ki:env.kindOf "inner"=some .free
 ec:env.cells=fd.closure
 nl:¬ W env.locals
 up:∀ a,Hx a→H a
variable {n:Nat} {A:Around} {env:Env} {ρ:PEnv} {H:Hid} {s:Shared} {tk':Nat} {h₀:Heap}
theorem At.ext (Z:Inn cx W Hx f fd q names) (x:At cx W Hx f fd ρf n A env ns ρ H h₀ s) (e:ExtL cx W s.heap h'):At cx W Hx f fd ρf n A env ns ρ H h₀ { s with heap:=h',toks:=tk' } :=
 ⟨x.e.trans e,x.I.extL e (fun a w=>x.up a (Z.wH a w)) x.nl (fun n c g=>(Z.cl n c (x.ec ▸ g)).2),x.J.ext Z e,x.ki,x.ec,x.nl,x.up⟩
theorem callF {E:Value→Shared→Prop} {Q:Value→Shared→Prop} {G:Gl} {np pos:Pos} {es:List Expr} {a:PE} {l:List PE} {ps:List PV} (S:SndN cx G n) (I:InE cx (n+60) A env ns ρ H s) (at':∀ h',Ext cx cx.T s.heap h'→FnAt f h')
  (ld:∀ {Q:Value→Shared→Prop},Q (.ref f) s→wpAny (model cx.prog cx.w) A (eval (.Name "inner" np) env) Q E s) (hc:CEs ns es (a :: l)) (he:evL (sem G n) ρ (a :: l)=some ps)
  (hcall:∀ vs h' tk',Ext cx cx.T s.heap h'→RepAll cx h' H vs ps→wpAny (model cx.prog cx.w) A (call (.ref f) vs) Q E { s with heap:=h',toks:=tk' }) :
  wpAny (model cx.prog cx.w) A (eval (.Call (.Name "inner" np) es [] pos) env) Q E s:=by
 induction es using List.casesOn with
 | nil=>exact (List.cons_ne_nil _ _ hc.nil').elim
 | cons e es =>
 refine Call_ (ld (callWith_F (at' _ .refl) (evL_ok S hc I he fun vs h' tk' e₁ r₁=>⟨at' _ e₁,hcall vs h' tk' e₁ r₁⟩) ?_ ?_))
 ·obtain ⟨_,_,_,hx,_⟩:=hc.cons'
  exact hx.facts.star _ _
 ·obtain ⟨_,_,_,_,hr⟩:=hc.cons'
  exact hr.plain
theorem FnAt_of {o:Obj} (ho:h.get? f=some o) (hd:o.data=.func fd):FnAt f h:=by
 obtain ⟨oc,od,da,sl⟩:=o
 exact ⟨oc,od,fd,sl,(show da=.func fd from hd) ▸ ho⟩
theorem At.call (Z:Inn cx W Hx f fd q names) {E:Value→Shared→Prop} {Q:Value→Shared→Prop} {G:Gl} {np pos:Pos} {es:List Expr} {a:PE} {l:List PE} {ps:List PV} (S:SndN cx G n) (x:At cx W Hx f fd ρf n A env ns ρ H h₀ s) (hc:CEs ns es (a :: l)) (he:evL (sem G n) ρ (a :: l)=some ps)
  (hcall:∀ vs h' tk',Ext cx cx.T s.heap h'→At cx W Hx f fd ρf n A env ns ρ H h₀ { s with heap:=h',toks:=tk' }→RepAll cx h' Hx vs ps→wpAny (model cx.prog cx.w) A (call (.ref f) vs) Q E { s with heap:=h',toks:=tk' }) :
  wpAny (model cx.prog cx.w) A (eval (.Call (.Name "inner" np) es [] pos) env) Q E s:=by
 obtain ⟨ci,h1,h2⟩:=x.J.self
 obtain ⟨o,ho,hd⟩:=x.J.fn
 exact callF S x.I (fun h' e=>FnAt_of (e.keep _ _ (fun t=>Z.fW (Z.tW _ t)) ho) hd) (fun hq=>wpAny_Name (wpAny_loadName_free x.I.kind x.ki (x.ec ▸ h1) h2 hq (by decide)) (by decide)) hc he
  fun vs h' tk' e r=>hcall vs h' tk' e (x.ext Z (.of e Z.tW)) (r.open' x.up)
end
end Mine
end
section
set_option maxRecDepth 100000
open PySem PySem.Calls PyProof.Rows PySem.W
set_option genSizeOf false
set_option genInjectivity false
namespace Mine
structure Lay where
 prog:Program
 C:Addr
 P1:Addr
 P2:Addr
 pos1:Pos
 pos2:Pos
 q1:Str
 q2:Str
structure AtCall (L:Lay) (h₁:Heap) (mg mb:Str→Option Value):Prop where
 g:h₁.Ns mainGlobals mg
 b:h₁.Ns builtinsNs mb
 lim:h₁.NoLimit
 boot:∀ x:Str,x ≠ "__name__"→mb x=bootBuiltins x
 bm:∃ bm ob,mg "__builtins__"=some (.ref bm)∧bm ≠ builtinsNs∧h₁.get? bm=some ob∧ob.cls=.type "module"∧ob.dict=some builtinsNs∧ob.data=.plain
 sys:Live h₁ sysModules
 t1:h₁.get? L.P1=some (tabObj #[])
 t2:h₁.get? L.P2=some (tabObj #[])
 nT:∀ a,a≤3→a ≠ L.P1∧a ≠ L.P2
 t12:L.P1 ≠ L.P2
theorem tab_ne {h:Heap} {a P:Addr} {o:Obj} (e:h.get? a=some o) (t:h.get? P=some (tabObj #[])) (n:o.cls ≠ .none):a ≠ P:=fun q=>by
 subst q
 rw [e] at t
 cases t
 exact n rfl
noncomputable def giOf (L:Lay) (h₁ h:Heap):Prop:=(∀ a o,a ≠ L.P1→a ≠ L.P2→h₁.get? a=some o→h.get? a=some o)∧TabOk h L.P1 L.pos1 L.q1∧TabOk h L.P2 L.pos2 L.q2
theorem ns_kept {L:Lay} {h₁ h:Heap} {a:Addr} {m:Str→Option Value} (x:h₁.Ns a m) (n:a ≠ L.P1∧a ≠ L.P2) (g:giOf L h₁ h):h.Ns a m :=
 (by obtain ⟨o,es,ep,e,r⟩:=x;exact ⟨o,es,ep,g.1 _ _ n.1 n.2 e,r⟩)
noncomputable def cxOf (L:Lay) (w:World) (h₁:Heap) (mg mb:Str→Option Value) (X:AtCall L h₁ mg mb):Cx where
 prog:=L.prog
 w:=w
 GA:=Live h₁
 T:=fun a=>a=L.P1∨a=L.P2
 B:=fun a=>a=sysModules∨a=L.P1∨a=L.P2
 GI:=giOf L h₁
 mg:=mg
 mb:=mb
 C:=L.C
 ga_live:=fun h a g l=>by
  by_cases q1:a=L.P1
  ·exact q1 ▸ g.2.1.live
  ·by_cases q2:a=L.P2
   ·exact q2 ▸ g.2.2.live
   ·obtain ⟨o,e⟩:=l
    exact ⟨o,g.1 a o q1 q2 e⟩
 mono:=fun h h' g k=>by
  refine ⟨fun a o n1 n2 e=>k a o (.inl ⟨o,e⟩) (g.1 a o n1 n2 e),g.2.1.mono (fun o e=>k _ _ (.inl ⟨_,X.t1⟩) e) fun a o c e=>k a o (.inr c) e,g.2.2.mono (fun o e=>k _ _ (.inl ⟨_,X.t2⟩) e) fun a o c e=>k a o (.inr c) e⟩
 tB:=fun a q=>.inr q
 bGA:=fun a q=>by
  rcases q with q|q|q
  ·exact q ▸ X.sys
  ·exact ⟨_,q ▸ X.t1⟩
  ·exact ⟨_,q ▸ X.t2⟩
 sysB:=.inl rfl
 ns_g:=fun h g=>ns_kept X.g (X.nT _ (by decide)) g
 ns_b:=fun h g=>ns_kept X.b (X.nT _ (by decide)) g
 lim:=fun h g=>(by obtain ⟨mc,e,r⟩:=X.lim;exact ⟨mc,ns_kept e (X.nT _ (by decide)) g,r⟩)
 boot:=X.boot
section
variable {L:Lay} {w:World} {h₁:Heap} {mg mb:Str→Option Value} {X:AtCall L h₁ mg mb}
theorem gi_start:(cxOf L w h₁ mg mb X).GI h₁:=⟨fun _ _ _ _ e=>e,.inl X.t1,.inl X.t2⟩
theorem gi_obj {a:Addr} {o:Obj} (e:h₁.get? a=some o) (n:o.cls ≠ .none):∀ h,(cxOf L w h₁ mg mb X).GI h→h.get? a=some o:=fun h g=>g.1 a o (tab_ne e X.t1 n) (tab_ne e X.t2 n) e
end
end Mine
end
section
set_option maxRecDepth 100000
open PySem PySem.Calls PyProof.Rows PySem.W
set_option genSizeOf false
set_option genInjectivity false
namespace Mine
structure Tp where
 p:Program
 w:World
 n:Nat
 ann:Option Value
noncomputable def Rn (X:Tp) (s:Shared) (t:Thread) (s':Shared) (t':Thread) (k:Nat):Prop:=∃ n,n≤k∧∀ N r,topRun treeTable X.p X.w X.n X.ann N s' t'=some r→topRun treeTable X.p X.w X.n X.ann (n+N) s t=some r
noncomputable def TR (X:Tp) {α:Type} (s:Shared) (x:Sem α) (s':Shared) (a:α) (k:Nat):Prop :=
 ∀ (K:α→Sem Fin) (H:Value→Sem Fin) (gd:Bool→Bool) (lv:List Value→List Value) (c:Code) (q:Pos) (B:List Frame),∃ q',Rn X s ⟨x.wrap K H gd lv,c,q,B⟩ s' ⟨K a,c,q',B⟩ k
section
variable {X:Tp} {s s' s'':Shared} {t t' t'':Thread} {k k':Nat}
theorem Rn.refl:Rn X s t s t 0:=⟨0,Nat.le_refl _,fun N r h=>by rw [Nat.zero_add];exact h⟩
theorem Rn.trans (a:Rn X s t s' t' k) (b:Rn X s' t' s'' t'' k'):Rn X s t s'' t'' (k+k'):=by
 obtain ⟨n,hn',hn⟩:=a
 obtain ⟨m,hm',hm⟩:=b
 exact ⟨n+m,Nat.add_le_add hn' hm',fun N r h=>by rw [Nat.add_assoc];exact hn _ _ (hm _ _ h)⟩
theorem Rn.le (a:Rn X s t s' t' k) (h:k≤k'):Rn X s t s' t' k':=(by obtain ⟨n,a,b⟩:=a;exact ⟨n,Nat.le_trans a h,b⟩)
theorem Rn.step (h1:through t=false) (h2:stepOk X.n X.ann t=true) (h3:PySem.step (denote treeTable) X.p X.w s t=.go s' t') (r:Rn X s' t' s'' t'' k):Rn X s t s'' t'' (k+1):=by
 obtain ⟨n,hn',hn⟩:=r
 refine ⟨n+1,Nat.succ_le_succ hn',fun N r h=>?_⟩
 rw [show n+1+N=n+N+1 by omega]
 unfold topRun
 rw [h1,h2,h3]
 exact hn N r h
end
section
variable {X:Tp} {α β:Type} {h h':Heap} {g:Array GenState} {d:Drawn} {tk tk':Nat} {os:OsState} {s s' s'':Shared} {k k':Nat}
theorem TR.le {x:Sem α} {a:α} (r:TR X s x s' a k) (h:k≤k'):TR X s x s' a k':=fun K H gd lv c q B=>(by obtain ⟨q',r'⟩:=r K H gd lv c q B;exact ⟨q',r'.le h⟩)
theorem TR.pure {a:α}:TR X s (Pure.pure a:Sem α) s a k:=fun _ _ _ _ _ q _=>⟨q,Rn.refl.le (Nat.zero_le _)⟩
theorem TR.bind0 {m:Sem α} {f:α→Sem β} {a:α} {b:β} (x:TR X s m s' a k) (y:TR X s' (f a) s'' b k'):TR X s (m >>= f) s'' b (k+k'):=fun K H gd lv c q B=>by
 obtain ⟨q1,r1⟩:=x (fun a=>(f a).wrap K H gd lv) H gd lv c q B
 obtain ⟨q2,r2⟩:=y K H gd lv c q1 B
 refine ⟨q2,?_⟩
 rw [Sem.bind_eq_wrap',Sem.wrap_wrap]
 exact r1.trans r2
theorem TR.bind {m:Sem α} {f:α→Sem β} {a:α} {b:β} (x:TR X s m s' a k) (y:TR X s' (f a) s'' b (k' - k)) (h:k≤k':=by omega):TR X s (m >>= f) s'' b k':=(TR.bind0 x y).le (by omega)
theorem TR.of_eq {m m':Sem α} {a:α} (e:m=m') (x:TR X s m' s' a k):TR X s m s' a k:=e ▸ x
theorem TR.keep {m:Sem α} {a:α} {vs:List Value} (x:TR X s m s' a k):TR X s (m.keep vs) s' a k:=fun K H gd lv c q B=>by
 rw [Sem.keep_eq_wrap,Sem.wrap_wrap]
 exact x _ _ _ _ _ _ _
theorem TR.holding {m:Sem α} {a:α} {vs:List Value} (x:TR X s m s' a k):TR X s (holding vs m) s' a k:=by
 unfold PySem.holding
 split
 ·exact x
 ·exact x.keep
theorem TR.onRaise {m:Sem α} {a:α} {f:Value→Sem Unit} (x:TR X s m s' a k):TR X s (m.onRaise f) s' a k:=fun K H gd lv c q B=>by
 rw [Sem.onRaise_eq_wrap,Sem.wrap_wrap]
 exact x _ _ _ _ _ _ _
theorem TR.tryCatch {m:Sem α} {a:α} {f:Value→Sem α} (x:TR X s m s' a k):TR X s (MonadExcept.tryCatch m f) s' a k:=fun K H gd lv c q B=>by
 show ∃ q',Rn X s ⟨(m.tryCatch f).wrap K H gd lv,c,q,B⟩ _ _ _
 rw [Sem.tryCatch_eq_wrap,Sem.wrap_wrap]
 exact x _ _ _ _ _ _ _
theorem TR.rule {x:String}:TR X s (PySem.rule x) s () 1:=fun _ _ _ _ _ q _=>⟨q,Rn.step (Bool.and_false _) rfl rfl Rn.refl⟩
theorem TR.standAt {x:Pos}:TR X s (standAt x) s () 1:=fun _ _ _ _ _ _ _=>⟨x,Rn.step (Bool.and_false _) rfl rfl Rn.refl⟩
theorem TR.point:TR X s PySem.point s () 1:=fun _ _ _ _ _ q _=>⟨q,Rn.step (Bool.and_false _) rfl rfl Rn.refl⟩
theorem TR.ask:TR X s PySem.ask s ⟨X.p,X.w.params⟩ 1:=fun _ _ _ _ _ q _=>⟨q,Rn.step (Bool.and_false _) rfl rfl Rn.refl⟩
theorem TR.fresh:TR X ⟨h,g,d,tk,os⟩ PySem.fresh ⟨h,g,d,tk+1,os⟩ tk 1:=fun _ _ _ _ _ q _=>⟨q,Rn.step (Bool.and_false _) rfl rfl Rn.refl⟩
theorem TR.alloc {o:Obj}:TR X ⟨h,g,d,tk,os⟩ (PySem.alloc o) ⟨h.push o,g,d,tk,os⟩ h.objs.size 1:=fun _ _ _ _ _ q _=>⟨q,Rn.step (Bool.and_false _) rfl rfl Rn.refl⟩
theorem TR.loadPart {a:Addr} {part:Option Value} {o:Obj} (e:h.get? a=some o):TR X ⟨h,g,d,tk,os⟩ (PySem.loadPart a part) ⟨h,g,d,tk,os⟩ o 1:=fun _ _ _ _ _ q _=>⟨q,Rn.step (Bool.and_false _) rfl (by
 show PySem.step _ _ _ ⟨h,g,d,tk,os⟩ ⟨.load a part _,_,_,_⟩=_
 simp only [PySem.step,e]
 rfl) Rn.refl⟩
theorem TR.updatePart {a:Addr} {part:Option Value} {f:Obj→Obj} {o:Obj} (e:h.get? a=some o) (ok:(Nat.ble X.n a || a == mainNs)=true):TR X ⟨h,g,d,tk,os⟩ (PySem.updatePart a part f) ⟨h.update a f,g,d,tk,os⟩ () 1:=fun _ _ _ _ _ q _=>⟨q,Rn.step (Bool.and_false _) (by
 show (_ && (Nat.ble X.n a || a == mainNs || a == cStatics || X.ann == some (.ref a)))=true
 rw [ok];rfl) (by
 show PySem.step _ _ _ ⟨h,g,d,tk,os⟩ ⟨.update a part f _,_,_,_⟩=_
 simp only [PySem.step,e,Option.isSome_some,if_true]
 rfl) Rn.refl⟩
theorem TR.mkInt {i:Int}:TR X ⟨h,g,d,tk,os⟩ (PySem.mkInt i) ⟨h,g,d,tk+1,os⟩ (.int i tk) 1:=by
 unfold PySem.mkInt
 exact TR.bind TR.fresh TR.pure
theorem check_hash (k:Int) (t:Tok):checkBuiltinCall "int.__hash__" ⟨[.int k t],[]⟩=Pure.pure ():=by kernel_rfl
theorem hash_plain:("int.__hash__").startsWith "lifetime."=false:=by decide +kernel
theorem entry_hash:entryFor treeTable "int.__hash__"=some Builtin.«int.__hash__»:=by rw [← table_eq_tree];exact entry_int_hash
theorem TR.call_hash {k:Int} {t:Tok}:TR X ⟨h,g,d,tk,os⟩ (call (.builtin "int.__hash__") [.int k t] []) ⟨h,g,d,tk+1,os⟩ (.int (rawHash k) tk) 4:=fun K H gd lv c q B=>by
 have e1:denote treeTable (.call (.builtin "int.__hash__") ⟨[.int k t],[]⟩)=Sem.pure (.again (.builtin "int.__hash__" ⟨[.int k t],[]⟩)):=by
  show (do checkBuiltinCall "int.__hash__" ⟨[.int k t],[]⟩;again (.builtin "int.__hash__" ⟨[.int k t],[]⟩):Sem Fin)=_
  rw [check_hash]
  rfl
 have e2:denote treeTable (.builtin "int.__hash__" ⟨[.int k t],[]⟩)=Sem.fresh fun u=>Sem.pure (.done (.ret (.int (rawHash k) u))):=by
  show (match entryFor treeTable "int.__hash__" with|some b=>b ⟨[.int k t],[]⟩|none=>unsupported ((withoutEnding? "int.__hash__" "#data").getD "int.__hash__"))=_
  rw [entry_hash]
  rfl
 refine ⟨q,?_⟩
 refine Rn.step (s':=⟨h,g,d,tk,os⟩) (Bool.and_false _) rfl (by
  show PySem.step _ _ _ ⟨h,g,d,tk,os⟩ ⟨.call _ _ _ _ _,_,_,_⟩=_
  simp only [PySem.step]
  rfl) ?_
 rw [e1]
 refine Rn.step (s':=⟨h,g,d,tk,os⟩) rfl (by simp only [stepOk,Thread.calm,Thread.atCollectorCode,Thread.yieldsInsideHandler,hash_plain];rfl) step_again ?_
 rw [e2]
 refine Rn.step (s':=⟨h,g,d,tk+1,os⟩) rfl rfl rfl ?_
 refine Rn.step (s':=⟨h,g,d,tk+1,os⟩) rfl rfl rfl ?_
 exact Rn.refl
end
end Mine
end
section
set_option maxRecDepth 100000
open PySem PySem.Calls PyProof.Rows PySem.W
set_option genSizeOf false
set_option genInjectivity false
namespace Mine
section
variable {X:Tp} {α β:Type} {h h':Heap} {g:Array GenState} {d:Drawn} {tk tk':Nat} {os:OsState} {s s' s'':Shared}
theorem TR.pyHash_int {k:Int} {t:Tok}:TR X ⟨h,g,d,tk,os⟩ (pyHash (.int k t)) ⟨h,g,d,tk+1,os⟩ (hashInt k) 8:=by
 have hr:=rawHash_range k
 have sp:specialOf (.int k t) "__hash__"=Pure.pure (some (Value.builtin "int.__hash__")):=by
  show (Pure.pure (Value.type "int") >>= fun x=>typeLookup x "__hash__")=_
  exact slot_int_hash.lookup
 show TR X _ (pyHashByItsType (.int k t)) _ _ _
 unfold pyHashByItsType
 refine TR.bind (k:=0) (a:=()) TR.pure ?_
 refine TR.bind (k:=0) (TR.of_eq sp TR.pure) ?_
 show TR X _ (if (some (Value.builtin "int.__hash__") == some Value.none)=true then _ else _) _ _ _
 rw [if_neg (by rw [beq_builtin_none];exact Bool.false_ne_true)]
 refine TR.bind (k:=0) (TR.of_eq sp TR.pure) ?_
 show TR X _ (callSpecialIfBoundUnlessNone? (.int k t) "__hash__" _ >>= _) _ _ _
 refine TR.bind (k:=5) (s':=⟨h,g,d,tk+1,os⟩) (a:=some (.int (rawHash k) tk)) ?_ ?_
 ·simp only [callSpecialIfBoundUnlessNone?,bindSpecialIfBound?]
  refine TR.holding (TR.bind (k:=1) (s':=⟨h,g,d,tk,os⟩) (a:=some (.builtin "int.__hash__",[.int k t])) ?_ ?_)
  ·refine TR.bind (k:=0) (TR.of_eq sp TR.pure) ?_
   simp only [slot_int_hash.bind]
   refine TR.bind TR.ask ?_
   split
   ·exact TR.bind (k:=0) TR.pure TR.pure
   ·exact TR.tryCatch (TR.bind (k:=0) TR.pure TR.pure)
  ·simp only [builtin_beq_none,Bool.false_eq_true,if_false]
   exact TR.bind TR.call_hash TR.pure
 ·show TR X _ (if (decide (-(2:Int) ^ 63≤rawHash k) && decide (rawHash k<2 ^ 63))=true then _ else _) _ _ _
  rw [if_pos (by rw [decide_eq_true hr.1,decide_eq_true hr.2];rfl)]
  exact TR.pure
theorem TR.dictEntries {a:Addr} {part:Option Value} {o:Obj} {es:Array DictEntry} {ep:Nat} (ho:h.get? a=some o) (hd:o.data=.dict es ep):TR X ⟨h,g,d,tk,os⟩ (dictEntries a part) ⟨h,g,d,tk,os⟩ es 1:=by
 unfold PySem.dictEntries
 refine TR.bind (TR.loadPart ho) ?_
 rw [hd]
 exact TR.pure
theorem TR.dictEpoch {a:Addr} {part:Option Value} {o:Obj} {es:Array DictEntry} {ep:Nat} (ho:h.get? a=some o) (hd:o.data=.dict es ep):TR X ⟨h,g,d,tk,os⟩ (dictEpoch a part) ⟨h,g,d,tk,os⟩ ep 1:=by
 unfold PySem.dictEpoch
 refine TR.bind (TR.loadPart ho) ?_
 rw [hd]
 exact TR.pure
theorem places_none {es:Array DictEntry} {k:Int} (hk:∀ e∈es,e.hash ≠ k):placesWithHash es.size (fun i=>es[i]?.map (·.hash)) k=[]:=by
 unfold placesWithHash
 rw [List.filter_eq_nil_iff]
 intro i hi q
 have hlt:=List.mem_range.mp hi
 dsimp only at q
 rw [Array.getElem?_eq_getElem hlt,Option.map_some] at q
 exact hk _ (Array.getElem_mem hlt) (by simpa using q)
theorem TR.dictFind_none {a:Addr} {o:Obj} {es:Array DictEntry} {ep:Nat} {k:Int} {t:Tok} {hh:Int} (ho:h.get? a=some o) (hd:o.data=.dict es ep) (hk:∀ e∈es,e.hash ≠ hh) :
  TR X ⟨h,g,d,tk,os⟩ (dictFind a (.int k t) hh) ⟨h,g,d,tk,os⟩ none 1:=by
 unfold dictFind
 refine TR.holding (TR.bind (TR.dictEntries ho hd) ?_)
 dsimp only
 rw [places_none hk]
 dsimp only [List.filterMap_nil]
 refine TR.of_eq (m':=dictWalkPlain a (.int k t) hh es []) (if_pos rfl) ?_
 unfold dictWalkPlain
 exact TR.pure
theorem get_update {a:Addr} {o:Obj} {f:Obj→Obj} (ho:h.get? a=some o) (hf:(f o).data ≠ .freed):(h.update a f).get? a=some (f o) :=
 Heap.get?_update_self _ ho (by
  revert hf
  generalize f o=x
  intro hf
  obtain ⟨c,dd,dt,sl⟩:=x
  cases dt <;> first|rfl|exact (hf rfl).elim)
theorem TR.updateDictKeys {a:Addr} {o:Obj} {es:Array DictEntry} {ep:Nat} {f:Array DictEntry→Array DictEntry} {part:Option Value} (ho:h.get? a=some o) (hd:o.data=.dict es ep) (ok:(Nat.ble X.n a || a == mainNs)=true) (hz:(f es).size≤sizeLine+1) :
  TR X ⟨h,g,d,tk,os⟩ (updateDictKeys a f part) ⟨h.update a (Obj.mapDictKeys f),g,d,tk,os⟩ () 3:=by
 have e':(Obj.mapDictKeys f o).data=.dict (f es) (ep+1):=Obj.data_mapDictKeys hd _
 unfold PySem.updateDictKeys
 refine TR.bind (TR.loadPart ho) ?_
 rw [hd]
 refine TR.bind (TR.updatePart ho ok) ?_
 unfold lookBehind
 refine TR.bind (TR.loadPart (get_update ho (by rw [e'];exact Data.noConfusion))) ?_
 rw [e']
 have:(Data.dict (f es) (ep+1)).pastItsLine=none:=by
  simp only [Data.pastItsLine]
  rw [if_neg (by omega)]
 rw [this]
 exact TR.pure
theorem TR.dictSet_new {a:Addr} {o:Obj} {es:Array DictEntry} {ep:Nat} {k:Int} {t:Tok} {v:Value} (ho:h.get? a=some o) (hd:o.data=.dict es ep) (hk:∀ e∈es,e.hash ≠ hashInt k) (ok:(Nat.ble X.n a || a == mainNs)=true) (hz:es.size≤sizeLine) :
  TR X ⟨h,g,d,tk,os⟩ (dictSet a (.int k t) v) ⟨h.update a (Obj.mapDictKeys (·.push ⟨hashInt k,.int k t,v⟩)),g,d,tk+1,os⟩ () 20:=by
 unfold dictSet
 refine TR.holding (TR.bind TR.pyHash_int ?_)
 unfold dictSetHashed
 refine TR.holding (TR.bind (TR.dictFind_none ho hd hk) ?_)
 exact TR.bind TR.rule (TR.updateDictKeys ho hd ok (by rw [Array.size_push];omega) |>.le (by omega))
theorem TR.dictPut_new {a:Addr} {o:Obj} {es:Array DictEntry} {ep:Nat} {k:Int} {t:Tok} {v:Value} {hh:Int} (ho:h.get? a=some o) (hd:o.data=.dict es ep) (hk:∀ e∈es,e.hash ≠ hh) (ok:(Nat.ble X.n a || a == mainNs)=true) (hz:es.size≤sizeLine) :
  TR X ⟨h,g,d,tk,os⟩ (dictPut a hh (.int k t) v) ⟨h.update a (Obj.mapDictKeys (·.push ⟨hh,.int k t,v⟩)),g,d,tk,os⟩ () 4:=by
 unfold dictPut
 exact TR.bind (TR.dictFind_none ho hd hk) (TR.updateDictKeys ho hd ok (by rw [Array.size_push];omega) |>.le (by omega))
end
end Mine
end
section
set_option maxRecDepth 100000
open PySem PySem.Calls PyProof.Rows PySem.W
set_option genSizeOf false
set_option genInjectivity false
namespace Mine
noncomputable def app (h:Heap) (l:List Obj):Heap:=⟨h.objs++l.toArray,h.life⟩
theorem app_nil (h:Heap):app h []=h:=by cases h;simp [app]
theorem app_size {h:Heap} {l:List Obj}:(app h l).objs.size=h.objs.size+l.length:=by simp [app]
theorem app_push {h:Heap} {l:List Obj} {o:Obj}:(app h l).push o=app h (l++[o]):=by
 show Heap.mk _ _=Heap.mk _ _
 simp [app]
theorem app_get {h:Heap} {l:List Obj} {i:Nat} {o:Obj} (e:l[i]?=some o) (nf:o.data ≠ .freed):(app h l).get? (h.objs.size+i)=some o:=by
 have:(app h l).objs[h.objs.size+i]?=some o:=by
  show (h.objs++l.toArray)[h.objs.size+i]?=_
  rw [Array.getElem?_append_right (by omega),Nat.add_sub_cancel_left]
  simpa using e
 unfold Heap.get?
 rw [this]
 obtain ⟨c,dd,dt,sl⟩:=o
 cases dt <;> first|rfl|exact (nf rfl).elim
theorem app_get_old {h:Heap} {l:List Obj} {a:Addr} {o:Obj} (e:h.get? a=some o):(app h l).get? a=some o:=by
 have lt:=Heap.lt_size e
 have:(app h l).objs[a]?=h.objs[a]?:=by
  show (h.objs++l.toArray)[a]?=_
  rw [Array.getElem?_append_left lt]
 unfold Heap.get? at e ⊢
 rw [this]
 exact e
theorem app_update {h:Heap} {l:List Obj} {i:Nat} {f:Obj→Obj}:(app h l).update (h.objs.size+i) f=app h (l.modify i f):=by
 show Heap.mk _ _=Heap.mk _ _
 congr 1
 apply Array.ext_getElem?
 intro j
 rw [Array.getElem?_modify]
 by_cases hj:j<h.objs.size
 ·rw [if_neg (by omega),Array.getElem?_append_left hj,Array.getElem?_append_left hj]
 ·rw [Array.getElem?_append_right (by omega),Array.getElem?_append_right (by omega)]
  simp only [List.getElem?_toArray,List.getElem?_modify]
  by_cases q:h.objs.size+i=j
  ·subst q
   simp
  ·rw [if_neg q]
   have:i ≠ j - h.objs.size:=by omega
   simp [this]
noncomputable def ent (t:Tok) (k:Int) (x:Str):DictEntry:=⟨hashInt k,.int k t,.str x (t+1)⟩
noncomputable def dOb (es:List DictEntry):Obj:={ cls:=.type "dict",data:=.dict es.toArray es.length }
theorem dOb_push {es:List DictEntry} {e:DictEntry}:Obj.mapDictKeys (·.push e) (dOb es)=dOb (es++[e]):=by
 simp [Obj.mapDictKeys,dOb]
noncomputable def ents3 (t:Tok):List (Int × Str)→List DictEntry
 | []=>[]
 | (k,x) :: r=>ent t k x :: ents3 (t+3) r
noncomputable def ents2 (t:Tok):List (Int × Str)→List DictEntry
 | []=>[]
 | (k,x) :: r=>ent t k x :: ents2 (t+2) r
noncomputable def chunk (t:Tok) (c:List (Int × Str)):List DictEntry:=match Nat.ble c.length 15 with
 | true=>ents2 t c
 | false=>ents3 t c
theorem ents3_hash:∀ {c:List (Int × Str)} {t:Tok},(ents3 t c).map (·.hash)=c.map fun x=>hashInt x.1
 | [],_=>rfl
 | (k,x) :: r,t=>by rw [ents3,List.map_cons,List.map_cons,ents3_hash];rfl
theorem ents2_hash:∀ {c:List (Int × Str)} {t:Tok},(ents2 t c).map (·.hash)=c.map fun x=>hashInt x.1
 | [],_=>rfl
 | (k,x) :: r,t=>by rw [ents2,List.map_cons,List.map_cons,ents2_hash];rfl
theorem chunk_hash {c:List (Int × Str)} {t:Tok}:(chunk t c).map (·.hash)=c.map fun x=>hashInt x.1:=by
 unfold chunk
 split
 ·exact ents2_hash
 ·exact ents3_hash
theorem chunk_length {c:List (Int × Str)} {t:Tok}:(chunk t c).length=c.length:=by
 have:=congrArg List.length (chunk_hash (c:=c) (t:=t))
 simpa using this
noncomputable def ItemOk (X:Tp) (it:Sem Value × Sem Value) (kx:Int × Str):Prop :=
 (∀ h g d tk os,TR X ⟨h,g,d,tk,os⟩ it.1 ⟨h,g,d,tk+1,os⟩ (.int kx.1 tk) 1)∧∀ h g d tk os,TR X ⟨h,g,d,tk,os⟩ it.2 ⟨h,g,d,tk+1,os⟩ (.str kx.2 tk) 2
inductive ItemsOk (X:Tp):List (Sem Value × Sem Value)→List (Int × Str)→Prop
 | nil:ItemsOk X [] []
 | cons {it:Sem Value × Sem Value} {kx:Int × Str} {l:List (Sem Value × Sem Value)} {c:List (Int × Str)}:ItemOk X it kx→ItemsOk X l c→ItemsOk X (it :: l) (kx :: c)
theorem ItemsOk.length {X:Tp} {l:List (Sem Value × Sem Value)} {c:List (Int × Str)} (i:ItemsOk X l c):l.length=c.length:=by
 induction i with
 | nil=>rfl
 | cons _ _ ih=>rw [List.length_cons,List.length_cons,ih]
theorem ItemsOk.append {X:Tp} {l l':List (Sem Value × Sem Value)} {c c':List (Int × Str)} (i:ItemsOk X l c) (j:ItemsOk X l' c'):ItemsOk X (l++l') (c++c'):=by
 induction i with
 | nil=>exact j
 | cons a _ ih=>exact .cons a ih
section
variable {X:Tp} {h:Heap} {l:List Obj} {g:Array GenState} {d:Drawn} {tk:Nat} {os:OsState}
theorem hash_new {es:List DictEntry} {k:Int} (hn:∀ e∈es,e.hash ≠ hashInt k):∀ e∈es.toArray,e.hash ≠ hashInt k:=fun e he=>hn e (List.mem_toArray.mp he)
theorem get_dOb {i:Nat} {es:List DictEntry} (hi:l[i]?=some (dOb es)):(app h l).get? (h.objs.size+i)=some (dOb es):=app_get hi (by exact Data.noConfusion)
theorem modify_dOb {i:Nat} {es:List DictEntry} {e:DictEntry} (hi:l[i]?=some (dOb es)):l.modify i (Obj.mapDictKeys (·.push e))=l.set i (dOb (es++[e])):=by
 apply List.ext_getElem?
 intro j
 rw [List.getElem?_modify,List.getElem?_set]
 by_cases q:i=j
 ·subst q
  have lt:i<l.length:=by
   by_cases c:i<l.length
   ·exact c
   ·rw [List.getElem?_eq_none (by omega)] at hi;cases hi
  rw [hi]
  simp [lt,dOb_push]
 ·simp [q]
theorem TR.set_at {i:Nat} {es:List DictEntry} {k:Int} {x:Str} {t u:Tok} (hn:X.n≤h.objs.size) (hi:l[i]?=some (dOb es)) (hk:∀ e∈es,e.hash ≠ hashInt k) (hz:es.length≤10000) :
  TR X ⟨app h l,g,d,tk,os⟩ (dictSet (h.objs.size+i) (.int k t) (.str x u)) ⟨app h (l.set i (dOb (es++[⟨hashInt k,.int k t,.str x u⟩]))),g,d,tk+1,os⟩ () 20:=by
 have:=TR.dictSet_new (X:=X) (h:=app h l) (g:=g) (d:=d) (tk:=tk) (os:=os) (a:=h.objs.size+i) (o:=dOb es) (es:=es.toArray) (ep:=es.length) (k:=k) (t:=t) (v:=.str x u) (get_dOb hi) rfl (hash_new hk) (by
  rw [Nat.ble_eq_true_of_le (by omega)];rfl) (by rw [List.size_toArray];exact Nat.le_trans hz (by decide))
 rw [app_update,modify_dOb hi] at this
 exact this
theorem TR.put_at {i:Nat} {es:List DictEntry} {e:DictEntry} {k:Int} {t:Tok} (he:e.key=.int k t) (hn:X.n≤h.objs.size) (hi:l[i]?=some (dOb es)) (hk:∀ z∈es,z.hash ≠ e.hash) (hz:es.length≤10000) :
  TR X ⟨app h l,g,d,tk,os⟩ (dictPut (h.objs.size+i) e.hash e.key e.val) ⟨app h (l.set i (dOb (es++[e]))),g,d,tk,os⟩ () 4:=by
 have:=TR.dictPut_new (X:=X) (h:=app h l) (g:=g) (d:=d) (tk:=tk) (os:=os) (a:=h.objs.size+i) (o:=dOb es) (es:=es.toArray) (ep:=es.length) (k:=k) (t:=t) (v:=e.val) (hh:=e.hash) (get_dOb hi) rfl (fun z hz=>hk z (List.mem_toArray.mp hz)) (by
  rw [Nat.ble_eq_true_of_le (by omega)];rfl) (by rw [List.size_toArray];exact Nat.le_trans hz (by decide))
 rw [app_update,modify_dOb hi] at this
 rw [he]
 obtain ⟨a1,a2,a3⟩:=e
 subst he
 exact this
theorem getLast_app {o:Obj}:(l++[o])[l.length]?=some o:=by simp
theorem set_last {o o':Obj}:(l++[o]).set l.length o'=l++[o']:=by
 rw [List.set_append_right _ _ (Nat.le_refl _),Nat.sub_self]
 rfl
theorem TR.long {pairs:List (Sem Value × Sem Value)} {c:List (Int × Str)} (hn:X.n≤h.objs.size) (it:ItemsOk X pairs c):∀ {es:List DictEntry} {tk:Nat},(es.map (·.hash)++c.map fun x=>hashInt x.1).Nodup→es.length+c.length≤10000 →
  TR X ⟨app h (l++[dOb es]),g,d,tk,os⟩ (forIn pairs PUnit.unit fun x _=>do
    let kv ← x.1
    let vv ← PySem.holding [kv] x.2
    PySem.holding [kv,vv] (dictSet (h.objs.size+l.length) kv vv)
    Pure.pure (ForInStep.yield PUnit.unit)) ⟨app h (l++[dOb (es++ents3 tk c)]),g,d,tk+3*c.length,os⟩ PUnit.unit (30*c.length):=by
 induction it with
 | nil =>
  intro es tk _ _
  rw [ents3,List.append_nil]
  exact TR.pure
 | @cons it kx pairs c hi _ ih =>
  intro es tk nd hz
  rw [List.forIn_cons]
  rw [show 30*(kx :: c).length=30+30*c.length by rw [List.length_cons];omega]
  refine TR.bind0 (s':=⟨app h (l++[dOb (es++[ent tk kx.1 kx.2])]),g,d,tk+3,os⟩) (a:=.yield PUnit.unit) ?_ ?_
  ·refine TR.bind (hi.1 _ _ _ _ _) (TR.bind (TR.holding (hi.2 _ _ _ _ _)) (TR.bind (k:=20) (s':=⟨app h (l++[dOb (es++[ent tk kx.1 kx.2])]),g,d,tk+3,os⟩) (a:=()) (TR.holding ?_) TR.pure))
   have:=TR.set_at (X:=X) (h:=h) (l:=l++[dOb es]) (g:=g) (d:=d) (tk:=tk+2) (os:=os) (i:=l.length) (es:=es) (k:=kx.1) (x:=kx.2) (t:=tk) (u:=tk+1) hn getLast_app (fun e he q=>?_) (by omega)
   ·rw [set_last] at this
    exact this
   ·have h1:=(List.nodup_append.mp nd).2.2 e.hash (List.mem_map.mpr ⟨e,he,rfl⟩) (hashInt kx.1) (.head _)
    exact h1 q
  ·have:=ih (es:=es++[ent tk kx.1 kx.2]) (tk:=tk+3) (by simpa [ent] using nd) (by simp at hz ⊢;omega)
   rw [List.append_assoc] at this
   rw [show tk+3*(kx :: c).length=tk+3+3*c.length by rw [List.length_cons];omega]
   exact this
end
end Mine
end
section
set_option maxRecDepth 100000
open PySem PySem.Calls PyProof.Rows PySem.W
set_option genSizeOf false
set_option genInjectivity false
namespace Mine
section
variable {X:Tp} {h:Heap} {l:List Obj} {g:Array GenState} {d:Drawn} {os:OsState}
noncomputable def vals2 (t:Tok):List (Int × Str)→List (Value × Value)
 | []=>[]
 | (k,x) :: r=>(.int k t,.str x (t+1)) :: vals2 (t+2) r
theorem TR.evalPairs {pairs:List (Sem Value × Sem Value)} {c:List (Int × Str)} (it:ItemsOk X pairs c):∀ {hh:Heap} {tk:Nat},TR X ⟨hh,g,d,tk,os⟩ (evalPairs pairs) ⟨hh,g,d,tk+2*c.length,os⟩ (vals2 tk c) (3*c.length):=by
 induction it with
 | nil=>intro hh tk;exact TR.pure
 | @cons it kx pairs c hi _ ih =>
  intro hh tk
  show TR X _ (do let kv ← it.1;let vv ← PySem.holding [kv] it.2;return (kv,vv) :: (← PySem.holding [kv,vv] (PySem.evalPairs pairs))) _ _ _
  have hl:(kx :: c).length=c.length+1:=rfl
  refine TR.bind (hi.1 _ _ _ _ _) (TR.bind (TR.holding (hi.2 _ _ _ _ _)) (TR.bind (TR.holding (ih (tk:=tk+1+1))) ?_))
  rw [show tk+2*(kx :: c).length=tk+1+1+2*c.length by rw [List.length_cons];omega]
  exact TR.pure
theorem TR.short {c:List (Int × Str)} (hn:X.n≤h.objs.size):∀ {es:List DictEntry} {tk u:Nat},(es.map (·.hash)++c.map fun x=>hashInt x.1).Nodup→es.length+c.length≤10000 →
  TR X ⟨app h (l++[dOb es]),g,d,tk,os⟩ (forIn (vals2 u c) PUnit.unit fun x _=>do
    dictSet (h.objs.size+l.length) x.1 x.2
    Pure.pure (ForInStep.yield PUnit.unit)) ⟨app h (l++[dOb (es++ents2 u c)]),g,d,tk+c.length,os⟩ PUnit.unit (20*c.length):=by
 induction c with
 | nil =>
  intro es tk u _ _
  rw [ents2,List.append_nil]
  exact TR.pure
 | cons kx c ih =>
  intro es tk u nd hz
  rw [vals2,List.forIn_cons]
  rw [show 20*(kx :: c).length=20+20*c.length by rw [List.length_cons];omega]
  refine TR.bind0 (s':=⟨app h (l++[dOb (es++[ent u kx.1 kx.2])]),g,d,tk+1,os⟩) (a:=.yield PUnit.unit) ?_ ?_
  ·refine TR.bind (k:=20) (s':=⟨app h (l++[dOb (es++[ent u kx.1 kx.2])]),g,d,tk+1,os⟩) (a:=()) ?_ TR.pure
   have:=TR.set_at (X:=X) (h:=h) (l:=l++[dOb es]) (g:=g) (d:=d) (tk:=tk) (os:=os) (i:=l.length) (es:=es) (k:=kx.1) (x:=kx.2) (t:=u) (u:=u+1) hn getLast_app (fun e he q=>?_) (by omega)
   ·rw [set_last] at this
    exact this
   ·have h1:=(List.nodup_append.mp nd).2.2 e.hash (List.mem_map.mpr ⟨e,he,rfl⟩) (hashInt kx.1) (.head _)
    exact h1 q
  ·have:=ih (es:=es++[ent u kx.1 kx.2]) (tk:=tk+1) (u:=u+2) (by simpa [ent] using nd) (by simp at hz ⊢;omega)
   rw [List.append_assoc] at this
   rw [show tk+(kx :: c).length=tk+1+c.length by rw [List.length_cons];omega]
   exact this
theorem TR.subDict {pairs:List (Sem Value × Sem Value)} {c:List (Int × Str)} {tk:Nat} (hn:X.n≤h.objs.size) (it:ItemsOk X pairs c) (nd:(c.map fun x=>hashInt x.1).Nodup) (hz:c.length≤10000) :
  TR X ⟨app h l,g,d,tk,os⟩ (subDict pairs) ⟨app h (l++[dOb (chunk tk c)]),g,d,tk+3*c.length,os⟩ (h.objs.size+l.length) (30*c.length+5):=by
 unfold PySem.subDict
 have ha:=TR.alloc (X:=X) (h:=app h l) (g:=g) (d:=d) (tk:=tk) (os:=os) (o:=dOb [])
 rw [app_push,app_size] at ha
 refine TR.bind ha ?_
 refine TR.bind (k:=30*c.length+4) (s':=⟨app h (l++[dOb (chunk tk c)]),g,d,tk+3*c.length,os⟩) (a:=()) (TR.holding ?_) TR.pure
 rw [it.length]
 unfold chunk
 by_cases q:c.length≤15
 ·rw [if_pos q,Nat.ble_eq_true_of_le q]
  refine TR.bind (TR.evalPairs it) (TR.holding ?_)
  have:=TR.short (X:=X) (h:=h) (l:=l) (g:=g) (d:=d) (os:=os) (c:=c) hn (es:=[]) (tk:=tk+2*c.length) (u:=tk) (by simpa using nd) (by simpa using hz)
  rw [List.nil_append,show tk+2*c.length+c.length=tk+3*c.length by omega] at this
  exact TR.bind this TR.pure
 ·have qb:Nat.ble c.length 15=false:=by
   cases e:Nat.ble c.length 15 with
   | false=>rfl
   | true=>exact (q (Nat.le_of_ble_eq_true e)).elim
  rw [if_neg q,qb]
  refine TR.bind TR.rule ?_
  have:=TR.long (X:=X) (h:=h) (l:=l) (g:=g) (d:=d) (os:=os) hn it (es:=[]) (tk:=tk) (by simpa using nd) (by simpa using hz)
  rw [List.nil_append] at this
  exact TR.bind this TR.pure
theorem TR.typeOf_ref {hh:Heap} {a:Addr} {o:Obj} {tk:Nat} (e:hh.get? a=some o):TR X ⟨hh,g,d,tk,os⟩ (typeOf (.ref a)) ⟨hh,g,d,tk,os⟩ o.cls 1:=by
 unfold PySem.typeOf
 exact TR.bind (TR.loadPart e) TR.pure
end
end Mine
end
section
set_option maxRecDepth 100000
open PySem PySem.Calls PyProof.Rows PySem.W
set_option genSizeOf false
set_option genInjectivity false
namespace Mine
section
variable {X:Tp} {h:Heap} {l:List Obj} {g:Array GenState} {d:Drawn} {os:OsState}
theorem TR.isDict {hh:Heap} {a:Addr} {o:Obj} {tk:Nat} (e:hh.get? a=some o) (hc:o.cls=.type "dict"):TR X ⟨hh,g,d,tk,os⟩ (isInstance (.ref a) (.type "dict")) ⟨hh,g,d,tk,os⟩ true 1:=by
 unfold isInstance
 refine TR.bind (TR.typeOf_ref e) ?_
 rw [hc,isSubtype_dict_dict]
 exact TR.pure
theorem TR.dictIter {hh:Heap} {a:Addr} {o:Obj} {tk:Nat} (e:hh.get? a=some o) (hc:o.cls=.type "dict"):TR X ⟨hh,g,d,tk,os⟩ (specialOf (.ref a) "__iter__") ⟨hh,g,d,tk,os⟩ (some (.builtin "dict.__iter__")) 1:=by
 unfold specialOf
 refine TR.bind (TR.typeOf_ref e) ?_
 rw [hc,F.slot_dict_iter.lookup]
 exact TR.pure
theorem TR.mergeLoop {es cs:List DictEntry} {rest:List Obj} {i:Nat} {tk:Nat} (hn:X.n≤h.objs.size) (hi:rest[i]?=some (dOb cs)) (hks:∀ e∈cs,∃ k t,e.key=.int k t) (nd:(es.map (·.hash)++cs.map (·.hash)).Nodup) (hz:es.length+cs.length≤10000) :
  ∀ n k,k+n=cs.length→TR X ⟨app h (dOb (es++cs.take k) :: rest),g,d,tk,os⟩ (forIn (List.range' k n) PUnit.unit fun j _=>do
   let x ← PySem.dictEntries (h.objs.size+(i+1))
   match x[j]? with
   | some e=>do
    PySem.holding [e.key,e.val] (do dictPut (h.objs.size+0) e.hash e.key e.val)
    let z ← PySem.dictEpoch (h.objs.size+(i+1))
    if (z != cs.length)=true then do
     unsupported "dict.changed-during-merge"
     Pure.pure (ForInStep.yield PUnit.unit)
    else Pure.pure (ForInStep.yield PUnit.unit)
   | _=>do
    unsupported "dict.changed-during-merge"
    Pure.pure (ForInStep.yield PUnit.unit)) ⟨app h (dOb (es++cs) :: rest),g,d,tk,os⟩ PUnit.unit (10*n)
 | 0,k,hk=>by
  rw [List.take_of_length_le (by omega)]
  exact TR.pure
 | n+1,k,hk=>by
  have hlt:k<cs.length:=by omega
  have get:∀ o:Obj,(app h (o :: rest)).get? (h.objs.size+(i+1))=some (dOb cs):=fun o=>app_get (by simpa using hi) (by exact Data.noConfusion)
  rw [List.range'_succ,List.forIn_cons]
  have ht:es++cs.take (k+1)=es++cs.take k++[cs[k]]:=by rw [List.append_assoc,List.take_succ_eq_append_getElem hlt]
  rw [show 10*(n+1)=10+10*n by omega]
  refine TR.bind0 (s':=⟨app h (dOb (es++cs.take (k+1)) :: rest),g,d,tk,os⟩) (a:=.yield PUnit.unit) ?_ (TR.mergeLoop hn hi hks nd hz n (k+1) (by omega))
  refine TR.bind (TR.dictEntries (get _) rfl) ?_
  have:cs.toArray[k]?=some cs[k]:=by simp [hlt]
  rw [this]
  obtain ⟨kk,t,hkey⟩:=hks _ (List.getElem_mem hlt)
  refine TR.bind (k:=4) (s':=⟨app h (dOb (es++cs.take (k+1)) :: rest),g,d,tk,os⟩) (a:=()) (TR.holding ?_) ?_
  ·have:=TR.put_at (X:=X) (h:=h) (l:=dOb (es++cs.take k) :: rest) (g:=g) (d:=d) (tk:=tk) (os:=os) (i:=0) (es:=es++cs.take k) (e:=cs[k]) hkey hn rfl (fun z hz q=>?_) (by rw [List.length_append,List.length_take];omega)
   ·rw [ht]
    exact this
   ·have e1:cs=cs.take k++cs[k] :: cs.drop (k+1):=by rw [List.getElem_cons_drop,List.take_append_drop]
    rw [e1,List.map_append,List.map_cons,← List.append_assoc,← List.map_append] at nd
    have:=(List.nodup_append.mp nd).2.2 z.hash (List.mem_map.mpr ⟨z,hz,rfl⟩) cs[k].hash (.head _)
    exact this q
  ·refine TR.bind (TR.dictEpoch (get _) rfl) ?_
   rw [if_neg (by simp)]
   exact TR.pure
end
end Mine
end
section
set_option maxRecDepth 100000
open PySem PySem.Calls PyProof.Rows PySem.W
set_option genSizeOf false
set_option genInjectivity false
namespace Mine
section
variable {X:Tp} {h:Heap} {l:List Obj} {g:Array GenState} {d:Drawn} {os:OsState}
theorem TR.merge {es cs:List DictEntry} {rest:List Obj} {i:Nat} {tk:Nat} (hn:X.n≤h.objs.size) (hs:sysModules<h.objs.size) (ne:es ≠ []) (hi:rest[i]?=some (dOb cs)) (hks:∀ e∈cs,∃ k t,e.key=.int k t) (nd:(es.map (·.hash)++cs.map (·.hash)).Nodup) (hz:es.length+cs.length≤10000) :
  TR X ⟨app h (dOb es :: rest),g,d,tk,os⟩ (mergeMapping (h.objs.size+0) (.ref (h.objs.size+(i+1))) false) ⟨app h (dOb (es++cs) :: rest),g,d,tk,os⟩ () (10*cs.length+10):=by
 have get:(app h (dOb es :: rest)).get? (h.objs.size+(i+1))=some (dOb cs):=app_get (by simpa using hi) (by exact Data.noConfusion)
 have get0:(app h (dOb es :: rest)).get? (h.objs.size+0)=some (dOb es):=app_get rfl (by exact Data.noConfusion)
 have hs':¬ ((h.objs.size+(i+1) == sysModules)=true):=by
  intro q
  exact absurd (eq_of_beq q) (Nat.ne_of_gt (Nat.lt_of_lt_of_le hs (Nat.le_add_right _ _)))
 unfold mergeMapping
 refine TR.bind (TR.isDict get rfl) ?_
 rw [if_pos rfl]
 refine TR.bind (TR.dictIter get rfl) ?_
 have hb:(some (Value.builtin "dict.__iter__") == some (Value.builtin "dict.__iter__"))=true:=by simp
 rw [hb]
 dsimp only
 refine TR.bind (k:=0) TR.pure ?_
 dsimp only
 rw [if_neg hs']
 simp only [Bool.false_eq_true,if_false]
 refine TR.bind (TR.dictEntries get0 rfl) ?_
 rw [if_neg (show ¬ (es.toArray.isEmpty=true) by
  intro q
  cases es with
  | nil=>exact ne rfl
  | cons=>simp at q)]
 refine TR.bind (TR.dictEntries get rfl) (TR.bind (TR.dictEpoch get rfl) ?_)
 rw [List.size_toArray,List.range_eq_range']
 have:=TR.mergeLoop (X:=X) (h:=h) (g:=g) (d:=d) (os:=os) (tk:=tk) hn hi hks nd hz cs.length 0 (by omega)
 rw [List.take_zero,List.append_nil] at this
 refine TR.bind this ?_
 exact TR.pure
end
end Mine
end
section
set_option maxRecDepth 100000
open PySem PySem.Calls PyProof.Rows PySem.W
set_option genSizeOf false
set_option genInjectivity false
namespace Mine
noncomputable abbrev MainD:=Option (List DictEntry × List (List DictEntry))
noncomputable def objsOf:MainD→List Obj
 | none=>[]
 | some (es,subs)=>dOb es :: subs.map dOb
noncomputable def addrOf (n:Nat):MainD→Option Addr
 | none=>none
 | some _=>some (n+0)
noncomputable def hashesOf:MainD→List Int
 | none=>[]
 | some (es,_)=>es.map (·.hash)
noncomputable def flushP (tk:Tok) (r:List (Int × Str)) (m:MainD):MainD:=match r with
 | []=>m
 | _=>match m with
  | none=>some (chunk tk r,[])
  | some (es,subs)=>some (es++chunk tk r,subs++[chunk tk r])
noncomputable def disp (tk:Tok) (m:MainD) (r:List (Int × Str)):List (Int × Str)→MainD
 | []=>flushP tk r m
 | x :: c=>match Nat.beq (r++[x]).length 17 with
  | true=>disp (tk+3*(r++[x]).length) (flushP tk (r++[x]) m) [] c
  | false=>disp tk m (r++[x]) c
theorem ents3_keys:∀ {c:List (Int × Str)} {t:Tok},∀ e∈ents3 t c,∃ k t,e.key=.int k t
 | [],_=>fun e he=>nomatch he
 | (k,x) :: r,t=>fun e he=>by
  rw [ents3] at he
  rcases List.mem_cons.mp he with rfl|he
  ·exact ⟨_,_,rfl⟩
  ·exact ents3_keys e he
theorem ents2_keys:∀ {c:List (Int × Str)} {t:Tok},∀ e∈ents2 t c,∃ k t,e.key=.int k t
 | [],_=>fun e he=>nomatch he
 | (k,x) :: r,t=>fun e he=>by
  rw [ents2] at he
  rcases List.mem_cons.mp he with rfl|he
  ·exact ⟨_,_,rfl⟩
  ·exact ents2_keys e he
theorem chunk_keys {c:List (Int × Str)} {t:Tok}:∀ e∈chunk t c,∃ k t,e.key=.int k t:=by
 unfold chunk
 split
 ·exact ents2_keys
 ·exact ents3_keys
section
variable {X:Tp} {h:Heap} {l:List Obj} {g:Array GenState} {d:Drawn} {os:OsState}
theorem flushP_hash {tk:Tok} {r:List (Int × Str)} {m:MainD}:hashesOf (flushP tk r m)=hashesOf m++r.map fun x=>hashInt x.1:=by
 unfold flushP
 split
 ·simp
 ·rename_i hr
  cases m with
  | none=>simp [hashesOf,chunk_hash]
  | some p=>simp [hashesOf,chunk_hash]
noncomputable def flushS (run:List (Sem Value × Sem Value)) (main:Option Addr):Sem (Option Addr):=if run.isEmpty=true then Pure.pure main
   else match main with
    | none=>do
     let __do_lift ← PySem.subDict run
     Pure.pure (some __do_lift)
    | some d=>do
     let sub ← PySem.holding [Value.ref d] (PySem.subDict run)
     (PySem.holding [Value.ref d,Value.ref sub] (mergeMapping d (Value.ref sub) false)).onRaise fun x=>do
       let _ ← PySem.holding [Value.ref d,x] (runValue (Code.builtin "proto.let_go" { }))
       Pure.pure ()
     Pure.pure (some d)
theorem TR.flush {run:List (Sem Value × Sem Value)} {r:List (Int × Str)} {m:MainD} {tk:Nat} (hn:X.n≤h.objs.size) (hs:sysModules<h.objs.size) (it:ItemsOk X run r) (nd:(hashesOf m++r.map fun x=>hashInt x.1).Nodup) (hz:(hashesOf m).length+r.length≤10000) (ok:∀ es subs,m=some (es,subs)→es ≠ []) :
  TR X ⟨app h (objsOf m),g,d,tk,os⟩ (flushS run (addrOf h.objs.size m)) ⟨app h (objsOf (flushP tk r m)),g,d,tk+3*r.length,os⟩ (addrOf h.objs.size (flushP tk r m)) (40*r.length+20):=by
 unfold flushS
 cases it with
 | nil =>
  refine TR.of_eq (if_pos rfl) ?_
  exact TR.pure
 | @cons i kx run r hi it =>
  refine TR.of_eq (if_neg (by simp)) ?_
  cases m with
  | none =>
   show TR X ⟨app h [],g,d,tk,os⟩ (do let x ← PySem.subDict (i :: run);Pure.pure (some x)) ⟨app h [dOb (chunk tk (kx :: r))],g,d,_,os⟩ (some (h.objs.size+0)) _
   have:=TR.subDict (X:=X) (h:=h) (l:=[]) (g:=g) (d:=d) (os:=os) (tk:=tk) hn (.cons hi it) (by simpa [hashesOf] using nd) (by simpa [hashesOf] using hz)
   exact TR.bind this TR.pure
  | some p =>
   obtain ⟨es,subs⟩:=p
   show TR X ⟨app h (dOb es :: subs.map dOb),g,d,tk,os⟩ (do
     let sub ← PySem.holding [Value.ref (h.objs.size+0)] (PySem.subDict (i :: run))
     (PySem.holding [Value.ref (h.objs.size+0),Value.ref sub] (mergeMapping (h.objs.size+0) (Value.ref sub) false)).onRaise fun x=>do
       let _ ← PySem.holding [Value.ref (h.objs.size+0),x] (runValue (Code.builtin "proto.let_go" { }))
       Pure.pure ()
     Pure.pure (some (h.objs.size+0))) ⟨app h (dOb (es++chunk tk (kx :: r)) :: (subs++[chunk tk (kx :: r)]).map dOb),g,d,_,os⟩ (some (h.objs.size+0)) _
   have nd2:=(List.nodup_append.mp nd).2.1
   have:=TR.subDict (X:=X) (h:=h) (l:=dOb es :: subs.map dOb) (g:=g) (d:=d) (os:=os) (tk:=tk) hn (.cons hi it) nd2 (by omega)
   refine TR.bind (TR.holding this) ?_
   have e1:(dOb es :: subs.map dOb)++[dOb (chunk tk (kx :: r))]=dOb es :: (subs++[chunk tk (kx :: r)]).map dOb:=by simp
   have e2:h.objs.size+(dOb es :: subs.map dOb).length=h.objs.size+(subs.length+1):=by simp
   rw [e1,e2]
   refine TR.bind (TR.onRaise (TR.holding (TR.merge hn hs (ok es subs rfl) (by simp) chunk_keys ?_ ?_))) TR.pure (by rw [chunk_length];omega)
   ·rw [chunk_hash];exact nd
   ·rw [chunk_length];simpa [hashesOf] using hz
theorem flushP_ok {tk:Tok} {r:List (Int × Str)} {m:MainD} (ok:∀ es subs,m=some (es,subs)→es ≠ []):∀ es subs,flushP tk r m=some (es,subs)→es ≠ []:=by
 intro es subs e q
 subst q
 unfold flushP at e
 split at e
 ·exact ok _ _ e rfl
 ·rename_i hr
  cases m with
  | none =>
   have:=congrArg (fun z=>z.map (·.1)) e
   simp only [Option.map_some,Option.some.injEq] at this
   have:=congrArg List.length this
   rw [chunk_length] at this
   cases r with
   | nil=>exact hr rfl
   | cons=>simp at this
  | some p =>
   obtain ⟨es,subs'⟩:=p
   simp only [Option.some.injEq,Prod.mk.injEq,List.append_eq_nil_iff] at e
   exact ok es subs' rfl e.1.1
theorem TR.displayLoop {pairs:List (Sem Value × Sem Value)} {c:List (Int × Str)} (hn:X.n≤h.objs.size) (hs:sysModules<h.objs.size) (it:ItemsOk X pairs c):∀ {run:List (Sem Value × Sem Value)} {r:List (Int × Str)} {m:MainD} {tk:Nat},ItemsOk X run r→(hashesOf m++(r++c).map fun x=>hashInt x.1).Nodup→(hashesOf m).length+(r++c).length≤10000→(∀ es subs,m=some (es,subs)→es ≠ []) →
  ∃ (run':List (Sem Value × Sem Value)) (r':List (Int × Str)) (m':MainD) (tk':Nat),ItemsOk X run' r'∧flushP tk' r' m'=disp tk m r c∧tk'+3*r'.length=tk+3*(r++c).length∧(hashesOf m'++r'.map fun x=>hashInt x.1).Nodup∧(hashesOf m').length+r'.length≤10000∧(∀ es subs,m'=some (es,subs)→es ≠ []) ∧
   TR X ⟨app h (objsOf m),g,d,tk,os⟩ (forIn (pairs.map fun p=>(some p.1,p.2)) ((addrOf h.objs.size m,run):Option Addr × List (Sem Value × Sem Value)) fun (x:Option (Sem Value) × Sem Value) __s =>
      match x.fst with
      | some k =>
       if ((__s.snd++[(k,x.snd)]).length == 17)=true then do
        let main ← flushS (__s.snd++[(k,x.snd)]) __s.fst
        Pure.pure (ForInStep.yield (main,[]))
       else Pure.pure (ForInStep.yield (__s.fst,__s.snd++[(k,x.snd)]))
      | none=>Sem.unsupported "") ⟨app h (objsOf m'),g,d,tk',os⟩ (addrOf h.objs.size m',run') (100*(r++c).length):=by
 induction it with
 | nil =>
  intro run r m tk ir nd hz ok
  rw [List.append_nil] at nd hz
  exact ⟨run,r,m,tk,ir,rfl,by rw [List.append_nil],nd,hz,ok,TR.pure⟩
 | @cons i kx pairs c hi it ih =>
  intro run r m tk ir nd hz ok
  have ir':=ir.append (.cons hi .nil)
  have hl:(run++[i]).length=(r++[kx]).length:=ir'.length
  have e0:r++kx :: c=(r++[kx])++c:=by simp
  rw [e0] at nd hz
  rw [List.map_append,← List.append_assoc] at nd
  by_cases q:(r++[kx]).length=17
  ·have nd1:=(List.nodup_append.mp nd).1
   obtain ⟨run',r',m',tk',a1,a2,a3,a4,a5,a6,a7⟩:=ih (run:=[]) (r:=[]) (m:=flushP tk (r++[kx]) m) (tk:=tk+3*(r++[kx]).length) .nil (by rw [flushP_hash];exact nd) (by rw [flushP_hash,List.length_append,List.length_map];simp only [List.nil_append,List.length_append,List.length_cons,List.length_nil] at hz q ⊢;omega) (flushP_ok ok)
   refine ⟨run',r',m',tk',a1,?_,?_,a4,a5,a6,?_⟩
   ·rw [a2]
    show _=(match Nat.beq (r++[kx]).length 17 with|true=>_|false=>_)
    rw [q]
   ·rw [List.nil_append] at a3
    have e1:(r++kx :: c).length=(r++[kx]).length+c.length:=by rw [e0,List.length_append]
    omega
   ·have e1:(r++kx :: c).length=(r++[kx]).length+c.length:=by rw [e0,List.length_append]
    have e2:(([]:List (Int × Str))++c).length=c.length:=rfl
    rw [List.map_cons,List.forIn_cons]
    refine TR.bind (h:=by omega) (k:=40*(r++[kx]).length+20) (s':=⟨app h (objsOf (flushP tk (r++[kx]) m)),g,d,tk+3*(r++[kx]).length,os⟩) (a:=ForInStep.yield ((addrOf h.objs.size (flushP tk (r++[kx]) m),[]):Option Addr × List (Sem Value × Sem Value))) ?_ ?_
    rotate_left
    ·exact a7.le (by rw [e2];omega)
    show TR X _ (if ((run++[i]).length == 17)=true then _ else _) _ _ _
    rw [if_pos (by rw [hl,q];rfl)]
    exact TR.bind (TR.flush hn hs ir' nd1 (by simp only [List.length_append,List.length_cons,List.length_nil] at hz ⊢;omega) ok) TR.pure
  ·obtain ⟨run',r',m',tk',a1,a2,a3,a4,a5,a6,a7⟩:=ih (run:=run++[i]) (r:=r++[kx]) (m:=m) (tk:=tk) ir' (by rw [List.map_append,← List.append_assoc];exact nd) hz ok
   refine ⟨run',r',m',tk',a1,?_,?_,a4,a5,a6,?_⟩
   ·rw [a2]
    show _=(match Nat.beq (r++[kx]).length 17 with|true=>_|false=>_)
    have:Nat.beq (r++[kx]).length 17=false:=by
     cases z:Nat.beq (r++[kx]).length 17 with
     | false=>rfl
     | true=>exact (q (Nat.eq_of_beq_eq_true z)).elim
    rw [this]
   ·rw [a3,e0]
   ·rw [List.map_cons,List.forIn_cons]
    refine TR.bind (k:=0) (s':=⟨app h (objsOf m),g,d,tk,os⟩) (a:=ForInStep.yield ((addrOf h.objs.size m,run++[i]):Option Addr × List (Sem Value × Sem Value))) ?_ ?_
    rotate_left
    ·rw [e0];exact a7
    show TR X _ (if ((run++[i]).length == 17)=true then _ else _) _ _ _
    rw [if_neg (by rw [hl];intro z;exact q (of_decide_eq_true z))]
    exact TR.pure
end
end Mine
end
section
set_option maxRecDepth 100000
open PySem PySem.Calls PyProof.Rows PySem.W
set_option genSizeOf false
set_option genInjectivity false
namespace Mine
section
variable {X:Tp} {h:Heap} {g:Array GenState} {d:Drawn} {os:OsState} {tk:Nat}
theorem flushP_some {tk:Tok} {r:List (Int × Str)} {m:MainD} (ne:r ≠ []∨m ≠ none):∃ p,flushP tk r m=some p:=by
 unfold flushP
 split
 ·cases m with
  | none=>exact (ne.elim (fun q=>q rfl) fun q=>q rfl).elim
  | some p=>exact ⟨p,rfl⟩
 ·cases m with
  | none=>exact ⟨_,rfl⟩
  | some p=>exact ⟨_,rfl⟩
theorem disp_some:∀ {c:List (Int × Str)} {tk:Tok} {m:MainD} {r:List (Int × Str)},(c ≠ []∨r ≠ []∨m ≠ none)→∃ p,disp tk m r c=some p
 | [],tk,m,r,ne=>by
  unfold disp
  exact flushP_some (ne.elim (fun q=>(q rfl).elim) id)
 | x :: c,tk,m,r,ne=>by
  unfold disp
  split
  ·obtain ⟨p,hp⟩:=flushP_some (tk:=tk) (r:=r++[x]) (m:=m) (.inl (by simp))
   rw [hp]
   exact disp_some (.inr (.inr (by simp)))
  ·exact disp_some (.inr (.inl (by simp)))
theorem disp_hash:∀ {c:List (Int × Str)} {tk:Tok} {m:MainD} {r:List (Int × Str)},hashesOf (disp tk m r c)=hashesOf m++(r++c).map fun x=>hashInt x.1
 | [],tk,m,r=>by unfold disp;rw [flushP_hash,List.append_nil]
 | x :: c,tk,m,r=>by
  unfold disp
  split
  ·rw [disp_hash,flushP_hash];simp
  ·rw [disp_hash];simp
theorem disp_len {c:List (Int × Str)}:(hashesOf (disp tk none [] c)).length=c.length:=by rw [disp_hash];simp [hashesOf]
theorem TR.display {pairs:List (Sem Value × Sem Value)} {c:List (Int × Str)} (hn:X.n≤h.objs.size) (hs:sysModules<h.objs.size) (it:ItemsOk X pairs c) (nd:(c.map fun x=>hashInt x.1).Nodup) (hz:c.length≤10000) (ne:c ≠ []) :
  TR X ⟨h,g,d,tk,os⟩ (dictDisplay (pairs.map fun p=>(some p.1,p.2))) ⟨app h (objsOf (disp tk none [] c)),g,d,tk+3*c.length,os⟩ (.ref (h.objs.size+0)) (200*c.length+20):=by
 obtain ⟨run',r',m',tk',a1,a2,a3,a4,a5,a6,a7⟩:=TR.displayLoop (X:=X) (h:=h) (g:=g) (d:=d) (os:=os) hn hs it (run:=[]) (r:=[]) (m:=none) (tk:=tk) .nil (by simpa [hashesOf] using nd) (by simpa [hashesOf] using hz) (fun _ _ q=>nomatch q)
 unfold dictDisplay
 dsimp only
 have hh:app h (objsOf none)=h:=app_nil h
 rw [hh] at a7
 have hl:r'.length≤c.length:=by
  have:=a4
  have h1:=congrArg (fun z=>(hashesOf z).length) a2
  simp only [flushP_hash,List.length_append,List.length_map] at h1
  have h2:(hashesOf (disp tk none [] c)).length=c.length:=disp_len
  omega
 refine TR.bind (k:=100*c.length) (s':=⟨app h (objsOf m'),g,d,tk',os⟩) (a:=(addrOf h.objs.size m',run')) ?_ ?_
 ·have e:∀ (l:List (Sem Value × Sem Value)) (st:Option Addr × List (Sem Value × Sem Value)) (f f':Option (Sem Value) × Sem Value→Option Addr × List (Sem Value × Sem Value)→Sem (ForInStep (Option Addr × List (Sem Value × Sem Value)))),(∀ a b st,f (some a,b) st=f' (some a,b) st) →
    forIn (l.map fun p=>(some p.1,p.2)) st f=forIn (l.map fun p=>(some p.1,p.2)) st f':=by
   intro l
   induction l with
   | nil=>intro st f f' _;rfl
   | cons x l ih =>
    intro st f f' hf
    rw [List.map_cons,List.forIn_cons,List.forIn_cons,hf]
    congr 1
    funext z
    cases z with
    | done b=>rfl
    | yield b=>exact ih b f f' hf
  refine TR.of_eq (e pairs _ _ _ fun a b st=>?_) (a7.le (by rw [List.nil_append];exact Nat.le_refl _))
  rfl
 ·refine TR.bind (TR.flush hn hs a1 a4 a5 a6) ?_
  rw [a2,a3,List.nil_append]
  obtain ⟨p,hp⟩:=disp_some (c:=c) (tk:=tk) (m:=none) (r:=[]) (.inl ne)
  rw [hp]
  exact TR.pure
noncomputable def keyI (o:Option Expr):Option Int:=match o with
 | some e=>match e with
  | .Constant c _ _=>match c with
   | .int k=>some k
   | _=>none
  | _=>none
 | none=>none
noncomputable def valS (e:Expr):Option Str:=match e with
 | .Constant c _ _=>match c with
  | .str x=>some x
  | _=>none
 | _=>none
theorem keyI_i {o:Option Expr} {k:Int} (h:keyI o=some k):∃ i p,o=some (.Constant (.int k) i p):=by
 cases o with
 | none=>exact (Option.some_ne_none _ h.symm).elim
 | some e=>cases e with
  | Constant c i p=>cases c with
   | int j=>exact ⟨i,p,by rw [Option.some.inj h]⟩
   | _=>exact (Option.some_ne_none _ h.symm).elim
  | _=>exact (Option.some_ne_none _ h.symm).elim
theorem valS_i {e:Expr} {x:Str} (h:valS e=some x):∃ i p,e=.Constant (.str x) i p:=by
 cases e with
 | Constant c i p=>cases c with
  | str j=>exact ⟨i,p,by rw [Option.some.inj h]⟩
  | _=>exact (Option.some_ne_none _ h.symm).elim
 | _=>exact (Option.some_ne_none _ h.symm).elim
noncomputable def decD:List (Option Expr)→List Expr→Option (List (Int × Str))
 | [],[]=>some []
 | o :: ks,e :: vs=>match keyI o with
  | some k=>match valS e with
   | some x=>match decD ks vs with
    | some c=>some ((k,x) :: c)
    | none=>none
   | none=>none
  | none=>none
 | _,_=>none
theorem decD_items {env:Env} {pos:Pos}:∀ {keys:List (Option Expr)} {values:List Expr} {c:List (Int × Str)},decD keys values=some c →
  ∃ pairs,ItemsOk X pairs c∧(evalEachOpt keys env).zip ((evalEach values env).map fun v=>do let x ← v;PySem.standAt pos;Pure.pure x)=pairs.map fun p=>(some p.1,p.2)
 | [],[],c,e=>by cases e;exact ⟨[],.nil,rfl⟩
 | o :: ks,e' :: vs,c,e=>by
  rw [decD] at e
  cases h1:keyI o with
  | none=>rw [h1] at e;exact (Option.some_ne_none _ e.symm).elim
  | some k =>
   cases h2:valS e' with
   | none=>rw [h1,h2] at e;exact (Option.some_ne_none _ e.symm).elim
   | some x =>
    cases h3:decD ks vs with
    | none=>rw [h1,h2,h3] at e;exact (Option.some_ne_none _ e.symm).elim
    | some c' =>
     rw [h1,h2,h3] at e
     obtain rfl:=Option.some.inj e
     obtain ⟨pairs,a1,a2⟩:=decD_items (env:=env) (pos:=pos) h3
     obtain ⟨_,_,rfl⟩:=keyI_i h1
     obtain ⟨_,_,rfl⟩:=valS_i h2
     refine ⟨(mkInt k,do let v ← mkText x;PySem.standAt pos;Pure.pure v) :: pairs,.cons ⟨fun h g d tk os=>TR.mkInt,fun h g d tk os=>TR.bind (k:=1) (TR.bind TR.fresh TR.pure) (TR.bind TR.standAt TR.pure)⟩ a1,?_⟩
     rw [List.map_cons,← a2]
     rfl
 | [],_ :: _,_,e=>(Option.some_ne_none _ e.symm).elim
 | _ :: _,[],_,e=>(Option.some_ne_none _ e.symm).elim
theorem TR.Dict {keys:List (Option Expr)} {values:List Expr} {pos:Pos} {env:Env} {c:List (Int × Str)} (hc:decD keys values=some c) (hn:X.n≤h.objs.size) (hs:sysModules<h.objs.size) (nd:(c.map fun x=>hashInt x.1).Nodup) (hz:c.length≤10000) (ne:c ≠ []) :
  TR X ⟨h,g,d,tk,os⟩ (eval (.Dict keys values pos) env) ⟨app h (objsOf (disp tk none [] c)),g,d,tk+3*c.length,os⟩ (.ref (h.objs.size+0)) (200*c.length+30):=by
 obtain ⟨pairs,a1,a2⟩:=decD_items (X:=X) (env:=env) (pos:=pos) hc
 show TR X _ (do PySem.standAt pos;dictDisplay ((evalEachOpt keys env).zip ((evalEach values env).map fun v=>do let x ← v;PySem.standAt pos;Pure.pure x))) _ _ _
 rw [a2]
 exact TR.bind TR.standAt ((TR.display hn hs a1 nd hz ne).le (by omega))
end
end Mine
end
section
set_option maxRecDepth 100000
open PySem PySem.Calls PyProof.Rows PySem.W
set_option genSizeOf false
set_option genInjectivity false
namespace Mine
section
variable {X:Tp} {h:Heap} {g:Array GenState} {d:Drawn} {os:OsState} {tk:Nat}
noncomputable def hashOf (P:Params) (x:Str):Int:=if x.cps.isEmpty then 0 else reduceHash (P.strHash x.cps)
theorem TR.nsSet {ns:Addr} {x:Str} {v:Value} {o:Obj} {es:Array DictEntry} {ep:Nat} (ho:h.get? ns=some o) (hd:o.data=.dict es ep) (ok:(Nat.ble X.n ns || ns == mainNs)=true) (hr:aRefKeyMayBeTheName x es=false) :
  TR X ⟨h,g,d,tk,os⟩ (nsSet ns x v) ⟨h.update ns (Obj.putName x (hashOf X.w.params x) (.str x tk) v),g,d,tk+1,os⟩ () 10:=by
 unfold PySem.nsSet
 refine TR.bind (k:=1) (s':=⟨h,g,d,tk,os⟩) (a:=hashOf X.w.params x) ?_ ?_
 ·unfold strHash
  exact TR.bind TR.ask TR.pure
 refine TR.bind (k:=1) (s':=⟨h,g,d,tk+1,os⟩) (a:=.str x tk) (TR.bind TR.fresh TR.pure) ?_
 refine TR.bind (TR.loadPart ho) ?_
 rw [hd]
 dsimp only
 rw [hr]
 refine TR.of_eq (if_neg Bool.false_ne_true) ?_
 exact (TR.updatePart ho ok).le (by omega)
theorem TR.storeMain {env:Env} {x:Str} {v:Value} {o:Obj} {es:Array DictEntry} {ep:Nat} (hk:env.kindOf x=some .local) (hm:env.scope.kind=.module) (hl:env.locals=mainNs) (hg:env.globals=mainNs)
  (ho:h.get? mainNs=some o) (hd:o.data=.dict es ep) (hr:aRefKeyMayBeTheName x es=false) :
  TR X ⟨h,g,d,tk,os⟩ (storeName env x v) ⟨h.update mainNs (Obj.putName x (hashOf X.w.params x) (.str x tk) v),g,d,tk+1,os⟩ () 10:=by
 unfold storeName
 rw [hk]
 have e1:(some NameKind.local == some NameKind.globalImplicit && env.blockKind != .function)=false:=rfl
 rw [e1]
 dsimp only
 have e2:(env.scope.kind == .class || (env.scope.kind == .module && env.locals != env.globals))=false:=by
  rw [hm,hl,hg]
  have:(mainNs != mainNs)=false:=bne_self_eq_false (α:=Nat) _
  rw [this]
  rfl
 rw [e2]
 refine TR.of_eq (if_neg Bool.false_ne_true) ?_
 rw [hl]
 exact TR.nsSet ho hd (by rw [beq_self_eq_true,Bool.or_true]) hr
theorem TR.assignDict {keys:List (Option Expr)} {values:List Expr} {pos q p:Pos} {env:Env} {c:List (Int × Str)} {x:Str} {o:Obj} {es:Array DictEntry} {ep:Nat} (hc:decD keys values=some c) (hn:X.n≤h.objs.size) (hs:sysModules<h.objs.size) (nd:(c.map fun x=>hashInt x.1).Nodup) (hz:c.length≤10000) (ne:c ≠ [])
  (hk:env.kindOf x=some .local) (hm:env.scope.kind=.module) (hl:env.locals=mainNs) (hg:env.globals=mainNs) (ho:h.get? mainNs=some o) (hd:o.data=.dict es ep) (hr:aRefKeyMayBeTheName x es=false) :
  TR X ⟨h,g,d,tk,os⟩ (exec (.Assign [.Name x q] (.Dict keys values pos) p) env) ⟨(app h (objsOf (disp tk none [] c))).update mainNs (Obj.putName x (hashOf X.w.params x) (.str x (tk+3*c.length)) (.ref (h.objs.size+0))),g,d,tk+3*c.length+1,os⟩ .next (200*c.length+100):=by
 rw [exec_Assign_Name env x q (.Dict keys values pos) p rfl]
 refine TR.bind TR.standAt ?_
 refine TR.bind (TR.Dict hc hn hs nd hz ne) ?_
 refine TR.bind TR.standAt ?_
 refine TR.bind (k:=20) (a:=()) ?_ TR.pure
 unfold bindName
 refine TR.bind (TR.holding TR.point) (TR.bind (TR.storeMain hk hm hl hg (app_get_old ho) hd hr) ((TR.point).le (by omega)))
theorem TR.stmt {s s':Shared} {st:Stmt} {rest:List Stmt} {env:Env} {c:Code} {pos:Pos} {B:List Frame} {k:Nat} (r:TR X s (exec st env) s' .next k):∃ q',Rn X s (restOf (st :: rest) env c pos B) s' (restOf rest env c q' B) k:=by
 obtain ⟨q',r'⟩:=r (fun f=>match f with | .next=>(execs rest env).wrap doneF (leaveH env) id id|f=>doneF f) (leaveH env) id id c pos B
 refine ⟨q',?_⟩
 unfold restOf
 rw [execs_cons_wrap]
 exact r'
end
noncomputable def insAll (t:BT) (n:Nat):List Obj→BT
 | []=>t
 | o :: r=>insAll (t.ins n o) (n+1) r
noncomputable def okIns (t:BT) (n:Nat):List Obj→Bool
 | []=>true
 | o :: r=>match (t.ins n o).get n with
  | some _=>okIns (t.ins n o) (n+1) r
  | none=>false
theorem abs_insAll {life:Life}:∀ {l:List Obj} {t:BT} {n:Nat},okIns t n l=true→absHeap (insAll t n l) (n+l.length) life=app (absHeap t n life) l
 | [],t,n,_=>(app_nil _).symm
 | o :: r,t,n,h=>by
  unfold okIns at h
  split at h
  ·rename_i x hx
   have h1:=absHeap_ins (life:=life) (t:=t) (n:=n) (o:=o) (by rw [hx];rfl)
   have h2:=abs_insAll (life:=life) h
   rw [insAll,List.length_cons,show n+(r.length+1)=n+1+r.length by omega,h2,h1]
   show Heap.mk _ _=Heap.mk _ _
   congr 1
   show (absHeap t n life).objs.push o++r.toArray=(absHeap t n life).objs++(o :: r).toArray
   apply Array.toList_inj.mp
   simp
  ·cases h
end Mine
end
section
set_option maxRecDepth 100000
set_option linter.unusedVariables false
open PySem PySem.Calls PyProof.Rows PySem.W
set_option genSizeOf false
set_option genInjectivity false
namespace Mine
noncomputable abbrev PP:Program:=PySem.Challenge.pw_us0027_01
@[irreducible] noncomputable def stAt (k:Nat):Stmt:=(PP.main.body[k]?).getD (.Pass default)
noncomputable def partsOf:Stmt→Arguments × List Stmt × Scope
 | .FunctionDef _ a b _ _ _ s _ _ _=>(a,b,s)
 | _=>(default,[],default)
noncomputable def fP (k:Nat):Arguments:=(partsOf (stAt k)).1
noncomputable def fB (k:Nat):List Stmt:=(partsOf (stAt k)).2.1
noncomputable def fS (k:Nat):Scope:=(partsOf (stAt k)).2.2
noncomputable def inAt (k j:Nat):Stmt:=match stAt k with
 | .ClassDef _ _ _ b _ _ _ _ _ _ _=>(b[j]?).getD (.Pass default)
 | _=>.Pass default
noncomputable def mP (k j:Nat):Arguments:=(partsOf (inAt k j)).1
noncomputable def mB (k j:Nat):List Stmt:=(partsOf (inAt k j)).2.1
noncomputable def mS (k j:Nat):Scope:=(partsOf (inAt k j)).2.2
noncomputable def ho_1 (P:Params):Obj :=
 {cls:=Value.type "tuple",data:=Data.seq #[] }
noncomputable def ho_3 (P:Params):Obj :=
 {cls:=Value.type "code",
  data :=
   Data.fields
    #[Value.str (Str.ofString "<module>") 182,Value.str (Str.ofString "<module>") 183,
     Value.str (Str.ofString "/claim/cut.py") 184,Value.int 1 0,Value.int 0 0,Value.int 0 0,Value.int 0 0,
     Value.int 0 0,Value.ref 11,Value.bool false,Value.int 181 0,Value.ref 12,Value.none,Value.none,
     Value.none,Value.none,Value.int 185 0,Value.int 1 0,Value.str (Str.ofString "/claim/cut.py") 186] }
noncomputable def ho_2 (P:Params):Obj :=
 {cls:=Value.none,data:=Data.fields #[] }
noncomputable def ho_4 (P:Params):Obj :=
 {cls:=Value.type "frame",
  slots :=
   #[some (Value.ref 13),some (Value.ref 3),some (Value.ref 3),none,some (Value.str (Str.ofString "__main__") 164),
    none,some (Value.ref 0)] }
@[irreducible] noncomputable def hT0 (P:Params):BT :=
 BT.node (boot_o_0 P)
  (BT.node (boot_o_1 P) (BT.node (boot_o_3 P) (BT.node (boot_o_7 P) BT.nil BT.nil) (BT.node (ho_1 P) BT.nil BT.nil))
   (BT.node (boot_o_5 P) (BT.node (boot_o_9 P) BT.nil BT.nil) (BT.node (ho_3 P) BT.nil BT.nil)))
  (BT.node (boot_o_2 P) (BT.node (boot_o_4 P) (BT.node (boot_o_8 P) BT.nil BT.nil) (BT.node (ho_2 P) BT.nil BT.nil))
   (BT.node (boot_o_6 P) (BT.node (boot_o_10 P) BT.nil BT.nil) (BT.node (ho_4 P) BT.nil BT.nil)))
noncomputable def ho_57 (P:Params):Obj :=
 {cls:=Value.type "dict",
  data :=
   Data.dict
    #[{ hash:=PyData.keyHash P (Str.ofString "__name__"),key:=Value.str (Str.ofString "__name__") 165,val:=Value.str (Str.ofString "cpy313.stringprep") 319 },
     {hash:=PyData.keyHash P (Str.ofString "__doc__"),key:=Value.str (Str.ofString "__doc__") 166,
      val:=Value.none },
     {hash:=PyData.keyHash P (Str.ofString "__package__"),key:=Value.str (Str.ofString "__package__") 167,
      val:=Value.none },
     {hash:=PyData.keyHash P (Str.ofString "__loader__"),key:=Value.str (Str.ofString "__loader__") 168,
      val:=Value.builtin "__main__.__loader__#opaque" },
     {hash:=PyData.keyHash P (Str.ofString "__spec__"),key:=Value.str (Str.ofString "__spec__") 169,
      val:=Value.none },
     {hash:=PyData.keyHash P (Str.ofString "__annotations__"),
      key:=Value.str (Str.ofString "__annotations__") 170,val:=Value.ref 6 },
     {hash:=PyData.keyHash P (Str.ofString "__builtins__"),key:=Value.str (Str.ofString "__builtins__") 171,
      val:=Value.ref 4 },
     {hash:=PyData.keyHash P (Str.ofString "__file__"),key:=Value.str (Str.ofString "__file__") 173,
      val:=Value.str (Str.ofString "/claim/cut.py") 172 },
     {hash:=PyData.keyHash P (Str.ofString "__cached__"),key:=Value.str (Str.ofString "__cached__") 174,
      val:=Value.none },
     {hash:=PyData.keyHash P (Str.ofString "_wall"),key:=Value.str (Str.ofString "_wall") 193,
      val:=Value.ref 21 },
     {hash:=PyData.keyHash P (Str.ofString "_DIV_LIMIT"),key:=Value.str (Str.ofString "_DIV_LIMIT") 197,
      val:=Value.int 4000 196 },
     {hash:=PyData.keyHash P (Str.ofString "_div2n1n"),key:=Value.str (Str.ofString "_div2n1n") 214,
      val:=Value.ref 28 },
     {hash:=PyData.keyHash P (Str.ofString "_div3n2n"),key:=Value.str (Str.ofString "_div3n2n") 228,
      val:=Value.ref 35 },
     {hash:=PyData.keyHash P (Str.ofString "_int2digits"),key:=Value.str (Str.ofString "_int2digits") 239,
      val:=Value.ref 42 },
     {hash:=PyData.keyHash P (Str.ofString "_digits2int"),key:=Value.str (Str.ofString "_digits2int") 250,
      val:=Value.ref 49 },
     {hash:=PyData.keyHash P (Str.ofString "_divmod_pos"),key:=Value.str (Str.ofString "_divmod_pos") 265,
      val:=Value.ref 56 },
     {hash:=PyData.keyHash P (Str.ofString "int_divmod"),key:=Value.str (Str.ofString "int_divmod") 275,
      val:=Value.ref 63 },
     {hash:=PyData.keyHash P (Str.ofString "COMPILER_FLAG_NAMES"),
      key:=Value.str (Str.ofString "COMPILER_FLAG_NAMES") 308,val:=Value.ref 64 },
     {hash:=PyData.keyHash P (Str.ofString "pretty_flags"),key:=Value.str (Str.ofString "pretty_flags") 318,
      val:=Value.ref 71 }]
    19 }
noncomputable def ho_7 (P:Params):Obj :=
 {cls:=Value.type "tuple",data:=Data.seq #[] }
noncomputable def ho_23 (P:Params):Obj :=
 {cls:=Value.type "tuple",
  data :=
   Data.seq
    #[Value.str (Str.ofString "a12") 218,Value.str (Str.ofString "a3") 219,Value.str (Str.ofString "b") 220,
     Value.str (Str.ofString "b1") 221,Value.str (Str.ofString "b2") 222,Value.str (Str.ofString "n") 223,
     Value.str (Str.ofString "q") 224,Value.str (Str.ofString "r") 225] }
noncomputable def ho_55 (P:Params):Obj :=
 {cls:=Value.type "function",
  data :=
   Data.func
    {name:=Str.ofString "int_divmod",qualname:=Str.ofString "int_divmod",params:=fP 8,
     body:=FuncBody.stmts (fB 8),scope:=fS 8,globals:=3,closure:=[],defaults:=Value.none,
     kwdefaults:=Value.none,pyModule:=Value.str (Str.ofString "cpy313._pylong") 194,code:=Value.ref 62 } }
noncomputable def ho_39 (P:Params):Obj :=
 {cls:=Value.none,
  data :=
   Data.func
    {name:=Str.ofString "_digits2int",qualname:=Str.ofString "_digits2int",params:=fP 6,
     body:=FuncBody.stmts (fB 6),scope:=fS 6,globals:=0,closure:=[],defaults:=Value.none,
     kwdefaults:=Value.none } }
noncomputable def ho_15 (P:Params):Obj :=
 {cls:=Value.none,data:=Data.fields #[] }
noncomputable def ho_31 (P:Params):Obj :=
 {cls:=Value.type "tuple",
  data :=
   Data.seq
    #[Value.str (Str.ofString "n") 234,Value.str (Str.ofString "a_digits") 235,
     Value.str (Str.ofString "inner") 236] }
noncomputable def ho_66 (P:Params):Obj :=
 {cls:=Value.type "function",
  data :=
   Data.func
    {name:=Str.ofString "pretty_flags",qualname:=Str.ofString "pretty_flags",params:=fP 11,
     body:=FuncBody.stmts (fB 11),scope:=fS 11,globals:=3,closure:=[],defaults:=Value.none,
     kwdefaults:=Value.none,pyModule:=Value.str (Str.ofString "cpy313.dis") 276,code:=Value.ref 70 } }
noncomputable def ho_47 (P:Params):Obj :=
 {cls:=Value.type "code",
  data :=
   Data.fields
    #[Value.str (Str.ofString "_divmod_pos") 251,Value.str (Str.ofString "_divmod_pos") 252,
     Value.str (Str.ofString "/claim/cut.py") 253,Value.int 57 0,Value.int 2 0,Value.int 0 0,Value.int 0 0,
     Value.int 3 0,Value.ref 50,Value.bool true,Value.int 181 0,Value.ref 51,Value.none,Value.ref 52,
     Value.ref 53,Value.ref 54,Value.int 263 0,Value.int 57 0,Value.str (Str.ofString "/claim/cut.py") 264] }
noncomputable def ho_11 (P:Params):Obj :=
 {cls:=Value.none,
  data :=
   Data.func
    {name:=Str.ofString "_wall",qualname:=Str.ofString "_wall",params:=fP 0,body:=FuncBody.stmts (fB 0),
     scope:=fS 0,globals:=0,closure:=[],defaults:=Value.none,kwdefaults:=Value.none } }
noncomputable def ho_27 (P:Params):Obj :=
 {cls:=Value.type "function",
  data :=
   Data.func
    {name:=Str.ofString "_div3n2n",qualname:=Str.ofString "_div3n2n",params:=fP 4,
     body:=FuncBody.stmts (fB 4),scope:=fS 4,globals:=3,closure:=[],defaults:=Value.none,
     kwdefaults:=Value.none,pyModule:=Value.str (Str.ofString "cpy313._pylong") 194,code:=Value.ref 34 } }
noncomputable def ho_62 (P:Params):Obj :=
 {cls:=Value.type "tuple",
  data :=
   Data.seq
    #[Value.str (Str.ofString "flags") 312,Value.str (Str.ofString "names") 313,Value.str (Str.ofString "i") 314,
     Value.str (Str.ofString "flag") 315] }
noncomputable def ho_43 (P:Params):Obj :=
 {cls:=Value.none,data:=Data.fields #[] }
noncomputable def ho_19 (P:Params):Obj :=
 {cls:=Value.type "code",
  data :=
   Data.fields
    #[Value.str (Str.ofString "_div2n1n") 198,Value.str (Str.ofString "_div2n1n") 199,
     Value.str (Str.ofString "/claim/cut.py") 200,Value.int 6 0,Value.int 3 0,Value.int 0 0,Value.int 0 0,
     Value.int 3 0,Value.ref 22,Value.bool true,Value.int 181 0,Value.ref 23,Value.none,Value.ref 24,
     Value.ref 25,Value.ref 26,Value.int 212 0,Value.int 6 0,Value.str (Str.ofString "/claim/cut.py") 213] }
noncomputable def ho_35 (P:Params):Obj :=
 {cls:=Value.type "tuple",data:=Data.seq #[] }
noncomputable def ho_51 (P:Params):Obj :=
 {cls:=Value.type "tuple",
  data :=
   Data.seq
    #[Value.str (Str.ofString "a") 269,Value.str (Str.ofString "b") 270,Value.str (Str.ofString "q") 271,
     Value.str (Str.ofString "r") 272] }
noncomputable def ho_9 (P:Params):Obj :=
 {cls:=Value.type "tuple",data:=Data.seq #[Value.str (Str.ofString "k") 190] }
noncomputable def ho_25 (P:Params):Obj :=
 {cls:=Value.none,
  data :=
   Data.func
    {name:=Str.ofString "_div3n2n",qualname:=Str.ofString "_div3n2n",params:=fP 4,
     body:=FuncBody.stmts (fB 4),scope:=fS 4,globals:=0,closure:=[],defaults:=Value.none,
     kwdefaults:=Value.none } }
noncomputable def ho_60 (P:Params):Obj :=
 {cls:=Value.type "tuple",data:=Data.seq #[] }
noncomputable def ho_41 (P:Params):Obj :=
 {cls:=Value.type "function",
  data :=
   Data.func
    {name:=Str.ofString "_digits2int",qualname:=Str.ofString "_digits2int",params:=fP 6,
     body:=FuncBody.stmts (fB 6),scope:=fS 6,globals:=3,closure:=[],defaults:=Value.none,
     kwdefaults:=Value.none,pyModule:=Value.str (Str.ofString "cpy313._pylong") 194,code:=Value.ref 48 } }
noncomputable def ho_17 (P:Params):Obj :=
 {cls:=Value.type "tuple",data:=Data.seq #[] }
noncomputable def ho_33 (P:Params):Obj :=
 {cls:=Value.type "code",
  data :=
   Data.fields
    #[Value.str (Str.ofString "_int2digits") 229,Value.str (Str.ofString "_int2digits") 230,
     Value.str (Str.ofString "/claim/cut.py") 231,Value.int 32 0,Value.int 2 0,Value.int 0 0,Value.int 0 0,
     Value.int 3 0,Value.ref 36,Value.bool true,Value.int 181 0,Value.ref 37,Value.none,Value.ref 38,
     Value.ref 39,Value.ref 40,Value.int 237 0,Value.int 32 0,Value.str (Str.ofString "/claim/cut.py") 238] }
noncomputable def ho_49 (P:Params):Obj :=
 {cls:=Value.type "tuple",data:=Data.seq #[] }
noncomputable def ho_13 (P:Params):Obj :=
 {cls:=Value.type "function",
  data :=
   Data.func
    {name:=Str.ofString "_wall",qualname:=Str.ofString "_wall",params:=fP 0,body:=FuncBody.stmts (fB 0),
     scope:=fS 0,globals:=3,closure:=[],defaults:=Value.none,kwdefaults:=Value.none,
     pyModule:=Value.str (Str.ofString "__main__") 164,code:=Value.ref 20 } }
noncomputable def ho_29 (P:Params):Obj :=
 {cls:=Value.none,data:=Data.fields #[] }
noncomputable def ho_64 (P:Params):Obj :=
 {cls:=Value.none,
  data :=
   Data.func
    {name:=Str.ofString "pretty_flags",qualname:=Str.ofString "pretty_flags",params:=fP 11,
     body:=FuncBody.stmts (fB 11),scope:=fS 11,globals:=0,closure:=[],defaults:=Value.none,
     kwdefaults:=Value.none } }
noncomputable def ho_45 (P:Params):Obj :=
 {cls:=Value.type "tuple",data:=Data.seq #[] }
noncomputable def ho_21 (P:Params):Obj :=
 {cls:=Value.type "tuple",data:=Data.seq #[] }
noncomputable def ho_37 (P:Params):Obj :=
 {cls:=Value.type "tuple",
  data:=Data.seq #[Value.str (Str.ofString "digits") 243,Value.str (Str.ofString "n") 244] }
noncomputable def ho_53 (P:Params):Obj :=
 {cls:=Value.none,
  data :=
   Data.func
    {name:=Str.ofString "int_divmod",qualname:=Str.ofString "int_divmod",params:=fP 8,
     body:=FuncBody.stmts (fB 8),scope:=fS 8,globals:=0,closure:=[],defaults:=Value.none,
     kwdefaults:=Value.none } }
noncomputable def ho_8 (P:Params):Obj :=
 {cls:=Value.none,data:=Data.fields #[] }
noncomputable def ho_24 (P:Params):Obj :=
 {cls:=Value.type "tuple",data:=Data.seq #[] }
noncomputable def ho_59 (P:Params):Obj :=
 {cls:=Value.type "dict",
  data :=
   Data.dict
    #[{ hash:=1,key:=Value.int 1 278,val:=Value.str (Str.ofString "OPTIMIZED") 279 },
     {hash:=2,key:=Value.int 2 280,val:=Value.str (Str.ofString "NEWLOCALS") 281 },
     {hash:=4,key:=Value.int 4 282,val:=Value.str (Str.ofString "VARARGS") 283 },
     {hash:=8,key:=Value.int 8 284,val:=Value.str (Str.ofString "VARKEYWORDS") 285 },
     {hash:=16,key:=Value.int 16 286,val:=Value.str (Str.ofString "NESTED") 287 },
     {hash:=32,key:=Value.int 32 288,val:=Value.str (Str.ofString "GENERATOR") 289 },
     {hash:=64,key:=Value.int 64 290,val:=Value.str (Str.ofString "NOFREE") 291 },
     {hash:=128,key:=Value.int 128 292,val:=Value.str (Str.ofString "COROUTINE") 293 },
     {hash:=256,key:=Value.int 256 294,val:=Value.str (Str.ofString "ITERABLE_COROUTINE") 295 },
     {hash:=512,key:=Value.int 512 296,val:=Value.str (Str.ofString "ASYNC_GENERATOR") 297 }]
    10 }
noncomputable def ho_40 (P:Params):Obj :=
 {cls:=Value.type "code",
  data :=
   Data.fields
    #[Value.str (Str.ofString "_digits2int") 240,Value.str (Str.ofString "_digits2int") 241,
     Value.str (Str.ofString "/claim/cut.py") 242,Value.int 48 0,Value.int 2 0,Value.int 0 0,Value.int 0 0,
     Value.int 3 0,Value.ref 43,Value.bool true,Value.int 181 0,Value.ref 44,Value.none,Value.ref 45,
     Value.ref 46,Value.ref 47,Value.int 248 0,Value.int 48 0,Value.str (Str.ofString "/claim/cut.py") 249] }
noncomputable def ho_16 (P:Params):Obj :=
 {cls:=Value.type "tuple",
  data :=
   Data.seq
    #[Value.str (Str.ofString "a") 201,Value.str (Str.ofString "b") 202,Value.str (Str.ofString "n") 203,
     Value.str (Str.ofString "pad") 204,Value.str (Str.ofString "half_n") 205,Value.str (Str.ofString "mask") 206,
     Value.str (Str.ofString "b1") 207,Value.str (Str.ofString "b2") 208,Value.str (Str.ofString "q1") 209,
     Value.str (Str.ofString "r") 210,Value.str (Str.ofString "q2") 211] }
noncomputable def ho_32 (P:Params):Obj :=
 {cls:=Value.none,
  data :=
   Data.func
    {name:=Str.ofString "_int2digits",qualname:=Str.ofString "_int2digits",params:=fP 5,
     body:=FuncBody.stmts (fB 5),scope:=fS 5,globals:=0,closure:=[],defaults:=Value.none,
     kwdefaults:=Value.none } }
noncomputable def ho_48 (P:Params):Obj :=
 {cls:=Value.type "function",
  data :=
   Data.func
    {name:=Str.ofString "_divmod_pos",qualname:=Str.ofString "_divmod_pos",params:=fP 7,
     body:=FuncBody.stmts (fB 7),scope:=fS 7,globals:=3,closure:=[],defaults:=Value.none,
     kwdefaults:=Value.none,pyModule:=Value.str (Str.ofString "cpy313._pylong") 194,code:=Value.ref 55 } }
noncomputable def ho_58 (P:Params):Obj :=
 {cls:=Value.none,
  data :=
   Data.fields
    #[Value.int 1 0,Value.int 0 0,Value.ref 20,Value.int 6 0,Value.int 0 0,Value.ref 27,Value.int 22 0,
     Value.int 0 0,Value.ref 34,Value.int 32 0,Value.int 0 0,Value.ref 41,Value.int 48 0,Value.int 0 0,
     Value.ref 48,Value.int 57 0,Value.int 0 0,Value.ref 55,Value.int 68 0,Value.int 0 0,Value.ref 62,
     Value.int 81 0,Value.int 0 0,Value.ref 70] }
noncomputable def ho_12 (P:Params):Obj :=
 {cls:=Value.type "code",
  data :=
   Data.fields
    #[Value.str (Str.ofString "_wall") 187,Value.str (Str.ofString "_wall") 188,
     Value.str (Str.ofString "/claim/cut.py") 189,Value.int 1 0,Value.int 1 0,Value.int 0 0,Value.int 0 0,
     Value.int 3 0,Value.ref 15,Value.bool true,Value.int 181 0,Value.ref 16,Value.none,Value.ref 17,
     Value.ref 18,Value.ref 19,Value.int 191 0,Value.int 1 0,Value.str (Str.ofString "/claim/cut.py") 192] }
noncomputable def ho_28 (P:Params):Obj :=
 {cls:=Value.type "tuple",data:=Data.seq #[] }
noncomputable def ho_63 (P:Params):Obj :=
 {cls:=Value.type "tuple",data:=Data.seq #[] }
noncomputable def ho_44 (P:Params):Obj :=
 {cls:=Value.type "tuple",
  data :=
   Data.seq
    #[Value.str (Str.ofString "a") 254,Value.str (Str.ofString "b") 255,Value.str (Str.ofString "n") 256,
     Value.str (Str.ofString "a_digits") 257,Value.str (Str.ofString "r") 258,
     Value.str (Str.ofString "q_digits") 259,Value.str (Str.ofString "a_digit") 260,
     Value.str (Str.ofString "q_digit") 261,Value.str (Str.ofString "q") 262] }
noncomputable def ho_20 (P:Params):Obj :=
 {cls:=Value.type "function",
  data :=
   Data.func
    {name:=Str.ofString "_div2n1n",qualname:=Str.ofString "_div2n1n",params:=fP 3,
     body:=FuncBody.stmts (fB 3),scope:=fS 3,globals:=3,closure:=[],defaults:=Value.none,
     kwdefaults:=Value.none,pyModule:=Value.str (Str.ofString "cpy313._pylong") 194,code:=Value.ref 27 } }
noncomputable def ho_36 (P:Params):Obj :=
 {cls:=Value.none,data:=Data.fields #[] }
noncomputable def ho_52 (P:Params):Obj :=
 {cls:=Value.type "tuple",data:=Data.seq #[] }
noncomputable def ho_10 (P:Params):Obj :=
 {cls:=Value.type "tuple",data:=Data.seq #[] }
noncomputable def ho_26 (P:Params):Obj :=
 {cls:=Value.type "code",
  data :=
   Data.fields
    #[Value.str (Str.ofString "_div3n2n") 215,Value.str (Str.ofString "_div3n2n") 216,
     Value.str (Str.ofString "/claim/cut.py") 217,Value.int 22 0,Value.int 6 0,Value.int 0 0,Value.int 0 0,
     Value.int 3 0,Value.ref 29,Value.bool true,Value.int 181 0,Value.ref 30,Value.none,Value.ref 31,
     Value.ref 32,Value.ref 33,Value.int 226 0,Value.int 22 0,Value.str (Str.ofString "/claim/cut.py") 227] }
noncomputable def ho_61 (P:Params):Obj :=
 {cls:=Value.none,data:=Data.fields #[] }
noncomputable def ho_42 (P:Params):Obj :=
 {cls:=Value.type "tuple",data:=Data.seq #[] }
noncomputable def ho_18 (P:Params):Obj :=
 {cls:=Value.none,
  data :=
   Data.func
    {name:=Str.ofString "_div2n1n",qualname:=Str.ofString "_div2n1n",params:=fP 3,
     body:=FuncBody.stmts (fB 3),scope:=fS 3,globals:=0,closure:=[],defaults:=Value.none,
     kwdefaults:=Value.none } }
noncomputable def ho_34 (P:Params):Obj :=
 {cls:=Value.type "function",
  data :=
   Data.func
    {name:=Str.ofString "_int2digits",qualname:=Str.ofString "_int2digits",params:=fP 5,
     body:=FuncBody.stmts (fB 5),scope:=fS 5,globals:=3,closure:=[],defaults:=Value.none,
     kwdefaults:=Value.none,pyModule:=Value.str (Str.ofString "cpy313._pylong") 194,code:=Value.ref 41 } }
noncomputable def ho_50 (P:Params):Obj :=
 {cls:=Value.none,data:=Data.fields #[] }
noncomputable def ho_14 (P:Params):Obj :=
 {cls:=Value.type "tuple",data:=Data.seq #[] }
noncomputable def ho_30 (P:Params):Obj :=
 {cls:=Value.type "tuple",data:=Data.seq #[Value.str (Str.ofString "a") 232,Value.str (Str.ofString "n") 233] }
noncomputable def ho_65 (P:Params):Obj :=
 {cls:=Value.type "code",
  data :=
   Data.fields
    #[Value.str (Str.ofString "pretty_flags") 309,Value.str (Str.ofString "pretty_flags") 310,
     Value.str (Str.ofString "/claim/cut.py") 311,Value.int 81 0,Value.int 1 0,Value.int 0 0,Value.int 0 0,
     Value.int 3 0,Value.ref 65,Value.bool true,Value.int 181 0,Value.ref 66,Value.none,Value.ref 67,
     Value.ref 68,Value.ref 69,Value.int 316 0,Value.int 81 0,Value.str (Str.ofString "/claim/cut.py") 317] }
noncomputable def ho_46 (P:Params):Obj :=
 {cls:=Value.none,
  data :=
   Data.func
    {name:=Str.ofString "_divmod_pos",qualname:=Str.ofString "_divmod_pos",params:=fP 7,
     body:=FuncBody.stmts (fB 7),scope:=fS 7,globals:=0,closure:=[],defaults:=Value.none,
     kwdefaults:=Value.none } }
noncomputable def ho_22 (P:Params):Obj :=
 {cls:=Value.none,data:=Data.fields #[] }
noncomputable def ho_38 (P:Params):Obj :=
 {cls:=Value.type "tuple",
  data :=
   Data.seq
    #[Value.str (Str.ofString "digits") 245,Value.str (Str.ofString "n") 246,Value.str (Str.ofString "inner") 247] }
noncomputable def ho_54 (P:Params):Obj :=
 {cls:=Value.type "code",
  data :=
   Data.fields
    #[Value.str (Str.ofString "int_divmod") 266,Value.str (Str.ofString "int_divmod") 267,
     Value.str (Str.ofString "/claim/cut.py") 268,Value.int 68 0,Value.int 2 0,Value.int 0 0,Value.int 0 0,
     Value.int 3 0,Value.ref 57,Value.bool true,Value.int 181 0,Value.ref 58,Value.none,Value.ref 59,
     Value.ref 60,Value.ref 61,Value.int 273 0,Value.int 68 0,Value.str (Str.ofString "/claim/cut.py") 274] }
@[irreducible] noncomputable def hTP (P:Params):BT :=
 BT.node (boot_o_0 P)
  (BT.node (boot_o_1 P)
   (BT.node (ho_57 P)
    (BT.node (boot_o_7 P)
     (BT.node (ho_7 P) (BT.node (ho_23 P) (BT.node (ho_55 P) BT.nil BT.nil) BT.nil)
      (BT.node (ho_39 P) BT.nil BT.nil))
     (BT.node (ho_15 P) (BT.node (ho_31 P) (BT.node (ho_66 P) BT.nil BT.nil) BT.nil)
      (BT.node (ho_47 P) BT.nil BT.nil)))
    (BT.node (ho_1 P)
     (BT.node (ho_11 P) (BT.node (ho_27 P) (BT.node (ho_62 P) BT.nil BT.nil) BT.nil)
      (BT.node (ho_43 P) BT.nil BT.nil))
     (BT.node (ho_19 P) (BT.node (ho_35 P) BT.nil BT.nil) (BT.node (ho_51 P) BT.nil BT.nil))))
   (BT.node (boot_o_5 P)
    (BT.node (boot_o_9 P)
     (BT.node (ho_9 P) (BT.node (ho_25 P) (BT.node (ho_60 P) BT.nil BT.nil) BT.nil)
      (BT.node (ho_41 P) BT.nil BT.nil))
     (BT.node (ho_17 P) (BT.node (ho_33 P) BT.nil BT.nil) (BT.node (ho_49 P) BT.nil BT.nil)))
    (BT.node (ho_3 P)
     (BT.node (ho_13 P) (BT.node (ho_29 P) (BT.node (ho_64 P) BT.nil BT.nil) BT.nil)
      (BT.node (ho_45 P) BT.nil BT.nil))
     (BT.node (ho_21 P) (BT.node (ho_37 P) BT.nil BT.nil) (BT.node (ho_53 P) BT.nil BT.nil)))))
  (BT.node (boot_o_2 P)
   (BT.node (boot_o_4 P)
    (BT.node (boot_o_8 P)
     (BT.node (ho_8 P) (BT.node (ho_24 P) (BT.node (ho_59 P) BT.nil BT.nil) BT.nil)
      (BT.node (ho_40 P) BT.nil BT.nil))
     (BT.node (ho_16 P) (BT.node (ho_32 P) BT.nil BT.nil) (BT.node (ho_48 P) BT.nil BT.nil)))
    (BT.node (ho_58 P)
     (BT.node (ho_12 P) (BT.node (ho_28 P) (BT.node (ho_63 P) BT.nil BT.nil) BT.nil)
      (BT.node (ho_44 P) BT.nil BT.nil))
     (BT.node (ho_20 P) (BT.node (ho_36 P) BT.nil BT.nil) (BT.node (ho_52 P) BT.nil BT.nil))))
   (BT.node (boot_o_6 P)
    (BT.node (boot_o_10 P)
     (BT.node (ho_10 P) (BT.node (ho_26 P) (BT.node (ho_61 P) BT.nil BT.nil) BT.nil)
      (BT.node (ho_42 P) BT.nil BT.nil))
     (BT.node (ho_18 P) (BT.node (ho_34 P) BT.nil BT.nil) (BT.node (ho_50 P) BT.nil BT.nil)))
    (BT.node (ho_4 P)
     (BT.node (ho_14 P) (BT.node (ho_30 P) (BT.node (ho_65 P) BT.nil BT.nil) BT.nil)
      (BT.node (ho_46 P) BT.nil BT.nil))
     (BT.node (ho_22 P) (BT.node (ho_38 P) BT.nil BT.nil) (BT.node (ho_54 P) BT.nil BT.nil)))))
noncomputable abbrev hEnv:Env:={ scope:=PP.main.scope,locals:=mainNs,globals:=mainNs,cells:=[],code:=.ref 13,frame:=some 14 }
noncomputable def o01_72 (P:Params):Obj :=
 {cls:=Value.type "list",
  data :=
   Data.seq
    #[Value.int 173 321,Value.int 847 322,Value.int 6150 323,Value.int 6155 324,Value.int 6156 325,
     Value.int 6157 326,Value.int 8203 327,Value.int 8204 328,Value.int 8205 329,Value.int 8288 330,
     Value.int 65279 331] }
noncomputable def o01_73 (P:Params):Obj :=
 {cls:=Value.type "range",data:=Data.fields #[Value.int 65024 332,Value.int 65040 333,Value.int 1 334] }
noncomputable def o01_74 (P:Params):Obj :=
 {cls:=Value.type "list",
  data :=
   Data.seq
    #[Value.int 65024 337,Value.int 65025 338,Value.int 65026 339,Value.int 65027 340,Value.int 65028 341,
     Value.int 65029 342,Value.int 65030 343,Value.int 65031 344,Value.int 65032 345,Value.int 65033 346,
     Value.int 65034 347,Value.int 65035 348,Value.int 65036 349,Value.int 65037 350,Value.int 65038 351,
     Value.int 65039 352]
    18 }
noncomputable def o01_75 (P:Params):Obj :=
 {cls:=Value.type "range_iterator",data:=Data.fields #[Value.int 65040 0,Value.int 0 0,Value.int 1 0] }
noncomputable def o01_76 (P:Params):Obj :=
 {cls:=Value.type "tuple",data:=Data.seq #[] }
noncomputable def o01_77 (P:Params):Obj :=
 {cls:=Value.type "StopIteration",
  data:=Data.fields #[Value.ref 76,Value.none,Value.none,Value.none,Value.bool false,Value.none] }
noncomputable def o01_78 (P:Params):Obj :=
 {cls:=Value.type "list",
  data :=
   Data.seq
    #[Value.int 173 321,Value.int 847 322,Value.int 6150 323,Value.int 6155 324,Value.int 6156 325,
     Value.int 6157 326,Value.int 8203 327,Value.int 8204 328,Value.int 8205 329,Value.int 8288 330,
     Value.int 65279 331,Value.int 65024 337,Value.int 65025 338,Value.int 65026 339,Value.int 65027 340,
     Value.int 65028 341,Value.int 65029 342,Value.int 65030 343,Value.int 65031 344,Value.int 65032 345,
     Value.int 65033 346,Value.int 65034 347,Value.int 65035 348,Value.int 65036 349,Value.int 65037 350,
     Value.int 65038 351,Value.int 65039 352] }
noncomputable def o01_79 (P:Params):Obj :=
 {cls:=Value.type "set",
  data :=
   Data.set
    #[(65024,Value.int 65024 337),(65025,Value.int 65025 338),(65026,Value.int 65026 339),
     (65027,Value.int 65027 340),(65028,Value.int 65028 341),(65029,Value.int 65029 342),
     (6150,Value.int 6150 323),(65030,Value.int 65030 343),(65031,Value.int 65031 344),
     (65032,Value.int 65032 345),(65033,Value.int 65033 346),(6155,Value.int 6155 324),
     (6156,Value.int 6156 325),(6157,Value.int 6157 326),(8203,Value.int 8203 327),(8204,Value.int 8204 328),
     (8205,Value.int 8205 329),(65034,Value.int 65034 347),(65035,Value.int 65035 348),
     (65036,Value.int 65036 349),(65037,Value.int 65037 350),(65038,Value.int 65038 351),
     (65039,Value.int 65039 352),(173,Value.int 173 321),(847,Value.int 847 322),(8288,Value.int 8288 330),
     (65279,Value.int 65279 331)]
    29
    {mask:=127,
     place:=#[0,1,2,3,4,5,6,7,8,9,10,11,12,13,14,15,16,17,18,19,20,21,22,45,79,96,127],
     dummies:=#[],finger:=0,led:=!P.followText "set-order",moves:=2,plain:=true } }
noncomputable def o01_80 (P:Params):Obj :=
 {cls:=Value.type "list_iterator",data:=Data.fields #[Value.none,Value.int 27 0] }
noncomputable def o01_81 (P:Params):Obj :=
 {cls:=Value.type "tuple",data:=Data.seq #[] }
noncomputable def o01_82 (P:Params):Obj :=
 {cls:=Value.type "StopIteration",
  data:=Data.fields #[Value.ref 81,Value.none,Value.none,Value.none,Value.bool false,Value.none] }
noncomputable def o01_83 (P:Params):Obj :=
 {cls:=Value.type "tuple",data:=Data.seq #[] }
noncomputable def o01_84 (P:Params):Obj :=
 {cls:=Value.none,data:=Data.fields #[] }
noncomputable def o01_85 (P:Params):Obj :=
 {cls:=Value.type "tuple",data:=Data.seq #[Value.str (Str.ofString "code") 384] }
noncomputable def o01_86 (P:Params):Obj :=
 {cls:=Value.type "tuple",data:=Data.seq #[] }
noncomputable def o01_87 (P:Params):Obj :=
 {cls:=Value.none,
  data :=
   Data.func
    {name:=Str.ofString "in_table_b1",qualname:=Str.ofString "in_table_b1",params:=fP 14,
     body:=FuncBody.stmts (fB 14),scope:=fS 14,globals:=0,closure:=[],defaults:=Value.none,
     kwdefaults:=Value.none } }
noncomputable def o01_88 (P:Params):Obj :=
 {cls:=Value.type "code",
  data :=
   Data.fields
    #[Value.str (Str.ofString "in_table_b1") 381,Value.str (Str.ofString "in_table_b1") 382,
     Value.str (Str.ofString "/claim/cut.py") 383,Value.int 95 0,Value.int 1 0,Value.int 0 0,Value.int 0 0,
     Value.int 3 0,Value.ref 83,Value.bool true,Value.int 181 0,Value.ref 84,Value.none,Value.ref 85,
     Value.ref 86,Value.ref 87,Value.int 385 0,Value.int 95 0,Value.str (Str.ofString "/claim/cut.py") 386] }
noncomputable def o01_89 (P:Params):Obj :=
 {cls:=Value.type "function",
  data :=
   Data.func
    {name:=Str.ofString "in_table_b1",qualname:=Str.ofString "in_table_b1",params:=fP 14,
     body:=FuncBody.stmts (fB 14),scope:=fS 14,globals:=3,closure:=[],defaults:=Value.none,
     kwdefaults:=Value.none,pyModule:=Value.str (Str.ofString "cpy313.stringprep") 319,code:=Value.ref 88 } }
noncomputable def l01A (P:Params):List Obj:=[o01_72 P,o01_73 P,o01_74 P,o01_75 P,o01_76 P,o01_77 P,o01_78 P,o01_79 P,o01_80 P,o01_81 P,o01_82 P,o01_83 P,o01_84 P,o01_85 P,o01_86 P,o01_87 P,o01_88 P,o01_89 P]
noncomputable def t01A_3 (P:Params):Obj :=
 {cls:=Value.type "dict",
  data :=
   Data.dict
    #[{ hash:=PyData.keyHash P (Str.ofString "__name__"),key:=Value.str (Str.ofString "__name__") 165,val:=Value.str (Str.ofString "cpy313.stringprep") 319 },
     {hash:=PyData.keyHash P (Str.ofString "__doc__"),key:=Value.str (Str.ofString "__doc__") 166,
      val:=Value.none },
     {hash:=PyData.keyHash P (Str.ofString "__package__"),key:=Value.str (Str.ofString "__package__") 167,
      val:=Value.none },
     {hash:=PyData.keyHash P (Str.ofString "__loader__"),key:=Value.str (Str.ofString "__loader__") 168,
      val:=Value.builtin "__main__.__loader__#opaque" },
     {hash:=PyData.keyHash P (Str.ofString "__spec__"),key:=Value.str (Str.ofString "__spec__") 169,
      val:=Value.none },
     {hash:=PyData.keyHash P (Str.ofString "__annotations__"),
      key:=Value.str (Str.ofString "__annotations__") 170,val:=Value.ref 6 },
     {hash:=PyData.keyHash P (Str.ofString "__builtins__"),key:=Value.str (Str.ofString "__builtins__") 171,
      val:=Value.ref 4 },
     {hash:=PyData.keyHash P (Str.ofString "__file__"),key:=Value.str (Str.ofString "__file__") 173,
      val:=Value.str (Str.ofString "/claim/cut.py") 172 },
     {hash:=PyData.keyHash P (Str.ofString "__cached__"),key:=Value.str (Str.ofString "__cached__") 174,
      val:=Value.none },
     {hash:=PyData.keyHash P (Str.ofString "_wall"),key:=Value.str (Str.ofString "_wall") 193,
      val:=Value.ref 21 },
     {hash:=PyData.keyHash P (Str.ofString "_DIV_LIMIT"),key:=Value.str (Str.ofString "_DIV_LIMIT") 197,
      val:=Value.int 4000 196 },
     {hash:=PyData.keyHash P (Str.ofString "_div2n1n"),key:=Value.str (Str.ofString "_div2n1n") 214,
      val:=Value.ref 28 },
     {hash:=PyData.keyHash P (Str.ofString "_div3n2n"),key:=Value.str (Str.ofString "_div3n2n") 228,
      val:=Value.ref 35 },
     {hash:=PyData.keyHash P (Str.ofString "_int2digits"),key:=Value.str (Str.ofString "_int2digits") 239,
      val:=Value.ref 42 },
     {hash:=PyData.keyHash P (Str.ofString "_digits2int"),key:=Value.str (Str.ofString "_digits2int") 250,
      val:=Value.ref 49 },
     {hash:=PyData.keyHash P (Str.ofString "_divmod_pos"),key:=Value.str (Str.ofString "_divmod_pos") 265,
      val:=Value.ref 56 },
     {hash:=PyData.keyHash P (Str.ofString "int_divmod"),key:=Value.str (Str.ofString "int_divmod") 275,
      val:=Value.ref 63 },
     {hash:=PyData.keyHash P (Str.ofString "COMPILER_FLAG_NAMES"),
      key:=Value.str (Str.ofString "COMPILER_FLAG_NAMES") 308,val:=Value.ref 64 },
     {hash:=PyData.keyHash P (Str.ofString "pretty_flags"),key:=Value.str (Str.ofString "pretty_flags") 318,
      val:=Value.ref 71 },
     {hash:=PyData.keyHash P (Str.ofString "b1_set"),key:=Value.str (Str.ofString "b1_set") 380,
      val:=Value.ref 79 },
     {hash:=PyData.keyHash P (Str.ofString "in_table_b1"),key:=Value.str (Str.ofString "in_table_b1") 387,
      val:=Value.ref 89 }]
    21 }
noncomputable def t01A_12 (P:Params):Obj :=
 {cls:=Value.none,
  data :=
   Data.fields
    #[Value.int 1 0,Value.int 0 0,Value.ref 20,Value.int 6 0,Value.int 0 0,Value.ref 27,Value.int 22 0,
     Value.int 0 0,Value.ref 34,Value.int 32 0,Value.int 0 0,Value.ref 41,Value.int 48 0,Value.int 0 0,
     Value.ref 48,Value.int 57 0,Value.int 0 0,Value.ref 55,Value.int 68 0,Value.int 0 0,Value.ref 62,
     Value.int 81 0,Value.int 0 0,Value.ref 70,Value.int 95 0,Value.int 0 0,Value.ref 88] }
noncomputable def o01_129 (P:Params):Obj :=
 {cls:=Value.type "tuple",data:=Data.seq #[] }
noncomputable def o01_130 (P:Params):Obj :=
 {cls:=Value.none,data:=Data.fields #[] }
noncomputable def o01_131 (P:Params):Obj :=
 {cls:=Value.type "tuple",
  data:=Data.seq #[Value.str (Str.ofString "code") 2342,Value.str (Str.ofString "r") 2343] }
noncomputable def o01_132 (P:Params):Obj :=
 {cls:=Value.type "tuple",data:=Data.seq #[] }
noncomputable def o01_133 (P:Params):Obj :=
 {cls:=Value.none,
  data :=
   Data.func
    {name:=Str.ofString "map_table_b3",qualname:=Str.ofString "map_table_b3",params:=fP 16,
     body:=FuncBody.stmts (fB 16),scope:=fS 16,globals:=0,closure:=[],defaults:=Value.none,
     kwdefaults:=Value.none } }
noncomputable def o01_134 (P:Params):Obj :=
 {cls:=Value.type "code",
  data :=
   Data.fields
    #[Value.str (Str.ofString "map_table_b3") 2339,Value.str (Str.ofString "map_table_b3") 2340,
     Value.str (Str.ofString "/claim/cut.py") 2341,Value.int 98 0,Value.int 1 0,Value.int 0 0,Value.int 0 0,
     Value.int 3 0,Value.ref 129,Value.bool true,Value.int 181 0,Value.ref 130,Value.none,Value.ref 131,
     Value.ref 132,Value.ref 133,Value.int 2344 0,Value.int 98 0,Value.str (Str.ofString "/claim/cut.py") 2345] }
noncomputable def o01_135 (P:Params):Obj :=
 {cls:=Value.type "function",
  data :=
   Data.func
    {name:=Str.ofString "map_table_b3",qualname:=Str.ofString "map_table_b3",params:=fP 16,
     body:=FuncBody.stmts (fB 16),scope:=fS 16,globals:=3,closure:=[],defaults:=Value.none,
     kwdefaults:=Value.none,pyModule:=Value.str (Str.ofString "cpy313.stringprep") 319,
     code:=Value.ref 134 } }
noncomputable def o01_136 (P:Params):Obj :=
 {cls:=Value.type "tuple",data:=Data.seq #[] }
noncomputable def o01_137 (P:Params):Obj :=
 {cls:=Value.type "builtin_function_or_method",
  data:=Data.fields #[Value.builtin "type.__prepare__",Value.type "type"] }
noncomputable def o01_138 (P:Params):Obj :=
 {cls:=Value.type "dict",
  data :=
   Data.dict
    #[{ hash:=PyData.keyHash P (Str.ofString "__module__"),key:=Value.str (Str.ofString "__module__") 2356,val:=Value.str (Str.ofString "cpy313.tabnanny") 2347 },
     {hash:=PyData.keyHash P (Str.ofString "__qualname__"),key:=Value.str (Str.ofString "__qualname__") 2358,
      val:=Value.str (Str.ofString "Whitespace") 2357 },
     {hash:=PyData.keyHash P (Str.ofString "__firstlineno__"),
      key:=Value.str (Str.ofString "__firstlineno__") 2360,val:=Value.int 104 2359 },
     {hash:=PyData.keyHash P (Str.ofString "S"),key:=Value.str (Str.ofString "S") 2364,
      val:=Value.str (Str.ofString " ") 2362 },
     {hash:=PyData.keyHash P (Str.ofString "T"),key:=Value.str (Str.ofString "T") 2365,
      val:=Value.str (Str.ofString "\t") 2363 },
     {hash:=PyData.keyHash P (Str.ofString "__init__"),key:=Value.str (Str.ofString "__init__") 2380,
      val:=Value.ref 152 },
     {hash:=PyData.keyHash P (Str.ofString "longest_run_of_spaces"),
      key:=Value.str (Str.ofString "longest_run_of_spaces") 2389,val:=Value.ref 159 },
     {hash:=PyData.keyHash P (Str.ofString "indent_level"),key:=Value.str (Str.ofString "indent_level") 2401,
      val:=Value.ref 166 },
     {hash:=PyData.keyHash P (Str.ofString "equal"),key:=Value.str (Str.ofString "equal") 2409,
      val:=Value.ref 173 },
     {hash:=PyData.keyHash P (Str.ofString "not_equal_witness"),
      key:=Value.str (Str.ofString "not_equal_witness") 2420,val:=Value.ref 180 },
     {hash:=PyData.keyHash P (Str.ofString "less"),key:=Value.str (Str.ofString "less") 2430,
      val:=Value.ref 187 },
     {hash:=PyData.keyHash P (Str.ofString "not_less_witness"),
      key:=Value.str (Str.ofString "not_less_witness") 2438,val:=Value.ref 194 },
     {hash:=PyData.keyHash P (Str.ofString "__static_attributes__"),
      key:=Value.str (Str.ofString "__static_attributes__") 2444,val:=Value.ref 195 }]
    13 }
noncomputable def o01_139 (P:Params):Obj :=
 {cls:=Value.type "tuple",data:=Data.seq #[] }
noncomputable def o01_140 (P:Params):Obj :=
 {cls:=Value.none,
  data :=
   Data.fields
    #[Value.int 107 0,Value.int 4 0,Value.ref 151,Value.int 130 0,Value.int 4 0,Value.ref 158,Value.int 134 0,
     Value.int 4 0,Value.ref 165,Value.int 141 0,Value.int 4 0,Value.ref 172,Value.int 144 0,Value.int 4 0,
     Value.ref 179,Value.int 152 0,Value.int 4 0,Value.ref 186,Value.int 163 0,Value.int 4 0,Value.ref 193] }
noncomputable def o01_141 (P:Params):Obj :=
 {cls:=Value.type "code",
  data :=
   Data.fields
    #[Value.str (Str.ofString "Whitespace") 2351,Value.str (Str.ofString "Whitespace") 2352,
     Value.str (Str.ofString "/claim/cut.py") 2353,Value.int 104 0,Value.int 0 0,Value.int 0 0,Value.int 0 0,
     Value.int 0 0,Value.ref 139,Value.bool false,Value.int 181 0,Value.ref 140,Value.none,Value.none,
     Value.none,Value.none,Value.int 2354 0,Value.int 104 0,Value.str (Str.ofString "/claim/cut.py") 2355] }
noncomputable def o01_142 (P:Params):Obj :=
 {cls:=Value.type "frame",
  slots :=
   #[some (Value.ref 141),some (Value.ref 3),some (Value.ref 138),none,
    some (Value.str (Str.ofString "cpy313.tabnanny") 2347),none,some (Value.ref 0)] }
noncomputable def o01_143 (P:Params):Obj :=
 {cls:=Value.type "str_ascii_iterator",data:=Data.fields #[Value.none,Value.int 2 0] }
noncomputable def o01_144 (P:Params):Obj :=
 {cls:=Value.type "tuple",data:=Data.seq #[] }
noncomputable def o01_145 (P:Params):Obj :=
 {cls:=Value.type "StopIteration",
  data:=Data.fields #[Value.ref 144,Value.none,Value.none,Value.none,Value.bool false,Value.none] }
noncomputable def o01_146 (P:Params):Obj :=
 {cls:=Value.type "tuple",data:=Data.seq #[] }
noncomputable def o01_147 (P:Params):Obj :=
 {cls:=Value.none,data:=Data.fields #[] }
noncomputable def o01_148 (P:Params):Obj :=
 {cls:=Value.type "tuple",
  data :=
   Data.seq
    #[Value.str (Str.ofString "self") 2369,Value.str (Str.ofString "ws") 2370,Value.str (Str.ofString "S") 2371,
     Value.str (Str.ofString "T") 2372,Value.str (Str.ofString "count") 2373,Value.str (Str.ofString "b") 2374,
     Value.str (Str.ofString "n") 2375,Value.str (Str.ofString "nt") 2376,Value.str (Str.ofString "ch") 2377] }
noncomputable def o01_149 (P:Params):Obj :=
 {cls:=Value.type "tuple",data:=Data.seq #[] }
noncomputable def o01_150 (P:Params):Obj :=
 {cls:=Value.none,
  data :=
   Data.func
    {name:=Str.ofString "__init__",qualname:=Str.ofString "Whitespace.__init__",params:=mP 18 1,
     body:=FuncBody.stmts (mB 18 1),scope:=mS 18 1,globals:=0,closure:=[],defaults:=Value.none,
     kwdefaults:=Value.none } }
noncomputable def o01_151 (P:Params):Obj :=
 {cls:=Value.type "code",
  data :=
   Data.fields
    #[Value.str (Str.ofString "__init__") 2366,Value.str (Str.ofString "Whitespace.__init__") 2367,
     Value.str (Str.ofString "/claim/cut.py") 2368,Value.int 107 0,Value.int 2 0,Value.int 0 0,Value.int 0 0,
     Value.int 3 0,Value.ref 146,Value.bool true,Value.int 181 0,Value.ref 147,Value.none,Value.ref 148,
     Value.ref 149,Value.ref 150,Value.int 2378 0,Value.int 107 0,
     Value.str (Str.ofString "/claim/cut.py") 2379] }
noncomputable def o01_152 (P:Params):Obj :=
 {cls:=Value.type "function",
  data :=
   Data.func
    {name:=Str.ofString "__init__",qualname:=Str.ofString "Whitespace.__init__",params:=mP 18 1,
     body:=FuncBody.stmts (mB 18 1),scope:=mS 18 1,globals:=3,closure:=[],defaults:=Value.none,
     kwdefaults:=Value.none,pyModule:=Value.str (Str.ofString "cpy313.tabnanny") 2347,code:=Value.ref 151 } }
noncomputable def o01_153 (P:Params):Obj :=
 {cls:=Value.type "tuple",data:=Data.seq #[] }
noncomputable def o01_154 (P:Params):Obj :=
 {cls:=Value.none,data:=Data.fields #[] }
noncomputable def o01_155 (P:Params):Obj :=
 {cls:=Value.type "tuple",
  data :=
   Data.seq
    #[Value.str (Str.ofString "self") 2384,Value.str (Str.ofString "count") 2385,
     Value.str (Str.ofString "trailing") 2386] }
noncomputable def o01_156 (P:Params):Obj :=
 {cls:=Value.type "tuple",data:=Data.seq #[] }
noncomputable def o01_157 (P:Params):Obj :=
 {cls:=Value.none,
  data :=
   Data.func
    {name:=Str.ofString "longest_run_of_spaces",qualname:=Str.ofString "Whitespace.longest_run_of_spaces",
     params:=mP 18 2,body:=FuncBody.stmts (mB 18 2),scope:=mS 18 2,globals:=0,closure:=[],
     defaults:=Value.none,kwdefaults:=Value.none } }
noncomputable def o01_158 (P:Params):Obj :=
 {cls:=Value.type "code",
  data :=
   Data.fields
    #[Value.str (Str.ofString "longest_run_of_spaces") 2381,
     Value.str (Str.ofString "Whitespace.longest_run_of_spaces") 2382,Value.str (Str.ofString "/claim/cut.py") 2383,
     Value.int 130 0,Value.int 1 0,Value.int 0 0,Value.int 0 0,Value.int 3 0,Value.ref 153,Value.bool true,
     Value.int 181 0,Value.ref 154,Value.none,Value.ref 155,Value.ref 156,Value.ref 157,Value.int 2387 0,
     Value.int 130 0,Value.str (Str.ofString "/claim/cut.py") 2388] }
noncomputable def o01_159 (P:Params):Obj :=
 {cls:=Value.type "function",
  data :=
   Data.func
    {name:=Str.ofString "longest_run_of_spaces",qualname:=Str.ofString "Whitespace.longest_run_of_spaces",
     params:=mP 18 2,body:=FuncBody.stmts (mB 18 2),scope:=mS 18 2,globals:=3,closure:=[],
     defaults:=Value.none,kwdefaults:=Value.none,pyModule:=Value.str (Str.ofString "cpy313.tabnanny") 2347,
     code:=Value.ref 158 } }
noncomputable def o01_160 (P:Params):Obj :=
 {cls:=Value.type "tuple",data:=Data.seq #[] }
noncomputable def o01_161 (P:Params):Obj :=
 {cls:=Value.none,data:=Data.fields #[] }
noncomputable def o01_162 (P:Params):Obj :=
 {cls:=Value.type "tuple",
  data :=
   Data.seq
    #[Value.str (Str.ofString "self") 2393,Value.str (Str.ofString "tabsize") 2394,
     Value.str (Str.ofString "count") 2395,Value.str (Str.ofString "trailing") 2396,
     Value.str (Str.ofString "il") 2397,Value.str (Str.ofString "i") 2398] }
noncomputable def o01_163 (P:Params):Obj :=
 {cls:=Value.type "tuple",data:=Data.seq #[] }
noncomputable def o01_164 (P:Params):Obj :=
 {cls:=Value.none,
  data :=
   Data.func
    {name:=Str.ofString "indent_level",qualname:=Str.ofString "Whitespace.indent_level",params:=mP 18 3,
     body:=FuncBody.stmts (mB 18 3),scope:=mS 18 3,globals:=0,closure:=[],defaults:=Value.none,
     kwdefaults:=Value.none } }
noncomputable def o01_165 (P:Params):Obj :=
 {cls:=Value.type "code",
  data :=
   Data.fields
    #[Value.str (Str.ofString "indent_level") 2390,Value.str (Str.ofString "Whitespace.indent_level") 2391,
     Value.str (Str.ofString "/claim/cut.py") 2392,Value.int 134 0,Value.int 2 0,Value.int 0 0,Value.int 0 0,
     Value.int 3 0,Value.ref 160,Value.bool true,Value.int 181 0,Value.ref 161,Value.none,Value.ref 162,
     Value.ref 163,Value.ref 164,Value.int 2399 0,Value.int 134 0,
     Value.str (Str.ofString "/claim/cut.py") 2400] }
noncomputable def o01_166 (P:Params):Obj :=
 {cls:=Value.type "function",
  data :=
   Data.func
    {name:=Str.ofString "indent_level",qualname:=Str.ofString "Whitespace.indent_level",params:=mP 18 3,
     body:=FuncBody.stmts (mB 18 3),scope:=mS 18 3,globals:=3,closure:=[],defaults:=Value.none,
     kwdefaults:=Value.none,pyModule:=Value.str (Str.ofString "cpy313.tabnanny") 2347,code:=Value.ref 165 } }
noncomputable def o01_167 (P:Params):Obj :=
 {cls:=Value.type "tuple",data:=Data.seq #[] }
noncomputable def o01_168 (P:Params):Obj :=
 {cls:=Value.none,data:=Data.fields #[] }
noncomputable def o01_169 (P:Params):Obj :=
 {cls:=Value.type "tuple",
  data:=Data.seq #[Value.str (Str.ofString "self") 2405,Value.str (Str.ofString "other") 2406] }
noncomputable def o01_170 (P:Params):Obj :=
 {cls:=Value.type "tuple",data:=Data.seq #[] }
noncomputable def o01_171 (P:Params):Obj :=
 {cls:=Value.none,
  data :=
   Data.func
    {name:=Str.ofString "equal",qualname:=Str.ofString "Whitespace.equal",params:=mP 18 4,
     body:=FuncBody.stmts (mB 18 4),scope:=mS 18 4,globals:=0,closure:=[],defaults:=Value.none,
     kwdefaults:=Value.none } }
noncomputable def o01_172 (P:Params):Obj :=
 {cls:=Value.type "code",
  data :=
   Data.fields
    #[Value.str (Str.ofString "equal") 2402,Value.str (Str.ofString "Whitespace.equal") 2403,
     Value.str (Str.ofString "/claim/cut.py") 2404,Value.int 141 0,Value.int 2 0,Value.int 0 0,Value.int 0 0,
     Value.int 3 0,Value.ref 167,Value.bool true,Value.int 181 0,Value.ref 168,Value.none,Value.ref 169,
     Value.ref 170,Value.ref 171,Value.int 2407 0,Value.int 141 0,
     Value.str (Str.ofString "/claim/cut.py") 2408] }
noncomputable def o01_173 (P:Params):Obj :=
 {cls:=Value.type "function",
  data :=
   Data.func
    {name:=Str.ofString "equal",qualname:=Str.ofString "Whitespace.equal",params:=mP 18 4,
     body:=FuncBody.stmts (mB 18 4),scope:=mS 18 4,globals:=3,closure:=[],defaults:=Value.none,
     kwdefaults:=Value.none,pyModule:=Value.str (Str.ofString "cpy313.tabnanny") 2347,code:=Value.ref 172 } }
noncomputable def o01_174 (P:Params):Obj :=
 {cls:=Value.type "tuple",data:=Data.seq #[] }
noncomputable def o01_175 (P:Params):Obj :=
 {cls:=Value.none,data:=Data.fields #[] }
noncomputable def o01_176 (P:Params):Obj :=
 {cls:=Value.type "tuple",
  data :=
   Data.seq
    #[Value.str (Str.ofString "self") 2413,Value.str (Str.ofString "other") 2414,Value.str (Str.ofString "n") 2415,
     Value.str (Str.ofString "a") 2416,Value.str (Str.ofString "ts") 2417] }
noncomputable def o01_177 (P:Params):Obj :=
 {cls:=Value.type "tuple",data:=Data.seq #[] }
noncomputable def o01_178 (P:Params):Obj :=
 {cls:=Value.none,
  data :=
   Data.func
    {name:=Str.ofString "not_equal_witness",qualname:=Str.ofString "Whitespace.not_equal_witness",
     params:=mP 18 5,body:=FuncBody.stmts (mB 18 5),scope:=mS 18 5,globals:=0,closure:=[],
     defaults:=Value.none,kwdefaults:=Value.none } }
noncomputable def o01_179 (P:Params):Obj :=
 {cls:=Value.type "code",
  data :=
   Data.fields
    #[Value.str (Str.ofString "not_equal_witness") 2410,Value.str (Str.ofString "Whitespace.not_equal_witness") 2411,
     Value.str (Str.ofString "/claim/cut.py") 2412,Value.int 144 0,Value.int 2 0,Value.int 0 0,Value.int 0 0,
     Value.int 3 0,Value.ref 174,Value.bool true,Value.int 181 0,Value.ref 175,Value.none,Value.ref 176,
     Value.ref 177,Value.ref 178,Value.int 2418 0,Value.int 144 0,
     Value.str (Str.ofString "/claim/cut.py") 2419] }
noncomputable def o01_180 (P:Params):Obj :=
 {cls:=Value.type "function",
  data :=
   Data.func
    {name:=Str.ofString "not_equal_witness",qualname:=Str.ofString "Whitespace.not_equal_witness",
     params:=mP 18 5,body:=FuncBody.stmts (mB 18 5),scope:=mS 18 5,globals:=3,closure:=[],
     defaults:=Value.none,kwdefaults:=Value.none,pyModule:=Value.str (Str.ofString "cpy313.tabnanny") 2347,
     code:=Value.ref 179 } }
noncomputable def o01_181 (P:Params):Obj :=
 {cls:=Value.type "tuple",data:=Data.seq #[] }
noncomputable def o01_182 (P:Params):Obj :=
 {cls:=Value.none,data:=Data.fields #[] }
noncomputable def o01_183 (P:Params):Obj :=
 {cls:=Value.type "tuple",
  data :=
   Data.seq
    #[Value.str (Str.ofString "self") 2424,Value.str (Str.ofString "other") 2425,Value.str (Str.ofString "n") 2426,
     Value.str (Str.ofString "ts") 2427] }
noncomputable def o01_184 (P:Params):Obj :=
 {cls:=Value.type "tuple",data:=Data.seq #[] }
noncomputable def o01_185 (P:Params):Obj :=
 {cls:=Value.none,
  data :=
   Data.func
    {name:=Str.ofString "less",qualname:=Str.ofString "Whitespace.less",params:=mP 18 6,
     body:=FuncBody.stmts (mB 18 6),scope:=mS 18 6,globals:=0,closure:=[],defaults:=Value.none,
     kwdefaults:=Value.none } }
noncomputable def o01_186 (P:Params):Obj :=
 {cls:=Value.type "code",
  data :=
   Data.fields
    #[Value.str (Str.ofString "less") 2421,Value.str (Str.ofString "Whitespace.less") 2422,
     Value.str (Str.ofString "/claim/cut.py") 2423,Value.int 152 0,Value.int 2 0,Value.int 0 0,Value.int 0 0,
     Value.int 3 0,Value.ref 181,Value.bool true,Value.int 181 0,Value.ref 182,Value.none,Value.ref 183,
     Value.ref 184,Value.ref 185,Value.int 2428 0,Value.int 152 0,
     Value.str (Str.ofString "/claim/cut.py") 2429] }
noncomputable def o01_187 (P:Params):Obj :=
 {cls:=Value.type "function",
  data :=
   Data.func
    {name:=Str.ofString "less",qualname:=Str.ofString "Whitespace.less",params:=mP 18 6,
     body:=FuncBody.stmts (mB 18 6),scope:=mS 18 6,globals:=3,closure:=[],defaults:=Value.none,
     kwdefaults:=Value.none,pyModule:=Value.str (Str.ofString "cpy313.tabnanny") 2347,code:=Value.ref 186 } }
noncomputable def o01_188 (P:Params):Obj :=
 {cls:=Value.type "tuple",data:=Data.seq #[] }
noncomputable def o01_189 (P:Params):Obj :=
 {cls:=Value.none,data:=Data.fields #[] }
noncomputable def o01_190 (P:Params):Obj :=
 {cls:=Value.type "tuple",
  data:=Data.seq #[Value.str (Str.ofString "self") 2434,Value.str (Str.ofString "other") 2435] }
noncomputable def o01_191 (P:Params):Obj :=
 {cls:=Value.type "tuple",data:=Data.seq #[] }
noncomputable def o01_192 (P:Params):Obj :=
 {cls:=Value.none,
  data :=
   Data.func
    {name:=Str.ofString "not_less_witness",qualname:=Str.ofString "Whitespace.not_less_witness",
     params:=mP 18 7,body:=FuncBody.stmts (mB 18 7),scope:=mS 18 7,globals:=0,closure:=[],
     defaults:=Value.none,kwdefaults:=Value.none } }
noncomputable def o01_193 (P:Params):Obj :=
 {cls:=Value.type "code",
  data :=
   Data.fields
    #[Value.str (Str.ofString "not_less_witness") 2431,Value.str (Str.ofString "Whitespace.not_less_witness") 2432,
     Value.str (Str.ofString "/claim/cut.py") 2433,Value.int 163 0,Value.int 2 0,Value.int 0 0,Value.int 0 0,
     Value.int 3 0,Value.ref 188,Value.bool true,Value.int 181 0,Value.ref 189,Value.none,Value.ref 190,
     Value.ref 191,Value.ref 192,Value.int 2436 0,Value.int 163 0,
     Value.str (Str.ofString "/claim/cut.py") 2437] }
noncomputable def o01_194 (P:Params):Obj :=
 {cls:=Value.type "function",
  data :=
   Data.func
    {name:=Str.ofString "not_less_witness",qualname:=Str.ofString "Whitespace.not_less_witness",
     params:=mP 18 7,body:=FuncBody.stmts (mB 18 7),scope:=mS 18 7,globals:=3,closure:=[],
     defaults:=Value.none,kwdefaults:=Value.none,pyModule:=Value.str (Str.ofString "cpy313.tabnanny") 2347,
     code:=Value.ref 193 } }
noncomputable def o01_195 (P:Params):Obj :=
 {cls:=Value.type "tuple",
  data :=
   Data.seq
    #[Value.str (Str.ofString "is_simple") 2439,Value.str (Str.ofString "n") 2440,
     Value.str (Str.ofString "norm") 2441,Value.str (Str.ofString "nt") 2442,Value.str (Str.ofString "raw") 2443] }
noncomputable def o01_196 (P:Params):Obj :=
 {cls:=Value.type "dict",
  data :=
   Data.dict
    #[{ hash:=PyData.keyHash P (Str.ofString "__module__"),key:=Value.str (Str.ofString "__module__") 2356,val:=Value.str (Str.ofString "cpy313.tabnanny") 2347 },
     {hash:=PyData.keyHash P (Str.ofString "__firstlineno__"),
      key:=Value.str (Str.ofString "__firstlineno__") 2360,val:=Value.int 104 2359 },
     {hash:=PyData.keyHash P (Str.ofString "S"),key:=Value.str (Str.ofString "S") 2364,
      val:=Value.str (Str.ofString " ") 2362 },
     {hash:=PyData.keyHash P (Str.ofString "T"),key:=Value.str (Str.ofString "T") 2365,
      val:=Value.str (Str.ofString "\t") 2363 },
     {hash:=PyData.keyHash P (Str.ofString "__init__"),key:=Value.str (Str.ofString "__init__") 2380,
      val:=Value.ref 152 },
     {hash:=PyData.keyHash P (Str.ofString "longest_run_of_spaces"),
      key:=Value.str (Str.ofString "longest_run_of_spaces") 2389,val:=Value.ref 159 },
     {hash:=PyData.keyHash P (Str.ofString "indent_level"),key:=Value.str (Str.ofString "indent_level") 2401,
      val:=Value.ref 166 },
     {hash:=PyData.keyHash P (Str.ofString "equal"),key:=Value.str (Str.ofString "equal") 2409,
      val:=Value.ref 173 },
     {hash:=PyData.keyHash P (Str.ofString "not_equal_witness"),
      key:=Value.str (Str.ofString "not_equal_witness") 2420,val:=Value.ref 180 },
     {hash:=PyData.keyHash P (Str.ofString "less"),key:=Value.str (Str.ofString "less") 2430,
      val:=Value.ref 187 },
     {hash:=PyData.keyHash P (Str.ofString "not_less_witness"),
      key:=Value.str (Str.ofString "not_less_witness") 2438,val:=Value.ref 194 },
     {hash:=PyData.keyHash P (Str.ofString "__static_attributes__"),
      key:=Value.str (Str.ofString "__static_attributes__") 2444,val:=Value.ref 195 },
     {hash:=PyData.keyHash P (Str.ofString "__dict__"),key:=Value.str (Str.ofString "__dict__") 2446,
      val:=Value.ref 198 },
     {hash:=PyData.keyHash P (Str.ofString "__weakref__"),key:=Value.str (Str.ofString "__weakref__") 2448,
      val:=Value.ref 199 },
     {hash:=PyData.keyHash P (Str.ofString "__doc__"),key:=Value.str (Str.ofString "__doc__") 2449,
      val:=Value.none }]
    4 }
noncomputable def o01_197 (P:Params):Obj :=
 {cls:=Value.type "type",
  data :=
   Data.cls
    {name:=Str.ofString "Whitespace",bases:=[Value.type "object"],mro:=[Value.ref 197,Value.type "object"],
     ns:=196,qualname:=Str.ofString "Whitespace" },
  slots :=
   #[none,none,some (Value.str (Str.ofString "Whitespace") 2349),some (Value.str (Str.ofString "Whitespace") 2357),
    some (Value.builtin "object.__new__"),some (Value.bool true)] }
noncomputable def o01_198 (P:Params):Obj :=
 {cls:=Value.type "getset_descriptor",
  data :=
   Data.fields
    #[Value.str (Str.ofString "__dict__") 2445,Value.ref 197,Value.builtin "function.__dict__",
     Value.builtin "function.__dict__#set"] }
noncomputable def o01_199 (P:Params):Obj :=
 {cls:=Value.type "getset_descriptor",
  data :=
   Data.fields
    #[Value.str (Str.ofString "__weakref__") 2447,Value.ref 197,Value.builtin "ExceptionGroup.__weakref__",
     Value.none] }
noncomputable def o01_200 (P:Params):Obj :=
 {cls:=Value.type "super",data:=Data.fields #[Value.ref 197,Value.ref 197,Value.ref 197] }
noncomputable def o01_201 (P:Params):Obj :=
 {cls:=Value.type "builtin_function_or_method",
  data:=Data.fields #[Value.builtin "object.__init_subclass__",Value.ref 197] }
noncomputable def o01_202 (P:Params):Obj :=
 {cls:=Value.type "tuple",data:=Data.seq #[] }
noncomputable def o01_203 (P:Params):Obj :=
 {cls:=Value.none,data:=Data.fields #[] }
noncomputable def o01_204 (P:Params):Obj :=
 {cls:=Value.type "tuple",
  data :=
   Data.seq
    #[Value.str (Str.ofString "letter") 2457,Value.str (Str.ofString "hand") 2458,
     Value.str (Str.ofString "starts") 2459] }
noncomputable def o01_205 (P:Params):Obj :=
 {cls:=Value.type "tuple",data:=Data.seq #[] }
noncomputable def o01_206 (P:Params):Obj :=
 {cls:=Value.none,
  data :=
   Data.func
    {name:=Str.ofString "_law_spelled",qualname:=Str.ofString "_law_spelled",params:=fP 20,
     body:=FuncBody.stmts (fB 20),scope:=fS 20,globals:=0,closure:=[],defaults:=Value.none,
     kwdefaults:=Value.none } }
noncomputable def o01_207 (P:Params):Obj :=
 {cls:=Value.type "code",
  data :=
   Data.fields
    #[Value.str (Str.ofString "_law_spelled") 2454,Value.str (Str.ofString "_law_spelled") 2455,
     Value.str (Str.ofString "/claim/cut.py") 2456,Value.int 166 0,Value.int 2 0,Value.int 0 0,Value.int 0 0,
     Value.int 3 0,Value.ref 202,Value.bool true,Value.int 181 0,Value.ref 203,Value.none,Value.ref 204,
     Value.ref 205,Value.ref 206,Value.int 2460 0,Value.int 166 0,
     Value.str (Str.ofString "/claim/cut.py") 2461] }
noncomputable def o01_208 (P:Params):Obj :=
 {cls:=Value.type "function",
  data :=
   Data.func
    {name:=Str.ofString "_law_spelled",qualname:=Str.ofString "_law_spelled",params:=fP 20,
     body:=FuncBody.stmts (fB 20),scope:=fS 20,globals:=3,closure:=[],defaults:=Value.none,
     kwdefaults:=Value.none,pyModule:=Value.str (Str.ofString "law_us0027_01") 2452,code:=Value.ref 207 } }
noncomputable def o01_209 (P:Params):Obj :=
 {cls:=Value.type "tuple",data:=Data.seq #[] }
noncomputable def o01_210 (P:Params):Obj :=
 {cls:=Value.none,data:=Data.fields #[] }
noncomputable def o01_211 (P:Params):Obj :=
 {cls:=Value.none,
  data :=
   Data.func
    {name:=Str.ofString "_law_signs",qualname:=Str.ofString "_law_signs",params:=fP 21,
     body:=FuncBody.stmts (fB 21),scope:=fS 21,globals:=0,closure:=[],defaults:=Value.none,
     kwdefaults:=Value.none } }
noncomputable def o01_212 (P:Params):Obj :=
 {cls:=Value.type "code",
  data :=
   Data.fields
    #[Value.str (Str.ofString "_law_signs") 2463,Value.str (Str.ofString "_law_signs") 2464,
     Value.str (Str.ofString "/claim/cut.py") 2465,Value.int 173 0,Value.int 1 0,Value.int 0 0,Value.int 0 0,
     Value.int 3 0,Value.ref 209,Value.bool true,Value.int 181 0,Value.ref 210,Value.none,Value.none,
     Value.none,Value.ref 211,Value.int 2466 0,Value.int 173 0,Value.str (Str.ofString "/claim/cut.py") 2467] }
noncomputable def o01_213 (P:Params):Obj :=
 {cls:=Value.type "function",
  data :=
   Data.func
    {name:=Str.ofString "_law_signs",qualname:=Str.ofString "_law_signs",params:=fP 21,
     body:=FuncBody.stmts (fB 21),scope:=fS 21,globals:=3,closure:=[],defaults:=Value.none,
     kwdefaults:=Value.none,pyModule:=Value.str (Str.ofString "law_us0027_01") 2452,code:=Value.ref 212 } }
noncomputable def o01_214 (P:Params):Obj :=
 {cls:=Value.type "tuple",data:=Data.seq #[] }
noncomputable def o01_215 (P:Params):Obj :=
 {cls:=Value.none,data:=Data.fields #[] }
noncomputable def o01_216 (P:Params):Obj :=
 {cls:=Value.none,
  data :=
   Data.func
    {name:=Str.ofString "_law_words",qualname:=Str.ofString "_law_words",params:=fP 22,
     body:=FuncBody.stmts (fB 22),scope:=fS 22,globals:=0,closure:=[],defaults:=Value.none,
     kwdefaults:=Value.none } }
noncomputable def o01_217 (P:Params):Obj :=
 {cls:=Value.type "code",
  data :=
   Data.fields
    #[Value.str (Str.ofString "_law_words") 2469,Value.str (Str.ofString "_law_words") 2470,
     Value.str (Str.ofString "/claim/cut.py") 2471,Value.int 190 0,Value.int 2 0,Value.int 0 0,Value.int 0 0,
     Value.int 3 0,Value.ref 214,Value.bool true,Value.int 181 0,Value.ref 215,Value.none,Value.none,
     Value.none,Value.ref 216,Value.int 2472 0,Value.int 190 0,Value.str (Str.ofString "/claim/cut.py") 2473] }
noncomputable def o01_218 (P:Params):Obj :=
 {cls:=Value.type "function",
  data :=
   Data.func
    {name:=Str.ofString "_law_words",qualname:=Str.ofString "_law_words",params:=fP 22,
     body:=FuncBody.stmts (fB 22),scope:=fS 22,globals:=3,closure:=[],defaults:=Value.none,
     kwdefaults:=Value.none,pyModule:=Value.str (Str.ofString "law_us0027_01") 2452,code:=Value.ref 217 } }
noncomputable def o01_219 (P:Params):Obj :=
 {cls:=Value.type "tuple",data:=Data.seq #[] }
noncomputable def o01_220 (P:Params):Obj :=
 {cls:=Value.none,data:=Data.fields #[] }
noncomputable def o01_221 (P:Params):Obj :=
 {cls:=Value.type "tuple",
  data :=
   Data.seq
    #[Value.str (Str.ofString "word") 2478,Value.str (Str.ofString "base") 2479,
     Value.str (Str.ofString "names") 2480,Value.str (Str.ofString "flags") 2481,
     Value.str (Str.ofString "place") 2482,Value.str (Str.ofString "flag") 2483] }
noncomputable def o01_222 (P:Params):Obj :=
 {cls:=Value.type "tuple",data:=Data.seq #[] }
noncomputable def o01_223 (P:Params):Obj :=
 {cls:=Value.none,
  data :=
   Data.func
    {name:=Str.ofString "_law_shown",qualname:=Str.ofString "_law_shown",params:=fP 23,
     body:=FuncBody.stmts (fB 23),scope:=fS 23,globals:=0,closure:=[],defaults:=Value.none,
     kwdefaults:=Value.none } }
noncomputable def o01_224 (P:Params):Obj :=
 {cls:=Value.type "code",
  data :=
   Data.fields
    #[Value.str (Str.ofString "_law_shown") 2475,Value.str (Str.ofString "_law_shown") 2476,
     Value.str (Str.ofString "/claim/cut.py") 2477,Value.int 194 0,Value.int 2 0,Value.int 0 0,Value.int 0 0,
     Value.int 3 0,Value.ref 219,Value.bool true,Value.int 181 0,Value.ref 220,Value.none,Value.ref 221,
     Value.ref 222,Value.ref 223,Value.int 2484 0,Value.int 194 0,
     Value.str (Str.ofString "/claim/cut.py") 2485] }
noncomputable def o01_225 (P:Params):Obj :=
 {cls:=Value.type "function",
  data :=
   Data.func
    {name:=Str.ofString "_law_shown",qualname:=Str.ofString "_law_shown",params:=fP 23,
     body:=FuncBody.stmts (fB 23),scope:=fS 23,globals:=3,closure:=[],defaults:=Value.none,
     kwdefaults:=Value.none,pyModule:=Value.str (Str.ofString "law_us0027_01") 2452,code:=Value.ref 224 } }
noncomputable def o01_226 (P:Params):Obj :=
 {cls:=Value.type "tuple",data:=Data.seq #[] }
noncomputable def o01_227 (P:Params):Obj :=
 {cls:=Value.none,data:=Data.fields #[] }
noncomputable def o01_228 (P:Params):Obj :=
 {cls:=Value.type "tuple",
  data :=
   Data.seq
    #[Value.str (Str.ofString "followed") 2490,Value.str (Str.ofString "follower") 2491,
     Value.str (Str.ofString "met") 2492,Value.str (Str.ofString "lengths") 2493,
     Value.str (Str.ofString "start") 2494,Value.str (Str.ofString "behind") 2495,
     Value.str (Str.ofString "ring") 2496] }
noncomputable def o01_229 (P:Params):Obj :=
 {cls:=Value.type "tuple",data:=Data.seq #[] }
noncomputable def o01_230 (P:Params):Obj :=
 {cls:=Value.none,
  data :=
   Data.func
    {name:=Str.ofString "_law_rings",qualname:=Str.ofString "_law_rings",params:=fP 24,
     body:=FuncBody.stmts (fB 24),scope:=fS 24,globals:=0,closure:=[],defaults:=Value.none,
     kwdefaults:=Value.none } }
noncomputable def o01_231 (P:Params):Obj :=
 {cls:=Value.type "code",
  data :=
   Data.fields
    #[Value.str (Str.ofString "_law_rings") 2487,Value.str (Str.ofString "_law_rings") 2488,
     Value.str (Str.ofString "/claim/cut.py") 2489,Value.int 202 0,Value.int 1 0,Value.int 0 0,Value.int 0 0,
     Value.int 3 0,Value.ref 226,Value.bool true,Value.int 181 0,Value.ref 227,Value.none,Value.ref 228,
     Value.ref 229,Value.ref 230,Value.int 2497 0,Value.int 202 0,
     Value.str (Str.ofString "/claim/cut.py") 2498] }
noncomputable def o01_232 (P:Params):Obj :=
 {cls:=Value.type "function",
  data :=
   Data.func
    {name:=Str.ofString "_law_rings",qualname:=Str.ofString "_law_rings",params:=fP 24,
     body:=FuncBody.stmts (fB 24),scope:=fS 24,globals:=3,closure:=[],defaults:=Value.none,
     kwdefaults:=Value.none,pyModule:=Value.str (Str.ofString "law_us0027_01") 2452,code:=Value.ref 231 } }
noncomputable def o01_233 (P:Params):Obj :=
 {cls:=Value.type "tuple",data:=Data.seq #[] }
noncomputable def o01_234 (P:Params):Obj :=
 {cls:=Value.none,data:=Data.fields #[] }
noncomputable def o01_235 (P:Params):Obj :=
 {cls:=Value.type "tuple",
  data :=
   Data.seq
    #[Value.str (Str.ofString "power") 2503,Value.str (Str.ofString "first") 2504,
     Value.str (Str.ofString "last") 2505,Value.str (Str.ofString "product") 2506,
     Value.str (Str.ofString "step") 2507] }
noncomputable def o01_236 (P:Params):Obj :=
 {cls:=Value.type "tuple",data:=Data.seq #[] }
noncomputable def o01_237 (P:Params):Obj :=
 {cls:=Value.none,
  data :=
   Data.func
    {name:=Str.ofString "_law_product",qualname:=Str.ofString "_law_product",params:=fP 25,
     body:=FuncBody.stmts (fB 25),scope:=fS 25,globals:=0,closure:=[],defaults:=Value.none,
     kwdefaults:=Value.none } }
noncomputable def o01_238 (P:Params):Obj :=
 {cls:=Value.type "code",
  data :=
   Data.fields
    #[Value.str (Str.ofString "_law_product") 2500,Value.str (Str.ofString "_law_product") 2501,
     Value.str (Str.ofString "/claim/cut.py") 2502,Value.int 214 0,Value.int 3 0,Value.int 0 0,Value.int 0 0,
     Value.int 3 0,Value.ref 233,Value.bool true,Value.int 181 0,Value.ref 234,Value.none,Value.ref 235,
     Value.ref 236,Value.ref 237,Value.int 2508 0,Value.int 214 0,
     Value.str (Str.ofString "/claim/cut.py") 2509] }
noncomputable def o01_239 (P:Params):Obj :=
 {cls:=Value.type "function",
  data :=
   Data.func
    {name:=Str.ofString "_law_product",qualname:=Str.ofString "_law_product",params:=fP 25,
     body:=FuncBody.stmts (fB 25),scope:=fS 25,globals:=3,closure:=[],defaults:=Value.none,
     kwdefaults:=Value.none,pyModule:=Value.str (Str.ofString "law_us0027_01") 2452,code:=Value.ref 238 } }
noncomputable def o01_240 (P:Params):Obj :=
 {cls:=Value.type "tuple",data:=Data.seq #[] }
noncomputable def o01_241 (P:Params):Obj :=
 {cls:=Value.none,data:=Data.fields #[] }
noncomputable def o01_242 (P:Params):Obj :=
 {cls:=Value.none,
  data :=
   Data.func
    {name:=Str.ofString "law",qualname:=Str.ofString "law",params:=fP 26,body:=FuncBody.stmts (fB 26),
     scope:=fS 26,globals:=0,closure:=[],defaults:=Value.none,kwdefaults:=Value.none } }
noncomputable def o01_243 (P:Params):Obj :=
 {cls:=Value.type "code",
  data :=
   Data.fields
    #[Value.str (Str.ofString "law") 2511,Value.str (Str.ofString "law") 2512,
     Value.str (Str.ofString "/claim/cut.py") 2513,Value.int 219 0,Value.int 1 0,Value.int 0 0,Value.int 0 0,
     Value.int 3 0,Value.ref 240,Value.bool true,Value.int 181 0,Value.ref 241,Value.none,Value.none,
     Value.none,Value.ref 242,Value.int 2514 0,Value.int 219 0,Value.str (Str.ofString "/claim/cut.py") 2515] }
noncomputable def o01_244 (P:Params):Obj :=
 {cls:=Value.type "function",
  data :=
   Data.func
    {name:=Str.ofString "law",qualname:=Str.ofString "law",params:=fP 26,body:=FuncBody.stmts (fB 26),
     scope:=fS 26,globals:=3,closure:=[],defaults:=Value.none,kwdefaults:=Value.none,
     pyModule:=Value.str (Str.ofString "law_us0027_01") 2452,code:=Value.ref 243 } }
noncomputable def l01C (P:Params):List Obj:=[o01_129 P,o01_130 P,o01_131 P,o01_132 P,o01_133 P,o01_134 P,o01_135 P,o01_136 P,o01_137 P,o01_138 P,o01_139 P,o01_140 P,o01_141 P,o01_142 P,o01_143 P,o01_144 P,o01_145 P,o01_146 P,o01_147 P,o01_148 P,o01_149 P,o01_150 P,o01_151 P,o01_152 P,o01_153 P,o01_154 P,o01_155 P,o01_156 P,o01_157 P,o01_158 P,o01_159 P,o01_160 P,o01_161 P,o01_162 P,o01_163 P,o01_164 P,o01_165 P,o01_166 P,o01_167 P,o01_168 P,o01_169 P,o01_170 P,o01_171 P,o01_172 P,o01_173 P,o01_174 P,o01_175 P,o01_176 P,o01_177 P,o01_178 P,o01_179 P,o01_180 P,o01_181 P,o01_182 P,o01_183 P,o01_184 P,o01_185 P,o01_186 P,o01_187 P,o01_188 P,o01_189 P,o01_190 P,o01_191 P,o01_192 P,o01_193 P,o01_194 P,o01_195 P,o01_196 P,o01_197 P,o01_198 P,o01_199 P,o01_200 P,o01_201 P,o01_202 P,o01_203 P,o01_204 P,o01_205 P,o01_206 P,o01_207 P,o01_208 P,o01_209 P,o01_210 P,o01_211 P,o01_212 P,o01_213 P,o01_214 P,o01_215 P,o01_216 P,o01_217 P,o01_218 P,o01_219 P,o01_220 P,o01_221 P,o01_222 P,o01_223 P,o01_224 P,o01_225 P,o01_226 P,o01_227 P,o01_228 P,o01_229 P,o01_230 P,o01_231 P,o01_232 P,o01_233 P,o01_234 P,o01_235 P,o01_236 P,o01_237 P,o01_238 P,o01_239 P,o01_240 P,o01_241 P,o01_242 P,o01_243 P,o01_244 P]
noncomputable def t01C_3 (P:Params):Obj :=
 {cls:=Value.type "dict",
  data :=
   Data.dict
    #[{ hash:=PyData.keyHash P (Str.ofString "__name__"),key:=Value.str (Str.ofString "__name__") 165,val:=Value.str (Str.ofString "law_us0027_01") 2452 },
     {hash:=PyData.keyHash P (Str.ofString "__doc__"),key:=Value.str (Str.ofString "__doc__") 166,
      val:=Value.none },
     {hash:=PyData.keyHash P (Str.ofString "__package__"),key:=Value.str (Str.ofString "__package__") 167,
      val:=Value.none },
     {hash:=PyData.keyHash P (Str.ofString "__loader__"),key:=Value.str (Str.ofString "__loader__") 168,
      val:=Value.builtin "__main__.__loader__#opaque" },
     {hash:=PyData.keyHash P (Str.ofString "__spec__"),key:=Value.str (Str.ofString "__spec__") 169,
      val:=Value.none },
     {hash:=PyData.keyHash P (Str.ofString "__annotations__"),
      key:=Value.str (Str.ofString "__annotations__") 170,val:=Value.ref 6 },
     {hash:=PyData.keyHash P (Str.ofString "__builtins__"),key:=Value.str (Str.ofString "__builtins__") 171,
      val:=Value.ref 4 },
     {hash:=PyData.keyHash P (Str.ofString "__file__"),key:=Value.str (Str.ofString "__file__") 173,
      val:=Value.str (Str.ofString "/claim/cut.py") 172 },
     {hash:=PyData.keyHash P (Str.ofString "__cached__"),key:=Value.str (Str.ofString "__cached__") 174,
      val:=Value.none },
     {hash:=PyData.keyHash P (Str.ofString "_wall"),key:=Value.str (Str.ofString "_wall") 193,
      val:=Value.ref 21 },
     {hash:=PyData.keyHash P (Str.ofString "_DIV_LIMIT"),key:=Value.str (Str.ofString "_DIV_LIMIT") 197,
      val:=Value.int 4000 196 },
     {hash:=PyData.keyHash P (Str.ofString "_div2n1n"),key:=Value.str (Str.ofString "_div2n1n") 214,
      val:=Value.ref 28 },
     {hash:=PyData.keyHash P (Str.ofString "_div3n2n"),key:=Value.str (Str.ofString "_div3n2n") 228,
      val:=Value.ref 35 },
     {hash:=PyData.keyHash P (Str.ofString "_int2digits"),key:=Value.str (Str.ofString "_int2digits") 239,
      val:=Value.ref 42 },
     {hash:=PyData.keyHash P (Str.ofString "_digits2int"),key:=Value.str (Str.ofString "_digits2int") 250,
      val:=Value.ref 49 },
     {hash:=PyData.keyHash P (Str.ofString "_divmod_pos"),key:=Value.str (Str.ofString "_divmod_pos") 265,
      val:=Value.ref 56 },
     {hash:=PyData.keyHash P (Str.ofString "int_divmod"),key:=Value.str (Str.ofString "int_divmod") 275,
      val:=Value.ref 63 },
     {hash:=PyData.keyHash P (Str.ofString "COMPILER_FLAG_NAMES"),
      key:=Value.str (Str.ofString "COMPILER_FLAG_NAMES") 308,val:=Value.ref 64 },
     {hash:=PyData.keyHash P (Str.ofString "pretty_flags"),key:=Value.str (Str.ofString "pretty_flags") 318,
      val:=Value.ref 71 },
     {hash:=PyData.keyHash P (Str.ofString "b1_set"),key:=Value.str (Str.ofString "b1_set") 380,
      val:=Value.ref 79 },
     {hash:=PyData.keyHash P (Str.ofString "in_table_b1"),key:=Value.str (Str.ofString "in_table_b1") 387,
      val:=Value.ref 89 },
     {hash:=PyData.keyHash P (Str.ofString "b3_exceptions"),key:=Value.str (Str.ofString "b3_exceptions") 2338,
      val:=Value.ref 90 },
     {hash:=PyData.keyHash P (Str.ofString "map_table_b3"),key:=Value.str (Str.ofString "map_table_b3") 2346,
      val:=Value.ref 135 },
     {hash:=PyData.keyHash P (Str.ofString "Whitespace"),key:=Value.str (Str.ofString "Whitespace") 2451,
      val:=Value.ref 197 },
     {hash:=PyData.keyHash P (Str.ofString "_law_spelled"),key:=Value.str (Str.ofString "_law_spelled") 2462,
      val:=Value.ref 208 },
     {hash:=PyData.keyHash P (Str.ofString "_law_signs"),key:=Value.str (Str.ofString "_law_signs") 2468,
      val:=Value.ref 213 },
     {hash:=PyData.keyHash P (Str.ofString "_law_words"),key:=Value.str (Str.ofString "_law_words") 2474,
      val:=Value.ref 218 },
     {hash:=PyData.keyHash P (Str.ofString "_law_shown"),key:=Value.str (Str.ofString "_law_shown") 2486,
      val:=Value.ref 225 },
     {hash:=PyData.keyHash P (Str.ofString "_law_rings"),key:=Value.str (Str.ofString "_law_rings") 2499,
      val:=Value.ref 232 },
     {hash:=PyData.keyHash P (Str.ofString "_law_product"),key:=Value.str (Str.ofString "_law_product") 2510,
      val:=Value.ref 239 },
     {hash:=PyData.keyHash P (Str.ofString "law"),key:=Value.str (Str.ofString "law") 2516,
      val:=Value.ref 244 }]
    31 }
noncomputable def t01C_12 (P:Params):Obj :=
 {cls:=Value.none,
  data :=
   Data.fields
    #[Value.int 1 0,Value.int 0 0,Value.ref 20,Value.int 6 0,Value.int 0 0,Value.ref 27,Value.int 22 0,
     Value.int 0 0,Value.ref 34,Value.int 32 0,Value.int 0 0,Value.ref 41,Value.int 48 0,Value.int 0 0,
     Value.ref 48,Value.int 57 0,Value.int 0 0,Value.ref 55,Value.int 68 0,Value.int 0 0,Value.ref 62,
     Value.int 81 0,Value.int 0 0,Value.ref 70,Value.int 95 0,Value.int 0 0,Value.ref 88,Value.int 98 0,
     Value.int 0 0,Value.ref 134,Value.int 104 0,Value.int 0 0,Value.ref 141,Value.int 166 0,Value.int 0 0,
     Value.ref 207,Value.int 173 0,Value.int 0 0,Value.ref 212,Value.int 190 0,Value.int 0 0,Value.ref 217,
     Value.int 194 0,Value.int 0 0,Value.ref 224,Value.int 202 0,Value.int 0 0,Value.ref 231,Value.int 214 0,
     Value.int 0 0,Value.ref 238,Value.int 219 0,Value.int 0 0,Value.ref 243] }
end Mine
end
section
set_option maxRecDepth 100000
open PySem PySem.Calls PyProof.Rows PySem.W
set_option genSizeOf false
set_option genInjectivity false
namespace Mine
@[irreducible] noncomputable def T1 (P:Params):BT:=insAll (((hTP P).set 3 fun _=>t01A_3 P).set 12 fun _=>t01A_12 P) 72 (l01A P)
noncomputable def ww (w:World) (x y:Bool):World:=(w.withFollow "set-order" x).withFollow "special-get-raises" y
noncomputable def stsP:List Stmt:=[stAt 0,stAt 1,stAt 2,stAt 3,stAt 4,stAt 5,stAt 6,stAt 7,stAt 8,stAt 9,stAt 10,stAt 11,stAt 12]
theorem pieceP_at (p:Program) (b:List Stmt) (w:World) (os:OsState) (x y:Bool) :
  segRunT treeTable p (ww w x y) 11 (some (.ref 6)) 1 1000 ⟨hT0 (ww w x y).params,15,{},⟨[]⟩,{},187,os⟩ (piecesOf stsP hEnv (.body b hEnv) ⟨0,0,0,0⟩ [topFrame ⟨0,0,0,0⟩]) =
   some (.next,⟨hTP (ww w x y).params,72,{},⟨[]⟩,{},321,os⟩,.body b hEnv,⟨93,0,93,8⟩):=by
 unfold piecesOf
 rw [PySem.W.Fast.te10110043849684766642,PySem.W.Fast.te14364793385576792824,PySem.W.Fast.te12563942051412417395]
 cases x <;> cases y <;> kernel_rfl
theorem ww_self (w:World):ww w (w.params.followText "set-order") (w.params.followText "special-get-raises")=w:=by
 unfold ww
 rw [World.withFollow_self w "set-order",World.withFollow_self w "special-get-raises"]
theorem pieceP (p:Program) (b:List Stmt) (w:World) (os:OsState) :
  segRunT treeTable p w 11 (some (.ref 6)) 1 1000 ⟨hT0 w.params,15,{},⟨[]⟩,{},187,os⟩ (piecesOf stsP hEnv (.body b hEnv) ⟨0,0,0,0⟩ [topFrame ⟨0,0,0,0⟩]) =
   some (.next,⟨hTP w.params,72,{},⟨[]⟩,{},321,os⟩,.body b hEnv,⟨93,0,93,8⟩):=by
 have h:=pieceP_at p b w os (w.params.followText "set-order") (w.params.followText "special-get-raises")
 rw [ww_self] at h
 exact h
theorem pieceA_at (p:Program) (b:List Stmt) (w:World) (os:OsState) (x y:Bool) :
  segRunT treeTable p (ww w x y) 11 (some (.ref 6)) 1 1030 ⟨hTP (ww w x y).params,72,{},⟨[]⟩,{},321,os⟩ (piecesOf [stAt 13,stAt 14] hEnv (.body b hEnv) ⟨93,0,93,8⟩ [topFrame ⟨0,0,0,0⟩]) =
   some (.next,⟨T1 (ww w x y).params,90,{},⟨[]⟩,{},388,os⟩,.body b hEnv,⟨95,0,96,30⟩):=by
 unfold piecesOf
 rw [PySem.W.Fast.te10110043849684766642,PySem.W.Fast.te14364793385576792824,PySem.W.Fast.te12563942051412417395]
 cases x <;> cases y <;> kernel_rfl
theorem pieceA (p:Program) (b:List Stmt) (w:World) (os:OsState) :
  segRunT treeTable p w 11 (some (.ref 6)) 1 1030 ⟨hTP w.params,72,{},⟨[]⟩,{},321,os⟩ (piecesOf [stAt 13,stAt 14] hEnv (.body b hEnv) ⟨93,0,93,8⟩ [topFrame ⟨0,0,0,0⟩]) =
   some (.next,⟨T1 w.params,90,{},⟨[]⟩,{},388,os⟩,.body b hEnv,⟨95,0,96,30⟩):=by
 have h:=pieceA_at p b w os (w.params.followText "set-order") (w.params.followText "special-get-raises")
 rw [ww_self] at h
 exact h
end Mine
end
section
set_option maxRecDepth 100000
open PySem PySem.Calls PyProof.Rows PySem.W
set_option genSizeOf false
set_option genInjectivity false
namespace Mine
noncomputable def dParts:Stmt→List (Option Expr) × List Expr × Pos × Pos × Pos
 | .Assign [.Name _ q] (.Dict ks vs dp) p=>(ks,vs,dp,q,p)
 | _=>([],[],default,default,default)
@[irreducible] noncomputable def b3c:List (Int × Str):=(decD (dParts (stAt 15)).1 (dParts (stAt 15)).2.1).getD []
noncomputable def incr:Int→List (Int × Str)→Bool
 | _,[]=>true
 | a,(k,_) :: r=>match decide (a<k) && decide (k<2000000) with
  | true=>incr k r
  | false=>false
theorem incr_all:∀ {l:List (Int × Str)} {a:Int},incr a l=true→∀ x∈l,a<x.1∧x.1<2000000
 | [],_,_=>fun x hx=>nomatch hx
 | (k,y) :: r,a,h=>fun x hx=>by
  unfold incr at h
  split at h
  ·rename_i q
   simp only [Bool.and_eq_true,decide_eq_true_eq] at q
   rcases List.mem_cons.mp hx with rfl|hx
   ·exact q
   ·have:=incr_all h x hx
    exact ⟨Int.lt_trans q.1 this.1,this.2⟩
  ·cases h
theorem hashInt_small {k:Int} (h:0≤k) (h2:k<2000000):hashInt k=k:=by
 have e:rawHash k=k:=by
  unfold rawHash
  have:(k.natAbs:Int)=k:=Int.natAbs_of_nonneg h
  have e1:(k.natAbs:Int) % ((2 ^ 61 - 1:Nat):Int)=k:=by
   rw [this]
   exact Int.emod_eq_of_lt h (by omega)
  have n1:¬ (k<0):=by omega
  have n2:¬ ((k == -1)=true):=by rw [beq_iff_eq];omega
  dsimp only
  rw [e1,if_neg n1,if_neg n2]
 unfold hashInt
 have n2:¬ ((k == -1)=true):=by rw [beq_iff_eq];omega
 rw [e,if_neg n2]
theorem incr_nodup:∀ {l:List (Int × Str)} {a:Int},0≤a→incr a l=true→(l.map fun x=>hashInt x.1).Nodup
 | [],_,_,_=>List.nodup_nil
 | (k,y) :: r,a,h0,h=>by
  have h':=h
  unfold incr at h
  split at h
  ·rename_i q
   simp only [Bool.and_eq_true,decide_eq_true_eq] at q
   rw [List.map_cons,List.nodup_cons]
   have hk0:0≤k:=Int.le_of_lt (Int.lt_of_le_of_lt h0 q.1)
   refine ⟨fun hm=>?_,incr_nodup hk0 h⟩
   obtain ⟨z,hz,e⟩:=List.mem_map.mp hm
   have:=incr_all h z hz
   rw [hashInt_small (by omega) this.2,hashInt_small hk0 q.2] at e
   omega
  ·cases h
theorem b3_dec:decD (dParts (stAt 15)).1 (dParts (stAt 15)).2.1=some b3c:=by kernel_rfl
theorem b3_incr:incr 0 b3c=true:=by kernel_rfl
theorem b3_len:b3c.length=650:=by kernel_rfl
theorem b3_st:stAt 15=.Assign [.Name "b3_exceptions" (dParts (stAt 15)).2.2.2.1] (.Dict (dParts (stAt 15)).1 (dParts (stAt 15)).2.1 (dParts (stAt 15)).2.2.1) (dParts (stAt 15)).2.2.2.2:=by kernel_rfl
@[irreducible] noncomputable def b3objs:List Obj:=objsOf (disp 388 none [] b3c)
theorem b3objs_eq:objsOf (disp 388 none [] b3c)=b3objs:=by unfold b3objs;rfl
theorem b3objs_len:b3objs.length=39:=by kernel_rfl
@[irreducible] noncomputable def T1b (P:Params):BT:=insAll (T1 P) 90 b3objs
@[irreducible] noncomputable def T2 (P:Params):BT:=(T1b P).set 3 (Obj.putName "b3_exceptions" (hashOf P "b3_exceptions") (.str "b3_exceptions" 2338) (.ref 90))
theorem T1_ok (P:Params):okIns (T1 P) 90 b3objs=true:=by kernel_rfl
theorem T1_main (P:Params):(absHeap (T1 P) 90 {}).get? mainNs=some (t01A_3 P):=by kernel_rfl
theorem T1b_main (P:Params):(T1b P).get 3=some (t01A_3 P):=by kernel_rfl
end Mine
end
section
set_option maxRecDepth 100000
open PySem PySem.Calls PyProof.Rows PySem.W
set_option genSizeOf false
set_option genInjectivity false
namespace Mine
theorem T2_abs (P:Params):absHeap (T2 P) 129 {}=(app (absHeap (T1 P) 90 {}) b3objs).update mainNs (Obj.putName "b3_exceptions" (hashOf P "b3_exceptions") (.str "b3_exceptions" 2338) (.ref 90)):=by
 unfold T2
 rw [absHeap_set (T1b_main P)]
 have:=abs_insAll (life:={}) (T1_ok P)
 rw [b3objs_len] at this
 unfold T1b
 rw [show (129:Nat)=90+39 from rfl,this]
 rfl
theorem b3_run (w:World) (os:OsState) (c:Code) (pos:Pos) (rest:List Stmt) (B:List Frame) :
  ∃ q',Rn ⟨PP,w,11,some (.ref 6)⟩ (SharedT.abs ⟨T1 w.params,90,{},⟨[]⟩,{},388,os⟩) (restOf (stAt 15 :: rest) hEnv c pos B) (SharedT.abs ⟨T2 w.params,129,{},⟨[]⟩,{},2339,os⟩) (restOf rest hEnv c q' B) 130100:=by
 have h:=TR.assignDict (X:=⟨PP,w,11,some (.ref 6)⟩) (h:=absHeap (T1 w.params) 90 {}) (g:=⟨[]⟩) (d:={}) (os:=os) (tk:=388) (env:=hEnv) (x:="b3_exceptions") (q:=(dParts (stAt 15)).2.2.2.1) (pos:=(dParts (stAt 15)).2.2.1) (p:=(dParts (stAt 15)).2.2.2.2)
  (o:=t01A_3 w.params) (es:=(match (t01A_3 w.params).data with | .dict es _=>es|_=>#[])) (ep:=(match (t01A_3 w.params).data with | .dict _ n=>n|_=>0)) b3_dec (by rw [absHeap_size];exact (by decide:11≤90)) (by rw [absHeap_size];exact (by decide:1<90)) (incr_nodup (Int.le_refl 0) b3_incr) (by rw [b3_len];exact (by decide:650≤10000)) (by intro q;have:=b3_len;rw [q] at this;cases this)
  (by kernel_rfl) (by kernel_rfl) (by kernel_rfl) (by kernel_rfl) (T1_main _) (by kernel_rfl) (by kernel_rfl)
 rw [← b3_st,b3_len,absHeap_size,b3objs_eq] at h
 have h2:=h.stmt (rest:=rest) (c:=c) (pos:=pos) (B:=B)
 obtain ⟨q',h3⟩:=h2
 refine ⟨q',?_⟩
 show Rn _ ⟨absHeap (T1 w.params) 90 {},_,_,_,_⟩ _ ⟨absHeap (T2 w.params) 129 {},_,_,_,_⟩ _ _
 rw [T2_abs]
 exact h3
@[irreducible] noncomputable def T3 (P:Params):BT:=insAll (((T2 P).set 3 fun _=>t01C_3 P).set 12 fun _=>t01C_12 P) 129 (l01C P)
noncomputable def stsC:List Stmt:=[stAt 16,stAt 17,stAt 18,stAt 19,stAt 20,stAt 21,stAt 22,stAt 23,stAt 24,stAt 25,stAt 26]
theorem pieceC_at (p:Program) (b:List Stmt) (w:World) (os:OsState) (pos:Pos) (x y:Bool) :
  segRunT treeTable p (ww w x y) 11 (some (.ref 6)) 1 800 ⟨T2 (ww w x y).params,129,{},⟨[]⟩,{},2339,os⟩ (piecesOf stsC hEnv (.body b hEnv) pos [topFrame ⟨0,0,0,0⟩]) =
   some (.next,⟨T3 (ww w x y).params,245,{},⟨[]⟩,{},2517,os⟩,.body b hEnv,⟨219,0,250,310⟩):=by
 unfold piecesOf
 rw [PySem.W.Fast.te10110043849684766642,PySem.W.Fast.te14364793385576792824,PySem.W.Fast.te12563942051412417395]
 cases x <;> cases y <;> kernel_rfl
theorem pieceC (p:Program) (b:List Stmt) (w:World) (os:OsState) (pos:Pos) :
  segRunT treeTable p w 11 (some (.ref 6)) 1 800 ⟨T2 w.params,129,{},⟨[]⟩,{},2339,os⟩ (piecesOf stsC hEnv (.body b hEnv) pos [topFrame ⟨0,0,0,0⟩]) =
   some (.next,⟨T3 w.params,245,{},⟨[]⟩,{},2517,os⟩,.body b hEnv,⟨219,0,250,310⟩):=by
 have h:=pieceC_at p b w os pos (w.params.followText "set-order") (w.params.followText "special-get-raises")
 rw [ww_self] at h
 exact h
end Mine
end
section
set_option maxRecDepth 100000
open PySem PySem.Calls PyProof.Rows PySem.W
set_option genSizeOf false
set_option genInjectivity false
namespace Mine
noncomputable abbrev bodyP:List Stmt:=behindTheImports PP
theorem body_eq:bodyP=stsP++([stAt 13,stAt 14]++(stAt 15 :: (stsC++[]))):=by kernel_rfl
theorem pre_go (w:World) (os:OsState):topGo treeTable PP w 11 (some (.ref 6)) 12 ⟨boot_heap w.params,⟨[]⟩,boot_drawn,boot_toks,os⟩ (topStub PP) =
  some (SharedT.abs ⟨hT0 w.params,15,{},⟨[]⟩,{},187,os⟩,⟨denote treeTable (.body bodyP hEnv),.body bodyP hEnv,⟨0,0,0,0⟩,[topFrame ⟨0,0,0,0⟩]⟩):=by kernel_rfl
theorem block_run (w:World) (os:OsState):segRun treeTable PP w 11 (some (.ref 6)) 1 1 (SharedT.abs ⟨hT0 w.params,15,{},⟨[]⟩,{},187,os⟩) (blockOf bodyP hEnv (.body bodyP hEnv) ⟨0,0,0,0⟩ [topFrame ⟨0,0,0,0⟩]) =
  some (.next,SharedT.abs ⟨hT0 w.params,15,{},⟨[]⟩,{},187,os⟩,.body bodyP hEnv,⟨0,0,0,0⟩):=by kernel_rfl
theorem fin_run (w:World) (os:OsState) (pos:Pos):topRun treeTable PP w 11 (some (.ref 6)) 2 (SharedT.abs ⟨T3 w.params,245,{},⟨[]⟩,{},2517,os⟩) ⟨doneF .next,.body bodyP hEnv,pos,[topFrame ⟨0,0,0,0⟩]⟩ =
  some (SharedT.abs ⟨T3 w.params,245,{},⟨[]⟩,{},2517,os⟩):=by rfl
theorem run_all (w:World) (os:OsState):topRun treeTable PP w 11 (some (.ref 6)) (12+(1+(1000+(1030+(130100+(800+2)))))) ⟨boot_heap w.params,⟨[]⟩,boot_drawn,boot_toks,os⟩ (topStub PP) =
  some (SharedT.abs ⟨T3 w.params,245,{},⟨[]⟩,{},2517,os⟩):=by
 refine go_top (pre_go w os) (piece_block (block_run w os) ?_)
 rw [body_eq]
 refine piece_app (segRun_of (pieceP PP _ w os)) ?_
 refine piece_app (segRun_of (pieceA PP _ w os)) ?_
 obtain ⟨q',n,hn,hr⟩:=b3_run w os (.body bodyP hEnv) ⟨95,0,96,30⟩ (stsC++[]) [topFrame ⟨0,0,0,0⟩]
 have h:=hr (800+2) _ (piece_app (segRun_of (pieceC PP bodyP w os q')) (piece_nil (fin_run w os _)))
 rw [body_eq] at h
 have:=topRun_mono (130100 - n) _ _ _ _ h
 rw [show n+(800+2)+(130100 - n)=130100+(800+2) by omega] at this
 exact this
end Mine
end
section
set_option maxRecDepth 100000
open PySem PySem.Calls PyProof.Rows PySem.W
set_option genSizeOf false
set_option genInjectivity false
namespace Mine
noncomputable def lawQ:Program:={ PP with main:={ PP.main with body:=[stAt 26] } }
noncomputable def lawLoose:List Str:=["_wall","_DIV_LIMIT","_div2n1n","_div3n2n","_int2digits","_digits2int","_divmod_pos","int_divmod","COMPILER_FLAG_NAMES","pretty_flags","b1_set","in_table_b1","b3_exceptions","map_table_b3","Whitespace","_law_spelled","_law_signs","_law_words","_law_shown","_law_rings","_law_product"]
noncomputable def H1 (P:Params):Heap:=absHeap (T3 P) 245 {}
theorem left_open (w:World):(fencedOpening treeTable PP w 300000).map (fun s=>(s.heap,s.gens,s.drawn,s.toks))=some (boot_heap w.params,Array.mk [],boot_drawn,boot_toks) :=
 boot_open (p:=PP) (by kernel_rfl) (by kernel_rfl) (fun s=>by kernel_rfl) w
theorem left_size (w:World):((boot_heap w.params).isNs mainGlobals && (Array.mk []:Array GenState).size == 0,(boot_heap w.params).objs.size,(boot_heap w.params).nsMap mainGlobals "__annotations__")=(true,11,some (.ref 6)):=by kernel_rfl
theorem look0 (w:World) (os:OsState):(staticsOk (importedModules PP.main.body) (boot_heap w.params) (H1 w.params) && namesBound PP (H1 w.params) && gensDone ⟨H1 w.params,⟨[]⟩,{},2517,os⟩ && laidKept (boot_heap w.params) (H1 w.params))=true:=by kernel_rfl
theorem look1 (w:World) (os:OsState):seen ((recsOf lawQ).map (·.name)) (ownsOf lawQ) [] { (⟨H1 w.params,⟨[]⟩,{},2517,os⟩:Shared) with gens:=#[] }=expectedOf lawQ:=by kernel_rfl
theorem look2 (w:World):(H1 w.params).bltView=bltViewBooted:=by kernel_rfl
end Mine
end
section
set_option maxRecDepth 100000
open PySem PySem.Calls PyProof.Rows PySem.W
set_option genSizeOf false
set_option genInjectivity false
namespace Mine
noncomputable def Sf (w:World) (os:OsState):Shared:=⟨H1 w.params,⟨[]⟩,{},2517,os⟩
theorem look3 (w:World) (os:OsState):((Sf w os).heap.keysOk (looseW lawQ lawLoose) ((recsOf lawQ).map (·.name)) ((litsOf lawQ).map (·.1)) ((clssOf lawQ (looseW lawQ lawLoose)).map (·.name)) && (Sf w os).heap.accountedOkI (importedModules PP.main.body) && (Sf w os).heap.isNs mainGlobals && (Sf w os).heap.isNs builtinsNs && tablesOk lawQ (Sf w os).heap && true && (if true then (Sf w os).gens.size == 0 else !leftWithCleanup (Sf w os).gens))=true:=by kernel_rfl
theorem look4 (w:World) (os:OsState):tabsOk lawQ (Sf w os)=true:=by kernel_rfl
theorem look5 (w:World) (os:OsState):pinSeenD lawQ (drecsOf lawQ) (Sf w os)=pinGoodD (drecsOf lawQ):=by kernel_rfl
theorem look6 (w:World) (os:OsState):plainSeenE lawQ (looseW lawQ lawLoose) (Sf w os)=plainGoodE lawQ (looseW lawQ lawLoose):=by kernel_rfl
theorem look7 (w:World) (os:OsState):plainSeenD lawQ lawLoose (Sf w os)=plainGoodD lawQ lawLoose:=by kernel_rfl
theorem look8 (w:World) (os:OsState):wideSeen lawQ (Sf w os)=wideGood lawQ:=by kernel_rfl
theorem look9 (w:World) (os:OsState):clsSeenW lawQ lawLoose (Sf w os)=clsGoodW lawQ lawLoose:=by kernel_rfl
theorem looks_all (w:World) (os:OsState):openSeen lawQ lawLoose (importedModules PP.main.body) (fun _=>true) true (Sf w os)=openGood lawQ lawLoose:=by
 refine looks_pair (look1 w os) (looks_pair (look2 w) (looks_pair (look3 w os) (looks_pair (look4 w os) (looks_pair (look5 w os) (looks_pair (look6 w os) (looks_pair (look7 w os) (looks_pair (look8 w os) (look9 w os))))))))
theorem left_law {α:Type} (Yf:Shared→α) (Ya:World→α) (hY:∀ w os,Yf (Sf w os)=Ya w):LeftO PP lawQ lawLoose (fun _=>true) Yf Ya 300000:=by
 refine LeftO.of_pieces (H₀:=boot_heap) (H₁:=H1) (gs₀:=⟨[]⟩) (gs₁:=⟨[]⟩) (d₀:=boot_drawn) (d₁:={}) (k₀:=boot_toks) (k₁:=2517) (m₀:=11) (ann:=some (.ref 6)) left_open left_size run_all (by kernel_rfl) fun w=>?_
 funext os
 exact looks_pair (look0 w os) (looks_pair (looks_all w os) (hY w os))
end Mine
end
section
set_option maxRecDepth 100000
set_option genSizeOf false
set_option genInjectivity false
namespace Mine
noncomputable def M___init__:FnP where
 params:=[217805684,14968]
 body:=[.setattr 217805684 1978739 (.var 14968) [14968],
  .unpackR [84,85] (.tup [(.gattr 948045377251028153560 84),(.gattr 948045377251028153560 85)]) [],
  .assign 31641679972 (.list []) [],
  .chain [99,111,15087] (.lit (.int 0)),
  .for_ [13540] true (.tv (.attr (.var 217805684) 1978739)) [217805684] [.if_ (.cmp .eq (.var 13540) (.var 84)) [.assign 111 (.bin .add (.var 111) (.lit (.int 1))) [111],.assign 99 (.bin .add (.var 99) (.lit (.int 1))) [99]] [.if_ (.cmp .eq (.var 13540) (.var 85)) [.assign 111 (.bin .add (.var 111) (.lit (.int 1))) [111],.assign 15087 (.bin .add (.var 15087) (.lit (.int 1))) [15087],.if_ (.cmp .ge (.var 99) (.bi .len [(.var 31641679972)])) [.assign 31641679972 (.bin .add (.var 31641679972) (.bin .mul (.list [(.lit (.int 0))]) (.bin .add (.bin .sub (.var 99) (.bi .len [(.var 31641679972)])) (.lit (.int 1))))) [31641679972,99]] [],.setidx 31641679972 (.var 99) (.bin .add (.idx (.var 31641679972) (.var 99)) (.lit (.int 1))),.assign 99 (.lit (.int 0)) []] [.brk]]] [],
  .setattr 217805684 111 (.var 111) [111],
  .setattr 217805684 15087 (.var 15087) [15087],
  .setattr 217805684 232585327 (.tup [(.bi .tuple [(.var 31641679972)]),(.var 99)]) [31641679972,99],
  .setattr 217805684 7411736924317563498 (.cmp .le (.bi .len [(.var 31641679972)]) (.lit (.int 1))) [31641679972]]
noncomputable def M_longest_run_of_spaces:FnP where
 params:=[217805684]
 body:=[.unpack [31641679972,59038649934199285] (.attr (.var 217805684) 232585327) [217805684],
  .ret (.bi .max [(.bin .sub (.bi .len [(.var 31641679972)]) (.lit (.int 1))),(.var 59038649934199285)]) [31641679972,59038649934199285]]
noncomputable def M_indent_level:FnP where
 params:=[217805684,452855691014517]
 body:=[.unpack [31641679972,59038649934199285] (.attr (.var 217805684) 232585327) [217805684],
  .assign 14058 (.lit (.int 0)) [],
  .for_ [106] true (.bi .range [(.var 452855691014517),(.bi .len [(.var 31641679972)])]) [452855691014517,31641679972] [.assign 14058 (.bin .add (.var 14058) (.bin .mul (.bin .fdiv (.var 106) (.var 452855691014517)) (.idx (.var 31641679972) (.var 106)))) [14058,106,452855691014517,31641679972]] [],
  .ret (.bin .add (.var 59038649934199285) (.bin .mul (.var 452855691014517) (.bin .add (.var 14058) (.attr (.var 217805684) 15087)))) [59038649934199285,452855691014517,14058,217805684]]
noncomputable def M_equal:FnP where
 params:=[217805684,31085722352]
 body:=[.ret (.cmp .eq (.attr (.var 217805684) 232585327) (.attr (.var 31085722352) 232585327)) [217805684,31085722352]]
noncomputable def M_not_equal_witness:FnP where
 params:=[217805684,31085722352]
 body:=[.assign 111 (.bin .add (.bi .max [(.imeth (.var 217805684) 162799657117787522696913369657140165249595501 []),(.imeth (.var 31085722352) 162799657117787522696913369657140165249595501 [])]) (.lit (.int 1))) [217805684,31085722352],
  .assign 98 (.list []) [],
  .for_ [14965] true (.bi .range [(.lit (.int 1)),(.bin .add (.var 111) (.lit (.int 1)))]) [111] [.if_ (.cmp .ne (.imeth (.var 217805684) 16593139630497283534583786 [(.var 14965)]) (.imeth (.var 31085722352) 16593139630497283534583786 [(.var 14965)])) [.append 98 (.tup [(.var 14965),(.imeth (.var 217805684) 16593139630497283534583786 [(.var 14965)]),(.imeth (.var 31085722352) 16593139630497283534583786 [(.var 14965)])]) [14965,217805684,31085722352]] []] [],
  .ret (.var 98) [98]]
noncomputable def M_less:FnP where
 params:=[217805684,31085722352]
 body:=[.if_ (.cmp .ge (.attr (.var 217805684) 111) (.attr (.var 31085722352) 111)) [.ret (.lit (.bool false)) []] [],
  .if_ (.and [(.tv (.attr (.var 217805684) 7411736924317563498)),(.tv (.attr (.var 31085722352) 7411736924317563498))]) [.ret (.cmp .le (.attr (.var 217805684) 15087) (.attr (.var 31085722352) 15087)) [217805684,31085722352]] [],
  .assign 111 (.bin .add (.bi .max [(.imeth (.var 217805684) 162799657117787522696913369657140165249595501 []),(.imeth (.var 31085722352) 162799657117787522696913369657140165249595501 [])]) (.lit (.int 1))) [217805684,31085722352],
  .for_ [14965] true (.bi .range [(.lit (.int 2)),(.bin .add (.var 111) (.lit (.int 1)))]) [111] [.if_ (.cmp .ge (.imeth (.var 217805684) 16593139630497283534583786 [(.var 14965)]) (.imeth (.var 31085722352) 16593139630497283534583786 [(.var 14965)])) [.ret (.lit (.bool false)) []] []] [],
  .ret (.lit (.bool true)) []]
noncomputable def F__div2n1n:FnP where
 params:=[98,99,111]
 body:=[.if_ (.cmp .le (.bin .sub (.meth .bitLength (.var 98) []) (.var 111)) (.glob 789363123314924626656)) [.ret (.bi .divmod [(.var 98),(.var 99)]) [98,99]] [],
  .assign 1667441 (.bin .band (.var 111) (.lit (.int 1))) [111],
  .if_ (.tv (.var 1667441)) [.aug 98 .shl (.lit (.int 1)),.aug 99 .shl (.lit (.int 1)),.aug 111 .add (.lit (.int 1))] [],
  .assign 3839918567785 (.bin .shr (.var 111) (.lit (.int 1))) [111],
  .assign 228405614 (.bin .sub (.bin .shl (.lit (.int 1)) (.var 3839918567785)) (.lit (.int 1))) [3839918567785],
  .unpackR [6499,6627] (.tup [(.bin .shr (.var 99) (.var 3839918567785)),(.bin .band (.var 99) (.var 228405614))]) [99,3839918567785,228405614],
  .unpack [6514,115] (.call 62715573342745312 [(.bin .shr (.var 98) (.var 111)),(.bin .band (.bin .shr (.var 98) (.var 3839918567785)) (.var 228405614)),(.var 99),(.var 6499),(.var 6627),(.var 3839918567785)]) [98,111,3839918567785,228405614,99,6499,6627],
  .unpack [6642,115] (.call 62715573342745312 [(.var 115),(.bin .band (.var 98) (.var 228405614)),(.var 99),(.var 6499),(.var 6627),(.var 3839918567785)]) [115,98,228405614,99,6499,6627,3839918567785],
  .if_ (.tv (.var 1667441)) [.aug 115 .shr (.lit (.int 1))] [],
  .ret (.tup [(.bin .bor (.bin .shl (.var 6514) (.var 3839918567785)) (.var 6642)),(.var 115)]) [6514,3839918567785,6642,115]]
noncomputable def F__div3n2n:FnP where
 params:=[842082,6754,99,6499,6627,111]
 body:=[.if_ (.cmp .eq (.bin .shr (.var 842082) (.var 111)) (.var 6499)) [.unpackR [114,115] (.tup [(.bin .sub (.bin .shl (.lit (.int 1)) (.var 111)) (.lit (.int 1))),(.bin .add (.bin .sub (.var 842082) (.bin .shl (.var 6499) (.var 111))) (.var 6499))]) [111,842082,6499]] [.unpack [114,115] (.call 62711175027798752 [(.var 842082),(.var 6499),(.var 111)]) [842082,6499,111]],
  .assign 115 (.bin .sub (.bin .bor (.bin .shl (.var 115) (.var 111)) (.var 6754)) (.bin .mul (.var 114) (.var 6627))) [115,111,6754,114,6627],
  .while_ (.cmp .lt (.var 115) (.lit (.int 0))) [.aug 114 .sub (.lit (.int 1)),.aug 115 .add (.var 99)],
  .ret (.tup [(.var 114),(.var 115)]) [114,115]]
noncomputable def F__divmod_pos:FnP where
 params:=[98,99]
 body:=[.assign 111 (.meth .bitLength (.var 99) []) [99],
  .assign 65820436312191074 (.call 138035459652972097303904 [(.var 98),(.var 111)]) [98,111],
  .assign 115 (.lit (.int 0)) [],
  .assign 65820436312191090 (.list []) [],
  .for_ [518241715318882] true (.bi .reversed [(.var 65820436312191074)]) [65820436312191074] [.unpack [518241715318898,115] (.call 62711175027798752 [(.bin .add (.bin .shl (.var 115) (.var 111)) (.var 518241715318882)),(.var 99),(.var 111)]) [115,111,518241715318882,99],.append 65820436312191090 (.var 518241715318898) [518241715318898]] [],
  .reverse 65820436312191090,
  .assign 114 (.call 139160681249665806152416 [(.var 65820436312191090),(.var 111)]) [65820436312191090,111],
  .ret (.tup [(.var 114),(.var 115)]) [114,115]]
noncomputable def F_int_divmod:FnP where
 params:=[98,99]
 body:=[.if_ (.cmp .eq (.var 99) (.lit (.int 0))) [.stuck] [.if_ (.cmp .lt (.var 99) (.lit (.int 0))) [.unpack [114,115] (.call 939693477786438957034 [(.neg (.var 98)),(.neg (.var 99))]) [98,99],.ret (.tup [(.var 114),(.neg (.var 115))]) [114,115]] [.if_ (.cmp .lt (.var 98) (.lit (.int 0))) [.unpack [114,115] (.call 939693477786438957034 [(.inv (.var 98)),(.var 99)]) [98,99],.ret (.tup [(.inv (.var 114)),(.bin .add (.var 99) (.inv (.var 115)))]) [114,99,115]] [.ret (.call 137989842670750027920096 [(.var 98),(.var 99)]) [98,99]]]]]
noncomputable def F_pretty_flags:FnP where
 params:=[31358236391]
 body:=[.assign 31354237295 (.list []) [],
  .for_ [106] true (.bi .range [(.lit (.int 32))]) [] [.assign 219723495 (.bin .shl (.lit (.int 1)) (.var 106)) [106],.if_ (.tv (.bin .band (.var 31358236391) (.var 219723495))) [.append 31354237295 (.gmeth 7192860386900399776657931683028391929924 1930088 [(.var 219723495),(.bi .hex [(.var 219723495)])]) [219723495],.aug 31358236391 .bxor (.var 219723495),.if_ (.not (.tv (.var 31358236391))) [.brk] []] []] [.append 31354237295 (.bi .hex [(.var 31358236391)]) [31358236391]],
  .ret (.meth .join (.lit (.str [44,32])) [(.var 31354237295)]) [31354237295]]
noncomputable def F_in_table_b1:FnP where
 params:=[215578724]
 body:=[.ret (.gmeth 4047714654563 0 [(.bi .ord [(.var 215578724)])]) [215578724]]
noncomputable def F_map_table_b3:FnP where
 params:=[215578724]
 body:=[.assign 115 (.gmeth 2260673379385664901314255459 1930088 [(.bi .ord [(.var 215578724)])]) [215578724],
  .if_ (.cmp .isNot (.var 115) (.lit .none)) [.ret (.var 115) [115]] [],
  .ret (.meth .lower (.var 215578724) []) [215578724]]
noncomputable def F__law_spelled:FnP where
 params:=[3978997625709,213643625]
 body:=[.if_ (.cmp .eq (.var 213643625) (.lit (.int 0))) [.ret (.var 3978997625709) [3978997625709]] [],
  .if_ (.cmp .eq (.var 213643625) (.lit (.int 1))) [.ret (.meth .upper (.var 3978997625709) []) [3978997625709]] [],
  .assign 4017379392244 (.list [(.lit (.int 119808)),(.lit (.int 119860)),(.lit (.int 119912)),(.lit (.int 120016)),(.lit (.int 120172)),(.lit (.int 120224)),(.lit (.int 120276)),(.lit (.int 120328)),(.lit (.int 120380)),(.lit (.int 120432))]) [],
  .ret (.bi .chr [(.bin .sub (.bin .add (.idx (.var 4017379392244) (.bin .sub (.var 213643625) (.lit (.int 2)))) (.bi .ord [(.var 3978997625709)])) (.lit (.int 97)))]) [4017379392244,213643625,3978997625709]]
noncomputable def F__law_signs:FnP where
 params:=[4015196567669]
 body:=[.assign 3841527199734 (.bin .add (.list [(.lit (.int 173)),(.lit (.int 847)),(.lit (.int 6150)),(.lit (.int 6155)),(.lit (.int 6156)),(.lit (.int 6157)),(.lit (.int 8203)),(.lit (.int 8204)),(.lit (.int 8205)),(.lit (.int 8288)),(.lit (.int 65279))]) (.bi .listRange [(.lit (.int 65024)),(.lit (.int 65040))])) [],
  .assign 4013321467249 (.list [(.lit (.str [102,105])),(.lit (.str [105,102])),(.lit (.str [102,102])),(.lit (.str [105,105])),(.lit (.str [102])),(.lit (.str [105]))]) [],
  .assign 31373014388 (.list []) [],
  .for_ [29466916981] true (.tv (.var 4015196567669)) [4015196567669] [.assign 27591816561 (.idx (.var 4013321467249) (.bin .mod (.var 29466916981) (.lit (.int 6)))) [4013321467249,29466916981],.assign 213643625 (.bin .mod (.bin .fdiv (.var 29466916981) (.lit (.int 6))) (.lit (.int 12))) [29466916981],.assign 228389230 (.bin .fdiv (.var 29466916981) (.lit (.int 72))) [29466916981],.if_ (.and [(.cmp .eq (.var 27591816561) (.lit (.str [102,105]))),(.cmp .eq (.bin .mod (.var 213643625) (.lit (.int 2))) (.lit (.int 0)))]) [.append 31373014388 (.tup [(.bi .chr [(.lit (.int 64257))]),(.var 27591816561)]) [27591816561]] [.if_ (.and [(.cmp .eq (.var 27591816561) (.lit (.str [102,102]))),(.cmp .eq (.bin .mod (.var 213643625) (.lit (.int 2))) (.lit (.int 0)))]) [.append 31373014388 (.tup [(.bi .chr [(.lit (.int 64256))]),(.var 27591816561)]) [27591816561]] [.extend 31373014388 (.comp (.el (.tup [(.call 15384122077699522845783776 [(.var 3978997625709),(.var 213643625)]),(.var 3978997625709)])) [3978997625709] true (.tv (.var 27591816561)) [] [213643625]) [27591816561,213643625]]],.if_ (.cmp .lt (.var 228389230) (.lit (.int 27))) [.append 31373014388 (.tup [(.bi .chr [(.idx (.var 3841527199734) (.var 228389230))]),(.lit (.str []))]) [3841527199734,228389230]] []] [],
  .ret (.var 31373014388) [31373014388]]
noncomputable def F__law_words:FnP where
 params:=[14951,4016815373040]
 body:=[.if_ (.or [(.cmp .eq (.var 14951) (.lit (.int 0))),(.cmp .eq (.var 4016815373040) (.lit (.int 0)))]) [.ret (.list [(.bin .add (.bin .mul (.lit (.str [102])) (.var 14951)) (.bin .mul (.lit (.str [105])) (.var 4016815373040)))]) [14951,4016815373040]] [],
  .ret (.bin .add (.comp (.el (.bin .add (.lit (.str [102])) (.var 213710968))) [213710968] true (.tv (.call 1077254209248029095648 [(.bin .sub (.var 14951) (.lit (.int 1))),(.var 4016815373040)])) [] []) (.comp (.el (.bin .add (.lit (.str [105])) (.var 213710968))) [213710968] true (.tv (.call 1077254209248029095648 [(.var 14951),(.bin .sub (.var 4016815373040) (.lit (.int 1)))])) [] [])) [14951,4016815373040]]
noncomputable def F__law_shown:FnP where
 params:=[213710968,215822691]
 body:=[.assign 31354237295 (.list [(.lit (.str [79,80,84,73,77,73,90,69,68])),(.lit (.str [78,69,87,76,79,67,65,76,83])),(.lit (.str [86,65,82,65,82,71,83])),(.lit (.str [86,65,82,75,69,89,87,79,82,68,83])),(.lit (.str [78,69,83,84,69,68])),(.lit (.str [71,69,78,69,82,65,84,79,82])),(.lit (.str [78,79,70,82,69,69])),(.lit (.str [67,79,82,79,85,84,73,78,69])),(.lit (.str [73,84,69,82,65,66,76,69,95,67,79,82,79,85,84,73,78,69])),(.lit (.str [65,83,89,78,67,95,71,69,78,69,82,65,84,79,82]))]) [],
  .assign 31358236391 (.list []) [],
  .for_ [27591751409] true (.bi .range [(.bi .len [(.var 213710968)])]) [213710968] [.if_ (.cmp .eq (.idx (.var 213710968) (.var 27591751409)) (.lit (.str [102]))) [.assign 219723495 (.bin .add (.var 215822691) (.var 27591751409)) [215822691,27591751409],.append 31358236391 (.ite (.cmp .lt (.var 219723495) (.lit (.int 10))) (.idx (.var 31354237295) (.var 219723495)) (.bin .add (.bin .add (.lit (.str [48,120])) (.idx (.lit (.str [49,50,52,56])) (.bin .mod (.var 219723495) (.lit (.int 4))))) (.bin .mul (.lit (.str [48])) (.bin .fdiv (.var 219723495) (.lit (.int 4)))))) [219723495,31354237295]] []] [],
  .ret (.ite (.cmp .ne (.var 31358236391) (.list [])) (.meth .join (.lit (.str [44,32])) [(.var 31358236391)]) (.lit (.str [48,120,48]))) [31358236391]]
noncomputable def F__law_rings:FnP where
 params:=[57310699503450215]
 body:=[.assign 65191998851348583 (.bi .dictOf [(.var 57310699503450215)]) [57310699503450215],
  .assign 1930094 (.list []) [],
  .assign 513812794700653 (.list []) [],
  .for_ [31649741556,3500353942371] false (.tv (.var 57310699503450215)) [57310699503450215] [.if_ (.cmp .notIn (.var 31649741556) (.var 1930094)) [.assign 219936115 (.list [(.var 31649741556)]) [31649741556],.while_ (.cmp .ne (.idx (.var 65191998851348583) (.idx (.var 219936115) (.neg (.lit (.int 1))))) (.var 31649741556)) [.append 219936115 (.idx (.var 65191998851348583) (.idx (.var 219936115) (.neg (.lit (.int 1))))) [65191998851348583,219936115]],.extend 1930094 (.var 219936115) [219936115],.append 513812794700653 (.bi .len [(.var 219936115)]) [219936115]] []] [],
  .ret (.var 513812794700653) [513812794700653]]
noncomputable def F__law_product:FnP where
 params:=[31085967473,31652115815,247279981]
 body:=[.assign 518039304681969 (.lit (.int 1)) [],
  .for_ [238664436] true (.bi .range [(.var 31652115815),(.bin .add (.var 247279981) (.lit (.int 1)))]) [31652115815,247279981] [.assign 518039304681969 (.bin .mul (.var 518039304681969) (.bin .sub (.bin .pow (.var 31085967473) (.var 238664436)) (.lit (.int 1)))) [518039304681969,31085967473,238664436]] [],
  .ret (.var 518039304681969) [518039304681969]]
noncomputable def F_law:FnP where
 params:=[4050646790772]
 body:=[.assign 4015196567669 (.comp (.el (.bin .mod (.bin .add (.bi .sum [(.slice (.var 4050646790772) (.var 108) (.lit (.int 30)) (.lit (.int 3)))]) (.idx (.list [(.lit (.int 22)),(.lit (.int 655)),(.lit (.int 1949))]) (.var 108))) (.lit (.int 2016)))) [108] true (.bi .range [(.lit (.int 3))]) [] [4050646790772]) [4050646790772],
  .assign 31373014388 (.call 1077968566213202720480 [(.var 4015196567669)]) [4015196567669],
  .for_ [234501492,514152392913773] false (.tv (.var 31373014388)) [31373014388] [.if_ (.cmp .isNot (.call 59949670300257315469290 [(.var 234501492)]) (.cmp .eq (.var 514152392913773) (.lit (.str [])))) [.ret (.lit (.bool false)) []] []] [],
  .assign 57310523954936305 (.meth .join (.lit (.str [])) [(.comp (.el (.call 7975789253336593673777518 [(.var 234501492)])) [234501492,514152392913773] false (.tv (.var 31373014388)) [(.cmp .ne (.var 514152392913773) (.lit (.str [])))] [])]) [31373014388],
  .if_ (.cmp .ne (.var 57310523954936305) (.meth .join (.lit (.str [])) [(.comp (.el (.var 514152392913773)) [234501492,514152392913773] false (.tv (.var 31373014388)) [] [])])) [.ret (.lit (.bool false)) []] [],
  .assign 215938420 (.bi .len [(.var 57310523954936305)]) [57310523954936305],
  .assign 14951 (.meth .count (.var 57310523954936305) [(.lit (.str [102]))]) [57310523954936305],
  .assign 215822691 (.bin .mod (.bi .sum [(.var 4015196567669)]) (.lit (.int 8))) [4015196567669],
  .assign 28432758136 (.bin .add (.lit (.int 6)) (.bin .mod (.bi .sum [(.var 4015196567669)]) (.lit (.int 875)))) [4015196567669],
  .assign 1634677 (.bin .add (.lit (.int 1)) (.bin .mod (.bi .sum [(.var 4015196567669)]) (.lit (.int 5)))) [4015196567669],
  .assign 31352223864 (.call 1077254209248029095648 [(.var 14951),(.bin .sub (.var 215938420) (.var 14951))]) [14951,215938420],
  .assign 30049842420 (.comp (.kv (.var 213710968) (.call 1032504723576851052256 [(.var 213710968),(.var 215822691)])) [213710968] true (.tv (.var 31352223864)) [] [215822691]) [31352223864,215822691],
  .assign 57310699503450215 (.list []) [],
  .for_ [213710968] true (.tv (.var 31352223864)) [31352223864] [.assign 3978959764335 (.bi .sum [(.comp (.el (.bin .pow (.lit (.int 2)) (.var 27591751409))) [27591751409] true (.bi .range [(.var 215938420)]) [(.cmp .eq (.idx (.var 213710968) (.var 27591751409)) (.lit (.str [102])))] [213710968])]) [215938420,213710968],.unpack [221918569,1980525] (.call 939693477786438957034 [(.bin .mul (.lit (.int 2)) (.var 3978959764335)),(.bin .pow (.lit (.int 2)) (.var 215938420))]) [3978959764335,215938420],.append 57310699503450215 (.tup [(.call 17653117716114376920513009 [(.bin .shl (.var 3978959764335) (.var 215822691))]),(.call 17653117716114376920513009 [(.bin .shl (.bin .add (.var 221918569) (.var 1980525)) (.var 215822691))])]) [3978959764335,215822691,221918569,1980525]] [],
  .if_ (.cmp .ne (.var 57310699503450215) (.comp (.el (.tup [(.idx (.var 30049842420) (.var 213710968)),(.idx (.var 30049842420) (.bin .add (.slice (.var 213710968) (.neg (.lit (.int 1))) (.lit .none) (.lit .none)) (.slice (.var 213710968) (.lit .none) (.neg (.lit (.int 1))) (.lit .none))))])) [213710968] true (.tv (.var 31352223864)) [] [30049842420])) [.ret (.lit (.bool false)) []] [],
  .assign 245103475 (.comp (.gen (.bin .mul (.bin .fdiv (.var 215938420) (.var 3639399412589)) (.var 238664436)) [238664436] true (.bi .range [(.var 3639399412589)])) [3639399412589] true (.tv (.call 1077468103670251435744 [(.var 57310699503450215)])) [] [215938420]) [57310699503450215,215938420],
  .assign 4013321402097 (.comp (.el (.bi .sum [(.comp (.el (.var 27591751409)) [27591751409] true (.bi .range [(.var 215938420)]) [(.cmp .eq (.idx (.var 213710968) (.var 27591751409)) (.lit (.str [102])))] [213710968])])) [213710968] true (.tv (.var 31352223864)) [] [215938420]) [31352223864,215938420],
  .assign 3497946495860 (.call 948045377251028153560 [(.meth .join (.lit (.str [])) [(.comp (.el (.bin .add (.bin .mul (.lit (.str [32])) (.bin .mod (.bin .sub (.var 29466916981) (.bin .fdiv (.bin .mul (.var 14951) (.bin .sub (.var 14951) (.lit (.int 1)))) (.lit (.int 2)))) (.var 215938420))) (.lit (.str [9])))) [29466916981] true (.tv (.var 4013321402097)) [] [14951,215938420])])]) [4013321402097,14951,215938420],
  .assign 3497948674933 (.call 948045377251028153560 [(.meth .join (.lit (.str [])) [(.comp (.el (.bin .add (.bin .mul (.lit (.str [32])) (.var 1833843)) (.lit (.str [9])))) [1833843] true (.tv (.var 245103475)) [] [])])]) [245103475],
  .assign 3978970265709 (.call 948045377251028153560 [(.bin .add (.meth .join (.lit (.str [])) [(.comp (.el (.bin .add (.bin .mul (.lit (.str [32])) (.var 1833843)) (.lit (.str [9])))) [1833843] true (.tv (.var 245103475)) [] [])]) (.lit (.str [32])))]) [245103475],
  .assign 31085967473 (.bin .pow (.lit (.int 2)) (.var 28432758136)) [28432758136],
  .unpack [66356861107714930,461239444404335] (.call 939693477786438957034 [(.call 17799694973213118310168288 [(.var 31085967473),(.bin .add (.bin .sub (.var 215938420) (.var 14951)) (.lit (.int 1))),(.var 215938420)]),(.call 17799694973213118310168288 [(.var 31085967473),(.lit (.int 1)),(.var 14951)])]) [31085967473,215938420,14951],
  .assign 3497927604327 (.idx (.call 939693477786438957034 [(.var 66356861107714930),(.bin .sub (.bin .pow (.var 31085967473) (.var 215938420)) (.lit (.int 1)))]) (.lit (.int 1))) [66356861107714930,31085967473,215938420],
  .ret (.and [(.cmp .eq (.var 461239444404335) (.lit (.int 0))),(.cmp .eq (.attr (.var 3497946495860) 232585327) (.tup [(.bi .tuple [(.call 138035459652972097303904 [(.var 3497927604327),(.var 28432758136)])]),(.lit (.int 0))])),(.cmp .is_ (.imeth (.var 3497946495860) 29466933606 [(.var 3497948674933)]) (.lit (.bool true))),(.cmp .eq (.imeth (.var 3497948674933) 607044556810351699428703568706500719 [(.var 3497946495860)]) (.list [])),(.cmp .is_ (.imeth (.var 3497946495860) 245183341 [(.var 3497948674933)]) (.lit (.bool false))),(.cmp .is_ (.imeth (.var 3497946495860) 245183341 [(.var 3978970265709)]) (.lit (.bool true))),(.cmp .eq (.imeth (.var 3497946495860) 16593139630497283534583786 [(.var 1634677)]) (.bi .sum [(.comp (.el (.bin .mul (.bin .add (.bin .fdiv (.var 1833843) (.var 1634677)) (.lit (.int 1))) (.var 1634677))) [1833843] true (.tv (.var 245103475)) [] [1634677])]))]) [461239444404335,3497946495860,3497927604327,28432758136,3497948674933,3978970265709,1634677,245103475]]
end Mine
end
section
set_option maxRecDepth 100000
open PySem PySem.Calls PyProof.Rows PySem.W
set_option genSizeOf false
set_option genInjectivity false
namespace Mine
noncomputable def fdOf (o:Obj):FuncData:=match o.data with | .func fd=>fd|_=>{ name:="",qualname:="",params:=default,body:=.stmts [],scope:=default,globals:=0,closure:=[],defaults:=.none,kwdefaults:=.none }
noncomputable def vsOf (o:Obj):Array Value:=match o.data with | .fields vs=>vs|_=>#[]
noncomputable def tok1:Option Value→Tok
 | some (.str _ t)=>t
 | _=>0
noncomputable def noFree (ns:Ns):Bool:=ns.all fun y=>match y.2 with | .free=>false|_=>true
theorem noFree_ok {ns:Ns} (h:noFree ns=true) (y:Str):ns.lookup y ≠ some .free:=fun q=>by
 have:=List.all_eq_true.mp h _ (mem_of_lookup q)
 cases this
theorem tgts_ok {ns:Ns} {names:List Str} (h:names.all (tgtB ns)=true):∀ x∈names,okN x=true∧isTgt ns x:=fun x hx=>tgtB_i (List.all_eq_true.mp h x hx)
@[irreducible] noncomputable def objAt (P:Params) (a:Nat):Obj:=((H1 P).get? a).getD default
noncomputable def nsOf (o:Obj) (x:Str):Option Value:=match o.data with
 | .dict es _=>nsFind es x
 | _=>none
noncomputable def tabA (a:Nat):Bool:=Nat.beq a 37 || Nat.beq a 44
structure C02 (cx:Cx) (P:Params):Prop where
 keep:∀ a o,(H1 P).get? a=some o→tabA a=false→∀ h,cx.GI h→h.get? a=some o
 mg:∀ x,cx.mg x=nsOf (objAt P 3) x
 C:cx.C=197
 GAC:cx.GA 197
theorem funAt_mk {cx:Cx} {P:Params} (K:C02 cx P) {a c:Addr} {o oc:Obj} {body:List Stmt} {scope:Scope} {names:List Str} {fp:FnP}
  (na:tabA a=false) (nc:tabA c=false) (e1:(H1 P).get? a=some o) (e2:o.data=.func (fdOf o)) (e3:(o.cls,(fdOf o).body,(fdOf o).closure,(fdOf o).globals,(fdOf o).builtins,(fdOf o).scope,(fdOf o).code)=(.type "function",.stmts body,[],mainGlobals,builtinsNs,scope,.ref c))
  (e4:(H1 P).get? c=some oc) (e5:(oc.cls,oc.data,(vsOf oc)[1]?)=(.type "code",.fields (vsOf oc),some (.str (fdOf o).qualname (tok1 (vsOf oc)[1]?))))
  (par:fp.params=names.map enc) (nd:names.Nodup) (nm:names.all (tgtB scope.names)=true) (bind:∀ vals:List Value,vals.length=names.length→bindArgs (fdOf o) ⟨vals,[]⟩=pure (names.zip vals))
  (css:CSs scope.names body fp.body) (sc:(scope.kind,scope.isCoroutine,scope.isGenerator)=(.function,false,false)) (fr:noFree scope.names=true):FunAt cx a o (fdOf o) body names fp:=by
 injection e3 with _ e3
 injection e3 with a2 e3
 injection e3 with a3 e3
 injection e3 with a4 e3
 injection e3 with a5 e3
 injection e3 with a6 a7
 injection e5 with _ e5
 injection e5 with b2 b3
 injection sc with s1 sc
 injection sc with s2 s3
 rw [← a6] at nm css s1 s2 s3 fr
 exact ⟨K.keep a o e1 na,e2,fun h g=>⟨c,oc,_,_,a7,K.keep c oc e4 nc h g,b2,b3⟩,a2,a3,a4,a5,par,nd,tgts_ok nm,bind,css,s1,s2,s3,noFree_ok fr⟩
theorem len_s {n:Nat} {l:List Value} (h:l.length=n+1):∃ a r,l=a :: r∧r.length=n:=by
 induction l using List.casesOn with
 | nil=>exact (Nat.succ_ne_zero _ h.symm).elim
 | cons a r=>exact ⟨a,r,rfl,Nat.succ.inj h⟩
theorem bind_1 {fd:FuncData} {x:Str} (h:∀ a,bindArgs fd ⟨[a],[]⟩=pure [(x,a)]):∀ vals:List Value,vals.length=[x].length→bindArgs fd ⟨vals,[]⟩=pure ([x].zip vals):=fun vals hl=>by
 obtain ⟨a,rfl⟩:=List.length_eq_one_iff.mp hl
 exact h a
theorem bind_2 {fd:FuncData} {x y:Str} (h:∀ a b,bindArgs fd ⟨[a,b],[]⟩=pure [(x,a),(y,b)]):∀ vals:List Value,vals.length=[x,y].length→bindArgs fd ⟨vals,[]⟩=pure ([x,y].zip vals):=fun vals hl=>by
 obtain ⟨a,r,rfl,h1⟩:=len_s hl
 obtain ⟨b,rfl⟩:=List.length_eq_one_iff.mp h1
 exact h a b
theorem bind_3 {fd:FuncData} {x y z:Str} (h:∀ a b c,bindArgs fd ⟨[a,b,c],[]⟩=pure [(x,a),(y,b),(z,c)]):∀ vals:List Value,vals.length=[x,y,z].length→bindArgs fd ⟨vals,[]⟩=pure ([x,y,z].zip vals):=fun vals hl=>by
 obtain ⟨a,r,rfl,h1⟩:=len_s hl
 obtain ⟨b,r,rfl,h2⟩:=len_s h1
 obtain ⟨c,rfl⟩:=List.length_eq_one_iff.mp h2
 exact h a b c
theorem bind_6 {fd:FuncData} {x y z u v w:Str} (h:∀ a b c d e f,bindArgs fd ⟨[a,b,c,d,e,f],[]⟩=pure [(x,a),(y,b),(z,c),(u,d),(v,e),(w,f)]):∀ vals:List Value,vals.length=[x,y,z,u,v,w].length→bindArgs fd ⟨vals,[]⟩=pure ([x,y,z,u,v,w].zip vals):=fun vals hl=>by
 obtain ⟨a,r,rfl,h1⟩:=len_s hl
 obtain ⟨b,r,rfl,h2⟩:=len_s h1
 obtain ⟨c,r,rfl,h3⟩:=len_s h2
 obtain ⟨d,r,rfl,h4⟩:=len_s h3
 obtain ⟨e,r,rfl,h5⟩:=len_s h4
 obtain ⟨f,rfl⟩:=List.length_eq_one_iff.mp h5
 exact h a b c d e f
end Mine
end
section
set_option maxRecDepth 100000
open PySem PySem.Calls PyProof.Rows PySem.W
set_option genSizeOf false
set_option genInjectivity false
namespace Mine
section
variable {cx:Cx} {P:Params} (K:C02 cx P)
include K
theorem fn_in_table_b1:FunAt cx 89 (objAt P 89) (fdOf (objAt P 89)) (fB 14) ["code"] F_in_table_b1 :=
 funAt_mk (c:=88) (oc:=objAt P 88) (scope:=fS 14) K rfl rfl (by kernel_rfl) (by kernel_rfl) (by kernel_rfl) (by kernel_rfl) (by kernel_rfl) (by kernel_rfl) (by decide) (by kernel_rfl)
  (bind_1 fun a=>show bindArgs (fdOf (objAt P 89)) ⟨[a],[]⟩=pure [(("code":Str),a)] by kernel_rfl) (⟨60,by kernel_rfl⟩) (by kernel_rfl) (by kernel_rfl)
theorem fn_map_table_b3:FunAt cx 135 (objAt P 135) (fdOf (objAt P 135)) (fB 16) ["code"] F_map_table_b3 :=
 funAt_mk (c:=134) (oc:=objAt P 134) (scope:=fS 16) K rfl rfl (by kernel_rfl) (by kernel_rfl) (by kernel_rfl) (by kernel_rfl) (by kernel_rfl) (by kernel_rfl) (by decide) (by kernel_rfl)
  (bind_1 fun a=>show bindArgs (fdOf (objAt P 135)) ⟨[a],[]⟩=pure [(("code":Str),a)] by kernel_rfl) (⟨60,by kernel_rfl⟩) (by kernel_rfl) (by kernel_rfl)
theorem fn_m_init:FunAt cx 152 (objAt P 152) (fdOf (objAt P 152)) (mB 18 1) ["self","ws"] M___init__ :=
 funAt_mk (c:=151) (oc:=objAt P 151) (scope:=mS 18 1) K rfl rfl (by kernel_rfl) (by kernel_rfl) (by kernel_rfl) (by kernel_rfl) (by kernel_rfl) (by kernel_rfl) (by decide) (by kernel_rfl)
  (bind_2 fun a b=>show bindArgs (fdOf (objAt P 152)) ⟨[a,b],[]⟩=pure [(("self":Str),a),(("ws":Str),b)] by kernel_rfl) (⟨60,by kernel_rfl⟩) (by kernel_rfl) (by kernel_rfl)
theorem fn_m_longest_run_of_spaces:FunAt cx 159 (objAt P 159) (fdOf (objAt P 159)) (mB 18 2) ["self"] M_longest_run_of_spaces :=
 funAt_mk (c:=158) (oc:=objAt P 158) (scope:=mS 18 2) K rfl rfl (by kernel_rfl) (by kernel_rfl) (by kernel_rfl) (by kernel_rfl) (by kernel_rfl) (by kernel_rfl) (by decide) (by kernel_rfl)
  (bind_1 fun a=>show bindArgs (fdOf (objAt P 159)) ⟨[a],[]⟩=pure [(("self":Str),a)] by kernel_rfl) (⟨60,by kernel_rfl⟩) (by kernel_rfl) (by kernel_rfl)
theorem fn_m_indent_level:FunAt cx 166 (objAt P 166) (fdOf (objAt P 166)) (mB 18 3) ["self","tabsize"] M_indent_level :=
 funAt_mk (c:=165) (oc:=objAt P 165) (scope:=mS 18 3) K rfl rfl (by kernel_rfl) (by kernel_rfl) (by kernel_rfl) (by kernel_rfl) (by kernel_rfl) (by kernel_rfl) (by decide) (by kernel_rfl)
  (bind_2 fun a b=>show bindArgs (fdOf (objAt P 166)) ⟨[a,b],[]⟩=pure [(("self":Str),a),(("tabsize":Str),b)] by kernel_rfl) (⟨60,by kernel_rfl⟩) (by kernel_rfl) (by kernel_rfl)
theorem fn_m_equal:FunAt cx 173 (objAt P 173) (fdOf (objAt P 173)) (mB 18 4) ["self","other"] M_equal :=
 funAt_mk (c:=172) (oc:=objAt P 172) (scope:=mS 18 4) K rfl rfl (by kernel_rfl) (by kernel_rfl) (by kernel_rfl) (by kernel_rfl) (by kernel_rfl) (by kernel_rfl) (by decide) (by kernel_rfl)
  (bind_2 fun a b=>show bindArgs (fdOf (objAt P 173)) ⟨[a,b],[]⟩=pure [(("self":Str),a),(("other":Str),b)] by kernel_rfl) (⟨60,by kernel_rfl⟩) (by kernel_rfl) (by kernel_rfl)
theorem fn_m_not_equal_witness:FunAt cx 180 (objAt P 180) (fdOf (objAt P 180)) (mB 18 5) ["self","other"] M_not_equal_witness :=
 funAt_mk (c:=179) (oc:=objAt P 179) (scope:=mS 18 5) K rfl rfl (by kernel_rfl) (by kernel_rfl) (by kernel_rfl) (by kernel_rfl) (by kernel_rfl) (by kernel_rfl) (by decide) (by kernel_rfl)
  (bind_2 fun a b=>show bindArgs (fdOf (objAt P 180)) ⟨[a,b],[]⟩=pure [(("self":Str),a),(("other":Str),b)] by kernel_rfl) (⟨60,by kernel_rfl⟩) (by kernel_rfl) (by kernel_rfl)
theorem fn_m_less:FunAt cx 187 (objAt P 187) (fdOf (objAt P 187)) (mB 18 6) ["self","other"] M_less :=
 funAt_mk (c:=186) (oc:=objAt P 186) (scope:=mS 18 6) K rfl rfl (by kernel_rfl) (by kernel_rfl) (by kernel_rfl) (by kernel_rfl) (by kernel_rfl) (by kernel_rfl) (by decide) (by kernel_rfl)
  (bind_2 fun a b=>show bindArgs (fdOf (objAt P 187)) ⟨[a,b],[]⟩=pure [(("self":Str),a),(("other":Str),b)] by kernel_rfl) (⟨60,by kernel_rfl⟩) (by kernel_rfl) (by kernel_rfl)
theorem fn_div2n1n:FunAt cx 28 (objAt P 28) (fdOf (objAt P 28)) (fB 3) ["a","b","n"] F__div2n1n :=
 funAt_mk (c:=27) (oc:=objAt P 27) (scope:=fS 3) K rfl rfl (by kernel_rfl) (by kernel_rfl) (by kernel_rfl) (by kernel_rfl) (by kernel_rfl) (by kernel_rfl) (by decide) (by kernel_rfl)
  (bind_3 fun a b c=>show bindArgs (fdOf (objAt P 28)) ⟨[a,b,c],[]⟩=pure [(("a":Str),a),(("b":Str),b),(("n":Str),c)] by kernel_rfl) (⟨60,by kernel_rfl⟩) (by kernel_rfl) (by kernel_rfl)
theorem fn_div3n2n:FunAt cx 35 (objAt P 35) (fdOf (objAt P 35)) (fB 4) ["a12","a3","b","b1","b2","n"] F__div3n2n :=
 funAt_mk (c:=34) (oc:=objAt P 34) (scope:=fS 4) K rfl rfl (by kernel_rfl) (by kernel_rfl) (by kernel_rfl) (by kernel_rfl) (by kernel_rfl) (by kernel_rfl) (by decide) (by kernel_rfl)
  (bind_6 fun a b c d e f=>show bindArgs (fdOf (objAt P 35)) ⟨[a,b,c,d,e,f],[]⟩=pure [(("a12":Str),a),(("a3":Str),b),(("b":Str),c),(("b1":Str),d),(("b2":Str),e),(("n":Str),f)] by kernel_rfl) (⟨60,by kernel_rfl⟩) (by kernel_rfl) (by kernel_rfl)
theorem fn_divmod_pos:FunAt cx 56 (objAt P 56) (fdOf (objAt P 56)) (fB 7) ["a","b"] F__divmod_pos :=
 funAt_mk (c:=55) (oc:=objAt P 55) (scope:=fS 7) K rfl rfl (by kernel_rfl) (by kernel_rfl) (by kernel_rfl) (by kernel_rfl) (by kernel_rfl) (by kernel_rfl) (by decide) (by kernel_rfl)
  (bind_2 fun a b=>show bindArgs (fdOf (objAt P 56)) ⟨[a,b],[]⟩=pure [(("a":Str),a),(("b":Str),b)] by kernel_rfl) (⟨60,by kernel_rfl⟩) (by kernel_rfl) (by kernel_rfl)
theorem fn_int_divmod:FunAt cx 63 (objAt P 63) (fdOf (objAt P 63)) (fB 8) ["a","b"] F_int_divmod :=
 funAt_mk (c:=62) (oc:=objAt P 62) (scope:=fS 8) K rfl rfl (by kernel_rfl) (by kernel_rfl) (by kernel_rfl) (by kernel_rfl) (by kernel_rfl) (by kernel_rfl) (by decide) (by kernel_rfl)
  (bind_2 fun a b=>show bindArgs (fdOf (objAt P 63)) ⟨[a,b],[]⟩=pure [(("a":Str),a),(("b":Str),b)] by kernel_rfl) (⟨60,by kernel_rfl⟩) (by kernel_rfl) (by kernel_rfl)
theorem fn_pretty_flags:FunAt cx 71 (objAt P 71) (fdOf (objAt P 71)) (fB 11) ["flags"] F_pretty_flags :=
 funAt_mk (c:=70) (oc:=objAt P 70) (scope:=fS 11) K rfl rfl (by kernel_rfl) (by kernel_rfl) (by kernel_rfl) (by kernel_rfl) (by kernel_rfl) (by kernel_rfl) (by decide) (by kernel_rfl)
  (bind_1 fun a=>show bindArgs (fdOf (objAt P 71)) ⟨[a],[]⟩=pure [(("flags":Str),a)] by kernel_rfl) (⟨60,by kernel_rfl⟩) (by kernel_rfl) (by kernel_rfl)
theorem fn_law_spelled:FunAt cx 208 (objAt P 208) (fdOf (objAt P 208)) (fB 20) ["letter","hand"] F__law_spelled :=
 funAt_mk (c:=207) (oc:=objAt P 207) (scope:=fS 20) K rfl rfl (by kernel_rfl) (by kernel_rfl) (by kernel_rfl) (by kernel_rfl) (by kernel_rfl) (by kernel_rfl) (by decide) (by kernel_rfl)
  (bind_2 fun a b=>show bindArgs (fdOf (objAt P 208)) ⟨[a,b],[]⟩=pure [(("letter":Str),a),(("hand":Str),b)] by kernel_rfl) (⟨60,by kernel_rfl⟩) (by kernel_rfl) (by kernel_rfl)
theorem fn_law_signs:FunAt cx 213 (objAt P 213) (fdOf (objAt P 213)) (fB 21) ["totals"] F__law_signs :=
 funAt_mk (c:=212) (oc:=objAt P 212) (scope:=fS 21) K rfl rfl (by kernel_rfl) (by kernel_rfl) (by kernel_rfl) (by kernel_rfl) (by kernel_rfl) (by kernel_rfl) (by decide) (by kernel_rfl)
  (bind_1 fun a=>show bindArgs (fdOf (objAt P 213)) ⟨[a],[]⟩=pure [(("totals":Str),a)] by kernel_rfl) (⟨60,by kernel_rfl⟩) (by kernel_rfl) (by kernel_rfl)
theorem fn_law_words:FunAt cx 218 (objAt P 218) (fdOf (objAt P 218)) (fB 22) ["fs","others"] F__law_words :=
 funAt_mk (c:=217) (oc:=objAt P 217) (scope:=fS 22) K rfl rfl (by kernel_rfl) (by kernel_rfl) (by kernel_rfl) (by kernel_rfl) (by kernel_rfl) (by kernel_rfl) (by decide) (by kernel_rfl)
  (bind_2 fun a b=>show bindArgs (fdOf (objAt P 218)) ⟨[a,b],[]⟩=pure [(("fs":Str),a),(("others":Str),b)] by kernel_rfl) (⟨60,by kernel_rfl⟩) (by kernel_rfl) (by kernel_rfl)
theorem fn_law_shown:FunAt cx 225 (objAt P 225) (fdOf (objAt P 225)) (fB 23) ["word","base"] F__law_shown :=
 funAt_mk (c:=224) (oc:=objAt P 224) (scope:=fS 23) K rfl rfl (by kernel_rfl) (by kernel_rfl) (by kernel_rfl) (by kernel_rfl) (by kernel_rfl) (by kernel_rfl) (by decide) (by kernel_rfl)
  (bind_2 fun a b=>show bindArgs (fdOf (objAt P 225)) ⟨[a,b],[]⟩=pure [(("word":Str),a),(("base":Str),b)] by kernel_rfl) (⟨60,by kernel_rfl⟩) (by kernel_rfl) (by kernel_rfl)
theorem fn_law_rings:FunAt cx 232 (objAt P 232) (fdOf (objAt P 232)) (fB 24) ["followed"] F__law_rings :=
 funAt_mk (c:=231) (oc:=objAt P 231) (scope:=fS 24) K rfl rfl (by kernel_rfl) (by kernel_rfl) (by kernel_rfl) (by kernel_rfl) (by kernel_rfl) (by kernel_rfl) (by decide) (by kernel_rfl)
  (bind_1 fun a=>show bindArgs (fdOf (objAt P 232)) ⟨[a],[]⟩=pure [(("followed":Str),a)] by kernel_rfl) (⟨60,by kernel_rfl⟩) (by kernel_rfl) (by kernel_rfl)
theorem fn_law_product:FunAt cx 239 (objAt P 239) (fdOf (objAt P 239)) (fB 25) ["power","first","last"] F__law_product :=
 funAt_mk (c:=238) (oc:=objAt P 238) (scope:=fS 25) K rfl rfl (by kernel_rfl) (by kernel_rfl) (by kernel_rfl) (by kernel_rfl) (by kernel_rfl) (by kernel_rfl) (by decide) (by kernel_rfl)
  (bind_3 fun a b c=>show bindArgs (fdOf (objAt P 239)) ⟨[a,b,c],[]⟩=pure [(("power":Str),a),(("first":Str),b),(("last":Str),c)] by kernel_rfl) (⟨60,by kernel_rfl⟩) (by kernel_rfl) (by kernel_rfl)
theorem fn_law:FunAt cx 244 (objAt P 244) (fdOf (objAt P 244)) (fB 26) ["script"] F_law :=
 funAt_mk (c:=243) (oc:=objAt P 243) (scope:=fS 26) K rfl rfl (by kernel_rfl) (by kernel_rfl) (by kernel_rfl) (by kernel_rfl) (by kernel_rfl) (by kernel_rfl) (by decide) (by kernel_rfl)
  (bind_1 fun a=>show bindArgs (fdOf (objAt P 244)) ⟨[a],[]⟩=pure [(("script":Str),a)] by kernel_rfl) (⟨60,by kernel_rfl⟩) (by kernel_rfl) (by kernel_rfl)
end
end Mine
end
section
set_option maxRecDepth 100000
open PySem PySem.Calls PyProof.Rows PySem.W
set_option genSizeOf false
set_option genInjectivity false
namespace Mine
theorem nm_of {f:Str} {N:Nat} (ok:okN f=true) (h:Nat.beq (enc f) N=true) (x:Str) (okx:okN x=true) (e:enc x=N):f=x:=enc_inj ok okx ((Nat.eq_of_beq_eq_true h).trans e.symm)
noncomputable def lookF:List (Str × Nat × Addr × FnP)→Nat→Option FnP
 | [],_=>none
 | t :: r,x=>match Nat.beq x t.2.1 with
  | true=>some t.2.2.2
  | false=>lookF r x
theorem lookF_i {x:Nat} {fp:FnP}:∀ {l:List (Str × Nat × Addr × FnP)},lookF l x=some fp→∃ t∈l,x=t.2.1∧t.2.2.2=fp
 | [],h=>nos h
 | t :: r,h=>by
  have h:(match Nat.beq x t.2.1 with|true=>some t.2.2.2|false=>lookF r x)=some fp:=h
  cases q:Nat.beq x t.2.1 with
  | true=>rw [q] at h;exact ⟨t,.head _,Nat.eq_of_beq_eq_true q,Option.some.inj h⟩
  | false =>
   rw [q] at h
   obtain ⟨u,h1,h2⟩:=lookF_i h
   exact ⟨u,.tail _ h1,h2⟩
noncomputable def fnL:List (Str × Nat × Addr × FnP):=[("in_table_b1",59949670300257315469290,89,F_in_table_b1),("map_table_b3",7975789253336593673777518,135,F_map_table_b3),("_div2n1n",62711175027798752,28,F__div2n1n),("_div3n2n",62715573342745312,35,F__div3n2n),("_divmod_pos",137989842670750027920096,56,F__divmod_pos),("int_divmod",939693477786438957034,63,F_int_divmod),("pretty_flags",17653117716114376920513009,71,F_pretty_flags),("_law_spelled",15384122077699522845783776,208,F__law_spelled),("_law_signs",1077968566213202720480,213,F__law_signs),("_law_words",1077254209248029095648,218,F__law_words),("_law_shown",1032504723576851052256,225,F__law_shown),("_law_rings",1077468103670251435744,232,F__law_rings),("_law_product",17799694973213118310168288,239,F__law_product),("law",1978733,244,F_law)]
noncomputable def meL:List (Str × Nat × Addr × FnP):=[("longest_run_of_spaces",162799657117787522696913369657140165249595501,159,M_longest_run_of_spaces),("indent_level",16593139630497283534583786,166,M_indent_level),("equal",29466933606,173,M_equal),("not_equal_witness",607044556810351699428703568706500719,180,M_not_equal_witness),("less",245183341,187,M_less)]
noncomputable def i2N:Nat:=138035459652972097303904
noncomputable def d2N:Nat:=139160681249665806152416
noncomputable def wsN:Nat:=948045377251028153560
noncomputable def noSt (l:List Stmt):List PS:=l.map fun _=>.stuck
noncomputable def allL:List (Str × Nat × Addr × FnP):=("Whitespace",wsN,197,M___init__) :: ("_int2digits",i2N,42,⟨[98,111],noSt (fB 5)⟩) :: ("_digits2int",d2N,49,⟨[4017360614757,111],noSt (fB 6)⟩) :: fnL
noncomputable def isRef (o:Option Value) (a:Nat):Bool:=match o with
 | some (.ref b)=>Nat.beq b a
 | _=>false
theorem isRef_i {o:Option Value} {a:Nat} (h:isRef o a=true):o=some (.ref a):=by
 induction o using Option.casesOn with
 | none=>exact (Bool.false_ne_true h).elim
 | some v=>induction v using Value.casesOn <;> first|exact (Bool.false_ne_true h).elim|rw [Nat.eq_of_beq_eq_true h]
noncomputable def nameB (P:Params) (t:Str × Nat × Addr × FnP):Bool:=(okN t.1 && Nat.beq (enc t.1) t.2.1) && isRef (nsOf (objAt P 3) t.1) t.2.2.1
theorem names_at (P:Params):allL.all (nameB P)=true:=by kernel_rfl
noncomputable def mN02 (P:Params):Str→Option Value:=nsOf (objAt P 196)
noncomputable def isTy (o:Obj) (T:String):Bool:=match o.cls with
 | .type t=>decide (t=T)
 | _=>false
theorem isTy_i {o:Obj} {T:String} (h:isTy o T=true):o.cls=.type T:=by
 unfold isTy at h
 generalize o.cls=c at h
 induction c using Value.casesOn <;> first|exact (Bool.false_ne_true h).elim|exact congrArg _ (of_decide_eq_true h)
noncomputable def meB (P:Params) (t:Str × Nat × Addr × FnP):Bool:=(okN t.1 && Nat.beq (enc t.1) t.2.1) && (isRef (mN02 P t.1) t.2.2.1 && isTy (objAt P t.2.2.1) "function")
theorem mes_at (P:Params):meL.all (meB P)=true:=by kernel_rfl
theorem callee_fn {cx:Cx} {a:Addr} {o:Obj} {fd:FuncData} (ho:∀ h,cx.GI h→h.get? a=some o) (hd:o.data=.func fd):Callee cx (.ref a):=by
 intro A env E Q s pos e rest _ h he _
 rw [he] at h ⊢
 exact callWith_function (o:=o) (fd:=fd) (evalArgs_plain (wpAny_mono h (fun vs s₁ q=>⟨⟨ho _ q.1,hd⟩,q.2⟩) fun _ _ x=>x))
theorem callee_K {cx:Cx} {K:Frag} {f:Value} (hK:∀ h,cx.GI h→K.In h) (hk:keepIn K f=true):Callee cx f:=by
 intro A env E Q s pos e rest _ h he hplain
 rw [he] at h ⊢
 exact callWith_of (by show ((false || (backTo pos (starEach rest env)).any (·.1)) || false)=false;rw [hplain];rfl) (P:=cx.GI) (fun h g=>keeps_K hk h (hK h g)) (evalArgs_plain h)
noncomputable def kAs:List Addr:=[2,3,196,197,41,48,64,79,90]
theorem kAs_live (P:Params):(kAs.all fun a=>(((H1 P).get? a).isSome && !tabA a))=true:=by kernel_rfl
theorem objAt_eq {P:Params} {a:Nat} (h:((H1 P).get? a).isSome=true):(H1 P).get? a=some (objAt P a):=by
 unfold objAt
 obtain ⟨o,e⟩:=Option.isSome_iff_exists.mp h
 rw [e];rfl
theorem C02.at {cx:Cx} {P:Params} (K:C02 cx P) {a:Nat} (m:kAs.elem a=true):∀ h,cx.GI h→h.get? a=some (objAt P a):=by
 obtain ⟨h1,h2⟩:=band (List.all_eq_true.mp (kAs_live P) a (List.mem_of_elem_eq_true m))
 exact K.keep a _ (objAt_eq h1) ((Bool.not_eq_true' _).mp h2)
noncomputable def Kc (P:Params):Frag:=[(2,objAt P 2),(196,objAt P 196),(197,objAt P 197)]
theorem Kc_ok (P:Params):(keepIn (Kc P) (.ref 197) && readsIn (Kc P) 197 (.type "type"))=true:=by kernel_rfl
theorem lookup_map_self {β:Type} {f:Addr→β} {a:Addr} {o:β}:∀ {as:List Addr},(as.map fun a=>(a,f a)).lookup a=some o→a∈as∧o=f a
 | [],h=>nos h
 | b :: as,h=>by
  rw [List.map_cons,List.lookup_cons] at h
  cases q:a == b with
  | true =>
   rw [q] at h
   obtain rfl:=beq_iff_eq.mp q
   exact ⟨.head _,(Option.some.inj h).symm⟩
  | false =>
   rw [q] at h
   obtain ⟨p,q⟩:=lookup_map_self h
   exact ⟨.tail _ p,q⟩
noncomputable def cdOf (o:Obj):ClassData:=match o.data with | .cls c=>c|_=>default
theorem cls_obj (P:Params):objAt P 197=excClassObj (cdOf (objAt P 197)).name (cdOf (objAt P 197)).qualname 197 196 (cdOf (objAt P 197)).bases [.type "object"] true (cdOf (objAt P 197)).slotNames (cdOf (objAt P 197)).subclasses false (cdOf (objAt P 197)).collection (objAt P 197).dict
  ((objAt P 197).slots.getD 0 none) ((objAt P 197).slots.getD 1 none) ((objAt P 197).slots.getD 2 none) ((objAt P 197).slots.getD 3 none) ((objAt P 197).slots.getD 5 none) "object.__new__":=by kernel_rfl
theorem strKeys_82 (P:Params):(match (objAt P 196).data with | .dict es _=>es.all (fun e=>match e.key with | .str _ _=>true|_=>false)|_=>false)=true:=by kernel_rfl
theorem nsOf_map {h:Heap} {a:Addr} {o:Obj} (e:h.get? a=some o):nsOf o=h.nsMap a:=by
 funext x
 unfold Heap.nsMap
 rw [e]
 dsimp only
 unfold nsOf
 cases o.data <;> rfl
theorem ns_of_obj {h:Heap} {a:Addr} {o:Obj} (e:h.get? a=some o) (n:(match o.data with | .dict es _=>es.all (fun e=>match e.key with | .str _ _=>true|_=>false)|_=>false)=true):h.Ns a (nsOf o):=by
 rw [nsOf_map e]
 refine Heap.Ns.of_isNs ?_
 unfold Heap.isNs
 rw [e]
 dsimp only
 revert n
 cases o.data <;> exact id
section
variable {cx:Cx} {P:Params} (K:C02 cx P)
include K
theorem Kc_in:∀ h,cx.GI h→(Kc P).In h:=fun h g a o e=>by
 obtain ⟨m,rfl⟩:=lookup_map_self (as:=[2,196,197]) (f:=objAt P) e
 exact K.at (List.all_eq_true.mp (show ([2,196,197].all fun a=>kAs.elem a)=true from rfl) a m) h g
theorem fn_int2digits:FunAt cx 42 (objAt P 42) (fdOf (objAt P 42)) (fB 5) ["a","n"] ⟨[98,111],noSt (fB 5)⟩ :=
 funAt_mk (c:=41) (oc:=objAt P 41) (scope:=fS 5) K rfl rfl (by kernel_rfl) (by kernel_rfl) (by kernel_rfl) (by kernel_rfl) (by kernel_rfl) (by kernel_rfl) (by decide) (by kernel_rfl)
  (bind_2 fun a b=>show bindArgs (fdOf (objAt P 42)) ⟨[a,b],[]⟩=pure [(("a":Str),a),(("n":Str),b)] by kernel_rfl) ⟨0,rfl⟩ (by kernel_rfl) (by kernel_rfl)
theorem fn_digits2int:FunAt cx 49 (objAt P 49) (fdOf (objAt P 49)) (fB 6) ["digits","n"] ⟨[4017360614757,111],noSt (fB 6)⟩ :=
 funAt_mk (c:=48) (oc:=objAt P 48) (scope:=fS 6) K rfl rfl (by kernel_rfl) (by kernel_rfl) (by kernel_rfl) (by kernel_rfl) (by kernel_rfl) (by kernel_rfl) (by decide) (by kernel_rfl)
  (bind_2 fun a b=>show bindArgs (fdOf (objAt P 49)) ⟨[a,b],[]⟩=pure [(("digits":Str),a),(("n":Str),b)] by kernel_rfl) ⟨0,rfl⟩ (by kernel_rfl) (by kernel_rfl)
noncomputable def FnT (cx:Cx) (P:Params) (t:Str × Nat × Addr × FnP):Prop:=∃ body names,FunAt cx t.2.2.1 (objAt P t.2.2.1) (fdOf (objAt P t.2.2.1)) body names t.2.2.2
theorem fns_all:∀ t∈fnL,FnT cx P t :=
 List.forall_mem_cons.mpr ⟨⟨_,_,fn_in_table_b1 K⟩,List.forall_mem_cons.mpr ⟨⟨_,_,fn_map_table_b3 K⟩,List.forall_mem_cons.mpr ⟨⟨_,_,fn_div2n1n K⟩,List.forall_mem_cons.mpr ⟨⟨_,_,fn_div3n2n K⟩,List.forall_mem_cons.mpr ⟨⟨_,_,fn_divmod_pos K⟩,List.forall_mem_cons.mpr ⟨⟨_,_,fn_int_divmod K⟩,List.forall_mem_cons.mpr ⟨⟨_,_,fn_pretty_flags K⟩,List.forall_mem_cons.mpr ⟨⟨_,_,fn_law_spelled K⟩,List.forall_mem_cons.mpr ⟨⟨_,_,fn_law_signs K⟩,List.forall_mem_cons.mpr ⟨⟨_,_,fn_law_words K⟩,List.forall_mem_cons.mpr ⟨⟨_,_,fn_law_shown K⟩,List.forall_mem_cons.mpr ⟨⟨_,_,fn_law_rings K⟩,List.forall_mem_cons.mpr ⟨⟨_,_,fn_law_product K⟩,List.forall_mem_cons.mpr ⟨⟨_,_,fn_law K⟩,fun _ h=>nomatch h⟩⟩⟩⟩⟩⟩⟩⟩⟩⟩⟩⟩⟩⟩
theorem mes_all:∀ t∈meL,FnT cx P t∧typeLookup (.type "object") t.1=pure none :=
 List.forall_mem_cons.mpr ⟨⟨⟨_,_,fn_m_longest_run_of_spaces K⟩,am_miss_of_fast (by kernel_rfl)⟩,List.forall_mem_cons.mpr ⟨⟨⟨_,_,fn_m_indent_level K⟩,am_miss_of_fast (by kernel_rfl)⟩,List.forall_mem_cons.mpr ⟨⟨⟨_,_,fn_m_equal K⟩,am_miss_of_fast (by kernel_rfl)⟩,
 List.forall_mem_cons.mpr ⟨⟨⟨_,_,fn_m_not_equal_witness K⟩,am_miss_of_fast (by kernel_rfl)⟩,List.forall_mem_cons.mpr ⟨⟨⟨_,_,fn_m_less K⟩,am_miss_of_fast (by kernel_rfl)⟩,fun _ h=>nomatch h⟩⟩⟩⟩⟩
theorem call_at {f:Str} (ok:okN f=true) {t:Str × Nat × Addr × FnP} (m:t∈allL) (e:enc f=t.2.1):f=t.1∧cx.mg f=some (.ref t.2.2.1):=by
 obtain ⟨h1,h2⟩:=band (List.all_eq_true.mp (names_at P) t m)
 obtain ⟨h3,h4⟩:=band h1
 obtain rfl:=enc_inj ok h3 (e.trans (Nat.eq_of_beq_eq_true h4).symm)
 exact ⟨rfl,(K.mg _).trans (isRef_i h2)⟩
theorem callee_at {t:Str × Nat × Addr × FnP} (m:t∈allL):Callee cx (.ref t.2.2.1):=by
 rcases List.mem_cons.mp m with rfl|m
 ·exact callee_K (Kc_in K) (band (Kc_ok P)).1
 ·rcases List.mem_cons.mp m with rfl|m
  ·exact callee_fn (fn_int2digits K).obj (fn_int2digits K).data
  ·rcases List.mem_cons.mp m with rfl|m
   ·exact callee_fn (fn_digits2int K).obj (fn_digits2int K).data
   ·obtain ⟨_,_,F⟩:=fns_all K t m
    exact callee_fn F.obj F.data
theorem cls_at:∀ h,cx.GI h→ClsAt h cx.C 196 (mN02 P):=fun h g=>by
 rw [K.C]
 exact ⟨⟨_,_,_,_,_,_,_,_,_,_,_,_,(K.at (a:=197) rfl h g).trans (congrArg some (cls_obj P))⟩,ns_of_obj (K.at (a:=196) rfl h g) (strKeys_82 P)⟩
theorem mts_at {m:Str} {a:Addr} {o:Obj} (hm:mN02 P m=some (.ref a)) (ho:∀ h,cx.GI h→h.get? a=some o) (hc:o.cls=.type "function") (hB:typeLookup (.type "object") m=pure none) :
  ∀ {A:Around} {E:Value→Shared→Prop} {s:Shared} {H:Hid} {Q:Value × List Value→Shared→Prop} {v:Value} {ks:List Nat} {qs:List PV} {pl:Sem Bool},
   cx.GI s.heap→Rep cx s.heap H v (.inst ks qs)→PEnv.has ks (enc m)=false→Q (.ref a,[v]) s→wpAny (model cx.prog cx.w) A (getMethod v m pl) Q E s:=by
 intro A E s H Q v ks qs pl gi r hn hq
 have X':=cls_at K _ gi
 obtain ⟨nm,q,bs,sn,sub,col,dd,k0,k1,k2,k3,k5,hC⟩:=X'.obj
 obtain ⟨_,_,_,_,rfl,nH,nd,hi,ne,hns,hat,hr⟩:=r.inst'
 obtain ⟨hh,gg,dr,tk,os⟩:=s
 exact method_of hC X'.ns (by kernel_rfl) (by kernel_rfl) hm (ho _ gi) hc hB (hi.inst ne hns) (hat.miss hn) hq
theorem cts_ok {fp:FnP} (h:M___init__=fp):∃ N mN a o fd body me names,ClassOk cx N mN a o fd body me names fp :=
 h ▸ ⟨196,mN02 P,152,_,_,_,"self",["ws"],⟨cls_at K,by kernel_rfl,by kernel_rfl,fn_m_init K⟩⟩
end
end Mine
end
section
set_option maxRecDepth 100000
open PySem PySem.Calls PyProof.Rows PySem.W
set_option genSizeOf false
set_option genInjectivity false
namespace Mine
noncomputable def vInt? (v:Value):Option Int:=match v with
 | .int i _=>some i
 | _=>none
noncomputable def vStr? (v:Value):Option (List Nat):=match v with
 | .str x _=>some x.cps.toList
 | _=>none
theorem vInt_i {v:Value} {i:Int} (h:vInt? v=some i):∃ t,v=.int i t:=by
 induction v using Value.casesOn <;> first|exact nos h|exact ⟨_,by rw [← Option.some.inj h]⟩
theorem vStr_i {v:Value} {x:List Nat} (h:vStr? v=some x):∃ t,v=.str (S x) t:=by
 induction v using Value.casesOn <;> first|exact nos h|exact ⟨_,by rw [← Option.some.inj h,S_of]⟩
noncomputable def assocI (k:Int):List (Int × List Nat)→Option (List Nat)
 | []=>none
 | p :: r=>match decide (k=p.1) with
  | true=>some p.2
  | false=>assocI k r
noncomputable def entV (e:DictEntry):Option (Int × List Nat):=ob (vInt? e.key) fun k=>ob (vStr? e.val) fun x=>ogo (decide (e.hash=hashInt k)) (some (k,x))
theorem entV_i {e:DictEntry} {p:Int × List Nat} (h:entV e=some p):(∃ t,e.key=.int p.1 t)∧e.hash=hashInt p.1∧∃ t,e.val=.str (S p.2) t:=by
 refine ob_e h fun k h1 k1=>ob_e k1 fun x h2 k2=>?_
 obtain ⟨h3,h4⟩:=ogo_i k2
 obtain rfl:=Option.some.inj h4
 exact ⟨vInt_i h1,of_decide_eq_true h3,vStr_i h2⟩
noncomputable def entsB:List DictEntry→List (Int × List Nat)→Bool
 | [],[]=>true
 | e :: es,p :: l=>decide (entV e=some p) && entsB es l
 | [],_ :: _=>false
 | _ :: _,[]=>false
theorem ents_i (k:Int):∀ {es:List DictEntry} {l:List (Int × List Nat)},entsB es l=true→(∀ e∈es,∃ k t,e.key=.int k t∧e.hash=hashInt k)∧(match assocI k l with|some x=>∃ t,(es.find? fun e=>Value.isInt k e.key).map (·.val)=some (.str (S x) t)|none=>(es.find? fun e=>Value.isInt k e.key).map (·.val)=none)
 | [],[],_=>by exact ⟨fun _ h=>(nomatch h),rfl⟩
 | [],_ :: _,h=>(Bool.false_ne_true h).elim
 | _ :: _,[],h=>(Bool.false_ne_true h).elim
 | e :: es,p :: l,h=>by
  obtain ⟨h1,h2⟩:=band h
  obtain ⟨⟨t,h3⟩,h4,u,h5⟩:=entV_i (of_decide_eq_true h1)
  obtain ⟨h6,h7⟩:=ents_i k h2
  refine ⟨fun d hd=>?_,?_⟩
  ·rcases List.mem_cons.mp hd with rfl|hd
   ·exact ⟨p.1,t,h3,h4⟩
   ·exact h6 d hd
  ·unfold assocI
   rw [List.find?_cons,h3]
   by_cases q:k=p.1
   ·rw [decide_eq_true q,show Value.isInt k (.int p.1 t)=true from beq_iff_eq.mpr q.symm]
    exact ⟨u,congrArg some h5⟩
   ·rw [decide_eq_false q,show Value.isInt k (.int p.1 t)=false from beq_eq_false_iff_ne.mpr fun z=>q z.symm]
    exact h7
noncomputable def entsOf (o:Obj):List DictEntry:=match o.data with
 | .dict es _=>es.toList
 | _=>[]
noncomputable def isDict (o:Obj):Bool:=match o.data with
 | .dict _ _=>true
 | _=>false
noncomputable def dictOkI (o:Obj) (l:List (Int × List Nat)):Bool:=(isTy o "dict" && (o.dict.isNone && o.slots.isEmpty)) && (isDict o && entsB (entsOf o) l)
theorem dict_i' {o:Obj} (h:isDict o=true):∃ es ep,o.data=.dict es ep∧entsOf o=es.toList:=by
 unfold isDict at h
 unfold entsOf
 generalize o.data=d at h ⊢
 induction d using Data.casesOn <;> first|exact (Bool.false_ne_true h).elim|exact ⟨_,_,rfl,rfl⟩
theorem dict_mapOf {prog:Program} {w:World} {h:Heap} {a:Addr} {o:Obj} {l:List (Int × List Nat)} (e:h.get? a=some o) (k:dictOkI o l=true) :
  ∃ f,h.MapOf (intKind prog w) a f∧∀ k,match assocI k l with|some x=>∃ t,f k=some (.str (S x) t)|none=>f k=none:=by
 obtain ⟨k1,k2⟩:=band k
 obtain ⟨k3,k4⟩:=band k1
 obtain ⟨k5,k6⟩:=band k4
 obtain ⟨k7,k8⟩:=band k2
 obtain ⟨es,ep,hd,he⟩:=dict_i' k7
 rw [he] at k8
 refine ⟨fun k=>findBy Value.isInt es k,Heap.IntMap.mapOf ⟨o,es,ep,e,isTy_i k3,hd,fun e he=>(ents_i 0 k8).1 e (Array.mem_toList_iff.mpr he),fun _=>rfl⟩ fun o' e'=>?_,fun k=>?_⟩
 ·obtain rfl:=Option.some.inj (e.symm.trans e')
  exact ⟨Option.isNone_iff_eq_none.mp k5,Array.isEmpty_iff.mp k6⟩
 ·have q:findBy Value.isInt es k=(es.toList.find? fun e=>Value.isInt k e.key).map (·.val):=by
   unfold findBy
   rw [← Array.find?_toList]
  dsimp only
  rw [q]
  exact (ents_i k k8).2
noncomputable def dgD (o:Option (List Nat)) (r:List PV):Option PV:=match r with
 | []=>some (match o with|some x=>.str x|none=>.none)
 | q :: r=>ogo r.isEmpty (ob (str? q) fun y=>some (.str (o.getD y)))
noncomputable def dgetV (l:List (Int × List Nat)) (ps:List PV):Option PV:=match ps with
 | []=>none
 | p :: r=>ob (int? p) fun k=>dgD (assocI k l) r
noncomputable def entsS (o:Obj):List (Int × Value):=match o.data with
 | .set es _ _=>es.toList
 | _=>[]
noncomputable def setV (e:Int × Value):Option Int:=ob (vInt? e.2) fun k=>ogo (decide (e.1=hashInt k)) (some k)
noncomputable def setB:List (Int × Value)→List Int→Bool
 | [],[]=>true
 | e :: es,k :: l=>decide (setV e=some k) && setB es l
 | [],_ :: _=>false
 | _ :: _,[]=>false
noncomputable def memI (k:Int):List Int→Bool
 | []=>false
 | j :: l=>decide (k=j) || memI k l
theorem set_i {prog:Program} {w:World}:∀ {es:List (Int × Value)} {l:List Int},setB es l=true→ElemsOf (intKind prog w) es∧es.length=l.length∧∀ k,memI k l=true↔∃ e∈es,Value.isInt k e.2=true
 | [],[],_=>by exact ⟨fun _ h=>(nomatch h),rfl,fun k=>⟨fun h=>(Bool.false_ne_true h).elim,fun h=>(by obtain ⟨_,h,_⟩:=h;exact nomatch h)⟩⟩
 | [],_ :: _,h=>(Bool.false_ne_true h).elim
 | _ :: _,[],h=>(Bool.false_ne_true h).elim
 | e :: es,j :: l,h=>by
  obtain ⟨h1,h2⟩:=band h
  obtain ⟨h6,h7,h8⟩:=set_i (prog:=prog) (w:=w) h2
  refine ob_e (of_decide_eq_true h1) fun k q1 q2=>?_
  obtain ⟨h3,h4⟩:=ogo_i q2
  obtain rfl:=Option.some.inj h4
  obtain ⟨t,q3⟩:=vInt_i q1
  have q4:∀ i,Value.isInt i e.2=true↔i=k:=fun i=>by
   rw [q3]
   exact beq_iff_eq.trans eq_comm
  refine ⟨fun d hd=>?_,congrArg Nat.succ h7,fun i=>?_⟩
  ·rcases List.mem_cons.mp hd with rfl|hd
   ·exact ⟨⟨k,(q4 k).mpr rfl,of_decide_eq_true h3⟩,by rw [q3];rfl⟩
   ·exact h6 d hd
  ·show (decide (i=k) || memI i l)=true↔_
   rw [Bool.or_eq_true,decide_eq_true_iff,h8 i,← q4 i]
   refine ⟨fun z=>z.elim (fun z=>⟨e,.head _,z⟩) fun ⟨d,z1,z2⟩=>⟨d,.tail _ z1,z2⟩,fun ⟨d,z1,z2⟩=>?_⟩
   rcases List.mem_cons.mp z1 with rfl|z1
   ·exact .inl z2
   ·exact .inr ⟨d,z1,z2⟩
noncomputable def isSet (o:Obj):Bool:=match o.data with
 | .set es _ t=>t.fits es.size
 | _=>false
noncomputable def setOkI (o:Obj) (l:List Int):Bool:=(isTy o "set" && (o.dict.isNone && o.slots.isEmpty)) && (isSet o && setB (entsS o) l)
theorem set_i' {o:Obj} (h:isSet o=true):∃ es ep t,o.data=.set es ep t∧entsS o=es.toList∧t.fits es.size=true:=by
 unfold isSet at h
 unfold entsS
 generalize o.data=d at h ⊢
 induction d using Data.casesOn <;> first|exact (Bool.false_ne_true h).elim|exact ⟨_,_,_,rfl,rfl,h⟩
theorem set_obj {prog:Program} {w:World} {o:Obj} {l:List Int} (k:setOkI o l=true):o.SetObjOf (intKind prog w) (fun i=>memI i l) l.length:=by
 obtain ⟨k1,k2⟩:=band k
 obtain ⟨k3,k4⟩:=band k1
 obtain ⟨k5,k6⟩:=band k4
 obtain ⟨k7,k8⟩:=band k2
 obtain ⟨es,ep,t,hd,he,ht⟩:=set_i' k7
 rw [he] at k8
 obtain ⟨h1,h2,h3⟩:=set_i (prog:=prog) (w:=w) k8
 exact ⟨⟨isTy_i k3,Option.isNone_iff_eq_none.mp k5,Array.isEmpty_iff.mp k6⟩,es,ep,t,hd,h1,h3,h2,ht⟩
noncomputable def flagL:List (Int × List Nat):=[(1,[79,80,84,73,77,73,90,69,68]),(2,[78,69,87,76,79,67,65,76,83]),(4,[86,65,82,65,82,71,83]),(8,[86,65,82,75,69,89,87,79,82,68,83]),(16,[78,69,83,84,69,68]),(32,[71,69,78,69,82,65,84,79,82]),
 (64,[78,79,70,82,69,69]),(128,[67,79,82,79,85,84,73,78,69]),(256,[73,84,69,82,65,66,76,69,95,67,79,82,79,85,84,73,78,69]),(512,[65,83,89,78,67,95,71,69,78,69,82,65,84,79,82])]
noncomputable def b3L:List (Int × List Nat):=b3c.map fun p=>(p.1,p.2.cps.toList)
noncomputable def b1L:List Int:=[65024,65025,65026,65027,65028,65029,6150,65030,65031,65032,65033,6155,6156,6157,8203,8204,8205,65034,65035,65036,65037,65038,65039,173,847,8288,65279]
noncomputable def getN:Nat:=1930088
noncomputable def flagN:Nat:=7192860386900399776657931683028391929924
noncomputable def b3N:Nat:=2260673379385664901314255459
noncomputable def b1N:Nat:=4047714654563
noncomputable def divN:Nat:=789363123314924626656
noncomputable def gv02 (x:Nat):Option PV:=ogo (Nat.beq x divN) (some (.int 4000))
noncomputable def ga02 (g n:Nat):Option PV:=ogo (Nat.beq g wsN) (match Nat.beq n 84 with
 | true=>some (.str [32])
 | false=>ogo (Nat.beq n 85) (some (.str [9])))
noncomputable def gget (g:Nat) (ps:List PV):Option PV:=match Nat.beq g flagN with
 | true=>dgetV flagL ps
 | false=>ogo (Nat.beq g b3N) (dgetV b3L ps)
noncomputable def b1In (ps:List PV):Option PV:=ob (one? ps) fun p=>ob (int? p) fun i=>some (.bool (memI i b1L))
noncomputable def gm02 (g m:Nat) (ps:List PV):Option PV:=match Nat.beq m 0 with
 | true=>ogo (Nat.beq g b1N) (b1In ps)
 | false=>ogo (Nat.beq m getN) (gget g ps)
noncomputable def ct02 (x:Nat):Option FnP:=ogo (Nat.beq x wsN) (some M___init__)
noncomputable def G0:Gl:=⟨fun _=>none,fun _ _=>none,fun _ _ _=>none,fun _=>none,fun _=>none,fun _=>none,fun _ _=>none⟩
noncomputable def G02 (sp:Nat→List PV→Option PV):Gl:=⟨gv02,ga02,gm02,lookF fnL,lookF meL,ct02,sp⟩
theorem objs_ok (P:Params):(dictOkI (objAt P 64) flagL && (dictOkI (objAt P 90) b3L && setOkI (objAt P 79) b1L))=true:=by kernel_rfl
noncomputable def isStr (v:Option Value) (x:List Nat):Bool:=match v with
 | some v=>decide (vStr? v=some x)
 | none=>false
noncomputable def clsV (P:Params) (n:Str):Option Value:=match findCls (Kc P) (.ref 197) (.type "type") n with
 | some (.val v)=>some v
 | _=>none
noncomputable def isInt1 (v:Option Value) (i:Int):Bool:=match v with
 | some v=>decide (vInt? v=some i)
 | none=>false
theorem gl_ok (P:Params):(isInt1 (nsOf (objAt P 3) "_DIV_LIMIT") 4000 && (isRef (nsOf (objAt P 3) "COMPILER_FLAG_NAMES") 64 && (isRef (nsOf (objAt P 3) "b3_exceptions") 90 && (isRef (nsOf (objAt P 3) "b1_set") 79 && (isStr (clsV P "S") [32] && (isStr (clsV P "T") [9] && biNames.all fun x=>(nsOf (objAt P 3) x).isNone))))))=true:=by kernel_rfl
theorem isInt1_i {v:Option Value} {i:Int} (h:isInt1 v i=true):∃ t,v=some (.int i t):=by
 induction v using Option.casesOn with
 | none=>exact (Bool.false_ne_true h).elim
 | some v =>
  obtain ⟨t,e⟩:=vInt_i (of_decide_eq_true h)
  exact ⟨t,congrArg some e⟩
theorem isStr_i {v:Option Value} {x:List Nat} (h:isStr v x=true):∃ t,v=some (.str (S x) t):=by
 induction v using Option.casesOn with
 | none=>exact (Bool.false_ne_true h).elim
 | some v =>
  obtain ⟨t,e⟩:=vStr_i (of_decide_eq_true h)
  exact ⟨t,congrArg some e⟩
theorem clsV_i {P:Params} {n:Str} {v:Value} (h:clsV P n=some v):findCls (Kc P) (.ref 197) (.type "type") n=some (.val v):=by
 unfold clsV at h
 generalize findCls (Kc P) (.ref 197) (.type "type") n=o at h
 induction o using Option.casesOn with
 | none=>exact nos h
 | some f=>induction f using CFound.casesOn with
  | val v=>rw [Option.some.inj h]
  | get=>exact nos h
theorem get_ok {cx:Cx} {P:Params} (K:C02 cx P) {a:Addr} {l:List (Int × List Nat)} {ps:List PV} {r:PV} (m:kAs.elem a=true) (k:dictOkI (objAt P a) l=true) (ne:(a == sysModules)=false) (e:dgetV l ps=some r) :
  (∀ s:Shared,cx.GI s.heap→s.TypeIs (.ref a) "dict"∧(∀ b,Value.ref a=.ref b→∃ ob,s.heap.get? b=some ob∧ob.dict=none)) ∧
  ∀ {A:Around} {E:Value→Shared→Prop} {s:Shared} {H:Hid} {Q:Value→Shared→Prop} {vs:List Value},Room A 60→Cn cx s.heap H→RepAll cx s.heap H vs ps→RetF cx s H false r Q→wpAny (model cx.prog cx.w) A (call (.builtin "dict.get") (.ref a :: vs)) Q E s:=by
 refine ⟨fun s gi=>?_,fun room cn x hq=>?_⟩
 ·obtain ⟨f,hm,_⟩:=dict_mapOf (prog:=cx.prog) (w:=cx.w) (K.at m _ gi) k
  refine ⟨hm.typeIs,fun b e=>?_⟩
  obtain rfl:=Value.ref.inj e
  exact hm.noDict _ rfl
 ·obtain ⟨f,hm,hf⟩:=dict_mapOf (prog:=cx.prog) (w:=cx.w) (K.at m _ cn.gi) k
  induction ps using List.casesOn with
  | nil=>exact nos e
  | cons p ps =>
   obtain ⟨v,vs,rfl,x1,x2⟩:=x.cons'
   refine ob_e e fun i h1 h2=>?_
   obtain ⟨t,rfl⟩:=x1.toInt h1
   have q:=hf i
   have hi:(intKind cx.prog cx.w).is i (.int i t)=true:=beq_self_eq_true i
   induction ps using List.casesOn with
   | nil =>
    obtain rfl:=x2.nil'
    refine call_meetsIn PySem.F.slot_dict_get hm.typeIs PySem.F.entry_dict_get (PySem.F.args_dict_get_2 _ _) (meets_dict_get (intKind cx.prog cx.w) (k:=i) a hi ne) ⟨f,hm,?_⟩
    obtain rfl:=Option.some.inj h2
    generalize assocI i l=o at q hq
    induction o using Option.casesOn with
    | none=>rw [show f i=none from q];exact hq.plain .refl .none
    | some z =>
     obtain ⟨u,hu⟩:=q
     rw [hu]
     exact hq.plain .refl (.str _ _)
   | cons p2 ps =>
    obtain ⟨h3,h4⟩:=ogo_i h2
    obtain rfl:=List.isEmpty_iff.mp h3
    refine ob_e h4 fun y h5 h6=>?_
    obtain ⟨v2,rfl,x3⟩:=x2.one'
    obtain ⟨t2,rfl⟩:=x3.toStr h5
    refine call_meetsIn PySem.F.slot_dict_get hm.typeIs PySem.F.entry_dict_get (PySem.F.args_dict_get_3 _ _ _) (meets_dict_get_default (intKind cx.prog cx.w) (k:=i) a hi ne _) ⟨f,hm,?_⟩
    obtain rfl:=Option.some.inj h6
    generalize assocI i l=o at q hq
    induction o using Option.casesOn with
    | none=>rw [show f i=none from q];exact hq.plain .refl (.str _ _)
    | some z =>
     obtain ⟨u,hu⟩:=q
     rw [hu]
     exact hq.plain .refl (.str _ _)
theorem obj_quiet:∀ n∈atNames,typeLookup (.type "object") n=pure none :=
 List.forall_mem_cons.mpr ⟨am_miss_of_fast (by kernel_rfl),List.forall_mem_cons.mpr ⟨am_miss_of_fast (by kernel_rfl),List.forall_mem_cons.mpr ⟨am_miss_of_fast (by kernel_rfl),List.forall_mem_cons.mpr ⟨am_miss_of_fast (by kernel_rfl),List.forall_mem_cons.mpr ⟨am_miss_of_fast (by kernel_rfl),fun _ h=>nomatch h⟩⟩⟩⟩⟩
theorem mN_quiet (P:Params):((("__getattribute__":Str) :: "__setattr__" :: atNames).all fun n=>(mN02 P n).isNone)=true:=by kernel_rfl
structure SpOk (cx:Cx) (sp:Nat→List PV→Option PV):Prop where
 nm:∀ x ps r,sp x ps=some r→x=i2N∨x=d2N
 ok:∀ f v ps r,okN f=true→sp (enc f) ps=some r→cx.mg f=some v→CallOk cx 200 v ps r
section
variable {cx:Cx} {P:Params} (K:C02 cx P)
include K
theorem binm_ok (x:Str) (h:x∈biNames):cx.mg x=none:=by
 obtain ⟨_,q⟩:=band (gl_ok P)
 obtain ⟨_,q⟩:=band q
 obtain ⟨_,q⟩:=band q
 obtain ⟨_,q⟩:=band q
 obtain ⟨_,q⟩:=band q
 obtain ⟨_,q⟩:=band q
 exact (K.mg x).trans (Option.isNone_iff_eq_none.mp (List.all_eq_true.mp q x h))
theorem cls_ok:∃ N mN,(∀ h,cx.GI h→ClsAt h cx.C N mN)∧mN "__getattribute__"=none∧mN "__setattr__"=none∧(∀ n∈atNames,mN n=none∧typeLookup (.type "object") n=pure none)∧∀ h,cx.GI h→cx.GA cx.C :=
 have q:=fun n h=>Option.isNone_iff_eq_none.mp (List.all_eq_true.mp (mN_quiet P) n h)
 ⟨196,mN02 P,cls_at K,q _ (.head _),q _ (.tail _ (.head _)),fun n hn=>⟨q n (.tail _ (.tail _ hn)),obj_quiet n hn⟩,fun _ _=>K.C ▸ K.GAC⟩
theorem gv_ok:∀ x p,okN x=true→gv02 (enc x)=some p→∃ v,cx.mg x=some v∧∀ h,cx.GI h→Rep cx h (fun a=>¬ cx.GA a∨cx.B a) v p:=fun x p ok h=>by
 obtain ⟨h1,h2⟩:=ogo_i h
 obtain rfl:=nm_of ok h1 "_DIV_LIMIT" (by kernel_rfl) (by kernel_rfl)
 obtain rfl:=Option.some.inj h2
 obtain ⟨t,e⟩:=isInt1_i (band (gl_ok P)).1
 exact ⟨_,(K.mg _).trans e,fun _ _=>.int _ _⟩
theorem cls_str {A:Around} {E:Value→Shared→Prop} {s:Shared} {Q:Value→Shared→Prop} {n:Str} {x:List Nat} (e:isStr (clsV P n) x=true) (gi:cx.GI s.heap) (hq:∀ u tk,Rep cx s.heap (fun a=>¬ cx.GA a∨cx.B a) u (.str x)→Q u { s with toks:=tk }):wpAny (model cx.prog cx.w) A (getAttr (.ref 197) n true) Q E s:=by
 obtain ⟨t,h⟩:=isStr_i e
 exact cls_value (Kc_in K _ gi) (band (Kc_ok P)).2 (clsV_i h) rfl (hq _ _ (.str _ _))
theorem ga_ok:∀ g n p,okN g=true→okN n=true→ga02 (enc g) (enc n)=some p→∃ v,cx.mg g=some v∧∀ {A:Around} {E:Value→Shared→Prop} {s:Shared} {Q:Value→Shared→Prop},cx.GI s.heap →
  (∀ w tk,Rep cx s.heap (fun a=>¬ cx.GA a∨cx.B a) w p→Q w { s with toks:=tk })→wpAny (model cx.prog cx.w) A (getAttr v n true) Q E s:=fun g n p okg okn h=>by
 obtain ⟨h1,h2⟩:=ogo_i h
 refine ⟨.ref 197,(call_at K okg (.head _) (Nat.eq_of_beq_eq_true h1)).2,fun gi hq=>?_⟩
 obtain ⟨_,q⟩:=band (gl_ok P)
 obtain ⟨_,q⟩:=band q
 obtain ⟨_,q⟩:=band q
 obtain ⟨_,q⟩:=band q
 obtain ⟨q1,q⟩:=band q
 obtain ⟨q2,_⟩:=band q
 cases k:Nat.beq (enc n) 84 with
 | true =>
  rw [k] at h2
  obtain rfl:=nm_of okn k "S" (by kernel_rfl) (by kernel_rfl)
  obtain rfl:=Option.some.inj h2
  exact cls_str K q1 gi hq
 | false =>
  rw [k] at h2
  obtain ⟨h3,h4⟩:=ogo_i h2
  obtain rfl:=nm_of okn h3 "T" (by kernel_rfl) (by kernel_rfl)
  obtain rfl:=Option.some.inj h4
  exact cls_str K q2 gi hq
theorem gm_ok:∀ g m ps r,okN g=true→okN m=true→m ≠ ""→gm02 (enc g) (enc m) ps=some r→∃ v T id,cx.mg g=some v∧PlainAttrs T∧Slot T m id∧typeOf (.builtin id)=pure (.type "method_descriptor") ∧
  (∀ s:Shared,cx.GI s.heap→s.TypeIs v T∧(∀ a,v=.ref a→∃ ob,s.heap.get? a=some ob∧ob.dict=none)) ∧
  ∀ {A:Around} {E:Value→Shared→Prop} {s:Shared} {H:Hid} {Q:Value→Shared→Prop} {vs:List Value},Room A 60→Cn cx s.heap H→RepAll cx s.heap H vs ps→RetF cx s H false r Q→wpAny (model cx.prog cx.w) A (call (.builtin id) (v :: vs)) Q E s:=fun g m ps r okg okm ne h=>by
 have h:(match Nat.beq (enc m) 0 with|true=>ogo (Nat.beq (enc g) b1N) (b1In ps)|false=>ogo (Nat.beq (enc m) getN) (gget (enc g) ps))=some r:=h
 have h0:Nat.beq (enc m) 0=false:=Bool.not_eq_true _ ▸ fun z=>ne (nm_of okm z "" (by kernel_rfl) (by kernel_rfl))
 rw [h0] at h
 obtain ⟨h1,h2⟩:=ogo_i h
 obtain rfl:=nm_of okm h1 "get" (by kernel_rfl) (by kernel_rfl)
 obtain ⟨k1,q⟩:=band (objs_ok P)
 obtain ⟨k2,_⟩:=band q
 obtain ⟨_,q⟩:=band (gl_ok P)
 obtain ⟨q1,q⟩:=band q
 obtain ⟨q2,_⟩:=band q
 have h2:(match Nat.beq (enc g) flagN with|true=>dgetV flagL ps|false=>ogo (Nat.beq (enc g) b3N) (dgetV b3L ps))=some r:=h2
 cases k:Nat.beq (enc g) flagN with
 | true =>
  rw [k] at h2
  obtain rfl:=nm_of okg k "COMPILER_FLAG_NAMES" (by kernel_rfl) (by kernel_rfl)
  exact ⟨_,"dict","dict.get",(K.mg _).trans (isRef_i q1),PySem.F.plainAttrs_dict,PySem.F.slot_dict_get,PySem.F.type_dict_get,get_ok K rfl k1 rfl h2⟩
 | false =>
  rw [k] at h2
  obtain ⟨h3,h4⟩:=ogo_i h2
  obtain rfl:=nm_of okg h3 "b3_exceptions" (by kernel_rfl) (by kernel_rfl)
  exact ⟨_,"dict","dict.get",(K.mg _).trans (isRef_i q2),PySem.F.plainAttrs_dict,PySem.F.slot_dict_get,PySem.F.type_dict_get,get_ok K rfl k2 rfl h4⟩
theorem gin_ok:∀ g p r,okN g=true→gm02 (enc g) 0 [p]=some r→∃ v b,cx.mg g=some v∧r=.bool b∧∀ {A:Around} {E:Value→Shared→Prop} {s:Shared} {H:Hid} {Q:Value→Shared→Prop} {x:Value},cx.GI s.heap→Rep cx s.heap H x p→(∀ tk,Q (.bool b) { s with toks:=tk })→wpAny (model cx.prog cx.w) A (compareOp .In x v) Q E s:=fun g p r okg h=>by
 obtain ⟨h1,h2⟩:=ogo_i h
 obtain rfl:=nm_of okg h1 "b1_set" (by kernel_rfl) (by kernel_rfl)
 refine ob_e (show ob (int? p) _=some r from h2) fun i h3 h4=>?_
 obtain rfl:=Option.some.inj h4
 obtain ⟨_,q⟩:=band (objs_ok P)
 obtain ⟨_,k1⟩:=band q
 obtain ⟨_,q⟩:=band (gl_ok P)
 obtain ⟨_,q⟩:=band q
 obtain ⟨_,q⟩:=band q
 obtain ⟨q1,_⟩:=band q
 refine ⟨_,_,(K.mg _).trans (isRef_i q1),rfl,fun gi x hq=>?_⟩
 obtain ⟨t,rfl⟩:=x.toInt h3
 exact wpAny_inSet_of (knd:=intKind cx.prog cx.w) (k:=i) (beq_self_eq_true i) rfl ((set_obj k1).setOf (K.at rfl _ gi) (by decide)) (hq _)
theorem call_ok {sp:Nat→List PV→Option PV} (Y:SpOk cx sp):∀ f n ps r,okN f=true→(sem (G02 sp) n).fn (enc f) ps=some r→∃ v,cx.mg f=some v∧Callee cx v
 | _,0,_,_,_,h=>nos h
 | f,n+1,ps,r,ok,h=>by
  have go:∀ {t},t∈allL→enc f=t.2.1→∃ v,cx.mg f=some v∧Callee cx v:=fun m e=>⟨_,(call_at K ok m e).2,callee_at K m⟩
  refine fn_e h (fun _ h=>?_) (fun fp h _=>?_) fun fp h _=>?_
  ·rcases Y.nm _ _ _ h with e|e
   ·exact go (.tail _ (.head _)) e
   ·exact go (.tail _ (.tail _ (.head _))) e
  ·obtain ⟨t,m,e,_⟩:=lookF_i h
   exact go (.tail _ (.tail _ (.tail _ m))) e
  ·exact go (.head _) (Nat.eq_of_beq_eq_true (ogo_i h).1)
theorem t0_ok:TopOk cx G0:=by
 have g:GOk cx G0:=⟨fun _ _ _ h=>nos h,fun _ _ _ _ _ h=>nos h,fun _ _ _ _ _ _ _ h=>nos h,fun _ _ _ _ h=>nos h,fun f n ps r _ h=>?_,cls_ok K,binm_ok K⟩
 ·exact ⟨g,fun _ _ _ h=>nos h,fun _ _ _ _ _ h=>nos h,fun _ _ _ h=>nos h,fun _ _ _ h=>nos h,rest_ok g⟩
 ·cases n with
  | zero=>exact nos h
  | succ n=>exact fn_e h (fun _ h=>nos h) (fun _ h _=>nos h) fun _ h _=>nos h
theorem top_ok {sp:Nat→List PV→Option PV} (Y:SpOk cx sp):TopOk cx (G02 sp):=by
 have g:GOk cx (G02 sp):=⟨gv_ok K,ga_ok K,gm_ok K,gin_ok K,call_ok K Y,cls_ok K,binm_ok K⟩
 refine ⟨g,fun f fp ok h=>?_,Y.ok,fun f fp ok h=>?_,fun m fp ok h=>?_,rest_ok g⟩
 ·obtain ⟨t,m,e,rfl⟩:=lookF_i h
  obtain ⟨_,_,F⟩:=fns_all K t m
  exact ⟨_,_,_,_,_,(call_at K ok (.tail _ (.tail _ (.tail _ m))) e).2,F⟩
 ·obtain ⟨h1,h2⟩:=ogo_i h
  exact ⟨(call_at K ok (.head _) (Nat.eq_of_beq_eq_true h1)).2.trans (by rw [K.C]),cts_ok K (Option.some.inj h2)⟩
 ·obtain ⟨t,hm,e,rfl⟩:=lookF_i h
  obtain ⟨h1,h2⟩:=band (List.all_eq_true.mp (mes_at P) t hm)
  obtain ⟨h3,h4⟩:=band h1
  obtain rfl:=enc_inj ok h3 (e.trans (Nat.eq_of_beq_eq_true h4).symm)
  obtain ⟨⟨_,_,F⟩,hB⟩:=mes_all K t hm
  obtain ⟨h5,h6⟩:=band h2
  exact ⟨_,_,_,_,_,F,fun gi r n hq=>mts_at K (isRef_i h5) F.obj (isTy_i h6) hB gi r n hq⟩
end
end Mine
end
section
set_option maxRecDepth 100000
open PySem PySem.Calls PyProof.Rows PySem.W
set_option genSizeOf false
set_option genInjectivity false
namespace Mine
noncomputable def nestedOf:Stmt→Nst
 | .FunctionDef _ ps b _ _ _ sc _ _ p=>(ps,b,sc,p)
 | _=>({ posonlyargs:=[],args:=[],vararg:=none,kwonlyargs:=[],kw_defaults:=[],kwarg:=none,defaults:=[] },[],default,default)
noncomputable def stD:Stmt:=.Pass default
@[irreducible] noncomputable def n8:Nst:=nestedOf ((fB 6).getD 0 stD)
@[irreducible] noncomputable def n7:Nst:=nestedOf ((fB 5).getD 1 stD)
noncomputable def S0:Rc:=sem G0 10
noncomputable def pre8:List PS:=[.if_ (.cmp .eq (.bin .add (.var 77) (.lit (.int 1))) (.var 83)) [.ret (.idx (.var 4017360614757) (.var 77)) [4017360614757,77]] [],
 .assign 1668462 (.bin .shr (.bin .add (.var 77) (.var 83)) (.lit (.int 1))) [77,83],.assign 31624705268 (.bin .mul (.bin .sub (.var 1668462) (.var 77)) (.var 111)) [1668462,77,111]]
noncomputable def hi8:List PE:=[.var 1668462,.var 83]
noncomputable def lo8:List PE:=[.var 77,.var 1668462]
noncomputable def d2k (rec:List PV→Option PV) (ρ:PEnv) (fl:Fl):Option PV:=match fl with
 | .ret r=>some r
 | .brk=>none
 | .next=>ob (evL S0 ρ hi8) fun as=>ob (rec as) fun hi=>ob (S0.ev ρ (.var 31624705268)) fun sh=>ob (binV .shl hi sh) fun a=>ob (evL S0 ρ lo8) fun bs=>ob (rec bs) fun lo=>binV .add a lo
noncomputable def d2 (ρf:PEnv):Nat→List PV→Option PV
 | 0,_=>none
 | k+1,ps=>ob (zipE [77,83] ps) fun ρp=>ob (exL S0 pre8 (ρp++ρf)) fun o=>d2k (d2 ρf k) o.1 o.2
noncomputable def ns8:Ns:=[("L",.local),("R",.local),("mid",.local),("shift",.local)]
noncomputable def kidsE (e:Expr):List Expr:=match e with
 | .BinOp l _ r _=>[l,r]
 | .Call f a _ _=>f :: a
 | .IfExp a b c _=>[a,b,c]
 | _=>[]
noncomputable def kidsS (s:Stmt):List Expr:=match s with
 | .Return (some e) _=>[e]
 | .Expr e _=>[e]
 | _=>[]
noncomputable def eD:Expr:=.Constant .none 0 default
noncomputable def kid (e:Expr) (k:Nat):Expr:=(kidsE e).getD k eD
noncomputable def kidS (s:Stmt) (k:Nat):Expr:=(kidsS s).getD k eD
noncomputable def argsE (e:Expr):List Expr:=(kidsE e).tail
noncomputable abbrev inC (e:Expr):Expr:=.Call (.Name "inner" (kid e 0).pos) (argsE e) [] e.pos
noncomputable def b8 (k:Nat):Stmt:=n8.2.1.getD k stD
noncomputable def r8:Expr:=kidS (b8 3) 0
noncomputable def u8:Expr:=kid r8 0
theorem body8I:n8.2.1=n8.2.1.take 3++[.Return (some (.BinOp (.BinOp (inC (kid u8 0)) .LShift (kid u8 1) u8.pos) .Add (inC (kid r8 1)) r8.pos)) (b8 3).pos]:=by kernel_rfl
theorem cs8:CSs ns8 (n8.2.1.take 3) pre8:=⟨20,by kernel_rfl⟩
theorem ch8:CEs ns8 (argsE (kid u8 0)) hi8:=⟨2,by kernel_rfl⟩
theorem cl8:CEs ns8 (argsE (kid r8 1)) lo8:=⟨2,by kernel_rfl⟩
theorem csh8:CE ns8 (kid u8 1) (.var 31624705268):=⟨2,by kernel_rfl⟩
theorem t8:InnT n8 ["L","R"] ns8:=⟨by kernel_rfl,by kernel_rfl,by kernel_rfl,by kernel_rfl,by kernel_rfl,by decide⟩
theorem en8:(["L","R"]:List Str).map enc=[77,83]:=by kernel_rfl
section
variable {cx:Cx} {W Hx:Hid} {f:Addr} {fd:FuncData} {ρf:PEnv} {q:Nst} {names:List Str} {ns:Ns}
theorem At.of (Z:Inn cx W Hx f fd q names) (t:InnT q names ns) {n:Nat} {A:Around} {s:Shared} {own:Own} {ow:Nat→Hid} {ρ:PEnv} {h₁:Heap} {t₁:Nat} (J:InnS cx Hx f fd ρf s.heap) (e:Ext cx cx.T s.heap h₁) (I:InS cx (n+60) A (callEnv fd s.heap.objs.size f) ns Hx own ow ρ h₁) :
  At cx W Hx f fd ρf n A (callEnv fd s.heap.objs.size f) ns ρ (HH Hx (callEnv fd s.heap.objs.size f) own ow fun _=>True) s.heap { s with heap:=h₁,toks:=t₁ } :=
 ⟨.of e Z.tW,I.ofAll,J.ext Z (.of e Z.tW),(congrArg (fun sc:Scope=>sc.names.lookup ("inner":Str)) Z.scope).trans t.fr,rfl,fun w=>not_live_size (J.cn.hid _ (Z.wH _ w)),fun _ q=>.inl q⟩
theorem d2_ok (T0:TopOk cx G0) (Z:Inn cx W Hx f fd n8 ["L","R"]):∀ (k:Nat) (ps:List PV) (r:PV),d2 ρf k ps=some r→∀ {A:Around} {E:Value→Shared→Prop} {s:Shared} {Q:Value→Shared→Prop} {vs:List Value},Room A (k+80)→InnS cx Hx f fd ρf s.heap→RepAll cx s.heap Hx vs ps →
  (∀ v h' tk,ExtL cx W s.heap h'→Rep cx h' Hx v r→Q v { s with heap:=h',toks:=tk })→wpAny (model cx.prog cx.w) A (call (.ref f) vs) Q E s
 | 0,_,_,e,_,_,_,_,_,_,_,_,_=>nos e
 | k+1,ps,r,e,A,E,s,Q,vs,room,J,x,h=>by
  refine ob_e (show ob (zipE [77,83] ps) _=some r from e) fun ρp hz e=>ob_e e fun o ho e=>?_
  obtain ⟨S,AC⟩:=all_ok T0 10
  refine inn_call (n:=10) Z t8 J (room.le (Nat.le_trans (show 71≤81 by decide) (Nat.le_add_left _ k))) x (by rw [en8];exact hz) fun h₀ tk E' es I=>?_
  rw [body8I]
  have hW:=WW_in (cx:=cx) (env:=callEnv fd s.heap.objs.size f) not_live_size rfl
  obtain ⟨ρ,fl⟩:=o
  refine execs_app (exs_ok T0.toGOk S AC cs8 I ho ?_)
  induction fl using Fl.casesOn with
  | brk=>exact nos e
  | ret v =>
   obtain rfl:=Option.some.inj e
   exact fun h' tk w e' c r'=>h w h' tk (.of (es.into e' hW) Z.tW) r'
  | next =>
   refine fun h₁ t₁ ow₁ e₁ _ I₁=>ob_e e fun as has e=>ob_e e fun hi hhi e=>ob_e e fun sh hsh e=>ob_e e fun a0 ha e=>ob_e e fun bs hbs e=>ob_e e fun lo hlo hr=>?_
   have a:=At.of Z t8 (t₁:=t₁) J (es.into e₁ hW) I₁
   refine wpAny_execs_cons (wpAny_Return_some (wpAny_BinOp (wpAny_BinOp (a.call Z S.toSndN ch8 has fun vs h₂ t₂ _ a r₂=>d2_ok T0 Z k _ _ hhi room.deeper a.J r₂ fun v₃ h₃ t₃ e₃ r₃=>?_))))
   have a:=a.ext Z (tk':=t₃) e₃
   refine S.ev csh8 a.I hsh fun v₄ h₄ t₄ e₄ r₄ _=>?_
   have a:=a.ext Z (tk':=t₄) (.of e₄ Z.tW)
   refine bin_ok (k:=.shl) (fr:=false) a.J.cn (r₃.ext (ExtL.of e₄ Z.tW).ext Z.wH) (r₄.open' a.up) ha fun v₅ h₅ t₅ e₅ r₅ _=>?_
   have a:=a.ext Z (tk':=t₅) (.of e₅ Z.tW)
   refine a.call Z S.toSndN cl8 hbs fun vs h₆ t₆ e₆ a r₆=>d2_ok T0 Z k _ _ hlo room.deeper a.J r₆ fun v₇ h₇ t₇ e₇ r₇=>?_
   have a:=a.ext Z (tk':=t₇) e₇
   refine bin_ok (k:=.add) (fr:=false) a.J.cn ((r₅.ext (ExtL.of e₆ Z.tW).ext Z.wH).ext e₇.ext Z.wH) r₇ hr fun v₈ h₈ t₈ e₈ r₈ _=>?_
   exact h v₈ h₈ t₈ (a.e.trans (.of e₈ Z.tW)) r₈
end
end Mine
end
section
set_option maxRecDepth 100000
open PySem PySem.Calls PyProof.Rows PySem.W
set_option genSizeOf false
set_option genInjectivity false
namespace Mine
noncomputable def aN:Nat:=65820436312191074
noncomputable def c7T:PE:=.cmp .eq (.bin .add (.var 77) (.lit (.int 1))) (.var 83)
noncomputable def pre7:List PS:=[.assign 1668462 (.bin .shr (.bin .add (.var 77) (.var 83)) (.lit (.int 1))) [77,83],.assign 31624705268 (.bin .mul (.bin .sub (.var 1668462) (.var 77)) (.var 111)) [1668462,77,111],
 .assign 31085852918 (.bin .shr (.var 121) (.var 31624705268)) [121,31624705268],.assign 31085967469 (.bin .bxor (.var 121) (.bin .shl (.var 31085852918) (.var 31624705268))) [121,31085852918,31624705268]]
noncomputable def lo7:List PE:=[.var 31085967469,.var 77,.var 1668462]
noncomputable def hi7:List PE:=[.var 31085852918,.var 1668462,.var 83]
noncomputable def i2n (rec:List PV→List PV→Option (List PV)) (ρ:PEnv) (l:List PV) (fl:Fl):Option (List PV):=match fl with
 | .next=>ob (evL S0 ρ lo7) fun as=>ob (rec as l) fun l₁=>ob (evL S0 ρ hi7) fun bs=>rec bs l₁
 | _=>none
noncomputable def i2k (rec:List PV→List PV→Option (List PV)) (ρ:PEnv) (l:List PV) (b:Bool):Option (List PV):=match b with
 | true=>ob (S0.ev ρ (.var 121)) fun p=>ob (S0.ev ρ (.var 77)) fun w=>ob (int? w) fun i=>ob (toNat? i) fun _=>ob (seat i l) fun j=>some (l.set j p)
 | false=>ob (exL S0 pre7 ρ) fun o=>i2n rec o.1 l o.2
noncomputable def i2 (ρf:PEnv):Nat→List PV→List PV→Option (List PV)
 | 0,_,_=>none
 | k+1,ps,l=>ob (zipE [121,77,83] ps) fun ρp=>ob (S0.ts (ρp++ρf) c7T) fun b=>i2k (i2 ρf k) (ρp++ρf) l b
noncomputable def ns7:Ns:=[("x",.local),("L",.local),("R",.local),("mid",.local),("shift",.local),("upper",.local),("lower",.local)]
noncomputable def ifS (s:Stmt):Expr × List Stmt:=match s with
 | .If c a _ _=>(c,a)
 | _=>(eD,[])
noncomputable def asS (s:Stmt):Expr × Expr:=match s with
 | .Assign [t] e _=>(t,e)
 | _=>(eD,eD)
noncomputable def sbE (e:Expr):Expr × Expr:=match e with
 | .Subscript a b _=>(a,b)
 | _=>(eD,eD)
noncomputable def b7 (k:Nat):Stmt:=n7.2.1.getD k stD
noncomputable def g7 (k:Nat):Stmt:=(ifS (b7 0)).2.getD k stD
noncomputable def t7e:Expr:=(asS (g7 0)).1
noncomputable abbrev exC (s:Stmt):Stmt:=.Expr (inC (kidS s 0)) s.pos
theorem body7I:n7.2.1=.If (ifS (b7 0)).1 [.Assign [.Subscript (.Name "a_digits" (sbE t7e).1.pos) (sbE t7e).2 t7e.pos] (asS (g7 0)).2 (g7 0).pos,.Return none (g7 1).pos] [] (b7 0).pos :: ((n7.2.1.drop 1).take 4++[exC (b7 5),exC (b7 6)]):=by kernel_rfl
theorem cs7:CSs ns7 ((n7.2.1.drop 1).take 4) pre7:=⟨20,by kernel_rfl⟩
theorem ct7:CT ns7 (ifS (b7 0)).1 c7T:=⟨20,by kernel_rfl⟩
theorem cx7:CE ns7 (asS (g7 0)).2 (.var 121):=⟨2,by kernel_rfl⟩
theorem cL7:CE ns7 (sbE t7e).2 (.var 77):=⟨2,by kernel_rfl⟩
theorem cl7:CEs ns7 (argsE (kidS (b7 5) 0)) lo7:=⟨2,by kernel_rfl⟩
theorem ch7:CEs ns7 (argsE (kidS (b7 6) 0)) hi7:=⟨2,by kernel_rfl⟩
theorem t7:InnT n7 ["x","L","R"] ns7:=⟨by kernel_rfl,by kernel_rfl,by kernel_rfl,by kernel_rfl,by kernel_rfl,by decide⟩
theorem en7:(["x","L","R"]:List Str).map enc=[121,77,83]:=by kernel_rfl
theorem fr7:n7.2.2.1.names.lookup ("a_digits":Str)=some .free:=by kernel_rfl
structure LsD (cx:Cx) (Hx:Hid) (fd:FuncData) (D:Addr) (l:List PV) (h:Heap):Prop where
 cell:∃ cd,fd.closure.lookup ("a_digits":Str)=some cd∧h.IsCell cd (some (.ref D))
 ls:∃ vs,IsLs h D vs∧RepAll cx h Hx vs l
section
variable {cx:Cx} {W Hx:Hid} {f:Addr} {fd:FuncData} {ρf:PEnv} {D:Addr}
theorem LsD.ext (Z:Inn cx W Hx f fd n7 ["x","L","R"]) (nG:¬ cx.GA D) {l:List PV} {h h':Heap} (x:LsD cx Hx fd D l h) (e:Ext cx cx.T h h'):LsD cx Hx fd D l h':=by
 obtain ⟨⟨cd,h1,h2⟩,vs,h3,h4⟩:=x
 exact ⟨⟨cd,h1,IsCell_map h2 fun o=>e.keep _ o fun t=>(Z.cl _ _ h1).2 (Z.tW _ t)⟩,vs,h3.map fun o=>e.keep _ o fun t=>nG (cx.bGA _ (cx.tB _ t)),h4.ext e fun a t=>Z.wH _ (Z.tW _ t)⟩
theorem i2_ok (T0:TopOk cx G0) (Z:Inn cx W Hx f fd n7 ["x","L","R"]) (nG:¬ cx.GA D) (wD:W D):∀ (k:Nat) (ps:List PV) (l l':List PV),i2 ρf k ps l=some l'→∀ {A:Around} {E:Value→Shared→Prop} {s:Shared} {Q:Value→Shared→Prop} {vs:List Value},Room A (k+80)→InnS cx Hx f fd ρf s.heap→LsD cx Hx fd D l s.heap→RepAll cx s.heap Hx vs ps →
  (∀ h' tk,ExtL cx W s.heap h'→LsD cx Hx fd D l' h'→Q .none { s with heap:=h',toks:=tk })→wpAny (model cx.prog cx.w) A (call (.ref f) vs) Q E s
 | 0,_,_,_,e,_,_,_,_,_,_,_,_,_,_=>nos e
 | k+1,ps,l,l',e,A,E,s,Q,vs,room,J,L,x,h=>by
  refine ob_e (show ob (zipE [121,77,83] ps) _=some l' from e) fun ρp hz e=>ob_e e fun b hb e=>?_
  obtain ⟨S,AC⟩:=all_ok T0 10
  refine inn_call (n:=10) Z t7 J (room.le (Nat.le_trans (show 71≤81 by decide) (Nat.le_add_left _ k))) x (by rw [en7];exact hz) fun h₀ tk E' es I=>?_
  rw [body7I]
  have hW:=WW_in (cx:=cx) (env:=callEnv fd s.heap.objs.size f) not_live_size rfl
  refine wpAny_execs_cons (wpAny_If (S.ts ct7 (I.ofAll (s:={ s with heap:=h₀,toks:=tk })) hb fun h₁ t₁ e₁=>?_))
  induction b using Bool.casesOn with
  | true =>
   rw [if_pos rfl]
   refine ob_e e fun p hp e=>ob_e e fun w hw e=>ob_e e fun i hi e=>ob_e e fun n hn e=>ob_e e fun j hj e=>?_
   obtain rfl:=Option.some.inj e
   have a:=At.of Z t7 (t₁:=t₁) J (es.trans e₁) (I.ext e₁)
   refine wpAny_execs_cons (wpAny_Assign_Subscript (S.ev cx7 a.I hp fun v h₂ t₂ e₂ r₂ _=>?_) (by kernel_rfl))
   have a:=a.ext Z (tk':=t₂) (.of e₂ Z.tW)
   obtain ⟨⟨cd,h3,h4⟩,_⟩:=L.ext Z nG (es.trans (e₁.trans e₂))
   refine wpAny_Name (wpAny_loadName_free a.I.kind ((congrArg (fun sc:Scope=>sc.names.lookup ("a_digits":Str)) Z.scope).trans fr7) (a.ec ▸ h3) h4 ?_ (by decide)) (by decide)
   refine S.ev cL7 a.I hw fun v₂ h₃ t₃ e₃ r₃ _=>?_
   have a:=a.ext Z (tk':=t₃) (.of e₃ Z.tW)
   have r₂:=(r₂.ext e₃ a.I.cn.tH).open' a.up
   obtain ⟨hc,ws,h5,h6⟩:=L.ext Z nG (es.trans (e₁.trans (e₂.trans e₃)))
   obtain ⟨t,rfl⟩:=r₃.toInt hi
   obtain rfl:=toNat_i hn
   obtain ⟨hp,hl⟩:=seat_i hj
   refine setitem_ok (cx:=cx) (s:={ s with heap:=h₃,toks:=t₃ }) h5 (h6.length ▸ hl) (h6.length ▸ hp) (Int.natCast_nonneg _) fun h₄ k₄ l₄=>?_
   have e₄:Ext cx W h₃ h₄:=.of_but (b:=D) wD (fun _=>nG) (fun _=>l₄.live) k₄.extBut h5.noCd
   have x₄:ExtL cx W h₃ h₄:=⟨e₄.keep,fun a q=>by
    by_cases z:a=D
    ·exact z ▸ l₄.live
    ·obtain ⟨o,g⟩:=q
     exact ⟨o,k₄.extBut a o z g⟩,e₄.gi⟩
   obtain ⟨cd,h7,h8⟩:=hc
   exact wpAny_execs_cons (wpAny_Return_none (h h₄ t₃ (a.e.trans x₄) ⟨⟨cd,h7,IsCell_map h8 fun o=>x₄.keep _ o (Z.cl _ _ h7).2⟩,_,l₄,(h6.set j r₂).ext x₄.ext Z.wH⟩))
  | false =>
   rw [if_neg Bool.false_ne_true]
   refine wpAny_execs_nil (ob_e e fun o ho e=>?_)
   obtain ⟨ρ,fl⟩:=o
   refine execs_app (exs_ok (s:={ s with heap:=h₁,toks:=t₁ }) T0.toGOk S AC cs7 (I.ext e₁) ho ?_)
   induction fl using Fl.casesOn with
   | brk=>exact nos e
   | ret v=>exact nos e
   | next =>
    refine fun h₂ t₂ ow₂ e₂ _ I₂=>ob_e e fun as has e=>ob_e e fun l₁ hl₁ e=>ob_e e fun bs hbs hr=>?_
    have eT:=(es.trans e₁).into e₂ hW
    have a:=At.of Z t7 (t₁:=t₂) J eT I₂
    have nI:=not_interactive (s:={ s with heap:=h₂,toks:=t₂ }) I₂
    refine wpAny_execs_cons (wpAny_Expr (a.call Z S.toSndN cl7 has fun vs h₃ t₃ e₃ a r₃=>i2_ok T0 Z nG wD k _ _ _ hl₁ room.deeper a.J (L.ext Z nG (eT.trans e₃)) r₃ fun h₄ t₄ e₄ L₄=>?_) nI (by kernel_rfl))
    have a:=a.ext Z (tk':=t₄) e₄
    refine wpAny_execs_cons (wpAny_Expr (a.call Z S.toSndN ch7 hbs fun vs h₅ t₅ e₅ a r₅=>i2_ok T0 Z nG wD k _ _ _ hr room.deeper a.J (L₄.ext Z nG e₅) r₅ fun h₆ t₆ e₆ L₆=>?_) nI (by kernel_rfl))
    exact wpAny_execs_nil (h h₆ t₆ (a.e.trans e₆) L₆)
end
end Mine
end
section
set_option maxRecDepth 100000
open PySem PySem.Calls PyProof.Rows PySem.W
set_option genSizeOf false
set_option genInjectivity false
namespace Mine
section
variable {cx:Cx} {m:Nat} {A:Around} {env:Env} {ns:Ns} {Hx:Hid} {own:Own} {ow:Nat→Hid} {ρ:PEnv} {h h':Heap}
theorem InS.unseen (I:InS cx m A env ns Hx own ow ρ h) {x:Str} {b:Addr} (nx:PEnv.get ρ (enc x)=none) (hb:b=env.locals∨own b) (k:Heap.ExtBut b h h') (hn:∃ m,h'.Ns env.locals m) (hc:∀ c,own c→∃ v,h'.IsCell c v)
  (ho:∀ y w,y ≠ x→VarAt h env y w→VarAt h' env y w):InS cx m A env ns Hx own ow ρ h':=by
 obtain ⟨e,c⟩:=I.turned hb k (bound_live hb hn hc)
 have bHA:HA Hx env own ow b:=hb.elim (fun q=>.inr (.inl q)) fun q=>.inr (.inr (.inl q))
 have kr:∀ a o,¬ HA Hx env own ow a→h.get? a=some o→¬ HA Hx env own ow a∧h'.get? a=some o:=fun a o n g=>⟨n,k a o (fun q=>n (q ▸ bHA)) g⟩
 have kw:∀ j a,ow j a→∀ o,h.get? a=some o→h'.get? a=some o:=fun j a oa o=>k a o fun q=>by
  obtain ⟨_,_,n2,n3,_⟩:=I.owL j a oa
  exact hb.elim (fun z=>n2 (q.trans z)) fun z=>n3 (q ▸ z)
 refine { I with cn:=c,nsl:=hn,cells:=hc,owL:=fun j a oa=>?_,vars:=fun y b' p' ok g=>?_ }
 ·obtain ⟨⟨o,h1⟩,h2⟩:=I.owL j a oa
  exact ⟨⟨o,kw j a oa o h1⟩,h2⟩
 ·obtain ⟨w,hw,h1,h2⟩:=I.vars y b' p' ok g
  exact ⟨w,ho y w (fun z=>nos (nx ▸ z ▸ g)) hw,fun z=>(h1 z).map kr,fun z=>(h2 z).map (fun a o oa=>kw _ a oa o) (fun a=>Iff.rfl) kr⟩
end
theorem TabOk.noRec {h:Heap} {P:Addr} {pos:Pos} {q q':Str} (x:TabOk h P pos q) (y:h.CodeRec (.ref P) q'):False:=by
 obtain ⟨c,o,vs,t,e,e1,e2,e3⟩:=y
 obtain rfl:=Value.ref.inj e
 rcases x with x|⟨_,_,_,_,x,_⟩
 ·obtain rfl:=Option.some.inj (x.symm.trans e1)
  cases e2
  exact nomatch e3
 ·obtain rfl:=Option.some.inj (x.symm.trans e1)
  cases e2
  exact nomatch e3
structure TabIn (cx:Cx) (c P:Addr) (pos:Pos) (q:Str):Prop where
 tab:∀ h,cx.GI h→TabOk h P pos q
 ext:∀ h h',cx.GI h→(∀ b o,b ≠ P→h.get? b=some o→h'.get? b=some o)→TabOk h' P pos q→Ext cx cx.T h h'
 code:∀ h,cx.GI h→CodeHd h c P
 ne:mainGlobals ≠ P
 blt:∀ h,cx.GI h→h.BuiltinsAt cx.mg P
 noT:∀ h a,cx.GI h→cx.T a→a ≠ P→∀ q',¬ h.CodeRec (.ref a) q'
section
variable {cx:Cx} {m:Nat} {A:Around} {env:Env} {ns:Ns} {Hx:Hid} {own:Own} {ow:Nat→Hid} {ρ:PEnv} {s:Shared} {E:Value→Shared→Prop} {Q:Flow→Shared→Prop}
theorem def_inner (I:InS cx m A env ns Hx own ow ρ s.heap) {params:Arguments} {body:List Stmt} {scope:Scope} {pos:Pos} {clos:List (Str × Addr)} {ci c P:Addr} {q:Str} (T:TabIn cx c P pos q)
  (hp:(params.defaults,params.kw_defaults,docOf body)=([],[],none)) (ha:annTrees params none env=[]) (hq:qualnameIn env "inner" "inner"=q) (hcl:closureFor scope env=pure clos) (hne:clos ≠ []) (hcode:env.code=.ref c)
  (hx:ns.lookup ("inner":Str)=some .cell) (hci:env.cells.lookup ("inner":Str)=some ci) (nx:PEnv.get ρ (enc "inner")=none)
  (h:∀ f c' pm ctv h₂ tk,¬ Live s.heap f→¬ cx.T f→¬ cx.T c'→Ext cx (WW cx env own ow) s.heap h₂→InS cx m A env ns Hx own ow ρ h₂→h₂.get? f=some (fnMade "inner" q params body scope clos .none pm c' ctv)→h₂.CodeRec (.ref c') q→h₂.IsCell ci (some (.ref f))→Q .next { s with heap:=h₂,toks:=tk }) :
  wpAny (model cx.prog cx.w) A (exec (.FunctionDef "inner" params body [] none [] scope none "inner" pos) env) Q E s:=by
 obtain ⟨hd0,k⟩:=Prod.mk.inj hp
 obtain ⟨hk0,hdoc⟩:=Prod.mk.inj k
 refine nestDef_K hd0 hk0 ha ?_
 rw [hq]
 refine nest_make (mg:=cx.mg) hcl hne I.glob (cx.ns_g _ I.cn.gi) hcode (T.code _ I.cn.gi) (T.tab _ I.cn.gi) hdoc T.ne (T.blt _ I.cn.gi) fun f c' ctv h₁ tk k nl hf hrec htab nfP=>?_
 have e₁:=T.ext _ _ I.cn.gi k htab
 have I₁:=I.ext e₁
 have fT:¬ cx.T f:=fun t=>nl (cx.ga_live _ _ I.cn.gi (cx.bGA _ (cx.tB _ t)))
 have cT:¬ cx.T c':=fun t=>by
  by_cases z:c'=P
  ·exact htab.noRec (z ▸ hrec)
  ·exact T.noT _ _ I₁.cn.gi t z _ hrec
 refine store_name (s:={ s with heap:=h₁,toks:=tk }) I₁ (.inr hx) fun b h₂ t₂ hb k₂ hn hc hv ho=>?_
 have e₂:=(I₁.turned hb k₂ (bound_live hb hn hc)).1
 have nfb:f ≠ b:=fun z=>nl (z ▸ hb.elim (fun z=>z ▸ I.frame_live.1) (I.frame_live.2 b))
 have ncb:c' ≠ b:=fun z=>by
  obtain ⟨c₁,o,vs,t,e,f1,f2,_⟩:=hrec
  obtain rfl:=Value.ref.inj e
  rcases hb with q|q
  ·obtain ⟨mm,o',es,ep,g,d,_⟩:=I₁.nsl
   obtain rfl:=Option.some.inj ((z ▸ q ▸ g).symm.trans f1)
   exact nomatch d.symm.trans f2
  ·obtain ⟨v,o',g,d⟩:=I₁.cells b q
   obtain rfl:=Option.some.inj ((z ▸ g).symm.trans f1)
   exact nomatch d.symm.trans f2
 have hcell:h₂.IsCell ci (some (.ref f)):=by
  rcases hv with ⟨kl,_⟩|⟨_,c₁,h1,h2⟩
  ·exact nomatch (I.cel _ hx).1.symm.trans kl
  ·exact Option.some.inj (hci.symm.trans h1) ▸ h2
 exact h f c' _ ctv h₂ t₂ nl fT cT (WW_trans (WW_of_ext e₁) (fun j a q=>.inl ⟨j,q⟩) e₂) (I₁.unseen nx hb k₂ hn hc ho) (k₂ _ _ nfb hf) (CodeRec_map hrec fun o=>k₂ _ o ncb) hcell
noncomputable def WO (cx:Cx) (O:Hid):Hid:=fun a=>cx.T a∨O a
theorem inn_of (I:InS cx m A env ns Hx own ow ρ s.heap) {f c':Addr} {pm ctv:Value} {ql:Str} {clos:List (Str × Addr)} {q:Nst} {names:List Str} {O:Hid} (bind:∀ vals:List Value,vals.length=names.length→bindArgs (fdOf (fnMade "inner" ql q.1 q.2.1 q.2.2.1 clos .none pm c' ctv)) ⟨vals,[]⟩=pure (names.zip vals))
  (hO:∀ a,O a→∃ k,ow k a) (fT:¬ cx.T f) (cT:¬ cx.T c') (fO:¬ O f) (cO:¬ O c') (hcl:∀ p∈clos,env.cells.lookup p.1=some p.2):Inn cx (WO cx O) (HA Hx env own ow) f (fdOf (fnMade "inner" ql q.1 q.2.1 q.2.2.1 clos .none pm c' ctv)) q names :=
 ⟨rfl,rfl,rfl,rfl,bind,fun _=>.inl,fun a w=>w.elim (fun t=>.inl (I.cn.tH a t)) fun o=>(by obtain ⟨k,q⟩:=hO a o;exact .inr (.inr (.inr ⟨k,id,q⟩))),fun w=>w.elim fT fO,⟨c',rfl,fun w=>w.elim cT cO⟩,fun m c e=>by
  have hc:=hcl _ (mem_of_lookup e)
  by_cases oc:own c
  ·refine ⟨.inr (.inr (.inl oc)),fun w=>w.elim (I.noT.2 _ _ hc) fun o=>?_⟩
   obtain ⟨k,q⟩:=hO c o
   exact (I.owL k c q).2.2.2.1 oc
  ·obtain ⟨h1,h2⟩:=I.outer _ _ hc oc
   refine ⟨.inl h1,fun w=>w.elim h2 fun o=>?_⟩
   obtain ⟨k,q⟩:=hO c o
   exact (I.owL k c q).2.1 h1⟩
noncomputable def FreeAt (env:Env) (ns:Ns) (q:Nst) (clos:List (Str × Addr)) (x:Str):Prop:=(q.2.2.1.names.lookup x=some .free∧(x == ("__classdict__":Str))=false)∧ns.lookup x=some .cell∧clos.lookup x=env.cells.lookup x
theorem cell_of (I:InS cx m A env ns Hx own ow ρ s.heap) {x:Str} {v:Value} (hx:ns.lookup x=some .cell) (hv:VarAt s.heap env x v):∃ c,env.cells.lookup x=some c∧s.heap.IsCell c (some v):=by
 rcases hv with ⟨kl,_⟩|⟨_,c,h1,h2⟩
 ·exact nomatch (I.cel _ hx).1.symm.trans kl
 ·exact ⟨c,h1,h2⟩
theorem inns_of (I:InS cx m A env ns Hx own ow ρ s.heap) {f c' ci:Addr} {pm ctv:Value} {ql:Str} {clos:List (Str × Addr)} {q:Nst} {ρf:PEnv} (hf:s.heap.get? f=some (fnMade "inner" ql q.1 q.2.1 q.2.2.1 clos .none pm c' ctv)) (hrec:s.heap.CodeRec (.ref c') ql) (hci:clos.lookup ("inner":Str)=some ci) (hcell:s.heap.IsCell ci (some (.ref f)))
  (hρ:∀ x b p,okN x=true→PEnv.get ρf (enc x)=some (b,p)→b=false∧PEnv.get ρ (enc x)=some (false,p)∧FreeAt env ns q clos x):InnS cx (HA Hx env own ow) f (fdOf (fnMade "inner" ql q.1 q.2.1 q.2.2.1 clos .none pm c' ctv)) ρf s.heap :=
 ⟨I.cnH _,⟨_,hf,rfl⟩,hrec,⟨ci,hci,hcell⟩,fun x b p ok g=>by
  obtain ⟨hb,h1,⟨h2,h3⟩,h4,h5⟩:=hρ x b p ok g
  obtain ⟨v,hv,h6,_⟩:=I.vars x false p ok h1
  obtain ⟨c,h7,h8⟩:=cell_of I h4 hv
  exact ⟨hb,h2,h3,c,v,h5.trans h7,h8,h6 rfl⟩⟩
end
theorem RepAll.scalars {cx:Cx} {h h':Heap} {H H':Hid}:∀ {ps:List PV} {vs:List Value},RepAll cx h H vs ps→ps.all PV.scalar=true→RepAll cx h' H' vs ps
 | [],_,r,_=>r
 | p :: ps,_,r,k=>by
  obtain ⟨v,ws,rfl,a,r⟩:=r.cons'
  obtain ⟨h1,h2⟩:=band (show (p.scalar && ps.all PV.scalar)=true from k)
  exact .cons (a.scalar h1) (RepAll.scalars r h2)
end Mine
end
section
set_option maxRecDepth 100000
open PySem PySem.Calls PyProof.Rows PySem.W
set_option genSizeOf false
set_option genInjectivity false
namespace Mine
noncomputable def innN:Nat:=31085819882
noncomputable def len0 (x:Nat):List PE:=[.lit (.int 0),.bi .len [.var x]]
noncomputable def dgN:Nat:=4017360614757
noncomputable def d2v (ρ:PEnv) (b:Bool):Option PV:=match b with
 | true=>ob (evL S0 ρ (len0 dgN)) fun as=>ogo (as.all PV.scalar) (d2 ρ 60 as)
 | false=>some (.int 0)
noncomputable def d2V (ps:List PV):Option PV:=ob (zipE [dgN,111] ps) fun ρ=>ogo (PEnv.get ρ innN).isNone (ob (S0.ts ρ (.tv (.var dgN))) (d2v ρ))
noncomputable def z8:Expr:=kidS ((fB 6).getD 1 stD) 0
theorem body8:fB 6=[.FunctionDef "inner" n8.1 n8.2.1 [] none [] n8.2.2.1 none "inner" n8.2.2.2,.Return (some (.IfExp (kid z8 0) (inC (kid z8 1)) (kid z8 2) z8.pos)) ((fB 6).getD 1 stD).pos]:=by kernel_rfl
noncomputable def qual8:Str:="_digits2int.<locals>.inner"
noncomputable def qual7:Str:="_int2digits.<locals>.inner"
section
variable (P:Params) (L f c':Addr) (pm ctv:Value)
noncomputable def env8:Env:=callEnvC (fdOf (objAt P 49)) L 49
noncomputable def env7:Env:=callEnvC (fdOf (objAt P 42)) L 42
noncomputable def clos8:List (Str × Addr):=[("n",L+2),("inner",L+3),("digits",L+1)]
noncomputable def clos7:List (Str × Addr):=[("n",L+1),("inner",L+3),("a_digits",L+2)]
theorem q8_eq:qualnameIn (env8 P L) "inner" "inner"=qual8:=by kernel_rfl
theorem q7_eq:qualnameIn (env7 P L) "inner" "inner"=qual7:=by kernel_rfl
theorem cd8:(env8 P L).code=.ref 48:=by kernel_rfl
theorem cd7:(env7 P L).code=.ref 41:=by kernel_rfl
theorem an8:annTrees n8.1 none (env8 P L)=[]:=by kernel_rfl
theorem an7:annTrees n7.1 none (env7 P L)=[]:=by kernel_rfl
theorem cf8:closureFor n8.2.2.1 (env8 P L)=pure (clos8 L):=by kernel_rfl
theorem cf7:closureFor n7.2.2.1 (env7 P L)=pure (clos7 L):=by kernel_rfl
theorem cs_8:∀ p∈clos8 L,(env8 P L).cells.lookup p.1=some p.2:=List.forall_mem_cons.mpr ⟨by kernel_rfl,List.forall_mem_cons.mpr ⟨by kernel_rfl,List.forall_mem_cons.mpr ⟨by kernel_rfl,fun _ h=>nomatch h⟩⟩⟩
theorem cs_7:∀ p∈clos7 L,(env7 P L).cells.lookup p.1=some p.2:=List.forall_mem_cons.mpr ⟨by kernel_rfl,List.forall_mem_cons.mpr ⟨by kernel_rfl,List.forall_mem_cons.mpr ⟨by kernel_rfl,fun _ h=>nomatch h⟩⟩⟩
theorem pt8:(n8.1.defaults,n8.1.kw_defaults,docOf n8.2.1)=([],[],none):=by kernel_rfl
theorem pt7:(n7.1.defaults,n7.1.kw_defaults,docOf n7.2.1)=([],[],none):=by kernel_rfl
theorem sc8:(fdOf (objAt P 49)).scope=fS 6:=by kernel_rfl
theorem sc7:(fdOf (objAt P 42)).scope=fS 5:=by kernel_rfl
theorem ix8:(fS 6).names.lookup ("inner":Str)=some .cell:=by kernel_rfl
theorem ix7:(fS 5).names.lookup ("inner":Str)=some .cell:=by kernel_rfl
theorem ax7:(fS 5).names.lookup ("a_digits":Str)=some .cell:=by kernel_rfl
theorem ei:enc "inner"=innN:=by kernel_rfl
theorem free8:∀ x∈(["digits","n"]:List Str),FreeAt (env8 P L) (fS 6).names n8 (clos8 L) x:=List.forall_mem_cons.mpr ⟨⟨⟨by kernel_rfl,by decide⟩,by kernel_rfl,by kernel_rfl⟩,List.forall_mem_cons.mpr ⟨⟨⟨by kernel_rfl,by decide⟩,by kernel_rfl,by kernel_rfl⟩,fun _ h=>nomatch h⟩⟩
theorem free7:FreeAt (env7 P L) (fS 5).names n7 (clos7 L) "n":=⟨⟨by kernel_rfl,by decide⟩,by kernel_rfl,by kernel_rfl⟩
theorem bind8:∀ vals:List Value,vals.length=(["L","R"]:List Str).length→bindArgs (fdOf (fnMade "inner" qual8 n8.1 n8.2.1 n8.2.2.1 (clos8 L) .none pm c' ctv)) ⟨vals,[]⟩=pure ((["L","R"]:List Str).zip vals) :=
 bind_2 fun a b=>show bindArgs (fdOf (fnMade "inner" qual8 n8.1 n8.2.1 n8.2.2.1 (clos8 L) .none pm c' ctv)) ⟨[a,b],[]⟩=pure [(("L":Str),a),(("R":Str),b)] by kernel_rfl
theorem bind7:∀ vals:List Value,vals.length=(["x","L","R"]:List Str).length→bindArgs (fdOf (fnMade "inner" qual7 n7.1 n7.2.1 n7.2.2.1 (clos7 L) .none pm c' ctv)) ⟨vals,[]⟩=pure ((["x","L","R"]:List Str).zip vals) :=
 bind_3 fun a b c=>show bindArgs (fdOf (fnMade "inner" qual7 n7.1 n7.2.1 n7.2.2.1 (clos7 L) .none pm c' ctv)) ⟨[a,b,c],[]⟩=pure [(("x":Str),a),(("L":Str),b),(("R":Str),c)] by kernel_rfl
end
theorem ct8:CT (fS 6).names (kid z8 0) (.tv (.var dgN)):=⟨20,by kernel_rfl⟩
theorem c08:CE (fS 6).names (kid z8 2) (.lit (.int 0)):=⟨2,by kernel_rfl⟩
theorem ca8:CEs (fS 6).names (argsE (kid z8 1)) (len0 dgN):=⟨20,by kernel_rfl⟩
theorem en8':(["digits","n"]:List Str).map enc=[dgN,111]:=by kernel_rfl
section
variable {cx:Cx} {P:Params}
theorem sp_d2 (K:C02 cx P) (T:TabIn cx 48 44 n8.2.2.2 qual8) {ps:List PV} {r:PV} (hr:d2V ps=some r):CallOk cx 200 (.ref 49) ps r:=by
 intro A E s H Q vs room cn x h
 refine ob_e hr fun ρ hz hr=>?_
 obtain ⟨hn,hr⟩:=ogo_i hr
 refine ob_e hr fun b hb hr=>?_
 have T0:=t0_ok K
 obtain ⟨S,AC⟩:=all_ok T0 10
 refine fun_enter (n:=10) (fn_digits2int K) (room.le (by decide)) cn x hz fun h₁ t₁ E' es hW I=>?_
 have hget:=(zipE_get (names:=["digits","n"]) (List.forall_mem_cons.mpr ⟨by kernel_rfl,List.forall_mem_cons.mpr ⟨by kernel_rfl,fun _ h=>nomatch h⟩⟩) x (by rw [en8'];exact hz)).2
 rw [sc8] at I
 rw [body8]
 have lk:(env8 P s.heap.objs.size).cells.lookup ("inner":Str)=some (s.heap.objs.size+3):=cs_8 _ _ _ (.tail _ (.head _))
 refine wpAny_execs_cons (def_inner (s:={ s with heap:=h₁,toks:=t₁ }) I T pt8 (an8 _ _) (q8_eq _ _) (cf8 _ _) (List.cons_ne_nil _ _) (cd8 _ _) ix8 lk (by rw [ei];exact Option.isNone_iff_eq_none.mp hn) fun f c' pm ctv h₃ t₃ nl fT cT e₃ I₃ hf hrec hcell=>?_)
 have Z:=inn_of (s:={ s with heap:=h₃,toks:=t₃ }) I₃ (O:=fun _=>False) (bind8 s.heap.objs.size c' pm ctv) (fun _ q=>q.elim) fT cT id id (cs_8 P _)
 have J:=inns_of (s:={ s with heap:=h₃,toks:=t₃ }) I₃ hf hrec (by kernel_rfl) hcell (ρf:=ρ) fun y b p ok g=>(by
  obtain ⟨rfl,v,hv,_⟩:=hget y b p ok g
  exact ⟨rfl,g,free8 _ _ _ (List.of_mem_zip hv).1⟩)
 have I₀:=I₃.ofAll (s:={ s with heap:=h₃,toks:=t₃ })
 have e₃:=es.into e₃ hW
 refine wpAny_execs_cons (wpAny_Return_some (wpAny_IfExp (S.ts ct8 I₀ hb fun h₄ t₄ e₄=>?_)))
 have I₄:=I₀.ext (tk':=t₄) e₄
 induction b using Bool.casesOn with
 | false =>
  rw [if_neg Bool.false_ne_true]
  obtain rfl:=Option.some.inj hr
  exact S.ev c08 I₄ (p:=.int 0) rfl fun v h₅ t₅ e₅ r₅ _=>h.plain (e₃.trans (e₄.trans e₅)) (r₅.scalar rfl)
 | true =>
  rw [if_pos rfl]
  refine ob_e hr fun as has hr=>?_
  obtain ⟨hs,hr⟩:=ogo_i hr
  refine callF (s:={ s with heap:=h₄,toks:=t₄ }) S.toSndN I₄ (fun h' e=>FnAt_of ((e₄.trans e).keep _ _ fT hf) rfl) (fun hq=>wpAny_Name (wpAny_loadName_cell I₄.kind ((I₃.cel _ ix8).1) lk (IsCell_map hcell fun o=>e₄.keep _ o fun t=>(I₃.noT.2 _ _ lk) t) hq) (by decide)) ca8 has fun vs h₅ t₅ e₅ r₅=>?_
  refine d2_ok T0 Z 60 as r hr (s:={ s with heap:=h₅,toks:=t₅ }) (Room.deeper (room.le (by decide))) (J.ext Z (.of (e₄.trans e₅) Z.tW)) (r₅.scalars hs) fun v h₆ t₆ e₆ r₆=>?_
  exact h.plain ((e₃.trans (e₄.trans e₅)).into e₆.ext fun a w=>w.elim .inl False.elim) (r₆.open' fun a q=>.inl q)
end
end Mine
end
section
set_option maxRecDepth 100000
open PySem PySem.Calls PyProof.Rows PySem.W
set_option genSizeOf false
set_option genInjectivity false
namespace Mine
noncomputable def pre70:List PS:=[.assign aN (.bin .mul (.list [.lit (.int 0)]) (.bin .fdiv (.bin .sub (.bin .add (.meth .bitLength (.var 98) []) (.var 111)) (.lit (.int 1))) (.var 111))) [98,111]]
noncomputable def arg7:List PE:=[.var 98,.lit (.int 0),.bi .len [.var aN]]
noncomputable def i2w (ρ:PEnv) (n:PV) (l:List PV) (b:Bool):Option PV:=match b with
 | true=>ob (evL S0 ρ arg7) fun as=>ogo (as.all PV.scalar) (ob (i2 [(111,false,n)] 60 as l) fun l'=>some (.list l'))
 | false=>some (.list l)
noncomputable def i2v (ρ:PEnv) (fl:Fl):Option PV:=match fl with
 | .next=>ogo (PEnv.get ρ innN).isNone (ob (PEnv.get ρ 111) fun bn=>ogo (!bn.1) (ob (ownL ρ aN) fun l=>ob (S0.ts ρ (.tv (.var 98))) (i2w ρ bn.2 l)))
 | _=>none
noncomputable def i2V (ps:List PV):Option PV:=ob (zipE [98,111] ps) fun ρ=>ob (exL S0 pre70 ρ) fun o=>i2v o.1 o.2
noncomputable def f7 (k:Nat):Stmt:=(fB 5).getD k stD
noncomputable def x7:Stmt:=(ifS (f7 2)).2.getD 0 stD
theorem body7:fB 5=(fB 5).take 1++[.FunctionDef "inner" n7.1 n7.2.1 [] none [] n7.2.2.1 none "inner" n7.2.2.2,.If (ifS (f7 2)).1 [exC x7] [] (f7 2).pos,.Return (some (.Name "a_digits" (kidS (f7 3) 0).pos)) (f7 3).pos]:=by kernel_rfl
theorem cs70:CSs (fS 5).names ((fB 5).take 1) pre70:=⟨20,by kernel_rfl⟩
theorem ct70:CT (fS 5).names (ifS (f7 2)).1 (.tv (.var 98)):=⟨20,by kernel_rfl⟩
theorem ca7:CEs (fS 5).names (argsE (kidS x7 0)) arg7:=⟨20,by kernel_rfl⟩
theorem ea:enc "a_digits"=aN:=by kernel_rfl
theorem en:enc "n"=111:=by kernel_rfl
theorem rec_ls {h:Heap} {c:Addr} {q:Str} {vs:List Value} (y:h.CodeRec (.ref c) q) (x:IsLs h c vs):False:=by
 obtain ⟨c,o,ws,t,e,e1,e2,_⟩:=y
 obtain rfl:=Value.ref.inj e
 obtain ⟨n,x⟩:=x
 obtain rfl:=Option.some.inj (x.symm.trans e1)
 exact nomatch e2
section
variable {cx:Cx} {P:Params}
theorem sp_i2 (K:C02 cx P) (T:TabIn cx 41 37 n7.2.2.2 qual7) {ps:List PV} {r:PV} (hr:i2V ps=some r):CallOk cx 200 (.ref 42) ps r:=by
 intro A E s H Q vs room cn x h
 refine ob_e hr fun ρ₀ hz hr=>ob_e hr fun o ho hr=>?_
 obtain ⟨ρ,fl⟩:=o
 induction fl using Fl.casesOn with
 | ret _=>exact nos hr
 | brk=>exact nos hr
 | next =>
 obtain ⟨hn,hr⟩:=ogo_i hr
 refine ob_e hr fun bn hbn hr=>?_
 obtain ⟨bb,nn⟩:=bn
 obtain ⟨hbb,hr⟩:=ogo_i hr
 obtain rfl:bb=false:=(Bool.not_eq_true' _).mp hbb
 refine ob_e hr fun l hl hr=>ob_e hr fun b hb hr=>?_
 have T0:=t0_ok K
 obtain ⟨S,AC⟩:=all_ok T0 10
 refine fun_enter (n:=10) (fn_int2digits K) (room.le (by decide)) cn x hz fun h₁ t₁ E' es hW I=>?_
 rw [sc7] at I
 rw [body7]
 refine execs_app (exs_ok (s:={ s with heap:=h₁,toks:=t₁ }) T0.toGOk S AC cs70 I ho fun h₂ t₂ ow e₂ sub I₂=>?_)
 have lk:(env7 P s.heap.objs.size).cells.lookup ("inner":Str)=some (s.heap.objs.size+3):=cs_7 _ _ _ (.tail _ (.head _))
 refine wpAny_execs_cons (def_inner (s:={ s with heap:=h₂,toks:=t₂ }) I₂ T pt7 (an7 _ _) (q7_eq _ _) (cf7 _ _) (List.cons_ne_nil _ _) (cd7 _ _) ix7 lk (by rw [ei];exact Option.isNone_iff_eq_none.mp hn) fun f c' pm ctv h₃ t₃ nl fT cT e₃ I₃ hf hrec hcell=>?_)
 obtain ⟨v,hv,_,hv2⟩:=I₃.vars "a_digits" true (.list l) (by kernel_rfl) (by rw [ea];exact ownL_i hl)
 obtain ⟨D,vs,rfl,hD,ls,rl⟩:=hv2 rfl
 have owD:=(hD D).mpr rfl
 obtain ⟨_,nHD,_,_,nGD⟩:=I₃.owL _ _ owD
 obtain ⟨ca,hca,hcD⟩:=cell_of (s:={ s with heap:=h₃,toks:=t₃ }) I₃ ax7 hv
 have Z:=inn_of (s:={ s with heap:=h₃,toks:=t₃ }) I₃ (O:=fun a=>a=D) (bind7 s.heap.objs.size c' pm ctv) (fun a q=>⟨_,(hD a).mpr q⟩) fT cT (fun z=>nl (z ▸ (I₂.owL _ _ owD).1)) (fun z=>rec_ls hrec (z ▸ ls)) (cs_7 P _)
 have J:=inns_of (s:={ s with heap:=h₃,toks:=t₃ }) I₃ hf hrec (by kernel_rfl) hcell (ρf:=[(111,false,nn)]) fun y b p ok g=>(by
  have g:(match Nat.beq (enc y) 111 with|true=>some (false,nn)|false=>none)=some (b,p):=g
  cases q:Nat.beq (enc y) 111 with
  | false=>rw [q] at g;exact nos g
  | true =>
   rw [q] at g
   obtain ⟨rfl,rfl⟩:=Prod.mk.inj (Option.some.inj g)
   obtain rfl:=nm_of ok q "n" (by kernel_rfl) en
   exact ⟨rfl,by rw [en];exact hbn,free7 _ _⟩)
 have L:LsD cx (HA H (env7 P s.heap.objs.size) (ownC (env7 P s.heap.objs.size)) ow) (fdOf (fnMade "inner" qual7 n7.1 n7.2.1 n7.2.2.1 (clos7 s.heap.objs.size) .none pm c' ctv)) D l h₃ :=
  ⟨⟨ca,(show (clos7 s.heap.objs.size).lookup ("a_digits":Str)=(env7 P s.heap.objs.size).cells.lookup ("a_digits":Str) by kernel_rfl).trans hca,hcD⟩,vs,ls,rl⟩
 have I₀:=I₃.ofAll (s:={ s with heap:=h₃,toks:=t₃ })
 have e₀:=es.into (WW_trans e₂ sub e₃) hW
 have fin:∀ {Qf:Flow→Shared→Prop} {Ef:Value→Shared→Prop} (hZ:Heap) (tZ:Nat) (l':List PV),(∀ v s',Q v s'→Qf (.ret v) s')→ExtL cx (WO cx fun a=>a=D) h₃ hZ→LsD cx (HA H (env7 P s.heap.objs.size) (ownC (env7 P s.heap.objs.size)) ow) (fdOf (fnMade "inner" qual7 n7.1 n7.2.1 n7.2.2.1 (clos7 s.heap.objs.size) .none pm c' ctv)) D l' hZ→r=.list l' →
   wpAny (model cx.prog cx.w) (A.deeper (env7 P s.heap.objs.size)) (execs [.Return (some (.Name "a_digits" (kidS (f7 3) 0).pos)) (f7 3).pos] (env7 P s.heap.objs.size)) Qf Ef { s with heap:=hZ,toks:=tZ }:=fun hZ tZ l' hQ eZ LZ hrl=>by
  obtain ⟨_,vs,ls,rl⟩:=LZ
  refine wpAny_execs_cons (wpAny_Return_some (wpAny_Name (wpAny_loadName_cell I₃.kind (I₃.cel _ ax7).1 hca (IsCell_map hcD fun o=>eZ.keep _ o (Z.cl _ _ (L.cell.elim fun _ q=>(by kernel_rfl:(clos7 s.heap.objs.size).lookup ("a_digits":Str)=(env7 P s.heap.objs.size).cells.lookup ("a_digits":Str)).trans hca)).2) ?_) (by decide)))
  subst hrl
  refine hQ _ _ (h.plain (e₀.into eZ.ext fun a w=>w.imp id fun z=>?_) (.list nHD ls (rl.open' fun a q=>.inl q)))
  exact fun q=>(sub _ _ (z ▸ owD)).elim (fun ⟨_,z⟩=>z) fun z=>z (es.live _ q)
 refine wpAny_execs_cons (wpAny_If (S.ts ct70 I₀ hb fun h₄ t₄ e₄=>?_))
 induction b using Bool.casesOn with
 | false =>
  rw [if_neg Bool.false_ne_true]
  exact wpAny_execs_nil (fin h₄ t₄ l (fun _ _ z=>z) (.of e₄ Z.tW) (L.ext Z nGD e₄) (Option.some.inj hr).symm)
 | true =>
  rw [if_pos rfl]
  refine ob_e hr fun as has hr=>?_
  obtain ⟨hs,hr⟩:=ogo_i hr
  refine ob_e hr fun l' hl' hr=>?_
  have I₄:=I₀.ext (tk':=t₄) e₄
  refine wpAny_execs_cons (wpAny_Expr (callF (s:={ s with heap:=h₄,toks:=t₄ }) S.toSndN I₄ (fun h' e=>FnAt_of ((e₄.trans e).keep _ _ fT hf) rfl) (fun hq=>wpAny_Name (wpAny_loadName_cell I₄.kind ((I₃.cel _ ix7).1) lk (IsCell_map hcell fun o=>e₄.keep _ o fun t=>(I₃.noT.2 _ _ lk) t) hq) (by decide)) ca7 has fun vs h₅ t₅ e₅ r₅=>?_) (not_interactive (s:={ s with heap:=h₃,toks:=t₃ }) I₃) (by kernel_rfl))
  refine i2_ok T0 Z nGD (.inr rfl) 60 as l l' hl' (s:={ s with heap:=h₅,toks:=t₅ }) (Room.deeper (room.le (by decide))) (J.ext Z (.of (e₄.trans e₅) Z.tW)) (L.ext Z nGD (e₄.trans e₅)) (r₅.scalars hs) fun h₆ t₆ e₆ L₆=>?_
  exact wpAny_execs_nil (fin h₆ t₆ l' (fun _ _ z=>z) ((ExtL.of (e₄.trans e₅) Z.tW).trans e₆) L₆ (Option.some.inj hr).symm)
end
end Mine
end
section
set_option maxRecDepth 100000
open PySem PySem.Calls PyProof.Rows PySem.W
set_option genSizeOf false
set_option genInjectivity false
namespace Mine
noncomputable def sp02 (x:Nat) (ps:List PV):Option PV:=match Nat.beq x i2N with
 | true=>i2V ps
 | false=>ogo (Nat.beq x d2N) (d2V ps)
theorem sp02_ok {cx:Cx} {P:Params} (K:C02 cx P) (T1:TabIn cx 41 37 n7.2.2.2 qual7) (T2:TabIn cx 48 44 n8.2.2.2 qual8):SpOk cx sp02:=by
 have go:∀ {x:Nat} {ps:List PV} {r:PV},sp02 x ps=some r→(x=i2N∧i2V ps=some r)∨(x=d2N∧d2V ps=some r):=fun {x ps r} h=>by
  have h:(match Nat.beq x i2N with|true=>i2V ps|false=>ogo (Nat.beq x d2N) (d2V ps))=some r:=h
  cases q:Nat.beq x i2N with
  | true=>rw [q] at h;exact .inl ⟨Nat.eq_of_beq_eq_true q,h⟩
  | false =>
   rw [q] at h
   obtain ⟨h1,h2⟩:=ogo_i h
   exact .inr ⟨Nat.eq_of_beq_eq_true h1,h2⟩
 refine ⟨fun x ps r h=>(go h).imp And.left And.left,fun f v ps r ok h hv=>?_⟩
 rcases go h with ⟨e,h⟩|⟨e,h⟩
 ·obtain rfl:=Option.some.inj ((call_at K ok (.tail _ (.head _)) e).2.symm.trans hv)
  exact sp_i2 K T1 h
 ·obtain rfl:=Option.some.inj ((call_at K ok (.tail _ (.tail _ (.head _))) e).2.symm.trans hv)
  exact sp_d2 K T2 h
noncomputable def LL:Lay:={ prog:=PP,C:=197,P1:=37,P2:=44,pos1:=n7.2.2.2,pos2:=n8.2.2.2,q1:=qual7,q2:=qual8 }
theorem str3 (P:Params):(match (objAt P 3).data with | .dict es _=>es.all (fun e=>match e.key with | .str _ _=>true|_=>false)|_=>false)=true:=by kernel_rfl
theorem tabA_i {a:Nat} (h:tabA a=false):a ≠ 37∧a ≠ 44:=by
 constructor
 ·rintro rfl;exact Bool.false_ne_true h.symm
 ·rintro rfl;exact Bool.false_ne_true h.symm
theorem ch1 (P:Params):codeHdIn [(41,objAt P 41)] 41 37=true:=by kernel_rfl
theorem ch2 (P:Params):codeHdIn [(48,objAt P 48)] 48 44=true:=by kernel_rfl
theorem one_in {h:Heap} {a:Addr} {o:Obj} (e:h.get? a=some o):Frag.In [(a,o)] h:=fun b ob q=>by
 rw [List.lookup_cons] at q
 cases z:b == a with
 | true =>
  rw [z] at q
  obtain rfl:=beq_iff_eq.mp z
  rw [e,Option.some.inj q]
 | false=>rw [z] at q;exact nos q
section
variable {w:World} {h₁:Heap} {mg mb:Str→Option Value} {X:AtCall LL h₁ mg mb} (hK:∀ b o,(H1 w.params).get? b=some o→h₁.get? b=some o)
include hK
theorem c02:C02 (cxOf LL w h₁ mg mb X) w.params:=by
 have keep:∀ a o,(H1 w.params).get? a=some o→tabA a=false→∀ h,(cxOf LL w h₁ mg mb X).GI h→h.get? a=some o:=fun a o e n h g=>g.1 a o (tabA_i n).1 (tabA_i n).2 (hK a o e)
 have at3:∀ {a:Nat},kAs.elem a=true→(H1 w.params).get? a=some (objAt w.params a):=fun {a} m=>objAt_eq (band (List.all_eq_true.mp (kAs_live w.params) a (List.mem_of_elem_eq_true m))).1
 exact ⟨keep,fun x=>X.g.agree (ns_of_obj (hK _ _ (at3 (a:=3) rfl)) (str3 _)) x,rfl,⟨_,hK _ _ (at3 (a:=197) rfl)⟩⟩
omit hK in
theorem bm_at {P:Addr} (hP:h₁.get? P=some (tabObj #[])):∀ h,(cxOf LL w h₁ mg mb X).GI h→h.BuiltinsAt mg P:=by
 intro h g
 obtain ⟨bm,ob,e1,e2,e3,e4,e5,e6⟩:=X.bm
 have n:ob.cls ≠ .none:=by rw [e4];intro q;cases q
 refine ⟨bm,ob,e1,e2,fun z=>?_,tab_ne e3 hP n,gi_obj (X:=X) e3 n h g,e4,e5,e6⟩
 obtain ⟨o,es,ep,ho,hd,_⟩:=X.g
 obtain rfl:=Option.some.inj ((z ▸ e3).symm.trans ho)
 exact nomatch e6.symm.trans hd
theorem tab1:TabIn (cxOf LL w h₁ mg mb X) 41 37 n7.2.2.2 qual7:=by
 refine ⟨fun h g=>g.2.1,fun h h' g k t=>⟨fun a o n e=>k a o (fun z=>n (.inl z)) e,fun a _ l=>?_,fun _=>⟨fun a o n1 n2 e=>k a o n1 (g.1 a o n1 n2 e),t,g.2.2.mono (fun o e=>k _ o (fun z=>X.t12 z.symm) e) fun a o c e=>k a o (fun z=>g.2.1.noCd o (show h.get? 37=some o from z ▸ e) c) e⟩⟩,fun h g=>codeHd_of_K (one_in ((c02 (X:=X) hK).at (a:=41) rfl h g)) (ch1 _),by decide,bm_at X.t1,fun h a g t n q r=>t.elim n fun t=>g.2.2.noRec (t ▸ r)⟩
 by_cases z:a=37
 ·exact z ▸ t.live
 ·obtain ⟨o,e⟩:=l
  exact ⟨o,k a o z e⟩
theorem tab2:TabIn (cxOf LL w h₁ mg mb X) 48 44 n8.2.2.2 qual8:=by
 refine ⟨fun h g=>g.2.2,fun h h' g k t=>⟨fun a o n e=>k a o (fun z=>n (.inr z)) e,fun a _ l=>?_,fun _=>⟨fun a o n1 n2 e=>k a o n2 (g.1 a o n1 n2 e),g.2.1.mono (fun o e=>k _ o (fun z=>X.t12 z) e) (fun a o c e=>k a o (fun z=>g.2.2.noCd o (show h.get? 44=some o from z ▸ e) c) e),t⟩⟩,fun h g=>codeHd_of_K (one_in ((c02 (X:=X) hK).at (a:=48) rfl h g)) (ch2 _),by decide,bm_at X.t2,fun h a g t n q r=>t.elim (fun t=>g.2.1.noRec (t ▸ r)) n⟩
 by_cases z:a=44
 ·exact z ▸ t.live
 ·obtain ⟨o,e⟩:=l
  exact ⟨o,k a o z e⟩
theorem law_call {n:Nat} {ps:List PV} {r:PV} (he:(sem (G02 sp02) n).fn 1978733 ps=some r):∃ v,mg "law"=some v∧CallOk (cxOf LL w h₁ mg mb X) (n+60) v ps r:=by
 have K:=c02 (X:=X) hK
 have e:enc "law"=1978733:=by kernel_rfl
 obtain ⟨_,hm⟩:=call_at K (f:="law") (by kernel_rfl) (t:=("law",1978733,244,F_law)) (.tail _ (.tail _ (.tail _ (.tail _ (.tail _ (.tail _ (.tail _ (.tail _ (.tail _ (.tail _ (.tail _ (.tail _ (.tail _ (.tail _ (.tail _ (.tail _ (.head _))))))))))))))))) e
 exact ⟨_,hm,(all_ok (top_ok K (sp02_ok K (tab1 (X:=X) hK) (tab2 (X:=X) hK))) n).1.fn "law" _ ps r (by kernel_rfl) hm (by rw [e];exact he)⟩
end
end Mine
end
section
set_option maxRecDepth 100000
open PySem
set_option genSizeOf false
set_option genInjectivity false
namespace Mine
@[reducible] noncomputable def nI (x:Nat):PV:=.int (x:Int)
theorem log2_le {n k:Nat} (h:n<2 ^ k):Nat.log2 n≤k:=by
 by_cases z:n=0
 ·subst z;exact Nat.zero_le _
 ·exact Nat.le_of_lt ((Nat.log2_lt z).mpr h)
theorem fits_int {i:Int} {k:Nat} (h:i.natAbs<2 ^ k) (hk:k<67108864):fits i=true:=Nat.blt_eq.mpr (Nat.lt_of_le_of_lt (log2_le h) hk)
theorem fits_nat {n k:Nat} (h:n<2 ^ k) (hk:k<67108864):fits (n:Int)=true:=fits_int (show (n:Int).natAbs<_ from h) hk
theorem ble_tr {a b:Nat} (h:a≤b):Nat.ble a b=true:=Nat.ble_eq.mpr h
theorem lo_tr {α:Type} {l:List α} (h:l.length≤1000000):lenOk l=true:=ble_tr h
theorem p2 (k:Nat):0<2 ^ k:=Nat.pow_pos (by decide)
theorem p2_le {a b:Nat} (h:a≤b):2 ^ a≤2 ^ b:=Nat.pow_le_pow_right (by decide) h
theorem ogT {α:Type} {b:Bool} {x:α} (h:b=true):og b x=some x:=by rw [h];rfl
theorem ognF {α:Type} {b:Bool} {x:α} (h:b=false):ogn b x=some x:=by rw [h];rfl
theorem pI (s:Nat):(2:Int) ^ s=((2 ^ s:Nat):Int):=(Int.natCast_pow 2 s).symm
theorem b_shr {x s:Nat} (hs:s≤67108864):binV .shr (nI x) (nI s)=some (nI (x / 2 ^ s)) :=
 (show _=og (Nat.ble s 67108864) (PV.int ((x:Int).fdiv (2 ^ s))) from rfl).trans ((ogT (ble_tr hs)).trans (congrArg (fun i=>some (PV.int i)) (by rw [pI,← Int.ofNat_fdiv])))
theorem b_shl {x s:Nat} (h:Nat.log2 x+1+s≤67108864):binV .shl (nI x) (nI s)=some (nI (x*2 ^ s)) :=
 (show _=og (Nat.ble (Nat.log2 x+1+s) 67108864) (PV.int ((x:Int)*2 ^ s)) from rfl).trans ((ogT (ble_tr h)).trans (congrArg (fun i=>some (PV.int i)) (by rw [pI,← Int.natCast_mul])))
theorem b_mul {a b:Nat} (ha:fits (a:Int)=true) (hb:fits (b:Int)=true):binV .mul (nI a) (nI b)=some (nI (a*b)) :=
 (show _=og (fits a && fits b) (PV.int ((a:Int)*b)) from rfl).trans (ogT (by rw [ha,hb];rfl))
theorem nat_or_shift (x s:Nat):x ||| ((x / 2 ^ s)*2 ^ s)=x:=by
 apply Nat.eq_of_testBit_eq
 intro i
 rw [Nat.testBit_or,← Nat.shiftLeft_eq,← Nat.shiftRight_eq_div_pow,Nat.testBit_shiftLeft,Nat.testBit_shiftRight]
 by_cases h:s≤i
 ·rw [Nat.add_sub_cancel' h,decide_eq_true h,Bool.true_and,Bool.or_self]
 ·rw [decide_eq_false h,Bool.false_and,Bool.or_false]
theorem nat_and_shift (x s:Nat):x &&& ((x / 2 ^ s)*2 ^ s)=(x / 2 ^ s)*2 ^ s:=by
 apply Nat.eq_of_testBit_eq
 intro i
 rw [Nat.testBit_and,← Nat.shiftLeft_eq,← Nat.shiftRight_eq_div_pow,Nat.testBit_shiftLeft,Nat.testBit_shiftRight]
 by_cases h:s≤i
 ·rw [Nat.add_sub_cancel' h,decide_eq_true h,Bool.true_and,Bool.and_self]
 ·rw [decide_eq_false h,Bool.false_and,Bool.and_false]
theorem not_neg (x:Nat):Builtin.bitNot (x:Int)=Int.negSucc x:=by unfold Builtin.bitNot;rw [Int.negSucc_eq,Int.neg_add];rfl
theorem neg_not (x:Nat):Builtin.bitNot (Int.negSucc x)=x:=Int.add_sub_cancel (x:Int) 1
theorem bitOr_nat (x y:Nat):Builtin.bitOr x y=((x ||| y:Nat):Int):=by
 unfold Builtin.bitOr
 rw [not_neg,not_neg]
 show Builtin.bitNot (Builtin.bitNot (((Builtin.bitNot (.negSucc x)).toNat ||| (Builtin.bitNot (.negSucc y)).toNat:Nat):Int))=_
 rw [neg_not x,neg_not y,not_neg,neg_not]
 rfl
theorem b_xor {x s:Nat}:binV .bxor (nI x) (nI (x / 2 ^ s*2 ^ s))=some (nI (x % 2 ^ s)):=by
 refine (show _=some (PV.int (Builtin.bitOr x ((x / 2 ^ s*2 ^ s:Nat):Int) - ((x &&& (x / 2 ^ s*2 ^ s):Nat):Int))) from rfl).trans (congrArg (fun i=>some (PV.int i)) ?_)
 rw [bitOr_nat,nat_or_shift,nat_and_shift]
 exact Int.sub_eq_iff_eq_add.mpr (by rw [← Int.natCast_add,Nat.mod_add_div'])
theorem intBeq_dec (a b:Int):intBeq a b=decide (a=b):=rfl
theorem intBeq_nat (a b:Nat):intBeq (a:Int) (b:Int)=decide (a=b):=by
 rw [intBeq_dec];exact decide_eq_decide.mpr Int.ofNat_inj
end Mine
end
section
set_option maxRecDepth 100000
open PySem
set_option genSizeOf false
set_option genInjectivity false
namespace Mine
theorem obs {α β:Type} {o:Option α} {f:α→Option β} {a:α} {x:Option β} (h:o=some a) (h2:f a=x):ob o f=x:=by rw [h];exact h2
section
variable {r:Rc} {ρ ρ':PEnv} {l:List PS} {s:PS} {v:PV} {x:Nat} {e:PE} {oc:List Nat} {q:Option (PEnv × Fl)}
theorem exL_n (h:exS r ρ s=some (ρ',.next)) (h2:exL r l ρ'=q):exL r (s :: l) ρ=q:=obs h h2
theorem exL_r (h:exS r ρ s=some (ρ',.ret v)):exL r (s :: l) ρ=some (ρ',.ret v):=obs h rfl
theorem exL_1 (h:exS r ρ s=some (ρ',.next)):exL r [s] ρ=some (ρ',.next):=obs h rfl
theorem exL_app:∀ {l₁:List PS} {ρ:PEnv},exL r l₁ ρ=some (ρ',.next)→exL r l ρ'=q→exL r (l₁++l) ρ=q
 | [],_,h,h2=>(Prod.mk.inj (Option.some.inj h)).1 ▸ h2
 | s :: l₁,ρ,h,h2=>ob_e h fun o ho h=>by
  refine obs ho ?_
  obtain ⟨ρ₁,fl⟩:=o
  induction fl using Fl.casesOn with
  | next=>exact exL_app h h2
  | brk=>exact nomatch (Prod.mk.inj (Option.some.inj h)).2
  | ret v=>exact nomatch (Prod.mk.inj (Option.some.inj h)).2
theorem s_as (h:r.ev (PEnv.only oc ρ) e=some v):exS r ρ (.assign x e oc)=some (PEnv.set (frz v oc ρ) x (freshE e v) v,.next):=obs h rfl
theorem s_rt (h:r.ev (PEnv.only oc ρ) e=some v):exS r ρ (.ret e oc)=some (ρ,.ret v):=obs h rfl
theorem s_un {xs:List Nat} (h:r.ev (PEnv.only oc ρ) e=some v) (h2:bindT xs false v (PEnv.freeze oc ρ)=some ρ'):exS r ρ (.unpack xs e oc)=some (ρ',.next):=obs h (obs h2 rfl)
theorem s_ap {k:List PV} (h:r.ev (PEnv.only oc ρ) e=some v) (h2:ownL (frz v oc ρ) x=some k) (h3:k.length≤1000000):exS r ρ (.append x e oc)=some (PEnv.set (frz v oc ρ) x true (.list (k++[v])),.next):=obs h (obs h2 (ogT (lo_tr h3)))
theorem s_t {c:PE} {a b:List PS} (h:r.ts ρ c=some true) (h2:r.ex ρ a=q):exS r ρ (.if_ c a b)=q:=(show oif (r.ts ρ c) _ _=q by rw [h];exact h2)
theorem s_f {c:PE} {a b:List PS} (h:r.ts ρ c=some false) (h2:r.ex ρ b=q):exS r ρ (.if_ c a b)=q:=(show oif (r.ts ρ c) _ _=q by rw [h];exact h2)
theorem s_for {xs:List Nat} {si b:Bool} {it:PE} {bd els:List PS} {ps:List PV} (h:iterV r (PEnv.only oc ρ) it=some (ps,b)) (h2:forGo r xs si bd els ps (match b with|true=>PEnv.freeze oc ρ|false=>ρ)=q):exS r ρ (.for_ xs si it oc bd els)=q:=obs h (by cases b <;> exact h2)
theorem evL_c {l:List PE} {vs:List PV} (h1:r.ev ρ e=some v) (h2:evL r ρ l=some vs):evL r ρ (e :: l)=some (v :: vs):=obs h1 (obs h2 rfl)
theorem evL_1 (h1:r.ev ρ e=some v):evL r ρ [e]=some [v]:=evL_c h1 rfl
theorem evL_2 {e₂:PE} {v₂:PV} (h1:r.ev ρ e=some v) (h2:r.ev ρ e₂=some v₂):evL r ρ [e,e₂]=some [v,v₂]:=evL_c h1 (evL_1 h2)
theorem evL_3 {e₂ e₃:PE} {v₂ v₃:PV} (h1:r.ev ρ e=some v) (h2:r.ev ρ e₂=some v₂) (h3:r.ev ρ e₃=some v₃):evL r ρ [e,e₂,e₃]=some [v,v₂,v₃]:=evL_c h1 (evL_2 h2 h3)
end
noncomputable abbrev Sm (n:Nat):Rc:=sem (G02 sp02) n
theorem for_inv {k:Nat} {xs:List Nat} {si:Bool} {bd:List PS} {α β:Type} {I:Nat→α→PEnv→Prop} {ok:β→Prop} {g:β→PV} {st:α→β→α}
  (hs:∀ n a b ρ,I (n+1) a ρ→ok b→∃ ρ₁ ρ',bindT xs si (g b) ρ=some ρ₁∧(Sm (k+1)).ex ρ₁ bd=some (ρ',.next)∧I n (st a b) ρ'):∀ (l:List β) (a:α) (ρ:PEnv),I l.length a ρ→(∀ b∈l,ok b)→∃ ρ',forGo (Sm (k+1)) xs si bd [] (l.map g) ρ=some (ρ',.next)∧I 0 (l.foldl st a) ρ'
 | [],_,ρ,h,_=>⟨ρ,rfl,h⟩
 | b :: l,a,ρ,h,hk=>by
  obtain ⟨ρ₁,ρ',h1,h2,h3⟩:=hs _ a b ρ h (hk b (.head _))
  obtain ⟨ρ₂,h4,h5⟩:=for_inv hs l _ ρ' h3 fun c hc=>hk c (.tail _ hc)
  exact ⟨ρ₂,obs h1 (obs h2 h4),h5⟩
theorem comp_inv {r:Rc} {elt:PE} {xs:List Nat} {si:Bool} {ifs:List PE} {β:Type} {I:PEnv→Prop} {ok:β→Prop} {g f:β→PV} {c:β→Bool}
  (hs:∀ b ρ,I ρ→ok b→∃ ρ₁,bindT xs si (g b) ρ=some ρ₁∧allT r ρ₁ ifs=some (c b)∧(c b=true→r.ev ρ₁ elt=some (f b))∧I ρ₁):∀ (l:List β) (ρ:PEnv) (acc:List PV),I ρ→(∀ b∈l,ok b)→acc.length+l.length≤1000000→∃ ρ',gGo r xs si ifs (emL r elt) (l.map g) ρ (.list acc)=some (ρ',.list (acc++(l.filter c).map f))
 | [],ρ,acc,_,_,_=>⟨ρ,(by rw [show (([]:List β).filter c).map f=[] from rfl,List.append_nil];rfl)⟩
 | b :: l,ρ,acc,h,hk,hl=>by
  obtain ⟨ρ₁,h1,h2,h3,h4⟩:=hs b ρ h (hk b (.head _))
  rw [List.length_cons] at hl
  cases hc:c b with
  | true =>
   obtain ⟨ρ',ih⟩:=comp_inv hs l ρ₁ (acc++[f b]) h4 (fun c hc=>hk c (.tail _ hc)) (by rw [List.length_append,List.length_singleton,Nat.add_assoc,Nat.add_comm 1];exact hl)
   refine ⟨ρ',obs h1 ?_⟩
   rw [h2,List.filter_cons,hc]
   rw [List.append_assoc] at ih
   exact obs (show emL r elt ρ₁ (.list acc)=some (ρ₁,.list (acc++[f b])) from obs (h3 hc) (obs rfl (ogT (lo_tr (Nat.le_of_add_right_le hl))))) ih
  | false =>
   obtain ⟨ρ',ih⟩:=comp_inv hs l ρ₁ acc h4 (fun c hc=>hk c (.tail _ hc)) (Nat.le_of_succ_le hl)
   refine ⟨ρ',obs h1 ?_⟩
   rw [h2,List.filter_cons,hc]
   exact ih
theorem comp_all {r:Rc} {elt:PE} {x:Nat} {β:Type} {ρ₀:PEnv} {ok:β→Prop} {g f:β→PV} (hs:∀ b ρ,(ρ=ρ₀∨∃ y,ρ=PEnv.set ρ₀ x false y)→ok b→r.ev (PEnv.set ρ x false (g b)) elt=some (f b)∧∃ y,PEnv.set ρ x false (g b)=PEnv.set ρ₀ x false y) (l:List β) (hl:∀ b∈l,ok b) (h6:l.length≤1000000):∃ ρ',gGo r [x] true [] (emL r elt) (l.map g) ρ₀ (.list [])=some (ρ',.list (l.map f)):=by
 obtain ⟨ρ',h⟩:=comp_inv (r:=r) (elt:=elt) (f:=f) (ok:=ok) (xs:=[x]) (si:=true) (g:=g) (ifs:=[]) (I:=fun ρ=>ρ=ρ₀∨∃ y,ρ=PEnv.set ρ₀ x false y) (c:=fun _=>true) (fun b ρ h ho=>⟨_,rfl,rfl,fun _=>(hs b ρ h ho).1,.inr (hs b ρ h ho).2⟩) l ρ₀ [] (.inl rfl) hl ((Nat.zero_add _).symm ▸ h6)
 rw [List.filter_eq_self.mpr fun _ _=>rfl] at h
 exact ⟨ρ',h⟩
section
variable {n f:Nat} {vs:List PV} {fp:FnP} {v:PV}
theorem fn_pl (h1:sp02 f vs=none) (h2:lookF fnL f=some fp):(Sm (n+1)).fn f vs=runF (Sm n) fp vs:=by
 show om (ogo (Nat.ble 140 n) (sp02 f vs)) some (om (lookF fnL f) (fun fp=>runF (Sm n) fp vs) _)=_
 rw [h1,h2]
 cases Nat.ble 140 n <;> rfl
theorem fn_sp (hn:140≤n) (h1:sp02 f vs=some v):(Sm (n+1)).fn f vs=some v:=by
 show om (ogo (Nat.ble 140 n) (sp02 f vs)) some _=_
 rw [ble_tr hn,h1]
 rfl
theorem run_r {ρ ρ':PEnv} (h1:zipE fp.params vs=some ρ) (h2:exL (Sm n) fp.body ρ=some (ρ',.ret v)):runF (Sm (n+1)) fp vs=some v:=obs h1 (obs h2 rfl)
variable {ρ:PEnv} {e:PE} {l:List PE}
theorem ev_call {q:Option PV} (h1:evL (Sm n) ρ l=some vs) (h2:(Sm n).fn f vs=q):(Sm (n+1)).ev ρ (.call f l)=q:=obs h1 h2
theorem ev_comp {elt iter:PE} {xs:List Nat} {si b:Bool} {ifs:List PE} {caps:List Nat} {ps:List PV} (h1:iterV (Sm n) ρ iter=some (ps,b)) (h2:∃ ρ',gGo (Sm n) xs si ifs (emL (Sm n) elt) ps (PEnv.cap caps ρ) (.list [])=some (ρ',.list vs)):(Sm (n+1)).ev ρ (.comp (.el elt) xs si iter ifs caps)=some (.list vs):=obs h1 (obs (h2.choose_spec:_) rfl)
theorem it_tv {ps:List PV} (h:(Sm n).ev ρ e=some (.list ps)) (hl:ps.length≤1000000):iterV (Sm n) ρ (.tv e)=some (ps,true):=obs h (ogT (lo_tr hl))
theorem ev_cmp {k:CmpK} {a b:PE} {x y:PV} {z:Bool} (h1:(Sm n).ev ρ a=some x) (h2:(Sm n).ev ρ b=some y) (h3:cmpV k x y=some z):(Sm (n+1)).ev ρ (.cmp k a b)=some (.bool z):=obs h1 (obs h2 (obs h3 rfl))
theorem ts_cmp {k:CmpK} {a b:PE} {x y:PV} {z:Bool} (h1:(Sm n).ev ρ a=some x) (h2:(Sm n).ev ρ b=some y) (h3:cmpV k x y=some z):(Sm (n+1)).ts ρ (.cmp k a b)=some z:=obs h1 (obs h2 h3)
theorem ev_bin {k:BinK} {a b:PE} {x y:PV} {q:Option PV} (h1:(Sm n).ev ρ a=some x) (h2:(Sm n).ev ρ b=some y) (h3:binV k x y=q):(Sm (n+1)).ev ρ (.bin k a b)=q:=obs h1 (obs h2 h3)
theorem ev_bi {k:BI} {q:Option PV} (h1:evL (Sm n) ρ l=some vs) (h2:biV k vs=q):(Sm (n+1)).ev ρ (.bi k l)=q:=obs h1 h2
end
noncomputable abbrev nums (c:List Nat):List PV:=c.map nI
theorem nums_len (c:List Nat):(nums c).length=c.length:=List.length_map ..
theorem place_nat {i n:Nat} (h:i<n):place (i:Int) n=some i:=ogT (Nat.blt_eq.mpr h)
theorem seat_nat {α:Type} {l:List α} {i:Nat} (h:i<l.length) (h2:l.length≤1000000):seat (i:Int) l=some i:=obs (place_nat h) (ogT (lo_tr h2))
theorem idx_nums {c:List Nat} {b:Nat} (h:b<c.length) (h2:c.length≤1000000):idxV (.list (nums c)) (nI b)=some (nI (c.getD b 0)):=by
 refine (obs (seat_nat ((nums_len c).symm ▸ h) ((nums_len c).symm ▸ h2)) ?_)
 rw [List.getElem?_map,List.getD_eq_getElem?_getD,List.getElem?_eq_getElem h]
 rfl
theorem idx_tup {c:List Nat} {b:Nat} (h:b<c.length) (h2:c.length≤1000000):idxV (.tup (nums c)) (nI b)=some (nI (c.getD b 0)):=idx_nums h h2
theorem rangeUp_map:∀ (m i:Nat),rangeUp (i:Nat) m=(List.range' i m).map nI
 | 0,_=>rfl
 | m+1,i=>congrArg (nI i :: ·) (rangeUp_map m (i+1))
theorem len_nums {c:List Nat} (h:c.length≤1000000):lenV (.list (nums c))=some (nI c.length):=(ogT (lo_tr ((nums_len c).symm ▸ h))).trans (congrArg (fun n=>some (nI n)) (nums_len c))
noncomputable def total:List Nat→Nat
 | []=>0
 | a :: r=>a+total r
theorem sumV_nums:∀ (c:List Nat) (a:Nat),sumV (nums c) a=some ((a+total c:Nat):Int)
 | [],_=>rfl
 | x :: c,a=>(sumV_nums c (a+x)).trans (by rw [total,Nat.add_assoc])
theorem sum_nums {c:List Nat} (h:c.length≤1000000):biV .sum [.list (nums c)]=some (nI (total c)) :=
 obs (ogT (lo_tr ((nums_len c).symm ▸ h))) (obs (sumV_nums c 0) (by rw [Nat.zero_add]))
end Mine
end
section
set_option maxRecDepth 100000
open PySem
set_option genSizeOf false
set_option genInjectivity false
namespace Mine
noncomputable def evN (q:Nat):List Nat→Nat
 | []=>0
 | a :: r=>a+q*evN q r
theorem evN_app (q:Nat) (b:List Nat):∀ a:List Nat,evN q (a++b)=evN q a+q ^ a.length*evN q b
 | []=>by rw [List.nil_append,evN,Nat.zero_add,List.length_nil,Nat.pow_zero,Nat.one_mul]
 | x :: a=>by rw [List.cons_append,evN,evN_app q b a,evN,List.length_cons,Nat.mul_add,Nat.pow_succ',Nat.mul_assoc,Nat.add_assoc]
theorem cons_lt {a q v n:Nat} (h1:a<q) (h2:v<n):a+q*v<q*n:=Nat.lt_of_lt_of_le (Nat.add_lt_add_right h1 _) (by rw [Nat.add_comm,← Nat.mul_succ];exact Nat.mul_le_mul_left q h2)
theorem evN_lt {n:Nat}:∀ {c:List Nat},(∀ x∈c,x<2 ^ n)→evN (2 ^ n) c<2 ^ (n*c.length)
 | [],_=>p2 _
 | a :: c,h=>by
  rw [evN,List.length_cons,Nat.mul_succ,Nat.pow_add,Nat.mul_comm (2 ^ (n*c.length))]
  exact cons_lt (h a (.head _)) (evN_lt fun x hx=>h x (.tail _ hx))
noncomputable def digF (n:Nat):Nat→Nat→List Nat
 | 0,_=>[]
 | m+1,x=>x % 2 ^ n :: digF n m (x / 2 ^ n)
theorem digF_len (n:Nat):∀ m x,(digF n m x).length=m
 | 0,_=>rfl
 | m+1,x=>congrArg Nat.succ (digF_len n m _)
theorem digF_lt {n:Nat}:∀ {m x:Nat},∀ d∈digF n m x,d<2 ^ n
 | m+1,x,d,h=>by
  rcases List.mem_cons.mp h with rfl|h
  ·exact Nat.mod_lt _ (p2 n)
  ·exact digF_lt d h
theorem digF_val {n:Nat}:∀ {m x:Nat},x<2 ^ (n*m)→evN (2 ^ n) (digF n m x)=x
 | 0,x,h=>(Nat.lt_one_iff.mp h).symm
 | m+1,x,h=>by
  rw [digF,evN,digF_val (Nat.div_lt_of_lt_mul (by rw [← Nat.pow_add,Nat.add_comm,← Nat.mul_succ];exact h)),Nat.mod_add_div]
theorem digF_add (n b:Nat):∀ a x,digF n (a+b) x=digF n a (x % 2 ^ (n*a))++digF n b (x / 2 ^ (n*a))
 | 0,x=>by rw [Nat.zero_add,digF,List.nil_append,Nat.mul_zero,Nat.pow_zero,Nat.div_one]
 | a+1,x=>by
  have e:2 ^ (n*(a+1))=2 ^ n*2 ^ (n*a):=by rw [Nat.mul_succ,Nat.add_comm,Nat.pow_add]
  rw [Nat.succ_add,digF,digF_add n b a,digF,List.cons_append,e,Nat.mod_mul_right_mod,Nat.mod_mul_right_div_self,Nat.div_div_eq_div_mul]
noncomputable def ρD (D:PV) (n:Nat):PEnv:=[(dgN,false,D),(111,false,nI n)]
noncomputable def e8 (L R:Nat) (ρf:PEnv):PEnv:=(77,false,nI L) :: (83,false,nI R) :: ρf
theorem half_lt {m:Nat} (h:2≤m):0<m / 2∧m / 2+(m - m / 2)=m∧0<m - m / 2∧m - m / 2<m∧m / 2<m :=
 have h1:m / 2<m:=Nat.div_lt_self (Nat.lt_of_lt_of_le (by decide) h) (by decide)
 have h0:0<m / 2:=Nat.div_pos h (by decide)
 ⟨h0,Nat.add_sub_cancel' (Nat.le_of_lt h1),Nat.sub_pos_of_lt h1,Nat.sub_lt (Nat.lt_of_lt_of_le (by decide) h) h0,h1⟩
theorem mid_eq (L m:Nat):(L+(L+m)) / 2 ^ 1=L+m / 2:=by
 rw [Nat.pow_one,← Nat.add_assoc,← Nat.two_mul,Nat.mul_add_div (by decide)]
theorem b_mid (L m:Nat):binV .shr (nI (L+(L+m))) (nI 1)=some (nI (L+m / 2)):=(b_shr (by decide)).trans (by rw [mid_eq])
theorem b_sh {L h n:Nat} (hn:n≤20000) (hh:h≤60):binV .mul (.int (((L+h:Nat):Int) - (L:Nat))) (nI n)=some (nI (n*h)):=by
 rw [Int.natCast_add,Int.add_comm,Int.add_sub_cancel,Nat.mul_comm]
 exact b_mul (fits_nat (k:=6) (Nat.lt_of_le_of_lt hh (by decide)) (by decide)) (fits_nat (k:=15) (Nat.lt_of_le_of_lt hn (by decide)) (by decide))
theorem sh_le {n h:Nat} (hn:n≤20000) (hh:h≤60):n*h≤1200000:=Nat.mul_le_mul hn hh
theorem one_dec {L m:Nat}:intBeq ((L:Int)+1) ((L+m:Nat):Int)=decide (m=1):=(intBeq_nat (L+1) (L+m)).trans (decide_eq_decide.mpr ⟨fun e=>(Nat.add_left_cancel e).symm,fun e=>by rw [e]⟩)
theorem d2k_n {rec:List PV→Option PV} {ρ:PEnv} {as bs:List PV} {hi sh a lo r:PV} (h1:evL S0 ρ hi8=some as) (h2:rec as=some hi) (h3:S0.ev ρ (.var 31624705268)=some sh) (h4:binV .shl hi sh=some a) (h5:evL S0 ρ lo8=some bs) (h6:rec bs=some lo) (h7:binV .add a lo=some r):d2k rec ρ .next=some r:=obs h1 (obs h2 (obs h3 (obs h4 (obs h5 (obs h6 h7)))))
theorem d2_spec {D:PV} {n:Nat} {all:List Nat} (hn:n≤20000) (hD:∀ i,i<all.length→idxV D (nI i)=some (nI (all.getD i 0))) :
  ∀ (k:Nat) (A c C:List Nat),all=A++(c++C)→0<c.length→c.length≤k→c.length≤60→(∀ x∈c,x<2 ^ n)→d2 (ρD D n) k [nI A.length,nI (A.length+c.length)]=some (nI (evN (2 ^ n) c))
 | 0,A,c,C,_,h0,h1,_,_=>absurd (Nat.lt_of_lt_of_le h0 h1) (Nat.lt_irrefl 0)
 | k+1,A,c,C,ha,h0,h1,h2,hc=>by
  have ht:S0.ts (e8 A.length (A.length+c.length) (ρD D n)) c7T=some (intBeq ((A.length:Nat)+1) ((A.length+c.length:Nat):Int)):=by kernel_rfl
  rw [one_dec] at ht
  by_cases e:c.length=1
  ·rw [decide_eq_true e] at ht
   obtain ⟨x,rfl⟩:=List.length_eq_one_iff.mp e
   have hv:(sem G0 9).ev (PEnv.only [4017360614757,77] (e8 A.length (A.length+[x].length) (ρD D n))) (.idx (.var 4017360614757) (.var 77))=some (nI x) :=
    (show _=idxV D (nI A.length) by kernel_rfl).trans ((hD _ (by rw [ha,List.length_append];exact Nat.lt_add_of_pos_right (Nat.succ_pos _))).trans (by rw [ha,List.getD_eq_getElem?_getD,List.getElem?_append_right (Nat.le_refl _),Nat.sub_self];rfl))
   exact obs rfl (obs (exL_r (s_t ht (exL_r (s_rt hv)))) rfl)
  ·rw [decide_eq_false e] at ht
   obtain ⟨p1,p2',p3,p4,p5⟩:=half_lt (Nat.lt_of_le_of_ne h0 (Ne.symm e))
   generalize hh:c.length / 2=h at p1 p2' p3 p4 p5
   have hL:(c.take h).length=h:=List.length_take_of_le (Nat.le_of_lt p5)
   have hR:(c.drop h).length=c.length - h:=List.length_drop ..
   have hcc:c.take h++c.drop h=c:=List.take_append_drop h c
   have i1:=d2_spec hn hD k (A++c.take h) (c.drop h) C (by rw [ha,List.append_assoc,← List.append_assoc (c.take h),hcc]) (hR ▸ p3) (hR ▸ Nat.le_of_lt_succ (Nat.lt_of_lt_of_le p4 h1)) (hR ▸ Nat.le_trans (Nat.le_of_lt p4) h2) fun x hx=>hc x (List.mem_of_mem_drop hx)
   have i2:=d2_spec hn hD k A (c.take h) (c.drop h++C) (by rw [ha,← List.append_assoc (c.take h),hcc]) (by rw [hL];exact p1) (by rw [hL];exact Nat.le_of_lt_succ (Nat.lt_of_lt_of_le p5 h1)) (by rw [hL];exact Nat.le_trans (Nat.le_of_lt p5) h2) fun x hx=>hc x (List.mem_of_mem_take hx)
   rw [List.length_append,hL,hR,Nat.add_assoc,p2'] at i1
   rw [hL] at i2
   have hb:=evN_lt (n:=n) (c:=c.drop h) fun x hx=>hc x (List.mem_of_mem_drop hx)
   have hm:S0.ev (PEnv.only [77,83] (e8 A.length (A.length+c.length) (ρD D n))) (.bin .shr (.bin .add (.var 77) (.var 83)) (.lit (.int 1)))=some (nI (A.length+h)):=(show _=binV .shr (nI (A.length+(A.length+c.length))) (nI 1) by kernel_rfl).trans (hh ▸ b_mid _ _)
   have hs:S0.ev (PEnv.only [1668462,77,111] (e8 A.length (A.length+c.length) (ρD D n++[(1668462,false,nI (A.length+h))]))) (.bin .mul (.bin .sub (.var 1668462) (.var 77)) (.var 111))=some (nI (n*h)) :=
    (show _=binV .mul (.int (((A.length+h:Nat):Int) - (A.length:Nat))) (nI n) by kernel_rfl).trans (b_sh hn (Nat.le_trans (Nat.le_of_lt p5) h2))
   refine obs rfl (obs (exL_n (s_f ht rfl) (exL_n (s_as hm) (exL_1 (s_as hs)))) ?_)
   refine d2k_n (as:=[nI (A.length+h),nI (A.length+c.length)]) (sh:=nI (n*h)) (bs:=[nI A.length,nI (A.length+h)]) (by kernel_rfl) i1 (by kernel_rfl) (b_shl (Nat.le_trans (Nat.add_le_add (Nat.add_le_add_right (log2_le hb) 1) (sh_le hn (Nat.le_trans (Nat.le_of_lt p5) h2))) ?_)) (by kernel_rfl) i2 ?_
   ·rw [hR]
    exact Nat.le_trans (Nat.add_le_add_right (Nat.add_le_add_right (sh_le hn (Nat.le_trans (Nat.le_of_lt p4) h2)) 1) _) (by decide)
   ·have:=evN_app (2 ^ n) (c.drop h) (c.take h)
    rw [hcc,hL,← Nat.pow_mul] at this
    rw [this,Nat.add_comm,Nat.mul_comm]
    rfl
end Mine
end
section
set_option maxRecDepth 100000
open PySem
set_option genSizeOf false
set_option genInjectivity false
namespace Mine
theorem nums_app (a b:List Nat):nums (a++b)=nums a++nums b:=List.map_append
noncomputable def e7 (x L R n:Nat):PEnv:=[(121,false,nI x),(77,false,nI L),(83,false,nI R),(111,false,nI n)]
theorem i2n_n {rec:List PV→List PV→Option (List PV)} {ρ:PEnv} {l l₁:List PV} {as bs:List PV} {q:Option (List PV)} (h1:evL S0 ρ lo7=some as) (h2:rec as l=some l₁) (h3:evL S0 ρ hi7=some bs) (h4:rec bs l₁=q):i2n rec ρ l .next=q:=obs h1 (obs h2 (obs h3 h4))
theorem i2_spec {n:Nat} (hn:n≤20000):∀ (k x:Nat) (A Z C:List PV),0<Z.length→Z.length≤k→Z.length≤60→x<2 ^ (n*Z.length)→(A++(Z++C)).length≤1000000 →
  i2 [(111,false,nI n)] k [nI x,nI A.length,nI (A.length+Z.length)] (A++(Z++C))=some (A++(nums (digF n Z.length x)++C))
 | 0,_,_,_,_,h0,h1,_,_,_=>absurd (Nat.lt_of_lt_of_le h0 h1) (Nat.lt_irrefl 0)
 | k+1,x,A,Z,C,h0,h1,h2,hx,hl=>by
  have ht:S0.ts (e7 x A.length (A.length+Z.length) n) c7T=some (intBeq ((A.length:Nat)+1) ((A.length+Z.length:Nat):Int)):=by kernel_rfl
  rw [one_dec] at ht
  by_cases e:Z.length=1
  ·rw [decide_eq_true e] at ht
   obtain ⟨z,rfl⟩:=List.length_eq_one_iff.mp e
   refine obs rfl (obs ht ?_)
   refine (show i2k _ _ _ true=_ from obs (a:=nI x) (by kernel_rfl) (obs (a:=nI A.length) (by kernel_rfl) (obs (a:=(A.length:Int)) rfl (obs (a:=A.length) rfl (obs (seat_nat (by rw [List.length_append];exact Nat.lt_add_of_pos_right (Nat.succ_pos _)) hl) rfl))))).trans ?_
   rw [List.set_append_right _ _ (Nat.le_refl _),Nat.sub_self,List.length_singleton,digF,Nat.mod_eq_of_lt (by simpa using hx)]
   rfl
  ·rw [decide_eq_false e] at ht
   obtain ⟨p1,p2',p3,p4,p5⟩:=half_lt (Nat.lt_of_le_of_ne h0 (Ne.symm e))
   generalize hh:Z.length / 2=h at p1 p2' p3 p4 p5
   have hL:(Z.take h).length=h:=List.length_take_of_le (Nat.le_of_lt p5)
   have hR:(Z.drop h).length=Z.length - h:=List.length_drop ..
   have hz:Z.take h++Z.drop h=Z:=List.take_append_drop h Z
   have hs60:=sh_le hn (Nat.le_trans (Nat.le_of_lt p5) h2)
   have hlo:x % 2 ^ (n*h)<2 ^ (n*h):=Nat.mod_lt _ (p2 _)
   have hup:x / 2 ^ (n*h)<2 ^ (n*(Z.length - h)):=Nat.div_lt_of_lt_mul (by rw [← Nat.pow_add,← Nat.mul_add,p2'];exact hx)
   have hd:=digF_len n h (x % 2 ^ (n*h))
   have i1:=i2_spec hn k (x % 2 ^ (n*h)) A (Z.take h) (Z.drop h++C) (by rw [hL];exact p1) (by rw [hL];exact Nat.le_of_lt_succ (Nat.lt_of_lt_of_le p5 h1)) (by rw [hL];exact Nat.le_trans (Nat.le_of_lt p5) h2) (by rw [hL];exact hlo) (by rw [← List.append_assoc (Z.take h),hz];exact hl)
   rw [← List.append_assoc (Z.take h),hz,hL] at i1
   have hA:(A++nums (digF n h (x % 2 ^ (n*h)))).length=A.length+h:=by rw [List.length_append,nums_len,hd]
   have i2':=i2_spec hn k (x / 2 ^ (n*h)) (A++nums (digF n h (x % 2 ^ (n*h)))) (Z.drop h) C (by rw [hR];exact p3) (by rw [hR];exact Nat.le_of_lt_succ (Nat.lt_of_lt_of_le p4 h1)) (by rw [hR];exact Nat.le_trans (Nat.le_of_lt p4) h2) (by rw [hR];exact hup)
    (by rw [List.length_append,hA,List.length_append,hR,← Nat.add_assoc,Nat.add_assoc A.length,p2',Nat.add_assoc,← List.length_append,← List.length_append];exact hl)
   rw [hA,hR,Nat.add_assoc,p2',List.append_assoc,List.append_assoc] at i2'
   have hm:S0.ev (PEnv.only [77,83] (e7 x A.length (A.length+Z.length) n)) (.bin .shr (.bin .add (.var 77) (.var 83)) (.lit (.int 1)))=some (nI (A.length+h)):=(show _=binV .shr (nI (A.length+(A.length+Z.length))) (nI 1) by kernel_rfl).trans (hh ▸ b_mid _ _)
   have hs:S0.ev (PEnv.only [1668462,77,111] (e7 x A.length (A.length+Z.length) n++[(1668462,false,nI (A.length+h))])) (.bin .mul (.bin .sub (.var 1668462) (.var 77)) (.var 111))=some (nI (n*h)) :=
    (show _=binV .mul (.int (((A.length+h:Nat):Int) - (A.length:Nat))) (nI n) by kernel_rfl).trans (b_sh hn (Nat.le_trans (Nat.le_of_lt p5) h2))
   have hu:S0.ev (PEnv.only [121,31624705268] (e7 x A.length (A.length+Z.length) n++[(1668462,false,nI (A.length+h)),(31624705268,false,nI (n*h))])) (.bin .shr (.var 121) (.var 31624705268))=some (nI (x / 2 ^ (n*h))) :=
    (show _=binV .shr (nI x) (nI (n*h)) by kernel_rfl).trans (b_shr (Nat.le_trans hs60 (by decide)))
   have hw:S0.ev (PEnv.only [121,31085852918,31624705268] (e7 x A.length (A.length+Z.length) n++[(1668462,false,nI (A.length+h)),(31624705268,false,nI (n*h)),(31085852918,false,nI (x / 2 ^ (n*h)))])) (.bin .bxor (.var 121) (.bin .shl (.var 31085852918) (.var 31624705268)))=some (nI (x % 2 ^ (n*h))):=by
    refine (show _=ob (binV .shl (nI (x / 2 ^ (n*h))) (nI (n*h))) (fun y=>binV .bxor (nI x) y) by kernel_rfl).trans (obs (b_shl (Nat.le_trans (Nat.add_le_add (Nat.add_le_add_right (log2_le hup) 1) hs60) ?_)) b_xor)
    exact Nat.le_trans (Nat.add_le_add_right (Nat.add_le_add_right (sh_le hn (Nat.le_trans (Nat.le_of_lt p4) h2)) 1) _) (by decide)
   refine obs rfl (obs ht ?_)
   refine (show i2k _ _ _ false=_ from obs (exL_n (s_as hm) (exL_n (s_as hs) (exL_n (s_as hu) (exL_1 (s_as hw))))) (i2n_n (as:=[nI (x % 2 ^ (n*h)),nI A.length,nI (A.length+h)]) (bs:=[nI (x / 2 ^ (n*h)),nI (A.length+h),nI (A.length+Z.length)]) (by kernel_rfl) i1 (by kernel_rfl) i2')).trans ?_
   have:=digF_add n (Z.length - h) h x
   rw [p2'] at this
   rw [this,nums_app,List.append_assoc]
noncomputable def bits (a:Nat):Nat:=Builtin.Int.intBits (a:Int)
noncomputable def ndig (a n:Nat):Nat:=(bits a+n - 1) / n
theorem nbits_le {a k:Nat} (h:a<2 ^ k):bits a≤k:=by
 show (if _ then _ else _)≤k
 split
 ·exact Nat.zero_le _
 ·rename_i z
  exact (Nat.log2_lt (n:=a) fun e=>z (by rw [e];rfl)).mpr h
theorem lt_bits (a:Nat):a<2 ^ bits a:=by
 show a<2 ^ (if _ then _ else _)
 split
 ·rename_i z
  rw [show a=0 from Int.ofNat.inj (eq_of_beq z)]
  exact p2 _
 ·exact Nat.lt_log2_self (n:=a)
theorem ndig_le {a n m:Nat} (h:a<2 ^ (n*m)) (hn:0<n):ndig a n≤m:=by
 refine Nat.le_of_lt_succ ((Nat.div_lt_iff_lt_mul hn).mpr ?_)
 rw [Nat.succ_mul,Nat.mul_comm m]
 exact Nat.lt_of_lt_of_le (Nat.sub_lt (Nat.add_pos_right _ hn) (by decide)) (Nat.add_le_add_right (nbits_le h) n)
theorem ndig_ge {a n:Nat} (hn:0<n):bits a≤n*ndig a n:=by
 have h:=Nat.lt_mul_div_succ (bits a+n - 1) hn
 cases n with
 | zero=>exact absurd hn (Nat.lt_irrefl 0)
 | succ n=>exact Nat.le_of_add_le_add_right (Nat.le_of_lt_succ (show bits a+n<(n+1)*ndig a (n+1)+n+1 from Nat.mul_succ (n+1) _ ▸ h))
theorem ndig_lt {a n:Nat} (hn:0<n):a<2 ^ (n*ndig a n):=Nat.lt_of_lt_of_le (lt_bits a) (p2_le (ndig_ge hn))
theorem no_pylong {a b:Int} (h:b.natAbs.log2<9000):Builtin.divisionGoesByPylong a b=false:=by
 unfold Builtin.divisionGoesByPylong
 dsimp only
 rw [Bool.and_eq_false_iff]
 left
 rw [decide_eq_false_iff_not]
 split <;> lia
theorem b_fdivN {a b k:Nat} (h:0<b) (h2:b<2 ^ k) (hk:k<9000):binV .fdiv (nI a) (nI b)=some (nI (a / b)):=by
 refine (show _=ogn (intBeq (b:Int) 0 || Builtin.divisionGoesByPylong (a:Int) (b:Int)) (PV.int ((a:Int).fdiv b)) from rfl).trans ((ognF ?_).trans (by rw [← Int.ofNat_fdiv]))
 rw [no_pylong (a:=(a:Int)) (b:=(b:Int)) (Nat.lt_of_le_of_lt (log2_le h2) hk),show intBeq (b:Int) 0=false from (intBeq_nat b 0).trans (decide_eq_false (Nat.ne_of_gt h))]
 rfl
theorem repL_one {α:Type} (v:α):∀ m,repL [v] m=List.replicate m v
 | 0=>rfl
 | m+1=>congrArg (v :: ·) (repL_one v m)
theorem b_rep {v:PV} {m:Nat} (h:m≤1000000):binV .mul (.list [v]) (nI m)=some (.list (List.replicate m v)) :=
 (show _=og (Nat.ble (1*m) 1000000 && Nat.ble m 1000000 && lenOk [v]) (PV.list (repL [v] m)) from rfl).trans ((ogT (by rw [Nat.one_mul,ble_tr h];rfl)).trans (by rw [repL_one]))
section
variable {ρ:PEnv} {n:PV} {l l' as:List PV} (h1:(PEnv.get ρ innN).isNone=true) (h2:PEnv.get ρ 111=some (false,n)) (h3:ownL ρ aN=some l)
include h1 h2 h3
theorem i2v_f (h4:S0.ts ρ (.tv (.var 98))=some false):i2v ρ .next=some (.list l):=by
 show ogo _ _=_
 rw [h1]
 exact obs h2 (obs h3 (obs h4 rfl))
theorem i2v_t (h4:S0.ts ρ (.tv (.var 98))=some true) (h5:evL S0 ρ arg7=some as) (h6:as.all PV.scalar=true) (h7:i2 [(111,false,n)] 60 as l=some l'):i2v ρ .next=some (.list l'):=by
 show ogo _ _=_
 rw [h1]
 refine obs h2 (obs h3 (obs h4 (obs h5 ?_)))
 rw [h6]
 exact obs h7 rfl
end
theorem i2V_spec {a n:Nat} (hn:0<n) (hn2:n≤20000) (hm:ndig a n≤60):i2V [nI a,nI n]=some (.list (nums (digF n (ndig a n) a))):=by
 have hlt:=ndig_lt (a:=a) hn
 have e1:((bits a:Nat):Int)+(n:Int) - 1=((bits a+n - 1:Nat):Int):=by
  cases n with
  | zero=>exact absurd hn (Nat.lt_irrefl 0)
  | succ n=>exact Int.add_sub_cancel (bits a+n:Int) 1
 have h70:S0.ev (PEnv.only [98,111] [(98,false,nI a),(111,false,nI n)]) (.bin .mul (.list [.lit (.int 0)]) (.bin .fdiv (.bin .sub (.bin .add (.meth .bitLength (.var 98) []) (.var 111)) (.lit (.int 1))) (.var 111)))=some (.list (List.replicate (ndig a n) (nI 0))):=by
  refine (show _=ob (binV .fdiv (.int (((bits a:Nat):Int)+(n:Int) - 1)) (nI n)) (fun m=>binV .mul (.list [nI 0]) m) by kernel_rfl).trans ?_
  rw [e1]
  exact obs (b_fdivN (k:=15) hn (Nat.lt_of_le_of_lt hn2 (by decide)) (by decide)) (b_rep (Nat.le_trans hm (by decide)))
 have hz:S0.ts [(98,false,nI a),(111,false,nI n),(aN,true,.list (List.replicate (ndig a n) (nI 0)))] (.tv (.var 98))=some (!intBeq (a:Int) (0:Nat)):=by kernel_rfl
 rw [intBeq_nat] at hz
 refine obs rfl (obs (exL_1 (s_as h70)) ?_)
 by_cases z:a=0
 ·rw [decide_eq_true z] at hz
  have hd:ndig a n=0:=Nat.le_zero.mp (ndig_le (m:=0) (by rw [z];exact p2 _) hn)
  rw [hd] at hz ⊢
  exact i2v_f (n:=nI n) (by kernel_rfl) (by kernel_rfl) (by kernel_rfl) hz
 ·rw [decide_eq_false z] at hz
  generalize ndig a n=d at *
  have hd:0<d:=Nat.pos_of_ne_zero fun q=>z (Nat.lt_one_iff.mp (by rw [q,Nat.mul_zero] at hlt;exact hlt))
  have hr:(List.replicate d (nI 0)).length=d:=List.length_replicate ..
  have i:=i2_spec hn2 60 a [] (List.replicate d (nI 0)) [] (by rw [hr];exact hd) (by rw [hr];exact hm) (by rw [hr];exact hm) (by rw [hr];exact hlt) (by rw [List.append_nil,List.nil_append,hr];exact Nat.le_trans hm (by decide))
  rw [hr,List.append_nil,List.append_nil,List.nil_append,List.nil_append,List.length_nil,Nat.zero_add] at i
  have hl:lenV (.list (List.replicate d (nI 0)))=some (nI d):=(ogT (lo_tr (by rw [hr];exact Nat.le_trans hm (by decide)))).trans (by rw [hr])
  exact i2v_t (n:=nI n) (as:=[nI a,nI 0,nI d]) (by kernel_rfl) (by kernel_rfl) (by kernel_rfl) hz (evL_3 (by kernel_rfl) (by kernel_rfl) ((show S0.ev _ (.bi .len [.var aN])=lenV (.list (List.replicate d (nI 0))) by kernel_rfl).trans hl)) rfl i
end Mine
end
section
set_option maxRecDepth 100000
open PySem
set_option genSizeOf false
set_option genInjectivity false
namespace Mine
theorem s_rv {r:Rc} {ρ:PEnv} {x:Nat} {k:List PV} (h:ownL ρ x=some k) (h2:k.length≤1000000):exS r ρ (.reverse x)=some (PEnv.set ρ x true (.list k.reverse),.next):=obs h (ogT (lo_tr h2))
theorem ogoT {α:Type} {b:Bool} {x y:Option α} (h:b=true) (h2:x=y):ogo b x=y:=by rw [h];exact h2
theorem div_mod_of {a b q r:Nat} (h:a=b*q+r) (hr:r<b):a / b=q∧a % b=r :=
 h ▸ ⟨by rw [Nat.mul_add_div (Nat.zero_lt_of_lt hr),Nat.div_eq_of_lt hr,Nat.add_zero],by rw [Nat.mul_add_mod,Nat.mod_eq_of_lt hr]⟩
theorem b_and {x h:Nat}:binV .band (nI x) (nI (2 ^ h - 1))=some (nI (x % 2 ^ h)) :=
 (show _=some (nI (x &&& (2 ^ h - 1))) from rfl).trans (by rw [Nat.and_two_pow_sub_one_eq_mod])
theorem b_or {x y h:Nat} (hy:y<2 ^ h):binV .bor (nI (x*2 ^ h)) (nI y)=some (nI (x*2 ^ h+y)):=by
 refine (show _=some (PV.int (Builtin.bitOr ((x*2 ^ h:Nat):Int) (y:Int))) from rfl).trans ?_
 rw [bitOr_nat,← Nat.shiftLeft_eq,Nat.shiftLeft_add_eq_or_of_lt hy]
theorem sub1 {x:Nat} (h:0<x):((x:Nat):Int) - 1=((x - 1:Nat):Int):=by
 cases x with
 | zero=>exact absurd h (Nat.lt_irrefl 0)
 | succ x=>exact Int.add_sub_cancel (x:Int) 1
theorem b_mask {h:Nat} (hh:h≤20000):ob (binV .shl (nI 1) (nI h)) (fun y=>binV .sub y (nI 1))=some (nI (2 ^ h - 1)):=by
 refine obs (b_shl (x:=1) (s:=h) (Nat.le_trans (Nat.add_le_add_left hh _) (by decide))) ?_
 rw [Nat.one_mul]
 exact congrArg (fun i=>some (PV.int i)) (sub1 (p2 h))
theorem no_pyl {a b n:Nat} (hb:2 ^ n≤b) (ha:bits a≤n+4001):Builtin.divisionGoesByPylong (a:Int) (b:Int)=false:=by
 have h1:n≤b.log2:=(Nat.le_log2 (Nat.ne_of_gt (Nat.lt_of_lt_of_le (p2 n) hb))).mpr hb
 have h2:¬ (((b:Int) == 0)=true):=fun e=>Nat.ne_of_gt (Nat.lt_of_lt_of_le (p2 n) hb) (Int.ofNat.inj (eq_of_beq e))
 have h3:(if ((a:Int) == 0)=true then 0 else a.log2+1)≤n+4001:=ha
 unfold Builtin.divisionGoesByPylong
 dsimp only
 rw [Bool.and_eq_false_iff]
 right
 rw [decide_eq_false_iff_not,if_neg h2]
 show ¬ ((if ((a:Int) == 0)=true then 0 else a.log2 / 30+1) > b.log2 / 30+1+150)
 by_cases z:((a:Int) == 0)=true
 ·rw [if_pos z]
  lia
 ·rw [if_neg z] at h3 ⊢
  lia
theorem b_dm {a b n:Nat} (hb:2 ^ n≤b) (ha:bits a≤n+4001):biV .divmod [nI a,nI b]=some (.tup [nI (a / b),nI (a % b)]):=by
 refine (show _=og (!(intBeq (b:Int) 0 || Builtin.divisionGoesByPylong (a:Int) (b:Int))) (PV.tup [.int ((a:Int).fdiv b),.int ((a:Int).fmod b)]) from rfl).trans ((ogT ?_).trans (by rw [← Int.ofNat_fdiv,← Int.ofNat_fmod]))
 rw [no_pyl hb ha,show intBeq (b:Int) 0=false from (intBeq_nat b 0).trans (decide_eq_false (Nat.ne_of_gt (Nat.lt_of_lt_of_le (p2 n) hb)))]
 rfl
structure Gs (q r h a12 a3 b b1 b2:Nat):Prop where
 e:q*b1+r=a12
 lt:q<2 ^ h
 up:a12*2 ^ h+a3<(q+1)*b
theorem gs1 {h a12 a3 b b1 b2:Nat} (ha3:a3<2 ^ h) (ha:a12<b) (e:a12 / 2 ^ h=b1):Gs (2 ^ h - 1) (a12 % 2 ^ h+b1) h a12 a3 b b1 b2:=by
 have h0:=p2 h
 refine ⟨?_,Nat.sub_lt h0 (by decide),?_⟩
 ·have:=Nat.div_add_mod a12 (2 ^ h)
  rw [e] at this
  rw [Nat.sub_one_mul,Nat.add_comm (a12 % 2 ^ h),← Nat.add_assoc,Nat.sub_add_cancel (Nat.le_mul_of_pos_left b1 h0)]
  exact this
 ·rw [Nat.sub_add_cancel h0]
  exact Nat.lt_of_lt_of_le (Nat.add_lt_add_left ha3 _) (by rw [← Nat.succ_mul,Nat.mul_comm];exact Nat.mul_le_mul_left _ ha)
theorem gs2 {h a12 a3 b b1 b2:Nat} (hb:b=b1*2 ^ h+b2) (ha3:a3<2 ^ h) (h1:0<b1) (e:a12<b1*2 ^ h):Gs (a12 / b1) (a12 % b1) h a12 a3 b b1 b2:=by
 refine ⟨by rw [Nat.mul_comm];exact Nat.div_add_mod a12 b1,Nat.div_lt_of_lt_mul e,?_⟩
 have h2:a12+1≤(a12 / b1+1)*b1:=by
  rw [Nat.mul_comm];exact Nat.lt_mul_div_succ a12 h1
 refine Nat.lt_of_lt_of_le (Nat.add_lt_add_left ha3 _) ?_
 rw [← Nat.succ_mul,hb,Nat.mul_add,← Nat.mul_assoc]
 exact Nat.le_trans (Nat.mul_le_mul_right _ h2) (Nat.le_add_right _ _)
theorem gs_lo {q r h a12 a3 b b1 b2:Nat} (g:Gs q r h a12 a3 b b1 b2) (hb:b=b1*2 ^ h+b2) (hb2:b2<2 ^ h) (hn:2 ^ h≤2*b1):((r*2 ^ h+a3:Nat):Int) - ((q*b2:Nat):Int)=((a12*2 ^ h+a3:Nat):Int) - q*b∧q*b2<r*2 ^ h+a3+2*b:=by
 constructor
 ·have:a12*2 ^ h+a3+q*b2=r*2 ^ h+a3+q*b:=by
   rw [← g.e,hb,Nat.add_mul,Nat.mul_add,Nat.mul_assoc]
   lia
  have h2:((a12*2 ^ h+a3:Nat):Int)+((q*b2:Nat):Int)=((r*2 ^ h+a3:Nat):Int)+((q*b:Nat):Int):=by rw [← Int.natCast_add,this,Int.natCast_add]
  rw [← Int.natCast_mul]
  lia
 ·have h1:q*b2≤2 ^ h*b2:=Nat.mul_le_mul_right _ (Nat.le_of_lt g.lt)
  have h2:2 ^ h*b2<2 ^ h*2 ^ h:=Nat.mul_lt_mul_of_pos_left hb2 (p2 h)
  have h3:2 ^ h*2 ^ h≤2*b1*2 ^ h:=Nat.mul_le_mul_right _ hn
  have h4:2*b1*2 ^ h≤2*b:=by rw [Nat.mul_assoc,hb];exact Nat.mul_le_mul_left 2 (Nat.le_add_right _ _)
  lia
end Mine
end
section
set_option maxRecDepth 100000
open PySem
set_option genSizeOf false
set_option genInjectivity false
namespace Mine
noncomputable def n2N:Nat:=62711175027798752
noncomputable def n3N:Nat:=62715573342745312
noncomputable def ρ3 (a12 a3 b b1 b2 h:Nat) (t:PEnv):PEnv:=(842082,false,nI a12) :: (6754,false,nI a3) :: (99,false,nI b) :: (6499,false,nI b1) :: (6627,false,nI b2) :: (111,false,nI h) :: t
noncomputable def T3' (q r:PV) (t:PEnv):Prop:=t=[(114,false,q),(115,false,r)]∨t=[(115,false,r),(114,false,q)]
noncomputable def whC:PE:=.cmp .lt (.var 115) (.lit (.int 0))
noncomputable def whB:List PS:=[.aug 114 .sub (.lit (.int 1)),.aug 115 .add (.var 99)]
theorem s_uR {r:Rc} {ρ ρ':PEnv} {xs:List Nat} {e:PE} {oc:List Nat} {vs:List PV} (h:r.ev (PEnv.only oc ρ) e=some (.tup vs)) (h2:bindT.go xs.reverse vs.reverse (PEnv.freeze oc ρ)=some ρ'):exS r ρ (.unpackR xs e oc)=some (ρ',.next):=obs h (obs rfl (obs h2 rfl))
theorem ev_tup {n:Nat} {ρ:PEnv} {l:List PE} {vs:List PV} (h:evL (Sm n) ρ l=some vs):(Sm (n+1)).ev ρ (.tup l)=some (.tup vs):=obs h rfl
theorem wh_loop {k a12 a3 b b1 b2 h:Nat}:∀ (j m:Nat) (q r:Int) (t:PEnv),T3' (.int q) (.int r) t→r<b→0≤r+j*b→j<m→∃ q' r' t',T3' (.int q') (.int r') t'∧whileGo (Sm (k+10)) whC whB m (ρ3 a12 a3 b b1 b2 h t)=some (ρ3 a12 a3 b b1 b2 h t',.next)∧0≤r'∧r'<b∧q'*b+r'=q*b+r
 | j,0,_,_,_,_,_,_,h=>absurd h (Nat.not_lt_zero j)
 | j,m+1,q,r,t,ht,h1,h2,h3=>by
  have hc:(Sm (k+10)).ts (ρ3 a12 a3 b b1 b2 h t) whC=some (decide (r<0)):=by rcases ht with rfl|rfl <;> kernel_rfl
  by_cases z:r<0
  ·rw [decide_eq_true z] at hc
   cases j with
   | zero=>rw [Int.natCast_zero,Int.zero_mul,Int.add_zero] at h2;exact absurd h2 (Int.not_le.mpr z)
   | succ j =>
    obtain ⟨t',ht',hb⟩:∃ t',T3' (.int (q - 1)) (.int (r+b)) t'∧exL (Sm (k+9)) whB (ρ3 a12 a3 b b1 b2 h t)=some (ρ3 a12 a3 b b1 b2 h t',.next):=by
     rcases ht with rfl|rfl
     ·exact ⟨_,.inl rfl,by kernel_rfl⟩
     ·exact ⟨_,.inr rfl,by kernel_rfl⟩
    have e:((j+1:Nat):Int)*b=j*b+b:=by rw [Int.natCast_succ,Int.add_mul,Int.one_mul]
    obtain ⟨q',r',t'',i1,i2,i3,i4,i5⟩:=wh_loop (k:=k) (a12:=a12) (a3:=a3) (b:=b) (b1:=b1) (b2:=b2) (h:=h) j m (q - 1) (r+b) t' ht' (by lia) (by rw [e] at h2;lia) (Nat.lt_of_succ_lt_succ h3)
    refine ⟨q',r',t'',i1,?_,i3,i4,i5.trans (by rw [Int.sub_mul,Int.one_mul];lia)⟩
    show oif _ _ _=_
    rw [hc]
    exact obs hb i2
  ·rw [decide_eq_false z] at hc
   refine ⟨q,r,t,ht,?_,Int.not_lt.mp z,h1,rfl⟩
   show oif _ _ _=_
   rw [hc]
   rfl
theorem nat_of {A b:Nat} {q r:Int} (h1:0≤r) (h2:r<b) (h3:q*b+r=A):q=(A / b:Nat)∧r=(A % b:Nat):=by
 obtain ⟨r',rfl⟩:=Int.eq_ofNat_of_zero_le h1
 have hb:(0:Int)<b:=Int.lt_of_le_of_lt h1 h2
 have hq:0≤q:=by
  rcases Int.lt_or_le q 0 with z|z
  ·have:q*b≤(-1)*b:=Int.mul_le_mul_of_nonneg_right (by lia) (Int.le_of_lt hb)
   lia
  ·exact z
 obtain ⟨q',rfl⟩:=Int.eq_ofNat_of_zero_le hq
 rw [← Int.natCast_mul,← Int.natCast_add] at h3
 obtain ⟨e1,e2⟩:=div_mod_of (a:=A) (b:=b) (q:=q') (r:=r') (by rw [Nat.mul_comm];exact (Int.ofNat.inj h3).symm) (Int.ofNat_lt.mp h2)
 rw [e1,e2]
 exact ⟨rfl,rfl⟩
theorem d3_spec {k a12 a3 b b1 b2 h:Nat} (hb:b=b1*2 ^ h+b2) (hb2:b2<2 ^ h) (hn:2 ^ h≤2*b1) (hb1:b1<2 ^ h) (ha3:a3<2 ^ h) (ha:a12<b) (hh:h≤20000)
  (hrec:a12<b1*2 ^ h→(Sm (k+16)).fn n2N [nI a12,nI b1,nI h]=some (.tup [nI (a12 / b1),nI (a12 % b1)])) :
  (Sm (k+20)).fn n3N [nI a12,nI a3,nI b,nI b1,nI b2,nI h]=some (.tup [nI ((a12*2 ^ h+a3) / b),nI ((a12*2 ^ h+a3) % b)]):=by
 have h0:0<b1:=Nat.pos_of_mul_pos_left (a:=2) (Nat.lt_of_lt_of_le (p2 h) hn)
 have hbl:b<2 ^ (h+h):=by
  rw [hb,Nat.pow_add]
  exact Nat.lt_of_lt_of_le (Nat.add_lt_add_left hb2 _) (by rw [← Nat.succ_mul];exact Nat.mul_le_mul_right _ hb1)
 have hc:(Sm (k+18)).ts (ρ3 a12 a3 b b1 b2 h []) (.cmp .eq (.bin .shr (.var 842082) (.var 111)) (.var 6499))=some (decide (a12 / 2 ^ h=b1)) :=
  ts_cmp (n:=k+17) (x:=nI (a12 / 2 ^ h)) (y:=nI b1) (ev_bin (n:=k+16) (x:=nI a12) (y:=nI h) (by kernel_rfl) (by kernel_rfl) (b_shr (Nat.le_trans hh (by decide)))) (by kernel_rfl) (congrArg some (intBeq_nat _ _))
 obtain ⟨q,r,t,ht,g,e1⟩:∃ q r t,T3' (nI q) (nI r) t∧Gs q r h a12 a3 b b1 b2∧exS (Sm (k+18)) (ρ3 a12 a3 b b1 b2 h []) (F__div3n2n.body.getD 0 .pass)=some (ρ3 a12 a3 b b1 b2 h t,.next):=by
  by_cases z:a12 / 2 ^ h=b1
  ·rw [decide_eq_true z] at hc
   refine ⟨2 ^ h - 1,a12 % 2 ^ h+b1,_,.inr rfl,gs1 ha3 ha z,s_t hc (show exL (Sm (k+17)) _ _=_ from exL_1 ?_)⟩
   have hm:(Sm (k+16)).ev (ρ3 a12 a3 b b1 b2 h []) (.bin .sub (.bin .shl (.lit (.int 1)) (.var 111)) (.lit (.int 1)))=some (nI (2 ^ h - 1)):=(show _=ob (binV .shl (nI 1) (nI h)) (fun y=>binV .sub y (nI 1)) by kernel_rfl).trans (b_mask hh)
   have hr:(Sm (k+16)).ev (ρ3 a12 a3 b b1 b2 h []) (.bin .add (.bin .sub (.var 842082) (.bin .shl (.var 6499) (.var 111))) (.var 6499))=some (nI (a12 % 2 ^ h+b1)):=by
    refine (show _=ob (ob (binV .shl (nI b1) (nI h)) fun y=>binV .sub (nI a12) y) (fun y=>binV .add y (nI b1)) by kernel_rfl).trans (obs (obs (b_shl (Nat.le_trans (Nat.add_le_add (Nat.add_le_add_right (log2_le hb1) 1) hh) (Nat.le_trans (Nat.add_le_add_right (Nat.add_le_add_right hh 1) _) (by decide)))) rfl) ?_)
    refine congrArg (fun i=>some (PV.int i)) (?_:(a12:Int) - ((b1*2 ^ h:Nat):Int)+(b1:Int)=((a12 % 2 ^ h+b1:Nat):Int))
    have:=Nat.div_add_mod a12 (2 ^ h)
    rw [z,Nat.mul_comm] at this
    lia
   exact s_uR (ev_tup (n:=k+16) (evL_2 hm hr)) (by kernel_rfl)
  ·rw [decide_eq_false z] at hc
   have hlt:a12<b1*2 ^ h:=by
    have h1:a12 / 2 ^ h<b1+1:=Nat.div_lt_of_lt_mul (Nat.lt_trans ha (by rw [hb,Nat.mul_succ,Nat.mul_comm];exact Nat.add_lt_add_left hb2 _))
    exact (Nat.div_lt_iff_lt_mul (p2 h)).mp (Nat.lt_of_le_of_ne (Nat.le_of_lt_succ h1) z)
   exact ⟨_,_,_,.inl rfl,gs2 hb ha3 h0 hlt,s_f hc (show exL (Sm (k+17)) _ _=_ from exL_1 (s_un (ev_call (n:=k+16) (vs:=[nI a12,nI b1,nI h]) (by kernel_rfl) (hrec hlt)) (by kernel_rfl)))⟩
 obtain ⟨g1,g2⟩:=gs_lo g hb hb2 hn
 have hup:((a12*2 ^ h+a3:Nat):Int) - q*b<b:=by
  have:=g.up
  rw [Nat.add_mul,Nat.one_mul] at this
  rw [← Int.natCast_mul]
  lia
 have hrl:r<2 ^ (h+h):=Nat.lt_of_le_of_lt (Nat.le_trans (Nat.le_add_left r _) (Nat.le_of_eq g.e)) (Nat.lt_trans ha hbl)
 obtain ⟨t₂,ht₂,e2⟩:∃ t₂,T3' (nI q) (.int (((a12*2 ^ h+a3:Nat):Int) - q*b)) t₂∧exS (Sm (k+18)) (ρ3 a12 a3 b b1 b2 h t) (F__div3n2n.body.getD 1 .pass)=some (ρ3 a12 a3 b b1 b2 h t₂,.next):=by
  have hv:(Sm (k+18)).ev (PEnv.only [115,111,6754,114,6627] (ρ3 a12 a3 b b1 b2 h t)) (.bin .sub (.bin .bor (.bin .shl (.var 115) (.var 111)) (.var 6754)) (.bin .mul (.var 114) (.var 6627)))=some (.int (((a12*2 ^ h+a3:Nat):Int) - q*b)):=by
   refine (show _=ob (ob (binV .shl (nI r) (nI h)) fun y=>binV .bor y (nI a3)) (fun y=>ob (binV .mul (nI q) (nI b2)) fun z=>binV .sub y z) by rcases ht with rfl|rfl <;> kernel_rfl).trans ?_
   refine obs (obs (b_shl (Nat.le_trans (Nat.add_le_add (Nat.add_le_add_right (log2_le hrl) 1) hh) (Nat.le_trans (Nat.add_le_add_right (Nat.add_le_add_right (Nat.add_le_add hh hh) 1) _) (by decide)))) (b_or ha3)) (obs (b_mul (fits_nat g.lt (Nat.lt_of_le_of_lt hh (by decide))) (fits_nat hb2 (Nat.lt_of_le_of_lt hh (by decide)))) ?_)
   exact congrArg (fun i=>some (PV.int i)) g1
  rcases ht with rfl|rfl
  ·exact ⟨_,.inl rfl,(s_as hv).trans (by kernel_rfl)⟩
  ·exact ⟨_,.inr rfl,(s_as hv).trans (by kernel_rfl)⟩
 obtain ⟨q',r',t',ht',e3,k1,k2,k3⟩:=wh_loop (k:=k+8) (a12:=a12) (a3:=a3) (b:=b) (b1:=b1) (b2:=b2) (h:=h) 2 40 q (((a12*2 ^ h+a3:Nat):Int) - q*b) t₂ ht₂ hup (by rw [← g1];lia) (by decide)
 obtain ⟨rfl,rfl⟩:=nat_of k1 k2 (A:=a12*2 ^ h+a3) (k3.trans (by lia))
 rw [fn_pl (n:=k+19) (fp:=F__div3n2n) (by kernel_rfl) (by kernel_rfl)]
 apply run_r (n:=k+18) (ρ:=ρ3 a12 a3 b b1 b2 h []) (by rfl)
 refine exL_n e1 (exL_n e2 (exL_n e3 (exL_r (s_rt ?_))))
 rcases ht' with rfl|rfl <;> kernel_rfl
end Mine
end
section
set_option maxRecDepth 100000
open PySem
set_option genSizeOf false
set_option genInjectivity false
namespace Mine
noncomputable def ρ2 (a b n:PV) (t:PEnv):PEnv:=(98,false,a) :: (99,false,b) :: (111,false,n) :: t
noncomputable def padN:Nat:=1667441
noncomputable def Bz (b n:Nat):Prop:=2 ^ n≤2*b∧b<2 ^ n
theorem exL_splitN {r:Rc} {ρ ρ':PEnv} {q:Option (PEnv × Fl)} {l:List PS} (n:Nat) (h:exL r (l.take n) ρ=some (ρ',.next)) (h2:exL r (l.drop n) ρ'=q):exL r l ρ=q:=by
 have:=exL_app (l₁:=l.take n) (l:=l.drop n) h h2
 rwa [List.take_append_drop] at this
theorem s_ag {r:Rc} {ρ:PEnv} {x:Nat} {k:BinK} {e:PE} {o:Bool} {i j:Int} {v:PV} (h1:PEnv.get ρ x=some (o,.int i)) (h2:r.ev ρ e=some (.int j)) (h3:binI k i j=some v) (h4:v.scalar=true):exS r ρ (.aug x k e)=some (PEnv.set ρ x false v,.next):=obs h1 (obs rfl (obs h2 (obs rfl (obs h3 (ogT h4)))))
theorem d2_tail {k a b h pd:Nat} (hB:Bz b (h+h)) (h0:0<h) (hh:h≤10000) (hp:pd=0∨pd=1) (ha:a<b*2 ^ (h+h))
  (hrec:∀ x b1,Bz b1 h→x<b1*2 ^ h→(Sm (k+17)).fn n2N [nI x,nI b1,nI h]=some (.tup [nI (x / b1),nI (x % b1)])) :
  ∃ ρ',exL (Sm (k+22)) (F__div2n1n.body.drop 3) (ρ2 (nI a) (nI b) (nI (h+h)) [(padN,false,nI pd)])=some (ρ',.ret (.tup [nI (a / b),nI (a % b / 2 ^ pd)])):=by
 obtain ⟨hb1,hb2⟩:=hB
 rw [Nat.pow_add] at hb1 hb2 ha
 have hq:=p2 h
 generalize hx1:b / 2 ^ h=b1
 generalize hx2:b % 2 ^ h=b2
 have hbe:b=b1*2 ^ h+b2:=by rw [← hx1,← hx2,Nat.mul_comm];exact (Nat.div_add_mod b (2 ^ h)).symm
 have hl2:b2<2 ^ h:=hx2 ▸ Nat.mod_lt _ hq
 have hl1:b1<2 ^ h:=hx1 ▸ Nat.div_lt_of_lt_mul hb2
 have hev:∃ m,2 ^ h=2*m:=⟨2 ^ (h - 1),by rw [← Nat.pow_succ',Nat.succ_eq_add_one,Nat.sub_add_cancel h0]⟩
 have hnm:2 ^ h≤2*b1:=by
  rcases Nat.lt_or_ge (2*b1) (2 ^ h) with z|z
  ·have z2:2*(b1+1)≤2 ^ h:=by obtain ⟨m,e⟩:=hev;lia
   have z3:2*b<2*(b1+1)*2 ^ h:=by
    rw [Nat.mul_assoc,Nat.succ_mul,hbe]
    lia
   exact absurd (Nat.lt_of_le_of_lt hb1 z3) (Nat.not_lt.mpr (Nat.mul_le_mul_right _ z2))
  ·exact z
 have hr1:=fun x y hy hx=>d3_spec (k:=k+1) (a12:=x) (a3:=y) hbe hl2 hnm hl1 hy hx (Nat.le_trans hh (by decide)) fun z=>hrec x b1 ⟨hnm,hl1⟩ z
 have hA:a / (2 ^ h*2 ^ h)<b:=Nat.div_lt_of_lt_mul (by rw [Nat.mul_comm];exact ha)
 have e1:a / (2 ^ h*2 ^ h)*2 ^ h+a / 2 ^ h % 2 ^ h=a / 2 ^ h:=by rw [← Nat.div_div_eq_div_mul,Nat.mul_comm];exact Nat.div_add_mod _ _
 have c1:=hr1 _ (a / 2 ^ h % 2 ^ h) (Nat.mod_lt _ hq) hA
 rw [e1] at c1
 have hb0:0<b:=Nat.zero_lt_of_lt hA
 have c2:=hr1 (a / 2 ^ h % b) (a % 2 ^ h) (Nat.mod_lt _ hq) (Nat.mod_lt _ hb0)
 have hlt2:a / 2 ^ h % b*2 ^ h+a % 2 ^ h<b*2 ^ h:=Nat.lt_of_lt_of_le (Nat.add_lt_add_left (Nat.mod_lt _ hq) _) (by rw [← Nat.succ_mul];exact Nat.mul_le_mul_right _ (Nat.mod_lt _ hb0))
 have hfin:a=b*(a / 2 ^ h / b*2 ^ h+(a / 2 ^ h % b*2 ^ h+a % 2 ^ h) / b)+(a / 2 ^ h % b*2 ^ h+a % 2 ^ h) % b:=by
  rw [Nat.mul_add,Nat.add_assoc,Nat.div_add_mod,← Nat.mul_assoc,← Nat.add_assoc,← Nat.add_mul,Nat.div_add_mod,Nat.mul_comm,Nat.div_add_mod]
 obtain ⟨f1,f2⟩:=div_mod_of hfin (Nat.mod_lt _ hb0)
 rw [f1,f2]
 have hqd:(a / 2 ^ h % b*2 ^ h+a % 2 ^ h) / b<2 ^ h:=Nat.div_lt_of_lt_mul hlt2
 have hrd:=Nat.mod_lt (a / 2 ^ h % b*2 ^ h+a % 2 ^ h) hb0
 generalize a / 2 ^ h % b=r1 at *
 have hqd1:a / 2 ^ h / b<2 ^ h:=by
  rw [Nat.div_div_eq_div_mul]
  exact Nat.div_lt_of_lt_mul (by rw [Nat.mul_comm (2 ^ h) b,Nat.mul_assoc];exact ha)
 generalize a / 2 ^ h / b=q1 at *
 generalize (r1*2 ^ h+a % 2 ^ h) / b=q2' at *
 generalize (r1*2 ^ h+a % 2 ^ h) % b=r2 at *
 have h20:h≤20000:=Nat.le_trans hh (by decide)
 have h40:h+h≤67108864:=Nat.le_trans (Nat.add_le_add hh hh) (by decide)
 have eh:(h+h) / 2 ^ 1=h:=by rw [Nat.pow_one,← Nat.two_mul,Nat.mul_div_cancel_left h (by decide)]
 have v3:(Sm (k+22)).ev (PEnv.only [111] (ρ2 (nI a) (nI b) (nI (h+h)) [(padN,false,nI pd)])) (.bin .shr (.var 111) (.lit (.int 1)))=some (nI h):=(show _=binV .shr (nI (h+h)) (nI 1) by kernel_rfl).trans ((b_shr (by decide)).trans (by rw [eh]))
 have v4:(Sm (k+22)).ev (PEnv.only [3839918567785] (ρ2 (nI a) (nI b) (nI (h+h)) [(padN,false,nI pd),(3839918567785,false,nI h)])) (.bin .sub (.bin .shl (.lit (.int 1)) (.var 3839918567785)) (.lit (.int 1)))=some (nI (2 ^ h - 1)):=(show _=ob (binV .shl (nI 1) (nI h)) (fun y=>binV .sub y (nI 1)) by kernel_rfl).trans (b_mask h20)
 have v5:(Sm (k+22)).ev (PEnv.only [99,3839918567785,228405614] (ρ2 (nI a) (nI b) (nI (h+h)) [(padN,false,nI pd),(3839918567785,false,nI h),(228405614,false,nI (2 ^ h - 1))])) (.tup [(.bin .shr (.var 99) (.var 3839918567785)),(.bin .band (.var 99) (.var 228405614))])=some (.tup [nI b1,nI b2]) :=
  ev_tup (n:=k+21) (evL_2 (ev_bin (n:=k+20) (x:=nI b) (y:=nI h) (by kernel_rfl) (by kernel_rfl) ((b_shr (Nat.le_trans h20 (by decide))).trans (by rw [hx1]))) (ev_bin (n:=k+20) (x:=nI b) (y:=nI (2 ^ h - 1)) (by kernel_rfl) (by kernel_rfl) (b_and.trans (by rw [hx2]))))
 refine ⟨ρ2 (nI a) (nI b) (nI (h+h)) [(padN,false,nI pd),(3839918567785,false,nI h),(228405614,false,nI (2 ^ h - 1)),(6627,false,nI b2),(6499,false,nI b1),(6514,false,nI q1),(115,false,nI (r2 / 2 ^ pd)),(6642,false,nI q2')],?_⟩
 refine exL_n (ρ':=ρ2 (nI a) (nI b) (nI (h+h)) [(padN,false,nI pd),(3839918567785,false,nI h)]) ((s_as v3).trans (by kernel_rfl)) ?_
 refine exL_n (ρ':=ρ2 (nI a) (nI b) (nI (h+h)) [(padN,false,nI pd),(3839918567785,false,nI h),(228405614,false,nI (2 ^ h - 1))]) ((s_as v4).trans (by kernel_rfl)) ?_
 refine exL_n (ρ':=ρ2 (nI a) (nI b) (nI (h+h)) [(padN,false,nI pd),(3839918567785,false,nI h),(228405614,false,nI (2 ^ h - 1)),(6627,false,nI b2),(6499,false,nI b1)]) (s_uR v5 (by kernel_rfl)) ?_
 refine exL_n (ρ':=ρ2 (nI a) (nI b) (nI (h+h)) [(padN,false,nI pd),(3839918567785,false,nI h),(228405614,false,nI (2 ^ h - 1)),(6627,false,nI b2),(6499,false,nI b1),(6514,false,nI q1),(115,false,nI r1)]) (s_un (ev_call (n:=k+21) (vs:=[nI (a / (2 ^ h*2 ^ h)),nI (a / 2 ^ h % 2 ^ h),nI b,nI b1,nI b2,nI h]) ?_ c1) (by kernel_rfl)) ?_
 ·refine evL_c (ev_bin (n:=k+20) (x:=nI a) (y:=nI (h+h)) (by kernel_rfl) (by kernel_rfl) ((b_shr h40).trans (by rw [Nat.pow_add]))) (evL_c (ev_bin (n:=k+20) (x:=nI (a / 2 ^ h)) (y:=nI (2 ^ h - 1)) (ev_bin (n:=k+19) (x:=nI a) (y:=nI h) (by kernel_rfl) (by kernel_rfl) (b_shr (Nat.le_trans h20 (by decide)))) (by kernel_rfl) b_and) (by kernel_rfl))
 refine exL_n (ρ':=ρ2 (nI a) (nI b) (nI (h+h)) [(padN,false,nI pd),(3839918567785,false,nI h),(228405614,false,nI (2 ^ h - 1)),(6627,false,nI b2),(6499,false,nI b1),(6514,false,nI q1),(115,false,nI r2),(6642,false,nI q2')]) (s_un (ev_call (n:=k+21) (vs:=[nI r1,nI (a % 2 ^ h),nI b,nI b1,nI b2,nI h]) ?_ c2) (by kernel_rfl)) ?_
 ·exact evL_c (by kernel_rfl) (evL_c (ev_bin (n:=k+20) (x:=nI a) (y:=nI (2 ^ h - 1)) (by kernel_rfl) (by kernel_rfl) b_and) (by kernel_rfl))
 refine exL_n (ρ':=ρ2 (nI a) (nI b) (nI (h+h)) [(padN,false,nI pd),(3839918567785,false,nI h),(228405614,false,nI (2 ^ h - 1)),(6627,false,nI b2),(6499,false,nI b1),(6514,false,nI q1),(115,false,nI (r2 / 2 ^ pd)),(6642,false,nI q2')]) ?_ ?_
 ·rcases hp with rfl|rfl
  ·rw [Nat.pow_zero,Nat.div_one]
   exact s_f (by kernel_rfl) rfl
  ·refine s_t (by kernel_rfl) (show exL (Sm (k+21)) _ _=_ from exL_1 ?_)
   have e:binI .shr (r2:Int) (1:Nat)=some (nI (r2 / 2 ^ 1)):=b_shr (x:=r2) (s:=1) (by decide)
   exact s_ag (o:=false) (by kernel_rfl) (by kernel_rfl) e rfl
 ·exact exL_r (s_rt (ev_tup (n:=k+21) (evL_2 (ev_bin (n:=k+20) (x:=nI (q1*2 ^ h)) (y:=nI q2') (ev_bin (n:=k+19) (x:=nI q1) (y:=nI h) (by kernel_rfl) (by kernel_rfl) (b_shl (Nat.le_trans (Nat.add_le_add (Nat.add_le_add_right (log2_le hqd1) 1) h20) (Nat.le_trans (Nat.add_le_add_right (Nat.add_le_add_right h20 1) _) (by decide))))) (by kernel_rfl) (b_or hqd)) (by kernel_rfl))))
theorem b_and1 (n:Nat):binV .band (nI n) (nI 1)=some (nI (n % 2)):=b_and (x:=n) (h:=1)
theorem bz_dir {n a b m:Nat} (hB:Bz b m) (ha:bits a≤m+4000):(Sm (n+10)).fn n2N [nI a,nI b,nI m]=some (.tup [nI (a / b),nI (a % b)]):=by
 have ht:(Sm (n+8)).ts (ρ2 (nI a) (nI b) (nI m) []) (.cmp .le (.bin .sub (.meth .bitLength (.var 98) []) (.var 111)) (.glob 789363123314924626656))=some (!decide ((4000:Int)<(bits a:Int) - (m:Int))):=by kernel_rfl
 rw [decide_eq_false (Int.not_lt.mpr (Int.sub_left_le_of_le_add (Int.ofNat_le.mpr ha)))] at ht
 rw [fn_pl (fp:=F__div2n1n) (by kernel_rfl) (by kernel_rfl)]
 have hm:2 ^ (m - 1)≤b∧bits a≤m - 1+4001:=by
  obtain ⟨h1,h2⟩:=hB
  cases m with
  | zero=>exact absurd (Nat.lt_one_iff.mp h2) (fun e=>by rw [e] at h1;exact absurd h1 (by decide))
  | succ m=>exact ⟨Nat.le_of_mul_le_mul_left (by rw [← Nat.pow_succ'];exact h1) (by decide),by rw [Nat.succ_sub_one];lia⟩
 exact run_r (ρ:=ρ2 (nI a) (nI b) (nI m) []) (by rfl) (exL_r (s_t ht (exL_r (s_rt (ev_bi (vs:=[nI a,nI b]) (by kernel_rfl) (b_dm hm.1 hm.2))))))
theorem bz:∀ (d:Nat) {k a b n:Nat},n≤2 ^ d*4000→n≤20000→Bz b n→a<b*2 ^ n→(Sm (k+30*d+12)).fn n2N [nI a,nI b,nI n]=some (.tup [nI (a / b),nI (a % b)])
 | d,k,a,b,n,h1,h2,hB,ha=>by
  have hal:a<2 ^ (n+n):=Nat.lt_trans ha (by rw [Nat.pow_add];exact Nat.mul_lt_mul_of_pos_right hB.2 (p2 n))
  by_cases z:bits a≤n+4000
  ·exact bz_dir (n:=k+30*d+2) hB z
  ·cases d with
   | zero=>exact absurd (Nat.le_trans (nbits_le hal) (Nat.add_le_add_left h1 n)) z
   | succ d =>
   have h0:4000<n:=Nat.lt_of_add_lt_add_left (Nat.lt_of_lt_of_le (Nat.not_le.mp z) (nbits_le hal))
   have ht:(Sm (k+30*d+40)).ts (ρ2 (nI a) (nI b) (nI n) []) (.cmp .le (.bin .sub (.meth .bitLength (.var 98) []) (.var 111)) (.glob 789363123314924626656))=some (!decide ((4000:Int)<(bits a:Int) - (n:Int))):=by kernel_rfl
   rw [decide_eq_true (show (4000:Int)<(bits a:Int) - (n:Int) by lia)] at ht
   have hp:n % 2=0∨n % 2=1:=by lia
   generalize hh:(n+n % 2) / 2=h
   have hn2:n+n % 2=h+h:=by lia
   have h4:h≤2 ^ d*4000:=by
    rw [Nat.pow_succ] at h1
    lia
   have h5:h≤10000:=by lia
   have hbp:Bz (b*2 ^ (n % 2)) (h+h):=by
    rw [← hn2]
    unfold Bz
    rw [Nat.pow_add,← Nat.mul_assoc]
    exact ⟨Nat.mul_le_mul_right _ hB.1,Nat.mul_lt_mul_of_pos_right hB.2 (p2 _)⟩
   have hap:a*2 ^ (n % 2)<b*2 ^ (n % 2)*2 ^ (h+h):=by
    rw [Nat.mul_assoc,Nat.mul_comm (2 ^ (n % 2)),← Nat.mul_assoc]
    refine Nat.mul_lt_mul_of_pos_right (Nat.lt_of_lt_of_le ha (Nat.mul_le_mul_left b (p2_le ?_))) (p2 _)
    rw [← hn2]
    exact Nat.le_add_right _ _
   have hrec:∀ {x b1:Nat},Bz b1 h→x<b1*2 ^ h→(Sm (k+30*d+18+17)).fn n2N [nI x,nI b1,nI h]=some (.tup [nI (x / b1),nI (x % b1)]):=fun g1 g2=>by
    have:=bz d (k:=k+23) h4 (Nat.le_trans h5 (by decide)) g1 g2
    rwa [show k+23+30*d+12=k+30*d+18+17 by lia] at this
   obtain ⟨ρ',e⟩:=d2_tail (k:=k+30*d+18) (pd:=n % 2) hbp (by lia) h5 hp hap fun x b1 g1 g2=>hrec g1 g2
   rw [Nat.mul_div_mul_right _ _ (p2 _),Nat.mul_mod_mul_right,Nat.mul_div_cancel _ (p2 _)] at e
   have hev:(Sm (k+30*d+40)).ev (PEnv.only [111] (ρ2 (nI a) (nI b) (nI n) [])) (.bin .band (.var 111) (.lit (.int 1)))=some (nI (n % 2)):=(show _=binV .band (nI n) (nI 1) by kernel_rfl).trans (b_and1 n)
   have hs1:exS (Sm (k+30*d+40)) (ρ2 (nI a) (nI b) (nI n) []) (.assign padN (.bin .band (.var 111) (.lit (.int 1))) [111])=some (ρ2 (nI a) (nI b) (nI n) [(padN,false,nI (n % 2))],.next):=s_as hev
   rw [show k+30*(d+1)+12=k+30*d+41+1 by lia,fn_pl (n:=k+30*d+41) (fp:=F__div2n1n) (by kernel_rfl) (by kernel_rfl)]
   apply run_r (n:=k+30*d+40) (ρ:=ρ2 (nI a) (nI b) (nI n) []) (ρ':=ρ') (by rfl)
   refine exL_splitN 3 ?_ e
   refine exL_n (ρ':=ρ2 (nI a) (nI b) (nI n) []) (s_f ht (by kernel_rfl)) ?_
   refine exL_n (ρ':=ρ2 (nI a) (nI b) (nI n) [(padN,false,nI (n % 2))]) hs1 ?_
   rw [← hn2]
   have sl:∀ {x:Nat},x<2 ^ (n+n)→binI .shl (x:Int) (1:Nat)=some (nI (x*2 ^ 1)):=fun hx=>b_shl (s:=1) (Nat.le_trans (Nat.add_le_add_right (Nat.add_le_add_right (log2_le hx) 1) 1) (Nat.le_trans (Nat.add_le_add_right (Nat.add_le_add_right (Nat.add_le_add h2 h2) 1) 1) (by decide)))
   rcases hp with q|q
   ·rw [q,Nat.pow_zero,Nat.mul_one,Nat.mul_one]
    exact exL_1 (s_f (by kernel_rfl) (by kernel_rfl))
   ·rw [q]
    refine exL_1 (s_t (by kernel_rfl) (show exL (Sm (k+30*d+39)) _ _=_ from ?_))
    refine exL_n (ρ':=ρ2 (nI (a*2 ^ 1)) (nI b) (nI n) [(padN,false,nI 1)]) ((s_ag (o:=false) (by kernel_rfl) (by kernel_rfl) (sl hal) rfl).trans (by kernel_rfl)) ?_
    refine exL_n (ρ':=ρ2 (nI (a*2 ^ 1)) (nI (b*2 ^ 1)) (nI n) [(padN,false,nI 1)]) ((s_ag (o:=false) (by kernel_rfl) (by kernel_rfl) (sl (Nat.lt_of_lt_of_le hB.2 (p2_le (Nat.le_add_left n n)))) rfl).trans (by kernel_rfl)) ?_
    exact exL_1 (by kernel_rfl)
end Mine
end
section
set_option maxRecDepth 100000
open PySem
set_option genSizeOf false
set_option genInjectivity false
namespace Mine
noncomputable def Sq (D:PV) (c:List Nat):Prop:=D=.list (nums c)∨D=.tup (nums c)
theorem nums_snoc (c:List Nat) (x:Nat):nums c++[nI x]=nums (c++[x]):=(nums_app c [x]).symm
theorem nums_emp (c:List Nat):(nums c).isEmpty=c.isEmpty:=by cases c <;> rfl
theorem d2V_spec {c:List Nat} {D:PV} {n:Nat} (hD:Sq D c) (hn:n≤20000) (hl:c.length≤60) (hc:∀ x∈c,x<2 ^ n):d2V [D,nI n]=some (nI (evN (2 ^ n) c)):=by
 have hl2:c.length≤1000000:=Nat.le_trans hl (by decide)
 have lo:lenOk (nums c)=true:=lo_tr ((nums_len c).symm ▸ hl2)
 have htr:truthV D=some (!c.isEmpty):=by
  rcases hD with rfl|rfl <;> exact (ogT lo).trans (by rw [nums_emp])
 have hlen:lenV D=some (nI c.length):=by
  rcases hD with rfl|rfl <;> exact len_nums hl2
 have hix:∀ i,i<c.length→idxV D (nI i)=some (nI (c.getD i 0)):=fun i h=>by
  rcases hD with rfl|rfl
  ·exact idx_nums h hl2
  ·exact idx_tup h hl2
 refine obs rfl (ogoT (by kernel_rfl) (obs ((show S0.ts (ρD D n) (.tv (.var dgN))=truthV D by kernel_rfl).trans htr) ?_))
 cases c with
 | nil=>rfl
 | cons a c =>
  have i:=d2_spec hn hix 60 [] (a :: c) [] (by rw [List.append_nil,List.nil_append]) (Nat.succ_pos _) hl hl hc
  rw [List.length_nil,Nat.zero_add] at i
  exact obs (a:=[nI 0,nI (a :: c).length]) (evL_2 rfl ((show S0.ev (ρD D n) (.bi .len [.var dgN])=lenV D by kernel_rfl).trans hlen)) (ogoT rfl i)
noncomputable def tp (q:Nat) (v:Nat) (l:List Nat):Nat:=l.foldl (fun v d=>v*q+d) v
theorem tp_rev (q:Nat):∀ c:List Nat,tp q 0 c.reverse=evN q c
 | []=>rfl
 | a :: c=>by rw [List.reverse_cons,tp,List.foldl_append,evN,← tp_rev q c,Nat.mul_comm,Nat.add_comm];rfl
noncomputable def dst (q b:Nat) (s:Nat × List Nat) (d:Nat):Nat × List Nat:=((s.1*q+d) % b,s.2++[(s.1*q+d) / b])
theorem tp_lin (q b:Nat):∀ (l:List Nat) (s:Nat × List Nat),tp q (b*tp q 0 s.2+s.1) l=b*tp q 0 (l.foldl (dst q b) s).2+(l.foldl (dst q b) s).1
 | [],_=>rfl
 | d :: l,s=>by
  rw [List.foldl_cons,← tp_lin q b l]
  show tp q ((b*tp q 0 s.2+s.1)*q+d) l=tp q (b*tp q 0 (s.2++[(s.1*q+d) / b])+(s.1*q+d) % b) l
  rw [show tp q 0 (s.2++[(s.1*q+d) / b])=tp q 0 s.2*q+(s.1*q+d) / b from List.foldl_append ..]
  congr 1
  rw [Nat.add_mul,Nat.mul_add,Nat.mul_assoc,Nat.add_assoc,Nat.add_assoc,Nat.div_add_mod]
noncomputable def ρ9 (a b:PV):PEnv:=[(98,false,a),(99,false,b)]
noncomputable def dpB:List PS:=[.unpack [518241715318898,115] (.call 62711175027798752 [(.bin .add (.bin .shl (.var 115) (.var 111)) (.var 518241715318882)),(.var 99),(.var 111)]) [115,111,518241715318882,99],.append 65820436312191090 (.var 518241715318898) [518241715318898]]
noncomputable def envD (a b nb:Nat) (A:PV) (s:Nat × List Nat) (t:PEnv):PEnv:=(98,false,nI a) :: (99,false,nI b) :: (111,false,nI nb) :: (aN,false,A) :: (115,false,nI s.1) :: (65820436312191090,true,.list (nums s.2)) :: t
noncomputable def TT (x y:Nat) (t:PEnv):Prop:=t=[]∨∃ u v:PV,t=[(x,false,u),(y,false,v)]
noncomputable def dpI (a b nb:Nat) (A:PV) (n:Nat) (s:Nat × List Nat) (ρ:PEnv):Prop:=(∃ t,TT 518241715318882 518241715318898 t∧ρ=envD a b nb A s t)∧s.1<b∧s.2.length+n≤60∧∀ x∈s.2,x<2 ^ nb
theorem div_lt_q {b q r d:Nat} (hr:r<b) (hd:d<q):r*q+d<b*q:=Nat.lt_of_lt_of_le (Nat.add_lt_add_left hd _) (by rw [← Nat.succ_mul];exact Nat.mul_le_mul_right q hr)
theorem dp_loop {k a b nb:Nat} {A:PV} (hb:0<b) (hB:Bz b nb) (hn:nb≤20000) (l:List Nat) (s:Nat × List Nat) (ρ:PEnv) (h:dpI a b nb A l.length s ρ) (hl:∀ d∈l,d<2 ^ nb) :
  ∃ ρ',forGo (Sm (k+104)) [518241715318882] true dpB [] (nums l) ρ=some (ρ',.next)∧dpI a b nb A 0 (l.foldl (dst (2 ^ nb) b) s) ρ':=by
 refine for_inv (I:=dpI a b nb A) (ok:=fun d=>d<2 ^ nb) (fun n s d ρ h hd=>?_) l s ρ h hl
 obtain ⟨⟨t,ht,rfl⟩,hr,hn2,hx⟩:=h
 obtain ⟨r,acc⟩:=s
 have hlt:=div_lt_q hr hd
 have hc:(Sm (k+102)).ev (PEnv.only [115,111,518241715318882,99] (PEnv.set (envD a b nb A (r,acc) t) 518241715318882 false (nI d))) (.bin .add (.bin .shl (.var 115) (.var 111)) (.var 518241715318882))=some (nI (r*2 ^ nb+d)) :=
  ev_bin (x:=nI (r*2 ^ nb)) (y:=nI d) (ev_bin (x:=nI r) (y:=nI nb) (by rcases ht with rfl|⟨u,v,rfl⟩ <;> kernel_rfl) (by rcases ht with rfl|⟨u,v,rfl⟩ <;> kernel_rfl) (b_shl (Nat.le_trans (Nat.add_le_add (Nat.add_le_add_right (log2_le (Nat.lt_trans hr hB.2)) 1) hn) (Nat.le_trans (Nat.add_le_add_right (Nat.add_le_add_right hn 1) _) (by decide))))) (by rcases ht with rfl|⟨u,v,rfl⟩ <;> kernel_rfl) rfl
 have hv:(Sm (k+102)).fn 62711175027798752 [nI (r*2 ^ nb+d),nI b,nI nb]=some (.tup [nI ((r*2 ^ nb+d) / b),nI ((r*2 ^ nb+d) % b)]) :=
  bz 3 (k:=k) (Nat.le_trans hn (by decide)) hn hB hlt
 refine ⟨_,envD a b nb A (dst (2 ^ nb) b (r,acc) d) [(518241715318882,false,nI d),(518241715318898,false,nI ((r*2 ^ nb+d) / b))],rfl,?_,⟨_,.inr ⟨_,_,rfl⟩,rfl⟩,Nat.mod_lt _ hb,?_,fun x hx'=>?_⟩
 ·refine exL_n (ρ':=envD a b nb A ((r*2 ^ nb+d) % b,acc) [(518241715318882,false,nI d),(518241715318898,false,nI ((r*2 ^ nb+d) / b))]) (s_un (ev_call (evL_3 hc (v₂:=nI b) (v₃:=nI nb) (by rcases ht with rfl|⟨u,v,rfl⟩ <;> kernel_rfl) (by rcases ht with rfl|⟨u,v,rfl⟩ <;> kernel_rfl)) hv) (by rcases ht with rfl|⟨u,v,rfl⟩ <;> kernel_rfl)) ?_
  refine (exL_1 (s_ap (v:=nI ((r*2 ^ nb+d) / b)) (k:=nums acc) (by kernel_rfl) (by kernel_rfl) (by rw [nums_len];exact Nat.le_trans (Nat.le_of_add_right_le hn2) (by decide)))).trans ?_
  rw [nums_snoc]
  kernel_rfl
 ·show (acc++[_]).length+n≤60
  rw [List.length_append,Nat.add_assoc,Nat.add_comm _ n]
  exact hn2
 ·rcases List.mem_append.mp hx' with hx' | hx'
  ·exact hx x hx'
  ·obtain rfl:=List.mem_singleton.mp hx'
   exact Nat.div_lt_of_lt_mul hlt
theorem bz_bits {b:Nat} (hb:0<b):Bz b (bits b):=by
 refine ⟨?_,lt_bits b⟩
 show 2 ^ (if _ then _ else _)≤_
 rw [if_neg (show ¬ (((b:Int) == 0)=true) from fun e=>Nat.ne_of_gt hb (Int.ofNat.inj (eq_of_beq e))),Nat.pow_succ']
 exact Nat.mul_le_mul_left 2 (Nat.log2_self_le (Nat.ne_of_gt hb))
theorem fn_i2 {n a b:Nat} (h140:140≤n) (hb:0<b) (hb2:b≤20000) (hm:ndig a b≤60):(Sm (n+1)).fn i2N [nI a,nI b]=some (.list (nums (digF b (ndig a b) a))):=fn_sp h140 ((show sp02 i2N _=i2V _ from rfl).trans (i2V_spec hb hb2 hm))
theorem fn_d2 {n b:Nat} {c:List Nat} {D:PV} (h140:140≤n) (hD:Sq D c) (hn:b≤20000) (hl:c.length≤60) (hc:∀ x∈c,x<2 ^ b):(Sm (n+1)).fn d2N [D,nI b]=some (nI (evN (2 ^ b) c)):=fn_sp h140 ((show sp02 d2N _=d2V _ from rfl).trans (d2V_spec hD hn hl hc))
theorem foldl_dst_len (q b:Nat):∀ (l:List Nat) (s:Nat × List Nat),(l.foldl (dst q b) s).2.length=s.2.length+l.length
 | [],_=>rfl
 | d :: l,s=>(foldl_dst_len q b l _).trans (by rw [dst,List.length_append,Nat.add_assoc,Nat.add_comm _ l.length];rfl)
theorem divmod_pos_spec {n a b:Nat} (hb:0<b) (hb2:bits b≤20000) (hm:ndig a (bits b)≤60):(Sm (n+160)).fn 137989842670750027920096 [nI a,nI b]=some (.tup [nI (a / b),nI (a % b)]):=by
 have hnb:0<bits b:=Nat.pos_of_ne_zero fun e=>Nat.ne_of_gt hb (Nat.lt_one_iff.mp (by have:=lt_bits b;rwa [e] at this))
 have hB:=bz_bits hb
 have h2:=fn_i2 (n:=n+156) (Nat.le_trans (by decide) (Nat.le_add_left 156 n)) hnb (Nat.le_trans hb2 (by decide)) hm
 have hv:=digF_val (ndig_lt (a:=a) hnb)
 have hlt:∀ x∈digF (bits b) (ndig a (bits b)) a,x<2 ^ bits b:=digF_lt
 have hlen:=digF_len (bits b) (ndig a (bits b)) a
 have e1:exL (Sm (n+158)) (F__divmod_pos.body.take 1) (ρ9 (nI a) (nI b))=some (ρ9 (nI a) (nI b)++[(111,false,nI (bits b))],.next):=by kernel_rfl
 generalize bits b=nb at *
 generalize digF nb (ndig a nb) a=c at *
 have hc60:c.length≤60:=hlen ▸ hm
 obtain ⟨ρ',h3,⟨t,ht,rfl⟩,hr,_,hx⟩:=dp_loop (k:=n+54) (A:=.list (nums c)) (a:=a) hb hB hb2 c.reverse (0,[]) _ ⟨⟨[],.inl rfl,rfl⟩,hb,by rw [List.length_reverse];exact (Nat.zero_add _).symm ▸ hc60,fun _ h=>nomatch h⟩ fun d hd=>hlt d (List.mem_reverse.mp hd)
 have hq:=tp_lin (2 ^ nb) b c.reverse (0,[])
 have hl2:=foldl_dst_len (2 ^ nb) b c.reverse (0,[])
 rw [show b*tp (2 ^ nb) 0 ([]:List Nat)+0=0 from rfl,tp_rev,hv] at hq
 generalize c.reverse.foldl (dst (2 ^ nb) b) (0,[])=s at *
 obtain ⟨r,acc⟩:=s
 obtain ⟨q1,q2⟩:=div_mod_of hq hr
 rw [← List.reverse_reverse acc,tp_rev] at q1
 have hal:acc.length≤60:=Nat.le_trans (Nat.le_of_eq (hl2.trans (by rw [List.length_reverse];exact Nat.zero_add _))) hc60
 have h4:=fn_d2 (n:=n+156) (Nat.le_trans (by decide) (Nat.le_add_left 156 n)) (.inl rfl) (Nat.le_trans hb2 (by decide)) (c:=acc.reverse) (by rw [List.length_reverse];exact hal) fun x h=>hx x (List.mem_reverse.mp h)
 rw [← q1] at h4
 rw [q2]
 have lo:∀ {c:List Nat},c.length≤60→(nums c).length≤1000000:=fun h=>(nums_len _).symm ▸ Nat.le_trans h (by decide)
 rw [fn_pl (fp:=F__divmod_pos) (by kernel_rfl) (by kernel_rfl)]
 apply run_r (n:=n+158) (ρ:=ρ9 (nI a) (nI b)) (by rfl)
 refine exL_app (l:=F__divmod_pos.body.drop 1) (l₁:=F__divmod_pos.body.take 1) e1 ?_
 refine exL_n (s_as (v:=.list (nums c)) (ev_call (vs:=[nI a,nI nb]) (by kernel_rfl) h2)) ?_
 refine exL_app (l₁:=[.assign 115 (.lit (.int 0)) [],.assign 65820436312191090 (.list []) []]) (ρ':=envD a b nb (.list (nums c)) (0,[]) []) (by kernel_rfl) ?_
 refine exL_n (s_for (ps:=nums c.reverse) (b:=true) ?_ h3) ?_
 ·refine (show iterV (Sm (n+158)) _ _=og (lenOk (nums c)) ((nums c).reverse,true) by kernel_rfl).trans ((ogT (lo_tr (lo hc60))).trans ?_)
  rw [nums,nums,List.map_reverse]
 refine exL_n ((s_rv (k:=nums acc) (by rcases ht with rfl|⟨u,v,rfl⟩ <;> kernel_rfl) (lo hal)).trans (show _=some (envD a b nb (.list (nums c)) (r,acc.reverse) t,Fl.next) from ?_)) ?_
 ·rw [← List.map_reverse]
  rcases ht with rfl|⟨u,v,rfl⟩ <;> kernel_rfl
 refine exL_n (s_as (v:=nI (a / b)) (ev_call (vs:=[.list (nums acc.reverse),nI nb]) (by rcases ht with rfl|⟨u,v,rfl⟩ <;> kernel_rfl) h4)) ?_
 exact exL_r (s_rt (by rcases ht with rfl|⟨u,v,rfl⟩ <;> kernel_rfl))
noncomputable def idN:Nat:=939693477786438957034
theorem idm_pos {n a b:Nat} (hb:0<b) (hb2:bits b≤20000) (hm:ndig a (bits b)≤60):(Sm (n+166)).fn idN [nI a,nI b]=some (.tup [nI (a / b),nI (a % b)]):=by
 have t1:(Sm (n+164)).ts (ρ9 (nI a) (nI b)) (.cmp .eq (.var 99) (.lit (.int 0)))=some (intBeq (b:Int) (0:Nat)):=by kernel_rfl
 rw [intBeq_nat,decide_eq_false (Nat.ne_of_gt hb)] at t1
 have t2:(Sm (n+163)).ts (ρ9 (nI a) (nI b)) (.cmp .lt (.var 99) (.lit (.int 0)))=some (decide ((b:Int)<0)):=by kernel_rfl
 rw [decide_eq_false (Int.not_lt.mpr (Int.natCast_nonneg b))] at t2
 have t3:(Sm (n+162)).ts (ρ9 (nI a) (nI b)) (.cmp .lt (.var 98) (.lit (.int 0)))=some (decide ((a:Int)<0)):=by kernel_rfl
 rw [decide_eq_false (Int.not_lt.mpr (Int.natCast_nonneg a))] at t3
 rw [fn_pl (fp:=F_int_divmod) (by kernel_rfl) (by kernel_rfl)]
 exact run_r (ρ:=ρ9 (nI a) (nI b)) rfl (exL_r (s_f t1 (exL_r (s_f t2 (exL_r (s_f t3 (exL_r (s_rt (ev_call (vs:=[nI a,nI b]) (by kernel_rfl) (divmod_pos_spec (n:=n) hb hb2 hm))))))))))
end Mine
end
section
set_option maxRecDepth 100000
set_option exponentiation.threshold 10000
open PySem
set_option genSizeOf false
set_option genInjectivity false
namespace Mine
theorem b_powN {a n:Nat} (h:(Nat.log2 a+1)*n≤67108864):binV .pow (nI a) (nI n)=some (nI (a ^ n)) :=
 (show _=og (Nat.ble ((Nat.log2 a+1)*n) 67108864) (PV.int ((a:Int) ^ n)) from rfl).trans ((ogT (ble_tr h)).trans (by rw [← Int.natCast_pow]))
noncomputable def pst (q acc s:Nat):Nat:=acc*(q ^ s - 1)
noncomputable def pwN:Nat:=31085967473
noncomputable def accN:Nat:=518039304681969
noncomputable def stN:Nat:=238664436
noncomputable def lpE:PE:=.bin .mul (.var accN) (.bin .sub (.bin .pow (.var pwN) (.var stN)) (.lit (.int 1)))
noncomputable def lpB:List PS:=[.assign accN lpE [accN,pwN,stN]]
noncomputable def Tl (x:Nat) (t:PEnv):Prop:=t=[]∨∃ y,t=[(x,false,y)]
noncomputable def envQ (q a b acc:Nat) (t:PEnv):PEnv:=(pwN,false,nI q) :: (31652115815,false,nI a) :: (247279981,false,nI b) :: (accN,false,nI acc) :: t
noncomputable def lpI (q a b n acc:Nat) (ρ:PEnv):Prop:=(∃ t,Tl stN t∧ρ=envQ q a b acc t)∧∃ K,acc<2 ^ K∧K+6000*n≤100000
theorem qw_le {q w:Nat} (hq:q<2 ^ 1000) (hw:w≤6):q ^ w - 1<2 ^ 6000:=by
 have h:q ^ w≤2 ^ 6000:=Nat.le_trans (Nat.pow_le_pow_left (Nat.le_of_lt hq) w) (by rw [← Nat.pow_mul];exact p2_le (Nat.le_trans (Nat.mul_le_mul_left 1000 hw) (by decide)))
 exact Nat.lt_of_le_of_lt (Nat.sub_le_sub_right h 1) (Nat.sub_lt (p2 _) (by decide))
theorem lp_step {k q a b:Nat} (hq0:0<q) (hq:q<2 ^ 1000) (n acc w:Nat) (ρ:PEnv) (h:lpI q a b (n+1) acc ρ) (hw:w≤6):∃ ρ₁ ρ',bindT [stN] true (nI w) ρ=some ρ₁∧(Sm (k+12)).ex ρ₁ lpB=some (ρ',.next)∧lpI q a b n (pst q acc w) ρ':=by
 obtain ⟨⟨t,ht,rfl⟩,K,hK,hb⟩:=h
 refine ⟨_,envQ q a b (pst q acc w) [(stN,false,nI w)],rfl,?_,⟨_,.inr ⟨_,rfl⟩,rfl⟩,K+6000,?_,by rw [Nat.add_assoc,Nat.add_comm 6000,← Nat.mul_succ];exact hb⟩
 ·rw [show PEnv.set (envQ q a b acc t) stN false (nI w)=envQ q a b acc [(stN,false,nI w)] by rcases ht with rfl|⟨y,rfl⟩ <;> kernel_rfl]
  have hs:(Sm (k+10)).ev (PEnv.only [accN,pwN,stN] (envQ q a b acc [(stN,false,nI w)])) (.bin .sub (.bin .pow (.var pwN) (.var stN)) (.lit (.int 1)))=some (nI (q ^ w - 1)) :=
   ev_bin (x:=nI (q ^ w)) (y:=nI 1) (ev_bin (x:=nI q) (y:=nI w) (by kernel_rfl) (by kernel_rfl) (b_powN (Nat.le_trans (Nat.mul_le_mul (Nat.succ_le_succ (log2_le hq)) hw) (by decide)))) (by kernel_rfl) (congrArg (fun i=>some (PV.int i)) (sub1 (Nat.pow_pos hq0)))
  exact (exL_1 (s_as (v:=nI (pst q acc w)) (ev_bin (x:=nI acc) (y:=nI (q ^ w - 1)) (by kernel_rfl) hs (b_mul (fits_nat hK (Nat.lt_of_le_of_lt (Nat.le_of_add_right_le hb) (by decide))) (fits_nat (qw_le hq hw) (by decide)))))).trans (by kernel_rfl)
 ·rw [Nat.pow_add]
  exact Nat.mul_lt_mul_of_lt_of_le hK (Nat.le_of_lt (qw_le hq hw)) (p2 _)
noncomputable def seg (a b:Nat):List Nat:=List.range' a (b+1 - a)
theorem seg_le {a b:Nat} (hb:b≤6):(∀ s∈seg a b,s≤6)∧(seg a b).length≤7:=by
 constructor
 ·intro s h
  have:=(List.mem_range'_1.mp h)
  lia
 ·rw [seg,List.length_range']
  lia
theorem it_rg {n:Nat} {ρ:PEnv} {e1 e2:PE} {v w:PV} {l:List PV} (h1:(Sm n).ev ρ e1=some v) (h2:(Sm n).ev ρ e2=some w) (h3:rangeV [v,w]=some l):iterV (Sm n) ρ (.bi .range [e1,e2])=some (l,false):=obs (evL_2 h1 h2) (obs h3 rfl)
theorem lp_spec {k q a b:Nat} (hq0:0<q) (hq:q<2 ^ 1000) (ha:a≤7) (hb:b≤6):(Sm (k+20)).fn 17799694973213118310168288 [nI q,nI a,nI b]=some (nI ((seg a b).foldl (pst q) 1)):=by
 obtain ⟨g1,g2⟩:=seg_le (a:=a) hb
 obtain ⟨ρ',h3,⟨t,ht,rfl⟩,_⟩:=for_inv (k:=k+17) (I:=lpI q a b) (lp_step (k:=k+6) hq0 hq) (seg a b) 1 (envQ q a b 1 []) ⟨⟨[],.inl rfl,rfl⟩,1,by decide,Nat.le_trans (Nat.add_le_add_left (Nat.mul_le_mul_left 6000 g2) 1) (by decide)⟩ g1
 have small_n:∀ {m:Nat},m≤7→small (m:Int)=true:=fun h=>Nat.blt_eq.mpr (show _<1000000 from Nat.lt_of_le_of_lt h (by decide))
 have hr:rangeV [nI a,nI (b+1)]=some ((seg a b).map nI):=by
  refine (show _=og (small (a:Int) && small ((b+1:Nat):Int)) (rangeUp (a:Int) (((b+1:Nat):Int) - a).toNat) from rfl).trans ((ogT (by rw [small_n ha,small_n (Nat.succ_le_succ hb)];rfl)).trans ?_)
  rw [Int.toNat_sub,rangeUp_map]
  rfl
 have hi:iterV (Sm (k+18)) (PEnv.only [31652115815,247279981] (envQ q a b 1 [])) (.bi .range [.var 31652115815,.bin .add (.var 247279981) (.lit (.int 1))])=some ((seg a b).map nI,false):=it_rg (v:=nI a) (w:=nI (b+1)) (by kernel_rfl) (by kernel_rfl) hr
 rw [fn_pl (fp:=F__law_product) (by kernel_rfl) (by kernel_rfl)]
 apply run_r (n:=k+18) (ρ:=[(pwN,false,nI q),(31652115815,false,nI a),(247279981,false,nI b)]) (by rfl)
 refine exL_n (ρ':=envQ q a b 1 []) (by kernel_rfl) ?_
 refine exL_n (s_for (ps:=(seg a b).map nI) (b:=false) hi h3) ?_
 exact exL_r (s_rt (by rcases ht with rfl|⟨y,rfl⟩ <;> kernel_rfl))
noncomputable def evZ (q:Int):List Int→Int
 | []=>0
 | a :: r=>a+q*evZ q r
noncomputable def subZ:List Int→List Int→List Int
 | [],[]=>[]
 | [],b :: r=>-b :: subZ [] r
 | a :: r,[]=>a :: r
 | a :: r,b :: s=>(a - b) :: subZ r s
theorem evZ_sub (q:Int):∀ a b,evZ q (subZ a b)=evZ q a - evZ q b
 | [],[]=>rfl
 | [],b :: r=>by
  show -b+q*evZ q (subZ [] r)=0 - (b+q*evZ q r)
  rw [evZ_sub q [] r,Int.mul_sub,show evZ q []=0 from rfl,Int.mul_zero]
  lia
 | a :: r,[]=>(Int.sub_zero _).symm
 | a :: r,b :: s=>by
  show a - b+q*evZ q (subZ r s)=a+q*evZ q r - (b+q*evZ q s)
  rw [evZ_sub q r s,Int.mul_sub]
  lia
noncomputable def shZ:Nat→List Int→List Int
 | 0,p=>p
 | s+1,p=>0 :: shZ s p
theorem evZ_sh (q:Int):∀ s p,evZ q (shZ s p)=q ^ s*evZ q p
 | 0,p=>by rw [shZ,Int.pow_zero,Int.one_mul]
 | s+1,p=>by rw [shZ,evZ,evZ_sh q s p,Int.zero_add,Int.pow_succ,Int.mul_comm (q ^ s) q,Int.mul_assoc]
noncomputable def mulM (p:List Int) (s:Nat):List Int:=subZ (shZ s p) p
theorem evZ_mulM (q:Int) (p:List Int) (s:Nat):evZ q (mulM p s)=evZ q p*(q ^ s - 1):=by
 rw [mulM,evZ_sub,evZ_sh,Int.mul_sub,Int.mul_one,Int.mul_comm]
noncomputable def eqZ:List Int→List Int→Bool
 | [],b=>b.all fun x=>decide (x=0)
 | a :: r,[]=>(a :: r).all fun x=>decide (x=0)
 | a :: r,b :: s=>decide (a=b) && eqZ r s
theorem evZ_zero (q:Int):∀ {a:List Int},a.all (fun x=>decide (x=0))=true→evZ q a=0
 | [],_=>rfl
 | a :: r,h=>by
  obtain ⟨h1,h2⟩:=Bool.and_eq_true_iff.mp h
  rw [evZ,of_decide_eq_true h1,evZ_zero q h2,Int.mul_zero,Int.add_zero]
theorem evZ_eq (q:Int):∀ {a b:List Int},eqZ a b=true→evZ q a=evZ q b
 | [],b,h=>(evZ_zero q h).symm
 | a :: r,[],h=>evZ_zero q h
 | a :: r,b :: s,h=>by
  obtain ⟨h1,h2⟩:=Bool.and_eq_true_iff.mp h
  rw [evZ,evZ,of_decide_eq_true h1,evZ_eq q h2]
noncomputable def zs (c:List Nat):List Int:=c.map fun (x:Nat)=>(x:Int)
theorem evZ_zs (q:Nat):∀ c:List Nat,evZ q (zs c)=(evN q c:Nat)
 | []=>rfl
 | a :: c=>by
  rw [evN,Int.natCast_add,Int.natCast_mul,← evZ_zs q c]
  rfl
theorem evZ_prod {q:Nat} (hq:0<q):∀ (l:List Nat) (p:List Int) (a:Nat),evZ q p=a→evZ q (l.foldl mulM p)=((l.foldl (pst q) a:Nat):Int)
 | [],_,_,h=>h
 | s :: l,p,a,h=>by
  refine evZ_prod hq l (mulM p s) (pst q a s) ?_
  rw [evZ_mulM,h,pst,Int.natCast_mul,← sub1 (Nat.pow_pos hq),Int.natCast_pow]
theorem pst_lin (q:Nat):∀ (l:List Nat) (a:Nat),l.foldl (pst q) a=a*l.foldl (pst q) 1
 | [],a=>(Nat.mul_one a).symm
 | s :: l,a=>by
  rw [List.foldl_cons,List.foldl_cons,pst_lin q l (pst q a s),pst_lin q l (pst q 1 s),pst,pst,Nat.one_mul,Nat.mul_assoc]
end Mine
end
section
set_option maxRecDepth 100000
open PySem
set_option genSizeOf false
set_option genInjectivity false
namespace Mine
noncomputable def bump:List Nat→Nat→List Nat
 | [],0=>[1]
 | [],b+1=>0 :: bump [] b
 | a :: c,0=>(a+1) :: c
 | a :: c,b+1=>a :: bump c b
noncomputable def wsText:List Nat→List Nat
 | []=>[]
 | t :: ts=>List.replicate t 32++9 :: wsText ts
noncomputable def sumT:List Nat→Nat
 | []=>0
 | t :: ts=>t+(sumT ts+1)
noncomputable def wsV (x:List Nat) (n nt b:Nat) (c:List Nat):PV:=.inst [1978739,111,15087,232585327,7411736924317563498] [.str x,nI n,nI nt,.tup [.tup (nums c),nI b],.bool (!decide ((1:Int)<(c.length:Nat)))]
noncomputable def wsInst (ts:List Nat):PV:=wsV (wsText ts) (sumT ts) ts.length 0 (ts.foldl bump [])
noncomputable def wsLong (ts:List Nat):PV:=wsV (wsText ts++[32]) (sumT ts+1) ts.length 1 (ts.foldl bump [])
noncomputable def wF:Nat→Nat→Nat→List (List Nat)
 | 0,_,_=>[]
 | k+1,f,o=>match Nat.beq f 0 || Nat.beq o 0 with
  | true=>[List.replicate f 102++List.replicate o 105]
  | false=>(wF k (f - 1) o).map (102 :: ·)++(wF k f (o - 1)).map (105 :: ·)
noncomputable def lawNames:List (List Nat):=[[79,80,84,73,77,73,90,69,68],[78,69,87,76,79,67,65,76,83],[86,65,82,65,82,71,83],[86,65,82,75,69,89,87,79,82,68,83],[78,69,83,84,69,68],[71,69,78,69,82,65,84,79,82],[78,79,70,82,69,69],[67,79,82,79,85,84,73,78,69],[73,84,69,82,65,66,76,69,95,67,79,82,79,85,84,73,78,69],[65,83,89,78,67,95,71,69,78,69,82,65,84,79,82],[48,120,52,48,48],[48,120,56,48,48],[48,120,49,48,48,48]]
noncomputable def plF:Nat→List Nat→List Nat
 | _,[]=>[]
 | p,c :: w=>match Nat.beq c 102 with
  | true=>p :: plF (p+1) w
  | false=>plF (p+1) w
noncomputable def rowOf (l:List (List Nat)):List Nat:=match l.isEmpty with
 | true=>[48,120,48]
 | false=>joinV [44,32] l
noncomputable def rowF (bs:Nat) (w:List Nat):List Nat:=rowOf ((plF bs w).map fun p=>lawNames.getD p [])
noncomputable def rotF (w:List Nat):List Nat:=w.getLastD 0 :: w.dropLast
noncomputable def tot:List Nat→Nat
 | []=>0
 | a :: r=>a+tot r
noncomputable def tS (f o:Nat):List Nat:=(wF 20 f o).map fun w=>(tot (plF 0 w) - f*(f - 1) / 2) % (f+o)
noncomputable def ringT:List (List Nat):=[[1],[3],[3],[1],[1],[4],[4,2],[4],[1],[1],[5],[5,5],[5,5],[5],[1],[1],[6],[6,6,3],[6,6,6,2],[6,6,3],[6],[1]]
noncomputable def ix (f o:Nat):Nat:=[0,4,9,15].getD (f+o - 3) 0+f
noncomputable def tT (f o:Nat):List Nat:=(ringT.getD (ix f o) []).flatMap fun l=>(List.range l).map fun s=>(f+o) / l*s
noncomputable def numF (w:List Nat):Nat:=tot ((plF 0 w).map (2 ^ ·))
noncomputable def lastW (f o:Nat):List Nat:=(wF 20 f o).getLastD []
noncomputable def rowsV (bs f o:Nat):List PV:=(wF 20 f o).map fun w=>.tup [.str (rowF bs w),.str (rowF bs (rotF w))]
noncomputable def strsV (l:List (List Nat)):List PV:=l.map .str
noncomputable def envA (v:Nat→PV) (f o:Nat) (bs wd tb:Nat) (t:PEnv):PEnv :=
 (4050646790772,false,v 0) :: (4015196567669,false,v 1) :: (31373014388,false,v 2) :: (234501492,false,v 3) :: (514152392913773,false,v 4) :: (57310523954936305,false,v 5) :: (215938420,false,nI (f+o)) :: (14951,false,nI f) :: (215822691,false,nI bs) :: (28432758136,false,nI wd) :: (1634677,false,nI tb) :: t
noncomputable def envB (bs f o:Nat) (t:PEnv):PEnv :=
 (31352223864,false,.list (strsV (wF 20 f o))) :: (30049842420,false,.dict (wF 20 f o) ((wF 20 f o).map fun w=>.str (rowF bs w))) :: (57310699503450215,false,.list (rowsV bs f o)) :: (213710968,false,.str (lastW f o)) ::
 (3978959764335,false,nI (numF (lastW f o))) :: (221918569,false,nI (2*numF (lastW f o) / 2 ^ (f+o))) :: (1980525,false,nI (2*numF (lastW f o) % 2 ^ (f+o))) ::
 (245103475,false,.list (nums (tT f o))) :: (4013321402097,false,.list (nums ((wF 20 f o).map fun w=>tot (plF 0 w)))) :: (3497946495860,false,wsInst (tS f o)) :: (3497948674933,false,wsInst (tT f o)) :: (3978970265709,false,wsLong (tT f o)) :: t
noncomputable def prs:List (Nat × Nat):=[3,4,5,6].flatMap fun n=>(List.range (n+1)).map fun f=>(f,n - f)
theorem of_maps {α β:Type} {f g:α→β} {l:List α} (h:l.map f=l.map g):∀ a∈l,f a=g a:=List.map_inj_left.mp h
noncomputable def M10 (f o bs:Nat):Prop:=∀ (v:Nat→PV) (wd tb:Nat),exL (Sm 278) ((F_law.body.drop 10).take 10) (envA v f o bs wd tb [])=some (envA v f o bs wd tb (envB bs f o []),.next)
theorem all8 {P:Nat→Prop} (h0:P 0) (h1:P 1) (h2:P 2) (h3:P 3) (h4:P 4) (h5:P 5) (h6:P 6) (h7:P 7):∀ b,b<8→P b
 | 0,_=>h0
 | 1,_=>h1
 | 2,_=>h2
 | 3,_=>h3
 | 4,_=>h4
 | 5,_=>h5
 | 6,_=>h6
 | 7,_=>h7
 | n+8,h=>absurd h (Nat.not_lt.mpr (Nat.le_add_left 8 n))
end Mine
end
section
set_option maxRecDepth 100000
open PySem
set_option genSizeOf false
set_option genInjectivity false
namespace Mine
noncomputable def gF (f o:Nat):List Nat:=((wF 20 f o).map fun w=>tot (plF 0 w) - f*(f - 1) / 2).foldl bump []
noncomputable def cF (f o:Nat):List Nat:=(tS f o).foldl bump []
noncomputable def addN:List Nat→List Nat→List Nat
 | [],b=>b
 | a,[]=>a
 | x :: a,y :: b=>(x+y) :: addN a b
noncomputable def hF (f o:Nat):List Nat:=addN ((gF f o).drop (f+o)) ((gF f o).drop (2*(f+o)))
noncomputable def lastOk:List Nat→Bool
 | []=>false
 | [x]=>Nat.blt 0 x
 | _ :: y :: r=>lastOk (y :: r)
noncomputable def okP (p:Nat × Nat):Bool:=eqZ ((seg (p.2+1) (p.1+p.2)).foldl mulM [1]) ((seg 1 p.1).foldl mulM (zs (gF p.1 p.2))) && (eqZ (subZ (zs (gF p.1 p.2)) (zs (cF p.1 p.2))) (mulM (zs (hF p.1 p.2)) (p.1+p.2)) && ((cF p.1 p.2).all (fun x=>Nat.ble x 61) && (Nat.ble (cF p.1 p.2).length (p.1+p.2) && (lastOk (cF p.1 p.2) && (Nat.ble 3 (p.1+p.2) && Nat.ble (p.1+p.2) 6)))))
theorem ok_all:prs.all okP=true:=by kernel_rfl
theorem lastOk_i:∀ {c:List Nat},lastOk c=true→∃ d x,c=d++[x]∧0<x
 | [],h=>(Bool.false_ne_true h).elim
 | [x],h=>⟨[],x,rfl,Nat.blt_eq.mp h⟩
 | a :: y :: r,h=>by
  obtain ⟨d,x,e,hx⟩:=lastOk_i (c:=y :: r) h
  exact ⟨a :: d,x,by rw [e];rfl,hx⟩
theorem digF_of {n:Nat}:∀ {c:List Nat},(∀ y∈c,y<2 ^ n)→digF n c.length (evN (2 ^ n) c)=c
 | [],_=>rfl
 | a :: c,h=>by
  have ha:=h a (.head _)
  rw [List.length_cons,digF,evN,Nat.add_mul_mod_self_left,Nat.mod_eq_of_lt ha,Nat.add_mul_div_left _ _ (p2 n),Nat.div_eq_of_lt ha,Nat.zero_add,digF_of fun y hy=>h y (.tail _ hy)]
theorem ndig_of {n:Nat} {c:List Nat} (hn:0<n) (h:∀ y∈c,y<2 ^ n) (hl:∃ d x,c=d++[x]∧0<x):ndig (evN (2 ^ n) c) n=c.length:=by
 refine Nat.le_antisymm (ndig_le (evN_lt h) hn) (Nat.not_lt.mp fun q=>?_)
 obtain ⟨d,x,rfl,hx⟩:=hl
 rw [List.length_append] at q
 have h1:=Nat.lt_of_lt_of_le (ndig_lt (a:=evN (2 ^ n) (d++[x])) hn) (p2_le (Nat.mul_le_mul_left n (Nat.le_of_lt_succ q)))
 rw [evN_app,Nat.pow_mul] at h1
 exact absurd (Nat.le_trans (Nat.le_mul_of_pos_right _ (Nat.lt_of_lt_of_le hx (Nat.le_add_right _ _))) (Nat.le_add_left _ _)) (Nat.not_le.mpr h1)
structure Quo (f o wd:Nat):Prop where
 prod:(seg (o+1) (f+o)).foldl (pst (2 ^ wd)) 1=evN (2 ^ wd) (gF f o)*(seg 1 f).foldl (pst (2 ^ wd)) 1
 fold:evN (2 ^ wd) (gF f o)=((2 ^ wd) ^ (f+o) - 1)*evN (2 ^ wd) (hF f o)+evN (2 ^ wd) (cF f o)
 small:evN (2 ^ wd) (cF f o)<(2 ^ wd) ^ (f+o) - 1
 nd:ndig (evN (2 ^ wd) (cF f o)) wd=(cF f o).length
 dig:digF wd (cF f o).length (evN (2 ^ wd) (cF f o))=cF f o
 l6:f+o≤6
 l3:3≤f+o
 lc:(cF f o).length≤6
theorem quo {f o wd:Nat} (h:(f,o)∈prs) (hw:6≤wd):Quo f o wd:=by
 have k:=List.all_eq_true.mp ok_all _ h
 unfold okP at k
 obtain ⟨k1,k⟩:=Bool.and_eq_true_iff.mp k
 obtain ⟨k2,k⟩:=Bool.and_eq_true_iff.mp k
 obtain ⟨k3,k⟩:=Bool.and_eq_true_iff.mp k
 obtain ⟨k4,k⟩:=Bool.and_eq_true_iff.mp k
 obtain ⟨k5,k⟩:=Bool.and_eq_true_iff.mp k
 obtain ⟨k6,k7⟩:=Bool.and_eq_true_iff.mp k
 dsimp only at k1 k2 k3 k4 k5 k6 k7
 have k4:=Nat.ble_eq.mp k4
 have k6:=Nat.ble_eq.mp k6
 have k7:=Nat.ble_eq.mp k7
 have hq:(0:Nat)<2 ^ wd:=p2 wd
 have h64:64≤2 ^ wd:=p2_le hw
 have dl:∀ y∈cF f o,y≤61:=fun y hy=>Nat.ble_eq.mp (List.all_eq_true.mp k3 y hy)
 have dlt:∀ y∈cF f o,y<2 ^ wd:=fun y hy=>Nat.lt_of_le_of_lt (dl y hy) (Nat.lt_of_lt_of_le (by decide) h64)
 have hl:=lastOk_i k5
 have e1:=evZ_eq ((2 ^ wd:Nat):Int) k1
 rw [evZ_prod hq _ [1] 1 (by show (1:Int)+_*0=1;rw [Int.mul_zero];rfl),evZ_prod hq _ _ _ (evZ_zs _ _),pst_lin _ (seg 1 f)] at e1
 have e2:=evZ_eq ((2 ^ wd:Nat):Int) k2
 rw [evZ_sub,evZ_mulM,evZ_zs,evZ_zs,evZ_zs] at e2
 refine ⟨Int.ofNat.inj e1,?_,?_,ndig_of (Nat.lt_of_lt_of_le (by decide) hw) dlt hl,digF_of dlt,k7,k6,Nat.le_trans k4 k7⟩
 ·have hp:(1:Nat)≤(2 ^ wd) ^ (f+o):=Nat.pow_pos hq
  generalize evN (2 ^ wd) (gF f o)=g at *
  generalize evN (2 ^ wd) (hF f o)=m at *
  generalize evN (2 ^ wd) (cF f o)=c at *
  have e3:(g:Int)=((((2 ^ wd) ^ (f+o) - 1)*m+c:Nat):Int):=by
   rw [Int.natCast_add,Int.natCast_mul,← sub1 hp,Int.natCast_pow,Int.mul_comm _ (m:Int),← e2]
   lia
  exact Int.ofNat.inj e3
 ·cases hc:cF f o with
  | nil =>
   rw [hc] at hl
   obtain ⟨d,x,e,_⟩:=hl
   exact absurd e (by cases d <;> exact fun z=>nomatch z)
  | cons a r =>
   rw [hc] at dl k4
   have h1:=evN_lt (n:=wd) (c:=(a+1) :: r) fun y hy=>by
    rcases List.mem_cons.mp hy with rfl|hy
    ·exact Nat.lt_of_lt_of_le (Nat.succ_le_succ (Nat.succ_le_succ (dl a (.head _)))) (Nat.le_trans (by decide) h64)
    ·exact Nat.lt_of_le_of_lt (dl y (.tail _ hy)) (Nat.lt_of_lt_of_le (by decide) h64)
   have h2:2 ^ (wd*((a+1) :: r).length)≤(2 ^ wd) ^ (f+o):=by
    rw [← Nat.pow_mul]
    exact p2_le (Nat.mul_le_mul_left wd k4)
   have h3:evN (2 ^ wd) ((a+1) :: r)=evN (2 ^ wd) (a :: r)+1:=by
    rw [evN,evN,Nat.add_right_comm]
   lia
end Mine
end
section
set_option maxRecDepth 100000
open PySem
set_option genSizeOf false
set_option genInjectivity false
namespace Mine
noncomputable def smN:Nat:=3497946495860
noncomputable def tuN:Nat:=3497948674933
noncomputable def lgN:Nat:=3978970265709
noncomputable def foN:Nat:=3497927604327
noncomputable def noN:Nat:=461239444404335
noncomputable def nrN:Nat:=232585327
noncomputable def ρR (f o wd tb x:Nat):PEnv:=[(28432758136,false,nI wd),(1634677,false,nI tb),(245103475,false,.list (nums (tT f o))),(smN,false,wsInst (tS f o)),(tuN,false,wsInst (tT f o)),(lgN,false,wsLong (tT f o)),(noN,false,nI 0),(foN,false,nI x)]
noncomputable def isE (m:Nat) (a b:PE) (z:Bool):PE:=.cmp .is_ (.imeth a m [b]) (.lit (.bool z))
noncomputable def cs4:List PE:=[isE 29466933606 (.var smN) (.var tuN) true,.cmp .eq (.imeth (.var tuN) 607044556810351699428703568706500719 [(.var smN)]) (.list []),isE 245183341 (.var smN) (.var tuN) false,isE 245183341 (.var smN) (.var lgN) true]
noncomputable def c7E:PE:=.cmp .eq (.imeth (.var smN) 16593139630497283534583786 [(.var 1634677)]) (.bi .sum [(.comp (.el (.bin .mul (.bin .add (.bin .fdiv (.var 1833843) (.var 1634677)) (.lit (.int 1))) (.var 1634677))) [1833843] true (.tv (.var 245103475)) [] [1634677])])
theorem c4_all:∀ wd tb x:Nat,prs.map (fun p=>evL (Sm 277) (ρR p.1 p.2 wd tb x) cs4)=prs.map fun _=>some [PV.bool true,.bool true,.bool true,.bool true]:=fun _ _ _=>by kernel_rfl
theorem c7_all:∀ wd x:Nat,(prs.flatMap fun p=>(List.range 5).map fun t=>(p,t)).map (fun p=>(Sm 277).ev (ρR p.1.1 p.1.2 wd (1+p.2) x) c7E)=(prs.flatMap fun p=>(List.range 5).map fun t=>(p,t)).map fun _=>some (PV.bool true):=fun _ _=>by kernel_rfl
noncomputable def nrm (c:List Nat):PV:=.tup [.tup (nums c),nI 0]
theorem nr_all:prs.map (fun p=>cmpV .eq (nrm (cF p.1 p.2)) (nrm (cF p.1 p.2)))=prs.map fun _=>some true:=by kernel_rfl
end Mine
end
section
set_option maxRecDepth 100000
open PySem
set_option genSizeOf false
set_option genInjectivity false
namespace Mine
theorem pst_le (q:Nat):∀ (l:List Nat) (a:Nat),l.foldl (pst q) a≤a*q ^ tot l
 | [],a=>by rw [tot,Nat.pow_zero,Nat.mul_one];exact Nat.le_refl _
 | s :: l,a=>by
  rw [List.foldl_cons,tot,Nat.pow_add,← Nat.mul_assoc]
  exact Nat.le_trans (pst_le q l _) (Nat.mul_le_mul_right _ (Nat.mul_le_mul_left a (Nat.sub_le _ 1)))
theorem pst_ge {q:Nat} (hq:2≤q):∀ (l:List Nat) (a:Nat),(∀ s∈l,0<s)→a≤l.foldl (pst q) a
 | [],a,_=>Nat.le_refl a
 | s :: l,a,h=>by
  have h1:2≤q ^ s:=Nat.le_trans hq (Nat.le_self_pow (Nat.ne_of_gt (h s (.head _))) q)
  exact Nat.le_trans (Nat.le_mul_of_pos_right a (show 0<q ^ s - 1 by lia)) (pst_ge hq l _ fun t ht=>h t (.tail _ ht))
theorem tot_all:prs.all (fun p=>Nat.ble (tot (seg (p.2+1) (p.1+p.2))) 21 && Nat.ble (tot (seg 1 p.1)) 21)=true:=by kernel_rfl
theorem wd_bits {b wd:Nat} (h:2 ^ (wd - 1)≤b):wd≤bits b:=by
 have:=(Nat.pow_lt_pow_iff_right (a:=2) (by decide)).mp (Nat.lt_of_le_of_lt h (lt_bits b))
 lia
theorem idm_q {n a b wd:Nat} (hw:6≤wd) (hw2:wd≤880) (ha:a<2 ^ (wd*22)) (hb1:2 ^ (wd - 1)≤b) (hb2:b<2 ^ (wd*22)):(Sm (n+166)).fn idN [nI a,nI b]=some (.tup [nI (a / b),nI (a % b)]):=by
 have h1:=wd_bits hb1
 exact idm_pos (Nat.lt_of_lt_of_le (p2 _) hb1) (Nat.le_trans (nbits_le hb2) (Nat.le_trans (Nat.mul_le_mul_right 22 hw2) (by decide))) (Nat.le_trans (ndig_le (m:=22) (Nat.lt_of_lt_of_le ha (p2_le (Nat.mul_le_mul_right 22 h1))) (Nat.lt_of_lt_of_le (by decide) (Nat.le_trans hw h1))) (by decide))
section
variable {f o wd:Nat} (h:(f,o)∈prs) (hw:6≤wd) (hw2:wd≤880)
include h hw
theorem q_half:2 ^ (wd - 1)≤2 ^ wd - 1:=by
 have e:2 ^ wd=2*2 ^ (wd - 1):=by rw [← Nat.pow_succ',Nat.succ_eq_add_one,Nat.sub_add_cancel (Nat.le_trans (by decide) hw)]
 have:=p2 (wd - 1)
 lia
theorem up22 {x:Nat} (hx:x≤(2 ^ wd) ^ 21):x<2 ^ (wd*22):=by
 rw [← Nat.pow_mul] at hx
 exact Nat.lt_of_le_of_lt hx (Nat.pow_lt_pow_right (by decide) (Nat.mul_lt_mul_of_pos_left (by decide) (Nat.lt_of_lt_of_le (by decide) hw)))
theorem nd_le:(seg (o+1) (f+o)).foldl (pst (2 ^ wd)) 1≤(2 ^ wd) ^ 21∧(seg 1 f).foldl (pst (2 ^ wd)) 1≤(2 ^ wd) ^ 21:=by
 obtain ⟨k1,k2⟩:=Bool.and_eq_true_iff.mp (List.all_eq_true.mp tot_all _ h)
 have k:∀ {l:List Nat},tot l≤21→l.foldl (pst (2 ^ wd)) 1≤(2 ^ wd) ^ 21:=fun g=>Nat.le_trans (pst_le _ _ 1) (by rw [Nat.one_mul];exact Nat.pow_le_pow_right (p2 wd) g)
 exact ⟨k (Nat.ble_eq.mp k1),k (Nat.ble_eq.mp k2)⟩
theorem seg_pos:∀ s∈seg 1 f,0<s:=fun s hs=>(List.mem_range'_1.mp hs).1
include hw2
theorem div1 {n:Nat}:(Sm (n+166)).fn idN [nI ((seg (o+1) (f+o)).foldl (pst (2 ^ wd)) 1),nI ((seg 1 f).foldl (pst (2 ^ wd)) 1)]=some (.tup [nI (evN (2 ^ wd) (gF f o)),nI 0]):=by
 have Q:=quo h hw
 obtain ⟨k1,k2⟩:=nd_le h hw
 have h2:2≤2 ^ wd:=Nat.le_trans (by decide) (p2_le hw)
 have d0:=pst_ge h2 (seg 1 f) 1 (seg_pos h hw)
 have e1:(seg (o+1) (f+o)).foldl (pst (2 ^ wd)) 1 / (seg 1 f).foldl (pst (2 ^ wd)) 1=evN (2 ^ wd) (gF f o):=by rw [Q.prod];exact Nat.mul_div_cancel _ d0
 have e2:(seg (o+1) (f+o)).foldl (pst (2 ^ wd)) 1 % (seg 1 f).foldl (pst (2 ^ wd)) 1=0:=by rw [Q.prod];exact Nat.mul_mod_left _ _
 by_cases z:f=0
 ·subst z
  have n1:(seg (o+1) (0+o)).foldl (pst (2 ^ wd)) 1=1:=by
   rw [seg,show 0+o+1 - (o+1)=0 by lia]
   rfl
  have n2:(seg 1 0).foldl (pst (2 ^ wd)) 1=1:=rfl
  rw [n1,n2] at e1 e2 ⊢
  rw [← e1]
  exact (idm_pos (n:=n) (a:=1) (b:=1) (by decide) (by decide) (by decide)).trans (by rw [e2])
 ·rw [← e1,← e2]
  refine idm_q hw hw2 (up22 h hw k1) (Nat.le_trans (q_half h hw) ?_) (up22 h hw k2)
  obtain ⟨g,rfl⟩:=Nat.exists_eq_succ_of_ne_zero z
  have hs:seg 1 (g+1)=1 :: List.range' 2 g:=by rw [seg,Nat.add_sub_cancel];rfl
  have hp:=seg_pos h hw
  rw [show g.succ=g+1 from rfl,hs] at hp ⊢
  exact Nat.le_trans (by rw [pst,Nat.one_mul,Nat.pow_one];exact Nat.le_refl _) (pst_ge h2 _ (pst (2 ^ wd) 1 1) fun s hs=>hp s (.tail _ hs))
theorem div2 {n:Nat}:(Sm (n+166)).fn idN [nI (evN (2 ^ wd) (gF f o)),nI ((2 ^ wd) ^ (f+o) - 1)]=some (.tup [nI (evN (2 ^ wd) (hF f o)),nI (evN (2 ^ wd) (cF f o))]):=by
 have Q:=quo h hw
 have h2:2≤2 ^ wd:=Nat.le_trans (by decide) (p2_le hw)
 have d0:=pst_ge h2 (seg 1 f) 1 (seg_pos h hw)
 obtain ⟨e1,e2⟩:=div_mod_of Q.fold Q.small
 refine (idm_q hw hw2 (up22 h hw (Nat.le_trans ?_ (nd_le h hw).1)) (Nat.le_trans (q_half h hw) (Nat.sub_le_sub_right (Nat.le_self_pow (Nat.ne_of_gt (Nat.lt_of_lt_of_le (by decide) Q.l3)) _) 1)) (up22 h hw (Nat.le_trans (Nat.sub_le _ 1) (Nat.pow_le_pow_right (p2 wd) (Nat.le_trans Q.l6 (by decide)))))).trans (by rw [e1,e2])
 rw [Q.prod]
 exact Nat.le_mul_of_pos_right _ d0
end
end Mine
end
section
set_option maxRecDepth 100000
set_option exponentiation.threshold 10000
open PySem
set_option genSizeOf false
set_option genInjectivity false
namespace Mine
theorem andGo_true {r:Rc} {ρ:PEnv}:∀ {l:List PE},l ≠ []→(∀ e∈l,r.ev ρ e=some (.bool true))→andGo r ρ l=some (.bool true)
 | [],h,_=>absurd rfl h
 | [e],_,h=>h e (.head _)
 | e :: f :: l,_,h=>obs (h e (.head _)) (andGo_true (List.cons_ne_nil f l) fun x hx=>h x (.tail _ hx))
theorem evL_mem {r:Rc} {ρ:PEnv}:∀ {l:List PE} {vs:List PV},evL r ρ l=some vs→(∀ v∈vs,v=.bool true)→∀ e∈l,r.ev ρ e=some (.bool true)
 | e :: l,vs,h,hv,x,hx=>ob_e h fun v h1 h=>ob_e h fun ws h2 h=>by
  obtain rfl:=Option.some.inj h
  rcases List.mem_cons.mp hx with rfl|hx
  ·exact h1.trans (congrArg some (hv v (.head _)))
  ·exact evL_mem h2 (fun w hw=>hv w (.tail _ hw)) x hx
theorem ev_ix {n:Nat} {ρ:PEnv} {a b:PE} {x y:PV} {q:Option PV} (h1:(Sm n).ev ρ a=some x) (h2:(Sm n).ev ρ b=some y) (h3:idxV x y=q):(Sm (n+1)).ev ρ (.idx a b)=q:=obs h1 (obs h2 h3)
noncomputable def quN:Nat:=66356861107714930
noncomputable def wdN:Nat:=28432758136
noncomputable def sz:PE:=.var 215938420
noncomputable def c2E:PE:=.cmp .eq (.attr (.var smN) nrN) (.tup [.bi .tuple [.call i2N [.var foN,.var wdN]],.lit (.int 0)])
theorem c2_at {f o wd tb:Nat} (h:(f,o)∈prs) (hw:6≤wd) (hw2:wd≤880):(Sm 277).ev (ρR f o wd tb (evN (2 ^ wd) (cF f o))) c2E=some (.bool true):=by
 have Q:=quo h hw
 have hi:=fn_i2 (n:=272) (a:=evN (2 ^ wd) (cF f o)) (b:=wd) (by decide) (Nat.lt_of_lt_of_le (by decide) hw) (Nat.le_trans hw2 (by decide)) (by rw [Q.nd];exact Nat.le_trans Q.lc (by decide))
 rw [Q.nd,Q.dig] at hi
 generalize evN (2 ^ wd) (cF f o)=x at *
 have ht:(Sm 275).ev (ρR f o wd tb x) (.bi .tuple [.call i2N [.var foN,.var wdN]])=some (.tup (nums (cF f o))):=by
  refine ev_bi (n:=274) (vs:=[.list (nums (cF f o))]) (evL_1 (ev_call (n:=273) (vs:=[nI x,nI wd]) (by kernel_rfl) hi)) ?_
  exact obs rfl (obs rfl (ogT (lo_tr ((nums_len _).symm ▸ Nat.le_trans Q.lc (by decide)))))
 exact ev_cmp (n:=276) (x:=nrm (cF f o)) (y:=nrm (cF f o)) (by kernel_rfl) (ev_tup (n:=275) (evL_2 ht (by kernel_rfl))) (of_maps nr_all _ h)
theorem asked {f o wd t:Nat} (h:(f,o)∈prs) (hw:6≤wd) (hw2:wd≤880) (ht:t<5):∀ e∈(.cmp .eq (.var noN) (.lit (.int 0))) :: c2E :: (cs4++[c7E]),(Sm 277).ev (ρR f o wd (1+t) (evN (2 ^ wd) (cF f o))) e=some (.bool true):=fun e he=>by
 rcases List.mem_cons.mp he with rfl|he
 ·kernel_rfl
 rcases List.mem_cons.mp he with rfl|he
 ·exact c2_at h hw hw2
 rcases List.mem_append.mp he with he|he
 ·exact evL_mem (of_maps (c4_all wd (1+t) (evN (2 ^ wd) (cF f o))) _ h) (fun v hv=>by
   rcases List.mem_cons.mp hv with rfl|hv
   ·rfl
   rcases List.mem_cons.mp hv with rfl|hv
   ·rfl
   rcases List.mem_cons.mp hv with rfl|hv
   ·rfl
   exact List.mem_singleton.mp hv) e he
 ·obtain rfl:=List.mem_singleton.mp he
  exact of_maps (c7_all wd (evN (2 ^ wd) (cF f o))) ((f,o),t) (List.mem_flatMap.mpr ⟨_,h,List.mem_map.mpr ⟨t,List.mem_range.mpr ht,rfl⟩⟩)
noncomputable def e20 (q:Nat):PEnv:=[(pwN,false,nI q)]
noncomputable def e21 (q g:Nat):PEnv:=[(pwN,false,nI q),(quN,false,nI g),(noN,false,nI 0)]
noncomputable def e22 (q g c:Nat):PEnv:=[(pwN,false,nI q),(quN,false,nI g),(noN,false,nI 0),(foN,false,nI c)]
theorem part_c {f o bs wd t:Nat} (h:(f,o)∈prs) (hw:6≤wd) (hw2:wd≤880) (ht:t<5) (v:Nat→PV):∃ ρ',exL (Sm 278) (F_law.body.drop 20) (envA v f o bs wd (1+t) (envB bs f o []))=some (ρ',.ret (.bool true)):=by
 have Q:=quo h hw
 have hq0:=p2 wd
 have hq1:2 ^ wd<2 ^ 1000:=Nat.pow_lt_pow_right (by decide) (Nat.lt_of_le_of_lt hw2 (by decide))
 have d1:=div1 (n:=111) h hw hw2
 have d2:=div2 (n:=110) h hw hw2
 have a1:=lp_spec (k:=256) (a:=o+1) (b:=f+o) hq0 hq1 (Nat.succ_le_succ (Nat.le_trans (Nat.le_add_left o f) Q.l6)) Q.l6
 have a2:=lp_spec (k:=256) (a:=1) (b:=f) hq0 hq1 (by decide) (Nat.le_trans (Nat.le_add_right f o) Q.l6)
 have hask:=andGo_true (List.cons_ne_nil _ _) (asked h hw hw2 ht)
 have es:((f+o:Nat):Int) - (f:Nat)+1=((o+1:Nat):Int):=by lia
 generalize (seg (o+1) (f+o)).foldl (pst (2 ^ wd)) 1=N at *
 generalize (seg 1 f).foldl (pst (2 ^ wd)) 1=D at *
 generalize evN (2 ^ wd) (gF f o)=g at *
 generalize evN (2 ^ wd) (cF f o)=c at *
 generalize evN (2 ^ wd) (hF f o)=m at *
 have hp:binV .pow (nI (2 ^ wd)) (nI (f+o))=some (nI ((2 ^ wd) ^ (f+o))):=b_powN (Nat.le_trans (Nat.mul_le_mul (Nat.succ_le_succ (log2_le hq1)) Q.l6) (by decide))
 have s20:exS (Sm 278) (envA v f o bs wd (1+t) (envB bs f o [])) (.assign pwN (.bin .pow (.lit (.int 2)) (.var wdN)) [wdN])=some (envA v f o bs wd (1+t) (envB bs f o (e20 (2 ^ wd))),.next) :=
  (s_as (v:=nI (2 ^ wd)) (ev_bin (n:=277) (x:=nI 2) (y:=nI wd) (by kernel_rfl) (by kernel_rfl) (b_powN (Nat.le_trans (Nat.mul_le_mul_left 2 hw2) (by decide))))).trans (by kernel_rfl)
 generalize 2 ^ wd=q at *
 have v1:evL (Sm 276) (PEnv.only [pwN,215938420,14951] (envA v f o bs wd (1+t) (envB bs f o (e20 q)))) [.var pwN,.bin .add (.bin .sub sz (.var 14951)) (.lit (.int 1)),sz]=some [nI q,nI (o+1),nI (f+o)] :=
  (show _=some [nI q,.int (((f+o:Nat):Int) - (f:Nat)+1),nI (f+o)] by kernel_rfl).trans (by rw [es])
 have v2:evL (Sm 276) (PEnv.only [pwN,215938420,14951] (envA v f o bs wd (1+t) (envB bs f o (e20 q)))) [.var pwN,.lit (.int 1),.var 14951]=some [nI q,nI 1,nI f]:=by kernel_rfl
 have s21:exS (Sm 278) (envA v f o bs wd (1+t) (envB bs f o (e20 q))) (.unpack [quN,noN] (.call idN [.call 17799694973213118310168288 [.var pwN,.bin .add (.bin .sub sz (.var 14951)) (.lit (.int 1)),sz],.call 17799694973213118310168288 [.var pwN,.lit (.int 1),.var 14951]]) [pwN,215938420,14951])=some (envA v f o bs wd (1+t) (envB bs f o (e21 q g)),.next) :=
  s_un (ev_call (n:=277) (vs:=[nI N,nI D]) (evL_2 (ev_call (n:=276) v1 a1) (ev_call (n:=276) v2 a2)) d1) (by kernel_rfl)
 have v3:(Sm 276).ev (PEnv.only [quN,pwN,215938420] (envA v f o bs wd (1+t) (envB bs f o (e21 q g)))) (.bin .sub (.bin .pow (.var pwN) sz) (.lit (.int 1)))=some (nI (q ^ (f+o) - 1)) :=
  ev_bin (n:=275) (x:=nI (q ^ (f+o))) (y:=nI 1) (ev_bin (n:=274) (x:=nI q) (y:=nI (f+o)) (by kernel_rfl) (by kernel_rfl) hp) (by kernel_rfl) (congrArg (fun i=>some (PV.int i)) (sub1 (Nat.pow_pos hq0)))
 have s22:exS (Sm 278) (envA v f o bs wd (1+t) (envB bs f o (e21 q g))) (.assign foN (.idx (.call idN [.var quN,.bin .sub (.bin .pow (.var pwN) sz) (.lit (.int 1))]) (.lit (.int 1))) [quN,pwN,215938420])=some (envA v f o bs wd (1+t) (envB bs f o (e22 q g c)),.next) :=
  (s_as (v:=nI c) (ev_ix (n:=277) (x:=.tup [nI m,nI c]) (y:=nI 1) (ev_call (n:=276) (vs:=[nI g,nI (q ^ (f+o) - 1)]) (evL_2 (v:=nI g) (by kernel_rfl) v3) d2) (by kernel_rfl) (by kernel_rfl))).trans (by kernel_rfl)
 exact ⟨_,exL_n s20 (exL_n s21 (exL_n s22 (exL_r (s_rt hask))))⟩
end Mine
end
section
set_option maxRecDepth 100000
open PySem
set_option genSizeOf false
set_option genInjectivity false
namespace Mine
noncomputable def hands:List Nat:=[97,65,119808,119860,119912,120016,120172,120224,120276,120328,120380,120432]
noncomputable def pcs:List (List Nat):=[[102,105],[105,102],[102,102],[105,105],[102],[105]]
noncomputable def pcL (k:Nat):List Nat:=pcs.getD k []
noncomputable def c1F (k h:Nat):Bool:=Nat.beq k 0 && Nat.beq (h % 2) 0
noncomputable def c2F (k h:Nat):Bool:=Nat.beq k 2 && Nat.beq (h % 2) 0
noncomputable def spF (k h:Nat):List (List Nat × List Nat):=(pcL k).map fun c=>([hands.getD h 0+(c - 97)],[c])
noncomputable def pieceF (k h:Nat):List (List Nat × List Nat):=match c1F k h with
 | true=>[([64257],pcL k)]
 | false=>match c2F k h with
  | true=>[([64256],pcL k)]
  | false=>spF k h
noncomputable def unseenL:List Nat:=[173,847,6150,6155,6156,6157,8203,8204,8205,8288,65279,65024,65025,65026,65027,65028,65029,65030,65031,65032,65033,65034,65035,65036,65037,65038,65039]
noncomputable def mkF (m:Nat):List (List Nat × List Nat):=match Nat.blt m 27 with
 | true=>[([unseenL.getD m 0],[])]
 | false=>[]
noncomputable def segF (t:Nat):List (List Nat × List Nat):=pieceF (t % 6) (t / 6 % 12)++mkF (t / 72)
noncomputable def tup2 (p:List Nat × List Nat):PV:=.tup [.str p.1,.str p.2]
theorem ltB (a b:Nat):decide ((a:Int)<(b:Int))=Nat.blt a b:=by
 cases h:Nat.blt a b with
 | true=>exact decide_eq_true (Int.ofNat_lt.mpr (Nat.blt_eq.mp h))
 | false=>exact decide_eq_false fun q=>Bool.false_ne_true (h.symm.trans (Nat.blt_eq.mpr (Int.ofNat_lt.mp q)))
theorem cmp_lt (a b:Nat):cmpV .lt (nI a) (nI b)=some (Nat.blt a b):=congrArg some (ltB a b)
noncomputable def chB' (c:Nat):Bool:=Nat.blt c 1114112 && !(Nat.ble 55296 c && Nat.blt c 57344)
theorem chr_k {c:Nat} (h:chB' c=true):biV .chr [nI c]=some (.str [c]):=(show _=og (chB' c) (PV.str [c]) from rfl).trans (ogT h)
noncomputable def allKH (m:Nat):List (Nat × Nat):=(List.range m).flatMap fun k=>(List.range 12).map fun h=>(k,h)
theorem mem_KH {m k h:Nat} (hk:k<m) (hh:h<12):(k,h)∈allKH m:=List.mem_flatMap.mpr ⟨k,List.mem_range.mpr hk,List.mem_map.mpr ⟨h,List.mem_range.mpr hh,rfl⟩⟩
noncomputable def sgsN:Nat:=31373014388
noncomputable def toN:Nat:=4015196567669
noncomputable def unN:Nat:=3841527199734
noncomputable def pcN:Nat:=4013321467249
noncomputable def pN:Nat:=27591816561
noncomputable def hN:Nat:=213643625
noncomputable def mkN:Nat:=228389230
noncomputable def ttN:Nat:=29466916981
noncomputable def c1E:PE:=.and [(.cmp .eq (.var pN) (.lit (.str [102,105]))),(.cmp .eq (.bin .mod (.var hN) (.lit (.int 2))) (.lit (.int 0)))]
noncomputable def c2E':PE:=.and [(.cmp .eq (.var pN) (.lit (.str [102,102]))),(.cmp .eq (.bin .mod (.var hN) (.lit (.int 2))) (.lit (.int 0)))]
noncomputable def spE:PE:=.comp (.el (.tup [(.call 15384122077699522845783776 [(.var 3978997625709),(.var hN)]),(.var 3978997625709)])) [3978997625709] true (.tv (.var pN)) [] [hN]
noncomputable def apS (c:Nat):PS:=.append sgsN (.tup [(.bi .chr [(.lit (.int c))]),(.var pN)]) [pN]
noncomputable def txA:PS:=.if_ c1E [apS 64257] [.if_ c2E' [apS 64256] [.extend sgsN spE [pN,hN]]]
noncomputable def txD:PS:=.if_ (.cmp .lt (.var mkN) (.lit (.int 27))) [.append sgsN (.tup [(.bi .chr [(.idx (.var unN) (.var mkN))]),(.lit (.str []))]) [unN,mkN]] []
noncomputable def txB:List PS:=[.assign pN (.idx (.var pcN) (.bin .mod (.var ttN) (.lit (.int 6)))) [pcN,ttN],.assign hN (.bin .mod (.bin .fdiv (.var ttN) (.lit (.int 6))) (.lit (.int 12))) [ttN],.assign mkN (.bin .fdiv (.var ttN) (.lit (.int 72))) [ttN],txA,txD]
noncomputable def envT (to:PV) (o1:Bool) (L:List (List Nat × List Nat)) (t:PEnv):PEnv:=(toN,false,to) :: (unN,o1,.list (nums unseenL)) :: (pcN,true,.list (strsV pcs)) :: (sgsN,true,.list (L.map tup2)) :: t
noncomputable def t4 (t p h m:PV):PEnv:=[(ttN,false,t),(pN,false,p),(hN,false,h),(mkN,false,m)]
theorem s_ext {r:Rc} {ρ:PEnv} {e:PE} {oc:List Nat} {x:Nat} {vs k:List PV} (h:r.ev (PEnv.only oc ρ) e=some (.list vs)) (h2:ownL (PEnv.freeze oc ρ) x=some k) (h3:k.length≤1000000) (h4:vs.length≤1000000):exS r ρ (.extend x e oc)=some (PEnv.set (PEnv.freeze oc ρ) x true (.list (k++vs)),.next):=obs h (obs rfl (obs h2 (ogT (by rw [lo_tr h3,lo_tr h4];rfl))))
theorem map_app (L M:List (List Nat × List Nat)):L.map tup2++M.map tup2=(L++M).map tup2:=(List.map_append (f:=tup2) (l₁:=L) (l₂:=M)).symm
theorem map_snoc (L:List (List Nat × List Nat)) (p:List Nat × List Nat):L.map tup2++[tup2 p]=(L++[p]).map tup2:=map_app L [p]
theorem c1_all (n:Nat) (to:PV) (o1:Bool) (L:List (List Nat × List Nat)) (t m:PV):(allKH 6).map (fun p=>(Sm (n+28)).ts (envT to o1 L (t4 t (.str (pcL p.1)) (nI p.2) m)) c1E)=(allKH 6).map fun p=>some (c1F p.1 p.2):=by kernel_rfl
theorem c2_all (n:Nat) (to:PV) (o1:Bool) (L:List (List Nat × List Nat)) (t m:PV):(allKH 6).map (fun p=>(Sm (n+27)).ts (envT to o1 L (t4 t (.str (pcL p.1)) (nI p.2) m)) c2E')=(allKH 6).map fun p=>some (c2F p.1 p.2):=by kernel_rfl
theorem sp_all:(allKH 6).map (fun p=>(Sm 272).ev [(pN,false,.str (pcL p.1)),(hN,false,nI p.2)] spE)=(allKH 6).map fun p=>some (.list ((spF p.1 p.2).map tup2)):=by kernel_rfl
section
variable {k h n:Nat} {to t m:PV} {o1:Bool} {L:List (List Nat × List Nat)} (hL:L.length≤900)
include hL
theorem ap_at {c k:Nat} (hc:chB' c=true):exS (Sm (n+20)) (envT to o1 L (t4 t (.str (pcL k)) (nI h) m)) (apS c)=some (envT to o1 (L++[([c],pcL k)]) (t4 t (.str (pcL k)) (nI h) m),.next):=by
 refine (s_ap (v:=tup2 ([c],pcL k)) (k:=L.map tup2) (ev_tup (n:=n+19) (evL_2 (v:=.str [c]) (v₂:=.str (pcL k)) (ev_bi (n:=n+18) (vs:=[nI c]) (by kernel_rfl) (chr_k hc)) (by kernel_rfl))) (by kernel_rfl) (by rw [List.length_map];exact Nat.le_trans hL (by decide))).trans ?_
 rw [map_snoc]
 kernel_rfl
theorem tx_a (hk:k<6) (hh:h<12):exS (Sm 274) (envT to o1 L (t4 t (.str (pcL k)) (nI h) m)) txA=some (envT to o1 (L++pieceF k h) (t4 t (.str (pcL k)) (nI h) m),.next):=by
 have h1:=of_maps (c1_all 246 to o1 L t m) _ (mem_KH hk hh)
 have h2:=of_maps (c2_all 246 to o1 L t m) _ (mem_KH hk hh)
 have h3:=of_maps sp_all _ (mem_KH hk hh)
 dsimp only at h1 h2 h3
 unfold pieceF
 cases hb:c1F k h with
 | true =>
  rw [hb] at h1
  exact s_t h1 (show exL (Sm 273) _ _=_ from exL_1 (ap_at (n:=253) hL (by decide)))
 | false =>
  rw [hb] at h1
  refine s_f h1 (show exL (Sm 273) _ _=_ from exL_1 ?_)
  cases hb2:c2F k h with
  | true =>
   rw [hb2] at h2
   exact s_t h2 (show exL (Sm 272) _ _=_ from exL_1 (ap_at (n:=252) hL (by decide)))
  | false =>
   rw [hb2] at h2
   refine s_f h2 (show exL (Sm 272) _ _=_ from (exL_1 (s_ext (k:=L.map tup2) h3 (by kernel_rfl) (by rw [List.length_map];exact Nat.le_trans hL (by decide)) ?_)).trans ?_)
   ·rw [List.length_map,spF,List.length_map]
    exact Nat.le_trans (List.all_eq_true.mp (show (List.range 6).all (fun k=>Nat.ble (pcL k).length 2)=true from rfl) k (List.mem_range.mpr hk) |> Nat.ble_eq.mp) (by decide)
   ·rw [map_app]
    kernel_rfl
theorem tx_d (y q:PV) (m:Nat):∃ o1',exS (Sm (n+28)) (envT to o1 L (t4 t y q (nI m))) txD=some (envT to o1' (L++mkF m) (t4 t y q (nI m)),.next):=by
 have ht:(Sm (n+28)).ts (envT to o1 L (t4 t y q (nI m))) (.cmp .lt (.var mkN) (.lit (.int 27)))=some (Nat.blt m 27):=ts_cmp (x:=nI m) (y:=nI 27) (by kernel_rfl) (by kernel_rfl) (cmp_lt _ 27)
 unfold mkF
 cases hb:Nat.blt m 27 with
 | false =>
  rw [hb] at ht
  exact ⟨o1,s_f ht (by rw [List.append_nil];rfl)⟩
 | true =>
  rw [hb] at ht
  have hm:m<unseenL.length:=Nat.blt_eq.mp hb
  have hc:biV .chr [nI (unseenL.getD m 0)]=some (.str [unseenL.getD m 0]):=chr_k (List.all_eq_true.mp (show unseenL.all chB'=true from rfl) (unseenL.getD m 0) (by rw [List.getD_eq_getElem?_getD,List.getElem?_eq_getElem hm];exact List.getElem_mem _))
  refine ⟨false,s_t ht (show exL (Sm (n+27)) _ _=_ from (exL_1 (s_ap (v:=tup2 ([unseenL.getD m 0],[])) (k:=L.map tup2) (obs (evL_2 (r:=Sm (n+26)) (v:=.str [unseenL.getD m 0]) (v₂:=.str []) (ev_bi (evL_1 (ev_ix (x:=.list (nums unseenL)) (y:=nI m) (by kernel_rfl) (by kernel_rfl) (idx_nums hm (by decide)))) hc) (by kernel_rfl)) rfl) (by kernel_rfl) (by rw [List.length_map];exact Nat.le_trans hL (by decide)))).trans ?_)⟩
  rw [map_snoc]
  kernel_rfl
end
end Mine
end
section
set_option maxRecDepth 100000
open PySem
set_option genSizeOf false
set_option genInjectivity false
namespace Mine
noncomputable def b1F:Nat:=59949670300257315469290
noncomputable def b3F:Nat:=7975789253336593673777518
noncomputable def Gd (p:List Nat × List Nat):Prop:=∀ n,(Sm (n+20)).fn b1F [.str p.1]=some (.bool p.2.isEmpty)∧(p.2.isEmpty=false→(Sm (n+20)).fn b3F [.str p.1]=some (.str p.2))
theorem sign_all (n:Nat):(allKH 6).map (fun a=>(pieceF a.1 a.2).map fun p=>(runF (Sm (n+19)) F_in_table_b1 [.str p.1],runF (Sm (n+19)) F_map_table_b3 [.str p.1]))=(allKH 6).map fun a=>(pieceF a.1 a.2).map fun p=>(some (PV.bool p.2.isEmpty),some (PV.str p.2)):=by kernel_rfl
theorem mark_all (n:Nat):unseenL.map (fun c=>runF (Sm (n+19)) F_in_table_b1 [.str [c]])=unseenL.map fun _=>some (PV.bool true):=by kernel_rfl
theorem fn_b1 {n:Nat} (x:List Nat):(Sm (n+20)).fn b1F [.str x]=runF (Sm (n+19)) F_in_table_b1 [.str x]:=fn_pl (by kernel_rfl) (by kernel_rfl)
theorem fn_b3 {n:Nat} (x:List Nat):(Sm (n+20)).fn b3F [.str x]=runF (Sm (n+19)) F_map_table_b3 [.str x]:=fn_pl (by kernel_rfl) (by kernel_rfl)
theorem gd_sign {k h:Nat} (hk:k<6) (hh:h<12):∀ p∈pieceF k h,Gd p:=fun p hp n=>by
 have q:=of_maps (of_maps (sign_all n) _ (mem_KH hk hh)) p hp
 exact ⟨(fn_b1 _).trans (congrArg Prod.fst q),fun _=>(fn_b3 _).trans (congrArg Prod.snd q)⟩
theorem gd_mark (m:Nat):∀ p∈mkF m,Gd p:=fun p hp n=>by
 unfold mkF at hp
 cases hb:Nat.blt m 27 with
 | false=>rw [hb] at hp;exact nomatch hp
 | true =>
  rw [hb] at hp
  obtain rfl:=List.mem_singleton.mp hp
  have hm:m<unseenL.length:=Nat.blt_eq.mp hb
  exact ⟨(fn_b1 _).trans (of_maps (mark_all n) (unseenL.getD m 0) (by rw [List.getD_eq_getElem?_getD,List.getElem?_eq_getElem hm];exact List.getElem_mem _)),fun h=>(Bool.false_ne_true h.symm).elim⟩
theorem h612 (t:Nat):t % 6<6∧t / 6 % 12<12:=⟨Nat.mod_lt _ (by decide),Nat.mod_lt _ (by decide)⟩
theorem gd_seg (t:Nat):∀ p∈segF t,Gd p:=fun p hp=>by
 rcases List.mem_append.mp hp with hp|hp
 ·exact gd_sign (h612 t).1 (h612 t).2 p hp
 ·exact gd_mark _ p hp
noncomputable def sndF (L:List (List Nat × List Nat)):List Nat:=(L.map Prod.snd).flatten
theorem sndF_app (a b:List (List Nat × List Nat)):sndF (a++b)=sndF a++sndF b:=by rw [sndF,List.map_append,List.flatten_append];rfl
theorem pc_all:(allKH 6).map (fun a=>(sndF (pieceF a.1 a.2),Nat.ble (pieceF a.1 a.2).length 2 && (Nat.ble 1 (pcL a.1).length && Nat.ble (pcL a.1).length 2)))=(allKH 6).map fun a=>(pcL a.1,true):=by kernel_rfl
theorem sndF_seg (t:Nat):sndF (segF t)=pcL (t % 6):=by
 have q:=congrArg Prod.fst (of_maps pc_all _ (mem_KH (h612 t).1 (h612 t).2))
 dsimp only at q
 rw [segF,sndF_app,q,mkF]
 cases Nat.blt (t / 72) 27 <;> exact List.append_nil _
theorem seg_len (t:Nat):(segF t).length≤3:=by
 have q:=congrArg Prod.snd (of_maps pc_all _ (mem_KH (h612 t).1 (h612 t).2))
 dsimp only at q
 have q:=Nat.ble_eq.mp (Bool.and_eq_true_iff.mp q).1
 rw [segF,List.length_append,mkF]
 refine Nat.add_le_add q (?_:_≤1)
 cases Nat.blt (t / 72) 27
 ·exact Nat.zero_le _
 ·exact Nat.le_refl _
theorem ix_all:(List.range 6).map (fun k=>idxV (.list (strsV pcs)) (nI k))=(List.range 6).map fun k=>some (.str (pcL k)):=by kernel_rfl
theorem b_mod {a b:Nat} (h:0<b):binV .mod (nI a) (nI b)=some (nI (a % b)):=by
 refine (show _=ogn (intBeq (b:Int) 0) (PV.int ((a:Int).fmod b)) from rfl).trans ((ognF ((intBeq_nat b 0).trans (decide_eq_false (Nat.ne_of_gt h)))).trans (by rw [← Int.ofNat_fmod]))
noncomputable def Tx (t:PEnv):Prop:=t=[]∨∃ a b c d,t=t4 a b c d
noncomputable def sst (L:List (List Nat × List Nat)) (t:Nat):List (List Nat × List Nat):=L++segF t
noncomputable def txI (to:PV) (n:Nat) (L:List (List Nat × List Nat)) (ρ:PEnv):Prop:=(∃ o1 t,Tx t∧ρ=envT to o1 L t)∧L.length+3*n≤800
theorem tx_step {to:PV} (n:Nat) (L:List (List Nat × List Nat)) (t:Nat) (ρ:PEnv) (hI:txI to (n+1) L ρ) (_:True):∃ ρ₁ ρ',bindT [ttN] true (nI t) ρ=some ρ₁∧(Sm 275).ex ρ₁ txB=some (ρ',.next)∧txI to n (sst L t) ρ':=by
 obtain ⟨⟨o1,tl,hT,rfl⟩,hl⟩:=hI
 have hL:L.length≤800:=Nat.le_of_add_right_le hl
 obtain ⟨h6,h12⟩:=h612 t
 have ha:=tx_a (to:=to) (o1:=o1) (t:=nI t) (m:=nI (t / 72)) (Nat.le_trans hL (by decide)) h6 h12
 obtain ⟨o1',hd⟩:=tx_d (n:=246) (to:=to) (o1:=o1) (L:=L++pieceF (t % 6) (t / 6 % 12)) (t:=nI t) (by
  have q:=congrArg Prod.snd (of_maps pc_all _ (mem_KH h6 h12))
  dsimp only at q
  rw [List.length_append]
  exact Nat.le_trans (Nat.add_le_add hL (Nat.ble_eq.mp (Bool.and_eq_true_iff.mp q).1)) (by decide)) (.str (pcL (t % 6))) (nI (t / 6 % 12)) (t / 72)
 rw [List.append_assoc] at hd
 have e6:exL (Sm 274) [txA,txD] (envT to o1 L (t4 (nI t) (.str (pcL (t % 6))) (nI (t / 6 % 12)) (nI (t / 72))))=some (envT to o1' (sst L t) (t4 (nI t) (.str (pcL (t % 6))) (nI (t / 6 % 12)) (nI (t / 72))),.next):=exL_n ha (exL_1 hd)
 have b6:binV .mod (nI t) (nI 6)=some (nI (t % 6)):=b_mod (by decide)
 have d6:binV .fdiv (nI t) (nI 6)=some (nI (t / 6)):=b_fdivN (k:=5) (by decide) (by decide) (by decide)
 have b12:binV .mod (nI (t / 6)) (nI 12)=some (nI (t / 6 % 12)):=b_mod (by decide)
 have d72:binV .fdiv (nI t) (nI 72)=some (nI (t / 72)):=b_fdivN (k:=8) (by decide) (by decide) (by decide)
 have hix:idxV (.list (strsV pcs)) (nI (t % 6))=some (.str (pcL (t % 6))):=of_maps ix_all _ (List.mem_range.mpr h6)
 have run:∀ t₁,(t₁=[(ttN,false,nI t)]∨∃ b c d,t₁=t4 (nI t) b c d)→exL (Sm 274) txB (envT to o1 L t₁)=some (envT to o1' (sst L t) (t4 (nI t) (.str (pcL (t % 6))) (nI (t / 6 % 12)) (nI (t / 72))),.next):=fun t₁ h₁=>by
  rcases h₁ with rfl|⟨b,c,d,rfl⟩
  ·exact exL_n (s_as (v:=.str (pcL (t % 6))) (ev_ix (n:=273) (by kernel_rfl) (ev_bin (n:=272) (x:=nI t) (y:=nI 6) (by kernel_rfl) (by kernel_rfl) b6) hix)) (exL_n (s_as (v:=nI (t / 6 % 12)) (ev_bin (n:=273) (x:=nI (t / 6)) (y:=nI 12) (ev_bin (n:=272) (x:=nI t) (y:=nI 6) (by kernel_rfl) (by kernel_rfl) d6) (by kernel_rfl) b12)) (exL_n (ρ':=envT to o1 L (t4 (nI t) (.str (pcL (t % 6))) (nI (t / 6 % 12)) (nI (t / 72)))) ((s_as (v:=nI (t / 72)) (ev_bin (n:=273) (x:=nI t) (y:=nI 72) (by kernel_rfl) (by kernel_rfl) d72)).trans (by kernel_rfl)) e6))
  ·exact exL_n (s_as (v:=.str (pcL (t % 6))) (ev_ix (n:=273) (by kernel_rfl) (ev_bin (n:=272) (x:=nI t) (y:=nI 6) (by kernel_rfl) (by kernel_rfl) b6) hix)) (exL_n (s_as (v:=nI (t / 6 % 12)) (ev_bin (n:=273) (x:=nI (t / 6)) (y:=nI 12) (ev_bin (n:=272) (x:=nI t) (y:=nI 6) (by kernel_rfl) (by kernel_rfl) d6) (by kernel_rfl) b12)) (exL_n (ρ':=envT to o1 L (t4 (nI t) (.str (pcL (t % 6))) (nI (t / 6 % 12)) (nI (t / 72)))) ((s_as (v:=nI (t / 72)) (ev_bin (n:=273) (x:=nI t) (y:=nI 72) (by kernel_rfl) (by kernel_rfl) d72)).trans (by kernel_rfl)) e6))
 have h3:(sst L t).length+3*n≤800:=by
  have:=seg_len t
  rw [sst,List.length_append]
  lia
 rcases hT with rfl|⟨a,b,c,d,rfl⟩
 ·exact ⟨_,_,rfl,run _ (.inl rfl),⟨_,_,.inr ⟨_,_,_,_,rfl⟩,rfl⟩,h3⟩
 ·exact ⟨_,_,rfl,run _ (.inr ⟨b,c,d,rfl⟩),⟨_,_,.inr ⟨_,_,_,_,rfl⟩,rfl⟩,h3⟩
theorem tx_spec {ts:List Nat} (hl:ts.length≤3):(Sm 277).fn 1077968566213202720480 [.list (nums ts)]=some (.list ((ts.foldl sst []).map tup2)):=by
 obtain ⟨ρ',h3,⟨o1,t,ht,rfl⟩,_⟩:=for_inv (k:=274) (I:=txI (.list (nums ts))) tx_step ts [] (envT (.list (nums ts)) true [] []) ⟨⟨_,[],.inl rfl,rfl⟩,by rw [List.length_nil,Nat.zero_add];exact Nat.le_trans (Nat.mul_le_mul_left 3 hl) (by decide)⟩ fun _ _=>trivial
 rw [fn_pl (n:=276) (fp:=F__law_signs) (by kernel_rfl) (by kernel_rfl)]
 apply run_r (n:=275) (ρ:=[(toN,false,.list (nums ts))]) (by rfl)
 refine exL_app (l₁:=F__law_signs.body.take 3) (l:=F__law_signs.body.drop 3) (ρ':=envT (.list (nums ts)) true [] []) (by kernel_rfl) ?_
 refine exL_n (s_for (b:=true) (it_tv (n:=275) (ps:=nums ts) (by kernel_rfl) (by rw [nums_len];exact Nat.le_trans hl (by decide))) h3) ?_
 exact exL_r (s_rt (by rcases ht with rfl|⟨a,b,c,d,rfl⟩ <;> kernel_rfl))
end Mine
end
section
set_option maxRecDepth 100000
open PySem
set_option genSizeOf false
set_option genInjectivity false
namespace Mine
theorem cap_nil:∀ ρ:PEnv,PEnv.cap [] ρ=[]
 | []=>rfl
 | _ :: r=>cap_nil r
theorem strs_map {α:Type} {f:α→List Nat}:∀ l:List α,strs? (l.map fun a=>.str (f a))=some (l.map f)
 | []=>rfl
 | a :: l=>obs (a:=f a) rfl (obs (strs_map l) rfl)
theorem j_nil {xs:List (List Nat)} {x:List PV} (h:strs? x=some xs) (hs:sumLen xs≤1000000):methV .join (.str []) [.list x]=some (.str (joinV [] xs)) :=
 obs h (ogT (ble_tr (by rw [List.length_nil,Nat.mul_zero];exact hs)))
theorem ev_me {n:Nat} {ρ:PEnv} {m:MK} {o:PE} {l:List PE} {x:PV} {vs:List PV} {q:Option PV} (h1:(Sm n).ev ρ o=some x) (h2:evL (Sm n) ρ l=some vs) (h3:methV m x vs=q):(Sm (n+1)).ev ρ (.meth m o l)=q:=obs h1 (obs h2 h3)
theorem all_1 {r:Rc} {ρ:PEnv} {c:PE} {b:Bool} (h:r.ts ρ c=some b):allT r ρ [c]=some b:=by
 show oif (r.ts ρ c) (some true) (some false)=_
 rw [h]
 cases b <;> rfl
theorem ev_sl {n:Nat} {ρ:PEnv} {a b c d:PE} {x y z u:PV} {q:Option PV} (h1:(Sm n).ev ρ a=some x) (h2:(Sm n).ev ρ b=some y) (h3:(Sm n).ev ρ c=some z) (h4:(Sm n).ev ρ d=some u) (h5:sliceV x y z u=q):(Sm (n+1)).ev ρ (.slice a b c d)=q:=obs h1 (obs h2 (obs h3 (obs h4 h5)))
noncomputable def sgN:Nat:=234501492
noncomputable def ltN:Nat:=514152392913773
noncomputable def ppN:Nat:=57310523954936305
noncomputable def env2 (s l:PV):PEnv:=[(sgN,false,s),(ltN,false,l)]
noncomputable def Tt (t:PEnv):Prop:=t=[]∨∃ x y,t=env2 x y
noncomputable def ckB:List PS:=[.if_ (.cmp .isNot (.call b1F [(.var sgN)]) (.cmp .eq (.var ltN) (.lit (.str [])))) [.ret (.lit (.bool false)) []] []]
noncomputable def envS (sc to te:PV) (t:PEnv):PEnv:=(4050646790772,false,sc) :: (4015196567669,false,to) :: (sgsN,false,te) :: t
theorem eq_nil (x:List Nat):cmpV .eq (.str x) (.str [])=some x.isEmpty:=by cases x <;> rfl
theorem ne_nil (x:List Nat):cmpV .ne (.str x) (.str [])=some (!x.isEmpty):=by cases x <;> rfl
theorem isnt_self (b:Bool):cmpV .isNot (.bool b) (.bool b)=some false:=by cases b <;> rfl
noncomputable def ckI (sc to te:PV) (N:Nat) (n:Nat) (_:Unit) (ρ:PEnv):Prop:=∃ t,(n=N∧t=[]∨∃ x y,t=env2 x y)∧ρ=envS sc to te t
theorem ck_step {k N:Nat} {sc to te:PV} (n:Nat) (u:Unit) (p:List Nat × List Nat) (ρ:PEnv) (h:ckI sc to te N (n+1) u ρ) (hp:Gd p):∃ ρ₁ ρ',bindT [sgN,ltN] false (tup2 p) ρ=some ρ₁∧(Sm (k+30)).ex ρ₁ ckB=some (ρ',.next)∧ckI sc to te N n () ρ':=by
 obtain ⟨t,ht,rfl⟩:=h
 refine ⟨envS sc to te (env2 (.str p.1) (.str p.2)),envS sc to te (env2 (.str p.1) (.str p.2)),by rcases ht with ⟨_,rfl⟩|⟨x,y,rfl⟩ <;> rfl,?_,env2 (.str p.1) (.str p.2),.inr ⟨_,_,rfl⟩,rfl⟩
 exact exL_1 (s_f (ts_cmp (n:=k+28) (x:=.bool p.2.isEmpty) (y:=.bool p.2.isEmpty) (ev_call (n:=k+27) (vs:=[.str p.1]) (by kernel_rfl) (hp (k+7)).1) (ev_cmp (n:=k+27) (x:=.str p.2) (y:=.str []) (by kernel_rfl) (by kernel_rfl) (eq_nil _)) (isnt_self _)) rfl)
theorem join_fl:∀ l:List (List Nat),joinV [] l=l.flatten
 | []=>rfl
 | [x]=>(List.append_nil x).symm
 | x :: y :: l=>by
  show x++[]++joinV [] (y :: l)=_
  rw [join_fl (y :: l),List.append_nil]
  rfl
theorem sumLen_flat:∀ l:List (List Nat),sumLen l=l.flatten.length
 | []=>rfl
 | x :: l=>by rw [sumLen,sumLen_flat l,List.flatten_cons,List.length_append]
theorem sndF_filter:∀ L:List (List Nat × List Nat),sndF (L.filter fun p=>!p.2.isEmpty)=sndF L
 | []=>rfl
 | p :: L=>by
  have ih:=sndF_filter L
  rw [List.filter_cons]
  cases h:p.2.isEmpty with
  | true=>exact ih.trans (show _=p.2++sndF L by rw [List.isEmpty_iff.mp h];rfl)
  | false=>exact congrArg (p.2++·) ih
noncomputable def jnE (e:PE) (ifs:List PE):PE:=.meth .join (.lit (.str [])) [(.comp (.el e) [sgN,ltN] false (.tv (.var sgsN)) ifs [])]
theorem jn_at {k:Nat} {ρ:PEnv} {e:PE} {ifs:List PE} {L:List (List Nat × List Nat)} {c:List Nat × List Nat→Bool} (hl:L.length≤9) (hs:(sndF L).length≤6) (h1:(Sm (k+20)).ev ρ (.var sgsN)=some (.list (L.map tup2)))
  (h2:∀ p∈L,allT (Sm (k+20)) (env2 (.str p.1) (.str p.2)) ifs=some (c p)∧(c p=true→(Sm (k+20)).ev (env2 (.str p.1) (.str p.2)) e=some (.str p.2))) (h3:sndF (L.filter c)=sndF L):(Sm (k+22)).ev ρ (jnE e ifs)=some (.str (sndF L)):=by
 have hc:=comp_inv (r:=Sm (k+20)) (elt:=e) (xs:=[sgN,ltN]) (si:=false) (ifs:=ifs) (I:=Tt) (ok:=(·∈L)) (g:=tup2) (f:=fun p=>.str p.2) (c:=c) (fun p ρ h hp=>⟨env2 (.str p.1) (.str p.2),by rcases h with rfl|⟨x,y,rfl⟩ <;> rfl,(h2 p hp).1,(h2 p hp).2,.inr ⟨_,_,rfl⟩⟩) L [] [] (.inl rfl) (fun p hp=>hp) (by rw [List.length_nil,Nat.zero_add];exact Nat.le_trans hl (by decide))
 have hf:((L.filter c).map fun p:List Nat × List Nat=>p.2).flatten=sndF L:=h3
 refine ev_me (x:=.str []) (by kernel_rfl) (evL_1 (ev_comp (n:=k+20) (it_tv h1 (by rw [List.length_map];exact Nat.le_trans hl (by decide))) (by rw [cap_nil];exact hc))) ?_
 rw [List.nil_append,j_nil (strs_map (f:=fun p:List Nat × List Nat=>p.2) (L.filter c)) (by rw [sumLen_flat,hf];exact Nat.le_trans hs (by decide)),join_fl,hf]
theorem pickL_map {α β:Type} (f:α→β) (l:List α) (lo hi st:Option Int):pickL (l.map f) lo hi st=(pickL l lo hi st).map f:=by
 unfold pickL
 rw [List.length_map,List.map_filterMap]
 refine congrArg (List.filterMap · _) (funext fun i=>?_)
 rw [List.getElem?_map]
theorem pickL_len (l:List Int) (lo hi st:Option Int):(pickL l lo hi st).length≤l.length:=by
 have e:=slicePick_size_le (l.map fun _=>Value.none).toArray lo hi st
 simp only [slicePick,List.size_toArray,List.getElem?_toArray] at e
 have e:(pickL (l.map fun _=>Value.none) lo hi st).length≤(l.map fun _=>Value.none).length:=e
 rw [pickL_map,List.length_map,List.length_map] at e
 exact e
theorem sumV_ints:∀ (l:List Int) (a:Int),∃ s,sumV (l.map .int) a=some s
 | [],a=>⟨a,rfl⟩
 | x :: l,a=>sumV_ints l (a+x)
noncomputable def scN:Nat:=4050646790772
noncomputable def totE:PE:=.bin .mod (.bin .add (.bi .sum [(.slice (.var scN) (.var 108) (.lit (.int 30)) (.lit (.int 3)))]) (.idx (.list [(.lit (.int 22)),(.lit (.int 655)),(.lit (.int 1949))]) (.var 108))) (.lit (.int 2016))
noncomputable def totC:PE:=.comp (.el totE) [108] true (.bi .range [(.lit (.int 3))]) [] [scN]
theorem tot_at {n k:Nat} {is:List Int} (hl:is.length≤63) (hk:k<3):∃ t:Nat,(Sm (n+12)).ev [(scN,false,.list (is.map .int)),(108,false,nI k)] totE=some (nI t):=by
 obtain ⟨s,hs⟩:=sumV_ints (pickL is (some (k:Int)) (some 30) (some 3)) 0
 have hc:idxV (.list (nums [22,655,1949])) (nI k)=some (nI ([22,655,1949].getD k 0)):=idx_nums hk (by decide)
 have hp:=Int.toNat_of_nonneg (Int.fmod_nonneg_of_pos (s+([22,655,1949].getD k 0:Nat)) (show (0:Int)<2016 by decide))
 have l1:(is.map PV.int).length≤1000000:=by rw [List.length_map];exact Nat.le_trans hl (by decide)
 have l2:((pickL is (some (k:Int)) (some 30) (some 3)).map PV.int).length≤1000000:=by rw [List.length_map];exact Nat.le_trans (pickL_len _ _ _ _) (Nat.le_trans hl (by decide))
 refine ⟨((s+([22,655,1949].getD k 0:Nat)).fmod 2016).toNat,?_⟩
 refine ev_bin (x:=.int (s+([22,655,1949].getD k 0:Nat))) (y:=nI 2016) (ev_bin (x:=.int s) (y:=nI ([22,655,1949].getD k 0)) (ev_bi (evL_1 (ev_sl (x:=.list (is.map .int)) (y:=nI k) (z:=nI 30) (u:=nI 3) (by kernel_rfl) (by kernel_rfl) (by kernel_rfl) (by kernel_rfl) (ogT (lo_tr l1)))) ?_) (ev_ix (x:=.list (nums [22,655,1949])) (y:=nI k) (by kernel_rfl) (by kernel_rfl) hc) rfl) (by kernel_rfl) (congrArg (fun i=>some (PV.int i)) hp.symm)
 rw [pickL_map]
 exact obs (ogT (lo_tr l2)) (obs hs rfl)
theorem totals {n:Nat} {is:List Int} (hl:is.length≤63):∃ ts:List Nat,ts.length=3∧(Sm (n+13)).ev [(scN,false,.list (is.map .int))] totC=some (.list (nums ts)):=by
 have h:∀ k:Nat,∃ t:Nat,k<3→(Sm (n+12)).ev [(scN,false,.list (is.map .int)),(108,false,nI k)] totE=some (nI t):=fun k=>by
  by_cases hk:k<3
  ·obtain ⟨t,e⟩:=tot_at (n:=n) hl hk
   exact ⟨t,fun _=>e⟩
  ·exact ⟨0,fun q=>absurd q hk⟩
 have hc:=comp_all (r:=Sm (n+12)) (elt:=totE) (x:=108) (ρ₀:=[(scN,false,.list (is.map .int))]) (ok:=(·<3)) (g:=nI) (f:=fun k=>nI (Classical.choose (h k))) (fun k ρ hρ hk=>by
  have e:PEnv.set ρ 108 false (nI k)=[(scN,false,.list (is.map .int)),(108,false,nI k)]:=by rcases hρ with rfl|⟨y,rfl⟩ <;> rfl
  rw [e]
  exact ⟨Classical.choose_spec (h k) hk,_,rfl⟩) [0,1,2] (by decide) (by decide)
 exact ⟨[0,1,2].map fun k=>Classical.choose (h k),rfl,ev_comp (n:=n+12) (ps:=nums [0,1,2]) (b:=false) (by kernel_rfl) hc⟩
end Mine
end
section
set_option maxRecDepth 100000
open PySem
set_option genSizeOf false
set_option genInjectivity false
namespace Mine
noncomputable def pfN:Nat:=17653117716114376920513009
noncomputable def bitsOf:Nat→Nat→Nat→List Nat
 | 0,_,_=>[]
 | k+1,p,m=>match Nat.beq (m % 2) 1 with
  | true=>p :: bitsOf k (p+1) (m / 2)
  | false=>bitsOf k (p+1) (m / 2)
noncomputable def rowM (bs m:Nat):List Nat:=rowOf ((bitsOf 6 bs m).map fun p=>lawNames.getD p [])
noncomputable def Pf (bs:Nat):Prop:=(List.range 64).map (fun m=>runF (Sm 274) F_pretty_flags [nI (m*2 ^ bs)])=(List.range 64).map fun m=>some (.str (rowM bs m))
theorem pf0:Pf 0:=by unfold Pf;kernel_rfl
theorem pf1:Pf 1:=by unfold Pf;kernel_rfl
theorem pf2:Pf 2:=by unfold Pf;kernel_rfl
theorem pf3:Pf 3:=by unfold Pf;kernel_rfl
theorem pf4:Pf 4:=by unfold Pf;kernel_rfl
theorem pf5:Pf 5:=by unfold Pf;kernel_rfl
theorem pf6:Pf 6:=by unfold Pf;kernel_rfl
theorem pf7:Pf 7:=by unfold Pf;kernel_rfl
theorem pfs:∀ b,b<8→Pf b:=all8 pf0 pf1 pf2 pf3 pf4 pf5 pf6 pf7
noncomputable def wds:List ((Nat × Nat) × List Nat):=prs.flatMap fun p=>(wF 20 p.1 p.2).map fun w=>(p,w)
theorem mem_wds {f o:Nat} {w:List Nat} (h:(f,o)∈prs) (hw:w∈wF 20 f o):((f,o),w)∈wds:=List.mem_flatMap.mpr ⟨_,h,List.mem_map.mpr ⟨w,hw,rfl⟩⟩
theorem row_all (bs:Nat):wds.map (fun a=>bitsOf 6 bs (numF a.2))=wds.map fun a=>plF bs a.2:=by kernel_rfl
noncomputable def hiF (n:Nat) (w:List Nat):Nat:=2*numF w / 2 ^ n
noncomputable def loF (n:Nat) (w:List Nat):Nat:=2*numF w % 2 ^ n
theorem rot_all:wds.all (fun a=>Nat.blt (numF a.2) 64 && (Nat.beq (hiF (a.1.1+a.1.2) a.2+loF (a.1.1+a.1.2) a.2) (numF (rotF a.2)) && (wF 20 a.1.1 a.1.2).any fun w=>decide (w=rotF a.2)))=true:=by kernel_rfl
noncomputable def numE:PE:=.bi .sum [(.comp (.el (.bin .pow (.lit (.int 2)) (.var 27591751409))) [27591751409] true (.bi .range [(.var 215938420)]) [(.cmp .eq (.idx (.var 213710968) (.var 27591751409)) (.lit (.str [102])))] [213710968])]
theorem num_all:wds.map (fun a=>(Sm 277).ev [(215938420,false,nI (a.1.1+a.1.2)),(213710968,false,.str a.2)] numE)=wds.map fun a=>some (nI (numF a.2)):=by kernel_rfl
theorem fn_pf {bs m:Nat} (hb:bs<8) (hm:m<64):(Sm 275).fn pfN [nI (m*2 ^ bs)]=some (.str (rowM bs m)) :=
 (fn_pl (n:=274) (fp:=F_pretty_flags) (by kernel_rfl) (by kernel_rfl)).trans (of_maps (pfs bs hb) m (List.mem_range.mpr hm))
noncomputable def foWN:Nat:=57310699503450215
noncomputable def woN:Nat:=213710968
noncomputable def nmN:Nat:=3978959764335
noncomputable def hiN:Nat:=221918569
noncomputable def loN:Nat:=1980525
noncomputable def rowV (bs:Nat) (w:List Nat):PV:=.tup [.str (rowF bs w),.str (rowF bs (rotF w))]
noncomputable def wdB:List PS:=[.assign nmN numE [215938420,woN],.unpack [hiN,loN] (.call idN [(.bin .mul (.lit (.int 2)) (.var nmN)),(.bin .pow (.lit (.int 2)) (.var 215938420))]) [nmN,215938420],.append foWN (.tup [(.call pfN [(.bin .shl (.var nmN) (.var 215822691))]),(.call pfN [(.bin .shl (.bin .add (.var hiN) (.var loN)) (.var 215822691))])]) [nmN,215822691,hiN,loN]]
noncomputable def tW (n:Nat) (w:List Nat):PEnv:=[(woN,false,.str w),(nmN,false,nI (numF w)),(hiN,false,nI (hiF n w)),(loN,false,nI (loF n w))]
noncomputable def envL (v:Nat→PV) (f o bs wd tb:Nat) (a b:PV) (acc:List PV) (t:PEnv):PEnv:=envA v f o bs wd tb ((31352223864,false,a) :: (30049842420,false,b) :: (foWN,true,.list acc) :: t)
noncomputable def wst (bs:Nat) (s:List PV × List Nat) (w:List Nat):List PV × List Nat:=(s.1++[rowV bs w],w)
section
variable (v:Nat→PV) {f o bs:Nat} (wd tb:Nat) (a b:PV) (hp:(f,o)∈prs) (hb:bs<8)
noncomputable def wdI (f o bs N:Nat) (n:Nat) (s:List PV × List Nat) (ρ:PEnv):Prop:=(∃ t,(n=N∧t=[]∨t=tW (f+o) s.2)∧ρ=envL v f o bs wd tb a b s.1 t)∧s.1.length+n≤1000
include hp hb
theorem wd_step {N:Nat} (n:Nat) (s:List PV × List Nat) (w:List Nat) (ρ:PEnv) (hI:wdI v wd tb a b f o bs N (n+1) s ρ) (hw:w∈wF 20 f o):∃ ρ₁ ρ',bindT [woN] true (.str w) ρ=some ρ₁∧(Sm 278).ex ρ₁ wdB=some (ρ',.next)∧wdI v wd tb a b f o bs N n (wst bs s w) ρ':=by
 obtain ⟨⟨t,ht,rfl⟩,hl⟩:=hI
 obtain ⟨acc,w0⟩:=s
 have hl:acc.length+(n+1)≤1000:=hl
 have Q:=quo hp (Nat.le_refl 6)
 have hm:=mem_wds hp hw
 obtain ⟨k1,k2⟩:=Bool.and_eq_true_iff.mp (List.all_eq_true.mp rot_all _ hm)
 obtain ⟨k2,k3⟩:=Bool.and_eq_true_iff.mp k2
 obtain ⟨w',hw',e'⟩:=List.any_eq_true.mp k3
 obtain rfl:=of_decide_eq_true e'
 have k1:numF w<64:=Nat.blt_eq.mp k1
 have k2:hiF (f+o) w+loF (f+o) w=numF (rotF w):=Nat.eq_of_beq_eq_true k2
 have k4:numF (rotF w)<64:=Nat.blt_eq.mp (Bool.and_eq_true_iff.mp (List.all_eq_true.mp rot_all _ (mem_wds hp hw'))).1
 have r1:rowM bs (numF w)=rowF bs w:=congrArg (fun l:List Nat=>rowOf (l.map fun p=>lawNames.getD p [])) (of_maps (row_all bs) _ hm)
 have r2:rowM bs (numF (rotF w))=rowF bs (rotF w):=congrArg (fun l:List Nat=>rowOf (l.map fun p=>lawNames.getD p [])) (of_maps (row_all bs) _ (mem_wds hp hw'))
 have p1:=fn_pf hb k1
 have p2':=fn_pf hb k4
 rw [r1] at p1
 rw [r2] at p2'
 have hn:=of_maps num_all _ hm
 dsimp only at hn
 have hd:(Sm 276).fn idN [nI (2*numF w),nI (2 ^ (f+o))]=some (.tup [nI (hiF (f+o) w),nI (loF (f+o) w)]):=by
  refine idm_pos (n:=110) (p2 _) (Nat.le_trans (nbits_le (k:=f+o+1) (Nat.pow_lt_pow_succ (by decide))) (Nat.le_trans (Nat.succ_le_succ Q.l6) (by decide))) (Nat.le_trans (ndig_le (m:=7) ?_ ?_) (by decide))
  ·have:1≤bits (2 ^ (f+o)):=Nat.pos_of_ne_zero fun e=>by
    have h:=lt_bits (2 ^ (f+o))
    rw [e] at h
    exact Nat.lt_irrefl _ (Nat.lt_of_lt_of_le h (p2 _))
   exact Nat.lt_of_lt_of_le (Nat.mul_lt_mul_of_pos_left k1 (by decide)) (Nat.le_trans (by decide) (p2_le (Nat.mul_le_mul_right 7 this)))
  ·exact Nat.pos_of_ne_zero fun e=>by
    have h:=lt_bits (2 ^ (f+o))
    rw [e] at h
    exact Nat.lt_irrefl _ (Nat.lt_of_lt_of_le h (p2 _))
 have hsh:∀ {x:Nat},x<64→binV .shl (nI x) (nI bs)=some (nI (x*2 ^ bs)):=fun hx=>b_shl (Nat.le_trans (Nat.add_le_add (Nat.add_le_add_right (log2_le (k:=6) hx) 1) (Nat.le_of_lt hb)) (by decide))
 have ha:binV .add (nI (hiF (f+o) w)) (nI (loF (f+o) w))=some (nI (numF (rotF w))):=(show _=some (nI (hiF (f+o) w+loF (f+o) w)) from rfl).trans (by rw [k2])
 have hpw:binV .pow (nI 2) (nI (f+o))=some (nI (2 ^ (f+o))):=b_powN (Nat.le_trans (Nat.mul_le_mul_left 2 Q.l6) (by decide))
 have hmu:binV .mul (nI 2) (nI (numF w))=some (nI (2*numF w)):=b_mul (fits_nat (k:=2) (by decide) (by decide)) (fits_nat (k:=6) k1 (by decide))
 have run:∀ t₁,(t₁=[(woN,false,.str w)]∨t₁=(woN,false,.str w) :: (tW (f+o) w0).tail)→exL (Sm 277) wdB (envL v f o bs wd tb a b acc t₁)=some (envL v f o bs wd tb a b (acc++[rowV bs w]) (tW (f+o) w),.next):=fun t₁ h₁=>by
  obtain ⟨t₂,h₂,e1⟩:∃ t₂,(t₂=[(woN,false,.str w),(nmN,false,nI (numF w))]∨t₂=(woN,false,.str w) :: (nmN,false,nI (numF w)) :: (tW (f+o) w0).tail.tail)∧exS (Sm 277) (envL v f o bs wd tb a b acc t₁) (.assign nmN numE [215938420,woN])=some (envL v f o bs wd tb a b acc t₂,.next):=by
   rcases h₁ with rfl|rfl
   ·exact ⟨_,.inl rfl,(s_as hn).trans (by kernel_rfl)⟩
   ·exact ⟨_,.inr rfl,(s_as hn).trans (by kernel_rfl)⟩
  have e2:exS (Sm 277) (envL v f o bs wd tb a b acc t₂) (.unpack [hiN,loN] (.call idN [(.bin .mul (.lit (.int 2)) (.var nmN)),(.bin .pow (.lit (.int 2)) (.var 215938420))]) [nmN,215938420])=some (envL v f o bs wd tb a b acc (tW (f+o) w),.next) :=
   s_un (ev_call (n:=276) (vs:=[nI (2*numF w),nI (2 ^ (f+o))]) (evL_2 (ev_bin (n:=275) (x:=nI 2) (y:=nI (numF w)) (by kernel_rfl) (by rcases h₂ with rfl|rfl <;> kernel_rfl) hmu) (ev_bin (n:=275) (x:=nI 2) (y:=nI (f+o)) (by kernel_rfl) (by rcases h₂ with rfl|rfl <;> kernel_rfl) hpw)) hd) (by rcases h₂ with rfl|rfl <;> kernel_rfl)
  refine exL_n e1 (exL_n e2 ((exL_1 (s_ap (v:=rowV bs w) (k:=acc) (ev_tup (n:=276) (evL_2 (ev_call (n:=275) (evL_1 (ev_bin (n:=274) (x:=nI (numF w)) (y:=nI bs) (by kernel_rfl) (by kernel_rfl) (hsh k1))) p1) (ev_call (n:=275) (evL_1 (ev_bin (n:=274) (x:=nI (numF (rotF w))) (y:=nI bs) (ev_bin (n:=273) (x:=nI (hiF (f+o) w)) (y:=nI (loF (f+o) w)) (by kernel_rfl) (by kernel_rfl) ha) (by kernel_rfl) (hsh k4))) p2'))) (by kernel_rfl) (Nat.le_trans (Nat.le_of_add_right_le hl) (by decide)))).trans (by kernel_rfl)))
 have h3:(acc++[rowV bs w]).length+n≤1000:=by
  rw [List.length_append,Nat.add_assoc,Nat.add_comm _ n]
  exact hl
 rcases ht with ⟨_,rfl⟩|rfl
 ·exact ⟨_,_,rfl,run _ (.inl rfl),⟨_,.inr rfl,rfl⟩,h3⟩
 ·exact ⟨_,_,rfl,run _ (.inr rfl),⟨_,.inr rfl,rfl⟩,h3⟩
omit hp hb in
theorem foldl_wst:∀ (l:List (List Nat)) (s:List PV × List Nat),l.foldl (wst bs) s=(s.1++l.map (rowV bs),l.getLastD s.2)
 | [],s=>by rw [List.foldl_nil,List.map_nil,List.append_nil];rfl
 | w :: l,s=>by rw [List.foldl_cons,foldl_wst l,wst,List.map_cons,List.append_assoc];cases l <;> rfl
theorem wd_loop {ws:List (List Nat)} (hws:∀ w∈ws,w∈wF 20 f o) (hl:ws.length≤1000) (hn:ws ≠ []):forGo (Sm 278) [woN] true wdB [] (ws.map .str) (envL v f o bs wd tb a b [] [])=some (envL v f o bs wd tb a b (ws.map (rowV bs)) (tW (f+o) (ws.getLastD [])),.next):=by
 obtain ⟨ρ',h3,⟨t,ht,rfl⟩,_⟩:=for_inv (k:=277) (I:=wdI v wd tb a b f o bs ws.length) (wd_step v wd tb a b hp hb) ws ([],[]) (envL v f o bs wd tb a b [] []) ⟨⟨[],.inl ⟨rfl,rfl⟩,rfl⟩,by rw [List.length_nil,Nat.zero_add];exact hl⟩ hws
 rw [foldl_wst] at h3 ht
 rcases ht with ⟨e,_⟩|rfl
 ·exact absurd (List.length_eq_zero_iff.mp e.symm) hn
 ·rw [List.nil_append] at h3
  exact h3
end
end Mine
end
section
set_option maxRecDepth 100000
open PySem
set_option genSizeOf false
set_option genInjectivity false
namespace Mine
noncomputable def wdP (f o:Nat):Nat × Bool × PV:=(31352223864,false,.list (strsV (wF 20 f o)))
noncomputable def shV (bs f o:Nat):PV:=.dict (wF 20 f o) ((wF 20 f o).map fun w=>.str (rowF bs w))
noncomputable def ruP (f o:Nat):Nat × Bool × PV:=(245103475,false,.list (nums (tT f o)))
noncomputable def env1 (f o:Nat) (s r:PV) (t:PEnv):PEnv:=wdP f o :: (30049842420,false,s) :: (foWN,false,r) :: (tW (f+o) (lastW f o)++ruP f o :: t)
noncomputable def PA (f o:Nat):Prop:=∀ (v:Nat→PV) (bs wd tb:Nat),exL (Sm 278) ((F_law.body.drop 10).take 1) (envA v f o bs wd tb [])=some (envA v f o bs wd tb [wdP f o],.next)
noncomputable def PB (f o:Nat):Prop:=∀ (v:Nat→PV) (wd tb:Nat),(List.range 8).map (fun bs=>exL (Sm 278) ((F_law.body.drop 11).take 1) (envA v f o bs wd tb [wdP f o]))=(List.range 8).map fun bs=>some (envA v f o bs wd tb [wdP f o,(30049842420,false,shV bs f o)],.next)
noncomputable def PD (f o:Nat):Prop:=∀ (v:Nat→PV) (wd tb:Nat),(List.range 8).map (fun bs=>exL (Sm 278) ((F_law.body.drop 14).take 2) (envL v f o bs wd tb (.list (strsV (wF 20 f o))) (shV bs f o) (rowsV bs f o) (tW (f+o) (lastW f o))))=(List.range 8).map fun bs=>some (envA v f o bs wd tb (env1 f o (shV bs f o) (.list (rowsV bs f o)) []),.next)
noncomputable def PC (f o:Nat):Prop:=∀ (v:Nat→PV) (bs wd tb:Nat) (s r:PV),exL (Sm 278) ((F_law.body.drop 16).take 4) (envA v f o bs wd tb (env1 f o s r []))=some (envA v f o bs wd tb (env1 f o s r [(4013321402097,false,.list (nums ((wF 20 f o).map fun w=>tot (plF 0 w)))),(3497946495860,false,wsInst (tS f o)),(3497948674933,false,wsInst (tT f o)),(3978970265709,false,wsLong (tT f o))]),.next)
theorem wl_all:prs.all (fun p=>Nat.ble (wF 20 p.1 p.2).length 1000 && !(wF 20 p.1 p.2).isEmpty)=true:=by kernel_rfl
theorem m10_of {f o:Nat} (hp:(f,o)∈prs) (hA:PA f o) (hB:PB f o) (hD:PD f o) (hC:PC f o):∀ b,b<8→M10 f o b:=fun b hb v wd tb=>by
 have hm:=List.mem_range.mpr hb
 obtain ⟨w1,w2⟩:=Bool.and_eq_true_iff.mp (List.all_eq_true.mp wl_all _ hp)
 have w1:=Nat.ble_eq.mp w1
 have w2:wF 20 f o ≠ []:=fun e=>by
  dsimp only at w2
  rw [e] at w2
  exact Bool.false_ne_true w2
 have hL:=wd_loop v wd tb (.list (strsV (wF 20 f o))) (shV b f o) hp hb (ws:=wF 20 f o) (fun _ h=>h) w1 w2
 have hf:exL (Sm 278) ((F_law.body.drop 12).take 2) (envA v f o b wd tb [wdP f o,(30049842420,false,shV b f o)])=some (envL v f o b wd tb (.list (strsV (wF 20 f o))) (shV b f o) (rowsV b f o) (tW (f+o) (lastW f o)),.next):=by
  refine exL_n (ρ':=envL v f o b wd tb (.list (strsV (wF 20 f o))) (shV b f o) [] []) (by kernel_rfl) ?_
  exact exL_1 (s_for (b:=true) (it_tv (n:=278) (ps:=(wF 20 f o).map .str) (by kernel_rfl) (by rw [List.length_map];exact Nat.le_trans w1 (by decide))) hL)
 have e1:=exL_app (l₁:=(F_law.body.drop 14).take 2) (l:=(F_law.body.drop 16).take 4) (of_maps (hD v wd tb) b hm) (hC v b wd tb _ _)
 have e2:=exL_app (l₁:=(F_law.body.drop 12).take 2) (l:=(F_law.body.drop 14).take 6) hf e1
 have e3:=exL_app (l₁:=(F_law.body.drop 11).take 1) (l:=(F_law.body.drop 12).take 8) (of_maps (hB v wd tb) b hm) e2
 exact exL_app (l₁:=(F_law.body.drop 10).take 1) (l:=(F_law.body.drop 11).take 9) (hA v b wd tb) e3
end Mine
end
section
set_option maxRecDepth 100000
open PySem
set_option genSizeOf false
set_option genInjectivity false
namespace Mine
theorem pa03:PA 0 3:=fun _ _ _ _=>by kernel_rfl
theorem pb03:PB 0 3:=fun _ _ _=>by kernel_rfl
theorem pd03:PD 0 3:=fun _ _ _=>by kernel_rfl
theorem pc03:PC 0 3:=fun _ _ _ _ _ _=>by kernel_rfl
theorem m03 (h:(0,3)∈prs):∀ b,b<8→M10 0 3 b:=m10_of h pa03 pb03 pd03 pc03
theorem pa12:PA 1 2:=fun _ _ _ _=>by kernel_rfl
theorem pb12:PB 1 2:=fun _ _ _=>by kernel_rfl
theorem pd12:PD 1 2:=fun _ _ _=>by kernel_rfl
theorem pc12:PC 1 2:=fun _ _ _ _ _ _=>by kernel_rfl
theorem m12 (h:(1,2)∈prs):∀ b,b<8→M10 1 2 b:=m10_of h pa12 pb12 pd12 pc12
theorem pa21:PA 2 1:=fun _ _ _ _=>by kernel_rfl
theorem pb21:PB 2 1:=fun _ _ _=>by kernel_rfl
theorem pd21:PD 2 1:=fun _ _ _=>by kernel_rfl
theorem pc21:PC 2 1:=fun _ _ _ _ _ _=>by kernel_rfl
theorem m21 (h:(2,1)∈prs):∀ b,b<8→M10 2 1 b:=m10_of h pa21 pb21 pd21 pc21
theorem pa30:PA 3 0:=fun _ _ _ _=>by kernel_rfl
theorem pb30:PB 3 0:=fun _ _ _=>by kernel_rfl
theorem pd30:PD 3 0:=fun _ _ _=>by kernel_rfl
theorem pc30:PC 3 0:=fun _ _ _ _ _ _=>by kernel_rfl
theorem m30 (h:(3,0)∈prs):∀ b,b<8→M10 3 0 b:=m10_of h pa30 pb30 pd30 pc30
end Mine
end
section
set_option maxRecDepth 100000
open PySem
set_option genSizeOf false
set_option genInjectivity false
namespace Mine
theorem pa04:PA 0 4:=fun _ _ _ _=>by kernel_rfl
theorem pb04:PB 0 4:=fun _ _ _=>by kernel_rfl
theorem pd04:PD 0 4:=fun _ _ _=>by kernel_rfl
theorem pc04:PC 0 4:=fun _ _ _ _ _ _=>by kernel_rfl
theorem m04 (h:(0,4)∈prs):∀ b,b<8→M10 0 4 b:=m10_of h pa04 pb04 pd04 pc04
theorem pa13:PA 1 3:=fun _ _ _ _=>by kernel_rfl
theorem pb13:PB 1 3:=fun _ _ _=>by kernel_rfl
theorem pd13:PD 1 3:=fun _ _ _=>by kernel_rfl
theorem pc13:PC 1 3:=fun _ _ _ _ _ _=>by kernel_rfl
theorem m13 (h:(1,3)∈prs):∀ b,b<8→M10 1 3 b:=m10_of h pa13 pb13 pd13 pc13
theorem pa22:PA 2 2:=fun _ _ _ _=>by kernel_rfl
theorem pb22:PB 2 2:=fun _ _ _=>by kernel_rfl
theorem pd22:PD 2 2:=fun _ _ _=>by kernel_rfl
theorem pc22:PC 2 2:=fun _ _ _ _ _ _=>by kernel_rfl
theorem m22 (h:(2,2)∈prs):∀ b,b<8→M10 2 2 b:=m10_of h pa22 pb22 pd22 pc22
theorem pa31:PA 3 1:=fun _ _ _ _=>by kernel_rfl
theorem pb31:PB 3 1:=fun _ _ _=>by kernel_rfl
theorem pd31:PD 3 1:=fun _ _ _=>by kernel_rfl
theorem pc31:PC 3 1:=fun _ _ _ _ _ _=>by kernel_rfl
theorem m31 (h:(3,1)∈prs):∀ b,b<8→M10 3 1 b:=m10_of h pa31 pb31 pd31 pc31
theorem pa40:PA 4 0:=fun _ _ _ _=>by kernel_rfl
theorem pb40:PB 4 0:=fun _ _ _=>by kernel_rfl
theorem pd40:PD 4 0:=fun _ _ _=>by kernel_rfl
theorem pc40:PC 4 0:=fun _ _ _ _ _ _=>by kernel_rfl
theorem m40 (h:(4,0)∈prs):∀ b,b<8→M10 4 0 b:=m10_of h pa40 pb40 pd40 pc40
end Mine
end
section
set_option maxRecDepth 100000
open PySem
set_option genSizeOf false
set_option genInjectivity false
namespace Mine
theorem pa05:PA 0 5:=fun _ _ _ _=>by kernel_rfl
theorem pb05:PB 0 5:=fun _ _ _=>by kernel_rfl
theorem pd05:PD 0 5:=fun _ _ _=>by kernel_rfl
theorem pc05:PC 0 5:=fun _ _ _ _ _ _=>by kernel_rfl
theorem m05 (h:(0,5)∈prs):∀ b,b<8→M10 0 5 b:=m10_of h pa05 pb05 pd05 pc05
theorem pa14:PA 1 4:=fun _ _ _ _=>by kernel_rfl
theorem pb14:PB 1 4:=fun _ _ _=>by kernel_rfl
theorem pd14:PD 1 4:=fun _ _ _=>by kernel_rfl
theorem pc14:PC 1 4:=fun _ _ _ _ _ _=>by kernel_rfl
theorem m14 (h:(1,4)∈prs):∀ b,b<8→M10 1 4 b:=m10_of h pa14 pb14 pd14 pc14
theorem pa23:PA 2 3:=fun _ _ _ _=>by kernel_rfl
theorem pb23:PB 2 3:=fun _ _ _=>by kernel_rfl
theorem pd23:PD 2 3:=fun _ _ _=>by kernel_rfl
theorem pc23:PC 2 3:=fun _ _ _ _ _ _=>by kernel_rfl
theorem m23 (h:(2,3)∈prs):∀ b,b<8→M10 2 3 b:=m10_of h pa23 pb23 pd23 pc23
theorem pa32:PA 3 2:=fun _ _ _ _=>by kernel_rfl
theorem pb32:PB 3 2:=fun _ _ _=>by kernel_rfl
theorem pd32:PD 3 2:=fun _ _ _=>by kernel_rfl
theorem pc32:PC 3 2:=fun _ _ _ _ _ _=>by kernel_rfl
theorem m32 (h:(3,2)∈prs):∀ b,b<8→M10 3 2 b:=m10_of h pa32 pb32 pd32 pc32
theorem pa41:PA 4 1:=fun _ _ _ _=>by kernel_rfl
theorem pb41:PB 4 1:=fun _ _ _=>by kernel_rfl
theorem pd41:PD 4 1:=fun _ _ _=>by kernel_rfl
theorem pc41:PC 4 1:=fun _ _ _ _ _ _=>by kernel_rfl
theorem m41 (h:(4,1)∈prs):∀ b,b<8→M10 4 1 b:=m10_of h pa41 pb41 pd41 pc41
theorem pa50:PA 5 0:=fun _ _ _ _=>by kernel_rfl
theorem pb50:PB 5 0:=fun _ _ _=>by kernel_rfl
theorem pd50:PD 5 0:=fun _ _ _=>by kernel_rfl
theorem pc50:PC 5 0:=fun _ _ _ _ _ _=>by kernel_rfl
theorem m50 (h:(5,0)∈prs):∀ b,b<8→M10 5 0 b:=m10_of h pa50 pb50 pd50 pc50
end Mine
end
section
set_option maxRecDepth 100000
open PySem
set_option genSizeOf false
set_option genInjectivity false
namespace Mine
theorem pa06:PA 0 6:=fun _ _ _ _=>by kernel_rfl
theorem pb06:PB 0 6:=fun _ _ _=>by kernel_rfl
theorem pd06:PD 0 6:=fun _ _ _=>by kernel_rfl
theorem pc06:PC 0 6:=fun _ _ _ _ _ _=>by kernel_rfl
theorem m06 (h:(0,6)∈prs):∀ b,b<8→M10 0 6 b:=m10_of h pa06 pb06 pd06 pc06
theorem pa15:PA 1 5:=fun _ _ _ _=>by kernel_rfl
theorem pb15:PB 1 5:=fun _ _ _=>by kernel_rfl
theorem pd15:PD 1 5:=fun _ _ _=>by kernel_rfl
theorem pc15:PC 1 5:=fun _ _ _ _ _ _=>by kernel_rfl
theorem m15 (h:(1,5)∈prs):∀ b,b<8→M10 1 5 b:=m10_of h pa15 pb15 pd15 pc15
theorem pa24:PA 2 4:=fun _ _ _ _=>by kernel_rfl
theorem pb24:PB 2 4:=fun _ _ _=>by kernel_rfl
theorem pd24:PD 2 4:=fun _ _ _=>by kernel_rfl
theorem pc24:PC 2 4:=fun _ _ _ _ _ _=>by kernel_rfl
theorem m24 (h:(2,4)∈prs):∀ b,b<8→M10 2 4 b:=m10_of h pa24 pb24 pd24 pc24
theorem pa33:PA 3 3:=fun _ _ _ _=>by kernel_rfl
theorem pb33:PB 3 3:=fun _ _ _=>by kernel_rfl
theorem pd33:PD 3 3:=fun _ _ _=>by kernel_rfl
theorem pc33:PC 3 3:=fun _ _ _ _ _ _=>by kernel_rfl
theorem m33 (h:(3,3)∈prs):∀ b,b<8→M10 3 3 b:=m10_of h pa33 pb33 pd33 pc33
theorem pa42:PA 4 2:=fun _ _ _ _=>by kernel_rfl
theorem pb42:PB 4 2:=fun _ _ _=>by kernel_rfl
theorem pd42:PD 4 2:=fun _ _ _=>by kernel_rfl
theorem pc42:PC 4 2:=fun _ _ _ _ _ _=>by kernel_rfl
theorem m42 (h:(4,2)∈prs):∀ b,b<8→M10 4 2 b:=m10_of h pa42 pb42 pd42 pc42
theorem pa51:PA 5 1:=fun _ _ _ _=>by kernel_rfl
theorem pb51:PB 5 1:=fun _ _ _=>by kernel_rfl
theorem pd51:PD 5 1:=fun _ _ _=>by kernel_rfl
theorem pc51:PC 5 1:=fun _ _ _ _ _ _=>by kernel_rfl
theorem m51 (h:(5,1)∈prs):∀ b,b<8→M10 5 1 b:=m10_of h pa51 pb51 pd51 pc51
theorem pa60:PA 6 0:=fun _ _ _ _=>by kernel_rfl
theorem pb60:PB 6 0:=fun _ _ _=>by kernel_rfl
theorem pd60:PD 6 0:=fun _ _ _=>by kernel_rfl
theorem pc60:PC 6 0:=fun _ _ _ _ _ _=>by kernel_rfl
theorem m60 (h:(6,0)∈prs):∀ b,b<8→M10 6 0 b:=m10_of h pa60 pb60 pd60 pc60
end Mine
end
section
set_option maxRecDepth 100000
open PySem PySem.Calls PyProof.Rows PySem.W
set_option genSizeOf false
set_option genInjectivity false
namespace Mine
noncomputable abbrev PureLaw:Prop:=∀ is:List Int,is.length≤63→(sem (G02 sp02) 280).fn 1978733 [.list (is.map .int)]=some (.bool true)
theorem h1_tab1 (P:Params):(H1 P).get? 37=some (tabObj #[]):=by kernel_rfl
theorem h1_tab2 (P:Params):(H1 P).get? 44=some (tabObj #[]):=by kernel_rfl
theorem h1_sys (P:Params):((H1 P).get? 1).isSome=true:=by kernel_rfl
section
variable {w:World} {h₁:Heap} {mg mb:Str→Option Value}
theorem atCall {q:Program} {loose:List Str} {mean:ExcName→Option Value} (T:Top q loose mean mg mb h₁) (hK:∀ b o,(H1 w.params).get? b=some o→h₁.get? b=some o):AtCall LL h₁ mg mb where
 g:=T.g
 b:=T.b
 lim:=T.nolimit
 boot:=T.builtins
 bm:=T.bmain
 sys:=by
  obtain ⟨o,e⟩:=Option.isSome_iff_exists.mp (h1_sys w.params)
  exact ⟨o,hK _ _ e⟩
 t1:=hK _ _ (h1_tab1 _)
 t2:=hK _ _ (h1_tab2 _)
 nT:=fun a h=>by
  constructor
  ·intro q;rw [q] at h;exact absurd h (by decide)
  ·intro q;rw [q] at h;exact absurd h (by decide)
 t12:=by decide
theorem tab_was {h h':Heap} {P:Addr} {pos:Pos} {q:Str} (e:h.get? P=some (tabObj #[])) (c:isCodeTable h P) (t:TabOk h' P pos q):asItWas h h' P (tabObj #[]):=by
 rcases t with t|⟨c',oc,vs,tk,t,_⟩
 ·exact .inl t
 ·exact .inr (.inl ⟨c,rfl,#[],#[rawInt pos.line,rawInt pos.col,.ref c'],rfl,by rw [t];simp [tabObj]⟩)
theorem ints_of:∀ {xs:List WData},WShape.hasItems [] xs .int=true→∃ is:List Int,xs=is.map .int
 | [],_=>⟨[],rfl⟩
 | x :: xs,h=>by
  have h:(WShape.has [] x .int && WShape.hasItems [] xs .int)=true:=by simpa [WShape.hasItems] using h
  obtain ⟨h1,h2⟩:=Bool.and_eq_true_iff.mp h
  obtain ⟨i,rfl⟩:=hasW_int h1
  obtain ⟨is,rfl⟩:=ints_of h2
  exact ⟨i :: is,rfl⟩
theorem well_ints {cx:Cx} {h:Heap} {H:Hid} {P:Params}:∀ {is:List Int} {vs:List Value},WellAll P h vs (is.map .int)→RepAll cx h H vs (is.map .int)
 | [],_,w=>by cases w;exact .nil
 | i :: is,_,w=>by
  cases w with
  | cons a r =>
   cases a
   exact .cons (.int _ _) (well_ints r)
end
noncomputable def lawD:DefRec:=⟨"law",(partsOf (stAt 26)).1,fB 26,fS 26,(stAt 26).pos⟩
theorem law_def:defOf lawQ "law"=some (lawD,[]):=by kernel_rfl
theorem law_the:PP.theDef "law"=some (lawD.params,lawD.body,lawD.scope):=by kernel_rfl
theorem law_said:OpenLaw.wellSaid PySem.Challenge.rw_us0027_01=true:=by kernel_rfl
theorem law_holds (hP:PureLaw):PySem.Challenge.rw_us0027_01.Holds:=by
 w_on
 refine holds_law law_said fun said=>?_
 refine holds_open (q:=lawQ) (loose:=lawLoose) (Xt:=fun _=>true) (XP:=fun _ _=>True) (Yf:=fun s=>s.heap) (Ya:=fun w=>H1 w.params) (YP:=fun w h=>∀ b o,(H1 w.params).get? b=some o→h.get? b=some o) (N:=300000)
  (left_law _ _ fun w os=>rfl) (fun w s e b o q=>by rw [e];exact q) (fun w h h' x k b o q=>k b o (x b o q)) (fun _ _=>trivial) (fun _ _ _ _ _=>trivial) (d:=lawD) (kwd:=[]) law_def law_the (by kernel_rfl) (fun s _=>?_) (by rfl) (by assumption) (by decide +kernel) ⟨rfl,rfl,rfl,rfl,rfl,by decide +kernel⟩ ?hw ?_
 case hw=>w_witness2
 ·exact recFacts_of (by rfl)
 ·intro w s₀ s₁ mg mb G hK a o pm cd doc dV kV ho hd hcd hD hmg hg args vals as hpre hlay hrd hwl hlo
  have X:AtCall LL s₁.heap mg mb:=atCall G.T hK
  obtain ⟨p1,p2⟩:=pre_splitW hpre
  obtain ⟨d,rr,rfl,hd',hrr⟩:=hasAllW_cons p1
  obtain rfl:=hasAllW_nil hrr
  obtain ⟨xs,rfl,hx⟩:=hasW_list hd'
  obtain ⟨is,rfl⟩:=ints_of hx
  have hlen:is.length≤63:=by
   have p3:(WTm.and (.not (.lt (.lit (.int 63)) (.len (.arg 0)))) (.lit (.bool true))).holds [] { args:=[.list (is.map .int)] }=true:=p2
   have q:WTm.value [] (.lt (.lit (.int 63)) (.len (.arg 0))) { args:=[.list (is.map .int)] }=some (.bool (decide ((63:Int)<is.length))):=by
    simp only [WTm.value,List.getElem?_cons_zero,less?,List.length_map]
    rfl
   unfold WTm.holds at p3
   simp only [WTm.value] at p3 q
   rw [q] at p3
   by_cases z:(63:Int)<is.length
   ·rw [decide_eq_true z] at p3
    cases p3
   ·omega
  obtain ⟨v,vs',as1,as2,rfl,rfl,r1,r2⟩:=readsAllW_cons_inv hrd
  obtain ⟨b,ws,as',rfl,_,_,rfl⟩:=readsW_list_inv r1
  have hb:(b == sysModules)=false:=hlo b (by simp)
  cases hwl with
  | cons w1 w2 =>
  cases w2
  cases w1 with
  | list eb wl =>
  rename_i vs
  have g0:=gi_start (L:=LL) (w:=w) (X:=X)
  obtain ⟨f,hf,hc⟩:=law_call (X:=X) hK (hP is hlen)
  obtain rfl:f=.ref a:=Option.some.inj (hf.symm.trans hmg)
  have nB:¬ (cxOf LL w s₁.heap mg mb X).B b:=fun q=>by
   rcases q with q|q|q
   ·rw [q] at hb;exact absurd hb (by decide)
   ·exact tab_ne eb X.t1 (by intro z;cases z) q
   ·exact tab_ne eb X.t2 (by intro z;cases z) q
  refine hc (A:=callerA) (H:=(cxOf LL w s₁.heap mg mb X).B) (vs:=[.ref b]) ⟨rfl,by decide +kernel,by decide +kernel⟩ ⟨g0,fun a q=>(cxOf LL w s₁.heap mg mb X).ga_live _ _ g0 ((cxOf LL w s₁.heap mg mb X).bGA a q),fun a q=>q,fun a q _=>q⟩ (.cons (.list nB ⟨0,eb⟩ (well_ints wl)) .nil) fun v h' tk e r _=>?_
  obtain rfl:=r.bool'
  have t1:isCodeTable s₁.heap 37:=by
   obtain ⟨o,vs,_,_,_,_,_,_,_,e1,e2,e3,e4,_⟩:=(tab1 (X:=X) hK).code _ g0
   exact ⟨41,o,vs,e1,e2,e3,e4⟩
  have t2:isCodeTable s₁.heap 44:=by
   obtain ⟨o,vs,_,_,_,_,_,_,_,e1,e2,e3,e4,_⟩:=(tab2 (X:=X) hK).code _ g0
   exact ⟨48,o,vs,e1,e2,e3,e4⟩
  refine ⟨.inl ⟨.bool true,.bool true,[],rfl,fun cls=>rfl,.bool true,by kernel_rfl,fun _=>⟨List.nodup_nil,fun a q=>by cases q⟩⟩,⟨fun b o q=>?_,fun b o q=>e.live b ⟨o,q⟩⟩,rfl,.of_eq hg⟩
  by_cases z1:b=37
  ·subst z1
   rw [show s₁.heap.get? 37=some (tabObj #[]) from X.t1] at q
   cases q
   exact tab_was X.t1 t1 (e.gi g0).2.1
  ·by_cases z2:b=44
   ·subst z2
    rw [show s₁.heap.get? 44=some (tabObj #[]) from X.t2] at q
    cases q
    exact tab_was X.t2 t2 (e.gi g0).2.2
   ·exact .inl (e.keep b o (fun t=>t.elim z1 z2) q)
end Mine
end
section
set_option maxRecDepth 100000
open PySem
set_option genSizeOf false
set_option genInjectivity false
namespace Mine
theorem prs_eq:prs=[(0,3),(1,2),(2,1),(3,0),(0,4),(1,3),(2,2),(3,1),(4,0),(0,5),(1,4),(2,3),(3,2),(4,1),(5,0),(0,6),(1,5),(2,4),(3,3),(4,2),(5,1),(6,0)]:=rfl
theorem all_c {α:Type} {P:α→Prop} {a:α} {l:List α} (h:P a) (h2:∀ x∈l,P x):∀ x∈a :: l,P x:=List.forall_mem_cons.mpr ⟨h,h2⟩
theorem all_m {l:List (Nat × Nat)} (h:∀ x∈l,x∈prs→∀ b,b<8→M10 x.1 x.2 b) (hl:l=prs):∀ p∈prs,∀ b,b<8→M10 p.1 p.2 b:=fun p hp=>h p (hl ▸ hp) hp
theorem mid:∀ p∈prs,∀ b,b<8→M10 p.1 p.2 b :=
 all_m (l:=[(0,3),(1,2),(2,1),(3,0),(0,4),(1,3),(2,2),(3,1),(4,0),(0,5),(1,4),(2,3),(3,2),(4,1),(5,0),(0,6),(1,5),(2,4),(3,3),(4,2),(5,1),(6,0)]) (all_c m03 (all_c m12 (all_c m21 (all_c m30 (all_c m04 (all_c m13 (all_c m22 (all_c m31 (all_c m40 (all_c m05 (all_c m14 (all_c m23 (all_c m32 (all_c m41 (all_c m50 (all_c m06 (all_c m15 (all_c m24 (all_c m33 (all_c m42 (all_c m51 (all_c m60 fun _ h=>nomatch h)))))))))))))))))))))) prs_eq.symm
noncomputable def trp:List (Nat × Nat × Nat):=(List.range 6).flatMap fun i=>(List.range 6).flatMap fun j=>(List.range 6).map fun k=>(i,j,k)
theorem mem_trp {i j k:Nat} (hi:i<6) (hj:j<6) (hk:k<6):(i,j,k)∈trp:=List.mem_flatMap.mpr ⟨i,List.mem_range.mpr hi,List.mem_flatMap.mpr ⟨j,List.mem_range.mpr hj,List.mem_map.mpr ⟨k,List.mem_range.mpr hk,rfl⟩⟩⟩
noncomputable def xF (t:Nat × Nat × Nat):List Nat:=pcL t.1++(pcL t.2.1++pcL t.2.2)
noncomputable def fF (x:List Nat):Nat:=(plF 0 x).length
noncomputable def okT (t:Nat × Nat × Nat):Bool:=prs.any (fun p=>Nat.beq p.1 (fF (xF t)) && Nat.beq p.2 ((xF t).length - fF (xF t))) && (Nat.ble (fF (xF t)) (xF t).length && Nat.ble (xF t).length 6)
theorem cnt_all:trp.map (fun t=>methV .count (.str (xF t)) [.str [102]])=trp.map fun t=>some (nI (fF (xF t))):=by kernel_rfl
theorem okT_all:trp.all okT=true:=by kernel_rfl
theorem ne_self (x:List Nat):cmpV .ne (.str x) (.str x)=some false:=by
 show some (!(beqL x x))=_
 rw [show beqL x x=true from decide_eq_true rfl]
 rfl
theorem part_b {X:List Nat} {f o:Nat} (hp:(f,o)∈prs) (hX:X.length=f+o) (h6:f+o≤6) (hc:methV .count (.str X) [.str [102]]=some (nI f)) (v:Nat→PV) (hv5:v 5=.str X) {ts:List Nat} (hv:v 1=.list (nums ts)) (hl:ts.length≤100) :
  ∃ ρ',exL (Sm 278) (F_law.body.drop 5) ((4050646790772,false,v 0) :: (4015196567669,false,v 1) :: (31373014388,false,v 2) :: (234501492,false,v 3) :: (514152392913773,false,v 4) :: (57310523954936305,false,v 5) :: [])=some (ρ',.ret (.bool true)):=by
 have hs:=sum_nums (c:=ts) (Nat.le_trans hl (by decide))
 rw [← hv] at hs
 rw [← hv5] at hc
 have hlen:biV .len [v 5]=some (nI (f+o)):=by
  rw [hv5]
  exact (show biV .len [.str X]=og (lenOk X) (nI X.length) from rfl).trans ((ogT (lo_tr (hX ▸ Nat.le_trans h6 (by decide)))).trans (by rw [hX]))
 have hM:=mid _ hp (total ts % 8) (Nat.mod_lt _ (by decide))
 obtain ⟨ρ',hc'⟩:=part_c (bs:=total ts % 8) (t:=total ts % 5) hp (Nat.le_add_right 6 (total ts % 875)) (Nat.add_le_add_left (Nat.le_of_lt_succ (Nat.mod_lt (total ts) (show 0<875 by decide))) 6) (Nat.mod_lt _ (by decide)) v
 refine ⟨ρ',?_⟩
 have b8:binV .mod (nI (total ts)) (nI 8)=some (nI (total ts % 8)):=b_mod (by decide)
 have b875:binV .mod (nI (total ts)) (nI 875)=some (nI (total ts % 875)):=b_mod (by decide)
 have b5:binV .mod (nI (total ts)) (nI 5)=some (nI (total ts % 5)):=b_mod (by decide)
 refine exL_n (s_as (v:=nI (f+o)) (ev_bi (n:=277) (vs:=[v 5]) (by kernel_rfl) hlen)) ?_
 refine exL_n (s_as (v:=nI f) (ev_me (n:=277) (x:=v 5) (vs:=[.str [102]]) (by kernel_rfl) (by kernel_rfl) hc)) ?_
 refine exL_n (s_as (v:=nI (total ts % 8)) (ev_bin (n:=277) (x:=nI (total ts)) (y:=nI 8) (ev_bi (n:=276) (vs:=[v 1]) (by kernel_rfl) hs) (by kernel_rfl) b8)) ?_
 refine exL_n (s_as (v:=nI (6+total ts % 875)) (ev_bin (n:=277) (x:=nI 6) (y:=nI (total ts % 875)) (by kernel_rfl) (ev_bin (n:=276) (x:=nI (total ts)) (y:=nI 875) (ev_bi (n:=275) (vs:=[v 1]) (by kernel_rfl) hs) (by kernel_rfl) b875) rfl)) ?_
 refine exL_n (ρ':=envA v f o (total ts % 8) (6+total ts % 875) (1+total ts % 5) []) ((s_as (v:=nI (1+total ts % 5)) (ev_bin (n:=277) (x:=nI 1) (y:=nI (total ts % 5)) (by kernel_rfl) (ev_bin (n:=276) (x:=nI (total ts)) (y:=nI 5) (ev_bi (n:=275) (vs:=[v 1]) (by kernel_rfl) hs) (by kernel_rfl) b5) rfl)).trans (by kernel_rfl)) ?_
 exact exL_app (l₁:=(F_law.body.drop 10).take 10) (l:=F_law.body.drop 20) (hM v _ _) hc'
theorem pure_law:PureLaw:=by
 intro is hl
 obtain ⟨ts,h3,et⟩:=totals (n:=265) hl
 have ex:=tx_spec (ts:=ts) (Nat.le_of_eq h3)
 obtain ⟨a,b,c,rfl⟩:∃ a b c,ts=[a,b,c]:=by
  match ts,h3 with
  | [a,b,c],_=>exact ⟨a,b,c,rfl⟩
 have hLe:[a,b,c].foldl sst []=segF a++(segF b++segF c):=by
  show ([]++segF a++segF b)++segF c=_
  rw [List.nil_append,List.append_assoc]
 rw [hLe] at ex
 have hsn:sndF (segF a++(segF b++segF c))=xF (a % 6,b % 6,c % 6):=by
  rw [sndF_app,sndF_app,sndF_seg,sndF_seg,sndF_seg]
  rfl
 have hG:∀ p∈segF a++(segF b++segF c),Gd p:=fun p hp=>by
  rcases List.mem_append.mp hp with hp|hp
  ·exact gd_seg a p hp
  ·rcases List.mem_append.mp hp with hp|hp
   ·exact gd_seg b p hp
   ·exact gd_seg c p hp
 have hl9:(segF a++(segF b++segF c)).length≤9:=by
  have:=seg_len a;have:=seg_len b;have:=seg_len c
  rw [List.length_append,List.length_append]
  lia
 have hm:=mem_trp (i:=a % 6) (j:=b % 6) (k:=c % 6) (Nat.mod_lt _ (by decide)) (Nat.mod_lt _ (by decide)) (Nat.mod_lt _ (by decide))
 have hcnt:=of_maps cnt_all _ hm
 have hok:=List.all_eq_true.mp okT_all _ hm
 obtain ⟨o1,o2⟩:=Bool.and_eq_true_iff.mp hok
 obtain ⟨o2,o3⟩:=Bool.and_eq_true_iff.mp o2
 generalize segF a++(segF b++segF c)=L at *
 generalize xF (a % 6,b % 6,c % 6)=X at *
 have o2:=Nat.ble_eq.mp o2
 have o3:=Nat.ble_eq.mp o3
 obtain ⟨⟨f,o⟩,hp,hq⟩:=List.any_eq_true.mp o1
 obtain ⟨q1,q2⟩:=Bool.and_eq_true_iff.mp hq
 have q1:f=fF X:=Nat.eq_of_beq_eq_true q1
 have q2:o=X.length - fF X:=Nat.eq_of_beq_eq_true q2
 have hXl:X.length=f+o:=by lia
 rw [← q1] at hcnt
 have hN:L ≠ []:=fun e=>by
  rw [e] at hsn
  have h0:X.length=0:=by rw [← hsn];rfl
  have hp3:=(quo hp (Nat.le_refl 6)).l3
  lia
 obtain ⟨ρ',hf,t,ht,rfl⟩:=for_inv (k:=277) (I:=ckI (.list (is.map .int)) (.list (nums [a,b,c])) (.list (L.map tup2)) L.length) (ck_step (k:=248)) L () (envS (.list (is.map .int)) (.list (nums [a,b,c])) (.list (L.map tup2)) []) ⟨[],.inl ⟨rfl,rfl⟩,rfl⟩ hG
 obtain ⟨x,y,rfl⟩:∃ x y,t=env2 x y:=ht.elim (fun q=>absurd (List.length_eq_zero_iff.mp q.1.symm) hN) id
 have hlen:(L.map tup2).length≤1000000:=by rw [List.length_map];exact Nat.le_trans hl9 (by decide)
 have hs6:(sndF L).length≤6:=by rw [hsn];exact o3
 have j1:=jn_at (k:=256) (ρ:=PEnv.only [sgsN] (envS (.list (is.map .int)) (.list (nums [a,b,c])) (.list (L.map tup2)) (env2 x y))) (e:=.call b3F [(.var sgN)]) (ifs:=[(.cmp .ne (.var ltN) (.lit (.str [])))]) (L:=L) (c:=fun p=>!p.2.isEmpty) hl9 hs6 (by kernel_rfl) (fun p hp=>⟨all_1 (ts_cmp (n:=275) (x:=.str p.2) (y:=.str []) (by kernel_rfl) (by kernel_rfl) (ne_nil _)),fun h=>ev_call (n:=275) (vs:=[.str p.1]) (by kernel_rfl) ((hG p hp 255).2 ((Bool.not_eq_true' _).mp h))⟩) (sndF_filter L)
 rw [hsn] at j1
 have j2:=jn_at (k:=255) (ρ:=envS (.list (is.map .int)) (.list (nums [a,b,c])) (.list (L.map tup2)) (env2 x y++[(ppN,false,.str X)])) (e:=.var ltN) (ifs:=[]) (L:=L) (c:=fun _=>true) hl9 hs6 (by kernel_rfl) (fun p hp=>⟨rfl,fun _=>by kernel_rfl⟩) (by rw [List.filter_eq_self.mpr fun _ _=>rfl])
 rw [hsn] at j2
 obtain ⟨ρ₂,eb⟩:=part_b (X:=X) hp hXl (hXl ▸ o3) hcnt (fun i=>([.list (is.map .int),.list (nums [a,b,c]),.list (L.map tup2),x,y,.str X]:List PV).getD i .none) rfl (ts:=[a,b,c]) rfl (show 3≤100 by decide)
 have hfor:exS (Sm 278) (envS (.list (is.map .int)) (.list (nums [a,b,c])) (.list (L.map tup2)) []) (.for_ [sgN,ltN] false (.tv (.var sgsN)) [sgsN] ckB [])=some (envS (.list (is.map .int)) (.list (nums [a,b,c])) (.list (L.map tup2)) (env2 x y),.next):=s_for (b:=true) (ps:=L.map tup2) (it_tv (n:=278) (by kernel_rfl) hlen) hf
 have hif:exS (Sm 278) (envS (.list (is.map .int)) (.list (nums [a,b,c])) (.list (L.map tup2)) (env2 x y++[(ppN,false,.str X)])) (.if_ (.cmp .ne (.var ppN) (jnE (.var ltN) [])) [.ret (.lit (.bool false)) []] [])=some (envS (.list (is.map .int)) (.list (nums [a,b,c])) (.list (L.map tup2)) (env2 x y++[(ppN,false,.str X)]),.next):=s_f (ts_cmp (n:=277) (x:=.str X) (y:=.str X) (by kernel_rfl) j2 (ne_self _)) (by kernel_rfl)
 rw [fn_pl (n:=279) (fp:=F_law) (by kernel_rfl) (by kernel_rfl)]
 apply run_r (n:=278) (ρ:=[(scN,false,.list (is.map .int))]) (ρ':=ρ₂) (by rfl)
 refine exL_app (l₁:=F_law.body.take 5) (l:=F_law.body.drop 5) ?_ eb
 refine exL_n (ρ':=[(scN,false,.list (is.map .int)),(toN,false,.list (nums [a,b,c]))]) (s_as (r:=Sm 278) (v:=.list (nums [a,b,c])) et) ?_
 refine exL_n (ρ':=envS (.list (is.map .int)) (.list (nums [a,b,c])) (.list (L.map tup2)) []) ((s_as (v:=.list (L.map tup2)) (ev_call (n:=277) (vs:=[.list (nums [a,b,c])]) (by kernel_rfl) ex)).trans (by kernel_rfl)) ?_
 refine exL_n hfor ?_
 refine exL_n (ρ':=envS (.list (is.map .int)) (.list (nums [a,b,c])) (.list (L.map tup2)) (env2 x y++[(ppN,false,.str X)])) ((s_as j1).trans (by kernel_rfl)) ?_
 exact exL_1 hif
end Mine
end
theorem PySem.Challenge.cw_us0027_01_holds : PySem.Challenge.rw_us0027_01.Holds :=
 Mine.law_holds Mine.pure_law
