import PyProof.Rows.All
import Wide.All
import OpenK.AllK
import KE.KRevIter
import PyProof.ZipIter
import PyProof.AttrMissHeap
import KE.KDictOf
import PyProof.FactsAll.zip
import Open.Tops
import Lean
import PySem.Challenge.RW_us0027_02
set_option Elab.async false
section
open PySem
namespace Mine
set_option genSizeOf false
set_option genInjectivity false
inductive PV where
 | none
 | bool (b:Bool)
 | int (i:Int)
 | str (x:List Nat)
 | list (ps:List PV)
 | tup (ps:List PV)
 | dict (ks:List (List Nat)) (ps:List PV)
 | inst (ks:List Nat) (ps:List PV)
noncomputable def encL:List Nat→Nat
 | []=>0
 | c :: r=>c+1+128*encL r
noncomputable def enc (x:Str):Nat:=encL x.cps.toList
inductive BinK|add|sub|mul|fdiv|mod|pow|shl|shr|band|bxor
inductive CmpK|eq|ne|lt|le|ge|is_|isNot|in_
inductive BI|len|ord|chr|sum|max|hex|divmod|range|reversed|tuple|listRange|dictZip
inductive MK|join|split|bitLength|upper|lower
inductive PE where
 | lit (v:PV)
 | var (x:Nat)
 | glob (x:Nat)
 | bin (k:BinK) (a b:PE)
 | neg (a:PE)
 | inv (a:PE)
 | not (a:PE)
 | cmp (k:CmpK) (a b:PE)
 | and (l:List PE)
 | ite (c a b:PE)
 | list (l:List PE)
 | tup (l:List PE)
 | idx (o i:PE)
 | slice (o a b c:PE)
 | call (f:Nat) (l:List PE)
 | bi (f:BI) (l:List PE)
 | meth (m:MK) (o:PE) (l:List PE)
 | imeth (o:PE) (m:Nat) (l:List PE)
 | attr (o:PE) (n:Nat)
 | gattr (g n:Nat)
 | gmeth (g m:Nat) (l:List PE)
 | comp (elt:PE) (xs:List Nat) (single:Bool) (iter:PE) (ifs:List PE) (caps:List Nat)
 | tv (e:PE)
inductive PS where
 | assign (x:Nat) (e:PE) (occ:List Nat)
 | unpack (xs:List Nat) (e:PE) (occ:List Nat)
 | unpackR (xs:List Nat) (e:PE) (occ:List Nat)
 | chain (xs:List Nat) (e:PE)
 | setidx (x:Nat) (i e:PE)
 | setattr (x a:Nat) (e:PE) (occ:List Nat)
 | append (x:Nat) (e:PE) (occ:List Nat)
 | reverse (x:Nat)
 | aug (x:Nat) (k:BinK) (e:PE)
 | if_ (c:PE) (a b:List PS)
 | for_ (xs:List Nat) (single:Bool) (iter:PE) (occ:List Nat) (body orelse:List PS)
 | ret (e:PE) (occ:List Nat)
 | brk
 | stuck
 | pass
structure FnP where
 params:List Nat
 body:List PS
inductive Fl where
 | next
 | brk
 | ret (v:PV)
noncomputable abbrev PEnv:=List (Nat × Bool × PV)
namespace PEnv
noncomputable def get:PEnv→Nat→Option (Bool × PV)
 | [],_=>none
 | (y,b) :: r,x=>match Nat.beq x y with
  | true=>some b
  | false=>PEnv.get r x
noncomputable def set:PEnv→Nat→Bool→PV→PEnv
 | [],x,b,v=>[(x,b,v)]
 | (y,c) :: r,x,b,v=>match Nat.beq x y with
  | true=>(x,b,v) :: r
  | false=>(y,c) :: PEnv.set r x b v
noncomputable def has (l:List Nat) (x:Nat):Bool:=l.any (Nat.beq x)
noncomputable def only (l:List Nat):PEnv→PEnv
 | []=>[]
 | (y,b) :: r=>match has l y with
  | true=>(y,b) :: only l r
  | false=>only l r
noncomputable def freeze (l:List Nat):PEnv→PEnv
 | []=>[]
 | (y,b,v) :: r=>match has l y with
  | true=>(y,false,v) :: freeze l r
  | false=>(y,b,v) :: freeze l r
noncomputable def cap (l:List Nat) (ρ:PEnv):PEnv:=freeze l (only l ρ)
end PEnv
noncomputable def PV.scalar:PV→Bool
 | .none | .bool _ | .int _ | .str _=>true
 | _=>false
noncomputable def beqL (a b:List Nat):Bool:=decide (a=b)
noncomputable def intBeq (a b:Int):Bool:=decide (a=b)
noncomputable def ob {α β:Type} (o:Option α) (f:α→Option β):Option β:=match o with
 | some a=>f a
 | none=>none
noncomputable def og {α:Type} (b:Bool) (x:α):Option α:=match b with
 | true=>some x
 | false=>none
noncomputable def ogn {α:Type} (b:Bool) (x:α):Option α:=match b with
 | true=>none
 | false=>some x
noncomputable def oif {β:Type} (o:Option Bool) (t f:Option β):Option β:=match o with
 | some b=>match b with
  | true=>t
  | false=>f
 | none=>none
noncomputable def oneE (l:List PE):Option PE:=match l with
 | [p]=>some p
 | _=>none
noncomputable def inst? (p:PV):Option (List Nat × List PV):=match p with
 | .inst ks ps=>some (ks,ps)
 | _=>none
noncomputable def one? (l:List PV):Option PV:=match l with
 | [p]=>some p
 | _=>none
noncomputable def two? (l:List PV):Option (PV × PV):=match l with
 | [p,q]=>some (p,q)
 | _=>none
noncomputable def int? (p:PV):Option Int:=match p with
 | .int i=>some i
 | _=>none
noncomputable def str? (p:PV):Option (List Nat):=match p with
 | .str x=>some x
 | _=>none
noncomputable def list? (p:PV):Option (List PV):=match p with
 | .list x=>some x
 | _=>none
noncomputable def bool? (p:PV):Option Bool:=match p with
 | .bool b=>some b
 | _=>none
noncomputable def tup? (p:PV):Option (List PV):=match p with
 | .tup x=>some x
 | _=>none
noncomputable def eqvL (f:PV→PV→Option Bool):List PV→List PV→Option Bool
 | [],[]=>some true
 | x :: r,y :: t=>ob (f x y) fun p=>ob (eqvL f r t) fun q=>some (p && q)
 | [],_ :: _=>some false
 | _ :: _,[]=>some false
noncomputable def eqv:Nat→PV→PV→Option Bool
 | 0,_,_=>none
 | n+1,a,b=>match a with
  | .int a=>ob (int? b) fun b=>some (intBeq a b)
  | .str a=>ob (str? b) fun b=>some (beqL a b)
  | .bool a=>ob (bool? b) fun b=>some (a == b)
  | .list a=>ob (list? b) fun b=>eqvL (eqv n) a b
  | .tup a=>ob (tup? b) fun b=>eqvL (eqv n) a b
  | _=>none
noncomputable def fits (i:Int):Bool:=Nat.blt (Nat.log2 i.natAbs) 67108864
noncomputable def lenOk {α:Type} (l:List α):Bool:=Nat.ble l.length 1000000
noncomputable def toNat?:Int→Option Nat
 | .ofNat n=>some n
 | .negSucc _=>none
noncomputable def repL {α:Type} (l:List α):Nat→List α
 | 0=>[]
 | n+1=>l++repL l n
noncomputable def binI (k:BinK) (a b:Int):Option PV:=match k with
 | .add=>some (.int (a+b))
 | .sub=>some (.int (a - b))
 | .mul=>og (fits a && fits b) (.int (a*b))
 | .fdiv=>ogn (intBeq b 0 || Builtin.divisionGoesByPylong a b) (.int (a.fdiv b))
 | .mod=>ogn (intBeq b 0) (.int (a.fmod b))
 | .pow=>ob (toNat? b) fun n=>og (Nat.ble ((Nat.log2 a.natAbs+1)*n) 67108864) (.int (a ^ n))
 | .shl=>ob (toNat? b) fun n=>og (Nat.ble (Nat.log2 a.natAbs+1+n) 67108864) (.int (a*2 ^ n))
 | .shr=>ob (toNat? b) fun n=>og (Nat.ble n 67108864) (.int (a.fdiv (2 ^ n)))
 | .band=>some (.int (Builtin.bitAnd a b))
 | .bxor=>some (.int (Builtin.bitXor a b))
noncomputable def mulS {α:Type} (mk:List α→PV) (a:List α) (i:Int):Option PV:=ob (toNat? i) fun n=>og (Nat.ble (a.length*n) 1000000 && Nat.ble n 1000000 && lenOk a) (mk (repL a n))
noncomputable def catS {α:Type} (mk:List α→PV) (a b:List α):Option PV:=og (lenOk a && lenOk b) (mk (a++b))
noncomputable def binV (k:BinK) (a b:PV):Option PV:=match a with
 | .int a=>ob (int? b) (binI k a)
 | .str a=>match k with
  | .add=>ob (str? b) (catS .str a)
  | .mul=>ob (int? b) (mulS .str a)
  | _=>none
 | .list a=>match k with
  | .add=>ob (list? b) (catS .list a)
  | .mul=>ob (int? b) (mulS .list a)
  | _=>none
 | _=>none
noncomputable def hasInt (x:Int):List PV→Option Bool
 | []=>some false
 | p :: r=>ob (int? p) fun y=>ob (hasInt x r) fun b=>some (intBeq y x || b)
noncomputable def hasKey (x:List Nat) (ks:List (List Nat)):Bool:=ks.any (beqL x)
noncomputable def intLt (a b:Int):Bool:=decide (a<b)
noncomputable def dict? (p:PV):Option (List (List Nat) × List PV):=match p with
 | .dict ks ps=>some (ks,ps)
 | _=>none
noncomputable def inV (a b:PV):Option Bool:=match a with
 | .str x=>ob (dict? b) fun d=>some (hasKey x d.1)
 | .int x=>ob (list? b) (hasInt x)
 | _=>none
noncomputable def cmpI (f:Int→Int→Bool) (a b:PV):Option Bool:=ob (int? a) fun a=>ob (int? b) fun b=>some (f a b)
noncomputable def cmpB (f:Bool→Bool→Bool) (a b:PV):Option Bool:=ob (bool? a) fun a=>ob (bool? b) fun b=>some (f a b)
noncomputable def notNone (p:PV):Option Bool:=match p with
 | .none=>some false
 | .str _=>some true
 | _=>none
noncomputable def cmpV (k:CmpK) (a b:PV):Option Bool:=match k with
 | .eq=>eqv 6 a b
 | .ne=>ob (eqv 6 a b) fun c=>some (!c)
 | .in_=>inV a b
 | .is_=>cmpB (fun a b=>a == b) a b
 | .isNot=>match b with
  | .none=>notNone a
  | _=>cmpB (fun a b=>!(a == b)) a b
 | .lt=>cmpI intLt a b
 | .le=>cmpI (fun a b=>!intLt b a) a b
 | .ge=>cmpI (fun a b=>!intLt a b) a b
noncomputable def truthV:PV→Option Bool
 | .bool b=>some b
 | .int i=>some (!intBeq i 0)
 | .list l=>og (lenOk l) (!l.isEmpty)
 | .tup l=>og (lenOk l) (!l.isEmpty)
 | _=>none
noncomputable def place (i:Int) (n:Nat):Option Nat:=match i with
 | .ofNat k=>og (Nat.blt k n) k
 | .negSucc k=>og (Nat.blt k n) (n - (k+1))
noncomputable def seat {α:Type} (i:Int) (l:List α):Option Nat:=ob (place i l.length) fun k=>og (lenOk l) k
noncomputable def dictGet (x:List Nat):List (List Nat)→List PV→Option PV
 | k :: ks,v :: vs=>match beqL x k with
  | true=>some v
  | false=>dictGet x ks vs
 | _,_=>none
noncomputable def idxV (o i:PV):Option PV:=match o with
 | .list l=>ob (int? i) fun i=>ob (seat i l) fun k=>l[k]?
 | .tup l=>ob (int? i) fun i=>ob (seat i l) fun k=>l[k]?
 | .dict ks vs=>ob (str? i) fun x=>dictGet x ks vs
 | _=>none
noncomputable def pickL {α:Type} (l:List α) (lo hi st:Option Int):List α :=
 (sliceRange (sliceBounds lo hi st l.length).1 (sliceBounds lo hi st l.length).2.1 (sliceBounds lo hi st l.length).2.2).filterMap (l[·]?)
noncomputable def part?:PV→Option (Option Int)
 | .none=>some none
 | .int i=>some (some i)
 | _=>none
noncomputable def step?:PV→Option (Option Int)
 | .none=>some none
 | .int i=>ogn (intBeq i 0) (some i)
 | _=>none
noncomputable def sliceV (o a b c:PV):Option PV:=ob (list? o) fun l=>ob (part? a) fun a=>ob (part? b) fun b=>ob (step? c) fun c=>og (lenOk l) (.list (pickL l a b c))
noncomputable def sumV:List PV→Int→Option Int
 | [],a=>some a
 | p :: r,a=>ob (int? p) fun i=>sumV r (a+i)
noncomputable def rangeUp (a:Int):Nat→List PV
 | 0=>[]
 | n+1=>.int a :: rangeUp (a+1) n
noncomputable def small (a:Int):Bool:=Nat.blt a.natAbs 1000000
noncomputable def range1 (n:Int):Option (List PV):=og (small n) (rangeUp 0 n.toNat)
noncomputable def range2 (a b:Int):Option (List PV):=og (small a && small b) (rangeUp a (b - a).toNat)
noncomputable def rangeV (l:List PV):Option (List PV):=match l with
 | []=>none
 | p :: r=>ob (int? p) fun a=>match r with
  | []=>range1 a
  | q :: r=>ob (int? q) fun b=>match r with
   | []=>range2 a b
   | _ :: _=>none
noncomputable def hexV (i:Int):List Nat:=(PySem.baseText "0x" 16 i).cps.toList
noncomputable def strs?:List PV→Option (List (List Nat))
 | []=>some []
 | p :: r=>ob (str? p) fun x=>ob (strs? r) fun l=>some (x :: l)
noncomputable def nodupK:List (List Nat)→Bool
 | []=>true
 | k :: r=>match hasKey k r with|true=>false|false=>nodupK r
noncomputable def lenV (p:PV):Option PV:=match p with
 | .list x=>og (lenOk x) (.int x.length)
 | .str x=>og (lenOk x) (.int x.length)
 | .tup x=>og (lenOk x) (.int x.length)
 | _=>none
noncomputable def ordV (x:List Nat):Option PV:=match x with
 | [c]=>some (.int c)
 | _=>none
noncomputable def chrV (i:Int):Option PV:=match i with
 | .ofNat c=>og (Nat.blt c 1114112 && !(Nat.ble 55296 c && Nat.blt c 57344)) (.str [c])
 | .negSucc _=>none
noncomputable def divV (a b:Int):Option PV:=og (!(intBeq b 0 || Builtin.divisionGoesByPylong a b)) (.tup [.int (a.fdiv b),.int (a.fmod b)])
noncomputable def zipV (a b:List PV):Option PV:=ob (strs? a) fun ks=>og (nodupK ks && Nat.beq ks.length b.length && Nat.blt ks.length 1000) (.dict ks b)
noncomputable def biV (f:BI) (l:List PV):Option PV:=match f with
 | .len=>ob (one? l) lenV
 | .ord=>ob (one? l) fun p=>ob (str? p) ordV
 | .chr=>ob (one? l) fun p=>ob (int? p) chrV
 | .sum=>ob (one? l) fun p=>ob (list? p) fun x=>ob (og (lenOk x) x) fun x=>ob (sumV x 0) fun i=>some (.int i)
 | .max=>ob (two? l) fun p=>ob (int? p.1) fun a=>ob (int? p.2) fun b=>some (.int (match intLt a b with|true=>b|false=>a))
 | .hex=>ob (one? l) fun p=>ob (int? p) fun i=>og (Nat.ble (hexV i).length 1000000) (.str (hexV i))
 | .divmod=>ob (two? l) fun p=>ob (int? p.1) fun a=>ob (int? p.2) fun b=>divV a b
 | .tuple=>ob (one? l) fun p=>ob (list? p) fun x=>og (lenOk x) (.tup x)
 | .listRange=>ob (rangeV l) fun x=>some (.list x)
 | .dictZip=>ob (two? l) fun p=>ob (list? p.1) fun a=>ob (list? p.2) fun b=>zipV a b
 | .range=>none
 | .reversed=>none
noncomputable def joinV (sep:List Nat):List (List Nat)→List Nat
 | []=>[]
 | [x]=>x
 | x :: r=>x++sep++joinV sep r
noncomputable def sumLen:List (List Nat)→Nat
 | []=>0
 | x :: r=>x.length+sumLen r
noncomputable def methV (m:MK) (o:PV) (l:List PV):Option PV:=match m with
 | .join=>ob (str? o) fun sep=>ob (one? l) fun p=>ob (list? p) fun x=>ob (strs? x) fun xs=>og (Nat.ble (sumLen xs+xs.length*sep.length) 1000000) (.str (joinV sep xs))
 | .split=>ob (str? o) fun x=>ob (one? l) fun p=>ob (str? p) fun y=>og (Nat.ble x.length 100000 && Nat.blt 0 y.length) (.list ((Txt.split ⟨x.toArray⟩ ⟨y.toArray⟩).map fun z=>.str z.cps.toList))
 | .bitLength=>ob (int? o) fun i=>og l.isEmpty (.int (Builtin.Int.intBits i))
 | .upper=>ob (str? o) fun x=>og (l.isEmpty && Nat.ble (Txt.upper ⟨x.toArray⟩).length 1000000) (.str (Txt.upper ⟨x.toArray⟩).cps.toList)
 | .lower=>ob (str? o) fun x=>og (l.isEmpty && Nat.ble (Txt.lower ⟨x.toArray⟩).length 1000000) (.str (Txt.lower ⟨x.toArray⟩).cps.toList)
structure Rc where
 ev:PEnv→PE→Option PV
 ts:PEnv→PE→Option Bool
 ex:PEnv→List PS→Option (PEnv × Fl)
 fn:Nat→List PV→Option PV
 me:Nat→List PV→Option PV
structure Gl where
 gv:Nat→Option PV
 ga:Nat→Nat→Option PV
 gm:Nat→Nat→List PV→Option PV
 ft:Nat→Option FnP
 mt:Nat→Option FnP
 ct:Nat→Option FnP
 sp:Nat→List PV→Option PV
noncomputable def evL (r:Rc) (ρ:PEnv):List PE→Option (List PV)
 | []=>some []
 | e :: l=>ob (r.ev ρ e) fun v=>ob (evL r ρ l) fun vs=>some (v :: vs)
noncomputable def attrV (n:Nat):List Nat→List PV→Option PV
 | k :: ks,v :: vs=>match Nat.beq n k with
  | true=>some v
  | false=>attrV n ks vs
 | _,_=>none
noncomputable def putAttr (n:Nat) (x:PV):List Nat→List PV→List Nat × List PV
 | k :: ks,v :: vs=>match Nat.beq n k with
  | true=>(k :: ks,x :: vs)
  | false=>(k :: (putAttr n x ks vs).1,v :: (putAttr n x ks vs).2)
 | _,_=>([n],[x])
noncomputable def bindT (xs:List Nat) (single:Bool) (v:PV) (ρ:PEnv):Option PEnv:=match single with
 | true=>match xs with
  | [x]=>some (PEnv.set ρ x false v)
  | _=>none
 | false=>ob (tup? v) fun vs=>go xs vs ρ
where
 go:List Nat→List PV→PEnv→Option PEnv
  | [],[],ρ=>some ρ
  | x :: xs,v :: vs,ρ=>go xs vs (PEnv.set ρ x false v)
  | [],_ :: _,_=>none
  | _ :: _,[],_=>none
noncomputable def itV (v:PV):Option (List PV × Bool):=match v with
 | .list x=>og (lenOk x) (x,true)
 | .str x=>og (lenOk x) (x.map fun c=>.str [c],false)
 | _=>none
noncomputable def iterV (r:Rc) (ρ:PEnv) (e:PE):Option (List PV × Bool):=match e with
 | .bi f l=>match f with
  | .range=>ob (evL r ρ l) fun vs=>ob (rangeV vs) fun x=>some (x,false)
  | .reversed=>ob (oneE l) fun a=>ob (r.ev ρ a) fun v=>ob (list? v) fun x=>og (lenOk x) (x.reverse,true)
  | _=>none
 | .tv e=>ob (r.ev ρ e) itV
 | _=>none
noncomputable def allT (r:Rc) (ρ:PEnv):List PE→Option Bool
 | []=>some true
 | c :: l=>oif (r.ts ρ c) (allT r ρ l) (some false)
noncomputable def compGo (r:Rc) (elt:PE) (xs:List Nat) (single:Bool) (ifs:List PE):List PV→PEnv→Option (List PV)
 | [],_=>some []
 | p :: ps,ρ=>ob (bindT xs single p ρ) fun ρ'=>oif (allT r ρ' ifs) (ob (r.ev ρ' elt) fun v=>ob (compGo r elt xs single ifs ps ρ') fun vs=>some (v :: vs)) (compGo r elt xs single ifs ps ρ')
noncomputable def andGo (r:Rc) (ρ:PEnv):List PE→Option PV
 | []=>none
 | e :: l=>match l.isEmpty with
  | true=>r.ev ρ e
  | false=>ob (r.ev ρ e) fun v=>oif (truthV v) (andGo r ρ l) (some v)
noncomputable def evStep (G:Gl) (r:Rc) (ρ:PEnv) (e:PE):Option PV:=match e with
 | .lit v=>some v
 | .var x=>ob (PEnv.get ρ x) fun b=>some b.2
 | .glob x=>G.gv x
 | .bin k a b=>ob (r.ev ρ a) fun x=>ob (r.ev ρ b) fun y=>binV k x y
 | .neg a=>ob (r.ev ρ a) fun x=>ob (int? x) fun i=>some (.int (-i))
 | .inv a=>ob (r.ev ρ a) fun x=>ob (int? x) fun i=>some (.int (-i - 1))
 | .not a=>ob (r.ev ρ a) fun v=>ob (truthV v) fun b=>some (.bool (!b))
 | .cmp k a b=>ob (r.ev ρ a) fun x=>ob (r.ev ρ b) fun y=>ob (cmpV k x y) fun b=>some (.bool b)
 | .and l=>andGo r ρ l
 | .ite c a b=>oif (r.ts ρ c) (r.ev ρ a) (r.ev ρ b)
 | .list l=>ob (evL r ρ l) fun vs=>some (.list vs)
 | .tup l=>ob (evL r ρ l) fun vs=>some (.tup vs)
 | .idx o i=>ob (r.ev ρ o) fun x=>ob (r.ev ρ i) fun y=>idxV x y
 | .slice o a b c=>ob (r.ev ρ o) fun x=>ob (r.ev ρ a) fun p=>ob (r.ev ρ b) fun q=>ob (r.ev ρ c) fun t=>sliceV x p q t
 | .call f l=>ob (evL r ρ l) fun vs=>r.fn f vs
 | .bi f l=>ob (evL r ρ l) fun vs=>biV f vs
 | .meth m o l=>ob (r.ev ρ o) fun x=>ob (evL r ρ l) fun vs=>methV m x vs
 | .imeth o m l=>ob (r.ev ρ o) fun x=>ob (inst? x) fun i=>ob (ogn (PEnv.has i.1 m) ()) fun _=>ob (evL r ρ l) fun vs=>r.me m (.inst i.1 i.2 :: vs)
 | .attr o n=>ob (r.ev ρ o) fun x=>ob (inst? x) fun i=>attrV n i.1 i.2
 | .gattr g n=>G.ga g n
 | .gmeth g m l=>ob (evL r ρ l) fun vs=>G.gm g m vs
 | .comp elt xs single iter ifs caps=>ob (iterV r ρ iter) fun ps=>ob (compGo r elt xs single ifs ps.1 (PEnv.cap caps ρ)) fun vs=>og (lenOk vs) (.list vs)
 | .tv _=>none
noncomputable def tsStep (r:Rc) (ρ:PEnv) (e:PE):Option Bool:=match e with
 | .not a=>ob (r.ts ρ a) fun b=>some (!b)
 | .and l=>allT r ρ l
 | .cmp k a b=>ob (r.ev ρ a) fun x=>ob (r.ev ρ b) fun y=>cmpV k x y
 | .tv e=>ob (r.ev ρ e) truthV
 | _=>none
noncomputable def isL (v:PV):Bool:=match v with
 | .list _=>true
 | _=>false
noncomputable def isFr (e:PE):Bool:=match e with
 | .list _=>true
 | .bin _ _ _=>true
 | _=>false
noncomputable def freshE (e:PE) (v:PV):Bool:=isFr e && isL v
noncomputable def forGo (r:Rc) (xs:List Nat) (single:Bool) (body orelse:List PS):List PV→PEnv→Option (PEnv × Fl)
 | [],ρ=>r.ex ρ orelse
 | p :: ps,ρ=>ob (bindT xs single p ρ) fun ρ'=>ob (r.ex ρ' body) fun o=>match o.2 with
  | .next=>forGo r xs single body orelse ps o.1
  | .brk=>some (o.1,.next)
  | .ret v=>some (o.1,.ret v)
noncomputable def frz (v:PV) (occ:List Nat) (ρ:PEnv):PEnv:=match v.scalar with
 | true=>ρ
 | false=>PEnv.freeze occ ρ
noncomputable def setAll:List Nat→PV→PEnv→PEnv
 | [],_,ρ=>ρ
 | x :: r,v,ρ=>setAll r v (PEnv.set ρ x false v)
noncomputable def ownL (ρ:PEnv) (x:Nat):Option (List PV):=ob (PEnv.get ρ x) fun b=>ob (og b.1 b.2) list?
noncomputable def ownI (ρ:PEnv) (x:Nat):Option (List Nat × List PV):=ob (PEnv.get ρ x) fun b=>ob (og b.1 b.2) inst?
noncomputable def exS (r:Rc) (ρ:PEnv) (s:PS):Option (PEnv × Fl):=match s with
 | .assign x e occ=>ob (r.ev (PEnv.only occ ρ) e) fun v=>some (PEnv.set (frz v occ ρ) x (freshE e v) v,.next)
 | .unpack xs e occ=>ob (r.ev (PEnv.only occ ρ) e) fun v=>ob (bindT xs false v (PEnv.freeze occ ρ)) fun ρ'=>some (ρ',.next)
 | .unpackR xs e occ=>ob (r.ev (PEnv.only occ ρ) e) fun v=>ob (tup? v) fun vs=>ob (bindT.go xs.reverse vs.reverse (PEnv.freeze occ ρ)) fun ρ'=>some (ρ',.next)
 | .chain xs e=>ob (r.ev [] e) fun v=>og v.scalar (setAll xs v ρ,.next)
 | .setidx x i e=>ob (r.ev ρ e) fun v=>ob (og v.scalar v) fun v=>ob (r.ev ρ i) fun w=>ob (int? w) fun k=>ob (toNat? k) fun _=>ob (ownL ρ x) fun l=>ob (seat k l) fun j=>some (PEnv.set ρ x true (.list (l.set j v)),.next)
 | .setattr x a e occ=>ob (r.ev (PEnv.only occ ρ) e) fun v=>ob (ownI (frz v occ ρ) x) fun i=>og (Nat.ble i.1.length 1000) (PEnv.set (frz v occ ρ) x true (.inst (putAttr a v i.1 i.2).1 (putAttr a v i.1 i.2).2),.next)
 | .append x e occ=>ob (r.ev (PEnv.only occ ρ) e) fun v=>ob (ownL (frz v occ ρ) x) fun l=>og (lenOk l) (PEnv.set (frz v occ ρ) x true (.list (l++[v])),.next)
 | .reverse x=>ob (ownL ρ x) fun l=>og (lenOk l) (PEnv.set ρ x true (.list l.reverse),.next)
 | .aug x k e=>ob (PEnv.get ρ x) fun b=>ob (int? b.2) fun i=>ob (r.ev ρ e) fun w=>ob (int? w) fun j=>ob (binI k i j) fun v=>og v.scalar (PEnv.set ρ x false v,.next)
 | .if_ c a b=>oif (r.ts ρ c) (r.ex ρ a) (r.ex ρ b)
 | .for_ xs single iter occ body orelse=>ob (iterV r (PEnv.only occ ρ) iter) fun ps=>match ps.2 with
  | true=>forGo r xs single body orelse ps.1 (PEnv.freeze occ ρ)
  | false=>forGo r xs single body orelse ps.1 ρ
 | .ret e occ=>ob (r.ev (PEnv.only occ ρ) e) fun v=>some (ρ,.ret v)
 | .brk=>some (ρ,.brk)
 | .stuck=>none
 | .pass=>some (ρ,.next)
noncomputable def exL (r:Rc):List PS→PEnv→Option (PEnv × Fl)
 | [],ρ=>some (ρ,.next)
 | s :: l,ρ=>ob (exS r ρ s) fun o=>match o.2 with
  | .next=>exL r l o.1
  | .brk=>some (o.1,.brk)
  | .ret v=>some (o.1,.ret v)
noncomputable def zipE:List Nat→List PV→Option PEnv
 | [],[]=>some []
 | x :: xs,v :: vs=>ob (zipE xs vs) fun ρ=>some ((x,false,v) :: ρ)
 | [],_ :: _=>none
 | _ :: _,[]=>none
noncomputable def runF (r:Rc) (f:FnP) (vs:List PV):Option PV:=ob (zipE f.params vs) fun ρ=>ob (r.ex ρ f.body) fun o=>match o.2 with
 | .ret v=>some v
 | .next=>some .none
 | .brk=>none
noncomputable def runC (r:Rc) (f:FnP) (vs:List PV):Option PV:=match f.params with
 | me :: xs=>ob (zipE xs vs) fun ρ=>ob (r.ex ((me,true,.inst [] []) :: ρ) f.body) fun o=>match o.2 with
  | .next=>ob (ownI o.1 me) fun i=>some (.inst i.1 i.2)
  | .brk=>none
  | .ret _=>none
 | []=>none
noncomputable def ogo {α:Type} (b:Bool) (x:Option α):Option α:=match b with
 | true=>x
 | false=>none
noncomputable def om {α β:Type} (o:Option α) (f:α→Option β) (y:Option β):Option β:=match o with
 | some a=>f a
 | none=>y
noncomputable def callS (G:Gl) (r:Rc) (f:Nat) (vs:List PV):Option PV:=om (G.ft f) (fun fp=>runF r fp vs) (ob (G.ct f) fun fp=>runC r fp vs)
noncomputable def sem (G:Gl):Nat→Rc
 | 0=>⟨fun _ _=>none,fun _ _=>none,fun _ _=>none,fun _ _=>none,fun _ _=>none⟩
 | n+1=>{
   ev:=evStep G (sem G n)
   ts:=tsStep (sem G n)
   ex:=fun ρ l=>exL (sem G n) l ρ
   fn:=fun f vs=>om (ogo (Nat.ble 140 n) (G.sp f vs)) some (callS G (sem G n) f vs)
   me:=fun m vs=>ob (G.mt m) fun fp=>runF (sem G n) fp vs }
end Mine
end
section
set_option maxRecDepth 100000
open PySem PySem.Calls PyProof.Rows PySem.W
set_option genSizeOf false
set_option genInjectivity false
namespace Mine
noncomputable def okN (x:Str):Bool:=x.cps.all fun c=>Nat.blt c 127
theorem encL_cons {c d:Nat} {r t:List Nat} (h1:c<127) (h2:d<127) (e:encL (c :: r)=encL (d :: t)):c=d∧encL r=encL t:=by
 have m1:=congrArg (· % 128) e
 have m2:=congrArg (· / 128) e
 simp only [encL,Nat.add_mul_mod_self_left,Nat.add_mul_div_left _ _ (show 0<128 by decide)] at m1 m2
 rw [Nat.mod_eq_of_lt (Nat.succ_lt_succ h1),Nat.mod_eq_of_lt (Nat.succ_lt_succ h2)] at m1
 rw [Nat.div_eq_of_lt (Nat.succ_lt_succ h1),Nat.div_eq_of_lt (Nat.succ_lt_succ h2),Nat.zero_add,Nat.zero_add] at m2
 exact ⟨Nat.succ.inj m1,m2⟩
theorem encL_inj:∀ {a b:List Nat},(∀ c∈a,c<127)→(∀ c∈b,c<127)→encL a=encL b→a=b
 | [],[],_,_,_=>rfl
 | [],_ :: _,_,_,e=>by rw [encL,encL,Nat.add_right_comm] at e;exact (Nat.succ_ne_zero _ e.symm).elim
 | _ :: _,[],_,_,e=>by rw [encL,encL,Nat.add_right_comm] at e;exact (Nat.succ_ne_zero _ e).elim
 | c :: r,d :: t,ha,hb,e=>by
  obtain ⟨h1,h2⟩:=encL_cons (ha c (.head _)) (hb d (.head _)) e
  rw [h1,encL_inj (fun c hc=>ha c (.tail _ hc)) (fun c hc=>hb c (.tail _ hc)) h2]
theorem okN_lt {x:Str} (h:okN x=true):∀ c∈x.cps.toList,c<127:=by
 intro c hc
 unfold okN at h
 have:=(Array.all_eq_true'.mp h) c (Array.mem_toList_iff.mp hc)
 exact Nat.le_of_ble_eq_true this
theorem enc_inj {x y:Str} (hx:okN x=true) (hy:okN y=true) (e:enc x=enc y):x=y:=by
 have:=encL_inj (okN_lt hx) (okN_lt hy) e
 cases x;cases y
 simp only [Str.mk.injEq]
 exact Array.toList_inj.mp this
noncomputable abbrev Hid:=Addr→Prop
noncomputable def Live (h:Heap) (a:Addr):Prop:=∃ o,h.get? a=some o
theorem Live.lt {h:Heap} {a:Addr} (x:Live h a):a<h.objs.size:=(by obtain ⟨_,e⟩:=x;exact Heap.lt_size e)
theorem not_live_size {h:Heap}:¬ Live h h.objs.size:=fun x=>Nat.lt_irrefl _ x.lt
noncomputable def isCd (o:Obj):Prop:=o.cls=.type "code"∧∃ vs,o.data=.fields vs
noncomputable def NoCd (h:Heap) (b:Addr):Prop:=∀ o,h.get? b=some o→¬ isCd o
theorem NoCd.of {h:Heap} {b:Addr} (n:¬ Live h b):NoCd h b:=fun o e=>(n ⟨o,e⟩).elim
theorem NoCd.of_data {h:Heap} {b:Addr} {o:Obj} (e:h.get? b=some o) (n:∀ vs,o.data ≠ .fields vs):NoCd h b:=fun o' e' ⟨_,vs,q⟩=>by rw [e] at e';cases e';exact n vs q
theorem NoCd.of_cls {h:Heap} {b:Addr} {o:Obj} (e:h.get? b=some o) (n:o.cls ≠ .type "code"):NoCd h b:=fun o' e' ⟨q,_⟩=>by rw [e] at e';cases e';exact n q
theorem NoCd.ns {h:Heap} {b:Addr} {m:Str→Option Value} (x:h.Ns b m):NoCd h b:=(by obtain ⟨_,_,_,e,d,_⟩:=x;exact .of_data e fun vs q=>by rw [d] at q;cases q)
theorem NoCd.cell {h:Heap} {b:Addr} {v:Option Value} (x:h.IsCell b v):NoCd h b:=(by obtain ⟨_,e,d⟩:=x;exact .of_data e fun vs q=>by rw [d] at q;cases q)
structure Cx where
 prog:Program
 w:World
 GA:Addr→Prop
 T:Addr→Prop
 B:Addr→Prop
 GI:Heap→Prop
 mg:Str→Option Value
 mb:Str→Option Value
 C:Addr
 ga_live:∀ h a,GI h→GA a→Live h a
 mono:∀ h h',GI h→(∀ a o,(GA a∨isCd o)→h.get? a=some o→h'.get? a=some o)→GI h'
 tB:∀ a,T a→B a
 bGA:∀ a,B a→GA a
 sysB:B sysModules
 ns_g:∀ h,GI h→h.Ns mainGlobals mg
 ns_b:∀ h,GI h→h.Ns builtinsNs mb
 lim:∀ h,GI h→h.NoLimit
 boot:∀ x:Str,x ≠ "__name__"→mb x=bootBuiltins x
structure Ext (cx:Cx) (W:Hid) (h h':Heap):Prop where
 keep:∀ a o,¬ W a→h.get? a=some o→h'.get? a=some o
 alive:∀ a,¬ W a∨cx.T a→Live h a→Live h' a
 gi:cx.GI h→cx.GI h'
namespace Ext
variable {cx:Cx} {W W':Hid} {h h' h'':Heap}
theorem refl:Ext cx W h h:=⟨fun _ _ _ e=>e,fun _ _ x=>x,fun x=>x⟩
theorem trans (x:Ext cx W h h') (y:Ext cx W h' h''):Ext cx W h h'':=⟨fun a o n e=>y.keep a o n (x.keep a o n e),fun a q l=>y.alive a q (x.alive a q l),fun g=>y.gi (x.gi g)⟩
theorem weaken (x:Ext cx W h h') (k:∀ a,W a→W' a):Ext cx W' h h':=⟨fun a o n e=>x.keep a o (fun w=>n (k a w)) e,fun a q l=>x.alive a (q.imp (fun n w=>n (k a w)) id) l,x.gi⟩
theorem live (x:Ext cx cx.T h h'):∀ a,Live h a→Live h' a:=fun a l=>x.alive a (Classical.em (cx.T a)).symm l
theorem of_keep (k:∀ a o,h.get? a=some o→h'.get? a=some o):Ext cx W h h' :=
 ⟨fun a o _ e=>k a o e,fun a _ ⟨o,e⟩=>⟨o,k a o e⟩,fun g=>cx.mono h h' g fun a o _ e=>k a o e⟩
theorem push (o:Obj):Ext cx W h (h.push o):=of_keep fun _ _ e=>Heap.get?_push_of_some _ e
theorem of_but {b:Addr} (hb:W b) (hg:cx.GI h→¬ cx.GA b) (hl:cx.T b→Live h' b) (k:Heap.ExtBut b h h') (nc:NoCd h b):Ext cx W h h' :=
 ⟨fun a o n e=>k a o (fun q=>n (q ▸ hb)) e,fun a c ⟨o,e⟩=>by
  by_cases q:a=b
  ·subst q;exact hl (c.resolve_left fun n=>n hb)
  ·exact ⟨o,k a o q e⟩,fun g=>cx.mono h h' g fun a o ga e=>k a o (fun q=>ga.elim (fun ga=>hg g (q ▸ ga)) (nc o (q ▸ e))) e⟩
theorem but (e:Ext cx cx.T h h') (g:cx.GI h) {b:Addr} (nl:¬ Live h b) (k:Heap.ExtBut b h' h'') (nc:NoCd h' b):Ext cx cx.T h h'' :=
 ⟨fun a o n x=>k a o (fun q=>nl ⟨o,q ▸ x⟩) (e.keep a o n x),fun a c l=>by
  obtain ⟨o,ho⟩:=e.alive a c l
  exact ⟨o,k a o (fun q=>nl (q ▸ l)) ho⟩,fun _=>cx.mono h' h'' (e.gi g) fun a o ga x=>k a o (fun q=>ga.elim (fun ga=>nl (q ▸ cx.ga_live h a g ga)) (nc o (q ▸ x))) x⟩
end Ext
noncomputable abbrev S (x:List Nat):Str:=⟨x.toArray⟩
theorem S_inj {x y:List Nat}:S x=S y↔x=y:=by
 constructor
 ·intro h
  have:x.toArray=y.toArray:=congrArg Str.cps h
  simpa using this
 ·rintro rfl;rfl
theorem S_of (x:Str):S x.cps.toList=x:=by cases x;simp [S]
noncomputable def AttrsAre (m:Str→Option Value):List Nat→List Value→Prop
 | [],vs=>vs=[]∧∀ x,m x=none
 | k :: ks,vs=>∃ y v ws m',k=enc y∧vs=v :: ws∧okN y=true∧AttrsAre m' ks ws∧∀ z,m z=if z=y then some v else m' z
theorem AttrsAre.nil {m:Str→Option Value} (h:∀ x,m x=none):AttrsAre m [] []:=⟨rfl,h⟩
theorem AttrsAre.cons {m m':Str→Option Value} {x:Str} {v:Value} {ks:List Nat} {vs:List Value} (ok:okN x=true) (r:AttrsAre m' ks vs) (h:∀ y,m y=if y=x then some v else m' y):AttrsAre m (enc x :: ks) (v :: vs):=⟨x,v,vs,m',rfl,rfl,ok,r,h⟩
noncomputable def IsIn (h:Heap) (a C d:Addr):Prop:=∃ o,h.get? a=some o∧o.cls=.ref C∧(∀ c,o.data ≠ .cls c)∧o.dict=some d
noncomputable def IsLs (h:Heap) (a:Addr) (vs:List Value):Prop:=∃ n,h.get? a=some ({ cls:=.type "list",data:=.seq vs.toArray n }:Obj)
noncomputable def IsTp (h:Heap) (a:Addr) (vs:List Value):Prop:=∃ n,h.get? a=some ({ cls:=.type "tuple",data:=.seq vs.toArray n }:Obj)
theorem IsLs.noCd {h:Heap} {a:Addr} {vs:List Value} (x:IsLs h a vs):NoCd h a:=(by obtain ⟨_,e⟩:=x;exact .of_data e fun vs q=>by cases q)
theorem IsLs.isList {h:Heap} {a:Addr} {vs:List Value} (x:IsLs h a vs):h.IsList a vs.toArray:=(by obtain ⟨n,e⟩:=x;exact ⟨_,e,rfl,n,rfl⟩)
theorem IsTp.isTup {h:Heap} {a:Addr} {vs:List Value} (x:IsTp h a vs):IsTup h a vs.toArray:=(by obtain ⟨n,e⟩:=x;exact ⟨_,e,rfl,n,rfl⟩)
mutual
noncomputable def Rep (cx:Cx) (h:Heap) (H:Hid):Value→PV→Prop
 | v,.none=>v=.none
 | v,.bool b=>v=.bool b
 | v,.int i=>∃ t,v=.int i t
 | v,.str x=>∃ t,v=.str (S x) t
 | v,.list ps=>∃ a vs,v=.ref a∧¬ H a∧IsLs h a vs∧RepAll cx h H vs ps
 | v,.tup ps=>∃ a vs,v=.ref a∧¬ H a∧IsTp h a vs∧RepAll cx h H vs ps
 | v,.dict ks ps=>∃ a kvs,v=.ref a∧¬ H a∧h.DictOf (strKind cx.prog cx.w) a kvs∧kvs.map (·.1)=ks.map S∧RepAll cx h H (kvs.map (·.2)) ps
 | v,.inst ks ps=>∃ a d m vs,v=.ref a∧¬ H a∧¬ H d∧IsIn h a cx.C d∧d ≠ a∧h.Ns1 d m∧AttrsAre m ks vs∧RepAll cx h H vs ps
noncomputable def RepAll (cx:Cx) (h:Heap) (H:Hid):List Value→List PV→Prop
 | vs,[]=>vs=[]
 | vs,p :: ps=>∃ v ws,vs=v :: ws∧Rep cx h H v p∧RepAll cx h H ws ps
end
section
variable {cx:Cx} {h h':Heap} {H H':Hid} {v:Value} {vs:List Value} {p q:PV} {ps:List PV}
theorem Rep.none:Rep cx h H .none .none:=rfl
theorem Rep.bool (b:Bool):Rep cx h H (.bool b) (.bool b):=rfl
theorem Rep.int (i:Int) (t:Tok):Rep cx h H (.int i t) (.int i):=⟨t,rfl⟩
theorem Rep.str (x:List Nat) (t:Tok):Rep cx h H (.str (S x) t) (.str x):=⟨t,rfl⟩
theorem Rep.list {a:Addr} (n:¬ H a) (l:IsLs h a vs) (r:RepAll cx h H vs ps):Rep cx h H (.ref a) (.list ps):=⟨a,vs,rfl,n,l,r⟩
theorem Rep.tup {a:Addr} (n:¬ H a) (l:IsTp h a vs) (r:RepAll cx h H vs ps):Rep cx h H (.ref a) (.tup ps):=⟨a,vs,rfl,n,l,r⟩
theorem Rep.dict {a:Addr} {kvs:List (Str × Value)} {ks:List (List Nat)} (n:¬ H a) (g:h.DictOf (strKind cx.prog cx.w) a kvs) (e:kvs.map (·.1)=ks.map S) (r:RepAll cx h H (kvs.map (·.2)) ps):Rep cx h H (.ref a) (.dict ks ps):=⟨a,kvs,rfl,n,g,e,r⟩
theorem Rep.inst {a d:Addr} {m:Str→Option Value} {ks:List Nat} (n:¬ H a) (n':¬ H d) (i:IsIn h a cx.C d) (ne:d ≠ a) (g:h.Ns1 d m) (e:AttrsAre m ks vs) (r:RepAll cx h H vs ps):Rep cx h H (.ref a) (.inst ks ps):=⟨a,d,m,vs,rfl,n,n',i,ne,g,e,r⟩
theorem RepAll.nil:RepAll cx h H [] []:=rfl
theorem RepAll.cons (a:Rep cx h H v p) (r:RepAll cx h H vs ps):RepAll cx h H (v :: vs) (p :: ps):=⟨v,vs,rfl,a,r⟩
theorem Rep.none' (r:Rep cx h H v .none):v=.none:=r
theorem Rep.bool' {b:Bool} (r:Rep cx h H v (.bool b)):v=.bool b:=r
theorem Rep.int' {i:Int} (r:Rep cx h H v (.int i)):∃ t,v=.int i t:=r
theorem Rep.str' {x:List Nat} (r:Rep cx h H v (.str x)):∃ t,v=.str (S x) t:=r
theorem Rep.list' (r:Rep cx h H v (.list ps)):∃ a vs,v=.ref a∧¬ H a∧IsLs h a vs∧RepAll cx h H vs ps:=r
theorem Rep.tup' (r:Rep cx h H v (.tup ps)):∃ a vs,v=.ref a∧¬ H a∧IsTp h a vs∧RepAll cx h H vs ps:=r
theorem Rep.dict' {ks:List (List Nat)} (r:Rep cx h H v (.dict ks ps)):∃ a kvs,v=.ref a∧¬ H a∧h.DictOf (strKind cx.prog cx.w) a kvs∧kvs.map (·.1)=ks.map S∧RepAll cx h H (kvs.map (·.2)) ps:=r
theorem Rep.inst' {ks:List Nat} (r:Rep cx h H v (.inst ks ps)):∃ a d m vs,v=.ref a∧¬ H a∧¬ H d∧IsIn h a cx.C d∧d ≠ a∧h.Ns1 d m∧AttrsAre m ks vs∧RepAll cx h H vs ps:=r
noncomputable def PV.isObj:PV→Bool
 | .list _ | .tup _ | .dict _ _ | .inst _ _=>true
 | _=>false
theorem Rep.isRef (r:Rep cx h H v p) (o:p.isObj=true:=by rfl):∃ a,v=.ref a:=by
 cases p with
 | list _|tup _|dict _ _=>obtain ⟨a,_,e,_⟩:=r;exact ⟨a,e⟩
 | inst _ _=>obtain ⟨a,_,_,_,e,_⟩:=r;exact ⟨a,e⟩
 | _=>exact (Bool.false_ne_true o).elim
theorem RepAll.nil' (r:RepAll cx h H vs []):vs=[]:=r
theorem RepAll.cons' (r:RepAll cx h H vs (p :: ps)):∃ v ws,vs=v :: ws∧Rep cx h H v p∧RepAll cx h H ws ps:=r
theorem RepAll.vnil' (r:RepAll cx h H [] ps):ps=[]:=by
 cases ps with
 | nil=>rfl
 | cons p ps=>obtain ⟨_,_,e,_⟩:=r;exact (List.cons_ne_nil _ _ e.symm).elim
theorem RepAll.vcons' (r:RepAll cx h H (v :: vs) ps):∃ p qs,ps=p :: qs∧Rep cx h H v p∧RepAll cx h H vs qs:=by
 cases ps with
 | nil=>exact (List.cons_ne_nil _ _ r).elim
 | cons p ps =>
  obtain ⟨_,_,e,x,y⟩:=r
  obtain ⟨e1,e2⟩:=List.cons.inj e
  exact ⟨p,ps,rfl,e1 ▸ x,e2 ▸ y⟩
mutual
theorem Rep.map (k:∀ a o,¬ H a→h.get? a=some o→¬ H' a∧h'.get? a=some o):∀ {v:Value} {p:PV},Rep cx h H v p→Rep cx h' H' v p
 | _,.none,r=>r
 | _,.bool _,r=>r
 | _,.int _,r=>r
 | _,.str _,r=>r
 | _,.list _,r=>by
  obtain ⟨a,vs,e,n,⟨m,ho⟩,r⟩:=r
  exact ⟨a,vs,e,(k _ _ n ho).1,⟨m,(k _ _ n ho).2⟩,RepAll.map k r⟩
 | _,.tup _,r=>by
  obtain ⟨a,vs,e,n,⟨m,ho⟩,r⟩:=r
  exact ⟨a,vs,e,(k _ _ n ho).1,⟨m,(k _ _ n ho).2⟩,RepAll.map k r⟩
 | _,.dict _ _,r=>by
  obtain ⟨a,kvs,e,n,⟨o,es,ep,ho,q⟩,e',r⟩:=r
  exact ⟨a,kvs,e,(k _ _ n ho).1,⟨o,es,ep,(k _ _ n ho).2,q⟩,e',RepAll.map k r⟩
 | _,.inst _ _,r=>by
  obtain ⟨a,d,m,vs,e,n,n',⟨o,h1,h2⟩,ne,⟨o',es,ep,h3,h4⟩,e',r⟩:=r
  exact ⟨a,d,m,vs,e,(k _ _ n h1).1,(k _ _ n' h3).1,⟨o,(k _ _ n h1).2,h2⟩,ne,⟨o',es,ep,(k _ _ n' h3).2,h4⟩,e',RepAll.map k r⟩
theorem RepAll.map (k:∀ a o,¬ H a→h.get? a=some o→¬ H' a∧h'.get? a=some o):∀ {vs:List Value} {ps:List PV},RepAll cx h H vs ps→RepAll cx h' H' vs ps
 | _,[],r=>r
 | _,_ :: _,r=>by
  obtain ⟨v,ws,e,a,r⟩:=r
  exact ⟨v,ws,e,Rep.map k a,RepAll.map k r⟩
end
variable {v:Value} {p:PV} {vs ws:List Value} {ps qs:List PV} {W:Hid}
theorem Rep.ext (x:Rep cx h H v p) (e:Ext cx W h h') (k:∀ a,W a→H a):Rep cx h' H v p:=x.map fun a _ n g=>⟨n,e.keep a _ (fun w=>n (k a w)) g⟩
theorem RepAll.ext (x:RepAll cx h H vs ps) (e:Ext cx W h h') (k:∀ a,W a→H a):RepAll cx h' H vs ps:=x.map fun a _ n g=>⟨n,e.keep a _ (fun w=>n (k a w)) g⟩
theorem Rep.open' (x:Rep cx h H v p) (k:∀ a,H' a→H a):Rep cx h H' v p:=x.map fun a _ n g=>⟨fun q=>n (k a q),g⟩
theorem RepAll.open' (x:RepAll cx h H vs ps) (k:∀ a,H' a→H a):RepAll cx h H' vs ps:=x.map fun a _ n g=>⟨fun q=>n (k a q),g⟩
theorem Rep.hide (x:Rep cx h H v p) (k:∀ a,Live h a→H' a→H a):Rep cx h H' v p:=x.map fun a o n g=>⟨fun q=>n (k a ⟨o,g⟩ q),g⟩
theorem Rep.scalar (x:Rep cx h H v p) (s:p.scalar=true):Rep cx h' H' v p:=by
 cases p <;> first|exact x|exact (Bool.false_ne_true s).elim
theorem RepAll.length (x:RepAll cx h H vs ps):vs.length=ps.length:=by
 induction ps generalizing vs with
 | nil=>exact congrArg List.length x
 | cons p ps ih=>obtain ⟨v,ws,rfl,_,r⟩:=x;exact congrArg Nat.succ (ih r)
theorem RepAll.append (x:RepAll cx h H vs ps) (y:RepAll cx h H ws qs):RepAll cx h H (vs++ws) (ps++qs):=by
 induction ps generalizing vs with
 | nil=>obtain rfl:=x.nil';exact y
 | cons p ps ih=>obtain ⟨v,us,rfl,a,r⟩:=x;exact .cons a (ih r)
theorem RepAll.get (x:RepAll cx h H vs ps) {k:Nat} {p:PV} (hp:ps[k]?=some p):∃ v,vs[k]?=some v∧Rep cx h H v p:=by
 induction ps generalizing vs k with
 | nil=>exact (Option.some_ne_none _ hp.symm).elim
 | cons p ps ih =>
  obtain ⟨v,us,rfl,a,r⟩:=x
  cases k with
  | zero=>exact ⟨v,rfl,Option.some.inj hp ▸ a⟩
  | succ k=>exact ih r hp
theorem RepAll.reverse (x:RepAll cx h H vs ps):RepAll cx h H vs.reverse ps.reverse:=by
 induction ps generalizing vs with
 | nil=>obtain rfl:=x.nil';exact .nil
 | cons p ps ih=>obtain ⟨v,us,rfl,a,r⟩:=x;rw [List.reverse_cons,List.reverse_cons];exact (ih r).append (.cons a .nil)
theorem RepAll.set (x:RepAll cx h H vs ps) (k:Nat) (y:Rep cx h H v p):RepAll cx h H (vs.set k v) (ps.set k p):=by
 induction ps generalizing vs k with
 | nil=>obtain rfl:=x.nil';exact .nil
 | cons p ps ih =>
  obtain ⟨v,us,rfl,a,r⟩:=x
  cases k with
  | zero=>exact .cons y r
  | succ k=>exact .cons a (ih r k)
theorem RepAll.rep (x:RepAll cx h H vs ps):∀ n,RepAll cx h H (repL vs n) (repL ps n)
 | 0=>.nil
 | n+1=>x.append (x.rep n)
end
theorem ob_i {α β:Type} {o:Option α} {f:α→Option β} {r:β} (e:ob o f=some r):∃ a,o=some a∧f a=some r:=by
 cases o with
 | none=>exact (Option.some_ne_none _ e.symm).elim
 | some a=>exact ⟨a,rfl,e⟩
theorem ob_e {α β:Type} {o:Option α} {f:α→Option β} {r:β} {P:Prop} (e:ob o f=some r) (k:∀ a,o=some a→f a=some r→P):P:=by
 cases o with
 | none=>exact (Option.some_ne_none _ e.symm).elim
 | some a=>exact k a rfl e
theorem oif_i {β:Type} {o:Option Bool} {t f:Option β} {r:β} (e:oif o t f=some r):(o=some true∧t=some r)∨(o=some false∧f=some r):=by
 cases o with
 | none=>exact (Option.some_ne_none _ e.symm).elim
 | some b=>cases b with
  | true=>exact .inl ⟨rfl,e⟩
  | false=>exact .inr ⟨rfl,e⟩
theorem og_i {α:Type} {b:Bool} {x r:α} (e:og b x=some r):b=true∧x=r:=by
 cases b with
 | false=>exact (Option.some_ne_none _ e.symm).elim
 | true=>exact ⟨rfl,Option.some.inj e⟩
theorem ogn_i {α:Type} {b:Bool} {x r:α} (e:ogn b x=some r):b=false∧x=r:=by
 cases b with
 | true=>exact (Option.some_ne_none _ e.symm).elim
 | false=>exact ⟨rfl,Option.some.inj e⟩
theorem toNat_i {i:Int} {n:Nat} (e:toNat? i=some n):i=(n:Int):=by
 cases i with
 | ofNat m=>exact congrArg Int.ofNat (Option.some.inj e)
 | negSucc m=>exact (Option.some_ne_none _ e.symm).elim
section
variable {cx:Cx} {h:Heap} {H:Hid} {v:Value} {vs:List Value} {p q:PV} {ps:List PV}
theorem Rep.toInst {i:List Nat × List PV} (r:Rep cx h H v p) (e:inst? p=some i):Rep cx h H v (.inst i.1 i.2):=by
 cases p with
 | inst ks ps=>exact Option.some.inj e ▸ r
 | _=>exact (Option.some_ne_none _ e.symm).elim
theorem RepAll.one' (r:RepAll cx h H vs [p]):∃ v,vs=[v]∧Rep cx h H v p:=by
 obtain ⟨v,ws,rfl,x,y⟩:=r.cons'
 exact ⟨v,by rw [y.nil'],x⟩
theorem RepAll.two' (r:RepAll cx h H vs [p,q]):∃ v w,vs=[v,w]∧Rep cx h H v p∧Rep cx h H w q:=by
 obtain ⟨v,ws,rfl,x,y⟩:=r.cons'
 obtain ⟨w,rfl,z⟩:=y.one'
 exact ⟨v,w,rfl,x,z⟩
theorem int_i {i:Int} (e:int? p=some i):p=.int i:=by
 cases p <;> first|exact (Option.some_ne_none _ e.symm).elim|exact congrArg _ (Option.some.inj e)
theorem str_i {x:List Nat} (e:str? p=some x):p=.str x:=by
 cases p <;> first|exact (Option.some_ne_none _ e.symm).elim|exact congrArg _ (Option.some.inj e)
theorem list_i (e:list? p=some ps):p=.list ps:=by
 cases p <;> first|exact (Option.some_ne_none _ e.symm).elim|exact congrArg _ (Option.some.inj e)
theorem bool_i {b:Bool} (e:bool? p=some b):p=.bool b:=by
 cases p <;> first|exact (Option.some_ne_none _ e.symm).elim|exact congrArg _ (Option.some.inj e)
theorem tup_i (e:tup? p=some ps):p=.tup ps:=by
 cases p <;> first|exact (Option.some_ne_none _ e.symm).elim|exact congrArg _ (Option.some.inj e)
theorem dict_i {k:List (List Nat) × List PV} (e:dict? p=some k):p=.dict k.1 k.2:=by
 cases p <;> first|exact (Option.some_ne_none _ e.symm).elim|(obtain rfl:=Option.some.inj e;rfl)
theorem Rep.toBool {b:Bool} (r:Rep cx h H v p) (e:bool? p=some b):v=.bool b:=(bool_i e ▸ r).bool'
theorem Rep.toTup (r:Rep cx h H v p) (e:tup? p=some ps):∃ a vs,v=.ref a∧¬ H a∧IsTp h a vs∧RepAll cx h H vs ps:=(tup_i e ▸ r).tup'
theorem one_i (e:one? ps=some p):ps=[p]:=by
 match ps,e with
 | [_],e=>exact congrArg (· :: []) (Option.some.inj e)
theorem two_i {t:PV × PV} (e:two? ps=some t):ps=[t.1,t.2]:=by
 match ps,e with
 | [_,_],e=>rw [← Option.some.inj e]
theorem RepAll.one (r:RepAll cx h H vs ps) (e:one? ps=some p):∃ v,vs=[v]∧Rep cx h H v p:=(one_i e ▸ r).one'
theorem RepAll.two {t:PV × PV} (r:RepAll cx h H vs ps) (e:two? ps=some t):∃ v w,vs=[v,w]∧Rep cx h H v t.1∧Rep cx h H w t.2:=(two_i e ▸ r).two'
theorem Rep.toInt {i:Int} (r:Rep cx h H v p) (e:int? p=some i):∃ t,v=.int i t:=(int_i e ▸ r).int'
theorem Rep.toStr {x:List Nat} (r:Rep cx h H v p) (e:str? p=some x):∃ t,v=.str (S x) t:=(str_i e ▸ r).str'
theorem Rep.toList (r:Rep cx h H v p) (e:list? p=some ps):∃ a vs,v=.ref a∧¬ H a∧IsLs h a vs∧RepAll cx h H vs ps:=(list_i e ▸ r).list'
end
noncomputable def VarAt (h:Heap) (env:Env) (x:Str) (v:Value):Prop :=
 (env.kindOf x=some .local∧∃ m,h.Ns env.locals m∧m x=some v)∨((env.kindOf x=some .cell∨(env.kindOf x=some .free∧(x == ("__classdict__":Str))=false))∧∃ c,env.cells.lookup x=some c∧h.IsCell c (some v))
noncomputable def Room (A:Around) (n:Nat):Prop:=A.handled=none∧A.depth+2*n<recursionLimit∧A.units+16*n<cLine
theorem Room.le {A:Around} {n m:Nat} (x:Room A n) (h:m≤n):Room A m:=⟨x.1,Nat.lt_of_le_of_lt (Nat.add_le_add_left (Nat.mul_le_mul_left 2 h) _) x.2.1,Nat.lt_of_le_of_lt (Nat.add_le_add_left (Nat.mul_le_mul_left 16 h) _) x.2.2⟩
structure Cn (cx:Cx) (h:Heap) (H:Hid):Prop where
 gi:cx.GI h
 hid:∀ a,H a→Live h a
 bH:∀ a,cx.B a→H a
 hg:∀ a,H a→cx.GA a→cx.B a
theorem Cn.ext {cx:Cx} {h h':Heap} {H:Hid} (c:Cn cx h H) (e:Ext cx cx.T h h'):Cn cx h' H:=⟨e.gi c.gi,fun a x=>e.live a (c.hid a x),c.bH,c.hg⟩
theorem Cn.tH {cx:Cx} {h:Heap} {H:Hid} (c:Cn cx h H):∀ a,cx.T a→H a:=fun a t=>c.bH a (cx.tB a t)
structure InE (cx:Cx) (n:Nat) (A:Around) (env:Env) (ns:List (Str × NameKind)) (ρ:PEnv) (H:Hid) (s:Shared):Prop where
 room:Room A n
 kind:env.scope.kind=.function
 glb:∀ f,ns.lookup f=some .globalImplicit→env.kindOf f=some .globalImplicit
 cel:∀ y,ns.lookup y=some .cell∨ns.lookup y=some .free→env.kindOf y=some .cell∧∃ c,env.cells.lookup y=some c
 glob:env.globals=mainGlobals
 blt:env.builtins=builtinsNs
 cn:Cn cx s.heap H
 lH:H env.locals
 cH:∀ n c,env.cells.lookup n=some c→H c
 nT:¬ cx.T env.locals∧∀ n c,env.cells.lookup n=some c→¬ cx.T c
 vars:∀ x b p,okN x=true→PEnv.get ρ (enc x)=some (b,p)→∃ v,VarAt s.heap env x v∧Rep cx s.heap H v p
theorem VarAt.keep {h h':Heap} {env:Env} {x:Str} {v:Value} (y:VarAt h env x v) (k:∀ a o,(a=env.locals∨∃ n c,env.cells.lookup n=some c∧a=c)→h.get? a=some o→h'.get? a=some o):VarAt h' env x v:=by
 rcases y with ⟨e,m,hn,hm⟩|⟨e,c,hc,hv⟩
 ·obtain ⟨o,es,ep,ho,r⟩:=hn
  exact .inl ⟨e,m,⟨o,es,ep,k _ _ (.inl rfl) ho,r⟩,hm⟩
 ·obtain ⟨o,ho,hd⟩:=hv
  exact .inr ⟨e,c,hc,⟨o,k _ _ (.inr ⟨x,c,hc,rfl⟩) ho,hd⟩⟩
theorem InE.ext {cx:Cx} {n:Nat} {A:Around} {env:Env} {ns:List (Str × NameKind)} {ρ:PEnv} {H:Hid} {s:Shared} (I:InE cx n A env ns ρ H s) {h':Heap} {tk':Nat} (e:Ext cx cx.T s.heap h') :
  InE cx n A env ns ρ H { s with heap:=h',toks:=tk' } :=
 ⟨I.room,I.kind,I.glb,I.cel,I.glob,I.blt,I.cn.ext e,I.lH,I.cH,I.nT,fun x b p ok g=>by
  obtain ⟨v,hv,hr⟩:=I.vars x b p ok g
  refine ⟨v,hv.keep fun a o ha g=>?_,hr.ext e I.cn.tH⟩
  rcases ha with rfl|⟨n,c,hc,rfl⟩
  ·exact e.keep _ _ I.nT.1 g
  ·exact e.keep _ _ (I.nT.2 n _ hc) g⟩
theorem InE.le {cx:Cx} {n m:Nat} {A:Around} {env:Env} {ns:List (Str × NameKind)} {ρ:PEnv} {H:Hid} {s:Shared} (I:InE cx n A env ns ρ H s) (h:m≤n):InE cx m A env ns ρ H s :=
 ⟨I.room.le h,I.kind,I.glb,I.cel,I.glob,I.blt,I.cn,I.lH,I.cH,I.nT,I.vars⟩
end Mine
end
section
set_option maxRecDepth 100000
open PySem PySem.Calls PyProof.Rows PySem.W
set_option genSizeOf false
set_option genInjectivity false
namespace Mine
theorem intBeq_iff {a b:Int}:intBeq a b=true↔a=b:=decide_eq_true_iff
theorem intBeq_false {a b:Int}:intBeq a b=false↔a ≠ b:=decide_eq_false_iff_not
theorem intBeq_eq {a b:Int}:intBeq a b=(a == b):=rfl
theorem intLt_eq {a b:Int}:intLt a b=decide (a<b):=rfl
theorem beqL_iff {a b:List Nat}:beqL a b=true↔a=b:=decide_eq_true_iff
theorem beqL_S {a b:List Nat}:beqL a b=(S a == S b):=by
 rw [Bool.eq_iff_iff,beqL_iff,beq_iff_eq,S_inj]
theorem bits_le (a:Int):Builtin.Int.intBits a≤Nat.log2 a.natAbs+1:=by
 unfold Builtin.Int.intBits
 split <;> omega
theorem blt_true {a b:Nat}:Nat.blt a b=true↔a<b:=by simp
theorem ble_true {a b:Nat}:Nat.ble a b=true↔a≤b:=by simp
noncomputable def Frs (cx:Cx) (h h':Heap) (H:Hid) (v:Value) (r:PV):Prop :=
 ∀ ps,r=.list ps→∃ D vs,v=.ref D∧¬ Live h D∧IsLs h' D vs∧RepAll cx h' (fun a=>H a∨a=D) vs ps
noncomputable def RetF (cx:Cx) (s:Shared) (H:Hid) (fr:Bool) (p:PV) (Q:Value→Shared→Prop):Prop :=
 ∀ v h' tk',Ext cx cx.T s.heap h'→Rep cx h' H v p→(fr=true→Frs cx s.heap h' H v p)→Q v { s with heap:=h',toks:=tk' }
theorem RetF.int {cx:Cx} {s:Shared} {H:Hid} {fr:Bool} {i:Int} {t tk:Nat} {Q:Value→Shared→Prop} (r:RetF cx s H fr (.int i) Q):Q (.int i t) { s with toks:=tk } :=
 r _ s.heap tk .refl (.int i t) fun _ ps e=>by cases e
theorem RetF.bool {cx:Cx} {s:Shared} {H:Hid} {fr:Bool} {b:Bool} {tk:Nat} {Q:Value→Shared→Prop} (r:RetF cx s H fr (.bool b) Q):Q (.bool b) { s with toks:=tk } :=
 r _ s.heap tk .refl (.bool b) fun _ ps e=>by cases e
theorem RetF.str {cx:Cx} {s:Shared} {H:Hid} {fr:Bool} {x:List Nat} {t tk:Nat} {Q:Value→Shared→Prop} (r:RetF cx s H fr (.str x) Q):Q (.str (S x) t) { s with toks:=tk } :=
 r _ s.heap tk .refl (.str x t) fun _ ps e=>by cases e
theorem RetF.newList {cx:Cx} {s:Shared} {H:Hid} {fr:Bool} {vs:List Value} {ps:List PV} {tk:Nat} {Q:Value→Shared→Prop} (hid:∀ a,H a→Live s.heap a) (r:RetF cx s H fr (.list ps) Q) (x:RepAll cx s.heap H vs ps) :
  Q (.ref s.heap.objs.size) { s with heap:=s.heap.push { cls:=.type "list",data:=.seq vs.toArray },toks:=tk }:=by
 have nl:¬ Live s.heap s.heap.objs.size:=not_live_size
 have nH:¬ H s.heap.objs.size:=fun q=>nl (hid _ q)
 have e:Ext cx cx.T s.heap (s.heap.push { cls:=.type "list",data:=.seq vs.toArray }):=.push _
 have g:IsLs (s.heap.push { cls:=.type "list",data:=.seq vs.toArray }) s.heap.objs.size vs:=⟨0,Heap.get?_push_size _ rfl⟩
 refine r _ _ tk e (.list nH g (x.map fun a o n q=>⟨n,Heap.get?_push_of_some _ q⟩)) fun _ qs eq=>?_
 cases eq
 refine ⟨_,vs,rfl,nl,g,x.map fun a o n q=>⟨fun w=>?_,Heap.get?_push_of_some _ q⟩⟩
 rcases w with w|w
 ·exact n w
 ·subst w;exact nl ⟨o,q⟩
theorem RetF.newTup {cx:Cx} {s:Shared} {H:Hid} {fr:Bool} {vs:List Value} {ps:List PV} {tk:Nat} {Q:Value→Shared→Prop} (hid:∀ a,H a→Live s.heap a) (r:RetF cx s H fr (.tup ps) Q) (x:RepAll cx s.heap H vs ps) :
  Q (.ref s.heap.objs.size) { s with heap:=s.heap.push { cls:=.type "tuple",data:=.seq vs.toArray },toks:=tk }:=by
 have nl:¬ Live s.heap s.heap.objs.size:=not_live_size
 have nH:¬ H s.heap.objs.size:=fun q=>nl (hid _ q)
 have e:Ext cx cx.T s.heap (s.heap.push { cls:=.type "tuple",data:=.seq vs.toArray }):=.push _
 have g:IsTp (s.heap.push { cls:=.type "tuple",data:=.seq vs.toArray }) s.heap.objs.size vs:=⟨0,Heap.get?_push_size _ rfl⟩
 exact r _ _ tk e (.tup nH g (x.map fun a o n q=>⟨n,Heap.get?_push_of_some _ q⟩)) fun _ qs eq=>by cases eq
section
variable {cx:Cx} {A:Around} {E:Value→Shared→Prop} {s:Shared} {H:Hid} {fr:Bool} {Q:Value→Shared→Prop}
noncomputable def opOf:BinK→Operator
 | .add=>.Add | .sub=>.Sub | .mul=>.Mult | .fdiv=>.FloorDiv | .mod=>.Mod | .pow=>.Pow | .shl=>.LShift | .shr=>.RShift | .band=>.BitAnd | .bxor=>.BitXor
theorem mulOk_of {a b:Int} (ha:fits a=true) (hb:fits b=true):IntMulOk a b:=by
 have h1:=blt_true.mp ha
 have h2:=blt_true.mp hb
 have b1:=bits_le a
 have b2:=bits_le b
 have h3:Builtin.Int.intBits a+Builtin.Int.intBits b≤2 ^ 27:=Nat.le_trans (Nat.add_le_add (Nat.le_trans b1 h1) (Nat.le_trans b2 h2)) (by decide)
 unfold IntMulOk Builtin.Int.intTooBig bitsLine
 simp only [Bool.and_eq_true,decide_eq_true_eq,not_and]
 intro _
 rw [← Int.natCast_add]
 exact Int.not_lt.mpr (Int.ofNat_le.mpr h3)
theorem pow_fits {a:Int} {n:Nat} (q:Nat.ble ((Nat.log2 a.natAbs+1)*n) 67108864=true):(Builtin.Int.intBits a:Int)*(n:Int)≤2 ^ 27:=by
 rw [← Int.natCast_mul]
 exact Int.le_trans (Int.ofNat_le.mpr (Nat.le_trans (Nat.mul_le_mul_right n (bits_le a)) (ble_true.mp q))) (by decide)
theorem shl_fits {a:Int} {n:Nat} (q:Nat.ble (Nat.log2 a.natAbs+1+n) 67108864=true):(Builtin.Int.intBits a:Int)+(n:Int)≤2 ^ 27:=by
 rw [← Int.natCast_add]
 exact Int.le_trans (Int.ofNat_le.mpr (Nat.le_trans (Nat.add_le_add_right (bits_le a) n) (ble_true.mp q))) (by decide)
theorem bin_int {k:BinK} {a b:Int} {t u:Tok} {r:PV} (e:binI k a b=some r) (h:RetF cx s H fr r Q) :
  wpAny (model cx.prog cx.w) A (binaryOp (opOf k) (.int a t) (.int b u)) Q E s∧wpAny (model cx.prog cx.w) A (inplaceOp (opOf k) (.int a t) (.int b u)) Q E s:=by
 cases k with
 | add=>obtain rfl:=Option.some.inj e;exact ⟨PyProof.Rows.add_int h.int,iadd_int h.int⟩
 | sub=>obtain rfl:=Option.some.inj e;exact ⟨sub_int' h.int,isub_int h.int⟩
 | mul =>
  obtain ⟨q,rfl⟩:=og_i e
  have m:=mulOk_of ((Bool.and_eq_true _ _).mp q).1 ((Bool.and_eq_true _ _).mp q).2
  exact ⟨PyProof.Rows.mul_int h.int m,imul_int h.int m⟩
 | fdiv =>
  obtain ⟨q,rfl⟩:=ogn_i e
  obtain ⟨q1,q2⟩:=Bool.or_eq_false_iff.mp q
  exact ⟨floordiv_int (intBeq_false.mp q1) h.int (.inl q2),ifloordiv_int (intBeq_false.mp q1) h.int (.inl q2)⟩
 | mod =>
  obtain ⟨q,rfl⟩:=ogn_i e
  exact ⟨mod_int' (intBeq_false.mp q) h.int,imod_int (intBeq_false.mp q) h.int⟩
 | pow =>
  obtain ⟨n,h1,e1⟩:=ob_i e
  obtain rfl:=toNat_i h1
  obtain ⟨q,rfl⟩:=og_i e1
  exact ⟨pow_int (Int.natCast_nonneg n) (pow_fits q) h.int,ipow_int (Int.natCast_nonneg n) (pow_fits q) h.int⟩
 | shl =>
  obtain ⟨n,h1,e1⟩:=ob_i e
  obtain rfl:=toNat_i h1
  obtain ⟨q,rfl⟩:=og_i e1
  exact ⟨lshift_int (Int.natCast_nonneg n) (shl_fits q) h.int,ilshift_int (Int.natCast_nonneg n) (shl_fits q) h.int⟩
 | shr =>
  obtain ⟨n,h1,e1⟩:=ob_i e
  obtain rfl:=toNat_i h1
  obtain ⟨q,rfl⟩:=og_i e1
  exact ⟨rshift_int (Int.natCast_nonneg n) h.int,irshift_int (Int.natCast_nonneg n) h.int⟩
 | band=>obtain rfl:=Option.some.inj e;exact ⟨PyProof.Rows.and_int h.int,iand_int h.int⟩
 | bxor=>obtain rfl:=Option.some.inj e;exact ⟨PyProof.Rows.xor_int h.int,ixor_int h.int⟩
theorem S_append (a b:List Nat):S a++S b=S (a++b):=by
 show Str.append _ _=_
 simp [Str.append,S]
theorem S_length (a:List Nat):(S a).length=a.length:=by simp [Str.length]
theorem lenOk_le {α:Type} {l:List α} (h:lenOk l=true):l.length≤1000000:=ble_true.mp h
theorem sizeLine_big:(1000000:Nat)+1000000≤sizeLine:=by decide
theorem repL_length {α:Type} (l:List α):∀ n,(repL l n).length=l.length*n
 | 0=>rfl
 | n+1=>by rw [repL,List.length_append,repL_length l n,Nat.mul_succ,Nat.add_comm]
theorem repL_nil {α:Type}:∀ n,repL ([]:List α) n=[]
 | 0=>rfl
 | n+1=>by rw [repL,repL_nil n];rfl
theorem repL_fold {α:Type} (l:List α):∀ (n:Nat) (acc:Array α),(List.replicate n l.toArray).foldl (·++·) acc=acc++(repL l n).toArray
 | 0,acc=>(Array.append_empty).symm
 | n+1,acc=>by rw [List.replicate_succ,List.foldl_cons,repL_fold l n,repL,← List.append_toArray,Array.append_assoc]
theorem lens2 {α:Type} {a b:List α} (q:(lenOk a && lenOk b)=true):a.length+b.length≤sizeLine:=by
 obtain ⟨q1,q2⟩:=(Bool.and_eq_true _ _).mp q
 exact Nat.le_trans (Nat.add_le_add (lenOk_le q1) (lenOk_le q2)) sizeLine_big
theorem bin_str {a b:List Nat} {t u:Tok} {r:PV} (e:catS .str a b=some r) (h:RetF cx s H fr r Q) :
  wpAny (model cx.prog cx.w) A (binaryOp .Add (.str (S a) t) (.str (S b) u)) Q E s:=by
 obtain ⟨q,rfl⟩:=og_i e
 exact PyProof.Rows.add_str (fun t' tk=>by rw [S_append];exact h.str) (by rw [S_length,S_length];exact lens2 q)
theorem of_eq_false_b {b:Bool} (h:b=false):¬ b=true:=fun q=>Bool.false_ne_true (h.symm.trans q)
theorem big1:(1000000:Nat)≤sizeLine:=by decide
theorem mulS_i {α:Type} {mk:List α→PV} {a:List α} {i:Int} {r:PV} (e:mulS mk a i=some r):∃ n:Nat,i=n∧a.length*n≤1000000∧(n:Int)<2 ^ 63∧r=mk (repL a n):=by
 obtain ⟨n,h1,e1⟩:=ob_i e
 obtain ⟨q,e2⟩:=og_i e1
 obtain ⟨q,q3⟩:=(Bool.and_eq_true _ _).mp q
 obtain ⟨q1,q2⟩:=(Bool.and_eq_true _ _).mp q
 exact ⟨n,toNat_i h1,ble_true.mp q1,Int.lt_of_le_of_lt (Int.ofNat_le.mpr (ble_true.mp q2)) (by decide),e2.symm⟩
theorem no_less (n:Nat):¬ (n:Int) < -(2 ^ 63:Int):=Int.not_lt.mpr (Int.le_trans (by decide) (Int.natCast_nonneg n))
theorem bin_strmul {a:List Nat} {n:Int} {t u:Tok} {r:PV} (e:mulS .str a n=some r) (h:RetF cx s H fr r Q) :
  wpAny (model cx.prog cx.w) A (binaryOp .Mult (.str (S a) t) (.int n u)) Q E s:=by
 obtain ⟨n,rfl,q1,q2,rfl⟩:=mulS_i e
 refine P.mul_str (by rw [decide_eq_false (no_less n),decide_eq_false (Int.not_le.mpr q2)];rfl) (fun h1 _=>Int.not_lt.mpr ((Int.le_ediv_iff_mul_le (Int.lt_of_lt_of_le (by decide) (Int.not_lt.mp h1))).mpr ?_)) (fun h1 _=>decide_eq_false (Nat.not_lt.mpr ?_)) ?_
 ·rw [S_length,← Int.natCast_mul];exact Int.le_trans (Int.ofNat_le.mpr q1) (by decide)
 ·rw [S_length];exact Nat.le_trans q1 big1
 ·by_cases h1:(n:Int)<1
  ·rw [if_pos h1]
   obtain rfl:=Nat.lt_one_iff.mp (Int.ofNat_lt.mp h1)
   exact ⟨by decide,h.str (x:=[])⟩
  ·rw [if_neg h1]
   by_cases h2:((n:Int) == 1 || (S a).length == 0)=true
   ·rw [if_pos h2]
    have e:repL a n=a:=by
     rcases Bool.or_eq_true_iff.mp h2 with h2|h2
     ·obtain rfl:n=1:=Int.ofNat.inj (eq_of_beq h2)
      exact List.append_nil a
     ·obtain rfl:a=[]:=List.eq_nil_of_length_eq_zero ((S_length a).symm.trans (eq_of_beq h2))
      exact repL_nil n
    rw [e] at h
    exact h.str
   ·rw [if_neg h2,Int.toNat_natCast,repL_fold,Array.empty_append]
    exact ⟨by show (repL a n).toArray.size≤sizeLine;rw [List.size_toArray,repL_length];exact Nat.le_trans q1 big1,h.str⟩
end
section
variable {cx:Cx} {A:Around} {E:Value→Shared→Prop} {s:Shared} {H:Hid} {fr:Bool} {Q:Value→Shared→Prop}
theorem bin_list {v w:Value} {a b:List PV} {r:PV} (hid:∀ a,H a→Live s.heap a) (x:Rep cx s.heap H v (.list a)) (y:Rep cx s.heap H w (.list b)) (e:catS .list a b=some r) (h:RetF cx s H fr r Q) :
  wpAny (model cx.prog cx.w) A (binaryOp .Add v w) Q E s:=by
 obtain ⟨q,rfl⟩:=og_i e
 obtain ⟨_,xs,rfl,_,⟨m1,g1⟩,r1⟩:=x.list'
 obtain ⟨_,ys,rfl,_,⟨m2,g2⟩,r2⟩:=y.list'
 have z:=RetF.newList (tk:=s.toks) hid h (r1.append r2)
 refine P.add_list (n:=m1) (n2:=m2) g1 g2 ?_ (by rw [List.size_toArray,List.size_toArray,r1.length,r2.length];exact lens2 q)
 rw [List.append_toArray]
 exact z
theorem bin_listmul {v:Value} {a:List PV} {n:Int} {u:Tok} {r:PV} (hid:∀ a,H a→Live s.heap a) (x:Rep cx s.heap H v (.list a)) (e:mulS .list a n=some r) (h:RetF cx s H fr r Q) :
  wpAny (model cx.prog cx.w) A (binaryOp .Mult v (.int n u)) Q E s:=by
 obtain ⟨n,rfl,q1,q2,rfl⟩:=mulS_i e
 obtain ⟨a',vs,rfl,_,⟨m1,g1⟩,r1⟩:=x.list'
 have z:=RetF.newList (tk:=s.toks) hid h (r1.rep n)
 have hxn:((n:Nat):Int).toNat=n:=rfl
 have hX:=no_less n
 generalize ((n:Nat):Int)=X at hxn hX q2 ⊢
 have hsz2:vs.toArray.size*X.toNat≤1000000:=by
  rw [hxn,List.size_toArray,r1.length];exact q1
 have hf1:¬(!Builtin.List.listFitsIndex X)=true:=by
  unfold Builtin.List.listFitsIndex
  rw [decide_eq_true (Int.not_lt.mp hX),decide_eq_true q2];decide
 have hf3:¬Builtin.List.listTooLong (vs.toArray.size*X.toNat)=true:=of_eq_false_b (decide_eq_false (Nat.not_lt.mpr (Nat.le_trans hsz2 big1)))
 have tl:s.TypeIs (.ref a') "list":=⟨_,g1,rfl⟩
 have ti:∀ s':Shared,s'.TypeIs (.int X u) "int":=fun s'=>typeIs_int s' X u
 refine PySem.wpAny_binaryOp_repeat_ref (T:="list") (U:="int") (by decide) tl ti PySem.noFill_list_mul PySem.F.fills_int_mul PySem.F.slot_int_rmul PySem.repeat_list PySem.F.slot_int_index.lookup ?_
 refine PySem.call_meets PySem.F.slot_int_rmul (ti s) PySem.F.entry_int_rmul (PySem.F.args_int_rmul_2 _ _) (PySem.int___rmul___int_list X u a' vs.toArray m1) ⟨g1,rfl,tl,?_⟩
 refine PySem.call_meets PySem.F.slot_list_mul tl PySem.F.entry_list_mul (PySem.F.args_list_mul_2 _ _) (PySem.AutoListH.list___mul___list_int_3 a' vs.toArray m1 X u hf1 (Nat.not_lt.mpr (Nat.le_trans hsz2 (by decide))) hf3) ⟨g1,?_⟩
 have e2:List.foldl (fun x1 x2=>x1++x2) (#[]:Array Value) (List.replicate (if vs.toArray.isEmpty=true then 0 else X.toNat) vs.toArray)=(repL vs n).toArray:=by
  by_cases hv:vs=[]
  ·subst hv;rw [repL_nil];rfl
  ·rw [List.isEmpty_toArray,if_neg (fun q=>hv (List.isEmpty_iff.mp q)),hxn,repL_fold,Array.empty_append]
 rw [e2]
 exact z
end
end Mine
end
section
set_option maxRecDepth 100000
open PySem PySem.Calls PyProof.Rows PySem.W PySem.SeqAt
set_option genSizeOf false
set_option genInjectivity false
namespace Mine
section
variable {cx:Cx} {h:Heap} {H H':Hid}
theorem IsLs.inj {h:Heap} {a:Addr} {vs ws:List Value} (x:IsLs h a vs) (y:IsLs h a ws):vs=ws:=by
 obtain ⟨e,g⟩:=x
 obtain ⟨e',g'⟩:=y
 rw [g] at g'
 injection g' with g'
 injection g' with g1 g2 g3 g4
 injection g3 with g3 g5
 exact List.toArray_inj g3
theorem IsTp.inj {h:Heap} {a:Addr} {vs ws:List Value} (x:IsTp h a vs) (y:IsTp h a ws):vs=ws:=by
 obtain ⟨e,g⟩:=x
 obtain ⟨e',g'⟩:=y
 rw [g] at g'
 injection g' with g'
 injection g' with g1 g2 g3 g4
 injection g3 with g3 g5
 exact List.toArray_inj g3
theorem eqvL_same {f:PV→PV→Option Bool} (hf:∀ v p q r,Rep cx h H v p→Rep cx h H' v q→f p q=some r→r=true):∀ {vs:List Value} {a b:List PV} {r:Bool},RepAll cx h H vs a→RepAll cx h H' vs b→eqvL f a b=some r→r=true
 | _,[],[],_,_,_,e=>(Option.some.inj e).symm
 | _,[],_ :: _,_,x,y,e=>by
  obtain ⟨_,_,rfl,_⟩:=y.cons'
  cases x.nil'
 | _,_ :: _,[],_,x,y,e=>by
  obtain ⟨_,_,rfl,_⟩:=x.cons'
  cases y.nil'
 | _,p :: a,q :: b,_,x,y,e=>by
  obtain ⟨v,vs,rfl,x1,x2⟩:=x.cons'
  obtain ⟨v',vs',h1,y1,y2⟩:=y.cons'
  obtain ⟨rfl,rfl⟩:=List.cons.inj h1
  obtain ⟨i,h2,e1⟩:=ob_i e
  obtain ⟨j,h3,e2⟩:=ob_i e1
  rw [← Option.some.inj e2,hf _ _ _ _ x1 y1 h2,eqvL_same hf x2 y2 h3];rfl
theorem eqv_same:∀ (n:Nat) (v:Value) (p q:PV) (r:Bool),Rep cx h H v p→Rep cx h H' v q→eqv n p q=some r→r=true
 | 0,_,_,_,_,_,_,e=>(Option.some_ne_none _ e.symm).elim
 | n+1,v,p,q,r,x,y,e=>by
  cases p with
  | bool b =>
   obtain ⟨c,h1,e1⟩:=ob_i e
   have h2:=Value.bool.inj (x.bool'.symm.trans (y.toBool h1))
   rw [← Option.some.inj e1,h2,beq_self_eq_true]
  | int i =>
   obtain ⟨c,h1,e1⟩:=ob_i e
   obtain ⟨t,h2⟩:=x.int'
   obtain ⟨u,h3⟩:=y.toInt h1
   rw [← Option.some.inj e1,(Value.int.inj (h2.symm.trans h3)).1,intBeq_iff]
  | str i =>
   obtain ⟨c,h1,e1⟩:=ob_i e
   obtain ⟨t,h2⟩:=x.str'
   obtain ⟨u,h3⟩:=y.toStr h1
   rw [← Option.some.inj e1,S_inj.mp (Value.str.inj (h2.symm.trans h3)).1,beqL_iff]
  | list i =>
   obtain ⟨c,h1,e1⟩:=ob_i e
   obtain ⟨a,vs,h2,_,l,xs⟩:=x.list'
   obtain ⟨b,ws,h3,_,l',ys⟩:=y.toList h1
   obtain rfl:=Value.ref.inj (h2.symm.trans h3)
   obtain rfl:=l.inj l'
   exact eqvL_same (eqv_same n) xs ys e1
  | tup i =>
   obtain ⟨c,h1,e1⟩:=ob_i e
   obtain ⟨a,vs,h2,_,l,xs⟩:=x.tup'
   obtain ⟨b,ws,h3,_,l',ys⟩:=y.toTup h1
   obtain rfl:=Value.ref.inj (h2.symm.trans h3)
   obtain rfl:=l.inj l'
   exact eqvL_same (eqv_same n) xs ys e1
  | _=>exact (Option.some_ne_none _ e.symm).elim
end
structure ItemsEq (A:Around) (s:Shared) (vs ws:List Value) (r:Bool) (e:Nat→Bool):Prop where
 at':∀ j v w,vs[j]?=some v→ws[j]?=some w→EqAt A s v w (e j)
 yes:vs.length=ws.length→r=(List.range vs.length).all e
 no:vs.length ≠ ws.length→r=false
section
variable {cx:Cx} {H H':Hid}
theorem items_eq {A:Around} {s:Shared} {f:PV→PV→Option Bool} (ih:∀ v w p q r,Rep cx s.heap H v p→Rep cx s.heap H' w q→f p q=some r→EqAt A s v w r):∀ {a b:List PV} {vs ws:List Value} {r:Bool},RepAll cx s.heap H vs a→RepAll cx s.heap H' ws b→eqvL f a b=some r→∃ e,ItemsEq A s vs ws r e
 | [],[],_,_,_,x,y,e=>by
  obtain rfl:=x.nil'
  obtain rfl:=y.nil'
  exact ⟨fun _=>true,⟨fun _ _ _ h=>(Option.some_ne_none _ h.symm).elim,fun _=>(Option.some.inj e).symm,fun h=>(h rfl).elim⟩⟩
 | [],_ :: _,_,_,_,x,y,e=>by
  obtain rfl:=x.nil'
  obtain ⟨_,_,rfl,_⟩:=y.cons'
  exact ⟨fun _=>true,⟨fun _ _ _ h=>(Option.some_ne_none _ h.symm).elim,fun h=>(Nat.succ_ne_zero _ h.symm).elim,fun _=>(Option.some.inj e).symm⟩⟩
 | _ :: _,[],_,_,_,x,y,e=>by
  obtain rfl:=y.nil'
  obtain ⟨_,_,rfl,_⟩:=x.cons'
  exact ⟨fun _=>true,⟨fun _ _ _ _ h=>(Option.some_ne_none _ h.symm).elim,fun h=>(Nat.succ_ne_zero _ h).elim,fun _=>(Option.some.inj e).symm⟩⟩
 | p :: a,q :: b,_,_,_,x,y,e=>by
  obtain ⟨v,vs,rfl,x1,x2⟩:=x.cons'
  obtain ⟨w,ws,rfl,y1,y2⟩:=y.cons'
  obtain ⟨i,h2,e1⟩:=ob_i e
  obtain ⟨j,h3,e2⟩:=ob_i e1
  obtain ⟨g,k1,k2,k3⟩:=items_eq ih x2 y2 h3
  refine ⟨fun j=>match j with|0=>i|j+1=>g j,⟨fun j v' w' a1 a2=>?_,fun hl=>?_,fun hl=>?_⟩⟩
  ·cases j with
   | zero=>exact Option.some.inj a1 ▸ Option.some.inj a2 ▸ ih _ _ _ _ _ x1 y1 h2
   | succ j=>exact k1 j v' w' a1 a2
  ·rw [← Option.some.inj e2,k2 (Nat.succ.inj hl),List.length_cons,List.range_succ_eq_map,List.all_cons,List.all_map]
   rfl
  ·rw [← Option.some.inj e2,k3 (fun z=>hl (congrArg Nat.succ z)),Bool.and_false]
variable {A:Around} {s:Shared} {a b:Addr} {vs ws:List Value} {r:Bool} {e:Nat→Bool}
theorem ItemsEq.arr (K:ItemsEq A s vs ws r e):∀ j (h1:j<vs.toArray.size) (h2:j<ws.toArray.size),EqAt A s vs.toArray[j] ws.toArray[j] (e j):=fun j h1 h2=>K.at' j _ _ (List.getElem?_eq_getElem h1) (List.getElem?_eq_getElem h2)
theorem eqAt_list (K:ItemsEq A.in1 s vs ws r e) (l1:IsLs s.heap a vs) (l2:IsLs s.heap b ws) (hu:A.units<cLine):RcAt A s (.ref a) (.ref b) r∧RcNeAt A s (.ref a) (.ref b) (!r):=by
 by_cases hl:vs.length=ws.length
 ·rw [K.yes hl]
  exact ⟨RcAt.lists l1.isList l2.isList hl hu K.arr,RcNeAt.lists l1.isList l2.isList hl hu K.arr⟩
 ·rw [K.no hl]
  exact ⟨RcAt.lists_lengths l1.isList l2.isList (bne_iff_ne.mpr hl) hu,RcNeAt.lists_lengths l1.isList l2.isList (bne_iff_ne.mpr hl) hu⟩
theorem eqAt_tup (K:ItemsEq A.in1 s vs ws r e) (l1:IsTp s.heap a vs) (l2:IsTp s.heap b ws) (hu:A.units<cLine):RcAt A s (.ref a) (.ref b) r∧RcNeAt A s (.ref a) (.ref b) (!r):=by
 have t1:s.heap.IsTuple a vs.toArray:=l1.isTup
 have t2:s.heap.IsTuple b ws.toArray:=l2.isTup
 have hr:((List.range (min vs.toArray.size ws.toArray.size)).all e && vs.toArray.size == ws.toArray.size)=r:=by
  show ((List.range (min vs.length ws.length)).all e && vs.length == ws.length)=r
  by_cases hl:vs.length=ws.length
  ·rw [K.yes hl,← hl,Nat.min_self,beq_self_eq_true,Bool.and_true]
  ·rw [K.no hl,beq_false_of_ne hl,Bool.and_false]
 exact ⟨hr ▸ RcAt.tuples t1 t2 hu K.arr,hr ▸ RcNeAt.tuples t1 t2 hu K.arr⟩
theorem eq_all:∀ (n:Nat) {A:Around} {s:Shared} {v w:Value} {p q:PV} {r:Bool},Rep cx s.heap H v p→Rep cx s.heap H' w q→eqv n p q=some r→A.units+n<cLine→EqAt A s v w r∧RcAt A s v w r∧RcNeAt A s v w (!r)
 | 0,_,_,_,_,_,_,_,_,_,e,_=>(Option.some_ne_none _ e.symm).elim
 | n+1,A,s,v,w,p,q,r,x,y,e,hu=>by
  have hu1:A.units<cLine:=Nat.lt_of_le_of_lt (Nat.le_add_right _ _) hu
  have ih:∀ v w p q r,Rep cx s.heap H v p→Rep cx s.heap H' w q→eqv n p q=some r→EqAt A.in1 s v w r:=fun v w p q r x y e =>
   (eq_all n (A:=A.in1) x y e (by show A.units+1+n<cLine;rw [Nat.add_right_comm];exact hu)).1
  have same:∀ (a b:Addr),v=.ref a→w=.ref b→RcAt A s (.ref a) (.ref b) r→EqAt A s (.ref a) (.ref b) r:=fun a b h1 h2 h=>by
   by_cases hab:a=b
   ·subst hab
    rw [eqv_same (n+1) _ _ _ _ (h1 ▸ x) (h2 ▸ y) e]
    exact EqAt.same _
   ·exact EqAt.of_refs hab h
  cases p with
  | bool b =>
   obtain ⟨c,h1,e1⟩:=ob_i e
   obtain rfl:=x.bool'
   obtain rfl:=y.toBool h1
   obtain rfl:=Option.some.inj e1
   exact ⟨EqAt.bool_bool _ _,fun prog w E Q h=>PyProof.Rows.eq_bool h,RcNeAt.bool_bool _ _⟩
  | int i =>
   obtain ⟨c,h1,e1⟩:=ob_i e
   obtain ⟨t,rfl⟩:=x.int'
   obtain ⟨u,rfl⟩:=y.toInt h1
   obtain rfl:=Option.some.inj e1
   rw [intBeq_eq]
   exact ⟨EqAt.int_int _ _ _ _,fun prog w E Q h=>PyProof.Rows.eq_int h,RcNeAt.int_int _ _ _ _⟩
  | str i =>
   obtain ⟨c,h1,e1⟩:=ob_i e
   obtain ⟨t,rfl⟩:=x.str'
   obtain ⟨u,rfl⟩:=y.toStr h1
   obtain rfl:=Option.some.inj e1
   rw [beqL_S]
   exact ⟨EqAt.str_str _ _ _ _,fun prog w E Q h=>PyProof.Rows.eq_str h,RcNeAt.str_str _ _ _ _⟩
  | list i =>
   obtain ⟨c,h1,e1⟩:=ob_i e
   obtain ⟨a,vs,h2,_,l,xs⟩:=x.list'
   obtain ⟨b,ws,h3,_,l',ys⟩:=y.toList h1
   obtain ⟨g,K⟩:=items_eq ih xs ys e1
   have:=eqAt_list K l l' hu1
   rw [h2,h3]
   exact ⟨same a b h2 h3 this.1,this⟩
  | tup i =>
   obtain ⟨c,h1,e1⟩:=ob_i e
   obtain ⟨a,vs,h2,_,l,xs⟩:=x.tup'
   obtain ⟨b,ws,h3,_,l',ys⟩:=y.toTup h1
   obtain ⟨g,K⟩:=items_eq ih xs ys e1
   have:=eqAt_tup K l l' hu1
   rw [h2,h3]
   exact ⟨same a b h2 h3 this.1,this⟩
  | _=>exact (Option.some_ne_none _ e.symm).elim
theorem rcAt (n:Nat) {A:Around} {s:Shared} {v w:Value} {p q:PV} {r:Bool} (x:Rep cx s.heap H v p) (y:Rep cx s.heap H' w q) (e:eqv n p q=some r) (hu:A.units+n<cLine):RcAt A s v w r:=(eq_all n x y e hu).2.1
theorem rcNeAt (n:Nat) {A:Around} {s:Shared} {v w:Value} {p q:PV} {r:Bool} (x:Rep cx s.heap H v p) (y:Rep cx s.heap H' w q) (e:eqv n p q=some r) (hu:A.units+n<cLine):RcNeAt A s v w (!r):=(eq_all n x y e hu).2.2
end
section
variable {cx:Cx} {H H':Hid}
noncomputable def isI (x:Int) (y:Value):Bool:=match y with | .int z _=>z == x|_=>false
theorem hasInt_eqs {A:Around} {s:Shared} {x:Int} {t:Tok}:∀ {ps:List PV} {vs:List Value} {r:Bool},RepAll cx s.heap H vs ps→hasInt x ps=some r→(∀ y∈vs,EqAt A s y (.int x t) (isI x y))∧r=vs.any (isI x)
 | [],_,_,a,e=>by
  obtain rfl:=a.nil'
  exact ⟨fun _ h=>(List.not_mem_nil h).elim,(Option.some.inj e).symm⟩
 | p :: ps,_,_,a,e=>by
  obtain ⟨v,vs,rfl,a1,a2⟩:=a.cons'
  obtain ⟨y,h1,e1⟩:=ob_i e
  obtain ⟨b,h2,e2⟩:=ob_i e1
  obtain ⟨u,rfl⟩:=a1.toInt h1
  obtain ⟨k1,k2⟩:=hasInt_eqs (A:=A) (t:=t) a2 h2
  refine ⟨fun z hz=>?_,?_⟩
  ·rcases List.mem_cons.mp hz with rfl|hz
   ·exact EqAt.int_int _ _ _ _
   ·exact k1 z hz
  ·rw [List.any_cons,← k2,← Option.some.inj e2,intBeq_eq]
   rfl
theorem at_has {x:List Nat}:∀ {kvs:List (Str × Value)} {ks:List (List Nat)},kvs.map (·.1)=ks.map S→(valueAt kvs (S x)).isSome=hasKey x ks
 | [],[],_=>rfl
 | [],_ :: _,e=>by cases e
 | _ :: _,[],e=>by cases e
 | (k,v) :: kvs,y :: ks,e=>by
  simp only [List.map_cons,List.cons.injEq] at e
  have ih:=at_has (x:=x) e.2
  obtain rfl:k=S y:=e.1
  unfold valueAt at ih ⊢
  unfold hasKey at ih ⊢
  rw [List.find?_cons,List.any_cons,← ih]
  by_cases q:x=y
  ·subst q
   simp [beqL_iff.mpr rfl]
  ·have h1:beqL x y=false:=by rw [← Bool.not_eq_true,beqL_iff];exact q
   have h2:¬ (S y=S x):=fun z=>q (S_inj.mp z).symm
   simp [h1,h2]
theorem at_get {x:List Nat} {cx:Cx} {h:Heap} {H:Hid} {p:PV}:∀ {kvs:List (Str × Value)} {ks:List (List Nat)} {ps:List PV},kvs.map (·.1)=ks.map S→RepAll cx h H (kvs.map (·.2)) ps→dictGet x ks ps=some p→∃ v,valueAt kvs (S x)=some v∧Rep cx h H v p
 | [],[],_,_,r,e=>by
  cases r.vnil'
  exact (Option.some_ne_none _ e.symm).elim
 | [],_ :: _,_,e,_,_=>by cases e
 | _ :: _,[],_,e,_,_=>by cases e
 | (k,v) :: kvs,y :: ks,ps,e,r,hg=>by
  simp only [List.map_cons,List.cons.injEq] at e
  obtain rfl:k=S y:=e.1
  obtain ⟨p',ps',rfl,a,l⟩:=r.vcons'
  have hg:(match beqL x y with|true=>some p' | false=>dictGet x ks ps')=some p:=hg
  unfold valueAt
  rw [List.find?_cons]
  cases q:beqL x y with
  | true =>
   rw [q] at hg
   obtain rfl:=Option.some.inj hg
   obtain rfl:=beqL_iff.mp q
   exact ⟨v,by rw [decide_eq_true rfl];rfl,a⟩
  | false =>
   rw [q] at hg
   have h2:¬ (S y=S x):=fun z=>by rw [S_inj.mp z,beqL_iff.mpr rfl] at q;cases q
   obtain ⟨w,h3,h4⟩:=at_get e.2 l hg
   exact ⟨w,by rw [decide_eq_false h2];exact h3,h4⟩
end
end Mine
end
section
set_option maxRecDepth 100000
open PySem PySem.Calls PyProof.Rows PySem.W PySem.SeqAt
set_option genSizeOf false
set_option genInjectivity false
namespace Mine
noncomputable def copOf:CmpK→CmpOp
 | .eq=>.Eq | .ne=>.NotEq | .lt=>.Lt | .le=>.LtE | .ge=>.GtE | .is_=>.Is | .isNot=>.IsNot | .in_=>.In
section
variable {cx:Cx} {A:Around} {E:Value→Shared→Prop} {s:Shared} {H H':Hid} {Q:Value→Shared→Prop}
theorem in_ok {v w:Value} {p q:PV} {b:Bool} (bH:∀ a,cx.B a→H' a) (x:Rep cx s.heap H v p) (y:Rep cx s.heap H' w q) (e:inV p q=some b) (h:∀ tk,Q (.bool b) { s with toks:=tk }) :
  wpAny (model cx.prog cx.w) A (compareOp .In v w) Q E s:=by
 cases p with
 | str a =>
  obtain ⟨t,rfl⟩:=x.str'
  obtain ⟨k,h0,e1⟩:=ob_i e
  obtain ⟨d,kvs,rfl,n,g,k,_⟩:=(dict_i h0 ▸ y).dict'
  obtain rfl:=Option.some.inj e1
  rw [← at_has k] at h
  exact wpAny_in_of (knd:=strKind cx.prog cx.w) (k:=S a) (strKind_is cx.prog cx.w _ _) (beq_false_of_ne fun z=>n (bH _ (z ▸ cx.sysB))) g.mapOf (h _)
 | int a =>
  obtain ⟨t,rfl⟩:=x.int'
  obtain ⟨l,h0,e1⟩:=ob_i e
  obtain ⟨c,vs,rfl,_,l,r⟩:=y.toList h0
  obtain ⟨h1,rfl⟩:=hasInt_eqs (A:=A.in1) (t:=t) r e1
  rw [← List.any_toArray] at h
  exact in_listAt _ l.isList (fun y hy=>h1 y (List.mem_toArray.mp hy)) (h s.toks)
 | _=>exact (Option.some_ne_none _ e.symm).elim
theorem notNone_ok {v:Value} {p:PV} {b:Bool} (x:Rep cx s.heap H v p) (e:notNone p=some b) (h:Q (.bool b) s):wpAny (model cx.prog cx.w) A (compareOp .IsNot v .none) Q E s:=by
 cases p with
 | none =>
  obtain rfl:=x.none'
  obtain rfl:=Option.some.inj e
  exact isNot_none h
 | str y =>
  obtain ⟨t,rfl⟩:=x.str'
  obtain rfl:=Option.some.inj e
  exact isNot_none h
 | _=>exact (Option.some_ne_none _ e.symm).elim
theorem not_lt_le {a b:Int}:(!intLt b a)=decide (a≤b):=by
 rw [intLt_eq,← decide_not]
 exact decide_eq_decide.mpr Int.not_lt
theorem cmpI_i {f:Int→Int→Bool} {v w:Value} {p q:PV} {b:Bool} (x:Rep cx s.heap H v p) (y:Rep cx s.heap H' w q) (e:cmpI f p q=some b):∃ i j t u,v=.int i t∧w=.int j u∧b=f i j:=by
 obtain ⟨i,h1,e1⟩:=ob_i e
 obtain ⟨j,h2,e2⟩:=ob_i e1
 obtain ⟨t,h3⟩:=x.toInt h1
 obtain ⟨u,h4⟩:=y.toInt h2
 exact ⟨i,j,t,u,h3,h4,(Option.some.inj e2).symm⟩
theorem cmpB_i {f:Bool→Bool→Bool} {v w:Value} {p q:PV} {b:Bool} (x:Rep cx s.heap H v p) (y:Rep cx s.heap H' w q) (e:cmpB f p q=some b):∃ i j,v=.bool i∧w=.bool j∧b=f i j:=by
 obtain ⟨i,h1,e1⟩:=ob_i e
 obtain ⟨j,h2,e2⟩:=ob_i e1
 exact ⟨i,j,x.toBool h1,y.toBool h2,(Option.some.inj e2).symm⟩
theorem units6 {a:Nat} (h:a+8<cLine):a+6<cLine:=Nat.lt_of_succ_lt (Nat.lt_of_succ_lt h)
theorem cmp_ok {k:CmpK} {v w:Value} {p q:PV} {b:Bool} (bH:∀ a,cx.B a→H' a) (hu:A.units+8<cLine) (x:Rep cx s.heap H v p) (y:Rep cx s.heap H' w q) (e:cmpV k p q=some b)
  (h:∀ tk,Q (.bool b) { s with toks:=tk }):wpAny (model cx.prog cx.w) A (compareOp (copOf k) v w) Q E s:=by
 have h0:Q (.bool b) s:=h s.toks
 cases k with
 | eq=>exact EqBoolInt.of_rc (rcAt 6 x y e (units6 hu)) h0
 | ne =>
  obtain ⟨c,e1,e2⟩:=ob_i e
  exact EqBoolInt.of_rcne (rcNeAt 6 x y e1 (units6 hu)) (Option.some.inj e2 ▸ h0)
 | in_=>exact in_ok bH x y e h
 | is_ =>
  obtain ⟨i,j,rfl,rfl,rfl⟩:=cmpB_i x y e
  exact is_bool h0
 | isNot =>
  cases q with
  | none =>
   obtain rfl:=y.none'
   exact notNone_ok x e h0
  | bool =>
   obtain ⟨i,j,rfl,rfl,rfl⟩:=cmpB_i x y e
   exact isnot_bool h0
  | _ =>
   obtain ⟨i,_,e1⟩:=ob_i e
   exact (Option.some_ne_none _ e1.symm).elim
 | lt =>
  obtain ⟨i,j,t,u,rfl,rfl,rfl⟩:=cmpI_i x y e
  exact PyProof.Rows.lt_int (intLt_eq ▸ h0)
 | le =>
  obtain ⟨i,j,t,u,rfl,rfl,rfl⟩:=cmpI_i x y e
  exact PyProof.Rows.le_int (not_lt_le ▸ h0)
 | ge =>
  obtain ⟨i,j,t,u,rfl,rfl,rfl⟩:=cmpI_i x y e
  exact PyProof.Rows.ge_int (not_lt_le ▸ h0)
theorem lenOk_63 {α:Type} {l:List α} (h:lenOk l=true):(l.length:Int)<2 ^ 63:=Int.lt_of_le_of_lt (Int.ofNat_le.mpr (lenOk_le h)) (by decide)
theorem RepAll.fit {vs:List Value} {ps:List PV} (r:RepAll cx s.heap H vs ps) (h:lenOk ps=true):(vs.toArray.size:Int)<2 ^ 63:=by
 have:=lenOk_63 h
 rwa [← r.length] at this
theorem RepAll.isE {vs:List Value} {ps:List PV} (r:RepAll cx s.heap H vs ps):ps.isEmpty=vs.toArray.isEmpty:=by
 cases ps with
 | nil=>obtain rfl:=r.nil';rfl
 | cons p ps=>obtain ⟨v,ws,rfl,_⟩:=r.cons';rfl
theorem truth_ok {v:Value} {p:PV} {b:Bool} {Q:Bool→Shared→Prop} (x:Rep cx s.heap H v p) (e:truthV p=some b)
  (h:∀ tk,Q b { s with toks:=tk }):wpAny (model cx.prog cx.w) A (truthy v) Q E s:=by
 cases p with
 | bool c =>
  obtain rfl:=x.bool'
  obtain rfl:=Option.some.inj e
  exact wpAny_truthy_bool (h s.toks)
 | int i =>
  obtain ⟨t,rfl⟩:=x.int'
  obtain rfl:=Option.some.inj e
  exact PySem.P.truthy_int (by have:=h s.toks;rwa [intBeq_eq] at this)
 | list l =>
  obtain ⟨a,vs,rfl,_,ls,r⟩:=x.list'
  obtain ⟨h1,rfl⟩:=og_i e
  exact wpAny_truthy_list ls.isList (r.fit h1) (r.isE ▸ h _)
 | tup l =>
  obtain ⟨a,vs,rfl,_,ls,r⟩:=x.tup'
  obtain ⟨h1,rfl⟩:=og_i e
  exact PyProof.Rows.truthy_tuple ls.isTup (r.fit h1) (r.isE ▸ h _)
 | _=>exact (Option.some_ne_none _ e.symm).elim
end
end Mine
end
section
set_option maxRecDepth 100000
open PySem PySem.Calls PyProof.Rows PySem.W
set_option genSizeOf false
set_option genInjectivity false
namespace Mine
theorem place_some {i:Int} {n k:Nat} (h:place i n=some k):k<n∧((0≤i∧i.toNat=k)∨(i<0 ∧ -(n:Int)≤i∧(i+n).toNat=k)):=by
 cases i with
 | ofNat m =>
  obtain ⟨h1,rfl⟩:=og_i h
  exact ⟨blt_true.mp h1,.inl ⟨Int.natCast_nonneg _,rfl⟩⟩
 | negSucc m =>
  obtain ⟨h1,rfl⟩:=og_i h
  have q:=blt_true.mp h1
  exact ⟨Nat.sub_lt (Nat.lt_of_le_of_lt (Nat.zero_le _) q) (Nat.succ_pos m),.inr ⟨Int.negSucc_lt_zero _,Int.neg_le_neg (Int.ofNat_le.mpr q),congrArg Int.toNat (Int.subNatNat_of_le q)⟩⟩
theorem seqIndex_of_place {i:Int} {n k:Nat} (h:place i n=some k):seqIndex? i n=some k:=by
 obtain ⟨h1,h2⟩:=place_some h
 rcases h2 with ⟨h2,h3⟩|⟨h2,h3,h4⟩
 ·rw [← h3]
  exact PySem.seqIndex_of h2 ((Int.toNat_lt h2).mp (h3 ▸ h1))
 ·rw [← h4]
  exact PySem.seqIndex_neg h2 h3
theorem seat_i {α:Type} {i:Int} {l:List α} {k:Nat} (h:seat i l=some k):place i l.length=some k∧l.length≤1000000:=by
 obtain ⟨m,h1,e1⟩:=ob_i h
 obtain ⟨h2,rfl⟩:=og_i e1
 exact ⟨h1,lenOk_le h2⟩
theorem seat_lt {i:Int} {n k:Nat} (h:place i n=some k) (hn:n≤1000000):-9223372036854775808≤i∧i<9223372036854775808:=by
 have hN:(n:Int)≤1000000:=Int.ofNat_le.mpr hn
 obtain ⟨h1,⟨h2,h3⟩|⟨h2,h3,h4⟩⟩:=place_some h
 ·exact ⟨Int.le_trans (by decide) h2,Int.lt_of_lt_of_le ((Int.toNat_lt h2).mp (h3 ▸ h1)) (Int.le_trans hN (by decide))⟩
 ·exact ⟨Int.le_trans (Int.le_trans (by decide) (Int.neg_le_neg hN)) h3,Int.lt_trans h2 (by decide)⟩
section
variable {cx:Cx} {A:Around} {E:Value→Shared→Prop} {s:Shared} {H H':Hid} {Q:Value→Shared→Prop}
theorem idx_ok {value slice:Expr} {v w:Value} {p q r:PV} (x:Rep cx s.heap H v p) (y:Rep cx s.heap H' w q) (e:idxV p q=some r)
  (hs:∀ o i,subscripted slice false o i=operate [o,i] (getItem o i)) (h:∀ v' tk,Rep cx s.heap H v' r→Q v' { s with toks:=tk }) :
  wpAny (model cx.prog cx.w) A (subscriptTail value slice v w) Q E s:=by
 cases p with
 | list l =>
  obtain ⟨i,k1,e1⟩:=ob_i e
  obtain ⟨t,rfl⟩:=y.toInt k1
  obtain ⟨k,k2,e2⟩:=ob_i e1
  obtain ⟨hk,hl⟩:=seat_i k2
  obtain ⟨a,vs,rfl,_,l1,xs⟩:=x.list'
  obtain ⟨v',g1,g2⟩:=xs.get e2
  obtain ⟨i1,i2⟩:=seat_lt hk hl
  refine tail_any l1.isList.typeIs slot_list_getitem.lookup ?_ (hs _ _)
  rcases (place_some hk).2 with ⟨h2,h3⟩|⟨h2,h3,h4⟩
  ·exact wpAny_getItem_list l1.isList h2 i2 (x:=v') (by rw [h3,List.getElem?_toArray];exact g1) (h v' s.toks g2)
  ·exact wpAny_getItem_list_neg l1.isList h2 (by rw [List.size_toArray,xs.length];exact h3) i1 (x:=v') (by rw [List.size_toArray,xs.length,h4,List.getElem?_toArray];exact g1) (h v' s.toks g2)
 | tup l =>
  obtain ⟨i,k1,e1⟩:=ob_i e
  obtain ⟨t,rfl⟩:=y.toInt k1
  obtain ⟨k,k2,e2⟩:=ob_i e1
  obtain ⟨hk,hl⟩:=seat_i k2
  obtain ⟨a,vs,rfl,_,l1,xs⟩:=x.tup'
  obtain ⟨v',g1,g2⟩:=xs.get e2
  obtain ⟨i1,i2⟩:=seat_lt hk hl
  exact item_tupleT l1.isTup i1 i2 (j:=k) (x:=v') (by rw [xs.length];exact seqIndex_of_place hk) g1 (h v' s.toks g2) (hs _ _)
 | dict ks ps =>
  obtain ⟨a,k1,e1⟩:=ob_i e
  obtain ⟨t,rfl⟩:=y.toStr k1
  obtain ⟨d,kvs,rfl,_,g,k,xs⟩:=x.dict'
  obtain ⟨v',g1,g2⟩:=at_get k xs e1
  exact tail_any g.mapOf.typeIs slot_dict_getitem.lookup (wpAny_getItem_of (knd:=strKind cx.prog cx.w) (k:=S a) (strKind_is cx.prog cx.w _ _) g.mapOf g1 (h v' _ g2)) (hs _ _)
 | _=>exact (Option.some_ne_none _ e.symm).elim
theorem part_is {h:Heap} {v:Value} {p:PV} {o:Option Int} (x:Rep cx h H v p) (e:part? p=some o):IsPart v o:=by
 cases p with
 | none =>
  obtain rfl:=x.none'
  obtain rfl:=Option.some.inj e
  exact .none
 | int i =>
  obtain ⟨t,rfl⟩:=x.int'
  obtain rfl:=Option.some.inj e
  exact .int _ _
 | _=>exact (Option.some_ne_none _ e.symm).elim
theorem step_is {h:Heap} {v:Value} {p:PV} {o:Option Int} (x:Rep cx h H v p) (e:step? p=some o):IsPart v o∧o ≠ some 0:=by
 cases p with
 | none =>
  obtain rfl:=x.none'
  obtain rfl:=Option.some.inj e
  exact ⟨.none,fun h=>Option.some_ne_none _ h.symm⟩
 | int i =>
  obtain ⟨t,rfl⟩:=x.int'
  obtain ⟨q,rfl⟩:=ogn_i e
  exact ⟨.int _ _,fun h=>intBeq_false.mp q (Option.some.inj h)⟩
 | _=>exact (Option.some_ne_none _ e.symm).elim
theorem RepAll.places {h:Heap} {vs:List Value} {ps:List PV} (x:RepAll cx h H vs ps):∀ js:List Nat,RepAll cx h H (js.filterMap (vs[·]?)) (js.filterMap (ps[·]?))
 | []=>.nil
 | j :: js=>by
  have ih:=x.places js
  cases hn:ps[j]? with
  | some n =>
   obtain ⟨v,e1,e2⟩:=x.get hn
   simp only [List.filterMap_cons,hn,e1]
   exact .cons e2 ih
  | none =>
   have hv:vs[j]?=none:=by
    rw [List.getElem?_eq_none_iff] at hn ⊢
    rw [x.length];exact hn
   simp only [List.filterMap_cons,hn,hv]
   exact ih
theorem pick_eq {vs:List Value} {lo hi st:Option Int}:slicePick vs.toArray lo hi st=(pickL vs lo hi st).toArray:=by
 simp [slicePick,pickL]
theorem RepAll.pick {h:Heap} {vs:List Value} {ps:List PV} (x:RepAll cx h H vs ps) (lo hi st:Option Int):RepAll cx h H (pickL vs lo hi st) (pickL ps lo hi st):=by
 unfold pickL
 rw [x.length]
 exact x.places _
theorem slice_ok {value slice:Expr} {v va vb vc:Value} {p a b c r:PV} {ops:List Value} {fr:Bool} (hid:∀ a,H a→Live s.heap a) (x:Rep cx s.heap H v p) (xa:Rep cx s.heap H va a) (xb:Rep cx s.heap H vb b) (xc:Rep cx s.heap H vc c) (e:sliceV p a b c=some r)
  (hs:subscripted slice false v (.ref s.heap.objs.size)=operate ops (getItem v (.ref s.heap.objs.size))) (h:RetF cx s H fr r Q) :
  wpAny (model cx.prog cx.w) A (subscriptTail value slice v (.ref s.heap.objs.size)) Q E { s with heap:=s.heap.push { cls:=.type "slice",data:=.fields #[va,vb,vc] } }:=by
 obtain ⟨l,hlp,k0⟩:=ob_i e
 obtain ⟨a',ha,k1⟩:=ob_i k0
 obtain ⟨b',hb,k2⟩:=ob_i k1
 obtain ⟨c',hc,k3⟩:=ob_i k2
 obtain ⟨hl,rfl⟩:=og_i k3
 obtain ⟨_,vs,rfl,_,l0,xs⟩:=x.toList hlp
 obtain ⟨pc,pc0⟩:=step_is xc hc
 have e1:Ext cx cx.T s.heap (s.heap.push { cls:=.type "slice",data:=.fields #[va,vb,vc] }):=.push _
 have l1:IsLs (s.heap.push { cls:=.type "slice",data:=.fields #[va,vb,vc] }) _ _:=⟨_,Heap.get?_push_of_some _ l0.choose_spec⟩
 refine tail_any (Heap.IsList.typeIs (s:={ s with heap:=s.heap.push { cls:=.type "slice",data:=.fields #[va,vb,vc] } }) l1.isList) slot_list_getitem.lookup
  (wpAny_getItem_list_slice l1.isList (Heap.IsSliceOf.new ..) (part_is xa ha) (part_is xb hb) pc pc0 ?_ (by rw [List.size_toArray,xs.length];exact Nat.le_trans (lenOk_le hl) (Nat.le_trans (Nat.le_add_right _ _) sizeLine_big))) hs
 rw [pick_eq]
 refine RetF.newList (s:={ s with heap:=s.heap.push { cls:=.type "slice",data:=.fields #[va,vb,vc] } }) (tk:=s.toks) (fr:=fr) (fun a q=>e1.live a (hid a q)) (fun v h' tk' e2 r2 f2=>?_) ((xs.pick a' b' c').map fun a o n g=>⟨n,Heap.get?_push_of_some _ g⟩)
 refine h v h' tk' (e1.trans e2) r2 fun q ps eq=>?_
 obtain ⟨D,vs,z1,nl,r⟩:=f2 q ps eq
 exact ⟨D,vs,z1,fun w=>nl (e1.live _ w),r⟩
end
end Mine
end
section
set_option maxRecDepth 100000
open PySem PySem.Calls PyProof.Rows PySem.W
set_option genSizeOf false
set_option genInjectivity false
namespace Mine
noncomputable abbrev Ns:=List (Str × NameKind)
noncomputable def biNm:BI→Option (Str × Value)
 | .len=>some ("len",.builtin "len")
 | .ord=>some ("ord",.builtin "ord")
 | .chr=>some ("chr",.builtin "chr")
 | .sum=>some ("sum",.builtin "sum")
 | .max=>some ("max",.builtin "max")
 | .hex=>some ("hex",.builtin "hex")
 | .divmod=>some ("divmod",.builtin "divmod")
 | .tuple=>some ("tuple",.type "tuple")
 | _=>none
noncomputable def mkNm:MK→Str
 | .join=>"join" | .split=>"split" | .bitLength=>"bit_length" | .upper=>"upper" | .lower=>"lower"
noncomputable def atNames:List Str:=["raw","n","nt","norm","is_simple"]
noncomputable def plainStar (e:Expr):Prop:=∀ rest env,starEach (e :: rest) env=(false,eval e env) :: starEach rest env
inductive CTg:Ns→Expr→List Nat→Bool→Prop
 | one {ns:Ns} {x:Str} {k:Nat} {p:Pos}:okN x=true→enc x=k→(ns.lookup x=some .local∨ns.lookup x=some .cell)→CTg ns (.Name x p) [k] true
 | many {ns:Ns} {xs:List (Str × Pos)} {ks:List Nat} {m:Nat} {p:Pos}:(∀ x∈xs,okN x.1=true∧(ns.lookup x.1=some .local∨ns.lookup x.1=some .cell))→xs.map (fun x=>enc x.1)=ks→xs ≠ [] →
   CTg ns (.Tuple (xs.map fun x=>.Name x.1 x.2) m p) ks false
structure CompOk (ns:Ns) (scope:Scope) (caps:List Nat):Prop where
 kind:scope.kind=.function
 cell:∀ y∈scope.names,y.2 ≠ .cell
 names:∀ y∈scope.names,y.2=.local→scope.names.lookup y.1=some .local
 free:∀ y∈scope.names,y.2=.free→ns.lookup y.1=some .cell∨ns.lookup y.1=some .free
 caps:∃ fr:List Str,caps=fr.map enc∧∀ y∈fr,okN y=true∧scope.names.lookup y=some .free
theorem nos {α:Type} {a:α} {P:Prop} (h:none=some a):P:=(Option.some_ne_none _ h.symm).elim
theorem ogo_i {α:Type} {b:Bool} {x:Option α} {r:α} (h:ogo b x=some r):b=true∧x=some r:=by
 induction b using Bool.casesOn with
 | true=>exact ⟨rfl,h⟩
 | false=>exact nos h
theorem band {a b:Bool} (h:(a && b)=true):a=true∧b=true:=Bool.and_eq_true_iff.mp h
noncomputable def oe {α:Type} (b:Bool) (x y:Option α):Option α:=match b with
 | true=>x
 | false=>y
theorem oe_i {α:Type} {b:Bool} {x y:Option α} {r:α} (h:oe b x y=some r):(b=true∧x=some r)∨y=some r:=by
 induction b using Bool.casesOn with
 | true=>exact .inl ⟨rfl,h⟩
 | false=>exact .inr h
theorem om_i {α β:Type} {o:Option α} {f:α→Option β} {y:Option β} {r:β} (h:om o f y=some r):(∃ a,o=some a∧f a=some r)∨y=some r:=by
 induction o using Option.casesOn with
 | none=>exact .inr h
 | some a=>exact .inl ⟨a,rfl,h⟩
noncomputable abbrev Glb (ns:Ns) (x:Str):Prop:=ns.lookup x=some .globalImplicit
noncomputable abbrev Tgt (ns:Ns) (x:Str):Prop:=ns.lookup x=some .local∨ns.lookup x=some .cell
noncomputable abbrev NoDbg (x:Str):Prop:=(x == ("__debug__":Str))=false
noncomputable def glbB (ns:Ns) (x:Str):Bool:=decide (ns.lookup x=some .globalImplicit)
theorem glbB_i {ns:Ns} {x:Str} (h:glbB ns x=true):Glb ns x:=of_decide_eq_true h
noncomputable def tgtB (ns:Ns) (x:Str):Bool:=okN x && decide (Tgt ns x)
theorem tgtB_i {ns:Ns} {x:Str} (h:tgtB ns x=true):okN x=true∧Tgt ns x:=⟨(band h).1,of_decide_eq_true (band h).2⟩
noncomputable def locB (ns:Ns) (x:Str):Bool:=okN x && decide (ns.lookup x=some .local)
theorem locB_i {ns:Ns} {x:Str} (h:locB ns x=true):okN x=true∧ns.lookup x=some .local:=⟨(band h).1,of_decide_eq_true (band h).2⟩
noncomputable def okD (x:Str):Bool:=okN x && !(x == ("__debug__":Str))
theorem okD_i {x:Str} (h:okD x=true):okN x=true∧NoDbg x:=⟨(band h).1,(Bool.not_eq_true' _).mp (band h).2⟩
noncomputable def glbD (ns:Ns) (x:Str):Bool:=okD x && glbB ns x
theorem glbD_i {ns:Ns} {x:Str} (h:glbD ns x=true):okN x=true∧NoDbg x∧Glb ns x:=⟨(okD_i (band h).1).1,(okD_i (band h).1).2,glbB_i (band h).2⟩
noncomputable def l1? {α:Type} (l:List α):Option α:=match l with
 | [a]=>some a
 | _=>none
theorem l1_i {α:Type} {l:List α} {a:α} (h:l1? l=some a):l=[a]:=by
 match l,h with
 | [_],h=>exact congrArg (· :: []) (Option.some.inj h)
noncomputable def pickE {α:Type} (name:Str→Pos→α) (attr:Expr→Str→Pos→α) (slice:Option Expr→Option Expr→Option Expr→Pos→α) (tup:List Expr→Nat→Pos→α) (call:Expr→List Expr→List Keyword→Pos→α) (lc:Expr→List Comprehension→Scope→Pos→α) (sub:Expr→Expr→Pos→α) (d:α) (e:Expr):α:=match e with
 | .Name x p=>name x p
 | .Attribute o n p=>attr o n p
 | .Slice a b c p=>slice a b c p
 | .Tuple l k p=>tup l k p
 | .Call g l k p=>call g l k p
 | .ListComp a g s p=>lc a g s p
 | .Subscript v i p=>sub v i p
 | _=>d
noncomputable def nm? (e:Expr):Option (Str × Pos):=pickE (fun x p=>some (x,p)) (fun _ _ _=>none) (fun _ _ _ _=>none) (fun _ _ _=>none) (fun _ _ _ _=>none) (fun _ _ _ _=>none) (fun _ _ _=>none) none e
noncomputable def at? (e:Expr):Option (Expr × Str × Pos):=pickE (fun _ _=>none) (fun o n p=>some (o,n,p)) (fun _ _ _ _=>none) (fun _ _ _=>none) (fun _ _ _ _=>none) (fun _ _ _ _=>none) (fun _ _ _=>none) none e
noncomputable def sl? (e:Expr):Option (Option Expr × Option Expr × Option Expr × Pos):=pickE (fun _ _=>none) (fun _ _ _=>none) (fun a b c p=>some (a,b,c,p)) (fun _ _ _=>none) (fun _ _ _ _=>none) (fun _ _ _ _=>none) (fun _ _ _=>none) none e
noncomputable def tp? (e:Expr):Option (List Expr × Nat × Pos):=pickE (fun _ _=>none) (fun _ _ _=>none) (fun _ _ _ _=>none) (fun l k p=>some (l,k,p)) (fun _ _ _ _=>none) (fun _ _ _ _=>none) (fun _ _ _=>none) none e
noncomputable def cl? (e:Expr):Option (Expr × List Expr × List Keyword × Pos):=pickE (fun _ _=>none) (fun _ _ _=>none) (fun _ _ _ _=>none) (fun _ _ _=>none) (fun g l k p=>some (g,l,k,p)) (fun _ _ _ _=>none) (fun _ _ _=>none) none e
noncomputable def lc? (e:Expr):Option (Expr × List Comprehension × Scope × Pos):=pickE (fun _ _=>none) (fun _ _ _=>none) (fun _ _ _ _=>none) (fun _ _ _=>none) (fun _ _ _ _=>none) (fun a g s p=>some (a,g,s,p)) (fun _ _ _=>none) none e
noncomputable def sb? (e:Expr):Option (Expr × Expr × Pos):=pickE (fun _ _=>none) (fun _ _ _=>none) (fun _ _ _ _=>none) (fun _ _ _=>none) (fun _ _ _ _=>none) (fun _ _ _ _=>none) (fun v i p=>some (v,i,p)) none e
section
variable {e:Expr}
theorem nm_i {x:Str × Pos} (h:nm? e=some x):e=.Name x.1 x.2:=by
 induction e using Expr.casesOn <;> first|exact nos h|(obtain rfl:=Option.some.inj h;rfl)
theorem at_i {x:Expr × Str × Pos} (h:at? e=some x):e=.Attribute x.1 x.2.1 x.2.2:=by
 induction e using Expr.casesOn <;> first|exact nos h|(obtain rfl:=Option.some.inj h;rfl)
theorem sl_i {x:Option Expr × Option Expr × Option Expr × Pos} (h:sl? e=some x):e=.Slice x.1 x.2.1 x.2.2.1 x.2.2.2:=by
 induction e using Expr.casesOn <;> first|exact nos h|(obtain rfl:=Option.some.inj h;rfl)
theorem tp_i {x:List Expr × Nat × Pos} (h:tp? e=some x):e=.Tuple x.1 x.2.1 x.2.2:=by
 induction e using Expr.casesOn <;> first|exact nos h|(obtain rfl:=Option.some.inj h;rfl)
theorem cl_i {x:Expr × List Expr × List Keyword × Pos} (h:cl? e=some x):e=.Call x.1 x.2.1 x.2.2.1 x.2.2.2:=by
 induction e using Expr.casesOn <;> first|exact nos h|(obtain rfl:=Option.some.inj h;rfl)
theorem sb_i {x:Expr × Expr × Pos} (h:sb? e=some x):e=.Subscript x.1 x.2.1 x.2.2:=by
 induction e using Expr.casesOn <;> first|exact nos h|(obtain rfl:=Option.some.inj h;rfl)
theorem lc_i {x:Expr × List Comprehension × Scope × Pos} (h:lc? e=some x):e=.ListComp x.1 x.2.1 x.2.2.1 x.2.2.2:=by
 induction e using Expr.casesOn <;> first|exact nos h|(obtain rfl:=Option.some.inj h;rfl)
end
noncomputable def bins:List BinK:=[.add,.sub,.mul,.fdiv,.mod,.pow,.shl,.shr,.band,.bxor]
noncomputable def cops:List CmpK:=[.eq,.ne,.lt,.le,.ge,.is_,.isNot,.in_]
noncomputable def bis:List BI:=[.len,.ord,.chr,.sum,.max,.hex,.divmod,.tuple]
noncomputable def mks:List MK:=[.join,.split,.bitLength,.upper,.lower]
noncomputable def biOf (x:Str):Option BI:=bis.find? fun b=>(biNm b).any fun t=>t.1 == x
noncomputable def mkOf (x:Str):Option MK:=mks.find? fun m=>mkNm m == x
noncomputable def binOf (o:Operator):Option BinK:=bins.find? fun k=>decide (opOf k=o)
noncomputable def copK (o:CmpOp):Option CmpK:=cops.find? fun k=>decide (copOf k=o)
theorem find_i {α:Type} {p:α→Bool} {l:List α} {a:α} (h:l.find? p=some a):p a=true:=List.find?_some h
theorem biOf_i {x:Str} {b:BI} (h:biOf x=some b):b∈bis∧∃ v,biNm b=some (x,v):=by
 have q:=find_i h
 refine ⟨List.mem_of_find?_eq_some h,?_⟩
 cases hb:biNm b with
 | none=>rw [hb] at q;exact (Bool.false_ne_true q).elim
 | some t=>rw [hb] at q;exact ⟨t.2,by rw [← eq_of_beq q]⟩
theorem binOf_i {o:Operator} {k:BinK} (h:binOf o=some k):opOf k=o:=of_decide_eq_true (p:=opOf k=o) (find_i (p:=fun k=>decide (opOf k=o)) h)
theorem copK_i {o:CmpOp} {k:CmpK} (h:copK o=some k):copOf k=o:=of_decide_eq_true (p:=copOf k=o) (find_i (p:=fun k=>decide (copOf k=o)) h)
theorem mkOf_i {x:Str} {k:MK} (h:mkOf x=some k):mkNm k=x:=eq_of_beq (find_i (p:=fun m=>mkNm m == x) h)
noncomputable def namesT (B:Str→Bool):List Expr→Option (List (Str × Pos))
 | []=>some []
 | e :: r=>ob (nm? e) fun x=>ogo (B x.1) (ob (namesT B r) fun l=>some (x :: l))
theorem namesT_i {B:Str→Bool}:∀ {l:List Expr} {xs:List (Str × Pos)},namesT B l=some xs→l=xs.map (fun x=>.Name x.1 x.2)∧∀ x∈xs,B x.1=true
 | [],_,h=>by
  obtain rfl:=Option.some.inj h
  exact ⟨rfl,fun x hx=>nomatch hx⟩
 | e :: r,_,h=>by
  refine ob_e h fun x h1 k1=>?_
  obtain ⟨h2,k2⟩:=ogo_i k1
  refine ob_e k2 fun l h3 k3=>?_
  obtain rfl:=Option.some.inj k3
  obtain ⟨h4,h5⟩:=namesT_i h3
  refine ⟨by rw [nm_i h1,h4];rfl,fun y hy=>?_⟩
  rcases List.mem_cons.mp hy with rfl|hy
  ·exact h2
  ·exact h5 y hy
noncomputable def encs (xs:List (Str × Pos)):List Nat:=xs.map fun x=>enc x.1
noncomputable def trT1g (ns:Ns) (x:Str × Pos):Option (List Nat × Bool):=ogo (tgtB ns x.1) (some ([enc x.1],true))
noncomputable def trTm (ns:Ns) (l:List Expr × Nat × Pos):Option (List Nat × Bool):=ogo (!l.1.isEmpty) (ob (namesT (tgtB ns) l.1) fun xs=>some (encs xs,false))
noncomputable def trTg (ns:Ns) (t:Expr):Option (List Nat × Bool):=om (nm? t) (trT1g ns) (ob (tp? t) (trTm ns))
theorem trTg_i {ns:Ns} {t:Expr} {r:List Nat × Bool} (h:trTg ns t=some r):CTg ns t r.1 r.2:=by
 rcases om_i h with ⟨x,h1,k1⟩|k1
 ·obtain ⟨h2,k2⟩:=ogo_i k1
  obtain ⟨h3,h4⟩:=tgtB_i h2
  obtain rfl:=Option.some.inj k2
  rw [nm_i h1]
  exact .one h3 rfl h4
 ·refine ob_e k1 fun l h1 k1=>?_
  obtain ⟨h2,k2⟩:=ogo_i k1
  refine ob_e k2 fun xs h3 k3=>?_
  obtain rfl:=Option.some.inj k3
  obtain ⟨h4,h5⟩:=namesT_i h3
  rw [tp_i h1,h4]
  rw [h4] at h2
  refine .many (fun x hx=>tgtB_i (h5 x hx)) rfl fun q=>?_
  rw [q] at h2
  exact Bool.false_ne_true h2
noncomputable def scopeB (ns:Ns) (sc:Scope):Bool:=decide (sc.kind=.function∧∀ y∈sc.names,y.2 ≠ .cell∧(y.2=.local→sc.names.lookup y.1=some .local)∧(y.2=.free→(ns.lookup y.1=some .cell∨ns.lookup y.1=some .free)∧okN y.1=true∧sc.names.lookup y.1=some .free))
noncomputable def scopeT (ns:Ns) (sc:Scope):Option (List Nat):=ogo (scopeB ns sc) (some (((sc.names.filter fun y=>decide (y.2=.free)).map (·.1)).map enc))
theorem scopeT_i {ns:Ns} {sc:Scope} {caps:List Nat} (h:scopeT ns sc=some caps):CompOk ns sc caps:=by
 obtain ⟨h0,h3⟩:=ogo_i h
 obtain ⟨h1,h2⟩:=of_decide_eq_true h0
 refine ⟨h1,fun y hy=>(h2 y hy).1,fun y hy=>(h2 y hy).2.1,fun y hy q=>((h2 y hy).2.2 q).1,_,(Option.some.inj h3).symm,fun x hx=>?_⟩
 obtain ⟨y,hy,rfl⟩:=List.mem_map.mp hx
 obtain ⟨hy,q⟩:=List.mem_filter.mp hy
 exact ((h2 y hy).2.2 (of_decide_eq_true q)).2
noncomputable abbrev TrF:=Ns→Expr→Option PE
noncomputable def trL (f:Expr→Option PE):List Expr→Option (List PE)
 | []=>some []
 | e :: r=>ob (f e) fun a=>ob (trL f r) fun l=>some (a :: l)
noncomputable def trL1 (f:Expr→Option PE) (es:List Expr):Option (List PE):=ogo (!es.isEmpty) (trL f es)
noncomputable def trO (f:Expr→Option PE) (o:Option Expr):Option PE:=match o with
 | none=>some (.lit .none)
 | some e=>f e
noncomputable def trC (c:Const):Option PE:=match c with
 | .int i=>some (.lit (.int i))
 | .str x=>some (.lit (.str x.cps.toList))
 | .bool b=>some (.lit (.bool b))
 | .none=>some (.lit .none)
 | _=>none
noncomputable def trBi (f:Expr→Option PE) (es:List Expr) (b:BI):Option PE:=ob (trL1 f es) fun l=>some (.bi b l)
noncomputable def trFn (f:Expr→Option PE) (x:Str) (es:List Expr):Option PE:=ogo (okN x) (ob (trL1 f es) fun l=>some (.call (enc x) l))
noncomputable abbrev CallX:=Expr × List Expr × List Keyword × Pos
noncomputable def innB (ns:Ns) (c:CallX) (y:Str):Bool:=c.2.2.1.isEmpty && glbB ns y
noncomputable def inn? (ns:Ns) (e:Expr):Option ((Str × Pos) × CallX):=ob (cl? e) fun c=>ob (nm? c.1) fun y=>ogo (innB ns c y.1) (some (y,c))
theorem inn_i {ns:Ns} {e:Expr} {t:(Str × Pos) × CallX} (h:inn? ns e=some t):e=.Call (.Name t.1.1 t.1.2) t.2.2.1 [] t.2.2.2.2∧Glb ns t.1.1:=by
 refine ob_e h fun c h1 k1=>ob_e k1 fun y h2 k2=>?_
 obtain ⟨h3,k3⟩:=ogo_i k2
 obtain rfl:=Option.some.inj k3
 exact ⟨by rw [cl_i h1,nm_i h2,List.isEmpty_iff.mp (band h3).1],glbB_i (band h3).2⟩
noncomputable def twoB (x y a b:Str):Bool:=x == a && y == b
theorem twoB_i {x y a b:Str} (h:twoB x y a b=true):x=a∧y=b:=⟨eq_of_beq (band h).1,eq_of_beq (band h).2⟩
noncomputable def trTwo2 (x y:Str) (l:List PE):Option PE:=oe (twoB x y "list" "range") (some (.bi .listRange l)) (ogo (twoB x y "dict" "zip") (some (.bi .dictZip l)))
noncomputable def trTwo (f:Expr→Option PE) (ns:Ns) (x:Str) (es:List Expr):Option PE:=ob (l1? es) fun e=>ob (inn? ns e) fun t=>ob (trL1 f t.2.2.1) (trTwo2 x t.1.1)
noncomputable def trNamed (f:Expr→Option PE) (ns:Ns) (x:Str) (es:List Expr):Option PE:=om (biOf x) (trBi f es) (oe (x == ("list":Str) || x == ("dict":Str)) (trTwo f ns x es) (trFn f x es))
noncomputable def gnm? (ns:Ns) (o:Expr):Option (Str × Pos):=ob (nm? o) fun x=>ogo (glbB ns x.1) (some x)
noncomputable def gmB (x m:Str) (es:List Expr):Bool:=okD x && !(m == ("":Str)) && Nat.ble es.length 3
noncomputable def trGm (f:Expr→Option PE) (m:Str) (es:List Expr) (x:Str × Pos):Option PE:=ogo (gmB x.1 m es) (ob (trL1 f es) fun l=>some (.gmeth (enc x.1) (enc m) l))
noncomputable def trMk (f:Expr→Option PE) (o:Expr) (es:List Expr) (k:MK):Option PE:=ogo ((cl? o).isNone && Nat.ble es.length 3) (ob (f o) fun a=>ob (trL f es) fun l=>some (.meth k a l))
noncomputable def trIm (f:Expr→Option PE) (o:Expr) (m:Str) (es:List Expr):Option PE:=ob (nm? o) fun _=>ogo (Nat.ble es.length 3) (ob (f o) fun a=>ob (trL f es) fun l=>some (.imeth a (enc m) l))
noncomputable def trMeth (f:Expr→Option PE) (ns:Ns) (o:Expr) (m:Str) (es:List Expr):Option PE:=om (gnm? ns o) (trGm f m es) (om (mkOf m) (trMk f o es) (trIm f o m es))
noncomputable def trCn (f:Expr→Option PE) (ns:Ns) (es:List Expr) (x:Str × Pos):Option PE:=ogo (glbD ns x.1) (trNamed f ns x.1 es)
noncomputable def trCm (f:Expr→Option PE) (ns:Ns) (es:List Expr) (p:Pos) (a:Expr × Str × Pos):Option PE:=ogo ((a.2.2.endLine == p.line) && okN a.2.1) (trMeth f ns a.1 a.2.1 es)
noncomputable def trCall (f:Expr→Option PE) (ns:Ns) (g:Expr) (es:List Expr) (ks:List Keyword) (p:Pos):Option PE:=ogo ks.isEmpty (om (nm? g) (trCn f ns es) (ob (at? g) (trCm f ns es p)))
noncomputable def trRr (f:Expr→Option PE) (es:List Expr):Option PE:=ob (trL1 f es) fun l=>some (.bi .range l)
noncomputable def trRv (f:Expr→Option PE) (es:List Expr):Option PE:=ob (l1? es) fun x=>ob (f x) fun a=>some (.bi .reversed [a])
noncomputable def trR (f:Expr→Option PE) (ns:Ns) (e:Expr):Option PE:=ob (inn? ns e) fun t=>oe (t.1.1 == ("range":Str)) (trRr f t.2.2.1) (ogo (t.1.1 == ("reversed":Str)) (trRv f t.2.2.1))
noncomputable def trI (f:Expr→Option PE) (ns:Ns) (e:Expr):Option PE:=om (trR f ns e) some (ob (f e) fun a=>some (.tv a))
noncomputable def ginB (ns:Ns) (o:CmpOp) (x:Str):Bool:=decide (o=.In) && glbD ns x
noncomputable def gin? (ns:Ns) (o:CmpOp) (y:Expr):Option (Str × Pos):=ob (nm? y) fun x=>ogo (ginB ns o x.1) (some x)
theorem gin_i {ns:Ns} {o:CmpOp} {y:Expr} {x:Str × Pos} (h:gin? ns o y=some x):o=.In∧y=.Name x.1 x.2∧okN x.1=true∧NoDbg x.1∧Glb ns x.1:=by
 refine ob_e h fun z h1 k1=>?_
 obtain ⟨h2,k2⟩:=ogo_i k1
 obtain rfl:=Option.some.inj k2
 exact ⟨of_decide_eq_true (band h2).1,nm_i h1,glbD_i (band h2).2⟩
structure Tr where
 E:TrF
 T:TrF
noncomputable def trComp (r:Tr) (ns:Ns) (elt:Expr) (g:Comprehension) (sc:Scope):Option PE:=ogo (decide (g.is_async=0))
 (ob (scopeT ns sc) fun caps=>ob (trTg sc.names g.target) fun t=>ob (trI (r.E ns) ns g.iter) fun pi=>ob (trL (r.T sc.names) g.ifs) fun pifs=>ob (r.E sc.names elt) fun pe=>some (.comp pe t.1 t.2 pi pifs caps))
noncomputable def trCmp3 (r:Tr) (ns:Ns) (o:CmpOp) (y:Expr) (a:PE):Option PE:=ob (copK o) fun k=>ob (r.E ns y) fun b=>some (.cmp k a b)
noncomputable def trGin (a:PE) (x:Str × Pos):Option PE:=some (.gmeth (enc x.1) 0 [a])
noncomputable def trCmp2 (r:Tr) (ns:Ns) (o:CmpOp) (y:Expr) (a:PE):Option PE:=om (gin? ns o y) (trGin a) (trCmp3 r ns o y a)
noncomputable def trSl (r:Tr) (ns:Ns) (a:PE) (t:Option Expr × Option Expr × Option Expr × Pos):Option PE:=ob (trO (r.E ns) t.1) fun x=>ob (trO (r.E ns) t.2.1) fun y=>ob (trO (r.E ns) t.2.2.1) fun z=>some (.slice a x y z)
noncomputable def trSub (r:Tr) (ns:Ns) (i:Expr) (a:PE):Option PE:=om (sl? i) (trSl r ns a) (ob (r.E ns i) fun b=>some (.idx a b))
noncomputable def trGa (x nm:Str):Option PE:=ogo (okD x) (some (.gattr (enc x) (enc nm)))
noncomputable def trAt (r:Tr) (ns:Ns) (o:Expr) (nm:Str):Option PE:=ogo (decide (nm∈atNames)) (ob (r.E ns o) fun a=>some (.attr a (enc nm)))
noncomputable def trUn (o:UnaryOp) (a:PE):Option PE:=match o with
 | .USub=>some (.neg a)
 | .Invert=>some (.inv a)
 | .Not=>some (.not a)
 | .UAdd=>none
noncomputable def trNm (ns:Ns) (x:Str):Option PE:=oe (glbB ns x) (some (.glob (enc x))) (some (.var (enc x)))
noncomputable def trE1 (r:Tr) (ns:Ns) (e:Expr):Option PE:=match e with
 | .Constant c _ _=>trC c
 | .Name x _=>ogo (okD x) (trNm ns x)
 | .BinOp l o y _=>ob (binOf o) fun k=>ob (r.E ns l) fun a=>ob (r.E ns y) fun b=>some (.bin k a b)
 | .UnaryOp o x _=>ob (r.E ns x) (trUn o)
 | .Compare l os ys _=>ob (l1? os) fun o=>ob (l1? ys) fun y=>ob (r.E ns l) (trCmp2 r ns o y)
 | .BoolOp o es _=>ogo (decide (o=.And)) (ob (trL (r.E ns) es) fun l=>some (.and l))
 | .IfExp c x y _=>ob (r.T ns c) fun pc=>ob (r.E ns x) fun a=>ob (r.E ns y) fun b=>some (.ite pc a b)
 | .List es _=>ogo (Nat.ble es.length 1000) (ob (trL (r.E ns) es) fun l=>some (.list l))
 | .Tuple es _ _=>ogo (Nat.ble es.length 1000) (ob (trL (r.E ns) es) fun l=>some (.tup l))
 | .Subscript v i _=>ob (r.E ns v) (trSub r ns i)
 | .Call g es ks p=>trCall (r.E ns) ns g es ks p
 | .Attribute o nm _=>ob (nm? o) fun x=>ogo (okN nm) (oe (glbB ns x.1) (trGa x.1 nm) (trAt r ns o nm))
 | .ListComp elt gs sc _=>ob (l1? gs) fun g=>trComp r ns elt g sc
 | _=>none
noncomputable def trT1 (r:Tr) (ns:Ns) (e:Expr):Option PE:=match e with
 | .UnaryOp o x _=>ogo (decide (o=.Not)) (ob (r.T ns x) fun a=>some (.not a))
 | .BoolOp o es _=>ogo (decide (o=.And)) (ob (trL (r.T ns) es) fun l=>some (.and l))
 | .Compare l os ys _=>ob (l1? os) fun o=>ob (l1? ys) fun y=>ob (r.E ns l) (trCmp3 r ns o y)
 | .IfExp ..=>none
 | e=>ob (r.E ns e) fun a=>some (.tv a)
noncomputable def tr:Nat→Tr
 | 0=>⟨fun _ _=>none,fun _ _=>none⟩
 | n+1=>⟨trE1 (tr n),trT1 (tr n)⟩
noncomputable def CE (ns:Ns) (e:Expr) (pe:PE):Prop:=∃ n,(tr n).E ns e=some pe
noncomputable def CT (ns:Ns) (e:Expr) (pe:PE):Prop:=∃ n,(tr n).T ns e=some pe
noncomputable def CEs (ns:Ns) (es:List Expr) (l:List PE):Prop:=∃ n,trL ((tr n).E ns) es=some l
noncomputable def CTs (ns:Ns) (es:List Expr) (l:List PE):Prop:=∃ n,trL ((tr n).T ns) es=some l
noncomputable def CI (ns:Ns) (e:Expr) (pe:PE):Prop:=∃ n,trI ((tr n).E ns) ns e=some pe
section
variable {ns:Ns} {e:Expr} {pe:PE}
theorem CE.step (h:CE ns e pe):∃ n,trE1 (tr n) ns e=some pe:=by
 obtain ⟨n,h⟩:=h
 cases n with
 | zero=>exact nos h
 | succ n=>exact ⟨n,h⟩
theorem CT.step (h:CT ns e pe):∃ n,trT1 (tr n) ns e=some pe:=by
 obtain ⟨n,h⟩:=h
 cases n with
 | zero=>exact nos h
 | succ n=>exact ⟨n,h⟩
structure Facts (e:Expr):Prop where
 star:plainStar e
 sub:∀ o x,subscripted e false o x=operate [o,x] (getItem o x)
 fold:∀ env x,foldedSetIterable e env x=pure x
 mark:∀ op,behindInMarks op e=false
 base:cl? e=none→∀ nm env,attributeBase e nm env (eval e env)=eval e env
 swap:lc? e=none→∀ t l env,swapsWith e t l env=pure false
 tup:tp? e=none→∀ ts j p env,swappedStores [.Tuple ts j p] e env=pure none
theorem CE.facts (h:CE ns e pe):Facts e:=by
 obtain ⟨n,h⟩:=h.step
 induction e using Expr.casesOn <;> first
  | exact nos h
  | exact ⟨fun _ _=>rfl,fun _ _=>rfl,fun _ _=>rfl,fun _=>rfl,fun _ _ _=>rfl,fun _ _ _ _=>rfl,fun _ _ _ _ _=>rfl⟩
  | exact ⟨fun _ _=>rfl,fun _ _=>rfl,fun _ _=>rfl,fun _=>rfl,fun _ _ _=>rfl,fun _ _ _ _=>rfl,fun q=>nos q.symm⟩
  | exact ⟨fun _ _=>rfl,fun _ _=>rfl,fun _ _=>rfl,fun _=>rfl,fun _ _ _=>rfl,fun q=>nos q.symm,fun _ _ _ _ _=>rfl⟩
  | exact ⟨fun _ _=>rfl,fun _ _=>rfl,fun _ _=>rfl,fun _=>rfl,fun q=>nos q.symm,fun _ _ _ _=>rfl,fun _ _ _ _ _=>rfl⟩
theorem CEs.nil' {l:List PE} (h:CEs ns [] l):l=[]:=by
 obtain ⟨n,h⟩:=h
 exact (Option.some.inj h).symm
theorem CEs.cons' {es:List Expr} {l:List PE} (h:CEs ns (e :: es) l):∃ a m,l=a :: m∧CE ns e a∧CEs ns es m:=by
 obtain ⟨n,h⟩:=h
 obtain ⟨a,ha,k1⟩:=ob_i h
 obtain ⟨m,hm,k2⟩:=ob_i k1
 exact ⟨a,m,(Option.some.inj k2).symm,⟨n,ha⟩,n,hm⟩
theorem CTs.nil' {l:List PE} (h:CTs ns [] l):l=[]:=by
 obtain ⟨n,h⟩:=h
 exact (Option.some.inj h).symm
theorem CTs.cons' {es:List Expr} {l:List PE} (h:CTs ns (e :: es) l):∃ a m,l=a :: m∧CT ns e a∧CTs ns es m:=by
 obtain ⟨n,h⟩:=h
 obtain ⟨a,ha,k1⟩:=ob_i h
 obtain ⟨m,hm,k2⟩:=ob_i k1
 exact ⟨a,m,(Option.some.inj k2).symm,⟨n,ha⟩,n,hm⟩
theorem CEs.one (h:CE ns e pe):CEs ns [e] [pe]:=by
 obtain ⟨n,h⟩:=h
 exact ⟨n,by unfold trL;rw [h];rfl⟩
theorem trL1_i {n:Nat} {es:List Expr} {l:List PE} (h:trL1 ((tr n).E ns) es=some l):∃ e r,es=e :: r∧CEs ns (e :: r) l:=by
 obtain ⟨h1,h2⟩:=ogo_i h
 induction es using List.casesOn with
 | nil=>exact (Bool.false_ne_true h1).elim
 | cons e r=>exact ⟨e,r,rfl,n,h2⟩
end
end Mine
end
section
set_option maxRecDepth 100000
open PySem PySem.Calls PyProof.Rows PySem.W
set_option genSizeOf false
set_option genInjectivity false
namespace Mine
section
variable {cx:Cx} {s:Shared} {H:Hid} {fr:Bool} {p:PV} {Q:Value→Shared→Prop} {h':Heap} {tk':Nat}
theorem Frs.after {h₀ h₁ h₂:Heap} {v:Value} (f:Frs cx h₁ h₂ H v p) (k:∀ a,Live h₀ a→Live h₁ a):Frs cx h₀ h₂ H v p:=fun ps e=>by
 obtain ⟨D,vs,e1,e2,r⟩:=f ps e
 exact ⟨D,vs,e1,fun l=>e2 (k _ l),r⟩
theorem RetF.after (r:RetF cx s H fr p Q) (e:Ext cx cx.T s.heap h'):RetF cx { s with heap:=h',toks:=tk' } H fr p Q :=
 fun v h₂ tk₂ e₂ r₂ f₂=>r v h₂ tk₂ (e.trans e₂) r₂ fun q=>(f₂ q).after e.live
theorem RetF.plain (r:RetF cx s H false p Q) {v:Value} {tk:Nat} (e:Ext cx cx.T s.heap h') (x:Rep cx h' H v p):Q v { s with heap:=h',toks:=tk }:=r v h' tk e x fun q=>by cases q
end
noncomputable def Callee (cx:Cx) (v:Value):Prop:=∀ {A:Around} {env:Env} {E:Value→Shared→Prop} {Q:Value→Shared→Prop} {s:Shared} {pos:Pos} {e:Expr} {rest:List Expr},cx.GI s.heap →
 wpAny (model cx.prog cx.w) A (spliced (backTo pos (starEach (e :: rest) env))) (fun vs s₁=>cx.GI s₁.heap∧wpAny (model cx.prog cx.w) A (call v vs) Q E s₁) E s →
 starEach (e :: rest) env=(false,eval e env) :: starEach rest env→(backTo pos (starEach rest env)).any (·.1)=false →
 wpAny (model cx.prog cx.w) A (callWith pos v [] (backTo pos (starEach (e :: rest) env)) []) Q E s
theorem callee_builtin {cx:Cx} {id:String}:Callee cx (.builtin id):=fun _ h he hp=>callWith_builtin1 (wpAny_mono h (fun _ _ x=>x.2) fun _ _ x=>x) he hp
theorem callee_type {cx:Cx} {T:String}:Callee cx (.type T):=fun _ h he hp=>callWith_type1 (wpAny_mono h (fun _ _ x=>x.2) fun _ _ x=>x) he hp
noncomputable def CallOk (cx:Cx) (n:Nat) (v:Value) (ps:List PV) (r:PV):Prop :=
 ∀ {A:Around} {E:Value→Shared→Prop} {s:Shared} {H:Hid} {Q:Value→Shared→Prop} {vs:List Value},Room A n→Cn cx s.heap H→RepAll cx s.heap H vs ps→RetF cx s H false r Q→wpAny (model cx.prog cx.w) A (call v vs) Q E s
noncomputable def biNames:List Str:=["len","ord","chr","sum","max","hex","divmod","tuple","list","range","dict","zip","reversed"]
structure GOk (cx:Cx) (G:Gl):Prop where
 gv:∀ x p,okN x=true→G.gv (enc x)=some p→∃ v,cx.mg x=some v∧∀ h,cx.GI h→Rep cx h (fun a=>¬ cx.GA a∨cx.B a) v p
 ga:∀ g n p,okN g=true→okN n=true→G.ga (enc g) (enc n)=some p→∃ v,cx.mg g=some v∧∀ {A:Around} {E:Value→Shared→Prop} {s:Shared} {Q:Value→Shared→Prop},cx.GI s.heap →
  (∀ w tk,Rep cx s.heap (fun a=>¬ cx.GA a∨cx.B a) w p→Q w { s with toks:=tk })→wpAny (model cx.prog cx.w) A (getAttr v n true) Q E s
 gm:∀ g m ps r,okN g=true→okN m=true→m ≠ ""→G.gm (enc g) (enc m) ps=some r→∃ v T id,cx.mg g=some v∧PlainAttrs T∧Slot T m id∧typeOf (.builtin id)=pure (.type "method_descriptor") ∧
  (∀ s:Shared,cx.GI s.heap→s.TypeIs v T∧(∀ a,v=.ref a→∃ ob,s.heap.get? a=some ob∧ob.dict=none)) ∧
  ∀ {A:Around} {E:Value→Shared→Prop} {s:Shared} {H:Hid} {Q:Value→Shared→Prop} {vs:List Value},Room A 60→Cn cx s.heap H→RepAll cx s.heap H vs ps→RetF cx s H false r Q→wpAny (model cx.prog cx.w) A (call (.builtin id) (v :: vs)) Q E s
 gin:∀ g p r,okN g=true→G.gm (enc g) 0 [p]=some r→∃ v b,cx.mg g=some v∧r=.bool b∧∀ {A:Around} {E:Value→Shared→Prop} {s:Shared} {H:Hid} {Q:Value→Shared→Prop} {x:Value},cx.GI s.heap→Rep cx s.heap H x p→(∀ tk,Q (.bool b) { s with toks:=tk })→wpAny (model cx.prog cx.w) A (compareOp .In x v) Q E s
 fn:∀ f n ps r,okN f=true→(sem G n).fn (enc f) ps=some r→∃ v,cx.mg f=some v∧Callee cx v
 cls:∃ N mN,(∀ h,cx.GI h→ClsAt h cx.C N mN)∧mN "__getattribute__"=none∧mN "__setattr__"=none∧(∀ n∈atNames,mN n=none∧typeLookup (.type "object") n=pure none)∧∀ h,cx.GI h→cx.GA cx.C
 bi:∀ x:Str,x∈biNames→cx.mg x=none
structure SndN (cx:Cx) (G:Gl) (n:Nat):Prop where
 ev:∀ {ns:Ns} {e:Expr} {pe:PE} {A:Around} {env:Env} {ρ:PEnv} {H:Hid} {s:Shared} {p:PV} {Q:Value→Shared→Prop} {E:Value→Shared→Prop},CE ns e pe→InE cx (n+60) A env ns ρ H s →
  (sem G n).ev ρ pe=some p→RetF cx s H (freshE pe p) p Q→wpAny (model cx.prog cx.w) A (eval e env) Q E s
 ts:∀ {ns:Ns} {e:Expr} {pe:PE} {A:Around} {env:Env} {ρ:PEnv} {H:Hid} {s:Shared} {b:Bool} {Q:Bool→Shared→Prop} {E:Value→Shared→Prop},CT ns e pe→InE cx (n+60) A env ns ρ H s →
  (sem G n).ts ρ pe=some b→(∀ h' tk',Ext cx cx.T s.heap h'→Q b { s with heap:=h',toks:=tk' })→wpAny (model cx.prog cx.w) A (isTrue e env (eval e env)) Q E s
 fn:∀ f v ps r,okN f=true→cx.mg f=some v→(sem G n).fn (enc f) ps=some r→CallOk cx (n+60) v ps r
 me:∀ m ps r,okN m=true→(sem G n).me (enc m) ps=some r→∃ f o fd,(∀ h,cx.GI h→h.get? f=some o)∧o.data=.func fd∧CallOk cx (n+60) (.ref f) ps r ∧
  ∀ {A:Around} {E:Value→Shared→Prop} {s:Shared} {H:Hid} {Q:Value × List Value→Shared→Prop} {v:Value} {ks:List Nat} {qs:List PV} {pl:Sem Bool},cx.GI s.heap→Rep cx s.heap H v (.inst ks qs)→PEnv.has ks (enc m)=false→Q (.ref f,[v]) s→wpAny (model cx.prog cx.w) A (getMethod v m pl) Q E s
section
variable {cx:Cx} {G:Gl} {n:Nat} {ns:Ns} {A:Around} {env:Env} {ρ:PEnv} {H:Hid} {s:Shared} {E:Value→Shared→Prop} {Q:Value→Shared→Prop}
theorem ld_glob {x:Str} {v:Value} {p:Pos} {m:Nat} (I:InE cx m A env ns ρ H s) (hx:ns.lookup x=some .globalImplicit) (hd:(x == ("__debug__":Str))=false) (hv:cx.mg x=some v) (h:Q v s) :
  wpAny (model cx.prog cx.w) A (eval (.Name x p) env) Q E s :=
 Name_function_global I.kind (I.glb _ hx) (loadGlobal_global (mg:=cx.mg) (by rw [I.glob];exact cx.ns_g _ I.cn.gi) hv h) hd
theorem ld_bi {x:Str} {v:Value} {p:Pos} {m:Nat} (I:InE cx m A env ns ρ H s) (hx:ns.lookup x=some .globalImplicit) (hd:(x == ("__debug__":Str))=false) (hn:cx.mg x=none) (hne:x ≠ "__name__") (hv:bootBuiltins x=some v) (h:Q v s) :
  wpAny (model cx.prog cx.w) A (eval (.Name x p) env) Q E s :=
 Name_function_global I.kind (I.glb _ hx) (loadGlobal_builtin (mg:=cx.mg) (mb:=cx.mb) (by rw [I.glob];exact cx.ns_g _ I.cn.gi) hn (by rw [I.blt];exact cx.ns_b _ I.cn.gi) ((cx.boot x hne).trans hv) h) hd
theorem ld_var {x:Str} {b:Bool} {pv:PV} {p:Pos} {m:Nat} (I:InE cx m A env ns ρ H s) (ok:okN x=true) (hd:(x == ("__debug__":Str))=false) (hg:PEnv.get ρ (enc x)=some (b,pv)) (h:∀ v,Rep cx s.heap H v pv→Q v s) :
  wpAny (model cx.prog cx.w) A (eval (.Name x p) env) Q E s:=by
 obtain ⟨v,hv,hr⟩:=I.vars x b pv ok hg
 refine wpAny_Name ?_ hd
 rcases hv with ⟨k,m,hn,hm⟩|⟨k,c,hc,hcell⟩
 ·exact wpAny_loadName_local I.kind k hn hm (h v hr)
 ·rcases k with k|⟨k,kn⟩
  ·exact wpAny_loadName_cell I.kind k hc hcell (h v hr)
  ·exact wpAny_loadName_free I.kind k hc hcell (h v hr) kn
theorem evL_ok (S:SndN cx G n):∀ {es:List Expr} {l:List PE} {s:Shared} {ps:List PV} {pos:Pos} {Q:List Value→Shared→Prop},CEs ns es l→InE cx (n+60) A env ns ρ H s→evL (sem G n) ρ l=some ps →
  (∀ vs h' tk',Ext cx cx.T s.heap h'→RepAll cx h' H vs ps→Q vs { s with heap:=h',toks:=tk' })→wpAny (model cx.prog cx.w) A (spliced (backTo pos (starEach es env))) Q E s
 | [],_,s,_,pos,Q,hc,I,e,h=>by
  obtain rfl:=hc.nil'
  exact args_nil (h [] s.heap s.toks .refl (Option.some.inj e ▸ .nil))
 | x :: es,_,s,_,pos,Q,hc,I,e,h=>by
  obtain ⟨a,m,rfl,hx,hr⟩:=hc.cons'
  obtain ⟨v,hv,k1⟩:=ob_i e
  obtain ⟨vs,hvs,k2⟩:=ob_i k1
  refine args_cons (S.ev hx I hv fun v' h₁ t₁ e₁ r₁ _=>?_) (hx.facts.star _ _)
  exact evL_ok S hr (I.ext e₁) hvs fun vs' h₂ t₂ e₂ r₂=>h (v' :: vs') h₂ t₂ (e₁.trans e₂) (Option.some.inj k2 ▸ .cons (r₁.ext e₂ I.cn.tH) r₂)
theorem CEs.plain:∀ {es:List Expr} {l:List PE},CEs ns es l→∀ {pos:Pos},(backTo pos (starEach es env)).any (·.1)=false
 | [],_,_,_=>rfl
 | x :: es,_,hc,pos=>by
  obtain ⟨a,m,rfl,hx,hr⟩:=hc.cons'
  rw [hx.facts.star]
  exact CEs.plain hr (pos:=pos)
theorem CEs.length:∀ {es:List Expr} {l:List PE},CEs ns es l→es.length=l.length
 | [],_,hc=>by
  obtain rfl:=hc.nil'
  rfl
 | x :: es,_,hc=>by
  obtain ⟨a,m,rfl,_,hr⟩:=hc.cons'
  exact congrArg Nat.succ hr.length
theorem evL_length {r:Rc} {ρ:PEnv}:∀ {l:List PE} {ps:List PV},evL r ρ l=some ps→ps.length=l.length
 | [],_,e=>Option.some.inj e ▸ rfl
 | x :: l,ps,e=>by
  obtain ⟨v,_,k1⟩:=ob_i e
  obtain ⟨vs,hvs,k2⟩:=ob_i k1
  exact Option.some.inj k2 ▸ congrArg Nat.succ (evL_length hvs)
theorem call_named {x:Str} {v:Value} {np pos:Pos} {e:Expr} {es:List Expr} {l:List PE} {ps:List PV} (S:SndN cx G n) (I:InE cx (n+60) A env ns ρ H s) (hv:Callee cx v) (hc:CEs ns (e :: es) l) (he:evL (sem G n) ρ l=some ps)
  (ld:∀ {Q:Value→Shared→Prop},Q v s→wpAny (model cx.prog cx.w) A (eval (.Name x np) env) Q E s)
  (hcall:∀ vs h' tk',Ext cx cx.T s.heap h'→RepAll cx h' H vs ps→wpAny (model cx.prog cx.w) A (call v vs) Q E { s with heap:=h',toks:=tk' }) :
  wpAny (model cx.prog cx.w) A (eval (.Call (.Name x np) (e :: es) [] pos) env) Q E s:=by
 refine Call_ (ld (hv I.cn.gi (evL_ok S hc I he fun vs h' tk' e₁ r₁=>⟨e₁.gi I.cn.gi,hcall vs h' tk' e₁ r₁⟩) ?_ ?_))
 ·obtain ⟨_,_,_,hx,_⟩:=hc.cons'
  exact hx.facts.star _ _
 ·obtain ⟨_,_,_,_,hr⟩:=hc.cons'
  exact hr.plain
end
end Mine
end
section
set_option maxRecDepth 100000
open PySem PySem.Calls PyProof.Rows PySem.W
set_option genSizeOf false
set_option genInjectivity false
namespace Mine
section
variable {cx:Cx} {A:Around} {E:Value→Shared→Prop} {s:Shared} {H:Hid} {Q:Value→Shared→Prop}
noncomputable def intAt (ps:List PV) (i:Nat):Int:=((ps[i]?).bind int?).getD 0
theorem sumV_pre:∀ {ps:List PV} {a r:Int},sumV ps a=some r→r=a+preSum (intAt ps) ps.length∧∀ (i:Nat) (p:PV),ps[i]?=some p→∃ k,p=.int k∧intAt ps i=k
 | [],a,r,e=>⟨(Option.some.inj e).symm.trans (Int.add_zero a).symm,fun i p h=>nos h⟩
 | p :: ps,a,r,e=>by
  obtain ⟨k,hk,k1⟩:=ob_i e
  obtain rfl:=int_i hk
  obtain ⟨h1,h2⟩:=sumV_pre k1
  have sh:∀ n,preSum (intAt (.int k :: ps)) (n+1)=k+preSum (intAt ps) n:=fun n=>by
   induction n with
   | zero=>exact Int.add_comm 0 k
   | succ n ih =>
    rw [show preSum (intAt (.int k :: ps)) (n+1+1)=preSum (intAt (.int k :: ps)) (n+1)+intAt ps n from rfl,ih]
    exact Int.add_assoc ..
  refine ⟨by rw [h1,List.length_cons,sh,Int.add_assoc],fun i p h=>?_⟩
  cases i with
  | zero=>exact ⟨k,(Option.some.inj h).symm,rfl⟩
  | succ i=>exact h2 i p h
theorem iter_list {l:Addr} {items:Array Value} {Q:Value→Shared→Prop} (hl:s.heap.IsList l items)
  (h:∀ s₂:Shared,s₂={ s with heap:=s.heap.push { cls:=.type "list_iterator",data:=.fields #[.ref l,.int 0 0] } } →
   (s₂.heap.IsListIter s.heap.objs.size l 0∧s₂.heap.IsList l items)→(∀ b∈[s.heap.objs.size,l],b<s₂.heap.objs.size)→l ≠ s.heap.objs.size→Q (.ref s.heap.objs.size) s₂) :
  wpAny (model cx.prog cx.w) A (pyIter (.ref l)) Q E s:=by
 have hlt:l<s.heap.objs.size:=by obtain ⟨_,e,_⟩:=hl;exact Heap.lt_size e
 refine wpAny_pyIter_list hl (h _ rfl ⟨⟨_,Heap.get?_push_size _ rfl,rfl,rfl⟩,hl.push _⟩ (fun b hb=>?_) (Nat.ne_of_lt hlt))
 show b<(s.heap.push _).objs.size
 rw [Heap.size_push]
 rcases List.mem_cons.mp hb with rfl|hb
 ·exact Nat.lt_succ_self _
 ·rcases List.mem_cons.mp hb with rfl|hb
  ·exact Nat.lt_succ_of_lt hlt
  ·cases hb
theorem sum_ok {a:Addr} {vs:List Value} {ps:List PV} {r:Int} (hh:A.handled=none) (l:IsLs s.heap a vs) (x:RepAll cx s.heap H vs ps) (e:sumV ps 0=some r) (h:RetF cx s H false (.int r) Q) :
  wpAny (model cx.prog cx.w) A (call (.builtin "sum") [.ref a]) Q E s:=by
 obtain ⟨h1,h2⟩:=sumV_pre e
 refine call_sum_walkG (iter_list l.isList fun s₂ es st hfp hlI=>?_)
 subst es
 refine ⟨_,_,_,_,_,_,intAt ps,rfl,Walks.list (A:=A.in1) hh _ a hlI vs.toArray,st,hfp,fun i v hv=>?_,fun h' tk t' hk=>?_⟩
 ·have hv:vs[i]?=some v:=by simpa using hv
  have hlt:i<ps.length:=by rw [← x.length];exact (List.getElem?_eq_some_iff.mp hv).1
  have hp:ps[i]?=some ps[i]:=List.getElem?_eq_getElem hlt
  generalize ps[i]=p at hp
  obtain ⟨k,rfl,hk⟩:=h2 i p hp
  obtain ⟨v',e1,e2⟩:=x.get hp
  obtain rfl:=Option.some.inj (hv.symm.trans e1)
  rw [hk]
  exact e2
 ·have hr:preSum (intAt ps) vs.toArray.size=r:=by rw [List.size_toArray,x.length,h1,Int.zero_add]
  rw [hr]
  exact h.plain (.of_keep (old_kept hk)) (.int r t')
theorem max_ok {a b:Int} {t u:Tok} (hh:A.handled=none) (h:RetF cx s H false (.int (match intLt a b with|true=>b|false=>a)) Q) :
  wpAny (model cx.prog cx.w) A (call (.builtin "max") [.int a t,.int b u]) Q E s:=by
 refine max_two_ints hh fun h' tk hk=>?_
 rw [intLt_eq] at h
 by_cases q:a<b
 ·rw [if_pos q]
  rw [decide_eq_true q] at h
  exact h.plain (.of_keep hk) (.int b u)
 ·rw [if_neg q]
  rw [decide_eq_false q] at h
  exact h.plain (.of_keep hk) (.int a t)
theorem sizeLine_1:1000000≤sizeLine:=Nat.le_trans (by decide) sizeLine_big
theorem chr_ok {i:Int} {t:Tok} {r:PV} (e:chrV i=some r) (h:RetF cx s H false r Q):wpAny (model cx.prog cx.w) A (call (.builtin "chr") [.int i t]) Q E s:=by
 cases i with
 | negSucc n=>exact (Option.some_ne_none _ e.symm).elim
 | ofNat n =>
  obtain ⟨q,rfl⟩:=og_i e
  rw [Bool.and_eq_true,blt_true] at q
  refine PySem.P.chr_of_int ?_ h.str
  have h2:¬ ((Int.ofNat n) > 0x10FFFF):=fun z=>by have:=q.1;simp only [Int.ofNat_eq_natCast] at z;omega
  have h1:¬ (Int.ofNat n<0):=Int.not_lt.mpr (Int.natCast_nonneg n)
  rw [decide_eq_false h1,decide_eq_false h2];rfl
theorem hex_ok {i:Int} {t:Tok} (q:Nat.ble (hexV i).length 1000000=true) (h:RetF cx s H false (.str (hexV i)) Q):wpAny (model cx.prog cx.w) A (call (.builtin "hex") [.int i t]) Q E s:=by
 refine PySem.P.hex_of_int ?_ ?_
 ·have:=h.str (x:=hexV i) (t:=s.toks) (tk:=s.toks+1)
  rwa [hexV,S_of] at this
 ·show (baseText "0x" 16 i).cps.size≤sizeLine
  rw [← Array.length_toList]
  exact Nat.le_trans (ble_true.mp q) sizeLine_1
theorem divmod_ok {a b:Int} {t u:Tok} {r:PV} (c:Cn cx s.heap H) (e:divV a b=some r) (h:RetF cx s H false r Q):wpAny (model cx.prog cx.w) A (call (.builtin "divmod") [.int a t,.int b u]) Q E s:=by
 obtain ⟨q,rfl⟩:=og_i e
 obtain ⟨q1,q2⟩:=Bool.or_eq_false_iff.mp ((Bool.not_eq_true' _).mp q)
 refine PyProof.Rows.divmod_int (intBeq_false.mp q1) ?_ (.inl q2)
 exact RetF.newTup (vs:=[.int _ _,.int _ _]) c.hid h (.cons (.int _ _) (.cons (.int _ _) .nil))
theorem len_big {vs:List Value} {ps:List PV} (x:RepAll cx s.heap H vs ps) (q:lenOk ps=true):vs.toArray.size≤sizeLine∧vs.toArray.size=ps.length∧(vs.toArray.size:Int)<2 ^ 63:=by
 have e:vs.toArray.size=ps.length:=by rw [List.size_toArray,x.length]
 refine ⟨e ▸ Nat.le_trans (lenOk_le q) sizeLine_1,e,?_⟩
 rw [e]
 exact Int.lt_of_le_of_lt (Int.ofNat_le.mpr (lenOk_le q)) (by decide)
theorem len_ok {v:Value} {p r:PV} (x:Rep cx s.heap H v p) (e:lenV p=some r) (h:RetF cx s H false r Q):wpAny (model cx.prog cx.w) A (call (.builtin "len") [v]) Q E s:=by
 cases p with
 | list ps =>
  obtain ⟨a,vs,rfl,_,l,x⟩:=x.list'
  obtain ⟨q,rfl⟩:=og_i e
  obtain ⟨_,e1,b⟩:=len_big x q
  refine PyProof.Rows.len_list l.isList b ?_
  rw [e1]
  exact h.int
 | tup ps =>
  obtain ⟨a,vs,rfl,_,l,x⟩:=x.tup'
  obtain ⟨q,rfl⟩:=og_i e
  obtain ⟨_,e1,b⟩:=len_big x q
  refine PyProof.Rows.len_tuple l.isTup b ?_
  rw [e1]
  exact h.int
 | str y =>
  obtain ⟨t,rfl⟩:=x.str'
  obtain ⟨q,rfl⟩:=og_i e
  refine PySem.P.len_str (by rw [S_length];exact Int.not_le.mpr (Int.lt_of_le_of_lt (Int.ofNat_le.mpr (lenOk_le q)) (by decide))) ?_
  rw [S_length]
  exact h.int
 | _=>exact (Option.some_ne_none _ e.symm).elim
theorem ord_ok {x:List Nat} {t:Tok} {r:PV} (e:ordV x=some r) (h:RetF cx s H false r Q):wpAny (model cx.prog cx.w) A (call (.builtin "ord") [.str (S x) t]) Q E s:=by
 match x,e with
 | [c],e =>
  obtain rfl:=Option.some.inj e
  exact PySem.P.ord_of_char h.int
theorem tuple_ok {a:Addr} {vs:List Value} {ps:List PV} (c:Cn cx s.heap H) (l:IsLs s.heap a vs) (x:RepAll cx s.heap H vs ps) (q:lenOk ps=true) (h:RetF cx s H false (.tup ps) Q):wpAny (model cx.prog cx.w) A (call (.type "tuple") [.ref a]) Q E s:=by
 refine call_tuple_list l.isList (fun h' hk=>?_) (len_big x q).1
 have e2:Ext cx cx.T s.heap h':=.of_keep hk
 exact RetF.newTup (s:={ s with heap:=h',toks:=s.toks }) (tk:=s.toks) (c.ext e2).hid (h.after e2) (x.ext e2 c.tH)
theorem bi_ok {b:BI} {f:Str} {v:Value} {vs:List Value} {ps:List PV} {r:PV} (hb:biNm b=some (f,v)) (hh:A.handled=none) (c:Cn cx s.heap H) (x:RepAll cx s.heap H vs ps) (e:biV b ps=some r) (h:RetF cx s H false r Q) :
  wpAny (model cx.prog cx.w) A (call v vs) Q E s:=by
 cases b with
 | len =>
  obtain ⟨p,h1,e⟩:=ob_i e
  obtain ⟨w,rfl,x1⟩:=x.one h1
  obtain rfl:=(Prod.mk.inj (Option.some.inj hb)).2
  exact len_ok x1 e h
 | ord =>
  obtain ⟨p,h1,e⟩:=ob_i e
  obtain ⟨w,rfl,x1⟩:=x.one h1
  obtain ⟨y,h2,e⟩:=ob_i e
  obtain ⟨t,rfl⟩:=x1.toStr h2
  obtain rfl:=(Prod.mk.inj (Option.some.inj hb)).2
  exact ord_ok e h
 | chr =>
  obtain ⟨p,h1,e⟩:=ob_i e
  obtain ⟨w,rfl,x1⟩:=x.one h1
  obtain ⟨y,h2,e⟩:=ob_i e
  obtain ⟨t,rfl⟩:=x1.toInt h2
  obtain rfl:=(Prod.mk.inj (Option.some.inj hb)).2
  exact chr_ok e h
 | sum =>
  obtain ⟨p,h1,e⟩:=ob_i e
  obtain ⟨w,rfl,x1⟩:=x.one h1
  obtain ⟨y,h2,e⟩:=ob_i e
  obtain ⟨a,ws,rfl,_,l,x2⟩:=x1.toList h2
  obtain ⟨y',h3,e3⟩:=ob_i e
  obtain ⟨_,rfl⟩:=og_i h3
  obtain ⟨i,h4,e4⟩:=ob_i e3
  obtain rfl:=Option.some.inj e4
  obtain rfl:=(Prod.mk.inj (Option.some.inj hb)).2
  exact sum_ok hh l x2 h4 h
 | max =>
  obtain ⟨p,h1,e⟩:=ob_i e
  obtain ⟨w,w',rfl,x1,y1⟩:=x.two h1
  obtain ⟨i,h2,e⟩:=ob_i e
  obtain ⟨j,h3,e⟩:=ob_i e
  obtain ⟨t,rfl⟩:=x1.toInt h2
  obtain ⟨u,rfl⟩:=y1.toInt h3
  obtain rfl:=Option.some.inj e
  obtain rfl:=(Prod.mk.inj (Option.some.inj hb)).2
  exact max_ok hh h
 | hex =>
  obtain ⟨p,h1,e⟩:=ob_i e
  obtain ⟨w,rfl,x1⟩:=x.one h1
  obtain ⟨y,h2,e⟩:=ob_i e
  obtain ⟨t,rfl⟩:=x1.toInt h2
  obtain ⟨q,rfl⟩:=og_i e
  obtain rfl:=(Prod.mk.inj (Option.some.inj hb)).2
  exact hex_ok q h
 | divmod =>
  obtain ⟨p,h1,e⟩:=ob_i e
  obtain ⟨w,w',rfl,x1,y1⟩:=x.two h1
  obtain ⟨i,h2,e⟩:=ob_i e
  obtain ⟨j,h3,e⟩:=ob_i e
  obtain ⟨t,rfl⟩:=x1.toInt h2
  obtain ⟨u,rfl⟩:=y1.toInt h3
  obtain rfl:=(Prod.mk.inj (Option.some.inj hb)).2
  exact divmod_ok c e h
 | tuple =>
  obtain ⟨p,h1,e⟩:=ob_i e
  obtain ⟨w,rfl,x1⟩:=x.one h1
  obtain ⟨y,h2,e⟩:=ob_i e
  obtain ⟨a,ws,rfl,_,l,x2⟩:=x1.toList h2
  obtain ⟨q,rfl⟩:=og_i e
  obtain rfl:=(Prod.mk.inj (Option.some.inj hb)).2
  exact tuple_ok c l x2 q h
 | _=>exact (Option.some_ne_none _ hb.symm).elim
theorem strs_rep {h:Heap}:∀ {vs:List Value} {ps:List PV} {xs:List (List Nat)},RepAll cx h H vs ps→strs? ps=some xs→StrsAre vs (xs.map S)
 | _,[],_,x,e=>by obtain rfl:=x.nil';obtain rfl:=Option.some.inj e;exact .nil
 | _,p :: ps,_,x,e=>by
  obtain ⟨v,ws,rfl,x,y⟩:=x.cons'
  obtain ⟨z,h1,e⟩:=ob_i e
  obtain ⟨l,h2,e⟩:=ob_i e
  obtain ⟨t,rfl⟩:=x.toStr h1
  obtain rfl:=Option.some.inj e
  exact .cons (S z) t (strs_rep y h2)
theorem join_flat (glue:List Nat):∀ (l:List (List Nat)) (acc:Array Nat),(List.foldl (fun acc (p:Str)=>acc++(S glue).cps++p.cps) acc (l.map S)).toList=acc.toList++(l.map fun x=>glue++x).flatten
 | [],acc=>by simp
 | x :: l,acc=>by
  rw [List.map_cons,List.foldl_cons,join_flat glue l,List.map_cons,List.flatten_cons]
  simp
theorem joinV_flat (glue:List Nat):∀ (x:List Nat) (l:List (List Nat)),joinV glue (x :: l)=x++(l.map fun x=>glue++x).flatten
 | x,[]=>by simp [joinV]
 | x,y :: l=>by
  rw [joinV,joinV_flat glue y l]
  ·simp
  ·intro h;cases h
theorem join_eq (sep:List Nat) (xs:List (List Nat)):Txt.join (S sep) (xs.map S)=S (joinV sep xs):=by
 have:∀ a b:Str,a.cps.toList=b.cps.toList→a=b:=fun a b h=>by
  cases a;cases b
  simp only [Str.mk.injEq]
  exact Array.toList_inj.mp h
 apply this
 unfold Txt.join Builtin.Str.glued
 cases xs with
 | nil=>rfl
 | cons x l =>
  simp only [List.map_cons,List.headD_cons,List.drop_succ_cons,List.drop_zero]
  rw [join_flat sep l,joinV_flat]
theorem sumLen_eq:∀ xs:List (List Nat),((xs.map S).map (·.length)).sum=sumLen xs
 | []=>rfl
 | x :: r=>by rw [List.map_cons,List.map_cons,List.sum_cons,sumLen_eq r,S_length];rfl
theorem strVals_rep {h:Heap}:∀ {l:List (Str × Tok)} {xs:List Str},l.map (·.1)=xs→RepAll cx h H (PySem.strValues l) (xs.map fun z=>.str z.cps.toList)
 | [],_,e=>by subst e;exact .nil
 | (y,t) :: l,_,e=>by
  subst e
  have:=Rep.str (cx:=cx) (h:=h) (H:=H) y.cps.toList t
  rw [S_of] at this
  exact .cons this (strVals_rep (l:=l) rfl)
noncomputable def mkId:MK→String
 | .join=>"str.join" | .split=>"str.split" | .bitLength=>"int.bit_length" | .upper=>"str.upper" | .lower=>"str.lower"
theorem upper_ok {x:List Nat} {t:Tok} (q:Nat.ble (Txt.upper (S x)).length 1000000=true) (h:RetF cx s H false (.str (Txt.upper (S x)).cps.toList) Q):wpAny (model cx.prog cx.w) A (call (.builtin "str.upper") [.str (S x) t]) Q E s:=by
 refine SC.upper ?_ ?_
 ·unfold Builtin.Str.tooLong
  exact decide_eq_false (Nat.not_lt.mpr (Nat.le_trans (ble_true.mp q) sizeLine_1))
 ·have:=h.str (x:=(Txt.upper (S x)).cps.toList) (t:=s.toks) (tk:=s.toks+1)
  rwa [S_of] at this
theorem lower_ok {x:List Nat} {t:Tok} (q:Nat.ble (Txt.lower (S x)).length 1000000=true) (h:RetF cx s H false (.str (Txt.lower (S x)).cps.toList) Q):wpAny (model cx.prog cx.w) A (call (.builtin "str.lower") [.str (S x) t]) Q E s:=by
 refine SC.lower ?_ ?_
 ·unfold Builtin.Str.tooLong
  exact decide_eq_false (Nat.not_lt.mpr (Nat.le_trans (ble_true.mp q) sizeLine_1))
 ·have:=h.str (x:=(Txt.lower (S x)).cps.toList) (t:=s.toks) (tk:=s.toks+1)
  rwa [S_of] at this
theorem join_ok {x:List Nat} {xs:List (List Nat)} {t:Tok} {a:Addr} {vs:List Value} {ps:List PV} (l:IsLs s.heap a vs) (y:RepAll cx s.heap H vs ps) (hx:strs? ps=some xs) (q:Nat.ble (sumLen xs+xs.length*x.length) 1000000=true) (h:RetF cx s H false (.str (joinV x xs)) Q) :
  wpAny (model cx.prog cx.w) A (call (.builtin "str.join") [.str (S x) t,.ref a]) Q E s:=by
 refine join_list l.isList (ys:=xs.map S) (by simpa using strs_rep y hx) ?_ (fun t' k=>?_)
 ·rw [sumLen_eq,S_length,List.length_map];exact Nat.le_trans (ble_true.mp q) sizeLine_1
 ·rw [join_eq];exact h.str
theorem split_ok {x y:List Nat} {t u:Tok} (c:Cn cx s.heap H) (q1:x.length≤100000) (q2:0<y.length) (h:RetF cx s H false (.list ((Txt.split (S x) (S y)).map fun z=>.str z.cps.toList)) Q):wpAny (model cx.prog cx.w) A (call (.builtin "str.split") [.str (S x) t,.str (S y) u]) Q E s:=by
 have big:=sizeLine_big
 have hy:((S y).length == 0)=false:=by rw [S_length,beq_eq_false_iff_ne];omega
 have hsz:(S x).length≤sizeLine:=by rw [S_length];omega
 have hsz2:(Builtin.Str.partsBetween (S x) (Builtin.Str.occurrences (S x) (S y) 0 (S x).length ((S x).length+1)) (S y).length).length≤sizeLine:=by
  rw [length_partsBetween]
  have:=StrLaws.occ_length_le (S x) (S y) 0 (S x).length ((S x).length+1)
  have:=S_length x
  omega
 have fin:∀ (l:List (Str × Tok)) k,l.map (·.1)=Txt.split (S x) (S y)→Q (.ref s.heap.objs.size) { s with heap:=s.heap.push { cls:=.type "list",data:=.seq (PySem.strValues l).toArray },toks:=k }:=fun l k hl =>
  RetF.newList c.hid h (strVals_rep hl)
 open Builtin.Str in
 cases h1:(decide ((S x).length<(S y).length) || decide (strKind (S x)<strKind (S y)))
 ·cases hf:(occurrences (S x) (S y) 0 (S x).length ((S x).length+1)).isEmpty
  ·refine call_meets F.slot_str_split (typeIs_str _ _ _) F.entry_str_split (F.args_str_split_2 _ _) (meets_str_split_sep (S x) (S y) t u h1 hy hf hsz hsz2) ?_
   show wants Q E _ { s with toks:=_,heap:=s.heap.push { cls:=.type "list",data:=.seq (strsFrom s.toks (partsBetween (S x) (occurrences (S x) (S y) 0 (S x).length ((S x).length+1)) (S y).length)).toArray } }
   rw [strsFrom_eq]
   exact fin _ _ ((numbered_texts _ _).trans ((if_neg (ne_true_of_eq_false h1)).trans (if_neg (ne_true_of_eq_false hf))).symm)
  ·exact call_meets F.slot_str_split (typeIs_str _ _ _) F.entry_str_split (F.args_str_split_2 _ _) (meets_str_split_not_found (S x) (S y) t u h1 hy hf)
    (fin [(S x,t)] s.toks ((if_neg (ne_true_of_eq_false h1)).trans (if_pos hf)).symm)
 ·exact call_meets F.slot_str_split (typeIs_str _ _ _) F.entry_str_split (F.args_str_split_2 _ _) (meets_str_split_cannot_occur (S x) (S y) t u h1)
   (fin [(S x,t)] s.toks (if_pos h1).symm)
end
end Mine
end
section
set_option maxRecDepth 100000
open PySem PySem.Calls PyProof.Rows PySem.W
set_option genSizeOf false
set_option genInjectivity false
namespace Mine
theorem AttrsAre.get {H:Hid} {cx:Cx} {h:Heap} {x:Str} (ok:okN x=true) {r:PV}:∀ {ks:List Nat} {ps:List PV} {m:Str→Option Value} {vs:List Value},AttrsAre m ks vs→RepAll cx h H vs ps→attrV (enc x) ks ps=some r→∃ v,m x=some v∧Rep cx h H v r
 | [],_,_,_,_,_,e=>nos e
 | _ :: _,[],_,_,_,_,e=>nos e
 | _ :: ks,p :: ps,m,_,hat,a,e=>by
  obtain ⟨y,v,ws,m',rfl,rfl,ok',r',hm⟩:=hat
  obtain ⟨_,_,h1,a1,a2⟩:=a
  obtain ⟨rfl,rfl⟩:=List.cons.inj h1
  have e:(match Nat.beq (enc x) (enc y) with|true=>some p|false=>attrV (enc x) ks ps)=some r:=e
  rw [hm]
  cases q:Nat.beq (enc x) (enc y) with
  | true =>
   rw [q] at e
   exact ⟨v,if_pos (enc_inj ok ok' (Nat.eq_of_beq_eq_true q)),Option.some.inj e ▸ a1⟩
  | false =>
   rw [q] at e
   rw [if_neg fun z=>Nat.ne_of_beq_eq_false q (congrArg enc z)]
   exact r'.get ok a2 e
theorem AttrsAre.miss {x:Str}:∀ {ks:List Nat} {m:Str→Option Value} {vs:List Value},AttrsAre m ks vs→PEnv.has ks (enc x)=false→m x=none
 | [],_,_,hat,_=>hat.2 x
 | _ :: ks,m,_,hat,e=>by
  obtain ⟨y,v,ws,m',rfl,rfl,ok',r',hm⟩:=hat
  obtain ⟨e1,e2⟩:=Bool.or_eq_false_iff.mp (show (Nat.beq (enc x) (enc y) || PEnv.has ks (enc x))=false from e)
  rw [hm,if_neg fun z=>Nat.ne_of_beq_eq_false e1 (congrArg enc z)]
  exact r'.miss e2
theorem IsIn.inst {h:Heap} {a C d:Addr} {m:Str→Option Value} (x:IsIn h a C d) (n:d ≠ a) (y:h.Ns1 d m):h.Inst a C m:=by
 obtain ⟨o,h1,h2,h3,h4⟩:=x
 exact ⟨o,h1,h2,h3,.inr ⟨d,h4,n,y⟩⟩
theorem handed_rep {cx:Cx} {h:Heap} {H:Hid} {v:Value} {p:PV} (x:Rep cx h H v p):handedOut v=pure v:=by
 cases p with
 | none=>obtain rfl:=x.none';rfl
 | bool b=>obtain rfl:=x.bool';rfl
 | int i=>obtain ⟨_,rfl⟩:=x.int';rfl
 | str i=>obtain ⟨_,rfl⟩:=x.str';rfl
 | _=>obtain ⟨_,e⟩:=x.isRef;rw [e];rfl
section
variable {cx:Cx} {G:Gl} {n:Nat} {ns:Ns} {A:Around} {env:Env} {ρ:PEnv} {H:Hid} {s:Shared} {E:Value→Shared→Prop} {Q:Value→Shared→Prop}
theorem attr_ok (g:GOk cx G) {v:Value} {x:Str} {ks:List Nat} {ps:List PV} {r:PV} (ok:okN x=true) (ha:x∈atNames) (c:Cn cx s.heap H) (hr:Rep cx s.heap H v (.inst ks ps)) (e:attrV (enc x) ks ps=some r) (h:RetF cx s H false r Q) :
  wpAny (model cx.prog cx.w) A (getAttr v x true) Q E s:=by
 obtain ⟨_,_,_,_,rfl,n1,n2,hi,ne,hns,hat,hall⟩:=hr.inst'
 obtain ⟨N,mN,hcls,h1,h2,h3,_⟩:=g.cls
 obtain ⟨v',e1,e2⟩:=hat.get ok hall e
 have X:=hcls _ c.gi
 obtain ⟨nm,q,bs,sn,sub,col,dd,k0,k1,k2,k3,k5,hC⟩:=X.obj
 have hQ:Q v' ⟨s.heap,s.gens,s.drawn,s.toks+1,s.os⟩:=h.plain (tk:=s.toks+1) .refl e2
 have:=load_attr (prog:=cx.prog) (w:=cx.w) (A:=A) (E:=E) (g:=s.gens) (d:=s.drawn) (t:=s.toks) (os:=s.os) (expr:=true) hC X.ns h1 (h3 x ha).1 (h3 x ha).2 (hi.inst ne hns) e1 (handed_rep e2) hQ
 exact this
theorem glob_rep {v:Value} {p:PV} (c:Cn cx s.heap H) (x:Rep cx s.heap (fun a=>¬ cx.GA a∨cx.B a) v p):Rep cx s.heap H v p:=x.open' fun a hH=>by
 by_cases q:cx.GA a
 ·exact .inr (c.hg a hH q)
 ·exact .inl q
theorem args_of (S:SndN cx G n) {es:List Expr} {l:List PE} {ps:List PV} {pos:Pos} {v:Value} {id:String} {first:List Value} (I:InE cx (n+60) A env ns ρ H s) (hv:v=.builtin id) (hc:CEs ns es l) (he:evL (sem G n) ρ l=some ps)
  (hcall:∀ vs h' tk',Ext cx cx.T s.heap h'→RepAll cx h' H vs ps→wpAny (model cx.prog cx.w) A (call v (first++vs)) Q E { s with heap:=h',toks:=tk' }) :
  wpAny (model cx.prog cx.w) A (callWith pos v first (backTo pos (starEach es env)) []) Q E s:=by
 subst hv
 cases es with
 | nil =>
  obtain rfl:=hc.nil'
  exact callWith_builtin rfl (PyProof.Rows.evalArgs_none (hcall [] s.heap s.toks .refl (Option.some.inj he ▸ .nil)))
 | cons x es =>
  have hs:=evL_ok S hc I he (E:=E) (pos:=pos) (Q:=fun vs s'=>wpAny (model cx.prog cx.w) A (call (.builtin id) (first++vs)) Q E s') hcall
  obtain ⟨a,m,rfl,hx,hr⟩:=hc.cons'
  rw [hx.facts.star] at hs ⊢
  exact callWith_builtin (by show (false || (backTo pos (starEach _ env)).any (·.1))=false;rw [hr.plain];rfl) (evalArgs_plain hs)
theorem args_fun (S:SndN cx G n) {es:List Expr} {l:List PE} {ps:List PV} {pos:Pos} {f:Addr} {o:Obj} {fd:FuncData} {first:List Value} (I:InE cx (n+60) A env ns ρ H s) (ho:∀ h,cx.GI h→h.get? f=some o) (hd:o.data=.func fd) (hc:CEs ns es l) (he:evL (sem G n) ρ l=some ps)
  (hcall:∀ vs h' tk',Ext cx cx.T s.heap h'→RepAll cx h' H vs ps→wpAny (model cx.prog cx.w) A (call (.ref f) (first++vs)) Q E { s with heap:=h',toks:=tk' }) :
  wpAny (model cx.prog cx.w) A (callWith pos (.ref f) first (backTo pos (starEach es env)) []) Q E s:=by
 cases es with
 | nil =>
  obtain rfl:=hc.nil'
  exact callWith_function (o:=o) (fd:=fd) (PyProof.Rows.evalArgs_none ⟨⟨ho _ I.cn.gi,hd⟩,hcall [] s.heap s.toks .refl (Option.some.inj he ▸ .nil)⟩)
 | cons x es =>
  have hs:=evL_ok S hc I he (E:=E) (pos:=pos) (Q:=fun vs s'=>(s'.heap.get? f=some o∧o.data=.func fd)∧wpAny (model cx.prog cx.w) A (call (.ref f) (first++vs)) Q E s')
   (fun vs h' tk' e r=>⟨⟨ho _ (e.gi I.cn.gi),hd⟩,hcall vs h' tk' e r⟩)
  obtain ⟨a,m,rfl,hx,hr⟩:=hc.cons'
  rw [hx.facts.star] at hs ⊢
  exact callWith_function (evalArgs_plain hs)
theorem meth_ok {m:MK} {v:Value} {vs:List Value} {p:PV} {ps:List PV} {r:PV} (c:Cn cx s.heap H) (x:Rep cx s.heap H v p) (y:RepAll cx s.heap H vs ps) (e:methV m p ps=some r) (h:RetF cx s H false r Q) :
  wpAny (model cx.prog cx.w) A (call (.builtin (mkId m)) (v :: vs)) Q E s:=by
 cases m with
 | join =>
  obtain ⟨sep,h1,e1⟩:=ob_i e
  obtain ⟨t,rfl⟩:=x.toStr h1
  obtain ⟨q,h2,e2⟩:=ob_i e1
  obtain ⟨w,rfl,y1⟩:=y.one h2
  obtain ⟨zs,h3,e3⟩:=ob_i e2
  obtain ⟨a,ws,rfl,_,l,y2⟩:=y1.toList h3
  obtain ⟨xs,h4,e4⟩:=ob_i e3
  obtain ⟨h5,rfl⟩:=og_i e4
  exact join_ok l y2 h4 h5 h
 | split =>
  obtain ⟨z,h1,e1⟩:=ob_i e
  obtain ⟨t,rfl⟩:=x.toStr h1
  obtain ⟨q,h2,e2⟩:=ob_i e1
  obtain ⟨w,rfl,y1⟩:=y.one h2
  obtain ⟨zs,h3,e3⟩:=ob_i e2
  obtain ⟨u,rfl⟩:=y1.toStr h3
  obtain ⟨h5,rfl⟩:=og_i e3
  obtain ⟨q1,q2⟩:=(Bool.and_eq_true _ _).mp h5
  exact split_ok c (ble_true.mp q1) (blt_true.mp q2) h
 | bitLength =>
  obtain ⟨i,h1,e1⟩:=ob_i e
  obtain ⟨t,rfl⟩:=x.toInt h1
  obtain ⟨h5,rfl⟩:=og_i e1
  obtain rfl:=List.isEmpty_iff.mp h5
  obtain rfl:=y.nil'
  exact PyProof.Rows.call_int_bit_length h.int
 | upper =>
  obtain ⟨z,h1,e1⟩:=ob_i e
  obtain ⟨t,rfl⟩:=x.toStr h1
  obtain ⟨h5,rfl⟩:=og_i e1
  obtain ⟨q1,q2⟩:=(Bool.and_eq_true _ _).mp h5
  obtain rfl:=List.isEmpty_iff.mp q1
  obtain rfl:=y.nil'
  exact upper_ok q2 h
 | lower =>
  obtain ⟨z,h1,e1⟩:=ob_i e
  obtain ⟨t,rfl⟩:=x.toStr h1
  obtain ⟨h5,rfl⟩:=og_i e1
  obtain ⟨q1,q2⟩:=(Bool.and_eq_true _ _).mp h5
  obtain rfl:=List.isEmpty_iff.mp q1
  obtain rfl:=y.nil'
  exact lower_ok q2 h
end
end Mine
end
section
set_option maxRecDepth 100000
open PySem PySem.Calls PyProof.Rows PySem.W
set_option genSizeOf false
set_option genInjectivity false
namespace Mine
section
variable {cx:Cx} {G:Gl} {n:Nat} {ns:Ns} {A:Around} {env:Env} {ρ:PEnv} {H:Hid} {s:Shared} {E:Value→Shared→Prop} {Q:Value→Shared→Prop}
theorem call_method {M:Model} {o:Expr} {name:Str} {apos pos:Pos} {args:List Expr} (hbase:attributeBase o name env (eval o env)=eval o env)
  (hfew:methodCallForm (args.length+([]:List Keyword).length) (backTo pos (starEach args env)) (backToKw pos (keywordEach [] env))=true) (hline:(apos.endLine == pos.line)=true)
  (h:wpAny M A (eval o env) (fun ov s₁=>∀ pl,wpAny M A (getMethod ov name pl) (fun r s₂=>wpAny M A (callWith pos r.1 r.2 (backTo pos (starEach args env)) []) Q E s₂) E s₁) E s) :
  wpAny M A (eval (.Call (.Attribute o name apos) args [] pos) env) Q E s:=by
 rw [arm_eval_Call,hbase]
 refine wpAny_bind (wpAny_mono h (fun ov s₁ h₁=>?_) fun _ _ e=>e)
 refine wpAny_bind (wpAny_standAt ?_)
 have hpos:methodCallPos true o env apos pos=pure pos:=by unfold methodCallPos;simp [hline]
 unfold methodCall
 rw [hfew]
 refine wpAny_bind (wpAny_holding ?_)
 unfold calleeOf
 rw [if_pos rfl]
 refine wpAny_mono (h₁ _) (fun r s₂ h₂=>?_) fun _ _ e=>e
 obtain ⟨f,first⟩:=r
 exact wpAny_bind (wpAny_of_eq hpos h₂)
theorem few_of {es:List Expr} {l:List PE} (hc:CEs ns es l) (hl:es.length<10) {pos:Pos}:methodCallForm (es.length+([]:List Keyword).length) (backTo pos (starEach es env)) (backToKw pos (keywordEach [] env))=true:=by
 have h1:(backTo pos (starEach es env)).all (fun x=>!x.1)=true:=by
  have:=hc.plain (env:=env) (pos:=pos)
  rw [List.any_eq_not_all_not,Bool.not_eq_false'] at this
  exact this
 unfold methodCallForm
 rw [h1]
 exact decide_eq_true (Nat.lt_trans hl (by decide))
theorem boot_list:bootBuiltins "list"=some (.type "list"):=by decide +kernel
theorem boot_dict:bootBuiltins "dict"=some (.type "dict"):=by decide +kernel
theorem boot_range:bootBuiltins "range"=some (.type "range"):=by decide +kernel
theorem boot_zip:bootBuiltins "zip"=some (.type "zip"):=by decide +kernel
theorem boot_reversed:bootBuiltins "reversed"=some (.type "reversed"):=by decide +kernel
noncomputable def callB (v:Value):Bool:=match v with
 | .builtin _=>true
 | .type _=>true
 | _=>false
theorem callB_ok {cx:Cx} {v:Value} (h:callB v=true):Callee cx v:=by
 cases v <;> first|exact (Bool.false_ne_true h).elim|exact callee_builtin|exact callee_type
noncomputable def bootB (t:Str × Value):Bool:=biNames.contains t.1 && (decide (t.1 ≠ "__name__") && (decide (bootBuiltins t.1=some t.2) && callB t.2))
theorem boots:(bis.all fun b=>(biNm b).any bootB)=true:=by decide +kernel
theorem bi_facts (g:GOk cx G) {b:BI} {f:Str} {v:Value} (hb:b∈bis) (h:biNm b=some (f,v)):cx.mg f=none∧f ≠ "__name__"∧bootBuiltins f=some v∧Callee cx v:=by
 have q:=List.all_eq_true.mp boots b hb
 rw [h] at q
 obtain ⟨q1,q⟩:=Bool.and_eq_true_iff.mp (show bootB (f,v)=true from q)
 obtain ⟨q2,q⟩:=Bool.and_eq_true_iff.mp q
 obtain ⟨q3,q4⟩:=Bool.and_eq_true_iff.mp q
 exact ⟨g.bi _ (List.contains_iff_mem.mp q1),of_decide_eq_true q2,of_decide_eq_true q3,callB_ok q4⟩
set_option maxHeartbeats 4000000 in
theorem meth_find {m:MK} {v:Value} {p:PV} {ps:List PV} {r:PV} {pl:Sem Bool} {Q:Value × List Value→Shared→Prop} (x:Rep cx s.heap H v p) (e:methV m p ps=some r) (h:Q (.builtin (mkId m),[v]) s) :
  wpAny (model cx.prog cx.w) A (getMethod v (mkNm m) pl) Q E s:=by
 cases m with
 | join =>
  obtain ⟨z,h1,_⟩:=ob_i e
  obtain ⟨t,rfl⟩:=x.toStr h1
  exact GM.join h
 | split =>
  obtain ⟨z,h1,_⟩:=ob_i e
  obtain ⟨t,rfl⟩:=x.toStr h1
  exact GM.split h
 | upper =>
  obtain ⟨z,h1,_⟩:=ob_i e
  obtain ⟨t,rfl⟩:=x.toStr h1
  exact GM.upper h
 | lower =>
  obtain ⟨z,h1,_⟩:=ob_i e
  obtain ⟨t,rfl⟩:=x.toStr h1
  exact GM.lower h
 | bitLength =>
  obtain ⟨z,h1,_⟩:=ob_i e
  obtain ⟨t,rfl⟩:=x.toInt h1
  have h2:Q (.builtin "int.bit_length",[_]) s:=h
  show wpAny _ _ (getMethod _ ("bit_length":Str) _) _ _ _
  exact getMethod_builtin (typeIs_int _ _ _) F.plainAttrs_int F.slot_int_bit_length F.type_int_bit_length (fun _ e=>nomatch e) h2
theorem bin_ok {k:BinK} {v u:Value} {x y r:PV} {fr:Bool} (c:Cn cx s.heap H) (a:Rep cx s.heap H v x) (b:Rep cx s.heap H u y) (e:binV k x y=some r) (h:RetF cx s H fr r Q) :
  wpAny (model cx.prog cx.w) A (binaryOp (opOf k) v u) Q E s:=by
 cases x with
 | int i =>
  obtain ⟨j,h1,e1⟩:=ob_i e
  obtain ⟨t,rfl⟩:=a.int'
  obtain ⟨u,rfl⟩:=b.toInt h1
  exact (bin_int e1 h).1
 | str i =>
  obtain ⟨t,rfl⟩:=a.str'
  cases k with
  | add =>
   obtain ⟨j,h1,e1⟩:=ob_i e
   obtain ⟨u,rfl⟩:=b.toStr h1
   exact bin_str e1 h
  | mul =>
   obtain ⟨j,h1,e1⟩:=ob_i e
   obtain ⟨u,rfl⟩:=b.toInt h1
   exact bin_strmul e1 h
  | _=>exact (Option.some_ne_none _ e.symm).elim
 | list i =>
  cases k with
  | add =>
   obtain ⟨j,h1,e1⟩:=ob_i e
   exact bin_list c.hid a (list_i h1 ▸ b) e1 h
  | mul =>
   obtain ⟨j,h1,e1⟩:=ob_i e
   obtain ⟨u,rfl⟩:=b.toInt h1
   exact bin_listmul c.hid a e1 h
  | _=>exact (Option.some_ne_none _ e.symm).elim
 | _=>exact (Option.some_ne_none _ e.symm).elim
end
end Mine
end
section
set_option maxRecDepth 100000
open PySem PySem.Calls PyProof.Rows PySem.W
set_option genSizeOf false
set_option genInjectivity false
namespace Mine
structure Rest (cx:Cx) (G:Gl) (n:Nat):Prop where
 comp:∀ {ns:Ns} {elt target iter:Expr} {ifs:List Expr} {scope:Scope} {p:Pos} {pe pi:PE} {pifs:List PE} {xs:List Nat} {si:Bool} {caps:List Nat}
  {A:Around} {env:Env} {ρ:PEnv} {H:Hid} {s:Shared} {v:PV} {Q:Value→Shared→Prop} {E:Value→Shared→Prop},
  CompOk ns scope caps→CTg scope.names target xs si→CI ns iter pi→CTs scope.names ifs pifs→CE scope.names elt pe →
  InE cx (n+60) A env ns ρ H s→evStep G (sem G n) ρ (.comp pe xs si pi pifs caps)=some v→RetF cx s H false v Q→wpAny (model cx.prog cx.w) A (eval (.ListComp elt [⟨target,iter,ifs,0⟩] scope p) env) Q E s
 lrange:∀ {A:Around} {E:Value→Shared→Prop} {s:Shared} {H:Hid} {Q:Value→Shared→Prop} {vs:List Value} {ps:List PV} {r:PV},A.handled=none→Cn cx s.heap H→RepAll cx s.heap H vs ps→biV .listRange ps=some r→RetF cx s H false r Q →
  wpAny (model cx.prog cx.w) A (call (.type "range") vs) (fun v s₁=>cx.GI s₁.heap∧wpAny (model cx.prog cx.w) A (call (.type "list") [v]) Q E s₁) E s
 dzip:∀ {A:Around} {E:Value→Shared→Prop} {s:Shared} {H:Hid} {Q:Value→Shared→Prop} {vs:List Value} {ps:List PV} {r:PV},A.handled=none→Cn cx s.heap H→RepAll cx s.heap H vs ps→biV .dictZip ps=some r→RetF cx s H false r Q →
  wpAny (model cx.prog cx.w) A (call (.type "zip") vs) (fun v s₁=>cx.GI s₁.heap∧wpAny (model cx.prog cx.w) A (call (.type "dict") [v]) Q E s₁) E s
section
variable {r:Rc} {G:Gl} {ρ:PEnv} {m:Nat} {ns:Ns} {pe:PE} {p:PV} {P:Prop}
theorem i_name {x:Str} {q:Pos} (hc:trE1 (tr m) ns (.Name x q)=some pe) (he:evStep G r ρ pe=some p) (g:okN x=true→NoDbg x→Glb ns x→G.gv (enc x)=some p→freshE pe p=false→P) (K:∀ b,okN x=true→NoDbg x→PEnv.get ρ (enc x)=some (b,p)→freshE pe p=false→P):P:=by
 obtain ⟨h,k1⟩:=ogo_i hc
 obtain ⟨ok,hd⟩:=okD_i h
 rcases oe_i k1 with ⟨hg,k2⟩|k2
 ·obtain rfl:=Option.some.inj k2
  exact g ok hd (glbB_i hg) he rfl
 ·obtain rfl:=Option.some.inj k2
  refine ob_e he fun b hv k=>K b.1 ok hd ?_ rfl
  rw [hv,← Option.some.inj k]
theorem i_bin {l y:Expr} {o:Operator} {q:Pos} (hc:trE1 (tr m) ns (.BinOp l o y q)=some pe) (he:evStep G r ρ pe=some p) (K:∀ k a b x z,opOf k=o→CE ns l a→CE ns y b→r.ev ρ a=some x→r.ev ρ b=some z→binV k x z=some p→P):P:=by
 refine ob_e hc fun k hk k1=>ob_e k1 fun a h1 k2=>ob_e k2 fun b h2 k3=>?_
 obtain rfl:=Option.some.inj k3
 exact ob_e he fun x hx k1=>ob_e k1 fun z hz k2=>K k a b x z (binOf_i hk) ⟨m,h1⟩ ⟨m,h2⟩ hx hz k2
theorem i_un {y:Expr} {o:UnaryOp} {q:Pos} (hc:trE1 (tr m) ns (.UnaryOp o y q)=some pe) (he:evStep G r ρ pe=some p) (K:∀ a x,CE ns y a→r.ev ρ a=some x→(∃ i,int? x=some i∧((o=.USub∧p=.int (-i))∨(o=.Invert∧p=.int (-i - 1))))∨(∃ b,o=.Not∧truthV x=some b∧p=.bool (!b))→freshE pe p=false→P):P:=by
 refine ob_e hc fun a h1 k1=>?_
 induction o using UnaryOp.casesOn with
 | USub =>
  obtain rfl:=Option.some.inj k1
  exact ob_e he fun x hx k1=>ob_e k1 fun i hi k2=>K a x ⟨m,h1⟩ hx (.inl ⟨i,hi,.inl ⟨rfl,(Option.some.inj k2).symm⟩⟩) rfl
 | Invert =>
  obtain rfl:=Option.some.inj k1
  exact ob_e he fun x hx k1=>ob_e k1 fun i hi k2=>K a x ⟨m,h1⟩ hx (.inl ⟨i,hi,.inr ⟨rfl,(Option.some.inj k2).symm⟩⟩) rfl
 | Not =>
  obtain rfl:=Option.some.inj k1
  exact ob_e he fun x hx k1=>ob_e k1 fun b hb k2=>K a x ⟨m,h1⟩ hx (.inr ⟨b,rfl,hb,(Option.some.inj k2).symm⟩) rfl
 | UAdd=>exact nos k1
theorem i_cmp {l:Expr} {os:List CmpOp} {ys:List Expr} {q:Pos} (hc:trE1 (tr m) ns (.Compare l os ys q)=some pe) (he:evStep G r ρ pe=some p)
  (g:∀ (a:PE) (x:Str × Pos) (z:PV),os=[.In]→ys=[.Name x.1 x.2]→okN x.1=true→NoDbg x.1→Glb ns x.1→CE ns l a→r.ev ρ a=some z→G.gm (enc x.1) 0 [z]=some p→freshE pe p=false→P)
  (K:∀ k y a b x z c,os=[copOf k]→ys=[y]→CE ns l a→CE ns y b→r.ev ρ a=some x→r.ev ρ b=some z→cmpV k x z=some c→p=.bool c→freshE pe p=false→P):P:=by
 refine ob_e hc fun o ho k1=>ob_e k1 fun y hy k2=>ob_e k2 fun a h1 k3=>?_
 rcases om_i k3 with ⟨x,hx,k4⟩|k4
 ·obtain rfl:=Option.some.inj k4
  obtain ⟨h4,h3,h5,h6,h7⟩:=gin_i hx
  refine ob_e he fun vs hvs k1=>ob_e hvs fun v hv k7=>?_
  obtain rfl:=Option.some.inj k7
  exact g a x v (by rw [l1_i ho,h4]) (by rw [l1_i hy,h3]) h5 h6 h7 ⟨m,h1⟩ hv k1 rfl
 ·refine ob_e k4 fun k hk k5=>ob_e k5 fun b h2 k6=>?_
  obtain rfl:=Option.some.inj k6
  exact ob_e he fun x hx k1=>ob_e k1 fun z hz k2=>ob_e k2 fun c hc k3=>K k y a b x z c (by rw [l1_i ho,copK_i hk]) (l1_i hy) ⟨m,h1⟩ ⟨m,h2⟩ hx hz hc (Option.some.inj k3).symm rfl
theorem i_and {o:BoolOp} {es:List Expr} {q:Pos} (hc:trE1 (tr m) ns (.BoolOp o es q)=some pe) (he:evStep G r ρ pe=some p) (K:∀ l,o=.And→CEs ns es l→andGo r ρ l=some p→freshE pe p=false→P):P:=by
 obtain ⟨ho,k1⟩:=ogo_i hc
 refine ob_e k1 fun l hl k2=>?_
 obtain rfl:=Option.some.inj k2
 exact K l (of_decide_eq_true ho) ⟨m,hl⟩ he rfl
theorem i_ite {c x y:Expr} {q:Pos} (hc:trE1 (tr m) ns (.IfExp c x y q)=some pe) (he:evStep G r ρ pe=some p) (K:∀ pc a b,CT ns c pc→CE ns x a→CE ns y b→oif (r.ts ρ pc) (r.ev ρ a) (r.ev ρ b)=some p→freshE pe p=false→P):P:=by
 refine ob_e hc fun pc h1 k1=>ob_e k1 fun a h2 k2=>ob_e k2 fun b h3 k3=>?_
 obtain rfl:=Option.some.inj k3
 exact K pc a b ⟨m,h1⟩ ⟨m,h2⟩ ⟨m,h3⟩ he rfl
theorem i_list {es:List Expr} {q:Pos} (hc:trE1 (tr m) ns (.List es q)=some pe) (he:evStep G r ρ pe=some p) (K:∀ l vs,es.length≤1000→CEs ns es l→evL r ρ l=some vs→p=.list vs→P):P:=by
 obtain ⟨hlen,k1⟩:=ogo_i hc
 refine ob_e k1 fun l hl k2=>?_
 obtain rfl:=Option.some.inj k2
 exact ob_e he fun vs hvs k=>K l vs (ble_true.mp hlen) ⟨m,hl⟩ hvs (Option.some.inj k).symm
theorem i_tup {es:List Expr} {k:Nat} {q:Pos} (hc:trE1 (tr m) ns (.Tuple es k q)=some pe) (he:evStep G r ρ pe=some p) (K:∀ l vs,es.length≤1000→CEs ns es l→evL r ρ l=some vs→p=.tup vs→P):P:=by
 obtain ⟨hlen,k1⟩:=ogo_i hc
 refine ob_e k1 fun l hl k2=>?_
 obtain rfl:=Option.some.inj k2
 exact ob_e he fun vs hvs k=>K l vs (ble_true.mp hlen) ⟨m,hl⟩ hvs (Option.some.inj k).symm
theorem i_sub {v i:Expr} {q:Pos} (hc:trE1 (tr m) ns (.Subscript v i q)=some pe) (he:evStep G r ρ pe=some p)
  (g:∀ lo hi st sq a b c d x y z w,i=.Slice lo hi st sq→CE ns v a→trO ((tr m).E ns) lo=some b→trO ((tr m).E ns) hi=some c→trO ((tr m).E ns) st=some d→r.ev ρ a=some x→r.ev ρ b=some y→r.ev ρ c=some z→r.ev ρ d=some w→sliceV x y z w=some p→freshE pe p=false→P)
  (K:∀ a b x z,CE ns v a→CE ns i b→r.ev ρ a=some x→r.ev ρ b=some z→idxV x z=some p→freshE pe p=false→P):P:=by
 refine ob_e hc fun a h1 k1=>?_
 rcases om_i k1 with ⟨t,ht,k2⟩|k2
 ·refine ob_e k2 fun b h2 k3=>ob_e k3 fun c h3 k4=>ob_e k4 fun d h4 k5=>?_
  obtain rfl:=Option.some.inj k5
  exact ob_e he fun x hx k1=>ob_e k1 fun y hy k2=>ob_e k2 fun z hz k3=>ob_e k3 fun w hw k4=>g _ _ _ _ a b c d x y z w (sl_i ht) ⟨m,h1⟩ h2 h3 h4 hx hy hz hw k4 rfl
 ·refine ob_e k2 fun b h2 k3=>?_
  obtain rfl:=Option.some.inj k3
  exact ob_e he fun x hx k1=>ob_e k1 fun z hz k2=>K a b x z ⟨m,h1⟩ ⟨m,h2⟩ hx hz k2 rfl
theorem i_attr {o:Expr} {nm:Str} {q:Pos} (hc:trE1 (tr m) ns (.Attribute o nm q)=some pe) (he:evStep G r ρ pe=some p)
  (g:∀ x:Str × Pos,o=.Name x.1 x.2→okN x.1=true→NoDbg x.1→Glb ns x.1→okN nm=true→G.ga (enc x.1) (enc nm)=some p→freshE pe p=false→P)
  (K:∀ (x:Str × Pos) (a:PE) (y:PV) (i:List Nat × List PV),o=.Name x.1 x.2→okN nm=true→nm∈atNames→CE ns o a→r.ev ρ a=some y→inst? y=some i→attrV (enc nm) i.1 i.2=some p→freshE pe p=false→P):P:=by
 refine ob_e hc fun x hx k1=>?_
 obtain ⟨ok',k2⟩:=ogo_i k1
 rcases oe_i k2 with ⟨hg,k3⟩|k3
 ·obtain ⟨h4,k4⟩:=ogo_i k3
  obtain rfl:=Option.some.inj k4
  exact g x (nm_i hx) (okD_i h4).1 (okD_i h4).2 (glbB_i hg) ok' he rfl
 ·obtain ⟨hat,k4⟩:=ogo_i k3
  refine ob_e k4 fun a h1 k5=>?_
  obtain rfl:=Option.some.inj k5
  exact ob_e he fun y hy k1=>ob_e k1 fun i hi k2=>K x a y i (nm_i hx) ok' (of_decide_eq_true hat) ⟨m,h1⟩ hy hi k2 rfl
theorem i_comp {elt:Expr} {gs:List Comprehension} {sc:Scope} {q:Pos} (hc:trE1 (tr m) ns (.ListComp elt gs sc q)=some pe) (K:∀ t it ifs caps tg si pi pifs e,gs=[⟨t,it,ifs,0⟩]→CompOk ns sc caps→CTg sc.names t tg si→CI ns it pi→CTs sc.names ifs pifs→CE sc.names elt e→pe=.comp e tg si pi pifs caps→P):P:=by
 refine ob_e hc fun g hg k1=>?_
 obtain ⟨t,it,ifs,as⟩:=g
 obtain ⟨has,k2⟩:=ogo_i k1
 obtain rfl:as=0:=of_decide_eq_true has
 exact ob_e k2 fun caps h1 k3=>ob_e k3 fun tg h2 k4=>ob_e k4 fun pi h3 k5=>ob_e k5 fun pifs h4 k6=>ob_e k6 fun e h5 k7 =>
  K t it ifs caps _ _ pi pifs e (l1_i hg) (scopeT_i h1) (trTg_i h2) ⟨m,h3⟩ ⟨m,h4⟩ ⟨m,h5⟩ (Option.some.inj k7).symm
theorem i_named {x:Str} {es:List Expr} (hc:trNamed ((tr m).E ns) ns x es=some pe) (he:evStep G r ρ pe=some p)
  (b:∀ b u e rest l vs,es=e :: rest→b∈bis→biNm b=some (x,u)→CEs ns (e :: rest) l→evL r ρ l=some vs→biV b vs=some p→freshE pe p=false→P)
  (c:∀ (y:Str × Pos) (kq:Pos) (e:Expr) (rest:List Expr) (l:List PE) (vs:List PV) (z:Bool),es=[.Call (.Name y.1 y.2) (e :: rest) [] kq]→(z=true→x = "list"∧y.1 = "range")→(z=false→x = "dict"∧y.1 = "zip")→Glb ns y.1→CEs ns (e :: rest) l→evL r ρ l=some vs→biV (match z with|true=>.listRange|false=>.dictZip) vs=some p→freshE pe p=false→P)
  (K:∀ e rest l vs,es=e :: rest→okN x=true→CEs ns (e :: rest) l→evL r ρ l=some vs→r.fn (enc x) vs=some p→freshE pe p=false→P):P:=by
 rcases om_i hc with ⟨d,hb,k1⟩|k1
 ·refine ob_e k1 fun l hl k2=>?_
  obtain rfl:=Option.some.inj k2
  obtain ⟨e,rest,h0,hcs⟩:=trL1_i hl
  obtain ⟨hb,u,hu⟩:=biOf_i hb
  exact ob_e he fun vs hvs k1=>b d u e rest l vs h0 hb hu hcs hvs k1 rfl
 ·rcases oe_i k1 with ⟨_,k2⟩|k2
  ·refine ob_e k2 fun e1 he1 k3=>ob_e k3 fun t ht k4=>ob_e k4 fun l hl k7=>?_
   obtain ⟨h1,h2⟩:=inn_i ht
   obtain ⟨e2,rest,h3,hcs⟩:=trL1_i hl
   have h0:es=[.Call (.Name t.1.1 t.1.2) (e2 :: rest) [] t.2.2.2.2]:=by rw [l1_i he1,h1,h3]
   rcases oe_i k7 with ⟨h4,k8⟩|k8
   ·obtain rfl:=Option.some.inj k8
    exact ob_e he fun vs hvs k1=>c t.1 _ e2 rest l vs true h0 (fun _=>twoB_i h4) (fun z=>(Bool.false_ne_true z.symm).elim) h2 hcs hvs k1 rfl
   ·obtain ⟨h4,k9⟩:=ogo_i k8
    obtain rfl:=Option.some.inj k9
    exact ob_e he fun vs hvs k1=>c t.1 _ e2 rest l vs false h0 (fun z=>(Bool.false_ne_true z).elim) (fun _=>twoB_i h4) h2 hcs hvs k1 rfl
  ·obtain ⟨ok,k3⟩:=ogo_i k2
   refine ob_e k3 fun l hl k4=>?_
   obtain rfl:=Option.some.inj k4
   obtain ⟨e,rest,h0,hcs⟩:=trL1_i hl
   exact ob_e he fun vs hvs k1=>K e rest l vs h0 ok hcs hvs k1 rfl
theorem few3 {es:List Expr} (h:Nat.ble es.length 3=true):es.length<10:=Nat.lt_of_le_of_lt (ble_true.mp h) (by decide)
theorem i_meth {o:Expr} {nm:Str} {es:List Expr} (hc:trMeth ((tr m).E ns) ns o nm es=some pe) (he:evStep G r ρ pe=some p)
  (g:∀ (x:Str × Pos) (l:List PE) (vs:List PV),o=.Name x.1 x.2→Glb ns x.1→okN x.1=true→NoDbg x.1→nm ≠ ""→es.length<10→CEs ns es l→evL r ρ l=some vs→G.gm (enc x.1) (enc nm) vs=some p→freshE pe p=false→P)
  (d:∀ k a l x vs,mkNm k=nm→cl? o=none→es.length<10→CE ns o a→CEs ns es l→r.ev ρ a=some x→evL r ρ l=some vs→methV k x vs=some p→freshE pe p=false→P)
  (K:∀ (y:Str × Pos) (a:PE) (l:List PE) (x:PV) (i:List Nat × List PV) (vs:List PV),o=.Name y.1 y.2→es.length<10→CE ns o a→CEs ns es l→r.ev ρ a=some x→inst? x=some i→PEnv.has i.1 (enc nm)=false→evL r ρ l=some vs→r.me (enc nm) (.inst i.1 i.2 :: vs)=some p→freshE pe p=false→P):P:=by
 rcases om_i hc with ⟨x,hx,k1⟩|k1
 ·refine ob_e hx fun y hy k2=>?_
  obtain ⟨hg,k3⟩:=ogo_i k2
  obtain rfl:=Option.some.inj k3
  obtain ⟨h5,k4⟩:=ogo_i k1
  obtain ⟨h6,h7⟩:=band h5
  obtain ⟨h8,h9⟩:=band h6
  refine ob_e k4 fun l hl k5=>?_
  obtain rfl:=Option.some.inj k5
  exact ob_e he fun vs hvs k1=>g y l vs (nm_i hy) (glbB_i hg) (okD_i h8).1 (okD_i h8).2 (beq_eq_false_iff_ne.mp ((Bool.not_eq_true' _).mp h9)) (few3 h7) ⟨m,(ogo_i hl).2⟩ hvs k1 rfl
 ·rcases om_i k1 with ⟨k,hk,k2⟩|k2
  ·obtain ⟨h3,k3⟩:=ogo_i k2
   refine ob_e k3 fun a h1 k4=>ob_e k4 fun l h2 k5=>?_
   obtain rfl:=Option.some.inj k5
   exact ob_e he fun x hx k1=>ob_e k1 fun vs hvs k2=>d k a l x vs (mkOf_i hk) (Option.isNone_iff_eq_none.mp (band h3).1) (few3 (band h3).2) ⟨m,h1⟩ ⟨m,h2⟩ hx hvs k2 rfl
  ·refine ob_e k2 fun y hy k3=>?_
   obtain ⟨hlen,k4⟩:=ogo_i k3
   refine ob_e k4 fun a h1 k4=>ob_e k4 fun l h2 k5=>?_
   obtain rfl:=Option.some.inj k5
   exact ob_e he fun x hx k1=>ob_e k1 fun i hi k2=>ob_e k2 fun u hh k3=>ob_e k3 fun vs hvs k4=>K y a l x i vs (nm_i hy) (few3 hlen) ⟨m,h1⟩ ⟨m,h2⟩ hx hi (ogn_i hh).1 hvs k4 rfl
theorem i_call {f:Expr} {es:List Expr} {ks:List Keyword} {q:Pos} (hc:trE1 (tr m) ns (.Call f es ks q)=some pe)
  (K:∀ x:Str × Pos,f=.Name x.1 x.2→ks=[]→Glb ns x.1→NoDbg x.1→trNamed ((tr m).E ns) ns x.1 es=some pe→P) (M:∀ a:Expr × Str × Pos,f=.Attribute a.1 a.2.1 a.2.2→ks=[]→(a.2.2.endLine == q.line)=true→okN a.2.1=true→trMeth ((tr m).E ns) ns a.1 a.2.1 es=some pe→P):P:=by
 obtain ⟨h0,k1⟩:=ogo_i hc
 have h0:=List.isEmpty_iff.mp h0
 rcases om_i k1 with ⟨x,hx,k2⟩|k2
 ·obtain ⟨h1,k3⟩:=ogo_i k2
  obtain ⟨_,hd,hg⟩:=glbD_i h1
  exact K x (nm_i hx) h0 hg hd k3
 ·refine ob_e k2 fun a ha k3=>?_
  obtain ⟨h1,k4⟩:=ogo_i k3
  exact M a (at_i ha) h0 (band h1).1 (band h1).2 k4
end
section
variable {cx:Cx} {G:Gl} {n:Nat} {ns:Ns} {A:Around} {env:Env} {ρ:PEnv} {H:Hid} {s:Shared} {E:Value→Shared→Prop} {Q:Value→Shared→Prop}
theorem InE.down {m:Nat} (I:InE cx (m+1+60) A env ns ρ H s):InE cx (m+60) A env ns ρ H s:=I.le (by omega)
theorem InE.units {m:Nat} (I:InE cx (m+60) A env ns ρ H s):A.units+8<cLine:=by have:=I.room.2.2;omega
theorem call_two {x y:Str} {v u:Value} {np mp pos q:Pos} {e:Expr} {es:List Expr} {l:List PE} {ps:List PV} (S:SndN cx G n) (I:InE cx (n+60) A env ns ρ H s) (hv:Callee cx v) (hu:Callee cx u) (hc:CEs ns (e :: es) l) (he:evL (sem G n) ρ l=some ps)
  (ldx:∀ {Q:Value→Shared→Prop} {s:Shared},cx.GI s.heap→Q v s→wpAny (model cx.prog cx.w) A (eval (.Name x np) env) Q E s)
  (ldy:∀ {Q:Value→Shared→Prop} {s:Shared},cx.GI s.heap→Q u s→wpAny (model cx.prog cx.w) A (eval (.Name y mp) env) Q E s)
  (hcall:∀ vs h' tk',Ext cx cx.T s.heap h'→RepAll cx h' H vs ps→wpAny (model cx.prog cx.w) A (call u vs) (fun w s₁=>cx.GI s₁.heap∧wpAny (model cx.prog cx.w) A (call v [w]) Q E s₁) E { s with heap:=h',toks:=tk' }) :
  wpAny (model cx.prog cx.w) A (eval (.Call (.Name x np) [.Call (.Name y mp) (e :: es) [] q] [] pos) env) Q E s:=by
 refine Call_ (ldx I.cn.gi (hv I.cn.gi (args_cons ?_) rfl rfl))
 refine wpAny_mono (call_named S I hu hc he (Q:=fun w s₁=>cx.GI s₁.heap∧wpAny (model cx.prog cx.w) A (call v [w]) Q E s₁) (fun hq=>ldy I.cn.gi hq) hcall) (fun w s₁ h₁=>?_) fun _ _ x=>x
 exact args_nil h₁
theorem and_ok (S:SndN cx G n) {pos:Pos}:∀ {es:List Expr} {l:List PE} {s:Shared} {v:PV},CEs ns es l→InE cx (n+60) A env ns ρ H s→RetF cx s H false v Q→andGo (sem G n) ρ l=some v→wpAny (model cx.prog cx.w) A (boolOp pos .And (evalEach es env)) Q E s
 | [],_,s,v,hc,I,h,e=>by
  obtain rfl:=hc.nil'
  exact nos e
 | [x],_,s,v,hc,I,h,e=>by
  obtain ⟨a,m,rfl,hx,hr⟩:=hc.cons'
  obtain rfl:=hr.nil'
  exact S.ev hx I e fun v' h' tk' e' r' _=>h.plain e' r'
 | x :: y :: es,_,s,v,hc,I,h,e=>by
  obtain ⟨a,m,rfl,hx,hr⟩:=hc.cons'
  obtain ⟨b,m2,rfl,_⟩:=hr.cons'
  obtain ⟨w,hw,k1⟩:=ob_i (show ob ((sem G n).ev ρ a) (fun v=>oif (truthV v) (andGo (sem G n) ρ (b :: m2)) (some v))=some v from e)
  show wpAny _ _ (eval x env >>= fun v=>standAt pos >>= fun _=>holding [v] (truthy v) >>= fun t=>match BoolOp.And,t with | .And,false | .Or,true=>pure v|_,_=>boolOp pos .And (evalEach (y :: es) env)) _ _ _
  refine wpAny_bind (S.ev hx I hw fun v' h₁ t₁ e₁ r₁ _=>wpAny_bind (wpAny_standAt (wpAny_bind (wpAny_holding ?_))))
  rcases oif_i k1 with ⟨ht,k2⟩|⟨ht,k2⟩
  ·exact truth_ok (s:={ s with heap:=h₁,toks:=t₁ }) r₁ ht fun tk=>and_ok S (pos:=pos) hr (I.ext (tk':=tk) e₁) (h.after e₁) k2
  ·exact truth_ok (s:={ s with heap:=h₁,toks:=t₁ }) r₁ ht fun tk=>wpAny_pure (h.plain e₁ (Option.some.inj k2 ▸ r₁))
theorem opt_ok (S:SndN cx G n) {m:Nat} {o:Option Expr} {a:PE} {p:PV} (hc:trO ((tr m).E ns) o=some a) (I:InE cx (n+60) A env ns ρ H s) (e:(sem G n).ev ρ a=some p)
  (h:∀ v h' tk',Ext cx cx.T s.heap h'→Rep cx h' H v p→Q v { s with heap:=h',toks:=tk' }):wpAny (model cx.prog cx.w) A (evalPart o env) Q E s:=by
 induction o using Option.casesOn with
 | none =>
  obtain rfl:=Option.some.inj hc
  induction n using Nat.casesOn with
  | zero=>exact nos e
  | succ n =>
   obtain rfl:=Option.some.inj e
   exact wpAny_pure (h .none s.heap s.toks .refl .none)
 | some x=>exact S.ev ⟨m,hc⟩ I e fun v h' tk' e r _=>h v h' tk' e r
theorem ops_ok (lo hi st:Option Expr) (sq:Pos) (v i:Value):∃ ops,subscripted (.Slice lo hi st sq) false v i=operate ops (getItem v i):=by
 cases st with
 | none=>exact ⟨_,rfl⟩
 | some _=>exact ⟨_,rfl⟩
theorem ld_b2 (g:GOk cx G) {x:Str} {v:Value} {np:Pos} {s₀:Shared} (I:InE cx (n+60) A env ns ρ H s₀) (hx:ns.lookup x=some .globalImplicit) (hd:(x == ("__debug__":Str))=false) (hn:cx.mg x=none) (hne:x ≠ "__name__") (hv:bootBuiltins x=some v) {Q:Value→Shared→Prop} {s:Shared} (gi:cx.GI s.heap) (hq:Q v s) :
  wpAny (model cx.prog cx.w) A (eval (.Name x np) env) Q E s :=
 Name_function_global I.kind (I.glb _ hx) (loadGlobal_builtin (mg:=cx.mg) (mb:=cx.mb) (by rw [I.glob];exact cx.ns_g _ gi) hn (by rw [I.blt];exact cx.ns_b _ gi) ((cx.boot _ hne).trans hv) hq) hd
theorem len_line {k:Nat} (h:k≤1000):k≤sizeLine:=Nat.le_trans h (Nat.le_trans (by decide) sizeLine_big)
theorem RetF.no {fr:Bool} {p:PV} (h:RetF cx s H fr p Q) (e:fr=false):RetF cx s H false p Q:=e ▸ h
theorem named_step (g:GOk cx G) (S:SndN cx G n) (R:Rest cx G n) {m:Nat} {x:Str} {np p:Pos} {es:List Expr} {pe:PE} {v:PV} (hg:Glb ns x) (hd:NoDbg x) (hc:trNamed ((tr m).E ns) ns x es=some pe) (I:InE cx (n+60) A env ns ρ H s) (he:evStep G (sem G n) ρ pe=some v) (h:RetF cx s H (freshE pe v) v Q) :
  wpAny (model cx.prog cx.w) A (eval (.Call (.Name x np) es [] p) env) Q E s:=by
 refine i_named hc he (fun b u e rest l vs h0 hb hu hcs hvs k fr=>?_) (fun y kq e rest l vs z h0 h1 h2 h3 hcs hvs k fr=>?_) fun e rest l vs h0 ok hcs hvs k fr=>?_
 ·obtain ⟨f1,f2,f3,f4⟩:=bi_facts g hb hu
  rw [h0]
  exact call_named S I f4 hcs hvs (fun hq=>ld_bi I hg hd f1 f2 f3 hq) fun vs' h' tk' e' r'=>bi_ok (s:={ s with heap:=h',toks:=tk' }) hu I.room.1 (I.cn.ext e') r' k (RetF.after (h.no fr) e')
 ·rw [h0]
  induction z using Bool.casesOn with
  | true =>
   rw [(h1 rfl).1] at hg ⊢
   rw [(h1 rfl).2] at h3 ⊢
   exact call_two S I callee_type callee_type hcs hvs (fun gi hq=>ld_b2 g I hg rfl (g.bi _ (by decide)) (by decide) boot_list gi hq) (fun gi hq=>ld_b2 g I h3 rfl (g.bi _ (by decide)) (by decide) boot_range gi hq)
    fun vs' h' tk' e' r'=>R.lrange (s:={ s with heap:=h',toks:=tk' }) I.room.1 (I.cn.ext e') r' k (RetF.after (h.no fr) e')
  | false =>
   rw [(h2 rfl).1] at hg ⊢
   rw [(h2 rfl).2] at h3 ⊢
   exact call_two S I callee_type callee_type hcs hvs (fun gi hq=>ld_b2 g I hg rfl (g.bi _ (by decide)) (by decide) boot_dict gi hq) (fun gi hq=>ld_b2 g I h3 rfl (g.bi _ (by decide)) (by decide) boot_zip gi hq)
    fun vs' h' tk' e' r'=>R.dzip (s:={ s with heap:=h',toks:=tk' }) I.room.1 (I.cn.ext e') r' k (RetF.after (h.no fr) e')
 ·obtain ⟨v,hv,hcal⟩:=g.fn _ _ _ _ ok k
  rw [h0]
  exact call_named S I hcal hcs hvs (fun hq=>ld_glob I hg hd hv hq) fun vs' h' tk' e' r'=>S.fn _ v _ _ ok hv k I.room (I.cn.ext e') r' (RetF.after (h.no fr) e')
theorem meth_step (g:GOk cx G) (S:SndN cx G n) {m:Nat} {o:Expr} {nm:Str} {ap p:Pos} {es:List Expr} {pe:PE} {v:PV} (hl:(ap.endLine == p.line)=true) (ok:okN nm=true) (hc:trMeth ((tr m).E ns) ns o nm es=some pe) (I:InE cx (n+60) A env ns ρ H s) (he:evStep G (sem G n) ρ pe=some v) (h:RetF cx s H (freshE pe v) v Q) :
  wpAny (model cx.prog cx.w) A (eval (.Call (.Attribute o nm ap) es [] p) env) Q E s:=by
 refine i_meth hc he (fun x l vs h0 hg ok' hd ne hlen h1 hvs k fr=>?_) (fun k a l x vs h0 hb hlen h1 h2 hx hvs k fr=>?_) fun y a l x i vs h0 hlen h1 h2 hx hi hh hvs k fr=>?_
 ·obtain ⟨v,T,id,hv,pa,sl,ty,ht,hcall⟩:=g.gm _ _ _ _ ok' ok ne k
  rw [h0]
  exact call_method rfl (few_of h1 hlen) hl (ld_glob I hg hd hv fun pl=>getMethod_builtin (ht _ I.cn.gi).1 pa sl ty (ht _ I.cn.gi).2
   (args_of S I rfl h1 hvs fun vs' h₂ t₂ e₂ r₂=>hcall (s:={ s with heap:=h₂,toks:=t₂ }) (I.room.le (Nat.le_add_left _ _)) (I.cn.ext e₂) r₂ (RetF.after (h.no fr) e₂)))
 ·rw [← h0]
  exact call_method (h1.facts.base hb _ _) (few_of h2 hlen) hl (S.ev h1 I hx fun v h₁ t₁ e₁ r₁ _ pl=>meth_find (s:={ s with heap:=h₁,toks:=t₁ }) r₁ k
   (args_of S (I.ext e₁) rfl h2 hvs fun vs' h₂ t₂ e₂ r₂=>meth_ok (s:={ s with heap:=h₂,toks:=t₂ }) (I.cn.ext (e₁.trans e₂)) (r₁.ext e₂ I.cn.tH) r₂ k (RetF.after (h.no fr) (e₁.trans e₂))))
 ·obtain ⟨f,o',fd,ho,hd,hcall,hget⟩:=S.me _ _ _ ok k
  rw [h0] at h1 ⊢
  exact call_method rfl (few_of h2 hlen) hl (S.ev h1 I hx fun v h₁ t₁ e₁ r₁ _ pl=>hget (e₁.gi I.cn.gi) (r₁.toInst hi) hh
   (args_fun S (I.ext e₁) ho hd h2 hvs fun vs' h₂ t₂ e₂ r₂=>hcall (s:={ s with heap:=h₂,toks:=t₂ }) I.room (I.cn.ext (e₁.trans e₂)) (.cons ((r₁.toInst hi).ext e₂ I.cn.tH) r₂) (RetF.after (h.no fr) (e₁.trans e₂))))
theorem const_step {m k:Nat} {c:Const} {q:Pos} {pe:PE} {p:PV} (hc:trC c=some pe) (he:evStep G (sem G m) ρ pe=some p) (h:RetF cx s H (freshE pe p) p Q):wpAny (model cx.prog cx.w) A (eval (.Constant c k q) env) Q E s:=by
 induction c using Const.casesOn with
 | int =>
  obtain rfl:=Option.some.inj hc
  obtain rfl:=Option.some.inj he
  exact wpAny_Constant_int h.int
 | str x =>
  obtain rfl:=Option.some.inj hc
  obtain rfl:=Option.some.inj he
  have:=h.str (t:=s.toks) (tk:=s.toks+1)
  rw [S_of] at this
  exact wpAny_Constant_str this
 | bool =>
  obtain rfl:=Option.some.inj hc
  obtain rfl:=Option.some.inj he
  exact wpAny_Constant_bool (h.bool (tk:=s.toks))
 | none =>
  obtain rfl:=Option.some.inj hc
  obtain rfl:=Option.some.inj he
  exact wpAny_Constant_none (h .none s.heap s.toks .refl .none fun _ _ e=>PV.noConfusion e)
 | _=>exact nos hc
theorem ev_step (g:GOk cx G) (S:SndN cx G n) (R:Rest cx G n) {e:Expr} {pe:PE} {p:PV} (hc:CE ns e pe) (I:InE cx (n+60) A env ns ρ H s) (he:evStep G (sem G n) ρ pe=some p) (h:RetF cx s H (freshE pe p) p Q) :
  wpAny (model cx.prog cx.w) A (eval e env) Q E s:=by
 obtain ⟨m,hc⟩:=hc.step
 induction e using Expr.casesOn with
 | Constant c=>exact const_step hc he h
 | Name x q=>exact i_name hc he (fun ok hd hg hv fr=>(g.gv _ _ ok hv).elim fun v hr=>ld_glob I hg hd hr.1 ((h.no fr).plain .refl (glob_rep I.cn (hr.2 _ I.cn.gi)))) fun b ok hd hv fr=>ld_var I ok hd hv fun v' r=>(h.no fr).plain .refl r
 | BinOp l o r q =>
  exact i_bin hc he fun k a b x z ho h1 h2 hx hz k2=>wpAny_BinOp (S.ev h1 I hx fun v h₁ t₁ e₁ r₁ _=>S.ev h2 (I.ext e₁) hz fun u h₂ t₂ e₂ r₂ _ =>
   ho ▸ bin_ok (s:={ s with heap:=h₂,toks:=t₂ }) (I.cn.ext (e₁.trans e₂)) (r₁.ext e₂ I.cn.tH) r₂ k2 (h.after (e₁.trans e₂)))
 | UnaryOp o y q =>
  refine i_un hc he fun a x h1 hx k fr=>wpAny_UnaryOp (S.ev h1 I hx fun v h₁ t₁ e₁ r₁ _=>?_)
  have h:=(h.no fr).after (tk':=t₁) e₁
  rcases k with ⟨i,hi,⟨rfl,rfl⟩|⟨rfl,rfl⟩⟩|⟨b,rfl,hb,rfl⟩
  ·obtain ⟨t,rfl⟩:=r₁.toInt hi
   exact PySem.P.neg_int h.int
  ·obtain ⟨t,rfl⟩:=r₁.toInt hi
   exact PyProof.Rows.invert_int h.int
  ·exact not_value (truth_ok (s:={ s with heap:=h₁,toks:=t₁ }) r₁ hb fun tk=>RetF.bool (tk:=tk) h)
 | Compare l os ys q =>
  refine i_cmp hc he (fun a x z h1 h2 h5 h6 h7 ha hz k fr=>?_) fun k y a b x z c h1 h2 ha hb hx hz k rp fr=>?_
  ·obtain ⟨u,b,hu,rfl,hin⟩:=g.gin _ _ _ h5 k
   rw [h1,h2]
   exact wpAny_Compare1 (S.ev ha I hz fun v h₁ t₁ e₁ r₁ _=>ld_glob (I.ext (tk':=t₁) e₁) h7 h6 hu (hin (s:={ s with heap:=h₁,toks:=t₁ }) (e₁.gi I.cn.gi) r₁ fun _=>(h.no fr).plain e₁ (.bool b))) rfl
  ·rw [h1,h2]
   obtain rfl:=rp
   exact wpAny_Compare1 (S.ev ha I hx fun v h₁ t₁ e₁ r₁ _=>S.ev hb (I.ext e₁) hz fun u h₂ t₂ e₂ r₂ _ =>
    cmp_ok (s:={ s with heap:=h₂,toks:=t₂ }) I.cn.bH I.units (r₁.ext e₂ I.cn.tH) r₂ k fun tk=>RetF.bool (tk:=tk) ((h.no fr).after (tk':=t₂) (e₁.trans e₂))) (hb.facts.mark _)
 | BoolOp o es q=>exact i_and hc he fun l ho hl k fr=>ho ▸ and_ok S hl I (h.no fr) k
 | IfExp c x y q =>
  refine i_ite hc he fun pc a b h1 h2 h3 k fr=>wpAny_IfExp ?_
  rcases oif_i k with ⟨hb,k1⟩|⟨hb,k1⟩
  ·exact S.ts h1 I hb fun h' tk' e'=>S.ev h2 (I.ext e') k1 fun v h₂ t₂ e₂ r₂ _=>RetF.plain (h.no fr) (e'.trans e₂) r₂
  ·exact S.ts h1 I hb fun h' tk' e'=>S.ev h3 (I.ext e') k1 fun v h₂ t₂ e₂ r₂ _=>RetF.plain (h.no fr) (e'.trans e₂) r₂
 | List es q =>
  refine i_list hc he fun l vs hlen h1 hvs rp=>?_
  obtain rfl:=rp
  exact wpAny_List (evL_ok S h1 I hvs fun vs' h₁ t₁ e₁ r₁=>⟨by rw [r₁.length,evL_length hvs,← h1.length];exact len_line hlen,
   RetF.newList (s:={ s with heap:=h₁,toks:=t₁ }) (tk:=t₁) (I.cn.ext e₁).hid (h.after e₁) r₁⟩)
 | Tuple es k q =>
  refine i_tup hc he fun l vs hlen h1 hvs rp=>?_
  obtain rfl:=rp
  exact wpAny_Tuple (evL_ok S h1 I hvs fun vs' h₁ t₁ e₁ r₁=>⟨by rw [r₁.length,evL_length hvs,← h1.length];exact len_line hlen,
   RetF.newTup (s:={ s with heap:=h₁,toks:=t₁ }) (tk:=t₁) (I.cn.ext e₁).hid (h.after e₁) r₁⟩)
 | Subscript v i q =>
  refine i_sub hc he (fun lo hi st sq a b c d x y z w hs h1 h2 h3 h4 hx hy hz hw k fr=>?_) fun a b x z h1 h2 hx hz k fr=>?_
  ·rw [hs]
   refine Subscript_ (S.ev h1 I hx fun v h₁ t₁ e₁ r₁ _=>wpAny_Slice (opt_ok S h2 (I.ext e₁) hy fun va h₂ t₂ e₂ r₂=>opt_ok S h3 (I.ext (e₁.trans e₂)) hz fun vb h₃ t₃ e₃ r₃ =>
    opt_ok S h4 (I.ext ((e₁.trans e₂).trans e₃)) hw fun vc h₄ t₄ e₄ r₄=>?_))
   obtain ⟨ops,hs⟩:=ops_ok lo hi st sq v (.ref h₄.objs.size)
   exact slice_ok (s:={ s with heap:=h₄,toks:=t₄ }) (fr:=false) (I.cn.ext (((e₁.trans e₂).trans e₃).trans e₄)).hid (r₁.ext ((e₂.trans e₃).trans e₄) I.cn.tH) (r₂.ext (e₃.trans e₄) I.cn.tH) (r₃.ext e₄ I.cn.tH) r₄ k hs (RetF.after (h.no fr) (((e₁.trans e₂).trans e₃).trans e₄))
  ·exact Subscript_ (S.ev h1 I hx fun v h₁ t₁ e₁ r₁ _=>S.ev h2 (I.ext e₁) hz fun u h₂ t₂ e₂ r₂ _ =>
    idx_ok (s:={ s with heap:=h₂,toks:=t₂ }) (r₁.ext e₂ I.cn.tH) r₂ k h2.facts.sub fun v' tk r'=>RetF.plain (h.no fr) (e₁.trans e₂) r')
 | Call f es ks q =>
  refine i_call hc (fun x h0 h1 hg hd k=>?_) fun a h0 h1 hl ok k=>?_
  ·rw [h0,h1]
   exact named_step g S R hg hd k I he h
  ·rw [h0,h1]
   exact meth_step g S hl ok k I he h
 | Attribute o nm q =>
  rw [arm_eval_Attribute]
  refine i_attr hc he (fun x h0 ok hd hg ok' k fr=>?_) fun x a y i h0 ok' hat h1 hy hi k fr=>?_
  ·obtain ⟨v,hv,hr⟩:=g.ga _ _ _ ok ok' k
   rw [h0]
   exact wpAny_bind (show wpAny _ _ (eval _ env) _ _ _ from ld_glob I hg hd hv (wpAny_bind (wpAny_standAt (wpAny_bind (wpAny_holding
    (hr I.cn.gi fun w tk r=>wpAny_bind (wpAny_pure (wpAny_pure (RetF.plain (h.no fr) .refl (glob_rep I.cn r))))))))))
  ·rw [h0] at h1 ⊢
   exact wpAny_bind (show wpAny _ _ (eval _ env) _ _ _ from S.ev h1 I hy fun v h₁ t₁ e₁ r₁ _=>wpAny_bind (wpAny_standAt (wpAny_bind (wpAny_holding
    (attr_ok g ok' hat (I.cn.ext e₁) (r₁.toInst hi) k fun v' h₂ t₂ e₂ r₂ _=>wpAny_bind (wpAny_pure (wpAny_pure (RetF.plain (h.no fr) (e₁.trans e₂) r₂))))))))
 | ListComp elt gs sc q =>
  refine i_comp hc fun t it ifs caps tg si pi pifs e h0 h1 h2 h3 h4 h5 rp=>?_
  obtain rfl:=rp
  rw [h0]
  exact R.comp h1 h2 h3 h4 h5 I he h
 | _=>exact nos hc
end
end Mine
end
section
set_option maxRecDepth 100000
open PySem PySem.Calls PyProof.Rows PySem.W
set_option genSizeOf false
set_option genInjectivity false
namespace Mine
section
variable {cx:Cx} {G:Gl} {n:Nat} {ns:Ns} {A:Around} {env:Env} {ρ:PEnv} {H:Hid} {s:Shared} {E:Value→Shared→Prop} {Q:Bool→Shared→Prop}
theorem allT_ok (S:SndN cx G n):∀ {es:List Expr} {l:List PE} {s:Shared} {b:Bool},CTs ns es l→InE cx (n+60) A env ns ρ H s→(∀ h' tk',Ext cx cx.T s.heap h'→Q b { s with heap:=h',toks:=tk' }) →
  allT (sem G n) ρ l=some b→wpAny (model cx.prog cx.w) A (allTrue .And es env) Q E s
 | [],_,s,b,hc,I,h,e=>by
  obtain rfl:=hc.nil'
  exact wpAny_allTrue_And_nil (Option.some.inj e ▸ h s.heap s.toks .refl)
 | x :: es,_,s,b,hc,I,h,e=>by
  obtain ⟨a,m,rfl,hx,hr⟩:=hc.cons'
  refine wpAny_allTrue_And_cons ?_
  rcases oif_i e with ⟨ht,k⟩|⟨ht,k⟩
  ·exact S.ts hx I ht fun h₁ t₁ e₁=>allT_ok S hr (I.ext e₁) (fun h₂ t₂ e₂=>h h₂ t₂ (e₁.trans e₂)) k
  ·obtain rfl:=Option.some.inj k
   exact S.ts hx I ht fun h₁ t₁ e₁=>h h₁ t₁ e₁
theorem val_ok (S:SndN cx G n) {m:Nat} {e:Expr} {pe:PE} {b:Bool} (hc:ob ((tr m).E ns e) (fun a=>some (.tv a))=some pe) (I:InE cx (n+60) A env ns ρ H s) (he:tsStep (sem G n) ρ pe=some b)
  (hi:isTrue e env (eval e env)=(do let v ← eval e env;standAt e.pos;holding [v] (truthy v))) (h:∀ h' tk',Ext cx cx.T s.heap h'→Q b { s with heap:=h',toks:=tk' }):wpAny (model cx.prog cx.w) A (isTrue e env (eval e env)) Q E s:=by
 refine ob_e hc fun a ha k=>?_
 obtain rfl:=Option.some.inj k
 exact ob_e he fun v hv k=>wpAny_isTrue_value (S.ev ⟨m,ha⟩ I hv fun v' h₁ t₁ e₁ r₁ _=>truth_ok (s:={ s with heap:=h₁,toks:=t₁ }) r₁ k fun tk=>h h₁ tk e₁) hi
theorem j_cmp {r:Rc} {m:Nat} {l:Expr} {os:List CmpOp} {ys:List Expr} {q:Pos} {pe:PE} {b:Bool} {P:Prop} (hc:trT1 (tr m) ns (.Compare l os ys q)=some pe) (he:tsStep r ρ pe=some b)
  (K:∀ k y a d x z,os=[copOf k]→ys=[y]→CE ns l a→CE ns y d→r.ev ρ a=some x→r.ev ρ d=some z→cmpV k x z=some b→P):P:=by
 refine ob_e hc fun o ho k1=>ob_e k1 fun y hy k2=>ob_e k2 fun a h1 k3=>ob_e k3 fun k hk k5=>ob_e k5 fun d h2 k6=>?_
 obtain rfl:=Option.some.inj k6
 exact ob_e he fun x hx k1=>ob_e k1 fun z hz k2=>K k y a d x z (by rw [l1_i ho,copK_i hk]) (l1_i hy) ⟨m,h1⟩ ⟨m,h2⟩ hx hz k2
theorem ts_step (S:SndN cx G n) {e:Expr} {pe:PE} {b:Bool} (hc:CT ns e pe) (I:InE cx (n+60) A env ns ρ H s) (he:tsStep (sem G n) ρ pe=some b) (h:∀ h' tk',Ext cx cx.T s.heap h'→Q b { s with heap:=h',toks:=tk' }) :
  wpAny (model cx.prog cx.w) A (isTrue e env (eval e env)) Q E s:=by
 obtain ⟨m,hc⟩:=hc.step
 induction e using Expr.casesOn with
 | UnaryOp o x q =>
  obtain ⟨ho,k1⟩:=ogo_i hc
  obtain rfl:=of_decide_eq_true ho
  refine ob_e k1 fun a ha k=>?_
  obtain rfl:=Option.some.inj k
  refine ob_e he fun c hb k=>?_
  obtain rfl:=Option.some.inj k
  exact wpAny_isTrue_Not (S.ts ⟨m,ha⟩ I hb h)
 | BoolOp o es q =>
  obtain ⟨ho,k1⟩:=ogo_i hc
  obtain rfl:=of_decide_eq_true ho
  refine ob_e k1 fun a ha k=>?_
  obtain rfl:=Option.some.inj k
  exact wpAny_isTrue_BoolOp (allT_ok S ⟨m,ha⟩ I h he)
 | Compare l os ys q =>
  refine j_cmp hc he fun k y a d x z h1 h2 ha hd hx hz k=>?_
  rw [h1,h2]
  exact wpAny_isTrue_Compare1 (S.ev ha I hx fun v h₁ t₁ e₁ r₁ _=>S.ev hd (I.ext e₁) hz fun u h₂ t₂ e₂ r₂ _ =>
   cmp_ok (s:={ s with heap:=h₂,toks:=t₂ }) I.cn.bH I.units (r₁.ext e₂ I.cn.tH) r₂ k fun tk=>wpAny_truthy_bool (h h₂ tk (e₁.trans e₂))) (hd.facts.mark _)
 | IfExp=>exact nos hc
 | _=>exact val_ok S hc I he rfl h
end
end Mine
end
section
set_option maxRecDepth 100000
open PySem PySem.Calls PyProof.Rows PySem.W
set_option genSizeOf false
set_option genInjectivity false
namespace Mine
structure ItOk (cx:Cx) (A:Around) (it:Addr) (hb:Heap) (Hs:Hid) (ps:List PV) (P:Nat→Value→Prop) (St:Nat→Heap→Prop) (fp:List Addr):Prop where
 walks:Walks cx.prog cx.w A it fp [it] ps.length P St
 fp:∀ a∈fp,a=it∨(¬ Hs a∧Live hb a)
 cls:∀ i h,St i h→∃ o nm,h.get? it=some o∧o.cls=.type nm∧nm∈(["list_iterator","list_reverseiterator","range_iterator","str_iterator","str_ascii_iterator"]:List String)
 val:∀ h,(∀ a o,¬ Hs a→hb.get? a=some o→h.get? a=some o)→∀ i v,P i v→∃ p,ps[i]?=some p∧Rep cx h Hs v p
theorem rangeUp_length:∀ (n:Nat) (a:Int),(rangeUp a n).length=n
 | 0,_=>rfl
 | n+1,a=>by rw [rangeUp,List.length_cons,rangeUp_length n]
theorem rangeUp_get:∀ (n:Nat) (a:Int) (i:Nat),i<n→(rangeUp a n)[i]?=some (.int (a+i))
 | 0,_,_,h=>absurd h (Nat.not_lt_zero _)
 | n+1,a,0,_=>by simp [rangeUp]
 | n+1,a,i+1,h=>by
  rw [rangeUp,List.getElem?_cons_succ,rangeUp_get n (a+1) i (by omega)]
  rw [Int.natCast_add,Int.add_assoc,Int.add_comm 1];rfl
theorem rangeUp_scalar:∀ (n:Nat) (a:Int),∀ p∈rangeUp a n,p.scalar=true
 | 0,_,p,h=>by cases h
 | n+1,a,p,h=>by
  rcases List.mem_cons.mp h with rfl|h
  ·rfl
  ·exact rangeUp_scalar n _ p h
theorem small_i {a:Int} (h:small a=true):-1000000<a∧a<1000000:=by
 have:=blt_true.mp h
 omega
theorem range_small {a b:Int} (ha:small a=true) (hb:small b=true):Builtin.Range.small a b 1=true∧(b - a).toNat<2000000:=by
 obtain ⟨h1,h2⟩:=small_i ha
 obtain ⟨h3,h4⟩:=small_i hb
 refine ⟨?_,by omega⟩
 unfold Builtin.Range.small Builtin.Range.rangeFitsLong
 rw [rangeSize_one]
 split <;> simp <;> omega
section
variable {cx:Cx} {G:Gl} {n:Nat} {ns:Ns} {A:Around} {env:Env} {ρ:PEnv} {H:Hid} {s:Shared} {E:Value→Shared→Prop} {Q:Value→Shared→Prop}
theorem range_walk {a b:Int} {r:Addr} {t u v:Tok} {hb:Heap} (hh:A.handled=none) (ha:small a=true) (hb':small b=true) (hr:IsRange s.heap r a b 1 t u v) (e:Ext cx cx.T hb s.heap)
  (h:∀ it h₂ P St fp,Ext cx cx.T s.heap h₂→¬ Live s.heap it→Live h₂ it→(∀ hb Hs,ItOk cx A it hb Hs (rangeUp a (b - a).toNat) P St fp)→St 0 h₂→fp=[it]→Q (.ref it) { s with heap:=h₂ }) :
  wpAny (model cx.prog cx.w) A (pyIter (.ref r)) Q E s:=by
 obtain ⟨h1,h2⟩:=range_small ha hb'
 refine wpAny_pyIter_range hr h1 ?_
 have ok:∀ hb Hs,ItOk cx A s.heap.objs.size hb Hs (rangeUp a (b - a).toNat) (fun i v=>i<(b - a).toNat∧∃ t,v=.int (a+i*1) t) (fun i h=>IsRangeIter h s.heap.objs.size (a+(i:Nat)*1) (((b - a).toNat:Int) - (i:Nat)) 1) [s.heap.objs.size]:=fun hb Hs=>by
  refine ⟨?_,fun a ha=>.inl (by simpa using ha),fun i h st=>⟨_,_,st,rfl,by simp⟩,fun h _ i v hv=>?_⟩
  ·rw [rangeUp_length]
   exact (Walks.range (prog:=cx.prog) (w:=cx.w) hh s.heap.objs.size a 1 (b - a).toNat).bound
  ·obtain ⟨hi,t,rfl⟩:=hv
   refine ⟨_,rangeUp_get _ a i hi,?_⟩
   rw [Int.mul_one]
   exact .int _ t
 refine h _ _ _ _ _ (.push _) not_live_size ⟨_,Heap.get?_push_size _ rfl⟩ ok ?_ rfl
 show IsRangeIter _ _ _ _ _
 rw [rangeSize_nat]
 simpa using Heap.get?_push_size _ rfl
theorem range_call {vs:List Value} {ps:List PV} {x:List PV} (r:RepAll cx s.heap H vs ps) (hx:rangeV ps=some x)
  (h:∀ a b r t u v tk,small a=true→small b=true→x=rangeUp a (b - a).toNat→IsRange (s.heap.push { cls:=.type "range",data:=.fields #[.int a t,.int b u,.int 1 v] }) r a b 1 t u v→Ext cx cx.T s.heap (s.heap.push { cls:=.type "range",data:=.fields #[.int a t,.int b u,.int 1 v] })→¬ Live s.heap r →
   Q (.ref r) { s with heap:=s.heap.push { cls:=.type "range",data:=.fields #[.int a t,.int b u,.int 1 v] },toks:=tk }) :
  wpAny (model cx.prog cx.w) A (call (.type "range") vs) Q E s:=by
 cases ps with
 | nil=>exact (Option.some_ne_none _ hx.symm).elim
 | cons p ps =>
  obtain ⟨i,hi,y1⟩:=ob_i hx
  obtain ⟨w1,ws,rfl,q1,q2⟩:=r.cons'
  obtain ⟨t,rfl⟩:=q1.toInt hi
  cases ps with
  | nil =>
   obtain ⟨sm,ex⟩:=og_i y1
   obtain rfl:=q2.nil'
   exact call_range_1 (h 0 i _ _ _ _ _ (by decide) sm ((Int.sub_zero i).symm ▸ ex.symm) (IsRange.new ..) (.push _) not_live_size)
  | cons q ps =>
   obtain ⟨j,hj,y2⟩:=ob_i y1
   obtain ⟨w2,ws2,rfl,q3,q4⟩:=q2.cons'
   obtain ⟨u,rfl⟩:=q3.toInt hj
   cases ps with
   | nil =>
    obtain ⟨sm,ex⟩:=og_i y2
    obtain ⟨sm1,sm2⟩:=Bool.and_eq_true_iff.mp sm
    obtain rfl:=q4.nil'
    exact call_range_2 (h i j _ _ _ _ _ sm1 sm2 ex.symm (IsRange.new ..) (.push _) not_live_size)
   | cons _ _=>exact (Option.some_ne_none _ y2.symm).elim
theorem strSigns (x:List Nat):(x.map fun c=>PV.str [c]).length=(S x).cps.size:=List.length_map _
theorem rep_at {hb h:Heap} {vs:List Value} {ps:List PV} (r:RepAll cx hb H vs ps) (hk:∀ a o,¬ (H a∨¬ Live hb a)→hb.get? a=some o→h.get? a=some o) {i:Nat} {v:Value} (hv:vs[i]?=some v):∃ p,ps[i]?=some p∧Rep cx h (fun a=>H a∨¬ Live hb a) v p:=by
 have hlt:i<ps.length:=r.length ▸ (List.getElem?_eq_some_iff.mp hv).1
 obtain ⟨v',e1,e2⟩:=r.get (List.getElem?_eq_getElem hlt)
 obtain rfl:=Option.some.inj (hv.symm.trans e1)
 exact ⟨_,List.getElem?_eq_getElem hlt,e2.map fun b o nb g=>⟨fun q=>Or.elim q nb fun z=>z ⟨o,g⟩,hk b o (fun q=>Or.elim q nb fun z=>z ⟨o,g⟩) g⟩⟩
theorem two_fp {it a:Addr} {P:Addr→Prop} (h:P a):∀ b∈[it,a],b=it∨P b:=fun b hb=>by
 rcases List.mem_cons.mp hb with hb|hb
 ·exact .inl hb
 ·exact .inr (List.mem_singleton.mp hb ▸ h)
theorem it_list {h₁:Heap} {a:Addr} {vs:List Value} {ps:List PV} (hh:A.handled=none) (nH:¬ H a) (l:IsLs h₁ a vs) (r:RepAll cx h₁ H vs ps) (hne:a ≠ h₁.objs.size) :
  ItOk cx A h₁.objs.size h₁ (fun a=>H a∨¬ Live h₁ a) ps (fun i v=>vs.toArray[i]?=some v) (fun i h=>h.IsListIter h₁.objs.size a i∧h.IsList a vs.toArray) [h₁.objs.size,a]:=by
 have lv:Live h₁ a:=⟨_,l.choose_spec⟩
 refine ⟨?_,two_fp ⟨fun q=>Or.elim q nH fun z=>z lv,lv⟩,fun i h st=>?_,fun h' hk i v hv=>rep_at r hk (by rw [← List.getElem?_toArray];exact hv)⟩
 ·rw [← r.length]
  exact Walks.list (prog:=cx.prog) (w:=cx.w) (A:=A) hh h₁.objs.size a hne vs.toArray
 ·obtain ⟨⟨o,h1,h2,_⟩,_⟩:=st
  exact ⟨o,_,h1,h2,.head _⟩
theorem it_rev {h₁:Heap} {a:Addr} {vs:List Value} {ps:List PV} (hh:A.handled=none) (nH:¬ H a) (l:IsLs h₁ a vs) (r:RepAll cx h₁ H vs ps) (hne:a ≠ h₁.objs.size) :
  ItOk cx A h₁.objs.size h₁ (fun a=>H a∨¬ Live h₁ a) ps.reverse (fun i v=>i<vs.toArray.size∧vs.toArray[vs.toArray.size - 1 - i]?=some v)
   (fun i h=>i≤vs.toArray.size∧h.IsRevIter h₁.objs.size a ((vs.toArray.size:Int) - 1 - (i:Int))∧h.IsList a vs.toArray) [h₁.objs.size,a]:=by
 have lv:Live h₁ a:=⟨_,l.choose_spec⟩
 refine ⟨?_,two_fp ⟨fun q=>Or.elim q nH fun z=>z lv,lv⟩,fun i h st=>?_,fun h' hk i v hv=>rep_at r.reverse hk ?_⟩
 ·rw [List.length_reverse,← r.length]
  exact (Walks.listRev (prog:=cx.prog) (w:=cx.w) (A:=A) hh h₁.objs.size a hne vs.toArray).bound
 ·obtain ⟨_,⟨o,h1,h2,_⟩,_⟩:=st
  exact ⟨o,_,h1,h2,.tail _ (.head _)⟩
 ·rw [List.getElem?_reverse hv.1,← List.getElem?_toArray]
  exact hv.2
theorem it_str {h₁:Heap} {x:List Nat} {St:Nat→Heap→Prop} (hW:Walks cx.prog cx.w A h₁.objs.size [h₁.objs.size] [h₁.objs.size] (Mine.S x).cps.size (SignAt (Mine.S x)) St)
  (hK:∀ i h,St i h→∃ o nm,h.get? h₁.objs.size=some o∧o.cls=.type nm∧nm∈(["list_iterator","list_reverseiterator","range_iterator","str_iterator","str_ascii_iterator"]:List String)) :
  ItOk cx A h₁.objs.size h₁ (fun a=>H a∨¬ Live h₁ a) (x.map fun c=>.str [c]) (SignAt (Mine.S x)) St [h₁.objs.size]:=by
 refine ⟨by rw [strSigns];exact hW,fun b hb=>.inl (List.mem_singleton.mp hb),hK,fun h' hk i v hv=>?_⟩
 obtain ⟨c,u,hc,rfl⟩:=hv
 have hc:x[i]?=some c:=by rw [← List.getElem?_toArray];exact hc
 exact ⟨.str [c],by rw [List.getElem?_map,hc];rfl,.str [c] u⟩
theorem evL_one {r:Rc} {a:PE} {v:PV} (h:r.ev ρ a=some v):evL r ρ [a]=some [v]:=by unfold evL;rw [h];rfl
theorem CI.fold {e:Expr} {pi:PE} (hc:CI ns e pi):∀ env x,foldedSetIterable e env x=pure x:=by
 obtain ⟨m,hc⟩:=hc
 rcases om_i hc with ⟨p,hp,k1⟩|k1
 ·refine ob_e hp fun t ht _=>?_
  rw [(inn_i ht).1]
  exact fun _ _=>rfl
 ·exact ob_e k1 fun a ha _=>(CE.facts ⟨m,ha⟩).fold
theorem small_len {α:Type} {l:List α} (hl:lenOk l=true):l.length≤2000000:=Nat.le_trans (lenOk_le hl) (by decide)
theorem iter_i {r:Rc} {m:Nat} {e:Expr} {pi:PE} {ps:List PV} {fl:Bool} {P:Prop} (hc:trI ((tr m).E ns) ns e=some pi) (he:iterV r ρ pi=some (ps,fl))
  (c:∀ (x:Str × Pos) (kp:Pos) (d:Expr) (rest:List Expr) (l:List PE) (vs:List PV),e=.Call (.Name x.1 x.2) (d :: rest) [] kp→x.1 = "range"→Glb ns x.1→CEs ns (d :: rest) l→evL r ρ l=some vs→rangeV vs=some ps→fl=false→P)
  (d:∀ (x:Str × Pos) (kp:Pos) (d:Expr) (a:PE) (v:PV) (xs:List PV),e=.Call (.Name x.1 x.2) [d] [] kp→x.1 = "reversed"→Glb ns x.1→CE ns d a→r.ev ρ a=some v→list? v=some xs→lenOk xs=true→ps=xs.reverse→fl=true→P)
  (K:∀ a v,CE ns e a→r.ev ρ a=some v→itV v=some (ps,fl)→P):P:=by
 rcases om_i hc with ⟨p,hp,k1⟩|k1
 ·obtain rfl:=Option.some.inj k1
  refine ob_e hp fun t ht k2=>?_
  obtain ⟨h1,h2⟩:=inn_i ht
  rcases oe_i k2 with ⟨h3,k3⟩|k3
  ·refine ob_e k3 fun l hl k4=>?_
   obtain rfl:=Option.some.inj k4
   obtain ⟨d,rest,h4,hcs⟩:=trL1_i hl
   refine ob_e he fun vs hvs k5=>ob_e k5 fun x hx k6=>?_
   obtain ⟨h5,h6⟩:=Prod.mk.inj (Option.some.inj k6)
   exact c t.1 _ d rest l vs (by rw [h1,h4]) (eq_of_beq h3) h2 hcs hvs (hx.trans (congrArg some h5)) h6.symm
  ·obtain ⟨h3,k4⟩:=ogo_i k3
   refine ob_e k4 fun y hy k5=>ob_e k5 fun a ha k6=>?_
   obtain rfl:=Option.some.inj k6
   refine ob_e (o:=r.ev ρ a) he fun v hv k8=>ob_e k8 fun x hx k9=>?_
   obtain ⟨hl,h4⟩:=og_i k9
   obtain ⟨h5,h6⟩:=Prod.mk.inj h4
   exact d t.1 _ y a v x (by rw [h1,l1_i hy]) (eq_of_beq h3) h2 ⟨m,ha⟩ hv hx hl h5.symm h6.symm
 ·refine ob_e k1 fun a ha k2=>?_
  obtain rfl:=Option.some.inj k2
  exact ob_e he fun v hv k3=>K a v ⟨m,ha⟩ hv k3
theorem iter_ok (g:GOk cx G) (S:SndN cx G n) {e:Expr} {pi:PE} {ps:List PV} {fl:Bool} (hc:CI ns e pi) (I:InE cx (n+60) A env ns ρ H s) (he:iterV (sem G n) ρ pi=some (ps,fl))
  (h:∀ it hb h₂ tk P St fp,Ext cx cx.T s.heap hb→Ext cx cx.T hb h₂→¬ Live hb it→Live h₂ it→ItOk cx A it hb (fun a=>H a∨¬ Live hb a) ps P St fp→St 0 h₂→ps.length≤2000000 →
   (fl=false→(∀ p∈ps,p.scalar=true)∧∀ a∈fp,a=it)→Q (.ref it) { s with heap:=h₂,toks:=tk }) :
  wpAny (model cx.prog cx.w) A (eval e env) (fun x s₁=>wpAny (model cx.prog cx.w) A (pyIter x) Q E s₁) E s:=by
 obtain ⟨m,hc⟩:=hc
 refine iter_i hc he (fun x kp e rest l vs h0 h1 hr hcs hvs hx hf=>?_) (fun x kp e a v xs h0 h1 hr hce hv hx hl hps hf=>?_) fun a v hce hv k1=>?_
 ·rw [h0,h1]
  rw [h1] at hr
  refine call_named S I callee_type hcs hvs (fun hq=>ld_bi I hr rfl (g.bi _ (by decide)) (by decide) boot_range hq) fun vs' h₁ t₁ e₁ r₁=>?_
  refine range_call r₁ hx fun a b r t u v tk' sa sb ex hr' e₂ nl=>?_
  refine range_walk (s:={ s with heap:=_,toks:=_ }) I.room.1 sa sb hr' e₂ fun it h₂ P St fp e₃ nl₂ lv ok st hfp=>?_
  rw [← ex] at ok
  exact h it h₁ h₂ _ P St fp e₁ (e₂.trans e₃) (fun l=>nl₂ (e₂.live _ l)) lv (ok _ _) st (by rw [ex,rangeUp_length];exact Nat.le_of_lt (range_small sa sb).2)
   fun _=>⟨ex ▸ rangeUp_scalar _ _,fun a ha=>List.mem_singleton.mp (hfp ▸ ha)⟩
 ·rw [h0,h1]
  rw [h1] at hr
  refine call_named S I callee_type (CEs.one hce) (evL_one hv) (fun hq=>ld_bi I hr rfl (g.bi _ (by decide)) (by decide) boot_reversed hq) fun vs' h₁ t₁ e₁ r₁=>?_
  obtain ⟨w,rfl,r2⟩:=r₁.one'
  obtain ⟨a,vs,rfl,nH,l,xs⟩:=r2.toList hx
  have hne:a ≠ h₁.objs.size:=Nat.ne_of_lt (Live.lt ⟨_,l.choose_spec⟩)
  refine call_reversed_list l.isList ?_
  have hit:(h₁.push (revObj a ((vs.toArray.size:Int) - 1))).IsRevIter h₁.objs.size a ((vs.toArray.size:Int) - 1):=⟨_,Heap.get?_push_size _ rfl,rfl,rfl⟩
  rw [hps] at h
  exact wpAny_pyIter_revIter hit (h h₁.objs.size h₁ _ t₁ _ _ _ e₁ (.push _) not_live_size ⟨_,Heap.get?_push_size _ rfl⟩ (it_rev I.room.1 nH l xs hne) ⟨Nat.zero_le _,(Int.sub_zero _).symm ▸ hit,l.isList.push _⟩ (by rw [List.length_reverse];exact small_len hl) (fun q=>(Bool.false_ne_true (q.symm.trans hf)).elim))
 ·refine S.ev hce I hv fun w h₁ t₁ e₁ r₁ _=>?_
  induction v using PV.casesOn with
  | list x =>
   obtain ⟨hl,k4⟩:=og_i k1
   obtain ⟨k5,k6⟩:=Prod.mk.inj k4
   rw [← k5] at h
   obtain ⟨a,vs,rfl,nH,l,xs⟩:=r₁.list'
   refine iter_list l.isList fun s₂ es st hfp hlI=>?_
   subst es
   exact h h₁.objs.size h₁ _ t₁ _ _ _ e₁ (.push _) not_live_size ⟨_,Heap.get?_push_size _ rfl⟩ (it_list I.room.1 nH l xs hlI) st (small_len hl) (fun q=>(Bool.false_ne_true (q.symm.trans k6.symm)).elim)
  | str x =>
   obtain ⟨hl,k4⟩:=og_i k1
   obtain ⟨k5,k6⟩:=Prod.mk.inj k4
   rw [← k5] at h
   obtain ⟨t,rfl⟩:=r₁.str'
   have sc:∀ p∈x.map fun c=>PV.str [c],p.scalar=true:=fun p hp=>by
    obtain ⟨c,_,rfl⟩:=List.mem_map.mp hp
    rfl
   cases hall:(Mine.S x).cps.all (·<128)
   ·refine wpAny_pyIter_wide hall ?_
    exact h h₁.objs.size h₁ _ t₁ _ _ [h₁.objs.size] e₁ (.push _) not_live_size ⟨_,Heap.get?_push_size _ rfl⟩ (it_str (Walks.strWide I.room.1 _ _ _) fun i h st=>(by obtain ⟨o,h1,h2,_⟩:=st;exact ⟨o,_,h1,h2,.tail _ (.tail _ (.tail _ (.head _)))⟩)) ⟨_,Heap.get?_push_size _ rfl,rfl,rfl⟩ (by rw [List.length_map];exact small_len hl) (fun _=>⟨sc,fun a ha=>List.mem_singleton.mp ha⟩)
   ·refine wpAny_pyIter_ascii hall ?_
    exact h h₁.objs.size h₁ _ t₁ _ _ [h₁.objs.size] e₁ (.push _) not_live_size ⟨_,Heap.get?_push_size _ rfl⟩ (it_str (Walks.strAscii I.room.1 _ _ _) fun i h st=>(by obtain ⟨o,h1,h2,_⟩:=st;exact ⟨o,_,h1,h2,.tail _ (.tail _ (.tail _ (.tail _ (.head _))))⟩)) ⟨_,Heap.get?_push_size _ rfl,rfl,rfl⟩ (by rw [List.length_map];exact small_len hl) (fun _=>⟨sc,fun a ha=>List.mem_singleton.mp ha⟩)
  | _=>exact nos k1
end
end Mine
end
section
set_option maxRecDepth 100000
open PySem PySem.Calls PyProof.Rows PySem.W
set_option genSizeOf false
set_option genInjectivity false
namespace Mine
structure Own where
 cell:Hid
 inst:Addr
instance:CoeFun Own fun _=>Hid:=⟨Own.cell⟩
noncomputable def HH (Hx:Hid) (env:Env) (own:Own) (ow:Nat→Hid) (P:Nat→Prop):Hid:=fun a=>Hx a∨a=env.locals∨own a∨∃ k,¬ P k∧ow k a
noncomputable abbrev HA (Hx:Hid) (env:Env) (own:Own) (ow:Nat→Hid):Hid:=HH Hx env own ow fun _=>False
noncomputable def WW (cx:Cx) (env:Env) (own:Own) (ow:Nat→Hid):Hid:=fun a=>cx.T a∨a=env.locals∨own a∨∃ k,ow k a
noncomputable def OwnRep (cx:Cx) (iv:Addr) (h:Heap) (H:Hid) (O:Hid) (v:Value):PV→Prop
 | .list ps=>∃ D vs,v=.ref D∧(∀ a,O a↔a=D)∧IsLs h D vs∧RepAll cx h H vs ps
 | .inst ks ps=>∃ d m vs,v=.ref iv∧(∀ z,O z↔z=iv∨z=d)∧IsIn h iv cx.C d∧d ≠ iv∧h.Ns1 d m∧AttrsAre m ks vs∧RepAll cx h H vs ps
 | _=>False
structure InS (cx:Cx) (m:Nat) (A:Around) (env:Env) (ns:Ns) (Hx:Hid) (own:Own) (ow:Nat→Hid) (ρ:PEnv) (h:Heap):Prop where
 room:Room A m
 kind:env.scope.kind=.function
 glb:∀ f,ns.lookup f=some .globalImplicit→env.kindOf f=some .globalImplicit
 loc:∀ y,ns.lookup y=some .local→env.kindOf y=some .local
 cel:∀ y,ns.lookup y=some .cell→env.kindOf y=some .cell∧∃ c,env.cells.lookup y=some c∧own c
 fre:∀ y,ns.lookup y=some .free→env.kindOf y=some .cell∧∃ c,env.cells.lookup y=some c
 glob:env.globals=mainGlobals
 blt:env.builtins=builtinsNs
 cn:Cn cx h Hx
 nsl:∃ m,h.Ns env.locals m
 cells:∀ c,own c→∃ v,h.IsCell c v
 cinj:∀ n n' c,env.cells.lookup n=some c→own c→env.cells.lookup n'=some c→n=n'
 fH:¬ Hx env.locals∧∀ c,own c→¬ Hx c
 fG:¬ cx.GA env.locals∧∀ c,own c→¬ cx.GA c
 lcl:¬ own env.locals
 outer:∀ n c,env.cells.lookup n=some c→¬ own c→Hx c∧¬ cx.T c
 owL:∀ k a,ow k a→Live h a∧¬ Hx a∧a ≠ env.locals∧¬ own a∧¬ cx.GA a
 owP:∀ k a,ow k a→∃ p,PEnv.get ρ k=some (true,p)
 owA:∀ j k a,ow j a→ow k a→j=k
 vars:∀ x b p,okN x=true→PEnv.get ρ (enc x)=some (b,p)→∃ v,VarAt h env x v∧(b=false→Rep cx h (HA Hx env own ow) v p)∧(b=true→OwnRep cx own.inst h (HA Hx env own ow) (ow (enc x)) v p)
theorem IsLs.map {h h':Heap} {a:Addr} {vs:List Value} (l:IsLs h a vs) (k:∀ o,h.get? a=some o→h'.get? a=some o):IsLs h' a vs:=(by obtain ⟨n,e⟩:=l;exact ⟨n,k _ e⟩)
theorem IsIn.map {h h':Heap} {a C d:Addr} (l:IsIn h a C d) (k:∀ o,h.get? a=some o→h'.get? a=some o):IsIn h' a C d:=(by obtain ⟨o,e,r⟩:=l;exact ⟨o,k _ e,r⟩)
theorem IsLs.live {h:Heap} {a:Addr} {vs:List Value} (l:IsLs h a vs):Live h a:=(by obtain ⟨_,e⟩:=l;exact ⟨_,e⟩)
theorem IsIn.live {h:Heap} {a C d:Addr} (l:IsIn h a C d):Live h a:=(by obtain ⟨o,e,_⟩:=l;exact ⟨o,e⟩)
theorem Ns_live {h:Heap} {a:Addr} {m:Str→Option Value} (l:h.Ns a m):Live h a:=(by obtain ⟨o,_,_,e,_⟩:=l;exact ⟨o,e⟩)
theorem Ns1_live {h:Heap} {a:Addr} {m:Str→Option Value} (l:h.Ns1 a m):Live h a:=(by obtain ⟨o,_,_,e,_⟩:=l;exact ⟨o,e⟩)
theorem OwnRep.map {cx:Cx} {iv:Addr} {h h':Heap} {H H' O O':Hid} {v:Value} {p:PV} (x:OwnRep cx iv h H O v p) (ko:∀ a o,O a→h.get? a=some o→h'.get? a=some o) (hO:∀ a,O' a↔O a)
  (k:∀ a o,¬ H a→h.get? a=some o→¬ H' a∧h'.get? a=some o):OwnRep cx iv h' H' O' v p:=by
 cases p with
 | list ps =>
  obtain ⟨D,vs,e,hD,l,r⟩:=x
  exact ⟨D,vs,e,fun a=>(hO a).trans (hD a),l.map fun o=>ko _ o ((hD D).mpr rfl),r.map k⟩
 | inst ks ps =>
  obtain ⟨d,m,vs,e,hD,i,ne,n,at',r⟩:=x
  exact ⟨d,m,vs,e,fun z=>(hO z).trans (hD z),i.map fun o=>ko _ o ((hD _).mpr (.inl rfl)),ne,n.at fun o=>ko _ o ((hD d).mpr (.inr rfl)),at',r.map k⟩
 | _=>exact x.elim
theorem OwnRep.rep {cx:Cx} {iv:Addr} {h:Heap} {H H' O:Hid} {v:Value} {p:PV} (x:OwnRep cx iv h H O v p) (hO:∀ a,O a→¬ H' a) (k:∀ a,H' a→H a):Rep cx h H' v p:=by
 cases p with
 | list ps =>
  obtain ⟨D,vs,rfl,hD,l,r⟩:=x
  exact .list (hO _ ((hD D).mpr rfl)) l (r.open' k)
 | inst ks ps =>
  obtain ⟨d,m,vs,rfl,hD,i,ne,n,at',r⟩:=x
  exact .inst (hO _ ((hD _).mpr (.inl rfl))) (hO _ ((hD d).mpr (.inr rfl))) i ne n at' (r.open' k)
 | _=>exact x.elim
namespace InS
variable {cx:Cx} {m:Nat} {A:Around} {env:Env} {ns:Ns} {Hx:Hid} {own:Own} {ow:Nat→Hid} {ρ:PEnv} {h h':Heap}
theorem frame_live (I:InS cx m A env ns Hx own ow ρ h):Live h env.locals∧∀ c,own c→Live h c:=by
 refine ⟨(by obtain ⟨_,n⟩:=I.nsl;exact Ns_live n),fun c oc=>?_⟩
 obtain ⟨v,o,e,_⟩:=I.cells c oc
 exact ⟨o,e⟩
theorem noT (I:InS cx m A env ns Hx own ow ρ h):¬ cx.T env.locals∧∀ n c,env.cells.lookup n=some c→¬ cx.T c :=
 ⟨fun t=>I.fG.1 (cx.bGA _ (cx.tB _ t)),fun n c e t=>by
  by_cases q:own c
  ·exact I.fG.2 c q (cx.bGA _ (cx.tB _ t))
  ·exact (I.outer n c e q).2 t⟩
theorem cnH (I:InS cx m A env ns Hx own ow ρ h) (P:Nat→Prop):Cn cx h (HH Hx env own ow P):=by
 refine ⟨I.cn.gi,fun a q=>?_,fun a b=>.inl (I.cn.bH a b),fun a q g=>?_⟩
 ·rcases q with q|rfl|q|⟨k,_,q⟩
  ·exact I.cn.hid a q
  ·exact I.frame_live.1
  ·exact I.frame_live.2 a q
  ·exact (I.owL k a q).1
 ·rcases q with q|rfl|q|⟨k,_,q⟩
  ·exact I.cn.hg a q g
  ·exact (I.fG.1 g).elim
  ·exact (I.fG.2 a q g).elim
  ·exact ((I.owL k a q).2.2.2.2 g).elim
theorem toE (I:InS cx m A env ns Hx own ow ρ h) (P:Nat→Prop) {ρ':PEnv} (hρ:∀ k b p,PEnv.get ρ' k=some (b,p)→P k∧PEnv.get ρ k=some (b,p)) {s:Shared} (hs:s.heap=h):InE cx m A env ns ρ' (HH Hx env own ow P) s:=by
 subst hs
 have up:∀ a,HH Hx env own ow P a→HA Hx env own ow a:=fun a q=>by
  rcases q with q|q|q|⟨k,_,q⟩
  ·exact .inl q
  ·exact .inr (.inl q)
  ·exact .inr (.inr (.inl q))
  ·exact .inr (.inr (.inr ⟨k,fun x=>x,q⟩))
 refine ⟨I.room,I.kind,I.glb,fun y q=>?_,I.glob,I.blt,I.cnH P,.inr (.inl rfl),fun n c e=>?_,I.noT,fun x b p ok g=>?_⟩
 ·rcases q with q|q
  ·obtain ⟨h1,c,h2,_⟩:=I.cel y q
   exact ⟨h1,c,h2⟩
  ·exact I.fre y q
 ·by_cases q:own c
  ·exact .inr (.inr (.inl q))
  ·exact .inl (I.outer n c e q).1
 ·obtain ⟨hP,g'⟩:=hρ _ _ _ g
  obtain ⟨v,hv,h1,h2⟩:=I.vars x b p ok g'
  refine ⟨v,hv,?_⟩
  cases b with
  | false=>exact (h1 rfl).open' up
  | true =>
   refine (h2 rfl).rep (fun a oa q=>?_) up
   obtain ⟨_,n1,n2,n3,_⟩:=I.owL _ _ oa
   rcases q with q|q|q|⟨k,nk,q⟩
   ·exact n1 q
   ·exact n2 q
   ·exact n3 q
   ·exact nk (I.owA _ _ _ q oa ▸ hP)
theorem ext (I:InS cx m A env ns Hx own ow ρ h) (e:Ext cx cx.T h h'):InS cx m A env ns Hx own ow ρ h':=by
 have kl:∀ o,h.get? env.locals=some o→h'.get? env.locals=some o:=fun o=>e.keep _ o I.noT.1
 have kc:∀ c,own c→∀ o,h.get? c=some o→h'.get? c=some o:=fun c oc o=>e.keep _ o fun t=>I.fG.2 c oc (cx.bGA _ (cx.tB _ t))
 have kw:∀ k a,ow k a→∀ o,h.get? a=some o→h'.get? a=some o:=fun k a oa o=>e.keep _ o fun t=>(I.owL k a oa).2.2.2.2 (cx.bGA _ (cx.tB _ t))
 have kr:∀ a o,¬ HA Hx env own ow a→h.get? a=some o→¬ HA Hx env own ow a∧h'.get? a=some o:=fun a o n g=>⟨n,e.keep a o (fun t=>n (.inl (I.cn.tH a t))) g⟩
 refine ⟨I.room,I.kind,I.glb,I.loc,I.cel,I.fre,I.glob,I.blt,I.cn.ext e,?_,fun c oc=>?_,I.cinj,I.fH,I.fG,I.lcl,I.outer,fun k a oa=>⟨e.live a (I.owL k a oa).1,(I.owL k a oa).2⟩,I.owP,I.owA,fun x b p ok g=>?_⟩
 ·obtain ⟨m,o,es,ep,ho,r⟩:=I.nsl
  exact ⟨m,o,es,ep,kl o ho,r⟩
 ·obtain ⟨v,o,ho,r⟩:=I.cells c oc
  exact ⟨v,o,kc c oc o ho,r⟩
 ·obtain ⟨v,hv,h1,h2⟩:=I.vars x b p ok g
  refine ⟨v,hv.keep fun a o ha g=>?_,fun q=>(h1 q).map kr,fun q=>(h2 q).map (fun a o oa=>kw _ a oa o) (fun _=>Iff.rfl) kr⟩
  rcases ha with rfl|⟨n,c,hc,rfl⟩
  ·exact kl o g
  ·exact e.keep _ _ (I.noT.2 n _ hc) g
end InS
theorem get_set {ρ:PEnv} {x y:Nat} {b:Bool} {v:PV}:PEnv.get (PEnv.set ρ x b v) y=if y=x then some (b,v) else PEnv.get ρ y:=by
 induction ρ with
 | nil =>
  simp only [PEnv.set,PEnv.get]
  by_cases q:y=x
  ·subst q;simp [Nat.beq_refl]
  ·have:Nat.beq y x=false:=by cases h:Nat.beq y x with|true=>exact (q (Nat.eq_of_beq_eq_true h)).elim|false=>rfl
   rw [this,if_neg q]
 | cons z r ih =>
  obtain ⟨z,c⟩:=z
  simp only [PEnv.set]
  cases hxz:Nat.beq x z with
  | true =>
   have:=Nat.eq_of_beq_eq_true hxz
   subst this
   simp only [PEnv.get]
   by_cases q:y=x
   ·subst q;simp [Nat.beq_refl]
   ·have:Nat.beq y x=false:=by cases h:Nat.beq y x with|true=>exact (q (Nat.eq_of_beq_eq_true h)).elim|false=>rfl
    rw [this,if_neg q]
  | false =>
   simp only [PEnv.get]
   cases hyz:Nat.beq y z with
   | true =>
    have:=Nat.eq_of_beq_eq_true hyz
    subst this
    have:y ≠ x:=fun q=>by subst q;rw [Nat.beq_refl] at hxz;cases hxz
    rw [if_neg this]
   | false=>exact ih
theorem has_iff {l:List Nat} {x:Nat}:PEnv.has l x=true↔x∈l:=by
 unfold PEnv.has
 rw [List.any_eq_true]
 constructor
 ·rintro ⟨y,hy,e⟩
  exact Nat.eq_of_beq_eq_true e ▸ hy
 ·intro h;exact ⟨x,h,Nat.beq_refl x⟩
theorem get_only {l:List Nat} {ρ:PEnv} {x:Nat}:PEnv.get (PEnv.only l ρ) x=if x∈l then PEnv.get ρ x else none:=by
 induction ρ with
 | nil=>simp [PEnv.only,PEnv.get]
 | cons z r ih =>
  obtain ⟨z,c⟩:=z
  simp only [PEnv.only]
  cases hz:PEnv.has l z with
  | true =>
   simp only [PEnv.get]
   cases hxz:Nat.beq x z with
   | true =>
    have:=Nat.eq_of_beq_eq_true hxz
    subst this
    rw [if_pos (has_iff.mp hz)]
   | false=>exact ih
  | false =>
   rw [ih]
   by_cases q:x∈l
   ·rw [if_pos q,if_pos q]
    simp only [PEnv.get]
    cases hxz:Nat.beq x z with
    | true =>
     have:=Nat.eq_of_beq_eq_true hxz
     subst this
     rw [has_iff.mpr q] at hz;cases hz
    | false=>rfl
   ·rw [if_neg q,if_neg q]
theorem get_freeze {l:List Nat} {ρ:PEnv} {x:Nat}:PEnv.get (PEnv.freeze l ρ) x=(PEnv.get ρ x).map fun c=>if x∈l then (false,c.2) else c:=by
 induction ρ with
 | nil=>rfl
 | cons z r ih =>
  obtain ⟨z,b,c⟩:=z
  simp only [PEnv.freeze]
  cases hz:PEnv.has l z with
  | true =>
   simp only [PEnv.get]
   cases hxz:Nat.beq x z with
   | true =>
    have:=Nat.eq_of_beq_eq_true hxz
    subst this
    simp [has_iff.mp hz]
   | false=>exact ih
  | false =>
   simp only [PEnv.get]
   cases hxz:Nat.beq x z with
   | true =>
    have:=Nat.eq_of_beq_eq_true hxz
    subst this
    have:x ∉ l:=fun q=>by rw [has_iff.mpr q] at hz;cases hz
    simp [this]
   | false=>exact ih
namespace InS
variable {cx:Cx} {m:Nat} {A:Around} {env:Env} {ns:Ns} {Hx:Hid} {own:Own} {ow:Nat→Hid} {ρ:PEnv} {h h':Heap}
noncomputable def cut (ow:Nat→Hid) (l:List Nat):Nat→Hid:=fun k a=>ow k a∧k ∉ l
theorem HA_cut (l:List Nat):HA Hx env own (cut ow l)=HH Hx env own ow (·∈l):=by
 funext a
 refine propext ⟨fun q=>?_,fun q=>?_⟩
 ·rcases q with q|q|q|⟨k,_,q,n⟩
  ·exact .inl q
  ·exact .inr (.inl q)
  ·exact .inr (.inr (.inl q))
  ·exact .inr (.inr (.inr ⟨k,n,q⟩))
 ·rcases q with q|q|q|⟨k,n,q⟩
  ·exact .inl q
  ·exact .inr (.inl q)
  ·exact .inr (.inr (.inl q))
  ·exact .inr (.inr (.inr ⟨k,fun x=>x,q,n⟩))
theorem frozen (I:InS cx m A env ns Hx own ow ρ h) (l:List Nat):InS cx m A env ns Hx own (cut ow l) (PEnv.freeze l ρ) h:=by
 have up:∀ a,HA Hx env own (cut ow l) a→HA Hx env own ow a:=fun a q=>by
  rcases q with q|q|q|⟨k,_,q,_⟩
  ·exact .inl q
  ·exact .inr (.inl q)
  ·exact .inr (.inr (.inl q))
  ·exact .inr (.inr (.inr ⟨k,fun x=>x,q⟩))
 refine ⟨I.room,I.kind,I.glb,I.loc,I.cel,I.fre,I.glob,I.blt,I.cn,I.nsl,I.cells,I.cinj,I.fH,I.fG,I.lcl,I.outer,fun k a oa=>I.owL k a oa.1,fun k a oa=>?_,fun j k a oj ok=>I.owA j k a oj.1 ok.1,fun x b p ok g=>?_⟩
 ·obtain ⟨p,hp⟩:=I.owP k a oa.1
  exact ⟨p,by rw [get_freeze,hp];simp [oa.2]⟩
 ·rw [get_freeze,Option.map_eq_some_iff] at g
  obtain ⟨⟨b',p'⟩,g1,g2⟩:=g
  obtain ⟨v,hv,h1,h2⟩:=I.vars x b' p' ok g1
  by_cases q:enc x∈l
  ·rw [if_pos q] at g2
   injection g2 with e1 e2
   subst e1 e2
   refine ⟨v,hv,fun _=>?_,fun q=>by cases q⟩
   cases b' with
   | false=>exact (h1 rfl).open' up
   | true =>
    refine (h2 rfl).rep (fun a oa z=>?_) up
    obtain ⟨_,n1,n2,n3,_⟩:=I.owL _ _ oa
    rcases z with z|z|z|⟨k,_,z,nk⟩
    ·exact n1 z
    ·exact n2 z
    ·exact n3 z
    ·exact nk (I.owA _ _ _ oa z ▸ q)
  ·rw [if_neg q] at g2
   injection g2 with e1 e2
   subst e1 e2
   refine ⟨v,hv,fun z=>(h1 z).open' up,fun z=>(h2 z).map (fun _ _ _ e=>e) (fun a=>⟨fun y=>y.1,fun y=>⟨y,q⟩⟩) fun a o n g=>⟨fun z=>n (up a z),g⟩⟩
end InS
end Mine
end
section
set_option maxRecDepth 100000
open PySem PySem.Calls PyProof.Rows PySem.W
set_option genSizeOf false
set_option genInjectivity false
namespace Mine
noncomputable abbrev add (H:Hid) (D:Addr):Hid:=fun a=>H a∨a=D
namespace InS
variable {cx:Cx} {m:Nat} {A:Around} {env:Env} {ns:Ns} {Hx:Hid} {own:Own} {ow:Nat→Hid} {ρ:PEnv} {h h':Heap} {D:Addr}
theorem le {m':Nat} (I:InS cx m A env ns Hx own ow ρ h) (l:m'≤m):InS cx m' A env ns Hx own ow ρ h:={ I with room:=I.room.le l }
theorem extAdd (I:InS cx m A env ns Hx own ow ρ h) (e:Ext cx cx.T h h') (nl:¬ Live h D) (l:Live h' D):InS cx m A env ns (add Hx D) own ow ρ h':=by
 have J:=I.ext e
 have nG:¬ cx.GA D:=fun g=>nl (cx.ga_live h D I.cn.gi g)
 have HAeq:∀ a,HA (add Hx D) env own ow a→HA Hx env own ow a∨a=D:=fun a q=>by
  rcases q with (q|q)|q|q|q
  ·exact .inl (.inl q)
  ·exact .inr q
  ·exact .inl (.inr (.inl q))
  ·exact .inl (.inr (.inr (.inl q)))
  ·exact .inl (.inr (.inr (.inr q)))
 have kr:∀ a o,¬ HA Hx env own ow a→h.get? a=some o→¬ HA (add Hx D) env own ow a∧h'.get? a=some o:=fun a o n g =>
  ⟨fun q=>(HAeq a q).elim n fun q=>nl ⟨o,q ▸ g⟩,e.keep a o (fun t=>n (.inl (I.cn.tH a t))) g⟩
 have kw:∀ k a,ow k a→∀ o,h.get? a=some o→h'.get? a=some o:=fun k a oa o=>e.keep _ o fun t=>(I.owL k a oa).2.2.2.2 (cx.bGA _ (cx.tB _ t))
 refine { J with cn:=⟨J.cn.gi,fun a q=>q.elim (J.cn.hid a) fun q=>q ▸ l,fun a b=>.inl (J.cn.bH a b),fun a q g=>q.elim (fun q=>J.cn.hg a q g) fun q=>(nG (q ▸ g)).elim⟩,fH:=?_,outer:=fun n c e q=>⟨.inl (J.outer n c e q).1,(J.outer n c e q).2⟩,owL:=?_,vars:=?_ }
 ·exact ⟨fun q=>q.elim J.fH.1 fun q=>nl (q ▸ I.frame_live.1),fun c oc q=>q.elim (J.fH.2 c oc) fun q=>nl (q ▸ I.frame_live.2 c oc)⟩
 ·intro k a oa
  obtain ⟨h1,h2,h3⟩:=J.owL k a oa
  exact ⟨h1,fun q=>q.elim h2 fun q=>nl (q ▸ (I.owL k a oa).1),h3⟩
 ·intro x b p ok g
  obtain ⟨v,hv,h1,h2⟩:=I.vars x b p ok g
  refine ⟨v,hv.keep fun a o ha g=>?_,fun q=>(h1 q).map kr,fun q=>(h2 q).map (fun a o oa=>kw _ a oa o) (fun _=>Iff.rfl) kr⟩
  rcases ha with rfl|⟨n,c,hc,rfl⟩
  ·exact e.keep _ _ I.noT.1 g
  ·exact e.keep _ _ (I.noT.2 n _ hc) g
theorem unAdd (I:InS cx m A env ns (add Hx D) own ow ρ h) (bH:∀ a,cx.B a→Hx a) (outer:∀ n c,env.cells.lookup n=some c→¬ own c→Hx c):InS cx m A env ns Hx own ow ρ h:=by
 have up:∀ a,HA Hx env own ow a→HA (add Hx D) env own ow a:=fun a q=>by
  rcases q with q|q|q|q
  ·exact .inl (.inl q)
  ·exact .inr (.inl q)
  ·exact .inr (.inr (.inl q))
  ·exact .inr (.inr (.inr q))
 refine { I with cn:=⟨I.cn.gi,fun a q=>I.cn.hid a (.inl q),bH,fun a q=>I.cn.hg a (.inl q)⟩,fH:=⟨fun q=>I.fH.1 (.inl q),fun c oc q=>I.fH.2 c oc (.inl q)⟩,outer:=fun n c e q=>⟨outer n c e q,(I.outer n c e q).2⟩,owL:=?_,vars:=?_ }
 ·intro k a oa
  obtain ⟨h1,h2,h3⟩:=I.owL k a oa
  exact ⟨h1,fun q=>h2 (.inl q),h3⟩
 ·intro x b p ok g
  obtain ⟨v,hv,h1,h2⟩:=I.vars x b p ok g
  exact ⟨v,hv,fun q=>(h1 q).open' up,fun q=>(h2 q).map (fun _ _ _ e=>e) (fun _=>Iff.rfl) fun a o n g=>⟨fun z=>n (up a z),g⟩⟩
theorem turned (I:InS cx m A env ns Hx own ow ρ h) {b:Addr} (hb:b=env.locals∨own b) (k:Heap.ExtBut b h h') (hl:Live h' b):Ext cx (WW cx env own ow) h h'∧Cn cx h' Hx:=by
 have nG:¬ cx.GA b:=hb.elim (fun q=>q ▸ I.fG.1) (I.fG.2 b)
 have nH:¬ Hx b:=hb.elim (fun q=>q ▸ I.fH.1) (I.fH.2 b)
 have nc:NoCd h b:=hb.elim (fun q=>q ▸ ((by obtain ⟨_,n⟩:=I.nsl;exact NoCd.ns n))) fun q=>(by obtain ⟨_,n⟩:=I.cells b q;exact NoCd.cell n)
 have e:Ext cx (WW cx env own ow) h h':=.of_but (b:=b) (hb.elim (fun q=>.inr (.inl q)) fun q=>.inr (.inr (.inl q))) (fun _=>nG) (fun _=>hl) k nc
 refine ⟨e,e.gi I.cn.gi,fun a q=>?_,I.cn.bH,I.cn.hg⟩
 obtain ⟨o,ho⟩:=I.cn.hid a q
 exact ⟨o,k a o (fun z=>nH (z ▸ q)) ho⟩
theorem owcut (I:InS cx m A env ns Hx own ow ρ h) {x:Str} {b:Bool} {p:PV}:∀ k a,InS.cut ow [enc x] k a→∃ q,PEnv.get (PEnv.set ρ (enc x) b p) k=some (true,q):=fun k a oa=>by
 obtain ⟨q,hq⟩:=I.owP k a oa.1
 have:k ≠ enc x:=fun e=>oa.2 (by simp [e])
 exact ⟨q,by rw [get_set,if_neg this];exact hq⟩
theorem bind (I:InS cx m A env ns Hx own ow ρ h) {x:Str} {v:Value} {p:PV} {b:Addr} (okx:okN x=true) (hb:b=env.locals∨own b) (k:Heap.ExtBut b h h') (hn:∃ m,h'.Ns env.locals m) (hc:∀ c,own c→∃ v,h'.IsCell c v)
  (hv:VarAt h' env x v) (ho:∀ y w,y ≠ x→VarAt h env y w→VarAt h' env y w) (hr:Rep cx h (HA Hx env own (cut ow [enc x])) v p):InS cx m A env ns Hx own (cut ow [enc x]) (PEnv.set ρ (enc x) false p) h':=by
 have hl:Live h' b:=hb.elim (fun q=>q ▸ ((by obtain ⟨_,n⟩:=hn;exact Ns_live n))) fun q=>((by obtain ⟨_,o,e,_⟩:=hc b q;exact ⟨o,e⟩))
 obtain ⟨e,c⟩:=I.turned hb k hl
 have bHA:∀ ow',HA Hx env own ow' b:=fun ow'=>hb.elim (fun q=>.inr (.inl q)) fun q=>.inr (.inr (.inl q))
 have up:∀ a,HA Hx env own (cut ow [enc x]) a→HA Hx env own ow a:=fun a q=>by
  rcases q with q|q|q|⟨k,_,q,_⟩
  ·exact .inl q
  ·exact .inr (.inl q)
  ·exact .inr (.inr (.inl q))
  ·exact .inr (.inr (.inr ⟨k,fun x=>x,q⟩))
 have kr:∀ a o,¬ HA Hx env own ow a→h.get? a=some o→¬ HA Hx env own (cut ow [enc x]) a∧h'.get? a=some o:=fun a o n g=>⟨fun q=>n (up a q),k a o (fun q=>n (q ▸ bHA ow)) g⟩
 have kw:∀ j a,ow j a→∀ o,h.get? a=some o→h'.get? a=some o:=fun j a oa o=>k a o fun q=>by
  obtain ⟨_,_,n2,n3,_⟩:=I.owL j a oa
  rcases hb with z|z
  ·exact n2 (q.trans z)
  ·exact n3 (q ▸ z)
 refine { I with cn:=c,nsl:=hn,cells:=hc,owL:=?_,owP:=I.owcut,owA:=fun i j a oi oj=>I.owA i j a oi.1 oj.1,vars:=?_ }
 ·intro j a oa
  obtain ⟨⟨o,h1⟩,h2⟩:=I.owL j a oa.1
  exact ⟨⟨o,kw j a oa.1 o h1⟩,h2⟩
 ·intro y b' p' ok g
  rw [get_set] at g
  by_cases q:enc y=enc x
  ·rw [if_pos q] at g
   have:y=x:=enc_inj ok okx q
   subst this
   cases g
   exact ⟨v,hv,fun _=>hr.map fun a o n g=>⟨n,k a o (fun q=>n (q ▸ bHA _)) g⟩,fun z=>by cases z⟩
  ·rw [if_neg q] at g
   obtain ⟨w,hw,h1,h2⟩:=I.vars y b' p' ok g
   refine ⟨w,ho y w (fun z=>q (z ▸ rfl)) hw,fun z=>(h1 z).map kr,fun z=>(h2 z).map (fun a o oa=>kw _ a oa o) (fun a=>⟨fun u=>u.1,fun u=>⟨u,by simpa using q⟩⟩) kr⟩
noncomputable def adopt (ow:Nat→Hid) (x:Nat) (D:Addr):Nat→Hid:=fun k a=>(k=x∧a=D)∨(k ≠ x∧ow k a)
theorem bindOwn (I:InS cx m A env ns (add Hx D) own ow ρ h) {x:Str} {vs:List Value} {ps:List PV} {b:Addr} (bH:∀ a,cx.B a→Hx a) (nH:¬ Hx D) (nG:¬ cx.GA D) (outer:∀ n c,env.cells.lookup n=some c→¬ own c→Hx c) (okx:okN x=true) (hb:b=env.locals∨own b) (k:Heap.ExtBut b h h') (hn:∃ m,h'.Ns env.locals m) (hc:∀ c,own c→∃ v,h'.IsCell c v)
  (hv:VarAt h' env x (.ref D)) (ho:∀ y w,y ≠ x→VarAt h env y w→VarAt h' env y w) (hl:IsLs h D vs) (hr:RepAll cx h (HA (add Hx D) env own ow) vs ps):InS cx m A env ns Hx own (adopt ow (enc x) D) (PEnv.set ρ (enc x) true (.list ps)) h':=by
 have nl:D ≠ env.locals:=fun q=>I.fH.1 (.inr q.symm)
 have no:¬ own D:=fun q=>I.fH.2 D q (.inr rfl)
 have lb:Live h' b:=hb.elim (fun q=>q ▸ ((by obtain ⟨_,n⟩:=hn;exact Ns_live n))) fun q=>((by obtain ⟨_,o,e,_⟩:=hc b q;exact ⟨o,e⟩))
 have Db:D ≠ b:=fun q=>hb.elim (fun z=>nl (q.trans z)) fun z=>no (q ▸ z)
 obtain ⟨e,c⟩:=I.turned hb k lb
 have up:∀ a,HA Hx env own (adopt ow (enc x) D) a→HA (add Hx D) env own ow a:=fun a q=>by
  rcases q with q|q|q|⟨k,_,⟨_,q⟩|⟨_,q⟩⟩
  ·exact .inl (.inl q)
  ·exact .inr (.inl q)
  ·exact .inr (.inr (.inl q))
  ·exact .inl (.inr q)
  ·exact .inr (.inr (.inr ⟨k,fun x=>x,q⟩))
 have bHA:HA (add Hx D) env own ow b:=hb.elim (fun q=>.inr (.inl q)) fun q=>.inr (.inr (.inl q))
 have kr:∀ a o,¬ HA (add Hx D) env own ow a→h.get? a=some o→¬ HA Hx env own (adopt ow (enc x) D) a∧h'.get? a=some o:=fun a o n g=>⟨fun q=>n (up a q),k a o (fun q=>n (q ▸ bHA)) g⟩
 have kw:∀ j a,ow j a→∀ o,h.get? a=some o→h'.get? a=some o:=fun j a oa o=>k a o fun q=>by
  obtain ⟨_,_,n2,n3,_⟩:=I.owL j a oa
  rcases hb with z|z
  ·exact n2 (q.trans z)
  ·exact n3 (q ▸ z)
 refine { I with cn:=⟨c.gi,fun a q=>c.hid a (.inl q),bH,fun a q=>c.hg a (.inl q)⟩,nsl:=hn,cells:=hc,fH:=⟨fun q=>I.fH.1 (.inl q),fun c oc q=>I.fH.2 c oc (.inl q)⟩,outer:=fun n c e q=>⟨outer n c e q,(I.outer n c e q).2⟩,owL:=?_,owP:=?_,owA:=?_,vars:=?_ }
 ·intro j a oa
  rcases oa with ⟨rfl,rfl⟩|⟨_,oa⟩
  ·obtain ⟨o,ho⟩:=hl.live
   exact ⟨⟨o,k _ o Db ho⟩,nH,nl,no,nG⟩
  ·obtain ⟨⟨o,h1⟩,h2,h3⟩:=I.owL j a oa
   exact ⟨⟨o,kw j a oa o h1⟩,fun q=>h2 (.inl q),h3⟩
 ·intro j a oa
  rcases oa with ⟨rfl,rfl⟩|⟨ne,oa⟩
  ·exact ⟨_,by rw [get_set,if_pos rfl]⟩
  ·obtain ⟨q,hq⟩:=I.owP j a oa
   exact ⟨q,by rw [get_set,if_neg ne];exact hq⟩
 ·intro i j a oi oj
  rcases oi with ⟨rfl,rfl⟩|⟨_,oi⟩ <;> rcases oj with ⟨rfl,e⟩|⟨_,oj⟩
  ·rfl
  ·exact ((I.owL j a oj).2.1 (.inr rfl)).elim
  ·exact ((I.owL i a oi).2.1 (.inr e)).elim
  ·exact I.owA i j a oi oj
 ·intro y b' p' ok g
  rw [get_set] at g
  by_cases q:enc y=enc x
  ·rw [if_pos q] at g
   have:y=x:=enc_inj ok okx q
   subst this
   cases g
   refine ⟨_,hv,fun z=>(by cases z),fun _=>⟨D,vs,rfl,fun a=>⟨fun u=>u.elim (fun u=>u.2) fun u=>(u.1 rfl).elim,fun u=>.inl ⟨rfl,u⟩⟩,hl.map fun o=>k _ o Db,hr.map kr⟩⟩
  ·rw [if_neg q] at g
   obtain ⟨w,hw,h1,h2⟩:=I.vars y b' p' ok g
   exact ⟨w,ho y w (fun z=>q (z ▸ rfl)) hw,fun z=>(h1 z).map kr,fun z=>(h2 z).map (fun a o oa=>kw _ a oa o) (fun a=>⟨fun u=>u.elim (fun u=>(q u.1).elim) fun u=>u.2,fun u=>.inr ⟨q,u⟩⟩) kr⟩
end InS
section
variable {cx:Cx} {m:Nat} {A:Around} {env:Env} {ns:Ns} {Hx:Hid} {own:Own} {ow:Nat→Hid} {ρ:PEnv} {s:Shared} {E:Value→Shared→Prop} {Q:Unit→Shared→Prop}
theorem store_name (I:InS cx m A env ns Hx own ow ρ s.heap) {x:Str} {v:Value} (hx:ns.lookup x=some .local∨ns.lookup x=some .cell)
  (h:∀ b h' tk,(b=env.locals∨own b)→Heap.ExtBut b s.heap h'→(∃ m,h'.Ns env.locals m)→(∀ c,own c→∃ v,h'.IsCell c v)→VarAt h' env x v→(∀ y w,y ≠ x→VarAt s.heap env y w→VarAt h' env y w)→Q () { s with heap:=h',toks:=tk }) :
  wpAny (model cx.prog cx.w) A (storeName env x v) Q E s:=by
 obtain ⟨mm,hmm⟩:=I.nsl
 have hp:(env.scope.kind == .class || (env.scope.kind == .module && env.locals != env.globals))=false:=by rw [I.kind];rfl
 rcases hx with hx|hx
 ·have hk:=I.loc x hx
  refine wpAny_storeName_local hk hmm (fun h' hn' hs'=>?_) hp
  have cl:∀ c,own c→∀ o,s.heap.get? c=some o→h'.get? c=some o:=fun c oc o=>hs'.extBut c o fun q=>I.lcl (q ▸ oc)
  refine h env.locals h' _ (.inl rfl) hs'.extBut ⟨_,hn'⟩ (fun c oc=>?_) (.inl ⟨hk,_,hn',by simp⟩) fun y w ne hy=>?_
  ·obtain ⟨v,o,e,r⟩:=I.cells c oc
   exact ⟨v,o,cl c oc o e,r⟩
  ·rcases hy with ⟨e,m2,hn2,h2⟩|⟨e,c,hc,o,ho,r⟩
   ·refine .inl ⟨e,_,hn',?_⟩
    simp only [if_neg ne]
    rw [← h2]
    obtain ⟨o1,es1,ep1,g1,d1,_,f1⟩:=hmm
    obtain ⟨o2,es2,ep2,g2,d2,_,f2⟩:=hn2
    rw [g1] at g2
    cases g2
    rw [d1] at d2
    cases d2
    rw [← f1,← f2]
   ·refine .inr ⟨e,c,hc,o,hs'.extBut c o (fun q=>?_) ho,r⟩
    by_cases oc:own c
    ·exact I.lcl (q ▸ oc)
    ·obtain ⟨o1,es1,ep1,g1,d1,_⟩:=hmm
     rw [q,g1] at ho
     cases ho
     rw [d1] at r
     cases r
 ·obtain ⟨hk,c,hc,oc⟩:=I.cel x hx
  obtain ⟨v0,hv0⟩:=I.cells c oc
  refine wpAny_storeName_cell I.kind hk hc hv0 fun h' hv' hs'=>?_
  refine h c h' _ (.inr oc) hs'.extBut ⟨mm,?_⟩ (fun d od=>?_) (.inr ⟨.inl hk,c,hc,hv'⟩) fun y w ne hy=>?_
  ·obtain ⟨o,es,ep,e,r⟩:=hmm
   exact ⟨o,es,ep,hs'.extBut _ o (fun q=>I.lcl (q ▸ oc)) e,r⟩
  ·by_cases q:d=c
   ·subst q;exact ⟨_,hv'⟩
   ·obtain ⟨v,o,e,r⟩:=I.cells d od
    exact ⟨v,o,hs'.extBut _ o q e,r⟩
  ·rcases hy with ⟨e,m2,⟨o,es,ep,g,r⟩,h2⟩|⟨e,d,hd,o,ho,r⟩
   ·exact .inl ⟨e,m2,⟨o,es,ep,hs'.extBut _ o (fun q=>I.lcl (q ▸ oc)) g,r⟩,h2⟩
   ·exact .inr ⟨e,d,hd,o,hs'.extBut _ o (fun q=>ne (I.cinj _ _ c (q ▸ hd) oc hc)) ho,r⟩
end
end Mine
end
section
set_option maxRecDepth 100000
open PySem PySem.Calls PyProof.Rows PySem.W
set_option genSizeOf false
set_option genInjectivity false
namespace Mine
section
variable {cx:Cx} {A:Around} {E:Value→Shared→Prop} {s:Shared} {Q:Value→Shared→Prop} {D:Addr} {vs:List Value}
theorem mapSeq_any (f:Array Value→Array Value) (xs:Array Value) (n:Nat):∃ n',Obj.mapSeq f { cls:=.type "list",data:=.seq xs n }={ cls:=.type "list",data:=.seq (f xs) n' }:=⟨_,rfl⟩
theorem append_ok {v:Value} (l:IsLs s.heap D vs) (hz:vs.length≤1000000) (h:∀ h',Heap.SameBut D s.heap h'→IsLs h' D (vs++[v])→Q .none { s with heap:=h' }) :
  wpAny (model cx.prog cx.w) A (call (.builtin "list.append") [.ref D,v]) Q E s:=by
 obtain ⟨n,g⟩:=l
 have:=sizeLine_big
 refine append_at g (fun h' hs hg=>h h' hs ⟨n+1,?_⟩) (by simp only [List.size_toArray];omega)
 rw [hg]
 simp
theorem reverse_ok (l:IsLs s.heap D vs) (hz:vs.length≤1000000) (h:∀ h',Heap.SameBut D s.heap h'→IsLs h' D vs.reverse→Q .none { s with heap:=h' }) :
  wpAny (model cx.prog cx.w) A (call (.builtin "list.reverse") [.ref D]) Q E s:=by
 obtain ⟨n,g⟩:=l
 have:=sizeLine_big
 refine call_meets F.slot_list_reverse ⟨_,g,rfl⟩ F.entry_list_reverse (F.args_list_reverse_1 _) (AutoSeq1.list_reverse_list_0 D vs.toArray n (by simp only [List.size_toArray];omega)) ⟨g,?_⟩
 have hg:=Heap.get?_update_self (Obj.mapSeq fun xs=>xs.reverse) g rfl
 obtain ⟨n',e'⟩:=mapSeq_any (fun xs=>xs.reverse) vs.toArray n
 have e:vs.toArray.reverse=vs.reverse.toArray:=by simp
 rw [e',e] at hg
 exact h _ (Heap.SameBut.update ..) ⟨n',hg⟩
theorem setitem_ok {k:Int} {t:Tok} {j:Nat} {v:Value} {Q:Unit→Shared→Prop} (l:IsLs s.heap D vs) (hz:vs.length≤1000000) (hj:place k vs.length=some j) (hk:0≤k) (h:∀ h',Heap.SameBut D s.heap h'→IsLs h' D (vs.set j v)→Q () { s with heap:=h' }) :
  wpAny (model cx.prog cx.w) A (setItem (.ref D) (.int k t) v) Q E s:=by
 obtain ⟨n,g⟩:=l
 obtain ⟨hlt,hp⟩:=place_some hj
 have hT:s.TypeIs (.ref D) "list":=⟨_,g,rfl⟩
 have hfit:k<2 ^ 63:=by rcases hp with ⟨h1,h2⟩|⟨h1,_⟩ <;> omega
 unfold setItem
 try with_reducible refine wpAny_holding ?_
 first|refine wpAny_bind (wpAny_pure ?_)|skip
 refine wpAny_bind (wpAny_sequenceKey hT (by decide) ?_)
 refine wpAny_bind (wpAny_callSpecial?_slot (name:=Str.ofString "__setitem__") hT slot_list_setitem
  (wpAny_call_entry slot_list_setitem hT entry_list_setitem ?_ (args_list_setitem _ _ _)))
 show wpAny _ _ (Builtin.List.listSubscript? (.int k t) >>= _) _ _ s
 refine wpAny_bind (wpAny_listSubscript_int (fitsIndex_of hk hfit) ?_)
 clear hfit
 have hkj:k=(j:Int):=by rcases hp with ⟨h1,h2⟩|⟨h1,_⟩ <;> omega
 subst hkj
 have hx':vs.toArray[j]?=some vs[j]:=by simp [hlt]
 show wpAny _ _ ((seqItemAt D j >>= fun r=>pure (r.map (j,·))) >>= _) _ _ s
 refine wpAny_bind (wpAny_bind (wpAny_seqItemAt g rfl (wpAny_pure ?_)))
 rw [hx']
 show wpAny _ _ (setSeqItemAt D j v >>= _) _ _ s
 have hfin:IsLs (s.heap.update D (Obj.mapSeq (·.setIfInBounds j v))) D (vs.set j v):=by
  have hg:=Heap.get?_update_self (Obj.mapSeq (·.setIfInBounds j v)) g rfl
  obtain ⟨n',e'⟩:=mapSeq_any (·.setIfInBounds j v) vs.toArray n
  have e:vs.toArray.setIfInBounds j v=(vs.set j v).toArray:=by simp
  rw [e',e] at hg
  exact ⟨n',hg⟩
 refine wpAny_bind (wpAny_setSeqItemAt g rfl ?_)
 first
  | exact wpAny_bind (wpAny_pure (wpAny_pure ⟨.none,rfl,wpAny_pure (h _ (Heap.SameBut.update ..) hfin)⟩))
  | exact wpAny_pure ⟨.none,rfl,wpAny_pure (h _ (Heap.SameBut.update ..) hfin)⟩
end
namespace InS
variable {cx:Cx} {m:Nat} {A:Around} {env:Env} {ns:Ns} {Hx:Hid} {own:Own} {ow:Nat→Hid} {ρ:PEnv} {h h':Heap}
theorem frz (I:InS cx m A env ns Hx own ow ρ h) {occ:List Nat} {v:Value} {p:PV} (x:Rep cx h (HH Hx env own ow (·∈occ)) v p) :
  ∃ ow',InS cx m A env ns Hx own ow' (Mine.frz p occ ρ) h∧Rep cx h (HA Hx env own ow') v p∧∀ k a,ow' k a→ow k a:=by
 unfold Mine.frz
 cases hs:p.scalar with
 | true=>exact ⟨ow,I,x.scalar hs,fun _ _ z=>z⟩
 | false=>exact ⟨cut ow occ,I.frozen occ,by rw [HA_cut];exact x,fun _ _ z=>z.1⟩
theorem mutL (I:InS cx m A env ns Hx own ow ρ h) {x:Str} {D:Addr} {vs:List Value} {ps:List PV} (okx:okN x=true) (hD:∀ a,ow (enc x) a↔a=D) (hv:VarAt h env x (.ref D)) (k:Heap.SameBut D h h') (hl0:∃ us,IsLs h D us) (hl:IsLs h' D vs)
  (hr:RepAll cx h (HA Hx env own ow) vs ps) (hvar:∀ y w,VarAt h env y w→VarAt h' env y w):InS cx m A env ns Hx own ow (PEnv.set ρ (enc x) true (.list ps)) h'∧Ext cx (WW cx env own ow) h h':=by
 obtain ⟨_,nH,nl,no,nG⟩:=I.owL (enc x) D ((hD D).mpr rfl)
 have e:Ext cx (WW cx env own ow) h h':=.of_but (b:=D) (.inr (.inr (.inr ⟨enc x,(hD D).mpr rfl⟩))) (fun _=>nG) (fun _=>hl.live) k.extBut ((by obtain ⟨_,n⟩:=hl0;exact n.noCd))
 have DHA:HA Hx env own ow D:=.inr (.inr (.inr ⟨enc x,fun z=>z,(hD D).mpr rfl⟩))
 have kr:∀ a o,¬ HA Hx env own ow a→h.get? a=some o→¬ HA Hx env own ow a∧h'.get? a=some o:=fun a o n g=>⟨n,k.extBut a o (fun q=>n (q ▸ DHA)) g⟩
 have kb:∀ a o,a ≠ D→h.get? a=some o→h'.get? a=some o:=fun a o q g=>k.extBut a o q g
 refine ⟨{ I with cn:=⟨e.gi I.cn.gi,fun a q=>?_,I.cn.bH,I.cn.hg⟩,nsl:=?_,cells:=fun c oc=>?_,owL:=fun j a oa=>?_,owP:=fun j a oa=>?_,vars:=?_ },e⟩
 ·obtain ⟨o,ho⟩:=I.cn.hid a q
  exact ⟨o,kb a o (fun z=>nH (z ▸ q)) ho⟩
 ·obtain ⟨mm,o,es,ep,g,r⟩:=I.nsl
  exact ⟨mm,o,es,ep,kb _ o (Ne.symm nl) g,r⟩
 ·obtain ⟨v,o,g,r⟩:=I.cells c oc
  exact ⟨v,o,kb _ o (fun z=>no (z ▸ oc)) g,r⟩
 ·obtain ⟨⟨o,h1⟩,h2⟩:=I.owL j a oa
  by_cases q:a=D
  ·subst q;exact ⟨hl.live,h2⟩
  ·exact ⟨⟨o,kb a o q h1⟩,h2⟩
 ·by_cases q:j=enc x
  ·exact ⟨_,by rw [get_set,if_pos q]⟩
  ·obtain ⟨p,hp⟩:=I.owP j a oa
   exact ⟨p,by rw [get_set,if_neg q];exact hp⟩
 ·intro y b' p' ok g
  rw [get_set] at g
  by_cases q:enc y=enc x
  ·rw [if_pos q] at g
   have:y=x:=enc_inj ok okx q
   subst this
   cases g
   exact ⟨_,hvar _ _ hv,fun z=>(by cases z),fun _=>⟨D,vs,rfl,hD,hl,hr.map kr⟩⟩
  ·rw [if_neg q] at g
   obtain ⟨w,hw,h1,h2⟩:=I.vars y b' p' ok g
   exact ⟨w,hvar _ _ hw,fun z=>(h1 z).map kr,fun z=>(h2 z).map (fun a o oa=>kb a o fun z=>q (I.owA _ _ a oa ((hD a).mpr z))) (fun _=>Iff.rfl) kr⟩
theorem keepVar {D:Addr} (k:Heap.SameBut D h h') (nl:D ≠ env.locals) (nc:∀ n c,env.cells.lookup n=some c→c ≠ D):∀ y w,VarAt h env y w→VarAt h' env y w:=fun y w hy =>
 hy.keep fun a o ha g=>k.extBut a o (fun q=>by
  rcases ha with rfl|⟨n,c,hc,rfl⟩
  ·exact nl q.symm
  ·exact nc n _ hc q) g
theorem owCell (I:InS cx m A env ns Hx own ow ρ h) {k:Nat} {D:Addr} (o:ow k D):D ≠ env.locals∧∀ n c,env.cells.lookup n=some c→c ≠ D:=by
 obtain ⟨_,nH,nl,no,_⟩:=I.owL k D o
 refine ⟨nl,fun n c hc q=>?_⟩
 subst q
 exact nH (I.outer n c hc no).1
end InS
end Mine
end
section
set_option maxRecDepth 100000
open PySem PySem.Calls PyProof.Rows PySem.W
set_option genSizeOf false
set_option genInjectivity false
namespace Mine
noncomputable def isTgt (ns:Ns) (x:Str):Prop:=ns.lookup x=some .local∨ns.lookup x=some .cell
noncomputable def uni (a:List Nat):List Nat→List Nat
 | []=>a
 | x :: r=>match PEnv.has a x with
  | true=>uni a r
  | false=>uni (a++[x]) r
noncomputable def unis (f:PE→List Nat):List PE→List Nat
 | []=>[]
 | e :: r=>uni (f e) (unis f r)
noncomputable def occ:Nat→PE→List Nat
 | 0,_=>[]
 | n+1,e=>match e with
  | .var x=>[x]
  | .bin _ a b=>uni (occ n a) (occ n b)
  | .neg a=>occ n a
  | .inv a=>occ n a
  | .not a=>occ n a
  | .cmp _ a b=>uni (occ n a) (occ n b)
  | .and l=>unis (occ n) l
  | .ite c a b=>uni (occ n c) (uni (occ n a) (occ n b))
  | .list l=>unis (occ n) l
  | .tup l=>unis (occ n) l
  | .idx a b=>uni (occ n a) (occ n b)
  | .slice o a b c=>uni (uni (occ n o) (occ n a)) (uni (occ n b) (occ n c))
  | .call _ l=>unis (occ n) l
  | .bi _ l=>unis (occ n) l
  | .meth _ o l=>uni (occ n o) (unis (occ n) l)
  | .imeth o _ l=>uni (occ n o) (unis (occ n) l)
  | .attr o _=>occ n o
  | .gmeth _ _ l=>unis (occ n) l
  | .comp _ _ _ i _ caps=>uni (occ n i) caps
  | .tv a=>occ n a
  | _=>[]
noncomputable abbrev oc (e:PE):List Nat:=occ 20 e
noncomputable def chB (ts:List Expr):Bool:=Nat.ble 2 ts.length
noncomputable def trCh (r:Tr) (ns:Ns) (ts:List Expr) (e:Expr):Option PS:=ogo (chB ts) (ob (namesT (tgtB ns) ts) fun xs=>ob (r.E ns e) fun pe=>some (.chain (encs xs) pe))
noncomputable def trAsN (r:Tr) (ns:Ns) (e:Expr) (x:Str × Pos):Option PS:=ogo (tgtB ns x.1) (ob (r.E ns e) fun pe=>some (.assign (enc x.1) pe (oc pe)))
noncomputable def trUn2 (r:Tr) (ns:Ns) (e:Expr) (l:List Expr × Nat × Pos):Option PS:=ogo ((tp? e).isNone && (lc? e).isNone) (ob (trTm ns l) fun xs=>ogo (!xs.2) (ob (r.E ns e) fun pe=>some (.unpack xs.1 pe (oc pe))))
noncomputable def swapB (x y:Str × Pos) (u v:Expr):Bool:=(!(x.1 == y.1)) && ((y.2.line == x.2.line) && (!([u,v].all (foldedForSure 8)) && !([u,v].all (constantsAlone 8))))
noncomputable def two2? {α:Type} (l:List α):Option (α × α):=match l with
 | [a,b]=>some (a,b)
 | _=>none
theorem two2_i {α:Type} {l:List α} {a:α × α} (h:two2? l=some a):l=[a.1,a.2]:=by
 match l,h with
 | [_,_],h=>obtain rfl:=Option.some.inj h;rfl
noncomputable def trUr (r:Tr) (ns:Ns) (e:Expr) (l v:List Expr × Nat × Pos):Option PS:=ob (namesT (locB ns) l.1) fun xs=>ob (two2? xs) fun x=>ob (two2? v.1) fun y=>ogo (swapB x.1 x.2 y.1 y.2) (ob (r.E ns y.1) fun _=>ob (r.E ns y.2) fun _=>ob (r.E ns e) fun pe=>some (.unpackR (encs [x.1,x.2]) pe (oc pe)))
noncomputable def trAsT (r:Tr) (ns:Ns) (e:Expr) (l:List Expr × Nat × Pos):Option PS:=om (tp? e) (trUr r ns e l) (trUn2 r ns e l)
noncomputable def trIx (r:Tr) (ns:Ns) (e:Expr) (t:Expr × Expr × Pos):Option PS:=ob (nm? t.1) fun x=>ogo (okD x.1 && (lc? e).isNone) (ob (r.E ns t.2.1) fun a=>ob (r.E ns e) fun b=>some (.setidx (enc x.1) a b))
noncomputable def saB (x a:Str) (e:Expr):Bool:=okD x && okN a && decide (a∈atNames) && (lc? e).isNone
noncomputable def trSa (r:Tr) (ns:Ns) (e:Expr) (t:Expr × Str × Pos):Option PS:=ob (nm? t.1) fun x=>ogo (saB x.1 t.2.1 e) (ob (r.E ns e) fun b=>some (.setattr (enc x.1) (enc t.2.1) b (oc b)))
noncomputable def trAs1 (r:Tr) (ns:Ns) (e t:Expr):Option PS:=om (nm? t) (trAsN r ns e) (om (tp? t) (trAsT r ns e) (om (sb? t) (trIx r ns e) (ob (at? t) (trSa r ns e))))
noncomputable def trAsg (r:Tr) (ns:Ns) (ts:List Expr) (e:Expr):Option PS:=om (l1? ts) (trAs1 r ns e) (trCh r ns ts e)
noncomputable def trAp (r:Tr) (ns:Ns) (x:Str) (es:List Expr):Option PS:=ob (l1? es) fun e=>ob (r.E ns e) fun b=>some (.append (enc x) b (oc b))
noncomputable def msB (x:Str) (c:CallX) (a:Expr × Str × Pos):Bool:=okD x && c.2.2.1.isEmpty && (a.2.2.endLine == c.2.2.2.line)
noncomputable def trMs (r:Tr) (ns:Ns) (x m:Str) (es:List Expr):Option PS:=oe (m == ("append":Str)) (trAp r ns x es) (ogo (m == ("reverse":Str) && es.isEmpty) (some (.reverse (enc x))))
noncomputable def trEx (r:Tr) (ns:Ns) (e:Expr):Option PS:=ob (cl? e) fun c=>ob (at? c.1) fun a=>ob (nm? a.1) fun x=>ogo (msB x.1 c a) (trMs r ns x.1 a.2.1 c.2.1)
noncomputable def trAug (r:Tr) (ns:Ns) (t:Expr) (o:Operator) (e:Expr):Option PS:=ob (nm? t) fun x=>ogo (tgtB ns x.1) (ob (binOf o) fun k=>ob (r.E ns e) fun a=>some (.aug (enc x.1) k a))
noncomputable def trFor (r:Tr) (f:Ns→Stmt→PS) (ns:Ns) (t it:Expr) (a b:List Stmt):Option PS:=ob (trTg ns t) fun x=>ob (trI (r.E ns) ns it) fun pi=>some (.for_ x.1 x.2 pi (oc pi) (a.map (f ns)) (b.map (f ns)))
noncomputable def trS1 (r:Tr) (f:Ns→Stmt→PS) (ns:Ns) (st:Stmt):Option PS:=match st with
 | .Assign ts e _=>trAsg r ns ts e
 | .Expr e _=>trEx r ns e
 | .AugAssign t o e _=>trAug r ns t o e
 | .If c a b _=>ob (r.T ns c) fun pc=>some (.if_ pc (a.map (f ns)) (b.map (f ns)))
 | .For t it a b _=>trFor r f ns t it a b
 | .Return v _=>ob v fun e=>ob (r.E ns e) fun pe=>some (.ret pe (oc pe))
 | .Break _=>some .brk
 | .Pass _=>some .pass
 | _=>none
noncomputable def trSt:Nat→Ns→Stmt→PS
 | 0,_,_=>.stuck
 | n+1,ns,st=>(trS1 (tr n) (trSt n) ns st).getD .stuck
noncomputable def CS (ns:Ns) (st:Stmt) (ps:PS):Prop:=∃ n,trSt n ns st=ps
noncomputable def CSs (ns:Ns) (ss:List Stmt) (l:List PS):Prop:=∃ n,ss.map (trSt n ns)=l
section
variable {m:Nat} {f:Ns→Stmt→PS} {ns:Ns} {ps:PS} {P:Prop}
theorem s_asg {ts:List Expr} {e:Expr} (hc:trAsg (tr m) ns ts e=some ps)
  (a:∀ (x:Str × Pos) pe,ts=[.Name x.1 x.2]→okN x.1=true→isTgt ns x.1→CE ns e pe→ps=.assign (enc x.1) pe (oc pe)→P)
  (u:∀ l j q xs pe,ts=[.Tuple l j q]→CTg ns (.Tuple l j q) xs false→tp? e=none→lc? e=none→CE ns e pe→ps=.unpack xs pe (oc pe)→P)
  (w:∀ (x y:Str × Pos) (u v:Expr) j q j' q' pe,ts=[.Tuple [.Name x.1 x.2,.Name y.1 y.2] j q]→e=.Tuple [u,v] j' q'→locB ns x.1=true→locB ns y.1=true→swapB x y u v=true→(∃ a,CE ns u a)→(∃ a,CE ns v a)→CE ns e pe→ps=.unpackR (encs [x,y]) pe (oc pe)→P)
  (i:∀ (x:Str × Pos) j q k b,ts=[.Subscript (.Name x.1 x.2) j q]→okD x.1=true→lc? e=none→CE ns j k→CE ns e b→ps=.setidx (enc x.1) k b→P)
  (d:∀ (x:Str × Pos) k q b,ts=[.Attribute (.Name x.1 x.2) k q]→okD x.1=true→okN k=true→k∈atNames→lc? e=none→CE ns e b→ps=.setattr (enc x.1) (enc k) b (oc b)→P)
  (c:∀ (xs:List (Str × Pos)) pe,ts=xs.map (fun x=>.Name x.1 x.2)→(∀ x∈xs,tgtB ns x.1=true)→2≤xs.length→CE ns e pe→ps=.chain (encs xs) pe→P):P:=by
 rcases om_i hc with ⟨t,ht,k1⟩|k1
 ·rcases om_i k1 with ⟨x,hx,k2⟩|k2
  ·obtain ⟨h2,k3⟩:=ogo_i k2
   exact ob_e k3 fun pe h3 k4=>a x pe (by rw [l1_i ht,nm_i hx]) (tgtB_i h2).1 (tgtB_i h2).2 ⟨m,h3⟩ (Option.some.inj k4).symm
  ·rcases om_i k2 with ⟨l,hl,k3⟩|k3
   ·rcases om_i k3 with ⟨v,hv,k4⟩|k4
    ·refine ob_e k4 fun xs h1 k5=>ob_e k5 fun x h2 k6=>ob_e k6 fun y h3 k7=>?_
     obtain ⟨h4,k8⟩:=ogo_i k7
     refine ob_e k8 fun b1 h5 k9=>ob_e k9 fun b2 h6 k10=>ob_e k10 fun pe h7 k11=>?_
     obtain ⟨h8,h9⟩:=namesT_i h1
     rw [two2_i h2] at h8 h9
     exact w x.1 x.2 y.1 y.2 _ _ _ _ pe (by rw [l1_i ht,tp_i hl,h8];rfl) (by rw [tp_i hv,two2_i h3]) (h9 _ (.head _)) (h9 _ (.tail _ (.head _))) h4 ⟨_,m,h5⟩ ⟨_,m,h6⟩ ⟨m,h7⟩ (Option.some.inj k11).symm
    ·obtain ⟨h1,k5⟩:=ogo_i k4
     refine ob_e k5 fun xs h2 k6=>?_
     obtain ⟨h3,k7⟩:=ogo_i k6
     refine ob_e k7 fun pe h4 k8=>?_
     have h5:trTg ns (.Tuple l.1 l.2.1 l.2.2)=some xs:=h2
     have h6:=trTg_i h5
     rw [(Bool.not_eq_true' _).mp h3] at h6
     exact u l.1 l.2.1 l.2.2 xs.1 pe (by rw [l1_i ht,tp_i hl]) h6 (Option.isNone_iff_eq_none.mp (band h1).1) (Option.isNone_iff_eq_none.mp (band h1).2) ⟨m,h4⟩ (Option.some.inj k8).symm
   ·rcases om_i k3 with ⟨z,hz,k4⟩|k4
    ·refine ob_e k4 fun x hx k5=>?_
     obtain ⟨h1,k6⟩:=ogo_i k5
     exact ob_e k6 fun k h2 k7=>ob_e k7 fun b h3 k8=>i x z.2.1 z.2.2 k b (by rw [l1_i ht,sb_i hz,nm_i hx]) (band h1).1 (Option.isNone_iff_eq_none.mp (band h1).2) ⟨m,h2⟩ ⟨m,h3⟩ (Option.some.inj k8).symm
    ·refine ob_e k4 fun z hz k5=>ob_e k5 fun x hx k6=>?_
     obtain ⟨h1,k7⟩:=ogo_i k6
     obtain ⟨h2,h3⟩:=band h1
     obtain ⟨h4,h5⟩:=band h2
     exact ob_e k7 fun b h6 k8=>d x z.2.1 z.2.2 b (by rw [l1_i ht,at_i hz,nm_i hx]) (band h4).1 (band h4).2 (of_decide_eq_true h5) (Option.isNone_iff_eq_none.mp h3) ⟨m,h6⟩ (Option.some.inj k8).symm
 ·obtain ⟨h1,k2⟩:=ogo_i k1
  refine ob_e k2 fun xs h2 k3=>ob_e k3 fun pe h3 k4=>?_
  obtain ⟨h4,h5⟩:=namesT_i h2
  exact c xs pe h4 h5 (by have:=ble_true.mp h1;rw [h4,List.length_map] at this;exact this) ⟨m,h3⟩ (Option.some.inj k4).symm
theorem s_ex {e:Expr} (hc:trEx (tr m) ns e=some ps)
  (a:∀ (x:Str × Pos) ap q y b,e=.Call (.Attribute (.Name x.1 x.2) "append" ap) [y] [] q→okD x.1=true→(ap.endLine == q.line)=true→CE ns y b→ps=.append (enc x.1) b (oc b)→P)
  (r:∀ (x:Str × Pos) ap q,e=.Call (.Attribute (.Name x.1 x.2) "reverse" ap) [] [] q→okD x.1=true→(ap.endLine == q.line)=true→ps=.reverse (enc x.1)→P):P:=by
 refine ob_e hc fun c hc k1=>ob_e k1 fun d hd k2=>ob_e k2 fun x hx k3=>?_
 obtain ⟨h1,k4⟩:=ogo_i k3
 obtain ⟨h2,h3⟩:=band h1
 obtain ⟨h4,h5⟩:=band h2
 have h0:e=.Call (.Attribute (.Name x.1 x.2) d.2.1 d.2.2) c.2.1 [] c.2.2.2:=by rw [cl_i hc,at_i hd,nm_i hx,List.isEmpty_iff.mp h5]
 rcases oe_i k4 with ⟨h6,k5⟩|k5
 ·exact ob_e k5 fun y hy k6=>ob_e k6 fun b hb k7=>a x _ _ y b (by rw [h0,eq_of_beq h6,l1_i hy]) h4 h3 ⟨m,hb⟩ (Option.some.inj k7).symm
 ·obtain ⟨h6,k6⟩:=ogo_i k5
  exact r x _ _ (by rw [h0,eq_of_beq (band h6).1,List.isEmpty_iff.mp (band h6).2]) h4 h3 (Option.some.inj k6).symm
theorem s_aug {t:Expr} {o:Operator} {e:Expr} (hc:trAug (tr m) ns t o e=some ps) (K:∀ (x:Str × Pos) k a,t=.Name x.1 x.2→tgtB ns x.1=true→opOf k=o→CE ns e a→ps=.aug (enc x.1) k a→P):P:=by
 refine ob_e hc fun x hx k1=>?_
 obtain ⟨h1,k2⟩:=ogo_i k1
 exact ob_e k2 fun k hk k3=>ob_e k3 fun a ha k4=>K x k a (nm_i hx) h1 (binOf_i hk) ⟨m,ha⟩ (Option.some.inj k4).symm
theorem CS.step {st:Stmt} (hc:CS ns st ps) (a:ps=.stuck→P) (K:∀ n,trS1 (tr n) (trSt n) ns st=some ps→P):P:=by
 obtain ⟨n,h⟩:=hc
 induction n using Nat.casesOn with
 | zero=>exact a h.symm
 | succ n =>
  have h:(trS1 (tr n) (trSt n) ns st).getD .stuck=ps:=h
  cases q:trS1 (tr n) (trSt n) ns st with
  | none=>rw [q] at h;exact a h.symm
  | some p=>rw [q] at h;exact K n (by rw [q];exact congrArg some h)
end
noncomputable def PostS (cx:Cx) (m:Nat) (A:Around) (env:Env) (ns:Ns) (Hx:Hid) (own:Own) (ow:Nat→Hid) (ρ':PEnv) (s:Shared) (Q:Flow→Shared→Prop):Fl→Prop
 | .next=>∀ h' tk ow',Ext cx (WW cx env own ow) s.heap h'→(∀ k a,ow' k a→(∃ j,ow j a)∨¬ Live s.heap a)→InS cx m A env ns Hx own ow' ρ' h'→Q .next { s with heap:=h',toks:=tk }
 | .brk=>∀ h' tk ow',Ext cx (WW cx env own ow) s.heap h'→(∀ k a,ow' k a→(∃ j,ow j a)∨¬ Live s.heap a)→InS cx m A env ns Hx own ow' ρ' h'→Q .brk { s with heap:=h',toks:=tk }
 | .ret p=>∀ h' tk v,Ext cx (WW cx env own ow) s.heap h'→Cn cx h' Hx→Rep cx h' Hx v p→Q (.ret v) { s with heap:=h',toks:=tk }
theorem WW_trans {cx:Cx} {env:Env} {own:Own} {ow ow':Nat→Hid} {h h' h'':Heap} (e:Ext cx (WW cx env own ow) h h') (sub:∀ k a,ow' k a→(∃ j,ow j a)∨¬ Live h a) (e':Ext cx (WW cx env own ow') h' h''):Ext cx (WW cx env own ow) h h'':=by
 refine ⟨fun a o n g=>e'.keep a o (fun w=>?_) (e.keep a o n g),fun a c l=>?_,fun g=>e'.gi (e.gi g)⟩
 ·rcases w with w|w|w|⟨k,w⟩
  ·exact n (.inl w)
  ·exact n (.inr (.inl w))
  ·exact n (.inr (.inr (.inl w)))
  ·exact (sub k a w).elim (fun ⟨j,q⟩=>n (.inr (.inr (.inr ⟨j,q⟩)))) fun q=>q ⟨o,g⟩
 ·by_cases w:WW cx env own ow' a
  ·rcases w with w|w|w|⟨k,w⟩
   ·exact e'.alive a (.inr w) (e.alive a c l)
   ·exact c.elim (fun n=>(n (.inr (.inl w))).elim) fun t=>e'.alive a (.inr t) (e.alive a (.inr t) l)
   ·exact c.elim (fun n=>(n (.inr (.inr (.inl w)))).elim) fun t=>e'.alive a (.inr t) (e.alive a (.inr t) l)
   ·exact c.elim (fun n=>(sub k a w).elim (fun ⟨j,q⟩=>(n (.inr (.inr (.inr ⟨j,q⟩)))).elim) fun q=>(q l).elim) fun t=>e'.alive a (.inr t) (e.alive a (.inr t) l)
  ·exact e'.alive a (.inl w) (e.alive a c l)
theorem sub_trans {cx:Cx} {m:Nat} {A:Around} {env:Env} {ns:Ns} {Hx:Hid} {own:Own} {ρ':PEnv} {ow ow' ow'':Nat→Hid} {h h':Heap} (e:Ext cx (WW cx env own ow) h h') (I':InS cx m A env ns Hx own ow' ρ' h') (sub:∀ k a,ow' k a→(∃ j,ow j a)∨¬ Live h a)
  (sub':∀ k a,ow'' k a→(∃ j,ow' j a)∨¬ Live h' a):∀ k a,ow'' k a→(∃ j,ow j a)∨¬ Live h a:=fun k a o=>by
 rcases sub' k a o with ⟨j,q⟩|q
 ·exact sub j a q
 ·by_cases l:Live h a
  ·by_cases w:WW cx env own ow a
   ·rcases w with w|w|w|w
    ·exact (q (e.alive a (.inr w) l)).elim
    ·exact (q (w ▸ I'.frame_live.1)).elim
    ·exact (q (I'.frame_live.2 a w)).elim
    ·exact .inl w
   ·exact (q (e.alive a (.inl w) l)).elim
  ·exact .inr l
theorem WW_of_ext {cx:Cx} {env:Env} {own:Own} {ow:Nat→Hid} {h h':Heap} (e:Ext cx cx.T h h'):Ext cx (WW cx env own ow) h h':=e.weaken fun _ t=>.inl t
theorem HA_mono {Hx:Hid} {env:Env} {own:Own} {ow ow':Nat→Hid} (k:∀ j a,ow' j a→ow j a):∀ a,HA Hx env own ow' a→HA Hx env own ow a:=fun a w=>by
 rcases w with w|w|w|⟨j,n,w⟩
 ·exact .inl w
 ·exact .inr (.inl w)
 ·exact .inr (.inr (.inl w))
 ·exact .inr (.inr (.inr ⟨j,n,k j a w⟩))
theorem InS.up {cx:Cx} {m m':Nat} {A:Around} {env:Env} {ns:Ns} {Hx:Hid} {own:Own} {ow:Nat→Hid} {ρ:PEnv} {h:Heap} (I:InS cx m A env ns Hx own ow ρ h) (r:Room A m'):InS cx m' A env ns Hx own ow ρ h:={ I with room:=r }
section
variable {cx:Cx} {m:Nat} {A:Around} {env:Env} {ns:Ns} {Hx:Hid} {own:Own} {E:Value→Shared→Prop}
theorem go_len:∀ {ks:List Nat} {ps:List PV} {ρ ρ':PEnv},bindT.go ks ps ρ=some ρ'→ks.length=ps.length
 | [],[],_,_,_=>rfl
 | [],_ :: _,_,_,h=>(Option.some_ne_none _ h.symm).elim
 | _ :: _,[],_,_,h=>(Option.some_ne_none _ h.symm).elim
 | _ :: ks,_ :: ps,_,_,h=>congrArg Nat.succ (go_len (ks:=ks) (ps:=ps) h)
theorem cut_le {ow:Nat→Hid} {l:List Nat}:∀ j a,InS.cut ow l j a→ow j a:=fun _ _ q=>q.1
theorem bound_live {h':Heap} {b:Addr} (hb:b=env.locals∨own b) (hn:∃ m,h'.Ns env.locals m) (hc:∀ c,own c→∃ v,h'.IsCell c v):Live h' b :=
 hb.elim (fun q=>q ▸ ((by obtain ⟨_,n⟩:=hn;exact Ns_live n))) fun q=>((by obtain ⟨_,o,e,_⟩:=hc b q;exact ⟨o,e⟩))
theorem names_ok {β:Type} {nm:β→Str} {f:β→Value→Sem Unit} (hf:∀ {y v} {Q:Unit→Shared→Prop} {s:Shared},wpAny (model cx.prog cx.w) A (storeName env (nm y) v) Q E s→wpAny (model cx.prog cx.w) A (f y v) Q E s) :
  ∀ {xs:List β} {s:Shared} {ow:Nat→Hid} {ρ ρ':PEnv} {vs:List Value} {ps:List PV} {Q:Unit→Shared→Prop},(∀ x∈xs,okN (nm x)=true∧isTgt ns (nm x))→InS cx m A env ns Hx own ow ρ s.heap→RepAll cx s.heap (HA Hx env own ow) vs ps →
   bindT.go (xs.map fun x=>enc (nm x)) ps ρ=some ρ'→(∀ h' tk ow',Ext cx (WW cx env own ow) s.heap h'→(∀ k a,ow' k a→ow k a)→InS cx m A env ns Hx own ow' ρ' h'→Q () { s with heap:=h',toks:=tk }) →
   wpAny (model cx.prog cx.w) A (assignInOrder (xs.map f) vs) Q E s
 | [],s,ow,ρ,ρ',vs,[],Q,_,I,hr,hb,h=>by
  obtain rfl:=hr.nil'
  exact assignInOrder_nil (h s.heap s.toks ow .refl (fun _ _ x=>x) (Option.some.inj hb ▸ I))
 | [],s,ow,ρ,ρ',vs,_ :: _,Q,_,I,hr,hb,h=>(Option.some_ne_none _ hb.symm).elim
 | _ :: _,s,ow,ρ,ρ',vs,[],Q,_,I,hr,hb,h=>(Option.some_ne_none _ hb.symm).elim
 | x :: xs,s,ow,ρ,ρ',vs,p :: ps,Q,hx,I,hr,hb,h=>by
  obtain ⟨v,ws,rfl,a,r⟩:=hr.cons'
  obtain ⟨okx,tx⟩:=hx x (.head _)
  refine assignInOrder_cons (hf (store_name I tx fun b h' tk hb' k hn hc hv ho=>?_))
  have e:=(I.turned hb' k (bound_live hb' hn hc)).1
  have bHA:HA Hx env own ow b:=hb'.elim (fun q=>.inr (.inl q)) fun q=>.inr (.inr (.inl q))
  refine names_ok hf (fun y hy=>hx y (.tail _ hy)) (I.bind okx hb' k hn hc hv ho (a.open' (HA_mono cut_le))) (r.map fun a o n g=>⟨fun q=>n (HA_mono cut_le a q),k a o (fun q=>n (q ▸ bHA)) g⟩) hb fun h'' tk'' ow'' e'' sub'' I''=>?_
  exact h h'' tk'' ow'' (WW_trans e (fun j a q=>.inl ⟨j,q.1⟩) e'') (fun j a q=>(sub'' j a q).1) I''
theorem assignEach_names {xs:List (Str × Pos)}:(assignEach (xs.map fun x=>Expr.Name x.1 x.2) env).map (·.2)=xs.map (fun x=>assign (.Name x.1 x.2) env)∧(assignEach (xs.map fun x=>Expr.Name x.1 x.2) env).findIdx? (·.1)=none∧(assignEach (xs.map fun x=>Expr.Name x.1 x.2) env).length=xs.length:=by
 induction xs with
 | nil=>exact ⟨rfl,rfl,rfl⟩
 | cons x xs ih =>
  have e:assignEach ((x :: xs).map fun x=>Expr.Name x.1 x.2) env=(false,assign (.Name x.1 x.2) env) :: assignEach (xs.map fun x=>Expr.Name x.1 x.2) env:=rfl
  rw [e]
  refine ⟨by rw [List.map_cons,ih.1];rfl,?_,by rw [List.length_cons,ih.2.2];rfl⟩
  rw [List.findIdx?_cons,ih.2.1]
  rfl
theorem tgt_ok {t:Expr} {xs:List Nat} {si:Bool} {s:Shared} {ow:Nat→Hid} {ρ ρ':PEnv} {v:Value} {p:PV} {Q:Unit→Shared→Prop} (tg:CTg ns t xs si) (I:InS cx m A env ns Hx own ow ρ s.heap) (hb:bindT xs si p ρ=some ρ') (hr:Rep cx s.heap (HA Hx env own ow) v p)
  (h:∀ h' tk ow',Ext cx (WW cx env own ow) s.heap h'→(∀ k a,ow' k a→ow k a)→InS cx m A env ns Hx own ow' ρ' h'→Q () { s with heap:=h',toks:=tk }):wpAny (model cx.prog cx.w) A (assign t env v) Q E s:=by
 cases tg with
 | one ok hk tx =>
  obtain rfl:=hk
  obtain rfl:=Option.some.inj hb
  exact wpAny_assign_Name (store_name I tx fun b h' tk hb' k hn hc hv ho=>h h' tk _ (I.turned hb' k (bound_live hb' hn hc)).1 cut_le (I.bind ok hb' k hn hc hv ho (hr.open' (HA_mono cut_le))))
 | many hx hks hne =>
  obtain rfl:=hks
  obtain ⟨ps,h1,k1⟩:=ob_i hb
  obtain ⟨a,vs,rfl,_,l,r⟩:=hr.toTup h1
  have hlen:=go_len k1
  rw [List.length_map] at hlen
  obtain ⟨e1,e2,e3⟩:=assignEach_names (env:=env)
  refine assign_Tuple_tuple I.room.1 l.isTup (by rw [e3,List.size_toArray,r.length,hlen]) e2 fun h₁ k₁=>?_
  have ex:Ext cx cx.T s.heap h₁:=Ext.refl.but I.cn.gi not_live_size k₁ (.of not_live_size)
  rw [e1,List.toList_toArray]
  exact names_ok (nm:=fun x:Str × Pos=>x.1) (s:={ s with heap:=h₁ }) (fun q=>wpAny_assign_Name q) hx (I.ext ex) (r.map fun a o n g=>⟨n,ex.keep a o (fun t=>n (.inl (I.cn.tH a t))) g⟩) k1
   fun h' tk ow' e' sub' I'=>h h' tk ow' (WW_trans (WW_of_ext ex) (fun j a q=>.inl ⟨j,q⟩) e') sub' I'
end
end Mine
end
section
set_option maxRecDepth 100000
open PySem PySem.Calls PyProof.Rows PySem.W
set_option genSizeOf false
set_option genInjectivity false
namespace Mine
structure SndX (cx:Cx) (G:Gl) (n:Nat):Prop extends SndN cx G n where
 ex:∀ {ns:Ns} {ss:List Stmt} {l:List PS} {A:Around} {env:Env} {Hx:Hid} {own:Own} {ow:Nat→Hid} {ρ ρ':PEnv} {fl:Fl} {s:Shared} {Q:Flow→Shared→Prop} {E:Value→Shared→Prop},CSs ns ss l→InS cx (n+60) A env ns Hx own ow ρ s.heap →
  (sem G n).ex ρ l=some (ρ',fl)→PostS cx (n+60) A env ns Hx own ow ρ' s Q fl→wpAny (model cx.prog cx.w) A (execs ss env) Q E s
noncomputable def AsgC (cx:Cx) (G:Gl) (n:Nat):Prop:=∀ {ns:Ns} {x:Str} {k:Nat} {elt target iter:Expr} {ifs:List Expr} {scope:Scope} {pe:PE} {occ:List Nat} {r q p:Pos} {A:Around} {env:Env} {Hx:Hid} {own:Own} {ow:Nat→Hid} {ρ ρ':PEnv} {fl:Fl} {s:Shared} {Q:Flow→Shared→Prop} {E:Value→Shared→Prop},
 okN x=true→enc x=k→isTgt ns x→CE ns (.ListComp elt [⟨target,iter,ifs,0⟩] scope r) pe→InS cx (n+60) A env ns Hx own ow ρ s.heap→exS (sem G n) ρ (.assign k pe occ)=some (ρ',fl)→PostS cx (n+60) A env ns Hx own ow ρ' s Q fl →
 wpAny (model cx.prog cx.w) A (exec (.Assign [.Name x q] (.ListComp elt [⟨target,iter,ifs,0⟩] scope r) p) env) Q E s
section
variable {r:Rc} {ρ ρ':PEnv} {fl:Fl} {P:PEnv→Fl→Prop} {k:Nat} {pe:PE} {oc:List Nat}
theorem pn_e {ρ₁:PEnv} {f₁:Fl} (h:some (ρ₁,f₁)=some (ρ',fl)) (a:P ρ₁ f₁):P ρ' fl:=by
 obtain ⟨h1,h2⟩:=Prod.mk.inj (Option.some.inj h)
 rw [← h1,← h2]
 exact a
theorem x_assign (he:exS r ρ (.assign k pe oc)=some (ρ',fl)) (K:∀ v,r.ev (PEnv.only oc ρ) pe=some v→P (PEnv.set (frz v oc ρ) k (freshE pe v) v) .next):P ρ' fl :=
 ob_e he fun v hv k=>pn_e k (K v hv)
theorem x_unpack {xs:List Nat} (he:exS r ρ (.unpack xs pe oc)=some (ρ',fl)) (K:∀ v ρ₁,r.ev (PEnv.only oc ρ) pe=some v→bindT xs false v (PEnv.freeze oc ρ)=some ρ₁→P ρ₁ .next):P ρ' fl :=
 ob_e he fun v hv k=>ob_e k fun ρ₁ hb k=>pn_e k (K v ρ₁ hv hb)
theorem x_unpackR {xs:List Nat} (he:exS r ρ (.unpackR xs pe oc)=some (ρ',fl)) (K:∀ v us ρ₁,r.ev (PEnv.only oc ρ) pe=some v→tup? v=some us→bindT.go xs.reverse us.reverse (PEnv.freeze oc ρ)=some ρ₁→P ρ₁ .next):P ρ' fl :=
 ob_e he fun v hv k=>ob_e k fun us hu k=>ob_e k fun ρ₁ hb k=>pn_e k (K v us ρ₁ hv hu hb)
theorem x_chain {xs:List Nat} (he:exS r ρ (.chain xs pe)=some (ρ',fl)) (K:∀ v,r.ev [] pe=some v→v.scalar=true→P (setAll xs v ρ) .next):P ρ' fl:=by
 refine ob_e he fun v hv k=>?_
 obtain ⟨h1,h2⟩:=og_i k
 exact pn_e (congrArg some h2) (K v hv h1)
theorem ownL_i {x:Nat} {l:List PV} (h:ownL ρ x=some l):PEnv.get ρ x=some (true,.list l):=by
 refine ob_e h fun bv h1 k1=>ob_e k1 fun w h2 k2=>?_
 obtain ⟨b,v⟩:=bv
 obtain ⟨h3,h4⟩:=og_i h2
 have h3:b=true:=h3
 have h4:v=w:=h4
 rw [h1,h3,h4,list_i k2]
theorem x_aug {b:BinK} (he:exS r ρ (.aug k b pe)=some (ρ',fl)) (K:∀ fb i w j v,PEnv.get ρ k=some (fb,.int i)→r.ev ρ pe=some w→int? w=some j→binI b i j=some v→v.scalar=true→P (PEnv.set ρ k false v) .next):P ρ' fl:=by
 refine ob_e he fun bv hg k1=>ob_e k1 fun i hi k2=>ob_e k2 fun w hj k3=>ob_e k3 fun j hjj k4=>ob_e k4 fun v hv k5=>?_
 obtain ⟨h1,h2⟩:=og_i k5
 refine pn_e (congrArg some h2) (K bv.1 i w j v ?_ hj hjj hv h1)
 rw [hg,← int_i hi]
theorem x_setidx {i:PE} (he:exS r ρ (.setidx k i pe)=some (ρ',fl)) (K:∀ v w z l j,r.ev ρ pe=some v→v.scalar=true→r.ev ρ i=some w→int? w=some ((z:Nat):Int)→PEnv.get ρ k=some (true,.list l)→seat ((z:Nat):Int) l=some j→P (PEnv.set ρ k true (.list (l.set j v))) .next):P ρ' fl:=by
 refine ob_e he fun v hv k1=>ob_e k1 fun v' hs k2=>?_
 obtain ⟨hsc,hvv⟩:=og_i hs
 obtain rfl:=hvv
 refine ob_e k2 fun w hk k3=>ob_e k3 fun z hz k4=>ob_e k4 fun z' hz' k5=>ob_e k5 fun l hl k6=>ob_e k6 fun j hj k7=>?_
 obtain rfl:=toNat_i hz'
 exact pn_e k7 (K v w z' l j hv hsc hk hz (ownL_i hl) hj)
theorem x_append (he:exS r ρ (.append k pe oc)=some (ρ',fl)) (K:∀ v l,r.ev (PEnv.only oc ρ) pe=some v→PEnv.get (frz v oc ρ) k=some (true,.list l)→lenOk l=true→P (PEnv.set (frz v oc ρ) k true (.list (l++[v]))) .next):P ρ' fl:=by
 refine ob_e he fun v hv k1=>ob_e k1 fun l hl k2=>?_
 obtain ⟨h1,h2⟩:=og_i k2
 exact pn_e (congrArg some h2) (K v l hv (ownL_i hl) h1)
theorem x_reverse (he:exS r ρ (.reverse k)=some (ρ',fl)) (K:∀ l,PEnv.get ρ k=some (true,.list l)→lenOk l=true→P (PEnv.set ρ k true (.list l.reverse)) .next):P ρ' fl:=by
 refine ob_e he fun l hl k2=>?_
 obtain ⟨h1,h2⟩:=og_i k2
 exact pn_e (congrArg some h2) (K l (ownL_i hl) h1)
theorem x_ret (he:exS r ρ (.ret pe oc)=some (ρ',fl)) (K:∀ v,r.ev (PEnv.only oc ρ) pe=some v→P ρ (.ret v)):P ρ' fl:=ob_e he fun v hv k=>pn_e k (K v hv)
end
section
variable {cx:Cx} {G:Gl} {n:Nat} {A:Around} {env:Env} {ns:Ns} {Hx:Hid} {own:Own} {ow:Nat→Hid} {ρ ρ':PEnv} {s:Shared} {Q:Flow→Shared→Prop} {E:Value→Shared→Prop} {fl:Fl}
theorem InS.ofOcc {m:Nat} (I:InS cx m A env ns Hx own ow ρ s.heap) (occ:List Nat):InE cx m A env ns (PEnv.only occ ρ) (HH Hx env own ow (·∈occ)) s:=I.toE _ (fun k b p g=>by
 rw [get_only] at g
 split at g
 ·rename_i q;exact ⟨q,g⟩
 ·cases g) rfl
theorem InS.ofAll {m:Nat} (I:InS cx m A env ns Hx own ow ρ s.heap):InE cx m A env ns ρ (HH Hx env own ow fun _=>True) s:=I.toE _ (fun _ _ _ g=>⟨trivial,g⟩) rfl
theorem isL_list {v:PV} (h:isL v=true):∃ ps,v=.list ps:=by
 cases v <;> first|exact ⟨_,rfl⟩|exact (Bool.false_ne_true h).elim
theorem freshE_list {pe:PE} {v:PV} (h:freshE pe v=true):∃ ps,v=.list ps:=by
 exact isL_list (band h).2
theorem bind_ok {m:Nat} (I:InS cx m A env ns Hx own ow ρ s.heap) {x:Str} (okx:okN x=true) (tx:isTgt ns x) {occ:List Nat} {pe:PE} {w:Value} {v:PV} {h₁:Heap} {t₁:Nat} {Q:Unit→Shared→Prop} (e₁:Ext cx cx.T s.heap h₁) (r₁:Rep cx h₁ (HH Hx env own ow (·∈occ)) w v)
  (f₁:freshE pe v=true→Frs cx s.heap h₁ (HH Hx env own ow (·∈occ)) w v)
  (h:∀ h' tk ow',Ext cx (WW cx env own ow) s.heap h'→(∀ k a,ow' k a→(∃ j,ow j a)∨¬ Live s.heap a)→InS cx m A env ns Hx own ow' (PEnv.set (Mine.frz v occ ρ) (enc x) (freshE pe v) v) h'→Q () { s with heap:=h',toks:=tk }) :
  wpAny (model cx.prog cx.w) A (storeName env x w) Q E { s with heap:=h₁,toks:=t₁ }:=by
 cases hf:freshE pe v with
 | false =>
  rw [hf] at h
  obtain ⟨ow',I',r',sub'⟩:=(I.ext e₁).frz r₁
  refine store_name (s:={ s with heap:=h₁,toks:=t₁ }) I' tx fun b h' tk hb k hn hc hv ho=>?_
  have e:=(I'.turned hb k (bound_live hb hn hc)).1
  exact h h' tk _ (WW_trans (WW_of_ext e₁) (fun j a q=>.inl ⟨j,sub' j a q⟩) e) (fun j a q=>.inl ⟨j,sub' j a q.1⟩) (I'.bind okx hb k hn hc hv ho (r'.open' (HA_mono cut_le)))
 | true =>
  rw [hf] at h
  have hl:=freshE_list hf
  obtain ⟨ps,rfl⟩:=hl
  obtain ⟨D,vs,rfl,nl,l,r⟩:=f₁ hf ps rfl
  have I':=((I.extAdd e₁ nl l.live).frozen occ)
  have nH:¬ Hx D:=fun q=>nl (I.cn.hid D q)
  have nG:¬ cx.GA D:=fun q=>nl (cx.ga_live _ D I.cn.gi q)
  refine store_name (s:={ s with heap:=h₁,toks:=t₁ }) I' tx fun b h' tk hb k hn hc hv ho=>?_
  have e:=(I'.turned hb k (bound_live hb hn hc)).1
  have r':RepAll cx h₁ (HA (add Hx D) env own (InS.cut ow occ)) vs ps:=r.open' fun a q=>by
   rcases q with (q|q)|q|q|⟨k,_,q,n⟩
   ·exact .inl (.inl q)
   ·exact .inr q
   ·exact .inl (.inr (.inl q))
   ·exact .inl (.inr (.inr (.inl q)))
   ·exact .inl (.inr (.inr (.inr ⟨k,n,q⟩)))
  have I'':=I'.bindOwn I.cn.bH nH nG (fun n c e q=>(I.outer n c e q).1) okx hb k hn hc hv ho l r'
  refine h h' tk _ (WW_trans (WW_of_ext e₁) (fun j a q=>.inl ⟨j,q.1⟩) e) (fun j a q=>?_) I''
  rcases q with ⟨_,q⟩|⟨_,q⟩
  ·exact .inr (q ▸ nl)
  ·exact .inl ⟨j,q.1⟩
theorem ld_own {m:Nat} (I:InS cx m A env ns Hx own ow ρ s.heap) {x:Str} {v:Value} {p:Pos} {Q:Value→Shared→Prop} (hd:(x == ("__debug__":Str))=false) (hv:VarAt s.heap env x v) (h:Q v s):wpAny (model cx.prog cx.w) A (eval (.Name x p) env) Q E s:=by
 refine wpAny_Name ?_ hd
 rcases hv with ⟨k,m,hn,hm⟩|⟨k,c,hc,hcell⟩
 ·exact wpAny_loadName_local I.kind k hn hm h
 ·rcases k with k|⟨k,kn⟩
  ·exact wpAny_loadName_cell I.kind k hc hcell h
  ·exact wpAny_loadName_free I.kind k hc hcell h kn
theorem ldn_own {m:Nat} (I:InS cx m A env ns Hx own ow ρ s.heap) {x:Str} {v:Value} {Q:Value→Shared→Prop} (hv:VarAt s.heap env x v) (h:Q v s):wpAny (model cx.prog cx.w) A (loadName env x) Q E s:=by
 rcases hv with ⟨k,m,hn,hm⟩|⟨k,c,hc,hcell⟩
 ·exact wpAny_loadName_local I.kind k hn hm h
 ·rcases k with k|⟨k,kn⟩
  ·exact wpAny_loadName_cell I.kind k hc hcell h
  ·exact wpAny_loadName_free I.kind k hc hcell h kn
theorem assign_step (S:SndX cx G n) {x:Str} {q p:Pos} {e:Expr} {pe:PE} {occ:List Nat} (ok:okN x=true) (tx:isTgt ns x) (hs:swapsWith e (some (.Name x q)) p.line env=pure false) (hc:CE ns e pe) (I:InS cx (n+60) A env ns Hx own ow ρ s.heap)
  (he:exS (sem G n) ρ (.assign (enc x) pe occ)=some (ρ',fl)) (h:PostS cx (n+60) A env ns Hx own ow ρ' s Q fl):wpAny (model cx.prog cx.w) A (exec (.Assign [.Name x q] e p) env) Q E s:=by
 exact x_assign (P:=fun ρ' fl=>PostS cx (n+60) A env ns Hx own ow ρ' s Q fl→_) he (fun v hv h=>wpAny_Assign_Name (S.ev hc (I.ofOcc occ) hv fun w h₁ t₁ e₁ r₁ f₁=>bind_ok I ok tx e₁ r₁ f₁ h) hs) h
theorem unpack_step (S:SndX cx G n) {xs:List Nat} {e:Expr} {pe:PE} {occ:List Nat} {p:Pos} {elts:List Expr} {j:Nat} {tp:Pos} (tg:CTg ns (.Tuple elts j tp) xs false) (hs:swapsWithSole [.Tuple elts j tp] e p.line env=pure false) (hw:swappedStores [.Tuple elts j tp] e env=pure none) (hc:CE ns e pe)
  (I:InS cx (n+60) A env ns Hx own ow ρ s.heap) (he:exS (sem G n) ρ (.unpack xs pe occ)=some (ρ',fl)) (h:PostS cx (n+60) A env ns Hx own ow ρ' s Q fl):wpAny (model cx.prog cx.w) A (exec (.Assign [.Tuple elts j tp] e p) env) Q E s:=by
 refine x_unpack (P:=fun ρ' fl=>PostS cx (n+60) A env ns Hx own ow ρ' s Q fl→_) he (fun v ρ₁ hv hb h=>Assign_Tuple (S.ev hc (I.ofOcc occ) hv fun w h₁ t₁ e₁ r₁ f₁=>?_) hs hw) h
 exact tgt_ok (s:={ s with heap:=h₁,toks:=t₁ }) tg ((I.ext e₁).frozen occ) hb (by rw [InS.HA_cut];exact r₁) fun h' tk ow' e' sub' I''=>h h' tk ow' (WW_trans (WW_of_ext e₁) (fun j a q=>.inl ⟨j,q.1⟩) e') (fun j a q=>.inl ⟨j,(sub' j a q).1⟩) I''
theorem unpackR_step (S:SndX cx G n) {xs:List (Str × Pos)} {e:Expr} {pe:PE} {occ:List Nat} {j:Nat} {tp p:Pos} (hx:∀ x∈xs,okN x.1=true∧ns.lookup x.1=some .local) (hs:swapsWithSole [.Tuple (xs.map fun x=>.Name x.1 x.2) j tp] e p.line env=pure false)
  (hw:swappedStores [.Tuple (xs.map fun x=>.Name x.1 x.2) j tp] e env=pure (some (xs.map (·.1)))) (hc:CE ns e pe) (I:InS cx (n+60) A env ns Hx own ow ρ s.heap) (he:exS (sem G n) ρ (.unpackR (encs xs) pe occ)=some (ρ',fl)) (h:PostS cx (n+60) A env ns Hx own ow ρ' s Q fl) :
  wpAny (model cx.prog cx.w) A (exec (.Assign [.Tuple (xs.map fun x=>.Name x.1 x.2) j tp] e p) env) Q E s:=by
 refine x_unpackR (P:=fun ρ' fl=>PostS cx (n+60) A env ns Hx own ow ρ' s Q fl→_) he (fun v us ρ₁ hv hu hb h=>Assign_Tuple_swapped (S.ev hc (I.ofOcc occ) hv fun w h₁ t₁ e₁ r₁ f₁=>?_) hs hw) h
 have I':=(I.ext e₁).frozen occ
 rw [← InS.HA_cut] at r₁
 obtain ⟨a,ws,rfl,nH,l,r⟩:=r₁.toTup hu
 have hl:=go_len hb
 rw [List.length_reverse,encs,List.length_map,List.length_reverse] at hl
 rw [show (xs.map (·.1)).length=ws.toArray.size by rw [List.length_map,List.size_toArray,r.length,hl]]
 refine unpackItems_tuple (s:={ s with heap:=h₁,toks:=t₁ }) I.room.1 l.isTup fun h₂ k₂=>?_
 have ex:Ext cx cx.T h₁ h₂:=Ext.refl.but (e₁.gi I.cn.gi) not_live_size k₂ (.of not_live_size)
 rw [List.toList_toArray,← List.map_reverse,List.map_map]
 rw [encs,← List.map_reverse] at hb
 exact names_ok (nm:=fun x:Str × Pos=>x.1) (s:={ s with heap:=h₂,toks:=t₁ }) (f:=fun x v=>bindName env x.1 v) (fun q=>wpAny_bindName q) (fun y hy=>⟨(hx y (List.mem_reverse.mp hy)).1,.inl (hx y (List.mem_reverse.mp hy)).2⟩) (I'.ext ex)
  ((r.map fun a o n g=>⟨n,ex.keep a o (fun t=>n (.inl (I.cn.tH a t))) g⟩).reverse) hb fun h' tk ow' e' sub' I''=>h h' tk ow' (WW_trans (WW_of_ext (e₁.trans ex)) (fun j a q=>.inl ⟨j,q.1⟩) e') (fun j a q=>.inl ⟨j,(sub' j a q).1⟩) I''
theorem setAll_step:∀ {xs:List (Str × Pos)} {ow:Nat→Hid} {ρ:PEnv} {s:Shared} {v:Value} {p:PV} {Q:Unit→Shared→Prop},(∀ x∈xs,okN x.1=true∧isTgt ns x.1)→p.scalar=true→Rep cx s.heap (fun _=>False) v p→InS cx (n+60) A env ns Hx own ow ρ s.heap →
  (∀ h' tk ow',Ext cx (WW cx env own ow) s.heap h'→(∀ k a,ow' k a→(∃ j,ow j a)∨¬ Live s.heap a)→InS cx (n+60) A env ns Hx own ow' (setAll (encs xs) p ρ) h'→Q () { s with heap:=h',toks:=tk }) →
  wpAny (model cx.prog cx.w) A (assignAll v ((assignEach (xs.map fun x=>.Name x.1 x.2) env).map (·.2))) Q E s
 | [],ow,ρ,s,v,p,Q,_,_,_,I,h=>wpAny_pure (h s.heap s.toks ow .refl (fun k a q=>.inl ⟨k,q⟩) I)
 | [x],ow,ρ,s,v,p,Q,hx,hp,hr,I,h=>by
  obtain ⟨okx,tx⟩:=hx x (.head _)
  show wpAny _ _ (assign (.Name x.1 x.2) env v) _ _ _
  refine wpAny_assign_Name (store_name I tx fun b h' tk hb k hn hc hv ho=>?_)
  exact h h' tk _ (I.turned hb k (bound_live hb hn hc)).1 (fun j a q=>.inl ⟨j,q.1⟩) (I.bind okx hb k hn hc hv ho (hr.scalar hp))
 | x :: y :: xs,ow,ρ,s,v,p,Q,hx,hp,hr,I,h=>by
  obtain ⟨okx,tx⟩:=hx x (.head _)
  show wpAny _ _ (holding [v] (assign (.Name x.1 x.2) env v) >>= fun _=>assignAll v ((assignEach ((y :: xs).map fun x=>.Name x.1 x.2) env).map (·.2))) _ _ _
  refine wpAny_bind (wpAny_holding (wpAny_assign_Name (store_name I tx fun b h' tk hb k hn hc hv ho=>?_)))
  have I':=I.bind (p:=p) okx hb k hn hc hv ho (hr.scalar hp)
  have e:=(I.turned hb k (bound_live hb hn hc)).1
  refine setAll_step (xs:=y :: xs) (s:={ s with heap:=h',toks:=tk }) (fun z hz=>hx z (.tail _ hz)) hp (hr.scalar hp) I' fun h'' tk'' ow'' e'' sub'' I''=>?_
  exact h h'' tk'' ow'' (WW_trans e (fun j a q=>.inl ⟨j,q.1⟩) e'') (sub_trans e I' (fun j a q=>.inl ⟨j,q.1⟩) sub'') I''
theorem swaps_two {xs:List (Str × Pos)} {e:Expr} (l:Nat) (h2:2≤xs.length):swapsWithSole (xs.map fun x=>Expr.Name x.1 x.2) e l env=pure false∧swappedStores (xs.map fun x=>Expr.Name x.1 x.2) e env=pure none:=by
 match xs,h2 with
 | _ :: _ :: _,_=>exact ⟨rfl,rfl⟩
theorem chain_step (S:SndX cx G n) {xs:List (Str × Pos)} {e:Expr} {pe:PE} {p:Pos} (hx:∀ x∈xs,okN x.1=true∧isTgt ns x.1) (h2:2≤xs.length) (hc:CE ns e pe) (I:InS cx (n+60) A env ns Hx own ow ρ s.heap)
  (he:exS (sem G n) ρ (.chain (encs xs) pe)=some (ρ',fl)) (h:PostS cx (n+60) A env ns Hx own ow ρ' s Q fl):wpAny (model cx.prog cx.w) A (exec (.Assign (xs.map fun x=>.Name x.1 x.2) e p) env) Q E s:=by
 refine x_chain (P:=fun ρ' fl=>PostS cx (n+60) A env ns Hx own ow ρ' s Q fl→_) he (fun v hv hsc h=>?_) h
 rw [exec_Assign]
 refine wpAny_bind (wpAny_standAt ?_)
 rw [(swaps_two _ h2).1]
 refine wpAny_bind (wpAny_pure ?_)
 rw [if_neg (by decide)]
 refine wpAny_bind (S.ev hc (I.toE (ρ':=[]) (fun _=>True) (fun k b p g=>(Option.some_ne_none _ g.symm).elim) rfl) hv fun w h₁ t₁ e₁ r₁ _=>?_)
 rw [(swaps_two 0 h2).2]
 refine wpAny_bind (wpAny_pure ?_)
 show wpAny _ _ (assignAll w _ >>= fun _=>(pure Flow.next:Sem Flow)) _ _ _
 refine wpAny_bind (setAll_step (s:={ s with heap:=h₁,toks:=t₁ }) hx hsc (r₁.scalar hsc) (I.ext e₁) fun h' tk ow' e' sub' I'=>wpAny_pure ?_)
 exact h h' tk ow' (WW_trans (WW_of_ext e₁) (fun j a q=>.inl ⟨j,q⟩) e') (sub_trans (WW_of_ext e₁) (I.ext e₁) (fun j a q=>.inl ⟨j,q⟩) sub') I'
theorem own_put {m:Nat} {h:Heap} (I:InS cx m A env ns Hx own ow ρ h) {x:Str} (ok:okN x=true) {l:List PV} (hg:PEnv.get ρ (enc x)=some (true,.list l)):∃ D vs,VarAt h env x (.ref D)∧(∀ a,ow (enc x) a↔a=D)∧IsLs h D vs∧RepAll cx h (HA Hx env own ow) vs l ∧
  ∀ h₃ ws l',Heap.SameBut D h h₃→IsLs h₃ D ws→RepAll cx h (HA Hx env own ow) ws l'→InS cx m A env ns Hx own ow (PEnv.set ρ (enc x) true (.list l')) h₃∧Ext cx (WW cx env own ow) h h₃:=by
 obtain ⟨w,hw,_,h2⟩:=I.vars x _ _ ok hg
 obtain ⟨D,vs,rfl,hD,ll,rr⟩:=h2 rfl
 refine ⟨D,vs,hw,hD,ll,rr,fun h₃ ws l' k₃ l₃ r₃=>?_⟩
 have oc:=I.owCell ((hD D).mpr rfl)
 exact I.mutL ok hD hw k₃ ⟨_,ll⟩ l₃ r₃ (InS.keepVar k₃ oc.1 oc.2)
theorem aug_step (S:SndX cx G n) {x:Str} {b:BinK} {e:Expr} {a:PE} {q p:Pos} (ok:okN x=true) (tx:isTgt ns x) (hc:CE ns e a) (I:InS cx (n+60) A env ns Hx own ow ρ s.heap)
  (he:exS (sem G n) ρ (.aug (enc x) b a)=some (ρ',fl)) (h:PostS cx (n+60) A env ns Hx own ow ρ' s Q fl):wpAny (model cx.prog cx.w) A (exec (.AugAssign (.Name x q) (opOf b) e p) env) Q E s:=by
 refine x_aug (P:=fun ρ' fl=>PostS cx (n+60) A env ns Hx own ow ρ' s Q fl→_) he (fun fb i w j v hg hj hjj hv hsc h=>?_) h
 obtain ⟨w,hw,h1,h2⟩:=I.vars x fb _ ok hg
 have hwi:∃ t,w=.int i t:=by
  induction fb using Bool.casesOn with
  | false=>exact h1 rfl
  | true=>exact (h2 rfl).elim
 obtain ⟨t,rfl⟩:=hwi
 refine wpAny_AugAssign_Name (ldn_own I hw (S.ev hc I.ofAll hj fun u h₁ t₁ e₁ r₁ _=>?_))
 obtain ⟨t',rfl⟩:=r₁.toInt hjj
 refine (bin_int (fr:=false) (s:={ s with heap:=h₁,toks:=t₁ }) (H:=fun _=>False) (cx:=cx) hv fun w' h₂ t₂ e₂ r₂ _=>?_).2
 have I':=I.ext (e₁.trans e₂)
 refine store_name (s:={ s with heap:=h₂,toks:=t₂ }) I' tx fun bb h' tk hb k hn hcc hv' ho=>?_
 exact h h' tk _ (WW_trans (WW_of_ext (e₁.trans e₂)) (fun j a q=>.inl ⟨j,q⟩) (I'.turned hb k (bound_live hb hn hcc)).1) (fun j a q=>.inl ⟨j,q.1⟩) (I'.bind ok hb k hn hcc hv' ho (r₂.scalar hsc))
theorem setidx_step (S:SndX cx G n) {x:Str} {i e:Expr} {a b:PE} {np q p:Pos} (ok:okN x=true) (hd:(x == ("__debug__":Str))=false) (hs:swapsWith e (some (.Subscript (.Name x np) i q)) p.line env=pure false) (hi:CE ns i a) (hc:CE ns e b)
  (I:InS cx (n+60) A env ns Hx own ow ρ s.heap) (he:exS (sem G n) ρ (.setidx (enc x) a b)=some (ρ',fl)) (h:PostS cx (n+60) A env ns Hx own ow ρ' s Q fl):wpAny (model cx.prog cx.w) A (exec (.Assign [.Subscript (.Name x np) i q] e p) env) Q E s:=by
 refine x_setidx (P:=fun ρ' fl=>PostS cx (n+60) A env ns Hx own ow ρ' s Q fl→_) he (fun v w z l j hv hsc hk hki hg hj h=>?_) h
 obtain ⟨hp,hll⟩:=seat_i hj
 refine wpAny_Assign_Subscript (S.ev hc I.ofAll hv fun u h₁ t₁ e₁ r₁ _=>?_) hs
 have I₁:=I.ext e₁
 obtain ⟨D,vs,hw,hD,_⟩:=own_put I₁ ok hg
 refine ld_own (s:={ s with heap:=h₁,toks:=t₁ }) I₁ hd hw (S.ev hi I₁.ofAll hk fun iv h₂ t₂ e₂ r₂ _=>?_)
 have I₂:=I₁.ext e₂
 obtain ⟨D',vs2,hw2,hD',ll2,rr2,put⟩:=own_put I₂ ok hg
 obtain rfl:D'=D:=(hD _).mp ((hD' _).mpr rfl)
 obtain ⟨t,rfl⟩:=r₂.toInt hki
 refine setitem_ok (s:={ s with heap:=h₂,toks:=t₂ }) ll2 (by rw [rr2.length];omega) (by rw [rr2.length];exact hp) (Int.natCast_nonneg _) fun h₃ k₃ l₃=>?_
 obtain ⟨I₃,E₃⟩:=put h₃ _ _ k₃ l₃ (rr2.set j (r₁.scalar hsc))
 exact h h₃ t₂ ow (WW_trans (WW_of_ext (e₁.trans e₂)) (fun j a q=>.inl ⟨j,q⟩) E₃) (fun j a q=>.inl ⟨j,q⟩) I₃
end
end Mine
end
section
set_option maxRecDepth 100000
open PySem PySem.Calls PyProof.Rows PySem.W
set_option genSizeOf false
set_option genInjectivity false
namespace Mine
theorem frz_get {v p:PV} {occ:List Nat} {ρ:PEnv} {k:Nat} (h:PEnv.get (frz v occ ρ) k=some (true,p)):PEnv.get ρ k=some (true,p):=by
 unfold frz at h
 cases hv:v.scalar with
 | true=>rw [hv] at h;exact h
 | false =>
  rw [hv] at h
  have h:PEnv.get (PEnv.freeze occ ρ) k=some (true,p):=h
  rw [get_freeze,Option.map_eq_some_iff] at h
  obtain ⟨⟨b,q⟩,h1,h2⟩:=h
  split at h2
  ·exact (Bool.false_ne_true (Prod.mk.inj h2).1).elim
  ·exact h2 ▸ h1
section
variable {cx:Cx} {G:Gl} {n:Nat} {A:Around} {env:Env} {ns:Ns} {Hx:Hid} {own:Own} {ow:Nat→Hid} {ρ ρ':PEnv} {s:Shared} {Q:Flow→Shared→Prop} {E:Value→Shared→Prop} {fl:Fl}
theorem not_interactive {m:Nat} (I:InS cx m A env ns Hx own ow ρ s.heap):interactive env=false:=by
 unfold interactive
 rw [I.kind];rfl
theorem list_meth {m:Nat} {x nm:Str} {id:String} {np ap q p:Pos} {es:List Expr} {l:List PE} {D:Addr} {vs:List Value} (I:InS cx m A env ns Hx own ow ρ s.heap) (hd:(x == ("__debug__":Str))=false) (hl:(ap.endLine == q.line)=true) (hc:CEs ns es l) (hlen:es.length<10) (hw:VarAt s.heap env x (.ref D)) (ll:IsLs s.heap D vs)
  (sl:Slot "list" nm id) (ty:typeOf (.builtin id)=pure (.type "method_descriptor")) (h:wpAny (model cx.prog cx.w) A (callWith q (.builtin id) [.ref D] (backTo q (starEach es env)) []) (fun v s'=>v=.none∧Q .next s') E s) :
  wpAny (model cx.prog cx.w) A (exec (.Expr (.Call (.Attribute (.Name x np) nm ap) es [] q) p) env) Q E s:=by
 refine wpAny_Expr (call_method rfl (few_of hc hlen) hl (ld_own I hd hw fun pl=>?_)) (not_interactive I) rfl
 refine getMethod_builtin ⟨_,ll.choose_spec,rfl⟩ F.plainAttrs_list sl ty (fun b e=>?_) (wpAny_mono h (fun v s' h'=>?_) fun _ _ x=>x)
 ·obtain rfl:=Value.ref.inj e
  exact ⟨_,ll.choose_spec,rfl⟩
 ·obtain ⟨h1,h2⟩:=h'
  obtain rfl:=h1
  exact h2
theorem append_step (S:SndX cx G n) {x:Str} {e:Expr} {a:PE} {occ:List Nat} {np ap q p:Pos} (ok:okN x=true) (hd:(x == ("__debug__":Str))=false) (hl:(ap.endLine == q.line)=true) (hc:CE ns e a)
  (I:InS cx (n+60) A env ns Hx own ow ρ s.heap) (he:exS (sem G n) ρ (.append (enc x) a occ)=some (ρ',fl)) (h:PostS cx (n+60) A env ns Hx own ow ρ' s Q fl) :
  wpAny (model cx.prog cx.w) A (exec (.Expr (.Call (.Attribute (.Name x np) "append" ap) [e] [] q) p) env) Q E s:=by
 refine x_append (P:=fun ρ' fl=>PostS cx (n+60) A env ns Hx own ow ρ' s Q fl→_) he (fun v l hv hg hll h=>?_) h
 have hcs:CEs ns [e] [a]:=.one hc
 obtain ⟨D,vs,hw,hD,ll,_⟩:=own_put I ok (frz_get hg)
 refine list_meth I hd hl hcs (by show 1<10;decide) hw ll F.slot_list_append F.type_list_append (args_of S.toSndN (I.ofOcc occ) rfl hcs (evL_one hv) fun ws h₁ t₁ e₁ r₁=>?_)
 obtain ⟨w,rfl,r₂⟩:=r₁.one'
 obtain ⟨ow',I',r',sub'⟩:=(I.ext e₁).frz r₂
 obtain ⟨D',vs2,_,hD',ll2,rr2,put⟩:=own_put I' ok hg
 obtain rfl:D'=D:=(hD _).mp (sub' _ _ ((hD' _).mpr rfl))
 refine append_ok (s:={ s with heap:=h₁,toks:=t₁ }) ll2 (by rw [rr2.length];exact lenOk_le hll) fun h₃ k₃ l₃=>?_
 obtain ⟨I₃,E₃⟩:=put h₃ _ _ k₃ l₃ (rr2.append (.cons r' .nil))
 exact ⟨rfl,h h₃ t₁ ow' (WW_trans (WW_of_ext e₁) (fun j a q=>.inl ⟨j,sub' j a q⟩) E₃) (fun j a q=>.inl ⟨j,sub' j a q⟩) I₃⟩
theorem reverse_step {x:Str} {np ap q p:Pos} (ok:okN x=true) (hd:(x == ("__debug__":Str))=false) (hl:(ap.endLine == q.line)=true)
  (I:InS cx (n+60) A env ns Hx own ow ρ s.heap) (he:exS (sem G n) ρ (.reverse (enc x))=some (ρ',fl)) (h:PostS cx (n+60) A env ns Hx own ow ρ' s Q fl) :
  wpAny (model cx.prog cx.w) A (exec (.Expr (.Call (.Attribute (.Name x np) "reverse" ap) [] [] q) p) env) Q E s:=by
 refine x_reverse (P:=fun ρ' fl=>PostS cx (n+60) A env ns Hx own ow ρ' s Q fl→_) he (fun l hg hll h=>?_) h
 obtain ⟨D,vs,hw,hD,ll,rr,put⟩:=own_put I ok hg
 refine list_meth I hd hl (l:=[]) ⟨0,rfl⟩ (by decide) hw ll F.slot_list_reverse F.type_list_reverse (callWith_builtin rfl (PyProof.Rows.evalArgs_none ?_))
 show wpAny _ _ (call (.builtin "list.reverse") [.ref D]) _ _ _
 refine reverse_ok ll (by rw [rr.length];exact lenOk_le hll) fun h₃ k₃ l₃=>?_
 obtain ⟨I₃,E₃⟩:=put h₃ _ _ k₃ l₃ rr.reverse
 exact ⟨rfl,h h₃ s.toks _ E₃ (fun j a q=>.inl ⟨j,q⟩) I₃⟩
theorem ret_step (S:SndX cx G n) {e:Expr} {pe:PE} {occ:List Nat} {p:Pos} (hc:CE ns e pe) (I:InS cx (n+60) A env ns Hx own ow ρ s.heap) (he:exS (sem G n) ρ (.ret pe occ)=some (ρ',fl)) (h:PostS cx (n+60) A env ns Hx own ow ρ' s Q fl) :
  wpAny (model cx.prog cx.w) A (exec (.Return (some e) p) env) Q E s:=by
 exact x_ret (P:=fun ρ' fl=>PostS cx (n+60) A env ns Hx own ow ρ' s Q fl→_) he (fun v hv h=>wpAny_Return_some (S.ev hc (I.ofOcc occ) hv fun w h₁ t₁ e₁ r₁ _=>h h₁ t₁ w (WW_of_ext e₁) (I.cn.ext e₁) (r₁.open' fun a q=>.inl q))) h
theorem PostS.after {m:Nat} {h₁:Heap} {t₁:Nat} {ow₁:Nat→Hid} {ρ₁:PEnv} (h:PostS cx m A env ns Hx own ow ρ' s Q fl) (e:Ext cx (WW cx env own ow) s.heap h₁) (I₁:InS cx m A env ns Hx own ow₁ ρ₁ h₁) (sub:∀ k a,ow₁ k a→(∃ j,ow j a)∨¬ Live s.heap a) :
  PostS cx m A env ns Hx own ow₁ ρ' { s with heap:=h₁,toks:=t₁ } Q fl:=by
 cases fl with
 | next=>exact fun h' tk ow' e' sub' I'=>h h' tk ow' (WW_trans e sub e') (sub_trans e I₁ sub sub') I'
 | brk=>exact fun h' tk ow' e' sub' I'=>h h' tk ow' (WW_trans e sub e') (sub_trans e I₁ sub sub') I'
 | ret p=>exact fun h' tk v e' c r=>h h' tk v (WW_trans e sub e') c r
theorem if_step (S:SndX cx G n) {c:Expr} {a b:List Stmt} {pc:PE} {l r:List PS} {p:Pos} (hc:CT ns c pc) (ha:CSs ns a l) (hb:CSs ns b r) (I:InS cx (n+60) A env ns Hx own ow ρ s.heap) (he:exS (sem G n) ρ (.if_ pc l r)=some (ρ',fl))
  (h:PostS cx (n+60) A env ns Hx own ow ρ' s Q fl):wpAny (model cx.prog cx.w) A (exec (.If c a b p) env) Q E s:=by
 refine wpAny_If ?_
 rcases oif_i he with ⟨ht,k⟩|⟨ht,k⟩
 ·exact S.ts hc I.ofAll ht fun h₁ t₁ e₁=>S.ex ha (I.ext e₁) k (h.after (WW_of_ext e₁) (I.ext e₁) fun k a q=>.inl ⟨k,q⟩)
 ·exact S.ts hc I.ofAll ht fun h₁ t₁ e₁=>S.ex hb (I.ext e₁) k (h.after (WW_of_ext e₁) (I.ext e₁) fun k a q=>.inl ⟨k,q⟩)
end
end Mine
end
section
set_option maxRecDepth 100000
open PySem PySem.Calls PyProof.Rows PySem.W
set_option genSizeOf false
set_option genInjectivity false
namespace Mine
section
variable {cx:Cx} {m:Nat} {A:Around} {env:Env} {ns:Ns} {Hx:Hid} {own:Own} {ow:Nat→Hid} {ρ:PEnv} {h h':Heap} {it:Addr}
theorem InS.moved (I:InS cx m A env ns (add Hx it) own ow ρ h) (k:Heap.ExtBut it h h') (nc:NoCd h it) (nG:¬ cx.GA it) (bH:∀ a,cx.B a→Hx a) (nH:¬ Hx it) (outer:∀ n c,env.cells.lookup n=some c→¬ own c→Hx c):InS cx m A env ns Hx own ow ρ h':=by
 have kb:∀ a o,a ≠ it→h.get? a=some o→h'.get? a=some o:=k
 have nl:env.locals ≠ it:=fun q=>I.fH.1 (.inr q)
 have no:∀ c,own c→c ≠ it:=fun c oc q=>I.fH.2 c oc (.inr q)
 have nw:∀ j a,ow j a→a ≠ it:=fun j a oa q=>(I.owL j a oa).2.1 (.inr q)
 have up:∀ a,HA Hx env own ow a→HA (add Hx it) env own ow a:=fun a q=>by
  rcases q with q|q|q|q
  ·exact .inl (.inl q)
  ·exact .inr (.inl q)
  ·exact .inr (.inr (.inl q))
  ·exact .inr (.inr (.inr q))
 have kr:∀ a o,¬ HA (add Hx it) env own ow a→h.get? a=some o→¬ HA Hx env own ow a∧h'.get? a=some o:=fun a o n g=>⟨fun q=>n (up a q),kb a o (fun q=>n (.inl (.inr q))) g⟩
 have gi:cx.GI h':=cx.mono h h' I.cn.gi fun a o ga g=>kb a o (fun q=>ga.elim (fun ga=>nG (q ▸ ga)) (nc o (q ▸ g))) g
 refine { I with cn:=⟨gi,fun a q=>?_,bH,fun a q=>I.cn.hg a (.inl q)⟩,nsl:=?_,cells:=fun c oc=>?_,fH:=⟨fun q=>I.fH.1 (.inl q),fun c oc q=>I.fH.2 c oc (.inl q)⟩,outer:=fun n c e q=>⟨outer n c e q,(I.outer n c e q).2⟩,owL:=fun j a oa=>?_,vars:=?_ }
 ·obtain ⟨o,ho⟩:=I.cn.hid a (.inl q)
  exact ⟨o,kb a o (fun z=>nH (z ▸ q)) ho⟩
 ·obtain ⟨mm,o,es,ep,g,r⟩:=I.nsl
  exact ⟨mm,o,es,ep,kb _ o nl g,r⟩
 ·obtain ⟨v,o,g,r⟩:=I.cells c oc
  exact ⟨v,o,kb _ o (no c oc) g,r⟩
 ·obtain ⟨⟨o,h1⟩,h2,h3⟩:=I.owL j a oa
  exact ⟨⟨o,kb a o (nw j a oa) h1⟩,fun q=>h2 (.inl q),h3⟩
 ·intro x b p ok g
  obtain ⟨v,hv,h1,h2⟩:=I.vars x b p ok g
  refine ⟨v,hv.keep fun a o ha g=>kb a o (fun q=>?_) g,fun q=>(h1 q).map kr,fun q=>(h2 q).map (fun a o oa=>kb a o (nw _ a oa)) (fun _=>Iff.rfl) kr⟩
  rcases ha with rfl|⟨n,c,hc,rfl⟩
  ·exact nl q
  ·subst q
   by_cases oc:own a
   ·exact no a oc rfl
   ·exact nH (outer n a hc oc)
theorem InS.reAdd (I:InS cx m A env ns Hx own ow ρ h) (l:Live h it) (nG:¬ cx.GA it) (n1:it ≠ env.locals) (n2:¬ own it) (n3:∀ k,¬ ow k it)
  (hv:∀ x b p,okN x=true→PEnv.get ρ (enc x)=some (b,p)→∃ v,VarAt h env x v∧(b=false→Rep cx h (HA (add Hx it) env own ow) v p)∧(b=true→OwnRep cx own.inst h (HA (add Hx it) env own ow) (ow (enc x)) v p)):InS cx m A env ns (add Hx it) own ow ρ h :=
 {I with cn:=⟨I.cn.gi,fun a q=>q.elim (I.cn.hid a) fun q=>q ▸ l,fun a b=>.inl (I.cn.bH a b),fun a q g=>q.elim (fun q=>I.cn.hg a q g) fun q=>(nG (q ▸ g)).elim⟩,fH:=⟨fun q=>q.elim I.fH.1 fun q=>n1 q.symm,fun c oc q=>q.elim (I.fH.2 c oc) fun q=>n2 (q ▸ oc)⟩,outer:=fun n c e q=>⟨.inl (I.outer n c e q).1,(I.outer n c e q).2⟩,owL:=fun k a oa=>⟨(I.owL k a oa).1,fun q=>q.elim (I.owL k a oa).2.1 fun q=>n3 k (q ▸ oa),(I.owL k a oa).2.2⟩,vars:=hv }
theorem InS.moved' (I:InS cx m A env ns (add Hx it) own ow ρ h) (k:Heap.ExtBut it h h') (nc:NoCd h it) (l:Live h' it) (nG:¬ cx.GA it) (bH:∀ a,cx.B a→Hx a) (nH:¬ Hx it) (outer:∀ n c,env.cells.lookup n=some c→¬ own c→Hx c):InS cx m A env ns (add Hx it) own ow ρ h':=by
 refine (I.moved k nc nG bH nH outer).reAdd l nG (fun q=>I.fH.1 (.inr q.symm)) (fun q=>I.fH.2 it q (.inr rfl)) (fun j q=>(I.owL j it q).2.1 (.inr rfl)) fun x b p ok g=>?_
 have nw:∀ j a,ow j a→a ≠ it:=fun j a oa q=>(I.owL j a oa).2.1 (.inr q)
 have kr:∀ a o,¬ HA (add Hx it) env own ow a→h.get? a=some o→¬ HA (add Hx it) env own ow a∧h'.get? a=some o:=fun a o n g=>⟨n,k a o (fun q=>n (.inl (.inr q))) g⟩
 obtain ⟨v,hv,h1,h2⟩:=I.vars x b p ok g
 refine ⟨v,hv.keep fun a o ha g=>k a o (fun q=>?_) g,fun q=>(h1 q).map kr,fun q=>(h2 q).map (fun a o oa=>k a o (nw _ a oa)) (fun _=>Iff.rfl) kr⟩
 rcases ha with rfl|⟨n,c,hc,rfl⟩
 ·exact I.fH.1 (.inr q)
 ·subst q
  by_cases oc:own a
  ·exact I.fH.2 a oc (.inr rfl)
  ·exact nH (outer n a hc oc)
theorem Ext.butW {W:Hid} {h₀ h h':Heap} (e:Ext cx W h₀ h) (nG:¬ cx.GA it) (nl:¬ Live h₀ it) (k:Heap.ExtBut it h h') (nc:NoCd h it):Ext cx W h₀ h' :=
 ⟨fun a o n x=>k a o (fun q=>nl ⟨o,q ▸ x⟩) (e.keep a o n x),fun a c l=>by
  obtain ⟨o,ho⟩:=e.alive a c l
  exact ⟨o,k a o (fun q=>nl (q ▸ l)) ho⟩,fun g=>cx.mono h h' (e.gi g) fun a o ga x=>k a o (fun q=>ga.elim (fun ga=>nG (q ▸ ga)) (nc o (q ▸ x))) x⟩
theorem iter_noCd {h:Heap} {it:Addr} (hc:∃ o nm,h.get? it=some o∧o.cls=.type nm∧nm∈(["list_iterator","list_reverseiterator","range_iterator","str_iterator","str_ascii_iterator"]:List String)):NoCd h it:=by
 obtain ⟨o,nm,ho,hcl,hm⟩:=hc
 refine .of_cls ho fun q=>?_
 rw [hcl] at q
 injection q with q
 subst q
 simp at hm
theorem letOwned_ok {A:Around} {E:Value→Shared→Prop} {s:Shared} {Q:Unit→Shared→Prop} {t:Expr} {xs:List Nat} {si:Bool} {v:Value} (tg:CTg ns t xs si) (hc:∃ o nm,s.heap.get? it=some o∧o.cls=.type nm∧nm∈(["list_iterator","list_reverseiterator","range_iterator","str_iterator","str_ascii_iterator"]:List String))
  (h:Q () s):wpAny (model cx.prog cx.w) A (letOwnedTupleGo t (.ref it) v) Q E s:=by
 cases tg with
 | one=>exact wpAny_pure h
 | many =>
  obtain ⟨o,nm,ho,hcl,hm⟩:=hc
  unfold letOwnedTupleGo
  cases v with
  | ref a =>
   refine wpAny_bind (wpAny_load ho ?_)
   rw [hcl]
   have hn:(["enumerate","zip","dict_itemiterator","dict_reverseitemiterator","odict_iterator","itertools.zip_longest","itertools.pairwise"]:List String).contains nm=false:=by
    simp only [List.mem_cons,List.not_mem_nil,or_false] at hm
    rcases hm with rfl|rfl|rfl|rfl|rfl <;> decide
   cases o.data with
   | fields vs =>
    show wpAny _ _ (if (_ && _)=true then _ else _) _ _ _
    rw [hn,Bool.false_and,if_neg Bool.false_ne_true]
    exact wpAny_pure h
   | _=>exact wpAny_pure h
  | _=>exact wpAny_pure h
end
end Mine
end
section
set_option maxRecDepth 100000
open PySem PySem.Calls PyProof.Rows PySem.W
set_option genSizeOf false
set_option genInjectivity false
namespace Mine
section
variable {cx:Cx} {G:Gl} {n:Nat} {A:Around} {env:Env} {ns:Ns} {Hx:Hid} {own:Own} {ow:Nat→Hid} {ρ ρ':PEnv} {s:Shared} {Q:Flow→Shared→Prop} {E:Value→Shared→Prop} {fl:Fl}
theorem drop_step {α:Type} {l:List α} {i:Nat} {x:α} (h:l[i]?=some x):l.drop i=x :: l.drop (i+1):=by
 obtain ⟨hi,e⟩:=List.getElem?_eq_some_iff.mp h
 rw [List.drop_eq_getElem_cons hi,e]
noncomputable def Turn (J:Nat→Shared→Prop) (Q:Flow→Shared→Prop) (n:Nat):Flow→Shared→Prop
 | .brk,s=>Q .next s
 | .ret v,s=>Q (.ret v) s
 | _,s=>∃ m,m<n∧J m s
theorem for_rule {prog:Program} {w:World} {target:Expr} {it:Value} {body orelse:List Stmt} (J:Nat→Shared→Prop)
  (turn:∀ {E':Value→Shared→Prop} n s,J n s→wpAny (model prog w) A (pyNext it) (fun r s₁=>(r=none→wpAny (model prog w) A (execs orelse env) Q E' s₁)∧∀ v,r=some v→wpAny (model prog w) A (letOwnedTupleGo target it v) (fun _ s₂ =>
   wpAny (model prog w) A (assign target env v) (fun _ s₃=>wpAny (model prog w) A (execs body env) (Turn J Q n) E' s₃) E' s₂) E' s₁) E' s)
  (n:Nat) (h:J n s):codeAny (model prog w) A (.forLoop target it body orelse env) (fun r s'=>match r with | .ok f=>Q f s' | .error e=>cameBackBy (model prog w) A env E e s') s:=by
 refine codeAny_forLoop_any J (fun n s hJ=>wpAny_mono (turn n s hJ) (fun r s₁ h₁=>?_) fun _ _ x=>x) n h
 induction r using Option.casesOn with
 | none=>exact h₁.1 rfl
 | some v =>
  refine wpAny_mono (h₁.2 v rfl) (fun _ s₂ h₂=>wpAny_mono h₂ (fun _ s₃ h₃=>wpAny_mono h₃ (fun f s₄ h₄=>?_) fun _ _ x=>x) fun _ _ x=>x) fun _ _ x=>x
  induction f using Flow.casesOn <;> exact h₄
structure LoopI (cx:Cx) (m:Nat) (A:Around) (env:Env) (ns:Ns) (Hx:Hid) (own:Own) (ow:Nat→Hid) (s:Shared) (it:Addr) (Hz:Hid) (h₂:Heap) (len:Nat) (St:Nat→Heap→Prop) (go:Nat→PEnv→Prop) (i:Nat) (h:Heap) (ow':Nat→Hid) (ρi:PEnv):Prop where
 le:i≤len
 st:St i h
 ins:InS cx m A env ns (add Hx it) own ow' ρi h
 ext:Ext cx (WW cx env own ow) s.heap h
 sub:∀ k a,ow' k a→(∃ j,ow j a)∨¬ Live s.heap a
 hz:∀ k a,ow' k a→Hz a
 keep:∀ a o,¬ Hz a→h₂.get? a=some o→h.get? a=some o
 go:go i ρi
inductive LoopJ (cx:Cx) (m:Nat) (A:Around) (env:Env) (ns:Ns) (Hx:Hid) (own:Own) (ow:Nat→Hid) (s:Shared) (it:Addr) (Hz:Hid) (h₂:Heap) (len:Nat) (St:Nat→Heap→Prop) (go:Nat→PEnv→Prop) (k:Nat) (s':Shared):Prop
 | mk (i:Nat) (h:Heap) (tk:Nat) (ow':Nat→Hid) (ρi:PEnv) (es:s'={ s with heap:=h,toks:=tk }) (ek:k=len+1 - i) (J:LoopI cx m A env ns Hx own ow s it Hz h₂ len St go i h ow' ρi):LoopJ cx m A env ns Hx own ow s it Hz h₂ len St go k s'
theorem for_i {r:Rc} {xs:List Nat} {si:Bool} {l l':List PS} {p:PV} {ps:List PV} {ρ₀:PEnv} (he:forGo r xs si l l' (p :: ps) ρ₀=some (ρ',fl)):∃ ρ₄ ρ₅ fo,bindT xs si p ρ₀=some ρ₄∧r.ex ρ₄ l=some (ρ₅,fo)∧((fo=.next∧forGo r xs si l l' ps ρ₅=some (ρ',fl))∨(ρ'=ρ₅∧((fo=.brk∧fl=.next)∨∃ v,fo=.ret v∧fl=.ret v))):=by
 refine ob_e he fun ρ₄ hb g1=>ob_e g1 fun o hex g2=>?_
 obtain ⟨ρ₅,fo⟩:=o
 refine ⟨ρ₄,ρ₅,fo,hb,hex,?_⟩
 induction fo using Fl.casesOn with
 | next=>exact .inl ⟨rfl,g2⟩
 | brk =>
  obtain ⟨h1,h2⟩:=Prod.mk.inj (Option.some.inj g2)
  exact .inr ⟨h1.symm,.inl ⟨rfl,h2.symm⟩⟩
 | ret v =>
  obtain ⟨h1,h2⟩:=Prod.mk.inj (Option.some.inj g2)
  exact .inr ⟨h1.symm,.inr ⟨v,rfl,h2.symm⟩⟩
theorem loop_ok (S:SndX cx G n) {t itE:Expr} {a b:List Stmt} {xs:List Nat} {si:Bool} {l r:List PS} {it:Addr} {ps:List PV} {P:Nat→Value→Prop} {St:Nat→Heap→Prop} {fp:List Addr} {Hz:Hid} {h₂:Heap} {tk:Nat} {ow₀:Nat→Hid} {ρ₀:PEnv}
  (tg:CTg ns t xs si) (ca:CSs ns a l) (cb:CSs ns b r) (I:InS cx (n+60) A env ns Hx own ow ρ s.heap)
  (nl:¬ Live s.heap it) (W:Walks cx.prog cx.w A it fp [it] ps.length P St) (hfp:∀ a∈fp,a=it∨¬ Hz a) (hcls:∀ i h,St i h→∃ o nm,h.get? it=some o∧o.cls=.type nm∧nm∈(["list_iterator","list_reverseiterator","range_iterator","str_iterator","str_ascii_iterator"]:List String))
  (val:∀ h,(∀ a o,¬ Hz a→h₂.get? a=some o→h.get? a=some o)→∀ i v,P i v→∃ p,ps[i]?=some p∧Rep cx h Hz v p)
  (J:InS cx (n+60) A env ns (add Hx it) own ow₀ ρ₀ h₂) (hz1:∀ a,HA (add Hx it) env own ow₀ a→Hz a) (hz2:∀ a,¬ Live h₂ a→Hz a) (st0:St 0 h₂)
  (E₀:Ext cx (WW cx env own ow) s.heap h₂) (sub₀:∀ k a,ow₀ k a→(∃ j,ow j a)∨¬ Live s.heap a)
  (he:forGo (sem G n) xs si l r ps ρ₀=some (ρ',fl)) (h:PostS cx (n+60) A env ns Hx own ow ρ' s Q fl) :
  codeAny (model cx.prog cx.w) A (.forLoop t (.ref it) a b env) (fun r s'=>match r with | .ok f=>Q f s' | .error e=>cameBackBy (model cx.prog cx.w) A env E e s') { s with heap:=h₂,toks:=tk }:=by
 have nG:¬ cx.GA it:=fun q=>nl (cx.ga_live _ it I.cn.gi q)
 have nH:¬ Hx it:=fun q=>nl (I.cn.hid _ q)
 have bH:=I.cn.bH
 have outer:∀ n c,env.cells.lookup n=some c→¬ own c→Hx c:=fun n c e q=>(I.outer n c e q).1
 have hxz:∀ a,Hx a→Hz a:=fun a q=>hz1 a (.inl (.inl q))
 have itz:Hz it:=hz1 it (.inl (.inr rfl))
 refine for_rule (LoopJ cx (n+60) A env ns Hx own ow s it Hz h₂ ps.length St fun i ρi=>forGo (sem G n) xs si l r (ps.drop i) ρi=some (ρ',fl)) (fun {E'} k s'=>?_) (ps.length+1)
  ⟨0,h₂,tk,ow₀,ρ₀,rfl,rfl,Nat.zero_le _,st0,J,E₀,sub₀,fun k a q=>hz1 a (.inr (.inr (.inr ⟨k,fun z=>z,q⟩))),fun _ _ _ g=>g,he⟩
 rintro ⟨i,h',tk',ow',ρi,rfl,rfl,hi,hst,Ii,Ei,subi,hzi,keep,hgo⟩
 have HAz:∀ a,HA (add Hx it) env own ow' a→Hz a:=fun a q=>by
  rcases q with q|q|q|⟨k,_,q⟩
  ·exact hz1 a (.inl q)
  ·exact hz1 a (.inr (.inl q))
  ·exact hz1 a (.inr (.inr (.inl q)))
  ·exact hzi k a q
 by_cases hlt:i<ps.length
 ·refine W.item i { s with heap:=h',toks:=tk' } _ _ hlt hst fun v h₃ t₃ hP st₃ k₃=>?_
  have k₃':Heap.ExtBut it h' h₃:=fun a o q g=>k₃ a o (by simpa using q) g
  have ncI:NoCd h' it:=iter_noCd (hcls _ _ hst)
  obtain ⟨o,nm,ho,hcl⟩:=hcls _ _ st₃
  have I₃:=Ii.moved' k₃' ncI ⟨o,ho⟩ nG bH nH outer
  have keep₃:∀ a o,¬ Hz a→h₂.get? a=some o→h₃.get? a=some o:=fun a o q g=>k₃' a o (fun z=>q (z ▸ itz)) (keep a o q g)
  obtain ⟨p,hp,hr⟩:=val h₃ keep₃ i v hP
  refine ⟨fun z=>nos z.symm,fun v' ev=>?_⟩
  obtain rfl:=Option.some.inj ev
  refine letOwned_ok (s:={ s with heap:=h₃,toks:=t₃ }) tg ⟨o,nm,ho,hcl⟩ ?_
  rw [drop_step hp] at hgo
  obtain ⟨ρ₄,ρ₅,fo,hb,hex,g2⟩:=for_i hgo
  ·
   have E₃:Ext cx (WW cx env own ow) s.heap h₃:=Ext.butW Ei nG nl k₃' ncI
   refine tgt_ok (s:={ s with heap:=h₃,toks:=t₃ }) tg I₃ hb (hr.open' HAz) fun h₄ t₄ ow₄ e₄ sub₄ I₄=>?_
   have wwz:∀ ow'':Nat→Hid,(∀ k a,ow'' k a→Hz a)→∀ a,WW cx env own ow'' a→Hz a:=fun ow'' hz a w=>by
    rcases w with w|w|w|⟨j,w⟩
    ·exact hxz a (I.cn.tH a w)
    ·exact hz1 a (.inr (.inl w))
    ·exact hz1 a (.inr (.inr (.inl w)))
    ·exact hz j a w
   have hz₄:∀ k a,ow₄ k a→Hz a:=fun k a q=>hzi k a (sub₄ k a q)
   have keep₄:∀ a o,¬ Hz a→h₂.get? a=some o→h₄.get? a=some o:=fun a o q g=>e₄.keep a o (fun w=>q (wwz ow' hzi a w)) (keep₃ a o q g)
   have E₄:Ext cx (WW cx env own ow) s.heap h₄:=WW_trans E₃ subi e₄
   have subs₄:∀ k a,ow₄ k a→(∃ j,ow j a)∨¬ Live s.heap a:=fun k a q=>subi k a (sub₄ k a q)
   have itW:∀ ow'':Nat→Hid,(∀ j,¬ ow'' j it)→¬ WW cx env own ow'' it:=fun ow'' no w=>by
    rcases w with w|w|w|⟨j,w⟩
    ·exact nG (cx.bGA _ (cx.tB _ w))
    ·exact I₄.fH.1 (.inr w.symm)
    ·exact I₄.fH.2 it w (.inr rfl)
    ·exact no j w
   have stf:∀ (j:Nat) (g g':Heap) (ow'':Nat→Hid),(∀ k a,ow'' k a→Hz a)→(∀ j,¬ ow'' j it)→Ext cx (WW cx env own ow'') g g'→St j g→St j g':=fun j g g' ow'' hz no e st=>W.frame j g g' st fun b hb o q=>by
    rcases hfp b hb with rfl|nb
    ·exact e.keep _ o (itW ow'' no) q
    ·exact e.keep _ o (fun w=>nb (wwz ow'' hz b w)) q
   have no':∀ (ow'':Nat→Hid) {ρ'':PEnv} {g:Heap},InS cx (n+60) A env ns (add Hx it) own ow'' ρ'' g→∀ j,¬ ow'' j it:=fun ow'' _ _ I j q=>(I.owL j it q).2.1 (.inr rfl)
   have st₄:=stf (i+1) h₃ h₄ ow' hzi (no' ow' I₃) e₄ st₃
   rcases g2 with ⟨rfl,g2⟩|⟨rfl,⟨rfl,rfl⟩|⟨pv,rfl,rfl⟩⟩
   ·refine S.ex (s:={ s with heap:=h₄,toks:=t₄ }) ca I₄ hex fun h₅ t₅ ow₅ e₅ sub₅ I₅=>?_
    refine ⟨ps.length+1 - (i+1),Nat.sub_lt_sub_left (Nat.lt_succ_of_le hi) (Nat.lt_succ_self i),i+1,h₅,t₅,ow₅,ρ₅,rfl,rfl,hlt,stf (i+1) h₄ h₅ ow₄ hz₄ (no' ow₄ I₄) e₅ st₄,I₅,WW_trans E₄ subs₄ e₅,sub_trans E₄ I₄ subs₄ sub₅,fun k a q=>?_,fun a o q g=>e₅.keep a o (fun w=>q (wwz ow₄ hz₄ a w)) (keep₄ a o q g),g2⟩
    rcases sub₅ k a q with ⟨j,q⟩|q
    ·exact hz₄ j a q
    ·refine Classical.byContradiction fun nz=>?_
     have lv:Live h₂ a:=Classical.byContradiction fun z=>nz (hz2 a z)
     obtain ⟨o,g⟩:=lv
     exact q ⟨o,keep₄ a o nz g⟩
   ·refine S.ex (s:={ s with heap:=h₄,toks:=t₄ }) ca I₄ hex fun h₅ t₅ ow₅ e₅ sub₅ I₅=>?_
    exact h h₅ t₅ ow₅ (WW_trans E₄ subs₄ e₅) (sub_trans E₄ I₄ subs₄ sub₅) (I₅.unAdd bH outer)
   ·refine S.ex (s:={ s with heap:=h₄,toks:=t₄ }) ca I₄ hex fun h₅ t₅ v₅ e₅ c₅ r₅=>?_
    exact h h₅ t₅ v₅ (WW_trans E₄ subs₄ e₅) ⟨c₅.gi,fun a q=>c₅.hid a (.inl q),bH,I.cn.hg⟩ (r₅.open' fun a q=>.inl q)
 ·obtain rfl:i=ps.length:=Nat.le_antisymm hi (Nat.not_lt.mp hlt)
  refine W.done { s with heap:=h',toks:=tk' } _ _ hst fun h₃ t₃ k₃=>?_
  have k₃':Heap.ExtBut it h' h₃:=fun a o q g=>k₃ a o (by simpa using q) g
  have ncI:NoCd h' it:=iter_noCd (hcls _ _ hst)
  have I₃:=Ii.moved k₃' ncI nG bH nH outer
  have E₃:Ext cx (WW cx env own ow) s.heap h₃:=Ext.butW Ei nG nl k₃' ncI
  rw [List.drop_length] at hgo
  exact ⟨fun _=>S.ex (s:={ s with heap:=h₃,toks:=t₃ }) cb I₃ hgo (h.after E₃ I₃ subi),fun v z=>nos z⟩
theorem for_step (g:GOk cx G) (S:SndX cx G n) {t itE:Expr} {a b:List Stmt} {xs:List Nat} {si:Bool} {pi:PE} {occ:List Nat} {l r:List PS} {p:Pos} (hs:∀ x,foldedSetIterable itE env x=pure x) (tg:CTg ns t xs si) (ci:CI ns itE pi) (ca:CSs ns a l) (cb:CSs ns b r)
  (I:InS cx (n+60) A env ns Hx own ow ρ s.heap) (he:exS (sem G n) ρ (.for_ xs si pi occ l r)=some (ρ',fl)) (h:PostS cx (n+60) A env ns Hx own ow ρ' s Q fl):wpAny (model cx.prog cx.w) A (exec (.For t itE a b p) env) Q E s:=by
 refine ob_e he fun po hit he=>?_
 obtain ⟨ps,fo⟩:=po
 induction fo using Bool.casesOn with
 | true =>
  refine wpAny_For (iter_ok g S.toSndN ci (I.ofOcc occ) hit fun it hb h₂ tk P St fp e₁ e₂ nl lv ok st0 hlen hsc=>?_) hs
  have nl0:¬ Live s.heap it:=fun q=>nl (e₁.live it q)
  refine loop_ok (itE:=itE) S tg ca cb I nl0 ok.walks (Hz:=fun a=>HH Hx env own ow (·∈occ) a∨¬ Live hb a) (fun a ha=>(ok.fp a ha).imp id fun q=>q.1) ok.cls (fun h' hk i v hP=>ok.val h' (fun a o q g=>hk a o q (e₂.keep a o (fun t=>q (.inl (.inl (I.cn.tH a t)))) g)) i v hP)
   (((I.ext e₁).extAdd e₂ nl lv).frozen occ) (fun a q=>?_) (fun a q=>.inr fun z=>q (e₂.live a z)) st0 (WW_of_ext (e₁.trans e₂)) (fun k a q=>.inl ⟨k,q.1⟩) he h
  rcases q with (q|q)|q|q|⟨k,_,q,nk⟩
  ·exact .inl (.inl q)
  ·exact .inr (q ▸ nl)
  ·exact .inl (.inr (.inl q))
  ·exact .inl (.inr (.inr (.inl q)))
  ·exact .inl (.inr (.inr (.inr ⟨k,nk,q⟩)))
 | false =>
  refine wpAny_For (iter_ok g S.toSndN ci (I.ofOcc occ) hit fun it hb h₂ tk P St fp e₁ e₂ nl lv ok st0 hlen hsc=>?_) hs
  have nl0:¬ Live s.heap it:=fun q=>nl (e₁.live it q)
  obtain ⟨hscal,hfp⟩:=hsc rfl
  refine loop_ok (itE:=itE) S tg ca cb I nl0 ok.walks (Hz:=fun a=>HA Hx env own ow a∨¬ Live hb a) (fun a ha=>.inl (hfp a ha)) ok.cls (fun h' hk i v hP=>?_)
   ((I.ext e₁).extAdd e₂ nl lv) (fun a q=>?_) (fun a q=>.inr fun z=>q (e₂.live a z)) st0 (WW_of_ext (e₁.trans e₂)) (fun k a q=>.inl ⟨k,q⟩) he h
  ·obtain ⟨pp,h1,h2⟩:=ok.val hb (fun _ _ _ g=>g) i v hP
   exact ⟨pp,h1,h2.scalar (hscal pp (List.mem_of_getElem? h1))⟩
  ·rcases q with (q|q)|q|q|q
   ·exact .inl (.inl q)
   ·exact .inr (q ▸ nl)
   ·exact .inl (.inr (.inl q))
   ·exact .inl (.inr (.inr (.inl q)))
   ·exact .inl (.inr (.inr (.inr q)))
end
end Mine
end
section
set_option maxRecDepth 100000
open PySem PySem.Calls PyProof.Rows PySem.W
set_option genSizeOf false
set_option genInjectivity false
namespace Mine
section
variable {cx:Cx} {m:Nat} {A:Around} {env:Env} {ns:Ns} {Hx:Hid} {own:Own} {ow:Nat→Hid} {ρ:PEnv} {h h':Heap}
theorem InS.hidMoved (I:InS cx m A env ns Hx own ow ρ h) {b:Addr} (hb:Hx b) (nG:¬ cx.GA b) (nc:∀ n c,env.cells.lookup n=some c→c ≠ b) (k:Heap.ExtBut b h h') (ncd:NoCd h b) (l:Live h' b):InS cx m A env ns Hx own ow ρ h':=by
 have nl:env.locals ≠ b:=fun q=>I.fH.1 (q ▸ hb)
 have no:∀ c,own c→c ≠ b:=fun c oc q=>I.fH.2 c oc (q ▸ hb)
 have nw:∀ j a,ow j a→a ≠ b:=fun j a oa q=>(I.owL j a oa).2.1 (q ▸ hb)
 have kr:∀ a o,¬ HA Hx env own ow a→h.get? a=some o→¬ HA Hx env own ow a∧h'.get? a=some o:=fun a o n g=>⟨n,k a o (fun q=>n (.inl (q ▸ hb))) g⟩
 have gi:cx.GI h':=cx.mono h h' I.cn.gi fun a o ga g=>k a o (fun q=>ga.elim (fun ga=>nG (q ▸ ga)) (ncd o (q ▸ g))) g
 refine { I with cn:=⟨gi,fun a q=>?_,I.cn.bH,I.cn.hg⟩,nsl:=?_,cells:=fun c oc=>?_,owL:=fun j a oa=>?_,vars:=?_ }
 ·by_cases z:a=b
  ·exact z ▸ l
  ·obtain ⟨o,ho⟩:=I.cn.hid a q
   exact ⟨o,k a o z ho⟩
 ·obtain ⟨mm,o,es,ep,g,r⟩:=I.nsl
  exact ⟨mm,o,es,ep,k _ o nl g,r⟩
 ·obtain ⟨v,o,g,r⟩:=I.cells c oc
  exact ⟨v,o,k _ o (no c oc) g,r⟩
 ·obtain ⟨⟨o,h1⟩,h2⟩:=I.owL j a oa
  exact ⟨⟨o,k a o (nw j a oa) h1⟩,h2⟩
 ·intro x bb p ok g
  obtain ⟨v,hv,h1,h2⟩:=I.vars x bb p ok g
  refine ⟨v,hv.keep fun a o ha g=>k a o (fun q=>?_) g,fun q=>(h1 q).map kr,fun q=>(h2 q).map (fun a o oa=>k a o (nw _ a oa)) (fun _=>Iff.rfl) kr⟩
  rcases ha with rfl|⟨n,c,hc,rfl⟩
  ·exact nl q
  ·exact nc n a hc q
theorem lookup_relabel {x:Str} {k:NameKind} (hk:k ≠ .free):∀ {names:List (Str × NameKind)},names.lookup x=some k →
  (names.map fun (n,k)=>if (k == NameKind.free && env.scope.kind == .function && env.kindOf n == some .cell) then (n,NameKind.cell) else (n,k)).lookup x=some k
 | [],h=>by simp at h
 | (n,j) :: r,h=>by
  have ih:=@lookup_relabel x k hk r
  show List.lookup x ((if (j == NameKind.free && env.scope.kind == .function && env.kindOf n == some .cell)=true then (n,NameKind.cell) else (n,j)) :: _)=_
  cases hx:x == n with
  | true =>
   simp only [List.lookup_cons,hx] at h
   cases h
   have:(k == NameKind.free)=false:=by simpa using hk
   simp [List.lookup_cons,hx,this]
  | false =>
   simp only [List.lookup_cons,hx] at h
   by_cases hc:(j == NameKind.free && env.scope.kind == .function && env.kindOf n == some .cell)=true
   ·rw [if_pos hc];simp only [List.lookup_cons,hx];exact ih h
   ·rw [if_neg hc];simp only [List.lookup_cons,hx];exact ih h
theorem lookup_relabel_free {x:Str} (hf:env.scope.kind=.function) (hk:env.kindOf x=some .cell):∀ {names:List (Str × NameKind)},names.lookup x=some .free →
  (names.map fun (n,k)=>if (k == NameKind.free && env.scope.kind == .function && env.kindOf n == some .cell) then (n,NameKind.cell) else (n,k)).lookup x=some .cell
 | [],h=>by simp at h
 | (n,j) :: r,h=>by
  have ih:=@lookup_relabel_free x hf hk r
  show List.lookup x ((if (j == NameKind.free && env.scope.kind == .function && env.kindOf n == some .cell)=true then (n,NameKind.cell) else (n,j)) :: _)=_
  cases hx:x == n with
  | true =>
   simp only [List.lookup_cons,hx] at h
   cases h
   have:x=n:=by simpa using hx
   subst this
   simp [List.lookup_cons,hf,hk]
  | false =>
   simp only [List.lookup_cons,hx] at h
   by_cases hc:(j == NameKind.free && env.scope.kind == .function && env.kindOf n == some .cell)=true
   ·rw [if_pos hc];simp only [List.lookup_cons,hx];exact ih h
   ·rw [if_neg hc];simp only [List.lookup_cons,hx];exact ih h
noncomputable def clFrom (env:Env):List (Str × NameKind)→List (Str × Addr)→List (Str × Addr)
 | [],acc=>acc
 | (n,k) :: r,acc=>if k == .free then clFrom env r ((n,(env.cells.lookup n).getD 0) :: acc) else clFrom env r acc
theorem closure_eq {scope:Scope} (hc:∀ y∈scope.names,y.2=.free→∃ c,env.cells.lookup y.1=some c):closureFor scope env=pure (clFrom env scope.names []):=by
 unfold closureFor
 have:∀ (names:List (Str × NameKind)) (acc:List (Str × Addr)),(∀ y∈names,y.2=.free→∃ c,env.cells.lookup y.1=some c) →
   (forIn names acc (fun (x:Str × NameKind) (cs:List (Str × Addr))=>if x.2 == .free then (do let a ← cellOf env x.1;pure (ForInStep.yield ((x.1,a) :: cs))) else pure (ForInStep.yield cs)):Sem _)=pure (clFrom env names acc):=by
  intro names
  induction names with
  | nil=>intro acc _;rfl
  | cons y r ih =>
   intro acc hy
   obtain ⟨n,k⟩:=y
   rw [List.forIn_cons]
   unfold clFrom
   by_cases hk:(k == NameKind.free)=true
   ·obtain ⟨c,hc⟩:=hy (n,k) (.head _) (by simpa using hk)
    simp only [hk,if_true]
    have:cellOf env n=pure c:=by unfold cellOf;rw [hc]
    rw [this]
    simp only [pure_bind]
    rw [hc]
    exact ih _ fun z hz=>hy z (.tail _ hz)
   ·have hk':(k == NameKind.free)=false:=by simpa using hk
    simp only [hk',Bool.false_eq_true,if_false,pure_bind]
    exact ih _ fun z hz=>hy z (.tail _ hz)
 have h2:=this scope.names [] hc
 exact (bind_pure _).trans h2
theorem clFrom_spec:∀ {names:List (Str × NameKind)} {acc:List (Str × Addr)},(∀ y∈names,y.2=.free→∃ c,env.cells.lookup y.1=some c)→(∀ n c,acc.lookup n=some c→env.cells.lookup n=some c) →
  (∀ n c,(clFrom env names acc).lookup n=some c→env.cells.lookup n=some c)∧(∀ n,((∃ c,acc.lookup n=some c)∨(n,NameKind.free)∈names)→∃ c,(clFrom env names acc).lookup n=some c)
 | [],acc,_,ha=>⟨ha,fun n hn=>hn.elim id fun q=>nomatch q⟩
 | (y,k) :: r,acc,hy,ha=>by
  unfold clFrom
  by_cases hk:(k == NameKind.free)=true
  ·rw [if_pos hk]
   obtain ⟨c,hc⟩:=hy (y,k) (.head _) (by simpa using hk)
   obtain ⟨h1,h2⟩:=clFrom_spec (names:=r) (acc:=(y,(env.cells.lookup y).getD 0) :: acc) (fun z hz=>hy z (.tail _ hz)) (fun n d hd=>by
    rw [List.lookup_cons] at hd
    cases hb:n == y with
    | true =>
     rw [hb] at hd
     have:n=y:=by simpa using hb
     subst this
     rw [hc] at hd ⊢
     exact hd
    | false=>rw [hb] at hd;exact ha n d hd)
   refine ⟨h1,fun n hn=>h2 n ?_⟩
   rcases hn with ⟨d,hd⟩|hn
   ·left
    rw [List.lookup_cons]
    cases n == y with
    | true=>exact ⟨_,rfl⟩
    | false=>exact ⟨d,hd⟩
   ·rcases List.mem_cons.mp hn with e|hn
    ·left
     injection e with e1 e2
     subst e1
     exact ⟨_,by rw [List.lookup_cons,beq_self_eq_true]⟩
    ·exact .inr hn
  ·rw [if_neg hk]
   obtain ⟨h1,h2⟩:=clFrom_spec (names:=r) (acc:=acc) (fun z hz=>hy z (.tail _ hz)) ha
   refine ⟨h1,fun n hn=>h2 n ?_⟩
   rcases hn with hn|hn
   ·exact .inl hn
   ·rcases List.mem_cons.mp hn with e|hn
    ·injection e with e1 e2
     subst e2
     exact (hk rfl).elim
    ·exact .inr hn
end
section
variable {prog:Program} {w:World} {A:Around} {E:Value→Shared→Prop} {R:Result→Shared→Prop} {s:Shared}
noncomputable def tests (ifs:List Expr) (env:Env):Sem Bool:=forIn ifs true fun c r=>if r=true then do let ok ← isTrue c env (eval c env);pure (ForInStep.yield ok) else pure (ForInStep.yield r)
theorem comp_rule {elt target iter:Expr} {ifs:List Expr} {scope:Scope} {pos:Pos} {it acc:Value} {env:Env} (J:Nat→Shared→Prop)
  (turn:∀ {E':Value→Shared→Prop} n s,J n s→wpAny (model prog w) A (pyNext it) (fun r s₁=>(r=none→R (.ok .next) s₁)∧∀ v,r=some v→wpAny (model prog w) A (letOwnedTupleGo target it v) (fun _ s₀=>wpAny (model prog w) A (assign target env v) (fun _ s₂ =>
   wpAny (model prog w) A (tests ifs env) (fun ok s₃=>(ok=true→wpAny (model prog w) A (eval elt env) (fun x s₄=>wpAny (model prog w) A (call (.builtin "list.append") [acc,x]) (fun _ s₅=>∃ m,m<n∧J m s₅) E' s₄) E' s₃)∧(ok=false→∃ m,m<n∧J m s₃)) E' s₂) E' s₀) E' s₁) E' s)
  (n:Nat) (h:J n s):codeAny (model prog w) A (.compLoop (.ListComp elt [⟨target,iter,ifs,0⟩] scope pos) 0 it acc env) R s:=by
 refine codeAny_loop rfl J (fun n s hI=>?_) n h
 show wpAny _ A ((compTurn (.ListComp elt [⟨target,iter,ifs,0⟩] scope pos) 0 it acc env).onRaise (fun x=>do noteFrame x env;theTreesLotGoes x)) _ _ s
 refine wpAny_noted ?_
 rw [compTurn_list]
 refine wpAny_bind (wpAny_standAt (wpAny_bind (wpAny_mono (turn n s hI) (fun r s₁ h₁=>?_) fun _ _ h'=>h')))
 induction r using Option.casesOn with
 | none=>exact wpAny_pure (h₁.1 rfl)
 | some v =>
  refine wpAny_bind (wpAny_mono (h₁.2 v rfl) (fun _ s₀ h₀'=>wpAny_bind (wpAny_mono h₀' (fun _ s₂ h₂=>wpAny_bind (wpAny_mono h₂ (fun ok s₃ h₃=>?_) fun _ _ h'=>h')) fun _ _ h'=>h')) fun _ _ h'=>h')
  induction ok using Bool.casesOn with
  | false=>exact wpAny_pure ⟨rfl,h₃.2 rfl⟩
  | true=>exact wpAny_bind (wpAny_bind (wpAny_mono (h₃.1 rfl) (fun x s₄ h₄=>wpAny_bind (wpAny_mono h₄ (fun _ s₅ h₅=>wpAny_pure (wpAny_pure ⟨rfl,h₅⟩)) fun _ _ h'=>h')) fun _ _ h'=>h'))
end
end Mine
end
section
set_option maxRecDepth 100000
open PySem PySem.Calls PyProof.Rows PySem.W
set_option genSizeOf false
set_option genInjectivity false
namespace Mine
theorem mem_lookup_free {names:List (Str × NameKind)} {y:Str} {k:NameKind} (h:names.lookup y=some k):(y,k)∈names:=by
 induction names with
 | nil=>simp at h
 | cons z r ih =>
  obtain ⟨n,j⟩:=z
  rw [List.lookup_cons] at h
  cases hb:y == n with
  | true =>
   rw [hb] at h
   cases h
   have:y=n:=by simpa using hb
   subst this
   exact .head _
  | false=>rw [hb] at h;exact .tail _ (ih h)
theorem cap_i {l:List Nat} {ρ:PEnv} {x:Nat} {b:Bool} {q:PV} (h:PEnv.get (PEnv.cap l ρ) x=some (b,q)):x∈l∧b=false∧∃ b',PEnv.get ρ x=some (b',q):=by
 unfold PEnv.cap at h
 rw [get_freeze,Option.map_eq_some_iff] at h
 obtain ⟨⟨b',q'⟩,g1,g2⟩:=h
 rw [get_only] at g1
 by_cases hin:x∈l
 ·rw [if_pos hin] at g1 g2
  obtain ⟨h1,h2⟩:=Prod.mk.inj g2
  exact ⟨hin,h1.symm,b',h2 ▸ g1⟩
 ·rw [if_neg hin] at g1
  exact nos g1
section
variable {cx:Cx} {G:Gl} {n:Nat} {A:Around} {env:Env} {ns:Ns} {ρ:PEnv} {H:Hid} {s:Shared} {E:Value→Shared→Prop} {Q:Value→Shared→Prop}
theorem tests_false {env:Env}:∀ (es:List Expr),(forIn es false (fun c r=>if r=true then do let ok ← isTrue c env (eval c env);pure (ForInStep.yield ok) else pure (ForInStep.yield r)):Sem Bool)=pure false
 | []=>rfl
 | e :: es=>by
  rw [List.forIn_cons,if_neg Bool.false_ne_true,pure_bind]
  exact tests_false es
theorem tests_ok (S:SndN cx G n) {env:Env} {ns:Ns} {ρ:PEnv} {H:Hid}:∀ {es:List Expr} {l:List PE} {s:Shared} {b:Bool} {Q:Bool→Shared→Prop},CTs ns es l→InE cx (n+60) A env ns ρ H s→allT (sem G n) ρ l=some b→(∀ h' tk',Ext cx cx.T s.heap h'→Q b { s with heap:=h',toks:=tk' }) →
  wpAny (model cx.prog cx.w) A (tests es env) Q E s
 | [],_,s,b,Q,hc,I,e,h=>by
  obtain rfl:=hc.nil'
  exact wpAny_pure (Option.some.inj e ▸ h s.heap s.toks .refl)
 | x :: es,_,s,b,Q,hc,I,e,h=>by
  obtain ⟨a,m,rfl,hx,hr⟩:=hc.cons'
  unfold tests
  rw [List.forIn_cons,if_pos rfl]
  rcases oif_i e with ⟨ht,k⟩|⟨ht,k⟩
  ·exact wpAny_bind (wpAny_bind (S.ts hx I ht fun h₁ t₁ e₁=>wpAny_pure (tests_ok S hr (I.ext e₁) k fun h₂ t₂ e₂=>h h₂ t₂ (e₁.trans e₂))))
  ·obtain rfl:=Option.some.inj k
   exact wpAny_bind (wpAny_bind (S.ts hx I ht fun h₁ t₁ e₁=>wpAny_pure (wpAny_of_eq (tests_false es) (h h₁ t₁ e₁))))
theorem comp_frame {scope:Scope} {caps:List Nat} {C D it:Addr} {h₄:Heap} {clos:List (Str × Addr)} {mm:Str→Option Value} (ok:CompOk ns scope caps) (I:InE cx (n+60) A env ns ρ H s)
  (hclk:∀ n c,clos.lookup n=some c→env.cells.lookup n=some c) (cl2:∀ n,(n,NameKind.free)∈scope.names→∃ c,clos.lookup n=some c) (nlC:¬ Live s.heap C) (nlD:¬ Live s.heap D) (nlit:¬ Live s.heap it) (DC:D ≠ C) (itC:it ≠ C)
  (es4:Ext cx cx.T s.heap h₄) (lD:Live h₄ D) (lit:Live h₄ it) (hns:h₄.Ns C mm):InS cx (n+60) A (compEnvC scope clos C env) scope.names (add (add H D) it) ⟨fun _=>False,0⟩ (fun _ _=>False) (PEnv.cap caps ρ) h₄:=by
 have gis:=I.cn.gi
 have nG:∀ {a},¬ Live s.heap a→¬ cx.GA a:=fun nl q=>nl (cx.ga_live _ _ gis q)
 have cn4:Cn cx h₄ (add (add H D) it):=⟨es4.gi gis,fun a q=>by
   rcases q with (q|q)|q
   ·exact es4.live a (I.cn.hid a q)
   ·exact q ▸ lD
   ·exact q ▸ lit,fun a b=>.inl (.inl (I.cn.bH a b)),fun a q ga=>by
   rcases q with (q|q)|q
   ·exact I.cn.hg a q ga
   ·exact (nG nlD (q ▸ ga)).elim
   ·exact (nG nlit (q ▸ ga)).elim⟩
 refine ⟨I.room,ok.kind,fun f hf=>lookup_relabel (by decide) hf,fun y hy=>lookup_relabel (by decide) hy,fun y hy=>(ok.cell _ (mem_lookup_free hy) rfl).elim,fun y hy=>?_,I.glob,I.blt,cn4,⟨_,hns⟩,fun c q=>q.elim,fun n n' c _ q=>q.elim,
  ⟨fun q=>?_,fun c q=>q.elim⟩,⟨nG nlC,fun c q=>q.elim⟩,fun q=>q,fun n c e _=>⟨.inl (.inl (I.cH n c (hclk n c e))),I.nT.2 n c (hclk n c e)⟩,fun k a q=>q.elim,fun k a q=>q.elim,fun j k a q=>q.elim,fun x b q okx gq=>?_⟩
 ·obtain ⟨h1,c,h2⟩:=I.cel y (ok.free _ (mem_lookup_free hy) rfl)
  exact ⟨lookup_relabel_free I.kind h1 hy,cl2 y (mem_lookup_free hy)⟩
 ·rcases q with (q|q)|q
  ·exact nlC (I.cn.hid _ q)
  ·exact DC q.symm
  ·exact itC q.symm
 ·obtain ⟨hin,hb,b',g1⟩:=cap_i gq
  obtain ⟨fr,hfr,hall⟩:=ok.caps
  rw [hfr] at hin
  obtain ⟨y,hy,hxy⟩:=List.mem_map.mp hin
  obtain ⟨oky,hyf⟩:=hall y hy
  obtain rfl:=enc_inj oky okx hxy
  obtain ⟨v,hv,hr⟩:=I.vars y b' q okx g1
  obtain ⟨hk,c,hc⟩:=I.cel y (ok.free _ (mem_lookup_free hyf) rfl)
  have hcell:s.heap.IsCell c (some v):=by
   rcases hv with ⟨k,_⟩|⟨_,c',hc',h⟩
   ·exact (NameKind.noConfusion (Option.some.inj (hk.symm.trans k)))
   ·exact Option.some.inj (hc'.symm.trans hc) ▸ h
  obtain ⟨c2,hc2⟩:=cl2 y (mem_lookup_free hyf)
  obtain rfl:=Option.some.inj ((hclk _ _ hc2).symm.trans hc)
  refine ⟨v,.inr ⟨.inl (lookup_relabel_free I.kind hk hyf),c2,hc2,?_⟩,fun _=>?_,fun z=>(Bool.false_ne_true (hb.symm.trans z)).elim⟩
  ·obtain ⟨o,ho,hd⟩:=hcell
   exact ⟨o,es4.keep c2 o (I.nT.2 y c2 hc) ho,hd⟩
  ·refine hr.map fun a o na gg=>⟨fun q=>?_,es4.keep a o (fun t=>na (I.cn.tH a t)) gg⟩
   rcases q with ((q|q)|q)|q|q|⟨_,_,q⟩
   ·exact na q
   ·exact nlD ⟨o,q ▸ gg⟩
   ·exact nlit ⟨o,q ▸ gg⟩
   ·exact nlC ⟨o,(show a=C from q) ▸ gg⟩
   ·exact q
   ·exact q
structure CompI (cx:Cx) (m:Nat) (A:Around) (cenv:Env) (ns:Ns) (Hi:Hid) (s:Shared) (C D:Addr) (Hz:Hid) (hb:Heap) (len:Nat) (qs:List PV) (St:Nat→Heap→Prop) (go:Nat→PEnv→List PV→Prop) (i:Nat) (h:Heap) (ow':Nat→Hid) (ρi:PEnv) (vs:List Value) (q1 q2:List PV):Prop where
 le:i≤len
 st:St i h
 no:∀ k a,¬ ow' k a
 ins:InS cx m A cenv ns Hi ⟨fun _=>False,0⟩ ow' ρi h
 ext:Ext cx cx.T s.heap h
 keep:∀ a o,¬ Hz a→hb.get? a=some o→h.get? a=some o
 ls:IsLs h D vs
 rep:RepAll cx h (fun a=>Hi a∨a=C) vs q1
 go:go i ρi q2
 all:q1++q2=qs
inductive CompJ (cx:Cx) (m:Nat) (A:Around) (cenv:Env) (ns:Ns) (Hi:Hid) (s:Shared) (C D:Addr) (Hz:Hid) (hb:Heap) (len:Nat) (qs:List PV) (St:Nat→Heap→Prop) (go:Nat→PEnv→List PV→Prop) (k:Nat) (s':Shared):Prop
 | mk (i:Nat) (h:Heap) (tk:Nat) (ow':Nat→Hid) (ρi:PEnv) (vs:List Value) (q1 q2:List PV) (es:s'={ s with heap:=h,toks:=tk }) (ek:k=len+1 - i) (J:CompI cx m A cenv ns Hi s C D Hz hb len qs St go i h ow' ρi vs q1 q2):CompJ cx m A cenv ns Hi s C D Hz hb len qs St go k s'
structure CompB (cx:Cx) (H:Hid) (s:Shared) (cenv:Env) (C D it:Addr) (hb:Heap):Prop where
 gi:cx.GI s.heap
 tH:∀ a,cx.T a→H a
 nC:¬ Live s.heap C
 nD:¬ Live s.heap D
 nI:¬ Live s.heap it
 Cb:¬ Live hb C
 Db:¬ Live hb D
 itb:¬ Live hb it
 DC:D ≠ C
 itC:it ≠ C
 itD:it ≠ D
 cl:∀ n c,cenv.cells.lookup n=some c→H c
 hid:∀ a,H a→Live s.heap a
 loc:cenv.locals=C
theorem comp_i {r:Rc} {pe:PE} {xs:List Nat} {si:Bool} {l:List PE} {p:PV} {ps qs:List PV} (h:compGo r pe xs si l (p :: ps) ρ=some qs):∃ ρ',bindT xs si p ρ=some ρ'∧((allT r ρ' l=some true∧∃ v vs,r.ev ρ' pe=some v∧compGo r pe xs si l ps ρ'=some vs∧qs=v :: vs)∨(allT r ρ' l=some false∧compGo r pe xs si l ps ρ'=some qs)):=by
 refine ob_e h fun ρ' hb k=>⟨ρ',hb,?_⟩
 rcases oif_i k with ⟨ht,k⟩|⟨ht,k⟩
 ·exact ob_e k fun v hv k=>ob_e k fun vs hvs k=>.inl ⟨ht,v,vs,hv,hvs,(Option.some.inj k).symm⟩
 ·exact .inr ⟨ht,k⟩
theorem comp_loop (S:SndN cx G n) {elt target iter:Expr} {ifs:List Expr} {scope:Scope} {p:Pos} {pe:PE} {pifs:List PE} {xs:List Nat} {si:Bool} {ps qs:List PV} {ρ₀:PEnv} {cenv:Env} {C D it:Addr} {hb h₄:Heap} {tk:Nat} {P:Nat→Value→Prop} {St:Nat→Heap→Prop} {fp:List Addr} {R:Result→Shared→Prop}
  (tg:CTg scope.names target xs si) (cifs:CTs scope.names ifs pifs) (ce:CE scope.names elt pe) (B:CompB cx H s cenv C D it hb) (okI:ItOk cx A it hb (fun a=>H a∨¬ Live hb a) ps P St fp)
  (J4:InS cx (n+60) A cenv scope.names (add (add H D) it) ⟨fun _=>False,0⟩ (fun _ _=>False) ρ₀ h₄) (es4:Ext cx cx.T s.heap h₄) (keep4:∀ a o,¬ (H a∨¬ Live hb a)→hb.get? a=some o→h₄.get? a=some o) (st4:St 0 h₄) (lD4:IsLs h₄ D [])
  (hgo:compGo (sem G n) pe xs si pifs ps ρ₀=some qs) (hlen:qs.length≤1000000)
  (fin:∀ h₁ tk vs,Ext cx cx.T s.heap h₁→(∃ m,h₁.Ns C m)→IsLs h₁ D vs→RepAll cx h₁ (fun a=>H a∨a=C∨a=D) vs qs→R (.ok .next) { s with heap:=h₁,toks:=tk }) :
  codeAny (model cx.prog cx.w) A (.compLoop (.ListComp elt [⟨target,iter,ifs,0⟩] scope p) 0 (.ref it) (.ref D) cenv) R { s with heap:=h₄,toks:=tk }:=by
 have nG:∀ {a},¬ Live s.heap a→¬ cx.GA a:=fun nl q=>nl (cx.ga_live _ _ B.gi q)
 have nT:∀ {a},¬ Live s.heap a→¬ cx.T a:=fun nl t=>nG nl (cx.bGA _ (cx.tB _ t))
 have ncl:∀ {b},¬ Live s.heap b→∀ n c,cenv.cells.lookup n=some c→c ≠ b:=fun nl n c e q=>nl (q ▸ B.hid _ (B.cl n c e))
 have zT:∀ {a},¬ (H a∨¬ Live hb a)→¬ cx.T a:=fun q t=>q (.inl (B.tH _ t))
 have zC:∀ {a},¬ (H a∨¬ Live hb a)→a ≠ C:=fun q z=>q (.inr (z ▸ B.Cb))
 have zI:∀ {a},¬ (H a∨¬ Live hb a)→a ≠ it:=fun q z=>q (.inr (z ▸ B.itb))
 have zD:∀ {a},¬ (H a∨¬ Live hb a)→a ≠ D:=fun q z=>q (.inr (z ▸ B.Db))
 have iT:∀ {a},¬ (add (add H D) it a∨a=C)→¬ cx.T a:=fun q t=>q (.inl (.inl (.inl (B.tH _ t))))
 have stf:∀ {j:Nat} {g g':Heap},(∀ a o,¬ cx.T a→a ≠ C→g.get? a=some o→g'.get? a=some o)→St j g→St j g':=fun k st=>okI.walks.frame _ _ _ st fun b hb' o gg=>by
  rcases okI.fp b hb' with rfl|⟨q,_⟩
  ·exact k _ o (nT B.nI) B.itC gg
  ·exact k b o (zT q) (zC q) gg
 refine comp_rule (CompJ cx (n+60) A cenv scope.names (add (add H D) it) s C D (fun a=>H a∨¬ Live hb a) hb ps.length qs St fun i ρi q2=>compGo (sem G n) pe xs si pifs (ps.drop i) ρi=some q2) (fun {E'} k s'=>?_) (ps.length+1)
  ⟨0,h₄,tk,_,_,[],[],qs,rfl,rfl,Nat.zero_le _,st4,fun k a q=>q,J4,es4,keep4,lD4,.nil,hgo,rfl⟩
 rintro ⟨i,h',tk',ow',ρi,vs,q1,q2,rfl,rfl,hi,hst,no,Ii,Ei,keep,lD,hr1,hgo2,hq⟩
 have notw:∀ a,WW cx cenv ⟨fun _=>False,0⟩ ow' a→cx.T a∨a=C:=fun a w=>by
  rcases w with w|w|w|⟨j,w⟩
  ·exact .inl w
  ·exact .inr (w.trans B.loc)
  ·exact w.elim
  ·exact (no j a w).elim
 by_cases hlt:i<ps.length
 ·refine okI.walks.item i { s with heap:=h',toks:=tk' } _ _ hlt hst fun v h₅ t₅ hP st₅ k₅=>⟨fun z=>nos z.symm,fun v' ev=>?_⟩
  obtain rfl:=Option.some.inj ev
  have k₅':Heap.ExtBut it h' h₅:=fun a o q g=>k₅ a o (fun z=>q (List.mem_singleton.mp z)) g
  obtain ⟨o,nm,ho,hcl⟩:=okI.cls _ _ st₅
  have nci:NoCd h' it:=iter_noCd (okI.cls _ _ hst)
  have I₅:=Ii.hidMoved (b:=it) (.inr rfl) (nG B.nI) (ncl B.nI) k₅' nci ⟨o,ho⟩
  have E₅:Ext cx cx.T s.heap h₅:=Ei.but B.gi B.nI k₅' nci
  have keep₅:∀ a o,¬ (H a∨¬ Live hb a)→hb.get? a=some o→h₅.get? a=some o:=fun a o q g=>k₅' a o (zI q) (keep a o q g)
  obtain ⟨pp,hp,hrv⟩:=okI.val h₅ keep₅ i v hP
  refine letOwned_ok (s:={ s with heap:=h₅,toks:=t₅ }) tg ⟨o,nm,ho,hcl⟩ ?_
  rw [drop_step hp] at hgo2
  obtain ⟨ρ₆,hbd,g1⟩:=comp_i hgo2
  refine tgt_ok (s:={ s with heap:=h₅,toks:=t₅ }) tg I₅ hbd (hrv.open' fun a q=>?_) fun h₆ t₆ ow₆ e₆ sub₆ I₆=>?_
  ·rcases q with ((q|q)|q)|q|q|⟨k,_,q⟩
   ·exact .inl q
   ·exact .inr (q ▸ B.Db)
   ·exact .inr (q ▸ B.itb)
   ·exact .inr ((show a=C from q.trans B.loc) ▸ B.Cb)
   ·exact q.elim
   ·exact (no k a q).elim
  have no₆:∀ k a,¬ ow₆ k a:=fun k a q=>no k a (sub₆ k a q)
  have keep6:∀ a o,¬ cx.T a→a ≠ C→h₅.get? a=some o→h₆.get? a=some o:=fun a o t c g=>e₆.keep a o (fun w=>(notw a w).elim t c) g
  have E₆:Ext cx cx.T s.heap h₆:=⟨fun a o t g=>keep6 a o t (fun z=>B.nC (z ▸ ⟨o,g⟩)) (E₅.keep a o t g),fun a _ l=>by
    by_cases t:cx.T a
    ·exact e₆.alive a (.inr t) (E₅.live a l)
    ·exact e₆.alive a (.inl fun w=>(notw a w).elim t fun z=>B.nC (z ▸ l)) (E₅.live a l),fun gg=>e₆.gi (E₅.gi gg)⟩
  have lD₆:IsLs h₆ D vs:=lD.map fun o g=>keep6 D o (nT B.nD) B.DC (k₅' D o B.itD.symm g)
  have hr₆:RepAll cx h₆ (fun a=>add (add H D) it a∨a=C) vs q1:=hr1.map fun a o q g=>⟨q,keep6 a o (iT q) (fun z=>q (.inr z)) (k₅' a o (fun z=>q (.inl (.inr z))) g)⟩
  have keep₆:∀ a o,¬ (H a∨¬ Live hb a)→hb.get? a=some o→h₆.get? a=some o:=fun a o q g=>keep6 a o (zT q) (zC q) (keep₅ a o q g)
  have st₆:St (i+1) h₆:=stf keep6 st₅
  have stT:∀ {j:Nat} {g g':Heap},Ext cx cx.T g g'→St j g→St j g':=fun e st=>stf (fun a o t _ g=>e.keep a o t g) st
  rcases g1 with ⟨hall,qv,qr,hqv,hqr,rfl⟩|⟨hall,g2⟩
  ·refine tests_ok S (s:={ s with heap:=h₆,toks:=t₆ }) cifs I₆.ofAll hall fun h₇ t₇ e₇=>⟨fun _=>?_,fun z=>(Bool.false_ne_true z.symm).elim⟩
   have I₇:=I₆.ext e₇
   refine S.ev (s:={ s with heap:=h₇,toks:=t₇ }) ce I₇.ofAll hqv fun vv h₈ t₈ e₈ r₈ _=>?_
   have e68:=e₇.trans e₈
   have I₈:=I₇.ext e₈
   have lD₈:IsLs h₈ D vs:=lD₆.map fun o g=>e68.keep D o (nT B.nD) g
   have hlv:vs.length≤1000000:=by
    rw [hr1.length]
    refine Nat.le_trans ?_ hlen
    rw [← hq,List.length_append]
    exact Nat.le_add_right _ _
   refine append_ok (s:={ s with heap:=h₈,toks:=t₈ }) lD₈ hlv fun h₉ k₉ l₉=>?_
   refine ⟨ps.length+1 - (i+1),Nat.sub_lt_sub_left (Nat.lt_succ_of_le hi) (Nat.lt_succ_self i),i+1,h₉,t₈,ow₆,ρ₆,vs++[vv],q1++[qv],qr,rfl,rfl,hlt,?_,no₆,I₈.hidMoved (b:=D) (.inl (.inr rfl)) (nG B.nD) (ncl B.nD) k₉.extBut lD₈.noCd l₉.live,(E₆.trans e68).but B.gi B.nD k₉.extBut lD₈.noCd,?_,l₉,?_,hqr,?_⟩
   ·refine okI.walks.frame _ h₈ h₉ (stT e68 st₆) fun b hb' o gg=>k₉.extBut b o (fun z=>?_) gg
    rcases okI.fp b hb' with rfl|⟨q,lb⟩
    ·exact B.itD z
    ·exact B.Db (z ▸ lb)
   ·exact fun a o q gg=>k₉.extBut a o (zD q) (e68.keep a o (zT q) (keep₆ a o q gg))
   ·have:RepAll cx h₈ (fun a=>add (add H D) it a∨a=C) (vs++[vv]) (q1++[qv]):=(hr₆.ext e68 fun a t=>.inl (.inl (.inl (B.tH a t)))).append (.cons (r₈.open' fun a q=>q.elim .inl fun z=>.inr (.inl (z.trans B.loc.symm))) .nil)
    exact this.map fun a o q g=>⟨q,k₉.extBut a o (fun z=>q (.inl (.inl (.inr z)))) g⟩
   ·rw [List.append_assoc];exact hq
  ·refine tests_ok S (s:={ s with heap:=h₆,toks:=t₆ }) cifs I₆.ofAll hall fun h₇ t₇ e₇=>⟨fun z=>(Bool.false_ne_true z).elim,fun _=>?_⟩
   exact ⟨ps.length+1 - (i+1),Nat.sub_lt_sub_left (Nat.lt_succ_of_le hi) (Nat.lt_succ_self i),i+1,h₇,t₇,ow₆,ρ₆,vs,q1,q2,rfl,rfl,hlt,stT e₇ st₆,no₆,I₆.ext e₇,E₆.trans e₇,fun a o q gg=>e₇.keep a o (zT q) (keep₆ a o q gg),
    lD₆.map fun o g=>e₇.keep D o (nT B.nD) g,hr₆.ext e₇ fun a t=>.inl (.inl (.inl (B.tH a t))),g2,hq⟩
 ·obtain rfl:i=ps.length:=Nat.le_antisymm hi (Nat.not_lt.mp hlt)
  refine okI.walks.done { s with heap:=h',toks:=tk' } _ _ hst fun h₅ t₅ k₅=>⟨fun _=>?_,fun v z=>nos z⟩
  have k₅':Heap.ExtBut it h' h₅:=fun a o q g=>k₅ a o (fun z=>q (List.mem_singleton.mp z)) g
  rw [List.drop_length] at hgo2
  obtain rfl:=Option.some.inj hgo2
  rw [List.append_nil] at hq
  obtain rfl:=hq
  obtain ⟨mm,oo,es,ep,go,rr⟩:=Ii.nsl
  rw [B.loc] at go
  refine fin h₅ t₅ vs (Ei.but B.gi B.nI k₅' (iter_noCd (okI.cls _ _ hst))) ⟨mm,oo,es,ep,k₅' _ oo B.itC.symm go,rr⟩ (lD.map fun o g=>k₅' D o B.itD.symm g) ?_
  exact hr1.map fun a o q g=>⟨fun z=>q (by
   rcases z with z|z|z
   ·exact .inl (.inl (.inl z))
   ·exact .inr z
   ·exact .inl (.inl (.inr z))),k₅' a o (fun z=>q (.inl (.inr z))) g⟩
theorem comp_core (g:GOk cx G) (S:SndN cx G n) {elt target iter:Expr} {ifs:List Expr} {scope:Scope} {p pos:Pos} {pe pi:PE} {pifs:List PE} {xs:List Nat} {si:Bool} {caps:List Nat} {ps qs:List PV} {fl:Bool} {use:Option (Value→Sem Unit)}
  (hs:∀ x,foldedSetIterable iter env x=pure x) (ok:CompOk ns scope caps) (tg:CTg scope.names target xs si) (ci:CI ns iter pi) (cifs:CTs scope.names ifs pifs) (ce:CE scope.names elt pe) (I:InE cx (n+60) A env ns ρ H s)
  (hit:iterV (sem G n) ρ pi=some (ps,fl)) (hgo:compGo (sem G n) pe xs si pifs ps (PEnv.cap caps ρ)=some qs) (hlen:qs.length≤1000000)
  (fin:∀ C D h₁ tk vs,¬ Live s.heap C→¬ Live s.heap D→D ≠ C→Ext cx cx.T s.heap h₁→(∃ m,h₁.Ns C m)→IsLs h₁ D vs→RepAll cx h₁ (fun a=>H a∨a=C∨a=D) vs qs→compPost (model cx.prog cx.w) A E use Q (.ref D) C (.ok .next) { s with heap:=h₁,toks:=tk }) :
  wpAny (model cx.prog cx.w) A (comprehension (.ListComp elt [⟨target,iter,ifs,0⟩] scope p) scope env pos (newList []) false (eval iter env) use) Q E s:=by
 have hfree:∀ y∈scope.names,y.2=.free→∃ c,env.cells.lookup y.1=some c:=fun y hy hf=>(I.cel y.1 (ok.free y hy hf)).2
 obtain ⟨cl1,cl2⟩:=clFrom_spec (env:=env) (names:=scope.names) (acc:=[]) hfree (fun n c h=>nos h)
 refine wpAny_comprehension_free (g:=⟨target,iter,ifs,0⟩) (gs:=[]) rfl hs (closure_eq hfree) ok.kind ok.names ?_
 refine iter_ok g S ci I hit fun it hb h₂ tk P St fp e₁ e₂ nl lv okI st0 hpl _=>?_
 refine wpAny_newObj_type (wpAny_newFunctionEnv ok.cell (by intro y hy;simp at hy) (fun h₄ hns₄ hsb₄=>?_) ok.kind)
 dsimp only at hns₄ hsb₄ ⊢
 generalize hH3:h₂.push { cls:=.type "list",dict:=none,data:=.seq ([]:List Value).toArray }=H3 at hns₄ hsb₄ ⊢
 have size3:H3.objs.size=h₂.objs.size+1:=by rw [← hH3,Heap.size_push]
 obtain ⟨D,hD⟩:∃ D,D=h₂.objs.size:=⟨_,rfl⟩
 obtain ⟨C,hC⟩:∃ C,C=H3.objs.size:=⟨_,rfl⟩
 rw [← hC] at hns₄ hsb₄
 rw [← hD,← hC]
 have eb2:Ext cx cx.T s.heap h₂:=e₁.trans e₂
 have nlD2:¬ Live h₂ D:=hD ▸ not_live_size
 have nlC3:¬ Live H3 C:=hC ▸ not_live_size
 have e23:Ext cx cx.T h₂ H3:=hH3 ▸ Ext.push _
 have lD3:IsLs H3 D []:=⟨0,by rw [← hH3,hD];exact Heap.get?_push_size _ rfl⟩
 have e34:Ext cx cx.T H3 h₄:=Ext.refl.but (e23.gi (eb2.gi I.cn.gi)) nlC3 (fun a o q g=>hsb₄.extBut a o q (Heap.get?_push_of_some _ g)) (.of nlC3)
 have e24:Ext cx cx.T h₂ h₄:=e23.trans e34
 have lD4:IsLs h₄ D []:=lD3.map fun o g=>e34.keep D o (fun t=>nlD2 (cx.ga_live _ D (eb2.gi I.cn.gi) (cx.bGA _ (cx.tB _ t)))) g
 have B:CompB cx H s (compEnvC scope (clFrom env scope.names []) C env) C D it hb:=⟨I.cn.gi,I.cn.tH,fun q=>nlC3 (e23.live C (eb2.live C q)),fun q=>nlD2 (eb2.live D q),fun q=>nl (e₁.live it q),fun q=>nlC3 (e23.live C (e₂.live C q)),fun q=>nlD2 (e₂.live D q),nl,
  by rw [hD,hC,size3];exact Nat.ne_of_lt (Nat.lt_succ_self _),fun q=>nlC3 (e23.live C (q ▸ lv)),fun q=>nlD2 (q ▸ lv),fun n c e=>I.cH n c (cl1 n c e),I.cn.hid,rfl⟩
 have es4:Ext cx cx.T s.heap h₄:=eb2.trans e24
 have J4:=comp_frame ok I cl1 (fun n h=>cl2 n (.inr h)) B.nC B.nD B.nI B.DC B.itC es4 lD4.live (e24.live it lv) hns₄
 have nT:∀ {a},¬ (H a∨¬ Live hb a)→¬ cx.T a:=fun q t=>q (.inl (I.cn.tH _ t))
 have st4:St 0 h₄:=okI.walks.frame 0 h₂ h₄ st0 fun b hb' o gg=>e24.keep b o (fun t=>by
  rcases okI.fp b hb' with rfl|⟨q,_⟩
  ·exact B.nI (cx.ga_live _ _ I.cn.gi (cx.bGA _ (cx.tB _ t)))
  ·exact nT q t) gg
 have loop:=comp_loop (iter:=iter) (p:=p) (R:=compPost (model cx.prog cx.w) A E use Q (.ref D) C) (tk:=tk) S tg cifs ce B okI J4 es4 (fun a o q gg=>e24.keep a o (nT q) (e₂.keep a o (nT q) gg)) st4 lD4 hgo hlen fun h₁ tk vs e hns l r=>fin C D h₁ tk vs B.nC B.nD B.DC e hns l r
 exact codeAny_compStart_list loop (okI.walks.self 0 _ _ _ st4 loop)
end
end Mine
end
section
set_option maxRecDepth 100000
open PySem PySem.Calls PyProof.Rows PySem.W
set_option genSizeOf false
set_option genInjectivity false
namespace Mine
section
variable {cx:Cx} {G:Gl} {n:Nat}
theorem gen_inj {t t' i i':Expr} {l l':List Expr} (h:[(⟨t,i,l,0⟩:Comprehension)]=[⟨t',i',l',0⟩]):t=t'∧i=i'∧l=l':=by
 cases h
 exact ⟨rfl,rfl,rfl⟩
theorem comp_x {r:Rc} {ρ:PEnv} {pe pi:PE} {pifs:List PE} {xs:List Nat} {si:Bool} {caps:List Nat} {v:PV} (he:evStep G r ρ (.comp pe xs si pi pifs caps)=some v):∃ ps fl vs,iterV r ρ pi=some (ps,fl)∧compGo r pe xs si pifs ps (PEnv.cap caps ρ)=some vs∧vs.length≤1000000∧v=.list vs:=by
 refine ob_e he fun po hit k1=>ob_e k1 fun vs hgo k2=>?_
 obtain ⟨hl,h⟩:=og_i k2
 exact ⟨po.1,po.2,vs,hit,hgo,lenOk_le hl,h.symm⟩
theorem comp_ok (g:GOk cx G) (S:SndN cx G n) {ns:Ns} {elt target iter:Expr} {ifs:List Expr} {scope:Scope} {p:Pos} {pe pi:PE} {pifs:List PE} {xs:List Nat} {si:Bool} {caps:List Nat}
  {A:Around} {env:Env} {ρ:PEnv} {H:Hid} {s:Shared} {v:PV} {Q:Value→Shared→Prop} {E:Value→Shared→Prop}
  (ok:CompOk ns scope caps) (tg:CTg scope.names target xs si) (ci:CI ns iter pi) (cifs:CTs scope.names ifs pifs) (ce:CE scope.names elt pe)
  (I:InE cx (n+60) A env ns ρ H s) (he:evStep G (sem G n) ρ (.comp pe xs si pi pifs caps)=some v) (h:RetF cx s H false v Q):wpAny (model cx.prog cx.w) A (eval (.ListComp elt [⟨target,iter,ifs,0⟩] scope p) env) Q E s:=by
 obtain ⟨ps,fl,vs,hit,hgo,hl,rfl⟩:=comp_x he
 rw [eval_ListComp]
 refine comp_core g S (fun x=>ci.fold _ _) ok tg ci cifs ce I hit hgo hl fun C D h₁ tk ws nlC nlD DC e₁ hns lD hr=>?_
 obtain ⟨mm,hns⟩:=hns
 refine ⟨mm,hns,fun h' k'=>?_⟩
 refine RetF.plain h (tk:=tk) (e₁.but I.cn.gi nlC k'.extBut (.ns hns)) (.list (fun q=>nlD (I.cn.hid _ q)) (lD.map fun o gg=>k'.extBut D o DC gg) ?_)
 exact hr.map fun a o q gg=>⟨fun z=>q (.inl z),k'.extBut a o (fun z=>q (.inr (.inl z))) gg⟩
theorem asgC_zero:AsgC cx G 0:=by
 intro ns x k elt target iter ifs scope pe occ r q p A env Hx own ow ρ ρ' fl s Q E ok hk tx hc I he h
 exact nos he
theorem asgC_succ (g:GOk cx G) (S:SndN cx G n) (S1:SndN cx G (n+1)):AsgC cx G (n+1):=by
 intro ns x k elt target iter ifs scope pe occ r q p A env Hx own ow ρ ρ' fl s Q E ok hk tx hc I he h
 subst hk
 obtain ⟨b,hsw⟩:∃ b,swapsWith (.ListComp elt [⟨target,iter,ifs,0⟩] scope r) (some (.Name x q)) p.line env=pure b:=⟨_,rfl⟩
 refine x_assign (P:=fun ρ' fl=>PostS cx (n+1+60) A env ns Hx own ow ρ' s Q fl→_) he (fun v hv h=>?_) h
 induction b using Bool.casesOn with
 | false =>
  refine wpAny_Assign_Name (S1.ev hc (I.ofOcc occ) hv fun w h₁ t₁ e₁ r₁ f₁=>?_) hsw
  exact bind_ok I ok tx e₁ r₁ f₁ h
 | true =>
  obtain ⟨m,hc⟩:=hc.step
  refine i_comp hc fun t it ifs' caps tg' si pi pifs e' h0 okc tg ci cifs ce rp=>?_
  obtain rfl:=rp
  obtain ⟨h1,h2,h3⟩:=gen_inj h0
  rw [← h1] at tg
  rw [← h2] at ci
  rw [← h3] at cifs
  have hv':evStep G (sem G n) (PEnv.only occ ρ) (.comp e' tg' si pi pifs caps)=some v:=hv
  obtain ⟨ps,fl,vs,hit,hgo,hl,rfl⟩:=comp_x hv'
  rw [exec_Assign_Name_used _ _ _ _ hsw]
  refine wpAny_bind (wpAny_standAt (wpAny_bind ?_))
  have IE:InE cx (n+60) A env ns (PEnv.only occ ρ) (HH Hx env own ow (·∈occ)) s:=(I.ofOcc occ).le (Nat.add_le_add_right (Nat.le_succ n) 60)
  show wpAny _ A (do let _ ← comprehension (.ListComp elt [⟨target,iter,ifs,0⟩] scope r) scope env _ (newList []) false (eval iter env) (some (assign (.Name x q) env))) _ _ s
  refine wpAny_bind (wpAny_mono (comp_core g S (fun x=>ci.fold _ _) okc tg ci cifs ce IE hit hgo hl (use:=some (assign (.Name x q) env)) (Q:=fun _ s'=>Q .next s') fun C D h₁ tk ws nlC nlD DC e₁ hns lD hr=>?_) (fun _ s' hq=>wpAny_pure (wpAny_pure hq)) fun _ _ e=>e)
  obtain ⟨mm,hns⟩:=hns
  have lC:Live h₁ C:=Ns_live hns
  have nGC:¬ cx.GA C:=fun z=>nlC (cx.ga_live _ _ I.cn.gi z)
  have nHC:¬ Hx C:=fun z=>nlC (I.cn.hid _ z)
  have outer:∀ n c,env.cells.lookup n=some c→¬ own c→Hx c:=fun n c e q=>(I.outer n c e q).1
  have J:=I.extAdd e₁ nlC lC
  have nHD:¬ HH (add Hx C) env own ow (·∈occ) D:=fun z=>by
   rcases z with (z|z)|z|z|⟨k,_,z⟩
   ·exact nlD (I.cn.hid _ z)
   ·exact DC z
   ·exact nlD (z ▸ I.frame_live.1)
   ·exact nlD (I.frame_live.2 _ z)
   ·exact nlD (I.owL _ _ z).1
  have r₁:Rep cx h₁ (HH (add Hx C) env own ow (·∈occ)) (.ref D) (.list vs):=.list nHD lD (hr.open' fun a z=>by
   rcases z with (z|z)|z|z|z
   ·exact .inl (.inl z)
   ·exact .inr (.inl z)
   ·exact .inl (.inr (.inl z))
   ·exact .inl (.inr (.inr (.inl z)))
   ·exact .inl (.inr (.inr (.inr z))))
  obtain ⟨ow',J',r',sub'⟩:=J.frz r₁
  show wpAny _ _ (assign (.Name x q) env (.ref D)) _ _ _
  refine wpAny_assign_Name (store_name (s:={ s with heap:=h₁,toks:=tk }) J' tx fun b h' tk' hb k hn hc' hv'' ho=>?_)
  have J'':=J'.bind ok hb k hn hc' hv'' ho (r'.open' (HA_mono cut_le))
  have eW:=(J'.turned hb k (bound_live hb hn hc')).1
  have Cb:C ≠ b:=fun z=>by
   rcases hb with hb|hb
   ·exact J'.fH.1 (.inr (z.trans hb).symm)
   ·exact J'.fH.2 b hb (.inr z.symm)
  obtain ⟨oo,es,ep,go,rr⟩:=hns
  refine ⟨mm,⟨oo,es,ep,k C oo Cb go,rr⟩,fun h'' k''=>?_⟩
  have ncC:NoCd h' C:=.ns (m:=mm) ⟨oo,es,ep,k C oo Cb go,rr⟩
  have I'':=J''.moved k''.extBut ncC nGC I.cn.bH nHC outer
  have EW:Ext cx (WW cx env own ow) s.heap h':=WW_trans (WW_of_ext e₁) (fun j a z=>.inl ⟨j,sub' j a z⟩) eW
  exact h h'' tk' _ (Ext.butW EW nGC nlC k''.extBut ncC) (fun j a z=>.inl ⟨j,sub' j a z.1⟩) I''
end
end Mine
end
section
set_option maxRecDepth 100000
open PySem PySem.Calls PyProof.Rows PySem.W
set_option genSizeOf false
set_option genInjectivity false
namespace Mine
structure FunAt (cx:Cx) (a:Addr) (o:Obj) (fd:FuncData) (body:List Stmt) (names:List Str) (fp:FnP):Prop where
 obj:∀ h,cx.GI h→h.get? a=some o
 data:o.data=.func fd
 code:∀ h,cx.GI h→h.CodeRec fd.code fd.qualname
 bodyE:fd.body=.stmts body
 clo:fd.closure=[]
 glob:fd.globals=mainGlobals
 blt:fd.builtins=builtinsNs
 par:fp.params=names.map enc
 nodup:names.Nodup
 nms:∀ x∈names,okN x=true∧isTgt fd.scope.names x
 bind:∀ vals:List Value,vals.length=names.length→bindArgs fd ⟨vals,[]⟩=pure (names.zip vals)
 css:CSs fd.scope.names body fp.body
 kind:fd.scope.kind=.function
 co:fd.scope.isCoroutine=false
 gen:fd.scope.isGenerator=false
 free:∀ y,fd.scope.names.lookup y ≠ some .free
theorem cellsFrom_some {y:Str}:∀ {names:List (Str × NameKind)} {k:Nat} {acc:List (Str × Addr)},((acc.lookup y).isSome=true∨(y,NameKind.cell)∈names)→((cellsFrom k names acc).lookup y).isSome=true
 | [],_,acc,h=>h.elim id fun q=>nomatch q
 | (n,j) :: r,k,acc,h=>by
  unfold cellsFrom
  split
  ·refine cellsFrom_some ?_
   rcases h with h|h
   ·left
    rw [List.lookup_cons]
    cases y == n with
    | true=>rfl
    | false=>exact h
   ·rcases List.mem_cons.mp h with e|h
    ·injection e with e1 e2
     subst e1
     left
     rw [List.lookup_cons,beq_self_eq_true]
     rfl
    ·exact .inr h
  ·rename_i hj
   refine cellsFrom_some ?_
   rcases h with h|h
   ·exact .inl h
   ·rcases List.mem_cons.mp h with e|h
    ·injection e with e1 e2
     subst e2
     exact (hj rfl).elim
    ·exact .inr h
theorem bindL_miss {K:Str→Option NameKind} {x:Str}:∀ {names:List Str} {vs:List Value} {m:Str→Option Value},x ∉ names→bindL K (names.zip vs) m x=m x
 | [],vs,m,_=>rfl
 | n :: names,[],m,_=>rfl
 | n :: names,v :: vs,m,h=>by
  rw [List.zip_cons_cons,bindL,bindL_miss (fun q=>h (.tail _ q))]
  split
  ·exact if_neg (fun q=>h (by rw [q];exact .head _))
  ·rfl
theorem bindC_miss {K:Str→Option NameKind} {x:Str}:∀ {names:List Str} {vs:List Value} {m:Str→Option Value},x ∉ names→bindC K (names.zip vs) m x=m x
 | [],vs,m,_=>rfl
 | n :: names,[],m,_=>rfl
 | n :: names,v :: vs,m,h=>by
  rw [List.zip_cons_cons,bindC,bindC_miss (fun q=>h (.tail _ q))]
  split
  ·rfl
  ·exact if_neg (fun q=>h (by rw [q];exact .head _))
theorem bindL_get {K:Str→Option NameKind} {x:Str} {v:Value} (hk:K x=some .local):∀ {names:List Str} {vs:List Value} {m:Str→Option Value},names.Nodup→(x,v)∈names.zip vs→bindL K (names.zip vs) m x=some v
 | [],vs,m,_,h=>by simp at h
 | n :: names,[],m,_,h=>by simp at h
 | n :: names,w :: vs,m,nd,h=>by
  obtain ⟨nd1,nd2⟩:=List.nodup_cons.mp nd
  rw [List.zip_cons_cons] at h ⊢
  rw [bindL]
  rcases List.mem_cons.mp h with e|h
  ·injection e with e1 e2
   subst e1 e2
   rw [bindL_miss nd1,if_pos hk]
   simp
  ·exact bindL_get hk nd2 h
theorem bindC_get {K:Str→Option NameKind} {x:Str} {v:Value} (hk:K x ≠ some .local):∀ {names:List Str} {vs:List Value} {m:Str→Option Value},names.Nodup→(x,v)∈names.zip vs→bindC K (names.zip vs) m x=some v
 | [],vs,m,_,h=>by simp at h
 | n :: names,[],m,_,h=>by simp at h
 | n :: names,w :: vs,m,nd,h=>by
  obtain ⟨nd1,nd2⟩:=List.nodup_cons.mp nd
  rw [List.zip_cons_cons] at h ⊢
  rw [bindC]
  rcases List.mem_cons.mp h with e|h
  ·injection e with e1 e2
   subst e1 e2
   rw [bindC_miss nd1,if_neg hk]
   simp
  ·exact bindC_get hk nd2 h
theorem zipE_get {cx:Cx} {h:Heap} {H:Hid}:∀ {names:List Str} {vs:List Value} {ps:List PV} {ρ:PEnv},(∀ x∈names,okN x=true)→RepAll cx h H vs ps→zipE (names.map enc) ps=some ρ→vs.length=names.length ∧
  ∀ x b p,okN x=true→PEnv.get ρ (enc x)=some (b,p)→b=false∧∃ v,(x,v)∈names.zip vs∧Rep cx h H v p
 | [],vs,[],ρ,_,r,e=>by
  obtain rfl:=r.nil'
  obtain rfl:=Option.some.inj e
  exact ⟨rfl,fun x b p _ g=>(Option.some_ne_none _ g.symm).elim⟩
 | [],_,_ :: _,_,_,_,e=>(Option.some_ne_none _ e.symm).elim
 | _ :: _,_,[],_,_,_,e=>(Option.some_ne_none _ e.symm).elim
 | n :: names,vs,p :: ps,ρ,hok,r,e=>by
  obtain ⟨v,ws,rfl,a,r'⟩:=r.cons'
  obtain ⟨ρ',hz,k1⟩:=ob_i e
  obtain rfl:=Option.some.inj k1
  obtain ⟨h1,h2⟩:=zipE_get (fun x hx=>hok x (.tail _ hx)) r' hz
  refine ⟨congrArg Nat.succ h1,fun x b q okx g=>?_⟩
  unfold PEnv.get at g
  cases hq:Nat.beq (enc x) (enc n) with
  | true =>
   rw [hq] at g
   obtain ⟨g1,g2⟩:=Prod.mk.inj (Option.some.inj g)
   obtain rfl:=enc_inj okx (hok n (.head _)) (Nat.eq_of_beq_eq_true hq)
   exact ⟨g1.symm,v,.head _,g2 ▸ a⟩
  | false =>
   rw [hq] at g
   obtain ⟨hb,w,hw,hr⟩:=h2 x b q okx g
   exact ⟨hb,w,.tail _ hw,hr⟩
theorem Ext.into {cx:Cx} {W:Hid} {h₀ h h':Heap} (e:Ext cx cx.T h₀ h) (e':Ext cx W h h') (hW:∀ a,W a→cx.T a∨¬ Live h₀ a):Ext cx cx.T h₀ h' :=
 ⟨fun a o t g=>e'.keep a o (fun w=>(hW a w).elim t fun q=>q ⟨o,g⟩) (e.keep a o t g),fun a c l=>by
  by_cases t:cx.T a
  ·exact e'.alive a (.inr t) (e.live a l)
  ·exact e'.alive a (.inl fun w=>(hW a w).elim t fun q=>q l) (e.live a l),fun g=>e'.gi (e.gi g)⟩
section
variable {cx:Cx} {G:Gl} {n:Nat}
theorem Room.lt {A:Around} {n:Nat} (x:Room A n):A.depth<recursionLimit:=Nat.lt_of_le_of_lt (Nat.le_add_right _ _) x.2.1
theorem Room.deeper {A:Around} {env:Env} {n:Nat} (x:Room A (n+1)):Room (A.deeper env) n :=
 ⟨x.1,Nat.lt_of_le_of_lt (show A.depth+1+2*n≤A.depth+(2*n+2) from (Nat.add_assoc A.depth 1 (2*n)).symm ▸ Nat.add_le_add_left (Nat.add_comm (2*n) 1 ▸ Nat.le_succ (2*n+1)) _) x.2.1,
  Nat.lt_of_le_of_lt (show A.units+3+16*n≤A.units+(16*n+16) from (Nat.add_assoc A.units 3 (16*n)).symm ▸ Nat.add_le_add_left (Nat.add_comm (16*n) 3 ▸ Nat.add_le_add_left (show 3≤16 by decide) (16*n)) _) x.2.2⟩
theorem call_frame {A:Around} {a:Addr} {o:Obj} {fd:FuncData} {body:List Stmt} {names:List Str} {fp:FnP} (F:FunAt cx a o fd body names fp) {s s₁:Shared} {H:Hid} {vs:List Value} {ps:List PV} {ρ:PEnv} (room:A.handled=none∧A.depth+1+2*(n+60)<recursionLimit∧A.units+3+16*(n+60)<cLine) (cn:Cn cx s.heap H) (x:RepAll cx s.heap H vs ps) (hz:zipE fp.params ps=some ρ)
  (X:InCallC s (callEnvC fd s.heap.objs.size a).locals (bindL (callEnvC fd s.heap.objs.size a).kindOf (names.zip vs) fun _=>none) (callEnvC fd s.heap.objs.size a).cells (bindC (callEnvC fd s.heap.objs.size a).kindOf (names.zip vs) fun _=>none) s₁) :
  Ext cx cx.T s.heap s₁.heap∧(∀ b,WW cx (callEnvC fd s.heap.objs.size a) ⟨fun c=>∃ n,(callEnvC fd s.heap.objs.size a).cells.lookup n=some c,0⟩ (fun _ _=>False) b→cx.T b∨¬ Live s.heap b) ∧
  InS cx (n+60) (A.deeper (callEnvC fd s.heap.objs.size a)) (callEnvC fd s.heap.objs.size a) fd.scope.names H ⟨fun c=>∃ n,(callEnvC fd s.heap.objs.size a).cells.lookup n=some c,0⟩ (fun _ _=>False) ρ s₁.heap:=by
 generalize hE:callEnvC fd s.heap.objs.size a=env at X ⊢
 have kindE:∀ y,env.kindOf y=fd.scope.names.lookup y:=fun y=>by rw [← hE];rfl
 have cellE:env.cells=cellsFrom (s.heap.objs.size+1) fd.scope.names []:=by rw [← hE];rfl
 have es:Ext cx cx.T s.heap s₁.heap:=.of_keep X.toInCall.keep
 have nlL:¬ Live s.heap env.locals:=fun l=>Nat.lt_irrefl _ (Nat.lt_of_lt_of_le l.lt X.toInCall.fresh)
 have nlc:∀ m c,env.cells.lookup m=some c→¬ Live s.heap c:=fun m c hc l=>Nat.lt_irrefl _ (Nat.lt_trans (Nat.lt_of_lt_of_le l.lt X.toInCall.fresh) (X.above m c (mem_of_lookup hc)))
 have nG:∀ b,¬ Live s.heap b→¬ cx.GA b:=fun b q g=>q (cx.ga_live _ b cn.gi g)
 rw [F.par] at hz
 obtain ⟨hlen,hget⟩:=zipE_get (fun x hx=>(F.nms x hx).1) x hz
 have up:∀ b,HA H env ⟨fun c=>∃ n,env.cells.lookup n=some c,0⟩ (fun _ _=>False) b→Live s.heap b→H b:=fun b q l=>by
  rcases q with q|q|⟨m,q⟩|⟨_,_,q⟩
  ·exact q
  ·exact (nlL (q ▸ l)).elim
  ·exact (nlc m b q l).elim
  ·exact q.elim
 refine ⟨es,fun b w=>?_,⟨⟨room.1,?_,?_⟩,?_,fun f hf=>(kindE f).trans hf,fun y hy=>(kindE y).trans hy,fun y hy=>⟨(kindE y).trans hy,?_⟩,fun y hy=>(F.free y hy).elim,?_,?_,cn.ext es,⟨_,X.toInCall.ns⟩,fun c ⟨m,hc⟩=>⟨_,X.cell m c hc⟩,fun m m' c h1 _ h2=>name_of_addr X.apart (mem_of_lookup h1) (mem_of_lookup h2),
  ⟨fun q=>nlL (cn.hid _ q),fun c ⟨m,hc⟩ q=>nlc m c hc (cn.hid _ q)⟩,⟨nG _ nlL,fun c ⟨m,hc⟩=>nG _ (nlc m c hc)⟩,fun ⟨m,hc⟩=>Nat.lt_irrefl _ (X.above m _ (mem_of_lookup hc)),fun m c hc q=>(q ⟨m,hc⟩).elim,fun k b q=>q.elim,fun k b q=>q.elim,fun j k b q=>q.elim,fun y b p oky g=>?_⟩⟩
 ·rcases w with w|w|⟨m,w⟩|⟨_,w⟩
  ·exact .inl w
  ·exact .inr (w ▸ nlL)
  ·exact .inr (nlc m b w)
  ·exact w.elim
 ·exact room.2.1
 ·exact room.2.2
 ·rw [← hE];exact F.kind
 ·have:(env.cells.lookup y).isSome=true:=by rw [cellE];exact cellsFrom_some (.inr (mem_lookup_free hy))
  obtain ⟨c,hc⟩:=Option.isSome_iff_exists.mp this
  exact ⟨c,hc,y,hc⟩
 ·rw [← hE];exact F.glob
 ·rw [← hE];exact F.blt
 ·obtain ⟨rfl,v,hv,hr⟩:=hget y b p oky g
  have hmem:y∈names:=(List.of_mem_zip hv).1
  refine ⟨v,?_,fun _=>(hr.hide (H':=HA H env ⟨fun c=>∃ n,env.cells.lookup n=some c,0⟩ fun _ _=>False) fun b l q=>up b q l).map fun b o q gg=>⟨q,es.keep b o (fun t=>q (.inl (cn.tH b t))) gg⟩,fun z=>by cases z⟩
  rcases (F.nms y hmem).2 with hk|hk
  ·have hk':env.kindOf y=some .local:=(kindE y).trans hk
   exact .inl ⟨hk',_,X.toInCall.ns,bindL_get hk' F.nodup hv⟩
  ·have hk':env.kindOf y=some .cell:=(kindE y).trans hk
   have:(env.cells.lookup y).isSome=true:=by rw [cellE];exact cellsFrom_some (.inr (mem_lookup_free hk))
   obtain ⟨c,hc⟩:=Option.isSome_iff_exists.mp this
   have hcell:=X.cell y c hc
   rw [bindC_get (by rw [hk'];decide) F.nodup hv] at hcell
   exact .inr ⟨.inl hk',c,hc,hcell⟩
theorem bind_kinds {a:Addr} {o:Obj} {fd:FuncData} {body:List Stmt} {names:List Str} {fp:FnP} (F:FunAt cx a o fd body names fp) {vs:List Value} {k:Nat}:∀ x∈names.zip vs,fd.scope.names.lookup x.1=some .local∨(fd.scope.names.lookup x.1=some .cell∧((cellsFrom k fd.scope.names []).lookup x.1).isSome=true):=fun x hx=>by
 have hm:x.1∈names:=(List.of_mem_zip (show (x.1,x.2)∈names.zip vs from hx)).1
 rcases (F.nms _ hm).2 with h|h
 ·exact .inl h
 ·exact .inr ⟨h,cellsFrom_some (.inr (mem_lookup_free h))⟩
noncomputable abbrev ownC (env:Env):Own:=⟨fun c=>∃ n,env.cells.lookup n=some c,0⟩
noncomputable abbrev noW:Nat→Hid:=fun _ _=>False
theorem fun_enter {a:Addr} {o:Obj} {fd:FuncData} {body:List Stmt} {names:List Str} {fp:FnP} (F:FunAt cx a o fd body names fp) {A:Around} {E:Value→Shared→Prop} {Q:Value→Shared→Prop} {s:Shared} {H:Hid} {vs:List Value} {ps:List PV} {ρ:PEnv} (room:Room A (n+1+60)) (cn:Cn cx s.heap H) (x:RepAll cx s.heap H vs ps) (hz:zipE fp.params ps=some ρ)
  (h:∀ h₁ t₁ {E'},Ext cx cx.T s.heap h₁→(∀ b,WW cx (callEnvC fd s.heap.objs.size a) (ownC (callEnvC fd s.heap.objs.size a)) noW b→cx.T b∨¬ Live s.heap b)→InS cx (n+60) (A.deeper (callEnvC fd s.heap.objs.size a)) (callEnvC fd s.heap.objs.size a) fd.scope.names H (ownC (callEnvC fd s.heap.objs.size a)) noW ρ h₁ →
   wpAny (model cx.prog cx.w) (A.deeper (callEnvC fd s.heap.objs.size a)) (execs body (callEnvC fd s.heap.objs.size a)) (fun fl s'=>Q (match fl with | .ret v=>v|_=>.none) s') E' { s with heap:=h₁,toks:=t₁ }):wpAny (model cx.prog cx.w) A (call (.ref a) vs) Q E s:=by
 have hlen:vs.length=names.length:=(zipE_get (fun x hx=>(F.nms x hx).1) x (F.par ▸ hz)).1
 refine wpAny_call (codeAny_call_cells (binds:=names.zip vs) room.lt (F.obj _ cn.gi) F.data (cx.lim _ cn.gi) (F.code _ cn.gi) F.bodyE (F.bind vs hlen) F.clo (bind_kinds F) (fun s₁ X=>?_) F.co F.gen F.kind)
 obtain ⟨es,hW,I⟩:=call_frame (n:=n) (A:=A) F (Room.deeper (env:=callEnvC fd s.heap.objs.size a) room) cn x hz X
 obtain ⟨h₁,t₁,rfl⟩:=X.toInCall.same
 exact h h₁ t₁ es hW I
theorem fun_ok (S:SndX cx G n) {a:Addr} {o:Obj} {fd:FuncData} {body:List Stmt} {names:List Str} {fp:FnP} (F:FunAt cx a o fd body names fp) {ps:List PV} {r:PV} (hr:runF (sem G n) fp ps=some r):CallOk cx (n+1+60) (.ref a) ps r:=by
 intro A E s H Q vs room cn x h
 obtain ⟨ρ,hz,k1⟩:=ob_i hr
 obtain ⟨⟨ρ',fo⟩,hex,k2⟩:=ob_i k1
 refine fun_enter F room cn x hz fun h₁ t₁ _ es hW I=>?_
 cases fo with
 | ret v =>
  obtain rfl:=Option.some.inj k2
  exact S.ex F.css I hex fun h' tk w e c rr=>h.plain (es.into e hW) rr
 | next =>
  obtain rfl:=Option.some.inj k2
  exact S.ex F.css I hex fun h' tk ow' e sub I'=>h.plain (tk:=tk) (es.into e hW) .none
 | brk=>exact (Option.some_ne_none _ k2.symm).elim
end
end Mine
end
section
set_option maxRecDepth 100000
open PySem PySem.Calls PyProof.Rows PySem.W
set_option genSizeOf false
set_option genInjectivity false
namespace Mine
theorem AttrsAre.put {cx:Cx} {h:Heap} {H:Hid} {x:Str} (ok:okN x=true) {v:Value} {p:PV} (r:Rep cx h H v p):∀ {ks:List Nat} {ps:List PV} {m:Str→Option Value} {vs:List Value},AttrsAre m ks vs→RepAll cx h H vs ps →
  ∃ vs2,AttrsAre (fun y=>if y=x then some v else m y) (putAttr (enc x) p ks ps).1 vs2∧RepAll cx h H vs2 (putAttr (enc x) p ks ps).2
 | [],_,m,_,hat,a=>⟨[v],.cons (m':=fun _=>none) ok (.nil fun _=>rfl) (fun y=>by rw [hat.2 y]),.cons r .nil⟩
 | _ :: _,[],m,_,hat,a=>by
  obtain ⟨_,_,_,_,_,h1,_⟩:=hat
  exact (List.cons_ne_nil _ _ (h1.symm.trans a)).elim
 | _ :: ks,q :: ps,m,_,hat,a=>by
  obtain ⟨y,w,ws,m',rfl,rfl,ok',at',hm⟩:=hat
  obtain ⟨_,_,h1,a,l⟩:=a
  obtain ⟨rfl,rfl⟩:=List.cons.inj h1
  show ∃ vs2,AttrsAre _ (match Nat.beq (enc x) (enc y) with|true=>(enc y :: ks,p :: ps)|false=>(enc y :: (putAttr (enc x) p ks ps).1,q :: (putAttr (enc x) p ks ps).2)).1 vs2∧RepAll cx h H vs2 (match Nat.beq (enc x) (enc y) with|true=>(enc y :: ks,p :: ps)|false=>(enc y :: (putAttr (enc x) p ks ps).1,q :: (putAttr (enc x) p ks ps).2)).2
  cases e:Nat.beq (enc x) (enc y) with
  | true =>
   obtain rfl:=enc_inj ok ok' (Nat.eq_of_beq_eq_true e)
   refine ⟨v :: ws,.cons ok' at' (fun z=>?_),.cons r l⟩
   rw [hm z]
   by_cases q:z=x
   ·rw [if_pos q,if_pos q]
   ·rw [if_neg q,if_neg q,if_neg q]
  | false =>
   have ne:y ≠ x:=fun q=>Nat.ne_of_beq_eq_false e (by rw [q])
   obtain ⟨vs2,h1,h2⟩:=AttrsAre.put ok r at' l
   refine ⟨w :: vs2,.cons ok' h1 (fun z=>?_),.cons a h2⟩
   rw [hm z]
   by_cases q:z=y
   ·rw [if_neg (q ▸ ne),if_pos q,if_pos q]
   ·rw [if_neg q,if_neg q]
theorem AttrsAre.within:∀ {ks:List Nat} {m:Str→Option Value} {vs:List Value},AttrsAre m ks vs→∃ nsl:List Str,Within m nsl∧nsl.length=ks.length
 | [],_,_,hat=>⟨[],fun y hy=>(hy (hat.2 y)).elim,rfl⟩
 | _ :: ks,_,_,hat=>by
  obtain ⟨x,w,ws,m',rfl,rfl,_,at',hm⟩:=hat
  obtain ⟨l,h1,h2⟩:=at'.within
  refine ⟨x :: l,fun y hy=>?_,congrArg Nat.succ h2⟩
  rw [hm y] at hy
  by_cases q:y=x
  ·exact q ▸ .head _
  ·rw [if_neg q] at hy
   exact .tail _ (h1 y hy)
theorem ownI_i {ρ:PEnv} {x:Nat} {i:List Nat × List PV} (h:ownI ρ x=some i):PEnv.get ρ x=some (true,.inst i.1 i.2):=by
 refine ob_e h fun bv h1 k1=>ob_e k1 fun w h2 k2=>?_
 obtain ⟨b,v⟩:=bv
 obtain ⟨h3,h4⟩:=og_i h2
 have h3:b=true:=h3
 have h4:v=w:=h4
 rw [h1,h3,h4]
 induction w using PV.casesOn with
 | inst ks ps=>exact Option.some.inj k2 ▸ rfl
 | _=>exact nos k2
theorem x_setattr {r:Rc} {ρ ρ':PEnv} {fl:Fl} {P:PEnv→Fl→Prop} {k a:Nat} {pe:PE} {oc:List Nat} (he:exS r ρ (.setattr k a pe oc)=some (ρ',fl)) (K:∀ v ks ps,r.ev (PEnv.only oc ρ) pe=some v→PEnv.get (frz v oc ρ) k=some (true,.inst ks ps)→ks.length≤1000→P (PEnv.set (frz v oc ρ) k true (.inst (putAttr a v ks ps).1 (putAttr a v ks ps).2)) .next):P ρ' fl:=by
 refine ob_e he fun v hv k1=>ob_e k1 fun i hi k2=>?_
 obtain ⟨h1,h2⟩:=og_i k2
 exact pn_e (congrArg some h2) (K v i.1 i.2 hv (ownI_i hi) (ble_true.mp h1))
noncomputable def starE:Expr→Bool
 | .Starred ..=>true
 | _=>false
theorem swap_ok {ns:Ns} {x y:Str × Pos} {u v:Expr} {j j':Nat} {q q':Pos} (h:swapB x y u v=true) (hu:∃ a,CE ns u a) (hv:∃ a,CE ns v a):∀ env:Env,env.scope.kind=.function→env.kindOf x.1=some .local→env.kindOf y.1=some .local →
  swappedStores [.Tuple [.Name x.1 x.2,.Name y.1 y.2] j q] (.Tuple [u,v] j' q') env=pure (some [x.1,y.1]):=by
 intro env hk hx hy
 have hb:env.blockKind=.function:=by
  unfold Env.blockKind
  rw [hk]
  rfl
 unfold swapB at h
 obtain ⟨h1,h⟩:=band h
 obtain ⟨h2,h⟩:=band h
 obtain ⟨h3,h4⟩:=band h
 have ns:∀ {e:Expr},(∃ a,CE ns e a)→starE e=false:=fun {e} he=>by
  obtain ⟨a,hc⟩:=he
  obtain ⟨m,hc⟩:=hc.step
  induction e using Expr.casesOn <;> first|rfl|exact nos hc
 have e1:(if (env.kindOf x.1 == some .local && x.2.line == x.2.line)=true then some x.1 else none)=some x.1:=if_pos (by rw [hx,beq_self_eq_true,beq_self_eq_true];rfl)
 have e2:(if (env.kindOf y.1 == some .local && y.2.line == x.2.line)=true then some y.1 else none)=some y.1:=if_pos (by rw [hy,h2];rfl)
 refine (if_neg ?_).trans ((if_neg ?_).trans ?_)
 ·rw [hb];exact Bool.false_ne_true
 ·show ¬ (starE u || (starE v || false))=true
  rw [ns hu,ns hv];decide
 ·dsimp only
  generalize hN:List.filterMap _ [Expr.Name x.1 x.2,Expr.Name y.1 y.2]=N
  obtain rfl:N=[x.1,y.1]:=hN.symm.trans ((List.filterMap_cons_some (by exact e1)).trans (congrArg _ ((List.filterMap_cons_some (by exact e2)).trans (congrArg _ List.filterMap_nil))))
  refine (if_neg ?_).trans ((if_neg ?_).trans ((if_neg ?_).trans rfl))
  ·have hd:[x.1,y.1].eraseDups=[x.1,y.1]:=by
    rw [List.eraseDups_cons,List.filter_cons_of_pos (by rw [Bool.not_eq_true'] at h1 ⊢;rw [Bool.eq_false_iff] at h1 ⊢;exact fun z=>h1 (beq_iff_eq.mpr (beq_iff_eq.mp z).symm))]
    rfl
   show ¬ ((2 != 2) || ([x.1,y.1].eraseDups.length != 2))=true
   rw [hd];exact Bool.false_ne_true
  ·exact fun z=>Bool.false_ne_true (((Bool.not_eq_true' _).mp h3).symm.trans z)
  ·exact fun z=>Bool.false_ne_true (((Bool.not_eq_true' _).mp h4).symm.trans z)
section
variable {cx:Cx} {G:Gl} {n:Nat} {A:Around} {env:Env} {ns:Ns} {Hx:Hid} {own:Own} {ow:Nat→Hid} {ρ ρ':PEnv} {s:Shared} {Q:Flow→Shared→Prop} {E:Value→Shared→Prop} {fl:Fl}
theorem InS.mutI {m:Nat} {h h':Heap} (I:InS cx m A env ns Hx own ow ρ h) {x:Str} {d:Addr} {mm:Str→Option Value} {ks:List Nat} {vs:List Value} {ps:List PV} (okx:okN x=true) (hD:∀ z,ow (enc x) z↔z=own.inst∨z=d) (hv:VarAt h env x (.ref own.inst))
  (k:∀ b o,b ≠ own.inst→b ≠ d→h.get? b=some o→h'.get? b=some o) (nc1:NoCd h own.inst) (nc2:NoCd h d) (hi:IsIn h' own.inst cx.C d) (ne:d ≠ own.inst) (hn:h'.Ns1 d mm) (ha:AttrsAre mm ks vs) (hr:RepAll cx h (HA Hx env own ow) vs ps) :
  InS cx m A env ns Hx own ow (PEnv.set ρ (enc x) true (.inst ks ps)) h'∧Ext cx (WW cx env own ow) h h':=by
 have oa:ow (enc x) own.inst:=(hD _).mpr (.inl rfl)
 have od:ow (enc x) d:=(hD _).mpr (.inr rfl)
 have kw:∀ b o,¬ ow (enc x) b→h.get? b=some o→h'.get? b=some o:=fun b o q=>k b o (fun z=>q (z ▸ oa)) (fun z=>q (z ▸ od))
 have lv:∀ b,ow (enc x) b→Live h' b:=fun b q=>((hD b).mp q).elim (fun z=>z ▸ hi.live) fun z=>z ▸ Ns1_live hn
 have gi:cx.GI h':=cx.mono h h' I.cn.gi fun b o ga g=>kw b o (fun q=>ga.elim (fun ga=>(I.owL _ b q).2.2.2.2 ga) (((hD b).mp q).elim (fun z=>nc1 o (z ▸ g)) fun z=>nc2 o (z ▸ g))) g
 have e:Ext cx (WW cx env own ow) h h':=⟨fun b o n g=>kw b o (fun q=>n (.inr (.inr (.inr ⟨_,q⟩)))) g,fun b c ⟨o,g⟩=>by
  by_cases q:ow (enc x) b
  ·exact lv b q
  ·exact ⟨o,kw b o q g⟩,fun _=>gi⟩
 have HAo:∀ b,ow (enc x) b→HA Hx env own ow b:=fun b q=>.inr (.inr (.inr ⟨enc x,fun z=>z,q⟩))
 have kr:∀ b o,¬ HA Hx env own ow b→h.get? b=some o→¬ HA Hx env own ow b∧h'.get? b=some o:=fun b o nb g=>⟨nb,kw b o (fun q=>nb (HAo b q)) g⟩
 have hvar:∀ y w,VarAt h env y w→VarAt h' env y w:=fun y w hy=>hy.keep fun b o hb g=>kw b o (fun q=>by
  have oc:=I.owCell q
  rcases hb with rfl|⟨n,c,hc,rfl⟩
  ·exact oc.1 rfl
  ·exact oc.2 n _ hc rfl) g
 refine ⟨{ I with cn:=⟨gi,fun b q=>?_,I.cn.bH,I.cn.hg⟩,nsl:=?_,cells:=fun c oc=>?_,owL:=fun j b ob=>?_,owP:=fun j b ob=>?_,vars:=?_ },e⟩
 ·obtain ⟨o,ho⟩:=I.cn.hid b q
  exact ⟨o,kw b o (fun z=>(I.owL _ b z).2.1 q) ho⟩
 ·obtain ⟨mm,o,es,ep,g,r⟩:=I.nsl
  exact ⟨mm,o,es,ep,kw _ o (fun z=>(I.owL _ _ z).2.2.1 rfl) g,r⟩
 ·obtain ⟨v,o,g,r⟩:=I.cells c oc
  exact ⟨v,o,kw _ o (fun z=>(I.owL _ _ z).2.2.2.1 oc) g,r⟩
 ·obtain ⟨⟨o,h1⟩,h2⟩:=I.owL j b ob
  by_cases q:ow (enc x) b
  ·exact ⟨lv b q,h2⟩
  ·exact ⟨⟨o,kw b o q h1⟩,h2⟩
 ·by_cases q:j=enc x
  ·exact ⟨_,by rw [get_set,if_pos q]⟩
  ·obtain ⟨p,hp⟩:=I.owP j b ob
   exact ⟨p,by rw [get_set,if_neg q];exact hp⟩
 ·intro y b' p' ok g
  rw [get_set] at g
  by_cases q:enc y=enc x
  ·rw [if_pos q] at g
   have:y=x:=enc_inj ok okx q
   subst this
   cases g
   exact ⟨_,hvar _ _ hv,fun z=>(by cases z),fun _=>⟨d,mm,vs,rfl,hD,hi,ne,hn,ha,hr.map kr⟩⟩
  ·rw [if_neg q] at g
   obtain ⟨w,hw,h1,h2⟩:=I.vars y b' p' ok g
   exact ⟨w,hvar _ _ hw,fun z=>(h1 z).map kr,fun z=>(h2 z).map (fun b o ob=>kw b o fun z=>q (I.owA _ _ b ob z)) (fun _=>Iff.rfl) kr⟩
theorem setattr_step (g:GOk cx G) (S:SndX cx G n) {x a:Str} {e:Expr} {b:PE} {occ:List Nat} {np q p:Pos} (ok:okN x=true) (oka:okN a=true) (hat:a∈atNames) (hd:(x == ("__debug__":Str))=false) (hs:swapsWith e (some (.Attribute (.Name x np) a q)) p.line env=pure false) (hc:CE ns e b)
  (I:InS cx (n+60) A env ns Hx own ow ρ s.heap) (he:exS (sem G n) ρ (.setattr (enc x) (enc a) b occ)=some (ρ',fl)) (h:PostS cx (n+60) A env ns Hx own ow ρ' s Q fl):wpAny (model cx.prog cx.w) A (exec (.Assign [.Attribute (.Name x np) a q] e p) env) Q E s:=by
 ···refine x_setattr (P:=fun ρ' fl=>PostS cx (n+60) A env ns Hx own ow ρ' s Q fl→_) he (fun v ks us hv hg hks h=>?_) h
    refine plainObj_wpAny_Assign_Attribute (S.ev hc (I.ofOcc occ) hv fun w h₁ t₁ e₁ r₁ _=>?_) hs
    obtain ⟨ow',I',r',sub'⟩:=(I.ext e₁).frz r₁
    obtain ⟨u,hw,_,h2⟩:=I'.vars x _ _ ok hg
    obtain ⟨d,mm,vs,rfl,hD,hi,ne,hn,hat',rr⟩:=h2 rfl
    refine ld_own (s:={ s with heap:=h₁,toks:=t₁ }) I' hd hw ?_
    obtain ⟨N,mN,hcls,k1,k2,k3,k4⟩:=g.cls
    have X:=hcls _ I'.cn.gi
    obtain ⟨nm,qn,bs,sn,sub,col,dd,c0,c1,c2,c3,c5,hC⟩:=X.obj
    have hxC:own.inst ≠ cx.C:=fun z=>(I'.owL _ _ ((hD own.inst).mpr (.inl rfl))).2.2.2.2 (z ▸ k4 _ I'.cn.gi)
    obtain ⟨nsl,hwi,hlen⟩:=hat'.within
    obtain ⟨vs2,ha2,hr2⟩:=hat'.put oka r' rr
    have big:=sizeLine_big
    refine store_attr (h:=h₁) (g:=s.gens) (d:=s.drawn) (t:=t₁) (os:=s.os) PySem.F.store_object hC X.ns k2 (k3 a hat).1 (k3 a hat).2 hxC (hi.inst ne hn) (fun h₃ t₃ I₃ kk same=>?_) hwi (by omega)
    obtain ⟨oi,hoi,hci,hdi,hdict⟩:=hi
    obtain ⟨o1,ho1,hc1,hd1,_,hdict1⟩:=same oi hoi
    have hi3:IsIn h₃ own.inst cx.C d:=⟨o1,ho1,hc1.trans hci,fun c=>by rw [hd1];exact hdi c,hdict1 d hdict⟩
    have hn3:h₃.Ns1 d (fun y=>if y=a then some w else mm y):=by
     obtain ⟨o2,ho2,_,_,hd2⟩:=I₃
     rw [ho1] at ho2
     cases ho2
     rcases hd2 with ⟨hz,_⟩|⟨d2,hz,_,hns⟩
     ·rw [hdict1 d hdict] at hz;cases hz
     ·rw [hdict1 d hdict] at hz
      cases hz
      exact hns
    have keep:∀ b o,b ≠ own.inst→b ≠ d→h₁.get? b=some o→h₃.get? b=some o:=fun b o n1 n2 gg=>kk b o n1 (fun o₀ dx g0 gd=>by
     rw [hoi] at g0
     cases g0
     rw [hdict] at gd
     cases gd
     exact n2) gg
    obtain ⟨I4,E4⟩:=I'.mutI ok hD hw keep (.of_cls hoi (by rw [hci];intro z;cases z)) (.ns hn.ns) hi3 ne hn3 ha2 hr2
    exact h h₃ t₃ ow' (WW_trans (WW_of_ext e₁) (fun j z q=>.inl ⟨j,sub' j z q⟩) E4) (fun j z q=>.inl ⟨j,sub' j z q⟩) I4
theorem PostS.room {m m':Nat} (h:PostS cx m A env ns Hx own ow ρ' s Q fl) (r:Room A m):PostS cx m' A env ns Hx own ow ρ' s Q fl:=by
 cases fl with
 | next=>exact fun h' tk ow' e' sub' I'=>h h' tk ow' e' sub' (I'.up r)
 | brk=>exact fun h' tk ow' e' sub' I'=>h h' tk ow' e' sub' (I'.up r)
 | ret p=>exact h
theorem st_step (g:GOk cx G) (S:SndX cx G n) (AC:AsgC cx G n) {st:Stmt} {ps:PS} (hc:CS ns st ps) (I:InS cx (n+60) A env ns Hx own ow ρ s.heap) (he:exS (sem G n) ρ ps=some (ρ',fl)) (h:PostS cx (n+60) A env ns Hx own ow ρ' s Q fl) :
  wpAny (model cx.prog cx.w) A (exec st env) Q E s:=by
 refine hc.step (fun z=>nos (z ▸ he)) fun m hc=>?_
 induction st using Stmt.casesOn with
 | Assign ts e p =>
  refine s_asg hc (fun x pe ht ok tx ce rp=>?_) (fun l j q xs pe ht tg hT hl ce rp=>?_) (fun x y u v j q j' q' pe ht h0 lx ly sw hu hv ce rp=>?_) (fun x j q k b ht hd hl ci ce rp=>?_) (fun x k q b ht hd oka hat hl ce rp=>?_) fun xs pe ht hx h2 ce rp=>?_
  ·obtain rfl:=rp
   rw [ht]
   cases hl:lc? e with
   | none=>exact assign_step S ok tx (ce.facts.swap hl _ _ env) ce I he h
   | some z =>
    obtain ⟨m,hc⟩:=ce.step
    rw [lc_i hl] at hc ce ⊢
    refine i_comp hc fun t it ifs caps tg si pi pifs e h0 _ _ _ _ _ _=>?_
    rw [h0] at ce ⊢
    exact AC ok rfl tx ce I he h
  ·obtain rfl:=rp
   rw [ht]
   exact unpack_step S tg ((show swapsWithSole [_] _ _ env=swapsWith _ (some _) _ env from rfl).trans (ce.facts.swap hl _ _ env)) (ce.facts.tup hT _ _ _ env) ce I he h
  ·obtain rfl:=rp
   obtain ⟨okx,hlx⟩:=locB_i lx
   obtain ⟨oky,hly⟩:=locB_i ly
   rw [ht,h0]
   rw [h0] at ce
   exact unpackR_step (xs:=[x,y]) S (fun z hz=>by
    rcases List.mem_cons.mp hz with rfl|hz
    ·exact ⟨okx,hlx⟩
    ·obtain rfl:=List.mem_singleton.mp hz
     exact ⟨oky,hly⟩) rfl (swap_ok sw hu hv env I.kind (I.loc _ hlx) (I.loc _ hly)) ce I he h
  ·obtain rfl:=rp
   rw [ht]
   exact setidx_step S (okD_i hd).1 (okD_i hd).2 (ce.facts.swap hl _ _ env) ci ce I he h
  ·obtain rfl:=rp
   rw [ht]
   exact setattr_step g S (okD_i hd).1 oka hat (okD_i hd).2 (ce.facts.swap hl _ _ env) ce I he h
  ·obtain rfl:=rp
   rw [ht]
   exact chain_step S (fun x hxx=>tgtB_i (hx x hxx)) h2 ce I he h
 | Expr e p =>
  refine s_ex hc (fun x ap q y b h0 hd hl ce rp=>?_) fun x ap q h0 hd hl rp=>?_
  ·obtain rfl:=rp
   rw [h0]
   exact append_step S (okD_i hd).1 (okD_i hd).2 hl ce I he h
  ·obtain rfl:=rp
   rw [h0]
   exact reverse_step (okD_i hd).1 (okD_i hd).2 hl I he h
 | AugAssign t o e p =>
  refine s_aug hc fun x k a h0 tx ho ce rp=>?_
  obtain rfl:=rp
  rw [h0,← ho]
  exact aug_step S (tgtB_i tx).1 (tgtB_i tx).2 ce I he h
 | If c a b p =>
  refine ob_e hc fun pc h1 k=>?_
  obtain rfl:=Option.some.inj k
  exact if_step S ⟨m,h1⟩ ⟨m,rfl⟩ ⟨m,rfl⟩ I he h
 | For t it a b p =>
  refine ob_e hc fun x h1 k=>ob_e k fun pi h2 k=>?_
  obtain rfl:=Option.some.inj k
  have ci:CI ns it pi:=⟨m,h2⟩
  exact for_step g S (fun x=>ci.fold _ _) (trTg_i h1) ci ⟨m,rfl⟩ ⟨m,rfl⟩ I he h
 | Return o p =>
  refine ob_e hc fun e h1 k=>ob_e k fun pe h2 k=>?_
  obtain rfl:=Option.some.inj k
  rw [h1]
  exact ret_step S ⟨m,h2⟩ I he h
 | Break p =>
  obtain rfl:=Option.some.inj hc
  exact pn_e (P:=fun ρ' fl=>PostS cx (n+60) A env ns Hx own ow ρ' s Q fl→_) he (fun h=>wpAny_Break (h s.heap s.toks ow .refl (fun k a q=>.inl ⟨k,q⟩) I)) h
 | Pass p =>
  obtain rfl:=Option.some.inj hc
  exact pn_e (P:=fun ρ' fl=>PostS cx (n+60) A env ns Hx own ow ρ' s Q fl→_) he (fun h=>wpAny_Pass (h s.heap s.toks ow .refl (fun k a q=>.inl ⟨k,q⟩) I)) h
 | _=>exact nos hc
theorem CSs.nil' {l:List PS} (h:CSs ns [] l):l=[]:=by
 obtain ⟨n,h⟩:=h
 exact h.symm
theorem CSs.cons' {e:Stmt} {es:List Stmt} {l:List PS} (h:CSs ns (e :: es) l):∃ a m,l=a :: m∧CS ns e a∧CSs ns es m:=by
 obtain ⟨n,h⟩:=h
 exact ⟨_,_,h.symm,⟨n,rfl⟩,n,rfl⟩
theorem exl_i {r:Rc} {a:PS} {l:List PS} (he:exL r (a :: l) ρ=some (ρ',fl)):∃ ρ₁ fo,exS r ρ a=some (ρ₁,fo)∧((fo=.next∧exL r l ρ₁=some (ρ',fl))∨(ρ'=ρ₁∧((fo=.brk∧fl=.brk)∨∃ v,fo=.ret v∧fl=.ret v))):=by
 refine ob_e he fun o hex g2=>?_
 obtain ⟨ρ₁,fo⟩:=o
 refine ⟨ρ₁,fo,hex,?_⟩
 induction fo using Fl.casesOn with
 | next=>exact .inl ⟨rfl,g2⟩
 | brk =>
  obtain ⟨h1,h2⟩:=Prod.mk.inj (Option.some.inj g2)
  exact .inr ⟨h1.symm,.inl ⟨rfl,h2.symm⟩⟩
 | ret v =>
  obtain ⟨h1,h2⟩:=Prod.mk.inj (Option.some.inj g2)
  exact .inr ⟨h1.symm,.inr ⟨v,rfl,h2.symm⟩⟩
theorem exs_ok (g:GOk cx G) (S:SndX cx G n) (AC:AsgC cx G n):∀ {ss:List Stmt} {l:List PS} {ow:Nat→Hid} {ρ ρ':PEnv} {s:Shared} {fl:Fl} {Q:Flow→Shared→Prop},CSs ns ss l→InS cx (n+60) A env ns Hx own ow ρ s.heap→exL (sem G n) l ρ=some (ρ',fl)→PostS cx (n+60) A env ns Hx own ow ρ' s Q fl →
  wpAny (model cx.prog cx.w) A (execs ss env) Q E s
 | [],_,ow,ρ,ρ',s,fl,Q,hc,I,he,h=>by
  obtain rfl:=hc.nil'
  obtain ⟨k4,k5⟩:=Prod.mk.inj (Option.some.inj he)
  obtain rfl:=k4
  obtain rfl:=k5
  exact wpAny_execs_nil (h s.heap s.toks ow .refl (fun k a q=>.inl ⟨k,q⟩) I)
 | st :: ss,_,ow,ρ,ρ',s,fl,Q,hc,I,he,h=>by
  obtain ⟨a,m,rfl,h1,hr⟩:=hc.cons'
  obtain ⟨ρ₁,fo,hs,⟨rfl,k1⟩|⟨rfl,⟨rfl,rfl⟩|⟨v,rfl,rfl⟩⟩⟩:=exl_i he
  ·exact wpAny_execs_cons (st_step g S AC h1 I hs fun h₁ t₁ ow₁ e₁ sub₁ I₁=>exs_ok g S AC hr I₁ k1 (h.after e₁ I₁ sub₁))
  ·exact wpAny_execs_cons (st_step g S AC h1 I hs fun h₁ t₁ ow₁ e₁ sub₁ I₁=>h h₁ t₁ ow₁ e₁ sub₁ I₁)
  ·exact wpAny_execs_cons (st_step g S AC h1 I hs fun h₁ t₁ w e₁ c₁ r₁=>h h₁ t₁ w e₁ c₁ r₁)
end
end Mine
end
section
set_option maxRecDepth 100000
open PySem PySem.Calls PyProof.Rows PySem.W
set_option genSizeOf false
set_option genInjectivity false
namespace Mine
section
variable {cx:Cx} {G:Gl} {n:Nat}
theorem init_frame {A:Around} {a:Addr} {o:Obj} {fd:FuncData} {body:List Stmt} {me:Str} {names:List Str} {fp:FnP} (F:FunAt cx a o fd body (me :: names) fp) {h₀:Heap} {s s₁:Shared} {H:Hid} {x dx:Addr} {vs:List Value} {ps:List PV} {ρ:PEnv}
  (room:A.handled=none∧A.depth+1+2*(n+60)<recursionLimit∧A.units+3+16*(n+60)<cLine) (cn:Cn cx h₀ H) (e₀:Ext cx cx.T h₀ s.heap) (nx:¬ Live h₀ x) (nd:¬ Live h₀ dx) (hi:IsIn s.heap x cx.C dx) (ne:dx ≠ x) (hns:s.heap.Ns1 dx fun _=>none)
  (xr:RepAll cx h₀ H vs ps) (hz:zipE (names.map enc) ps=some ρ)
  (X:InCallC s (callEnvC fd s.heap.objs.size a).locals (bindL (callEnvC fd s.heap.objs.size a).kindOf ((me :: names).zip (.ref x :: vs)) fun _=>none) (callEnvC fd s.heap.objs.size a).cells (bindC (callEnvC fd s.heap.objs.size a).kindOf ((me :: names).zip (.ref x :: vs)) fun _=>none) s₁) :
  (∀ b,WW cx (callEnvC fd s.heap.objs.size a) ⟨fun c=>∃ n,(callEnvC fd s.heap.objs.size a).cells.lookup n=some c,x⟩ (fun k b=>k=enc me∧(b=x∨b=dx)) b→cx.T b∨¬ Live h₀ b) ∧
  InS cx (n+60) (A.deeper (callEnvC fd s.heap.objs.size a)) (callEnvC fd s.heap.objs.size a) fd.scope.names H ⟨fun c=>∃ n,(callEnvC fd s.heap.objs.size a).cells.lookup n=some c,x⟩ (fun k b=>k=enc me∧(b=x∨b=dx)) ((enc me,true,.inst [] []) :: ρ) s₁.heap:=by
 generalize hE:callEnvC fd s.heap.objs.size a=env at X ⊢
 have kindE:∀ y,env.kindOf y=fd.scope.names.lookup y:=fun y=>by rw [← hE];rfl
 have cellE:env.cells=cellsFrom (s.heap.objs.size+1) fd.scope.names []:=by rw [← hE];rfl
 have es:Ext cx cx.T s.heap s₁.heap:=.of_keep X.toInCall.keep
 have e01:Ext cx cx.T h₀ s₁.heap:=e₀.trans es
 have nlLs:¬ Live s.heap env.locals:=fun l=>Nat.lt_irrefl _ (Nat.lt_of_lt_of_le l.lt X.toInCall.fresh)
 have nlcs:∀ m c,env.cells.lookup m=some c→¬ Live s.heap c:=fun m c hc l=>Nat.lt_irrefl _ (Nat.lt_trans (Nat.lt_of_lt_of_le l.lt X.toInCall.fresh) (X.above m c (mem_of_lookup hc)))
 have nlL:¬ Live h₀ env.locals:=fun l=>nlLs (e₀.live _ l)
 have nlc:∀ m c,env.cells.lookup m=some c→¬ Live h₀ c:=fun m c hc l=>nlcs m c hc (e₀.live _ l)
 have nG:∀ b,¬ Live h₀ b→¬ cx.GA b:=fun b q g=>q (cx.ga_live _ b cn.gi g)
 have lx:Live s.heap x:=hi.live
 have ld:Live s.heap dx:=Ns1_live hns
 obtain ⟨hlen,hget⟩:=zipE_get (fun x hx=>(F.nms x (.tail _ hx)).1) xr hz
 have okme:=(F.nms me (.head _)).1
 have upH:∀ b,HA H env ⟨fun c=>∃ n,env.cells.lookup n=some c,x⟩ (fun k b=>k=enc me∧(b=x∨b=dx)) b→Live h₀ b→H b:=fun b q l=>by
  rcases q with q|q|⟨m,q⟩|⟨_,_,_,q|q⟩
  ·exact q
  ·exact (nlL (q ▸ l)).elim
  ·exact (nlc m b q l).elim
  ·exact (nx (q ▸ l)).elim
  ·exact (nd (q ▸ l)).elim
 refine ⟨fun b w=>?_,⟨⟨room.1,room.2.1,room.2.2⟩,?_,fun f hf=>(kindE f).trans hf,fun y hy=>(kindE y).trans hy,fun y hy=>⟨(kindE y).trans hy,?_⟩,fun y hy=>(F.free y hy).elim,?_,?_,cn.ext e01,⟨_,X.toInCall.ns⟩,fun c ⟨m,hc⟩=>⟨_,X.cell m c hc⟩,fun m m' c h1 _ h2=>name_of_addr X.apart (mem_of_lookup h1) (mem_of_lookup h2),
  ⟨fun q=>nlL (cn.hid _ q),fun c ⟨m,hc⟩ q=>nlc m c hc (cn.hid _ q)⟩,⟨nG _ nlL,fun c ⟨m,hc⟩=>nG _ (nlc m c hc)⟩,fun ⟨m,hc⟩=>Nat.lt_irrefl _ (X.above m _ (mem_of_lookup hc)),fun m c hc q=>(q ⟨m,hc⟩).elim,fun k b q=>?_,fun k b q=>⟨.inst [] [],?_⟩,fun j k b q1 q2=>q1.1.trans q2.1.symm,fun y b p oky g=>?_⟩⟩
 ·rcases w with w|w|⟨m,w⟩|⟨_,_,w|w⟩
  ·exact .inl w
  ·exact .inr (w ▸ nlL)
  ·exact .inr (nlc m b w)
  ·exact .inr (w ▸ nx)
  ·exact .inr (w ▸ nd)
 ·rw [← hE];exact F.kind
 ·have:(env.cells.lookup y).isSome=true:=by rw [cellE];exact cellsFrom_some (.inr (mem_lookup_free hy))
  obtain ⟨c,hc⟩:=Option.isSome_iff_exists.mp this
  exact ⟨c,hc,y,hc⟩
 ·rw [← hE];exact F.glob
 ·rw [← hE];exact F.blt
 ·obtain ⟨_,q⟩:=q
  have lb:Live s.heap b:=q.elim (fun z=>z ▸ lx) fun z=>z ▸ ld
  have nb:¬ Live h₀ b:=q.elim (fun z=>z ▸ nx) fun z=>z ▸ nd
  exact ⟨es.live b lb,fun z=>nb (cn.hid _ z),fun z=>nlLs (z ▸ lb),fun ⟨m,hc⟩=>nlcs m b hc lb,nG b nb⟩
 ·obtain ⟨rfl,_⟩:=q
  simp only [PEnv.get,Nat.beq_refl]
 ·simp only [PEnv.get] at g
  have varAt:∀ {y:Str} {v:Value},(y,v)∈(me :: names).zip (.ref x :: vs)→VarAt s₁.heap env y v:=fun {y v} hv=>by
   have hmem:y∈me :: names:=(List.of_mem_zip hv).1
   rcases (F.nms y hmem).2 with hk|hk
   ·have hk':env.kindOf y=some .local:=(kindE y).trans hk
    exact .inl ⟨hk',_,X.toInCall.ns,bindL_get hk' F.nodup hv⟩
   ·have hk':env.kindOf y=some .cell:=(kindE y).trans hk
    have:(env.cells.lookup y).isSome=true:=by rw [cellE];exact cellsFrom_some (.inr (mem_lookup_free hk))
    obtain ⟨c,hc⟩:=Option.isSome_iff_exists.mp this
    have hcell:=X.cell y c hc
    rw [bindC_get (by rw [hk'];decide) F.nodup hv] at hcell
    exact .inr ⟨.inl hk',c,hc,hcell⟩
  split at g
  ·rename_i hq
   cases g
   have:=enc_inj oky okme (Nat.eq_of_beq_eq_true hq)
   subst this
   refine ⟨.ref x,varAt (.head _),fun z=>(by cases z),fun _=>⟨dx,fun _=>none,[],rfl,fun z=>⟨fun q=>q.2,fun q=>⟨rfl,q⟩⟩,hi.map fun o=>X.toInCall.keep _ o,ne,hns.at fun o=>X.toInCall.keep _ o,.nil fun _=>rfl,.nil⟩⟩
  ·obtain ⟨rfl,v,hv,hr⟩:=hget y b p oky g
   refine ⟨v,varAt (.tail _ hv),fun _=>(hr.hide (H':=HA H env ⟨fun c=>∃ n,env.cells.lookup n=some c,x⟩ fun k b=>k=enc me∧(b=x∨b=dx)) fun b l q=>upH b q l).map fun b o q gg=>⟨q,e01.keep b o (fun t=>q (.inl (cn.tH b t))) gg⟩,fun z=>by cases z⟩
structure ClassOk (cx:Cx) (N:Addr) (mN:Str→Option Value) (a:Addr) (o:Obj) (fd:FuncData) (body:List Stmt) (me:Str) (names:List Str) (fp:FnP):Prop where
 cls:∀ h,cx.GI h→ClsAt h cx.C N mN
 ini:mN "__init__"=some (.ref a)
 fcls:o.cls=.type "function"
 fn:FunAt cx a o fd body (me :: names) fp
theorem class_ok (S:SndX cx G n) {N:Addr} {mN:Str→Option Value} {a:Addr} {o:Obj} {fd:FuncData} {body:List Stmt} {me:Str} {names:List Str} {fp:FnP} (K:ClassOk cx N mN a o fd body me names fp) {ps:List PV} {r:PV} (hr:runC (sem G n) fp ps=some r):CallOk cx (n+1+60) (.ref cx.C) ps r:=by
 intro A E s H Q vs room cn x h
 have F:=K.fn
 have X:=K.cls _ cn.gi
 obtain ⟨nm,qn,bs,sn,sub,col,dd,c0,c1,c2,c3,c5,hC⟩:=X.obj
 obtain ⟨hh,gg,dr,tk,os⟩:=s
 unfold runC at hr
 rw [F.par,List.map_cons] at hr
 obtain ⟨ρ,hz,k1⟩:=ob_i hr
 obtain ⟨⟨ρ',fo⟩,hex,k2⟩:=ob_i k1
 ·clear k1 hr
  refine wpAny_call_obj_init PySem.F.objNew hC X.ns K.ini (F.obj _ cn.gi) K.fcls fun h' x' dx Mk=>?_
  have e₀:Ext cx cx.T hh h':=.of_keep Mk.keeps
  have nx:¬ Live hh x':=fun ⟨oo,g⟩=>by rw [Mk.newX] at g;cases g
  have nd:¬ Live hh dx:=fun ⟨oo,g⟩=>by rw [Mk.newD] at g;cases g
  obtain ⟨ox,hx,hcx,hncx,hdx⟩:=Mk.inst
  have hdd:=Mk.dict ox hx
  have hi:IsIn h' x' cx.C dx:=⟨ox,hx,hcx,hncx,hdd⟩
  have hnsd:h'.Ns1 dx fun _=>none:=by
   rcases hdx with ⟨hn0,_⟩|⟨d',hd',_,hns'⟩
   ·rw [hn0] at hdd;cases hdd
   ·obtain rfl:=Option.some.inj (hd'.symm.trans hdd);exact hns'
  have hne:dx ≠ x':=by
   rcases hdx with ⟨hn0,_⟩|⟨d',hd',hne',_⟩
   ·rw [hn0] at hdd;cases hdd
   ·obtain rfl:=Option.some.inj (hd'.symm.trans hdd);exact hne'
  have hlen:vs.length=names.length:=(zipE_get (fun x hx=>(F.nms x (.tail _ hx)).1) x hz).1
  have room':(A.under (.builtin "type.__call__" ⟨.ref cx.C :: vs,[]⟩)).handled=none∧(A.under (.builtin "type.__call__" ⟨.ref cx.C :: vs,[]⟩)).depth+1+2*(n+60)<recursionLimit∧(A.under (.builtin "type.__call__" ⟨.ref cx.C :: vs,[]⟩)).units+3+16*(n+60)<cLine:=by
   refine ⟨room.1,?_,?_⟩
   ·show A.depth+1+1+2*(n+60)<recursionLimit
    have:=room.2.1;omega
   ·have hu:(A.under (.builtin "type.__call__" ⟨.ref cx.C :: vs,[]⟩)).units≤A.units+4:=by
     show A.units+_≤_
     exact Nat.add_le_add_left (Nat.le_of_ble_eq_true rfl) _
    have:=room.2.2;omega
  refine wpAny_call (codeAny_call_cells (binds:=(me :: names).zip (.ref x' :: vs)) (by have:=room'.2.1;omega) (F.obj _ (e₀.gi cn.gi)) F.data (cx.lim _ (e₀.gi cn.gi)) (F.code _ (e₀.gi cn.gi)) F.bodyE (F.bind (.ref x' :: vs) (by rw [List.length_cons,List.length_cons,hlen])) F.clo (bind_kinds F) (fun s₁ X1=>?_) F.co F.gen F.kind)
  obtain ⟨hW,I⟩:=init_frame (n:=n) F (s:=⟨h',gg,dr,tk,os⟩) room' cn e₀ nx nd hi hne hnsd x hz X1
  have es:Ext cx cx.T hh s₁.heap:=e₀.trans (.of_keep X1.toInCall.keep)
  obtain ⟨h₁,t₁,rfl⟩:=X1.toInCall.same
  cases fo with
  | next =>
   obtain ⟨i,hoi,k3⟩:=ob_i k2
   obtain rfl:=Option.some.inj k3
   refine S.ex F.css I hex fun h₂ t₂ ow' e sub I'=>⟨rfl,?_⟩
   obtain ⟨u,hu,_,h2⟩:=I'.vars me _ _ (F.nms me (.head _)).1 (ownI_i hoi)
   obtain ⟨d,mm,ws,rfl,hD,hi2,ne2,hn2,ha2,hr2⟩:=h2 rfl
   have nH:∀ z,ow' (enc me) z→¬ H z:=fun z q=>(I'.owL _ z q).2.1
   exact h.plain (tk:=t₂) (es.into e hW) (.inst (nH _ ((hD _).mpr (.inl rfl))) (nH _ ((hD _).mpr (.inr rfl))) hi2 ne2 hn2 ha2 (hr2.open' fun a q=>.inl q))
  | brk=>exact (Option.some_ne_none _ k2.symm).elim
  | ret _=>exact (Option.some_ne_none _ k2.symm).elim
structure TopOk (cx:Cx) (G:Gl):Prop extends GOk cx G where
 fns:∀ f fp,okN f=true→G.ft (enc f)=some fp→∃ a o fd body names,cx.mg f=some (.ref a)∧FunAt cx a o fd body names fp
 sps:∀ f v ps r,okN f=true→G.sp (enc f) ps=some r→cx.mg f=some v→CallOk cx 200 v ps r
 cts:∀ f fp,okN f=true→G.ct (enc f)=some fp→cx.mg f=some (.ref cx.C)∧∃ N mN a o fd body me names,ClassOk cx N mN a o fd body me names fp
 mts:∀ m fp,okN m=true→G.mt (enc m)=some fp→∃ a o fd body names,FunAt cx a o fd body names fp∧∀ {A:Around} {E:Value→Shared→Prop} {s:Shared} {H:Hid} {Q:Value × List Value→Shared→Prop} {v:Value} {ks:List Nat} {qs:List PV} {pl:Sem Bool},
  cx.GI s.heap→Rep cx s.heap H v (.inst ks qs)→PEnv.has ks (enc m)=false→Q (.ref a,[v]) s→wpAny (model cx.prog cx.w) A (getMethod v m pl) Q E s
 rest:∀ n,SndN cx G n→Rest cx G n
theorem fn_e {n f:Nat} {ps:List PV} {r:PV} {P:Prop} (he:(sem G (n+1)).fn f ps=some r) (a:140≤n→G.sp f ps=some r→P) (b:∀ fp,G.ft f=some fp→runF (sem G n) fp ps=some r→P) (c:∀ fp,G.ct f=some fp→runC (sem G n) fp ps=some r→P):P:=by
 rcases om_i he with ⟨u,h1,h2⟩|h1
 ·obtain rfl:=Option.some.inj h2
  obtain ⟨h3,h4⟩:=ogo_i h1
  exact a (Nat.le_of_ble_eq_true h3) h4
 ·rcases om_i h1 with ⟨fp,h2,h3⟩|h2
  ·exact b fp h2 h3
  ·exact ob_e h2 fun fp h3 h4=>c fp h3 h4
theorem all_ok (T:TopOk cx G):∀ n,SndX cx G n∧AsgC cx G n
 | 0=>⟨⟨⟨fun _ _ e=>nos e,fun _ _ e=>nos e,fun f v ps r _ _ e=>nos e,fun m ps r _ e=>nos e⟩,fun _ _ e=>nos e⟩,asgC_zero⟩
 | n+1=>by
  obtain ⟨S,AC⟩:=all_ok T n
  have g:=T.toGOk
  have S1:SndN cx G (n+1):=by
   refine ⟨fun hc I he h=>ev_step g S.toSndN (T.rest n S.toSndN) hc I.down he h,fun hc I he h=>ts_step S.toSndN hc I.down he h,fun f v ps r ok hv he=>?_,fun m ps r ok he=>?_⟩
   ·refine fn_e he (fun hb hu=>fun room=>T.sps f v ps _ ok hu hv (room.le (Nat.add_le_add_right (Nat.le_succ_of_le hb) 60))) (fun fp hfp he=>?_) fun fp hfp he=>?_
    ·obtain ⟨a,o,fd,body,names,hmg,F⟩:=T.fns f fp ok hfp
     obtain rfl:=Option.some.inj (hv.symm.trans hmg)
     exact fun room=>fun cn x h=>fun_ok S F he room cn x h
    ·obtain ⟨hmg,N,mN,a,o,fd,body,me,names,K⟩:=T.cts f fp ok hfp
     obtain rfl:=Option.some.inj (hv.symm.trans hmg)
     exact fun room=>fun cn x h=>class_ok S K he room cn x h
   ·refine ob_e he fun fp hfp he=>?_
    obtain ⟨a,o,fd,body,names,F,hm⟩:=T.mts m fp ok hfp
    exact ⟨a,o,fd,F.obj,F.data,fun room=>fun cn x h=>fun_ok S F he room cn x h,fun gi x hh hq=>hm gi x hh hq⟩
  exact ⟨⟨S1,fun hc I he h=>exs_ok g S AC hc (I.le (Nat.add_le_add_right (Nat.le_succ n) 60)) he (h.room I.room)⟩,asgC_succ g S.toSndN S1⟩
end
end Mine
end
section
set_option maxRecDepth 100000
open PySem PySem.Calls PyProof.Rows PySem.W
set_option genSizeOf false
set_option genInjectivity false
namespace Mine
section
variable {cx:Cx} {A:Around} {E:Value→Shared→Prop} {s:Shared} {H:Hid} {Q:Value→Shared→Prop}
theorem ints_rep {h:Heap} {a:Int}:∀ {n:Nat} {vs:List Value},vs.length=n→(∀ (i:Nat) (v:Value),vs[i]?=some v→∃ t,v=.int (a+i*1) t)→RepAll cx h H vs (rangeUp a n)
 | 0,[],_,_=>.nil
 | n+1,v :: vs,hl,hv=>by
  obtain ⟨t,rfl⟩:=hv 0 v rfl
  have e:a+((0:Nat):Int)*1=a:=by simp
  rw [e]
  refine .cons (.int a t) (ints_rep (a:=a+1) (by simpa using hl) fun i w hw=>?_)
  obtain ⟨t',rfl⟩:=hv (i+1) w (by simpa using hw)
  exact ⟨t',congrArg (Value.int · t') (by rw [Int.natCast_add,Int.mul_one,Int.mul_one,Int.add_comm (i:Int),← Int.add_assoc];rfl)⟩
 | 0,_ :: _,hl,_=>by cases hl
 | n+1,[],hl,_=>by cases hl
theorem list_range_ok {r:Addr} {a b:Int} {t u v:Tok} (hh:A.handled=none) (c:Cn cx s.heap H) (ha:small a=true) (hb:small b=true) (hr:IsRange s.heap r a b 1 t u v) (h:RetF cx s H false (.list (rangeUp a (b - a).toNat)) Q) :
  wpAny (model cx.prog cx.w) A (call (.type "list") [.ref r]) Q E s:=by
 obtain ⟨h1,h2⟩:=range_small ha hb
 refine call_list_range hh hr h1 (rangeSize_nat a b) (by omega) fun h' tk acc c' hk hS hi=>?_
 have nl:¬ Live s.heap s.heap.objs.size:=not_live_size
 have e:acc.toList.toArray=acc:=by simp
 refine h.plain (.of_keep hk) (.list (fun q=>nl (c.hid _ q)) ⟨c',by rw [hS,e]⟩ (ints_rep (by rw [Array.length_toList];exact hi.1) fun i w hw=>hi.2 i w (by simpa using hw)))
theorem lrange_ok {vs:List Value} {ps:List PV} {r:PV} (hh:A.handled=none) (c:Cn cx s.heap H) (x:RepAll cx s.heap H vs ps) (e:biV .listRange ps=some r) (h:RetF cx s H false r Q) :
  wpAny (model cx.prog cx.w) A (call (.type "range") vs) (fun v s₁=>cx.GI s₁.heap∧wpAny (model cx.prog cx.w) A (call (.type "list") [v]) Q E s₁) E s:=by
 obtain ⟨x',hx,e1⟩:=ob_i e
 obtain rfl:=Option.some.inj e1
 refine range_call x hx fun a b r t u v tk sa sb ex hr e₂ _=>?_
 subst ex
 exact ⟨e₂.gi c.gi,list_range_ok (s:={ s with heap:=_,toks:=_ }) hh (c.ext e₂) sa sb hr (h.after e₂)⟩
end
end Mine
end
section
set_option maxRecDepth 100000
open PySem PySem.Calls PyProof.Rows PySem.W
set_option genSizeOf false
set_option genInjectivity false
namespace Mine
noncomputable abbrev ZipHeld (h:Heap) (z TI TO T:Addr) (b:Bool):Prop :=
 h.get? z=some { cls:=.type "zip",dict:=none,data:=.fields #[rawInt T,.bool b,.bool false,.ref TI,.ref TO],slots:=#[] }
section
variable {prog:Program} {w:World} {A:Around} {E:Value→Shared→Prop} {s:Shared}
theorem wpAny_loadIfAlive {M:Model} {a:Addr} {Q:Option Obj→Shared→Prop} (h:Q (s.heap.get? a) s):wpAny M A (loadIfAlive a) Q E s:=fun Γ p hΓ=>by
 unfold loadIfAlive
 first
  | exact h
  | (rw [Sem.wp_loadIfAlive];exact h)
theorem held_free {z TI TO T:Addr} {b:Bool} (hz:ZipHeld s.heap z TI TO T b) (hT:∃ o,s.heap.get? T=some o) :
  wpAny (model prog w) A (Builtin.SmallTypes.ownedTupleIsFree (.ref z)) (fun r s'=>r=false∧∃ h₁,s'={ s with heap:=h₁ }∧ZipHeld h₁ z TI TO T true∧Heap.SameBut z s.heap h₁) E s:=by
 unfold Builtin.SmallTypes.ownedTupleIsFree
 refine wpAny_bind (wpAny_field hz rfl (x:=rawInt T) rfl ?_)
 show wpAny _ _ (loadIfAlive ((T:Int).toNat) >>= _) _ _ _
 refine wpAny_bind (wpAny_loadIfAlive ?_)
 obtain ⟨oT,hoT⟩:=hT
 rw [Int.toNat_natCast,hoT]
 show wpAny _ _ (field (.ref z) 1 >>= _) _ _ _
 refine wpAny_bind (wpAny_field hz rfl (x:=.bool b) rfl ?_)
 cases b with
 | true=>exact wpAny_pure ⟨rfl,s.heap,rfl,hz,.refl ..⟩
 | false =>
  show wpAny _ _ (setField (.ref z) 1 (.bool true) >>= _) _ _ _
  exact wpAny_bind (wpAny_setField_rec hz (by simp) fun h₁ hz₁ hs₁=>wpAny_pure ⟨rfl,h₁,rfl,hz₁,hs₁⟩)
theorem zip_held_item {z TI TO T i1 i2 l1 l2:Addr} {k1 k2:Nat} {xs ys:Array Value} {x y:Value} {b:Bool} {Q:Value→Shared→Prop} (D:ZipApart z TI TO i1 i2 l1 l2)
  (hz:ZipHeld s.heap z TI TO T b) (hT:∃ o,s.heap.get? T=some o) (hTI:IsPair s.heap TI (.ref i1) (.ref i2))
  (h1:s.heap.IsListIter i1 l1 k1) (h2:s.heap.IsListIter i2 l2 k2) (hl1:s.heap.IsList l1 xs) (hl2:s.heap.IsList l2 ys) (hx:xs[k1]?=some x) (hy:ys[k2]?=some y)
  (hQ:∀ h',ZipHeld h' z TI TO T true→h'.IsListIter i1 l1 (k1+1)→h'.IsListIter i2 l2 (k2+1)→IsPair h' s.heap.objs.size x y→(∀ c o,c ≠ z→c ≠ i1→c ≠ i2→s.heap.get? c=some o→h'.get? c=some o)→Q (.ref s.heap.objs.size) { s with heap:=h' }) :
  wpAny (model prog w) A (Builtin.«zip.__next__» ⟨[.ref z],[]⟩) (fun fin s'=>∃ v,fin=.done (.ret v)∧Q v s') E s:=by
 show wpAny _ _ (field (.ref z) 2 >>= _) _ _ _
 refine wpAny_bind (wpAny_field hz rfl (x:=.bool false) rfl ?_)
 show wpAny _ _ (field (.ref z) 3 >>= _) _ _ _
 refine wpAny_bind (wpAny_field hz rfl (x:=.ref TI) rfl ?_)
 refine wpAny_bind (wpAny_seqItems hTI rfl ?_)
 show wpAny _ _ (Builtin.SmallTypes.ownedTupleIsFree (.ref z) >>= _) _ _ _
 refine wpAny_bind (wpAny_mono (held_free hz hT) (fun r s' hr=>?_) fun _ _ e=>e)
 obtain ⟨rfl,h₁,rfl,hz₁,hs₁⟩:=hr
 simp only [Bool.false_eq_true,if_false,List.forIn_toArray,List.forIn_cons,List.forIn_nil]
 refine wpAny_bind (wpAny_bind (wpAny_bind (wpAny_holding ?_)))
 show wpAny _ _ (Builtin.SmallTypes.nextOf (.ref i1) >>= _) _ _ _
 refine wpAny_bind (wpAny_nextOf_list_item (h1.extBut hs₁.extBut D.i1z) (hl1.extBut hs₁.extBut D.l1z) hx fun h₂ h1₂ hs₂=>wpAny_pure ?_)
 refine wpAny_pure (wpAny_bind (wpAny_bind (wpAny_holding ?_)))
 show wpAny _ _ (Builtin.SmallTypes.nextOf (.ref i2) >>= _) _ _ _
 refine wpAny_bind (wpAny_nextOf_list_item ((h2.extBut hs₁.extBut D.i2z).extBut hs₂.extBut D.i12.symm) ((hl2.extBut hs₁.extBut D.l2z).extBut hs₂.extBut D.l2i1) hy fun h₃ h2₃ hs₃=>wpAny_pure ?_)
 refine wpAny_pure (wpAny_pure ?_)
 show wpAny _ _ (newTuple [x,y] >>= _) _ _ _
 refine wpAny_bind (wpAny_newTuple ?_)
 have hsz:h₃.objs.size=s.heap.objs.size:=by rw [hs₃.1,hs₂.1,hs₁.1]
 have hz₃:ZipHeld h₃ z TI TO T true:=hs₃.extBut _ _ D.i2z.symm (hs₂.extBut _ _ D.i1z.symm hz₁)
 have h1₃:h₃.IsListIter i1 l1 (k1+1):=h1₂.extBut hs₃.extBut D.i12
 have hk₃:∀ c o,c ≠ z→c ≠ i1→c ≠ i2→s.heap.get? c=some o→h₃.get? c=some o:=fun c o c1 c3 c4 e =>
  hs₃.extBut _ _ c4 (hs₂.extBut _ _ c3 (hs₁.extBut _ _ c1 e))
 have hQ':=hQ (h₃.push { cls:=.type "tuple",data:=.seq #[x,y] }) (Heap.get?_push_of_some _ hz₃) (by obtain ⟨o,e,r⟩:=h1₃;exact ⟨o,Heap.get?_push_of_some _ e,r⟩) (by obtain ⟨o,e,r⟩:=h2₃;exact ⟨o,Heap.get?_push_of_some _ e,r⟩) (by rw [← hsz];exact Heap.get?_push_size _ rfl)
  (fun c o a b d e=>Heap.get?_push_of_some _ (hk₃ c o a b d e))
 refine wpAny_pure ⟨_,rfl,?_⟩
 show Q (.ref h₃.objs.size) _
 rw [hsz]
 exact hQ'
theorem zip_held_end {z TI TO T i1 i2 l1 l2:Addr} {k1 k2:Nat} {xs ys:Array Value} {b:Bool} {Q:Fin→Shared→Prop} (hh:A.handled=none) (D:ZipApart z TI TO i1 i2 l1 l2)
  (hz:ZipHeld s.heap z TI TO T b) (hT:∃ o,s.heap.get? T=some o) (hTI:IsPair s.heap TI (.ref i1) (.ref i2))
  (h1:s.heap.IsListIter i1 l1 k1) (h2:s.heap.IsListIter i2 l2 k2) (hl1:s.heap.IsList l1 xs) (hl2:s.heap.IsList l2 ys) (hend:xs[k1]?=none∨ys[k2]?=none)
  (hE:∀ h' e,(∀ c o,c ≠ z→c ≠ i1→c ≠ i2→s.heap.get? c=some o→h'.get? c=some o)→(∃ o,h'.get? e=some o∧o.cls=.type "StopIteration")→E (.ref e) { s with heap:=h' }) :
  wpAny (model prog w) A (Builtin.«zip.__next__» ⟨[.ref z],[]⟩) Q E s:=by
 show wpAny _ _ (field (.ref z) 2 >>= _) _ _ _
 refine wpAny_bind (wpAny_field hz rfl (x:=.bool false) rfl ?_)
 show wpAny _ _ (field (.ref z) 3 >>= _) _ _ _
 refine wpAny_bind (wpAny_field hz rfl (x:=.ref TI) rfl ?_)
 refine wpAny_bind (wpAny_seqItems hTI rfl ?_)
 show wpAny _ _ (Builtin.SmallTypes.ownedTupleIsFree (.ref z) >>= _) _ _ _
 refine wpAny_bind (wpAny_mono (held_free hz hT) (fun r s' hr=>?_) fun _ _ e=>e)
 obtain ⟨rfl,h₁,rfl,hz₁,hs₁⟩:=hr
 simp only [Bool.false_eq_true,if_false,List.forIn_toArray,List.forIn_cons,List.forIn_nil]
 refine wpAny_bind (wpAny_bind (wpAny_bind (wpAny_holding ?_)))
 show wpAny _ _ (Builtin.SmallTypes.nextOf (.ref i1) >>= _) _ _ _
 cases hx:xs[k1]? with
 | none =>
  refine wpAny_bind (wpAny_nextOf_list_end hh (h1.extBut hs₁.extBut D.i1z) (hl1.extBut hs₁.extBut D.l1z) hx fun h₂ e hs₂ he=>?_)
  exact hE h₂ e (fun c o c1 c3 _ x=>hs₂ _ _ c3 (hs₁.extBut _ _ c1 x)) he
 | some x =>
  have hy:ys[k2]?=none:=by rcases hend with h|h;rw [hx] at h;cases h;exact h
  refine wpAny_bind (wpAny_nextOf_list_item (h1.extBut hs₁.extBut D.i1z) (hl1.extBut hs₁.extBut D.l1z) hx fun h₂ h1₂ hs₂=>wpAny_pure ?_)
  refine wpAny_pure (wpAny_bind (wpAny_bind (wpAny_holding ?_)))
  show wpAny _ _ (Builtin.SmallTypes.nextOf (.ref i2) >>= _) _ _ _
  refine wpAny_bind (wpAny_nextOf_list_end hh ((h2.extBut hs₁.extBut D.i2z).extBut hs₂.extBut D.i12.symm) ((hl2.extBut hs₁.extBut D.l2z).extBut hs₂.extBut D.l2i1) hy fun h₃ e hs₃ he=>?_)
  exact hE h₃ e (fun c o c1 c3 c4 x=>hs₃ _ _ c4 (hs₂.extBut _ _ c3 (hs₁.extBut _ _ c1 x))) he
theorem pyNext_held_item {z TI TO T i1 i2 l1 l2:Addr} {k1 k2:Nat} {xs ys:Array Value} {x y:Value} {b:Bool} {Q:Option Value→Shared→Prop} (D:ZipApart z TI TO i1 i2 l1 l2)
  (hz:ZipHeld s.heap z TI TO T b) (hT:∃ o,s.heap.get? T=some o) (hTI:IsPair s.heap TI (.ref i1) (.ref i2))
  (h1:s.heap.IsListIter i1 l1 k1) (h2:s.heap.IsListIter i2 l2 k2) (hl1:s.heap.IsList l1 xs) (hl2:s.heap.IsList l2 ys) (hx:xs[k1]?=some x) (hy:ys[k2]?=some y)
  (hQ:∀ h',ZipHeld h' z TI TO T true→h'.IsListIter i1 l1 (k1+1)→h'.IsListIter i2 l2 (k2+1)→IsPair h' s.heap.objs.size x y→(∀ c o,c ≠ z→c ≠ i1→c ≠ i2→s.heap.get? c=some o→h'.get? c=some o)→Q (some (.ref s.heap.objs.size)) { s with heap:=h' }) :
  wpAny (model prog w) A (pyNext (.ref z)) Q E s:=by
 have hTy:s.TypeIs (.ref z) "zip":=⟨_,hz,rfl⟩
 unfold pyNext
 refine wpAny_bind (wpAny_attempt (wpAny_callSpecial?_slot (name:=Str.ofString "__next__") hTy F.slot_zip_next
  (wpAny_call_entry F.slot_zip_next hTy F.entry_zip_next
   (zip_held_item D hz hT hTI h1 h2 hl1 hl2 hx hy fun h' a1 a2 a3 a4 a5=>wpAny_pure (hQ h' a1 a2 a3 a4 a5)) (F.args_zip_next_1 _))))
theorem pyNext_held_end {z TI TO T i1 i2 l1 l2:Addr} {k1 k2:Nat} {xs ys:Array Value} {b:Bool} {Q:Option Value→Shared→Prop} (hh:A.handled=none) (D:ZipApart z TI TO i1 i2 l1 l2)
  (hz:ZipHeld s.heap z TI TO T b) (hT:∃ o,s.heap.get? T=some o) (hTI:IsPair s.heap TI (.ref i1) (.ref i2))
  (h1:s.heap.IsListIter i1 l1 k1) (h2:s.heap.IsListIter i2 l2 k2) (hl1:s.heap.IsList l1 xs) (hl2:s.heap.IsList l2 ys) (hend:xs[k1]?=none∨ys[k2]?=none)
  (hQ:∀ h',(∀ c o,c ≠ z→c ≠ i1→c ≠ i2→s.heap.get? c=some o→h'.get? c=some o)→Q none { s with heap:=h' }) :
  wpAny (model prog w) A (pyNext (.ref z)) Q E s:=by
 have hTy:s.TypeIs (.ref z) "zip":=⟨_,hz,rfl⟩
 unfold pyNext
 refine wpAny_bind (wpAny_attempt (wpAny_callSpecial?_slot (name:=Str.ofString "__next__") hTy F.slot_zip_next
  (wpAny_call_entry F.slot_zip_next hTy F.entry_zip_next (zip_held_end hh D hz hT hTI h1 h2 hl1 hl2 hend fun h' e hk he=>?_) (F.args_zip_next_1 _))))
 obtain ⟨o,ho,hc⟩:=he
 refine wpAny_bind (wpAny_isInstance (T:="StopIteration") (b:=true) ⟨o,ho,hc⟩ isSubtype_stop ?_)
 exact wpAny_pure (hQ _ hk)
end
end Mine
end
section
set_option maxRecDepth 100000
open PySem PySem.Calls PyProof.Rows PySem.W
set_option genSizeOf false
set_option genInjectivity false
namespace Mine
theorem keys_none_zip:typeLookup (.type "zip") "keys"=pure none:=am_miss_of_fast (by kernel_rfl)
theorem zip_getattr_none:typeLookup (.type "zip") "__getattr__"=pure none:=am_miss_of_fast (by kernel_rfl)
theorem entry_zip_getattribute':entryFor table "zip.__getattribute__"=some Builtin.«object.__getattribute__» :=
 entryFor_alias (id':="object.__getattribute__") (by kernel_rfl) (by decide +kernel) (by decide +kernel) (by kernel_rfl)
theorem meets_getattribute_miss_zip (a:Addr) (xs:Array Value) (name:Str) (u:Tok) (hmiss:typeLookup (.type "zip") name=pure none) (hname:(["__module__","__name__","__qualname__","__doc__","__annotations__"]:List Str).contains name=false) (hsz:name.length+100≤sizeLine:=by size_fits) :
  Meets (Builtin.«object.__getattribute__» ⟨[.ref a,.str name u],[]⟩) (fun A R s=>s.heap.get? a=some { cls:=.type "zip",dict:=none,data:=.fields xs,slots:=#[] }∧raisesAttr (.ref a) name A R s) :=
 Meets.of_wp fun prog w A R s hs=>by
  obtain ⟨hp,g,d,tk,os⟩:=s
  obtain ⟨hx,hs⟩:=hs
  have hT:(⟨hp,g,d,tk,os⟩:Shared).TypeIs (.ref a) "zip":=⟨_,hx,rfl⟩
  unfold Builtin.«object.__getattribute__»
  repeat (any_goals (first|assumption|wp_step))
  simp only [hname,Bool.false_eq_true,if_false]
  repeat (any_goals (first|assumption|wp_step))
  exact wpAny_raiseAttrError hs.1 hs.2 (attrMsg_fits (by decide +kernel) hsz)
theorem keys_zip {prog:Program} {w:World} {A:Around} {E:Value→Shared→Prop} {s:Shared} {a:Addr} {xs:Array Value} {Q:Option Value→Shared→Prop} (hx:s.heap.get? a=some { cls:=.type "zip",dict:=none,data:=.fields xs,slots:=#[] }) (hA:A.handled=none)
  (h:∀ h' tk,(∀ b o,s.heap.get? b=some o→h'.get? b=some o)→Q none { s with heap:=h',toks:=tk }):wpAny (model prog w) A (getAttr? (.ref a) "keys") Q E s:=by
 obtain ⟨hp,g,d,tk,os⟩:=s
 have hT:∀ tk',(⟨hp,g,d,tk',os⟩:Shared).TypeIs (.ref a) "zip":=fun _=>⟨_,hx,rfl⟩
 have f1:=sub_AttributeError
 have f3:=F.slot_zip_getattribute.lookup
 have f4:=F.slot_zip_getattribute.bind (.ref a)
 have f5:=zip_getattr_none
 unfold getAttr? getAttrBy? getAttrBy
 repeat (any_goals (first|assumption|exact hT _|((with_reducible show wpAny _ _ (call (Value.builtin "zip.__getattribute__") _ _) _ _ _);refine call_meets F.slot_zip_getattribute (hT _) entry_zip_getattribute' (F.args_zip_getattribute_2 _ _) (meets_getattribute_miss_zip a xs "keys" _ keys_none_zip (by decide) (by decide +kernel)) ⟨hx,hA,fun h' tk' e hx'=>?_⟩)|wp_step))
 obtain ⟨t',u',he⟩:=hx'.there
 show wpAny _ _ (getattributeRaised _ _ _ _ _ _ _) _ _ _
 unfold getattributeRaised
 repeat (any_goals (first|assumption|wp_step))
 exact h h' tk' hx'.keeps
theorem plain_dict_loop:plainId "dict.update.loop"=true:=by decide +kernel
theorem entry_dict_loop:entryFor table "dict.update.loop"=some Builtin.«dict.update.loop»:=entryFor_of_tree (by kernel_rfl)
section
variable {prog:Program} {w:World} {K:Type} [DecidableEq K] {knd:KeyKind prog w K} {A:Around}
noncomputable def storedAll (acc:List (K × Value)):List (K × Value × Value)→List (K × Value)
 | []=>acc
 | x :: l=>storedAll (stored acc x.1 x.2.2) l
theorem dict_loop {d:Addr} {it res:Value} {E:Value→Shared→Prop} {wr:List Addr} {items:List (K × Value × Value)} (J:Nat→Heap→Prop)
  (hkeys:∀ x∈items,knd.is x.1 x.2.1=true) (hd:d ∉ wr)
  (hJ:∀ i h h',J i h→Heap.SameBut d h h'→J i h')
  (step:∀ i x (s:Shared) (Q:Option Value→Shared→Prop),items[i]?=some x→J i s.heap→(∀ h' a,J (i+1) h'→IsTp h' a [x.2.1,x.2.2]→(∀ c o,c ∉ wr→s.heap.get? c=some o→h'.get? c=some o)→Q (some (.ref a)) { s with heap:=h' })→wpAny (model prog w) A.in1 (pyNext it) Q E s)
  (stop:∀ (s:Shared) (Q:Option Value→Shared→Prop),J items.length s.heap→(∀ h',(∀ c o,c ∉ wr→s.heap.get? c=some o→h'.get? c=some o)→Q none { s with heap:=h' })→wpAny (model prog w) A.in1 (pyNext it) Q E s)
  {R:Result→Shared→Prop} (hE:∀ e s,E e s→R (.error e) s):∀ (n i:Nat) (j:Int) (acc:List (K × Value)) (s:Shared),i+n=items.length→acc.length+n≤sizeLine→J i s.heap→s.heap.DictOf knd d acc →
   (∀ h' tk,h'.DictOf knd d (storedAll acc (items.drop i))→(∀ c o,c ≠ d→c ∉ wr→s.heap.get? c=some o→h'.get? c=some o)→R (.ok (.ret res)) { s with heap:=h',toks:=tk }) →
   codeAny (model prog w) A (.builtin "dict.update.loop" ⟨[.ref d,it,.int j 0,res],[]⟩) R s
 | 0,i,j,acc,s,hi,hz,hj,ha,hR=>by
  refine codeAny_builtin entry_dict_loop ?_
  rw [Around.under_plainId plain_dict_loop]
  show wpAny _ A.in1 (pyNext it >>= _) _ _ _
  have hil:i=items.length:=by omega
  subst hil
  refine wpAny_bind (wpAny_mono (stop s _ hj fun h' hk=>?_) (fun _ _ x=>x) fun e s' x=>hE e s' x)
  show wpAny _ A.in1 (Builtin.Dict.addKeywords d [] >>= fun _=>ret res) _ _ _
  refine wpAny_bind ?_
  unfold Builtin.Dict.addKeywords
  refine wpAny_pure ?_
  refine wpAny_pure ?_
  exact hR h' s.toks (by
   rw [List.drop_length]
   exact ha.at fun o e=>hk _ _ hd e) fun c o _ h2 e=>hk _ _ h2 e
 | n+1,i,j,acc,s,hi,hz,hj,ha,hR=>by
  refine codeAny_builtin entry_dict_loop ?_
  rw [Around.under_plainId plain_dict_loop]
  show wpAny _ A.in1 (pyNext it >>= _) _ _ _
  have hlt:i<items.length:=by omega
  refine wpAny_bind (wpAny_mono (step i items[i] s _ (List.getElem?_eq_getElem hlt) hj fun h' a hj' hp hk=>?_) (fun _ _ x=>x) fun e s' x=>hE e s' x)
  show wpAny _ A.in1 (holding [Value.ref a] _ >>= fun _=>again (.builtin "dict.update.loop" ⟨[.ref d,it,rawInt (j+1),res],[]⟩)) _ _ _
  refine wpAny_bind (wpAny_holding ?_)
  refine wpAny_bind (wpAny_tryCatch ?_)
  show wpAny _ A.in1 (Builtin.Dict.pairItems (.ref a)) _ _ _
  unfold Builtin.Dict.pairItems
  obtain ⟨cnt,hp⟩:=hp
  refine wpAny_bind (wpAny_typeOf (T:="tuple") ⟨_,hp,rfl⟩ ?_)
  rw [if_pos (by decide)]
  refine wpAny_bind (wpAny_seqItems hp rfl ?_)
  refine wpAny_pure ?_
  show wpAny _ A.in1 (holding [items[i].2.1,items[i].2.2] (dictSet d items[i].2.1 items[i].2.2)) _ _ _
  refine wpAny_holding ?_
  have ha':Heap.DictOf knd h' d acc:=ha.at fun o e=>hk _ _ hd e
  refine wpAny_dictSet_pairs (hsz:=by omega) (hkeys _ (List.getElem_mem hlt)) ha' fun h₂ hd₂ hs₂=>?_
  refine wpAny_pure ⟨plainId_quiet plain_dict_loop _,?_⟩
  refine dict_loop J hkeys hd hJ step stop hE n (i+1) (j+1) _ _ (by omega) (by have:=stored_length_le acc items[i].1 items[i].2.2;omega) (hJ _ _ _ hj' hs₂) hd₂ fun h₃ tk hd₃ hk₃=>?_
  refine hR h₃ tk ?_ fun c o h1 h2 e=>hk₃ _ _ h1 h2 (hs₂.extBut _ _ h1 (hk _ _ h2 e))
  rw [List.drop_eq_getElem_cons hlt]
  exact hd₃
theorem call_dict_gen {src:Addr} {T:String} {s:Shared} {E:Value→Shared→Prop} {Q:Value→Shared→Prop} {items:List (K × Value × Value)} (J:Value→Nat→Heap→Prop) (wr:Value→List Addr)
  (hT:s.TypeIs (.ref src) T) (hTd:T ≠ "dict") (hsz:items.length≤sizeLine)
  (hkeys:∀ x∈items,knd.is x.1 x.2.1=true) (hd:∀ it h,J it 0 h→s.heap.objs.size ∉ wr it)
  (hJ:∀ it i h h',J it i h→Heap.SameBut s.heap.objs.size h h'→J it i h')
  (miss:∀ (s₁:Shared) (Q:Option Value→Shared→Prop),(∀ b o,s.heap.get? b=some o→s₁.heap.get? b=some o)→(∀ h' tk,(∀ b o,s₁.heap.get? b=some o→h'.get? b=some o)→Q none { s₁ with heap:=h',toks:=tk })→wpAny (model prog w) A.in1.in1 (getAttr? (.ref src) "keys") Q E s₁)
  (iter:∀ (s₁:Shared) (Q:Value→Shared→Prop),(∀ b o,s.heap.get? b=some o→s₁.heap.get? b=some o)→s.heap.objs.size<s₁.heap.objs.size→(∀ it h' tk,(∀ b o,s₁.heap.get? b=some o→h'.get? b=some o)→J it 0 h'→Q it { s₁ with heap:=h',toks:=tk })→wpAny (model prog w) A.in1.in1 (pyIter (.ref src)) Q E s₁)
  (step:∀ it i x (s:Shared) (Q:Option Value→Shared→Prop),items[i]?=some x→J it i s.heap→(∀ h' a,J it (i+1) h'→IsTp h' a [x.2.1,x.2.2]→(∀ c o,c ∉ wr it→s.heap.get? c=some o→h'.get? c=some o)→Q (some (.ref a)) { s with heap:=h' })→wpAny (model prog w) A.in1.in1 (pyNext it) Q E s)
  (stop:∀ it (s:Shared) (Q:Option Value→Shared→Prop),J it items.length s.heap→(∀ h',(∀ c o,c ∉ wr it→s.heap.get? c=some o→h'.get? c=some o)→Q none { s with heap:=h' })→wpAny (model prog w) A.in1.in1 (pyNext it) Q E s)
  (h:∀ it h₀ h' tk,J it 0 h₀→h'.DictOf knd s.heap.objs.size (storedAll [] items)→(∀ c o,c ∉ wr it→s.heap.get? c=some o→h'.get? c=some o)→Q (.ref s.heap.objs.size) { s with heap:=h',toks:=tk }) :
  wpAny (model prog w) A (call (.type "dict") [.ref src]) Q E s:=by
 refine callType_codes (Q₁:=fun obj s₁=>obj=.ref s.heap.objs.size∧s₁={ s with heap:=s.heap.push { cls:=.type "dict",data:=.dict #[] } }) F.kt_called_dict (F.kt_typeCall_dict_1 _) F.entry_dict_init (kt_code_dict_new _ ⟨rfl,rfl⟩) ?_
 rintro obj s₁ ⟨rfl,rfl⟩
 have hnew:(s.heap.push { cls:=.type "dict",data:=.dict #[] }).DictOf knd s.heap.objs.size []:=Heap.DictOf.new s.heap
 have keep0:∀ b o,s.heap.get? b=some o→(s.heap.push { cls:=.type "dict",data:=.dict #[] }).get? b=some o:=fun b o e=>Heap.get?_push_of_some _ e
 refine ⟨hnew.typeIs,F.args_dict_init_2 _ _,?_⟩
 unfold Builtin.«dict.__init__»
 refine wpAny_bind ?_
 unfold Builtin.Dict.selfAndRest
 refine wpAny_bind (wpAny_notOrdered_dict hnew.typeIs ?_)
 show wpAny _ _ (pure (s.heap.objs.size,[Value.ref src])) _ _ _
 refine wpAny_pure ?_
 show wpAny _ _ (Builtin.Dict.updateFrom "dict.__init__" s.heap.objs.size (.ref src) [] .none) _ _ _
 unfold Builtin.Dict.updateFrom
 refine wpAny_bind (wpAny_typeOf (T:=T) (by obtain ⟨o,ho,hc⟩:=hT;exact ⟨o,keep0 _ _ ho,hc⟩) ?_)
 rw [if_pos (by simpa using hTd)]
 refine wpAny_bind (wpAny_mono (miss ⟨s.heap.push { cls:=.type "dict",data:=.dict #[] },s.gens,s.drawn,s.toks,s.os⟩ _ keep0 fun h₁ t₁ k₁=>?_) (fun _ _ x=>x) fun e s' x=>x)
 rw [if_pos (show (none:Option Value).isNone=true from rfl)]
 refine wpAny_bind (wpAny_rule ?_)
 have lt1:s.heap.objs.size<h₁.objs.size:=by
  exact Heap.lt_size (k₁ _ _ (Heap.get?_push_size s.heap (o:={ cls:=.type "dict",data:=.dict #[] }) rfl))
 refine wpAny_bind (wpAny_mono (iter ⟨h₁,s.gens,s.drawn,t₁,s.os⟩ _ (fun b o e=>k₁ _ _ (keep0 _ _ e)) lt1 fun it h₂ t₂ k₂ j0=>?_) (fun _ _ x=>x) fun e s' x=>x)
 have hd₂:Heap.DictOf knd h₂ s.heap.objs.size []:=hnew.at fun o e=>k₂ _ _ (k₁ _ _ e)
 refine wpAny_pure ⟨plainId_quiet plain_dict_loop _,?_⟩
 refine dict_loop (J it) hkeys (hd it _ j0) (hJ it) (step it) (stop it) (fun e s' x=>x) items.length 0 0 [] ⟨h₂,s.gens,s.drawn,t₂,s.os⟩ (by omega) (by simpa using hsz) j0 hd₂ fun h₃ t₃ hd₃ k₃=>?_
 refine ⟨rfl,h it _ h₃ t₃ j0 hd₃ fun c o h1 e=>k₃ _ _ (fun x=>absurd (Heap.lt_size e) (by rw [x];exact Nat.lt_irrefl _)) h1 (k₂ _ _ (k₁ _ _ (keep0 _ _ e)))⟩
theorem call_dict_pairs {src:Addr} {T:String} {s:Shared} {E:Value→Shared→Prop} {Q:Value→Shared→Prop} {it:Value} {wr:List Addr} {items:List (K × Value × Value)} (J:Nat→Heap→Prop)
  (hT:s.TypeIs (.ref src) T) (hTd:T ≠ "dict") (hsz:items.length≤sizeLine)
  (hkeys:∀ x∈items,knd.is x.1 x.2.1=true) (hd:s.heap.objs.size ∉ wr)
  (hJ:∀ i h h',J i h→Heap.SameBut s.heap.objs.size h h'→J i h')
  (miss:∀ (s₁:Shared) (Q:Option Value→Shared→Prop),(∀ b o,s.heap.get? b=some o→s₁.heap.get? b=some o)→(∀ h' tk,(∀ b o,s₁.heap.get? b=some o→h'.get? b=some o)→Q none { s₁ with heap:=h',toks:=tk })→wpAny (model prog w) A.in1.in1 (getAttr? (.ref src) "keys") Q E s₁)
  (iter:∀ (s₁:Shared) (Q:Value→Shared→Prop),(∀ b o,s.heap.get? b=some o→s₁.heap.get? b=some o)→s.heap.objs.size<s₁.heap.objs.size→(∀ h' tk,(∀ b o,s₁.heap.get? b=some o→h'.get? b=some o)→J 0 h'→Q it { s₁ with heap:=h',toks:=tk })→wpAny (model prog w) A.in1.in1 (pyIter (.ref src)) Q E s₁)
  (step:∀ i x (s:Shared) (Q:Option Value→Shared→Prop),items[i]?=some x→J i s.heap→(∀ h' a,J (i+1) h'→IsTp h' a [x.2.1,x.2.2]→(∀ c o,c ∉ wr→s.heap.get? c=some o→h'.get? c=some o)→Q (some (.ref a)) { s with heap:=h' })→wpAny (model prog w) A.in1.in1 (pyNext it) Q E s)
  (stop:∀ (s:Shared) (Q:Option Value→Shared→Prop),J items.length s.heap→(∀ h',(∀ c o,c ∉ wr→s.heap.get? c=some o→h'.get? c=some o)→Q none { s with heap:=h' })→wpAny (model prog w) A.in1.in1 (pyNext it) Q E s)
  (h:∀ h' tk,h'.DictOf knd s.heap.objs.size (storedAll [] items)→(∀ c o,c ∉ wr→s.heap.get? c=some o→h'.get? c=some o)→Q (.ref s.heap.objs.size) { s with heap:=h',toks:=tk }) :
  wpAny (model prog w) A (call (.type "dict") [.ref src]) Q E s:=by
 refine call_dict_gen (fun v i h=>v=it∧J i h) (fun _=>wr) hT hTd hsz hkeys (fun _ _ _=>hd) (fun v i h h' x k=>⟨x.1,hJ i h h' x.2 k⟩) miss (fun s₁ Q k lt q=>iter s₁ Q k lt fun h' tk k' j=>q _ h' tk k' ⟨rfl,j⟩) (fun v i x s Q hx j q=>?_) (fun v s Q j q=>?_) fun _ _ h' tk _ d k=>h h' tk d k
 ·obtain ⟨rfl,j⟩:=j
  exact step i x s Q hx j fun h' a j'=>q h' a ⟨rfl,j'⟩
 ·obtain ⟨rfl,j⟩:=j
  exact stop s Q j q
end
end Mine
end
section
set_option maxRecDepth 100000
open PySem PySem.Calls PyProof.Rows PySem.W
set_option genSizeOf false
set_option genInjectivity false
namespace Mine
section
variable {prog:Program} {w:World} {K:Type} [DecidableEq K] {knd:KeyKind prog w K} {A:Around} {E:Value→Shared→Prop} {s:Shared}
structure ZipSt (z TI TO i1 i2 l1 l2 d:Addr) (xs ys:Array Value) (i:Nat) (h:Heap):Prop where
 zero:i=0→IsZip h z TI TO .none∧∃ a b,IsPair h TO a b
 more:i ≠ 0→∃ T b,ZipHeld h z TI TO T b∧(∃ o,h.get? T=some o)∧T ≠ d∧T ≠ z∧T ≠ TO∧T ≠ i1∧T ≠ i2
 ti:IsPair h TI (.ref i1) (.ref i2)
 h1:h.IsListIter i1 l1 i
 h2:h.IsListIter i2 l2 i
 x1:h.IsList l1 xs
 x2:h.IsList l2 ys
 dlt:d<h.objs.size
structure ZipAway (z TI TO i1 i2 l1 l2 d:Addr):Prop where
 z:z ≠ d
 ti:TI ≠ d
 to:TO ≠ d
 i1:i1 ≠ d
 i2:i2 ≠ d
 l1:l1 ≠ d
 l2:l2 ≠ d
theorem ZipSt.other {z TI TO i1 i2 l1 l2 d:Addr} {xs ys:Array Value} {i:Nat} {h h':Heap} (W:ZipAway z TI TO i1 i2 l1 l2 d) (J:ZipSt z TI TO i1 i2 l1 l2 d xs ys i h) (x:Heap.SameBut d h h'):ZipSt z TI TO i1 i2 l1 l2 d xs ys i h' where
 zero e:=(by obtain ⟨p,a,b,q⟩:=J.zero e;exact ⟨x.extBut _ _ W.z p,a,b,x.extBut _ _ W.to q⟩)
 more e:=(by obtain ⟨T,b,p,⟨o,q⟩,r⟩:=J.more e;exact ⟨T,b,x.extBut _ _ W.z p,⟨o,x.extBut _ _ r.1 q⟩,r⟩)
 ti:=x.extBut _ _ W.ti J.ti
 h1:=J.h1.extBut x.extBut W.i1
 h2:=J.h2.extBut x.extBut W.i2
 x1:=J.x1.extBut x.extBut W.l1
 x2:=J.x2.extBut x.extBut W.l2
 dlt:=x.1 ▸ J.dlt
theorem zipSt_step {z TI TO i1 i2 l1 l2 d:Addr} {xs ys:Array Value} {i:Nat} {x y:Value} {Q:Option Value→Shared→Prop} (D:ZipApart z TI TO i1 i2 l1 l2) (hx:xs[i]?=some x) (hy:ys[i]?=some y) (J:ZipSt z TI TO i1 i2 l1 l2 d xs ys i s.heap)
  (hQ:∀ h' a,ZipSt z TI TO i1 i2 l1 l2 d xs ys (i+1) h'→IsPair h' a x y→(∀ c o,c ∉ [z,TO,i1,i2]→s.heap.get? c=some o→h'.get? c=some o)→Q (some (.ref a)) { s with heap:=h' }):wpAny (model prog w) A (pyNext (.ref z)) Q E s:=by
 rcases Nat.eq_zero_or_pos i with rfl|hi
 ·obtain ⟨p,a,b,q⟩:=J.zero rfl
  have lz:z<s.heap.objs.size:=Heap.lt_size p
  have lo:TO<s.heap.objs.size:=Heap.lt_size q
  have la:i1<s.heap.objs.size:=by obtain ⟨_,e,_⟩:=J.h1;exact Heap.lt_size e
  have lb:i2<s.heap.objs.size:=by obtain ⟨_,e,_⟩:=J.h2;exact Heap.lt_size e
  have ld:=J.dlt
  refine wpAny_pyNext_zip_item D p J.ti q J.h1 J.h2 J.x1 J.x2 hx hy fun h' a1 a2 a3 a4 a5 a6 a7=>?_
  have k:∀ c o,c ∉ [z,TO,i1,i2]→s.heap.get? c=some o→h'.get? c=some o:=fun c o n e=>a7 c o (fun r=>n (by simp [r])) (fun r=>n (by simp [r])) (fun r=>n (by simp [r])) (fun r=>n (by simp [r])) e
  refine hQ h' _ ⟨fun e=>absurd e (by omega),fun _=>⟨_,false,a1,⟨_,a5⟩,Nat.ne_of_gt ld,Nat.ne_of_gt lz,Nat.ne_of_gt lo,Nat.ne_of_gt la,Nat.ne_of_gt lb⟩,?_,a3,a4,?_,?_,a6 ▸ Nat.lt_succ_of_lt ld⟩ a5 k
  ·exact a7 _ _ D.TIz D.TITO D.TIi1 D.TIi2 J.ti
  ·obtain ⟨o,e,r⟩:=J.x1;exact ⟨o,a7 _ _ D.l1z D.l1TO D.l1i1 D.l1i2 e,r⟩
  ·obtain ⟨o,e,r⟩:=J.x2;exact ⟨o,a7 _ _ D.l2z D.l2TO D.l2i1 D.l2i2 e,r⟩
 ·obtain ⟨T,b,p,⟨o,q⟩,r1,r2,r3,r4,r5⟩:=J.more (by omega)
  have ld:=J.dlt
  refine pyNext_held_item D p ⟨o,q⟩ J.ti J.h1 J.h2 J.x1 J.x2 hx hy fun h' a1 a3 a4 a5 a7=>?_
  have hl:=Heap.lt_size a5
  refine hQ h' _ ⟨fun e=>absurd e (by omega),fun _=>⟨T,true,a1,⟨o,a7 _ _ r2 r4 r5 q⟩,r1,r2,r3,r4,r5⟩,?_,a3,a4,?_,?_,Nat.lt_trans ld hl⟩ a5 fun c o n e=>a7 c o (fun r=>n (by simp [r])) (fun r=>n (by simp [r])) (fun r=>n (by simp [r])) e
  ·exact a7 _ _ D.TIz D.TIi1 D.TIi2 J.ti
  ·obtain ⟨o,e,r⟩:=J.x1;exact ⟨o,a7 _ _ D.l1z D.l1i1 D.l1i2 e,r⟩
  ·obtain ⟨o,e,r⟩:=J.x2;exact ⟨o,a7 _ _ D.l2z D.l2i1 D.l2i2 e,r⟩
theorem zipSt_stop {z TI TO i1 i2 l1 l2 d:Addr} {xs ys:Array Value} {i:Nat} {Q:Option Value→Shared→Prop} (hh:A.handled=none) (D:ZipApart z TI TO i1 i2 l1 l2) (hend:xs[i]?=none∨ys[i]?=none) (J:ZipSt z TI TO i1 i2 l1 l2 d xs ys i s.heap)
  (hQ:∀ h',(∀ c o,c ∉ [z,TO,i1,i2]→s.heap.get? c=some o→h'.get? c=some o)→Q none { s with heap:=h' }):wpAny (model prog w) A (pyNext (.ref z)) Q E s:=by
 rcases Nat.eq_zero_or_pos i with rfl|hi
 ·obtain ⟨p,a,b,q⟩:=J.zero rfl
  exact wpAny_pyNext_zip_end hh D p J.ti q J.h1 J.h2 J.x1 J.x2 hend fun h' a7=>hQ h' fun c o n e=>a7 c o (fun r=>n (by simp [r])) (fun r=>n (by simp [r])) (fun r=>n (by simp [r])) (fun r=>n (by simp [r])) e
 ·obtain ⟨T,b,p,q,r⟩:=J.more (by omega)
  exact pyNext_held_end hh D p q J.ti J.h1 J.h2 J.x1 J.x2 hend fun h' a7=>hQ h' fun c o n e=>a7 c o (fun r=>n (by simp [r])) (fun r=>n (by simp [r])) (fun r=>n (by simp [r])) e
end
theorem storedAll_new {K:Type} [DecidableEq K]:∀ (items:List (K × Value × Value)) (acc:List (K × Value)),(∀ x∈items,∀ y∈acc,y.1 ≠ x.1)→(items.map (·.1)).Nodup→storedAll acc items=acc++items.map (fun x=>(x.1,x.2.2))
 | [],acc,_,_=>by simp [storedAll]
 | x :: l,acc,h,n=>by
  have e:stored acc x.1 x.2.2=acc++[(x.1,x.2.2)]:=by
   unfold stored
   rw [if_neg]
   intro q
   obtain ⟨y,hy,e⟩:=List.any_eq_true.mp q
   exact h x List.mem_cons_self y hy (of_decide_eq_true e)
  rw [storedAll,e,storedAll_new l]
  ·simp
  ·intro z hz y hy
   rcases List.mem_append.mp hy with hy|hy
   ·exact h z (List.mem_cons_of_mem _ hz) y hy
   ·rw [List.mem_singleton.mp hy]
    intro q
    rw [List.map_cons,List.nodup_cons] at n
    exact n.1 (List.mem_map.mpr ⟨z,hz,q.symm⟩)
  ·rw [List.map_cons,List.nodup_cons] at n
   exact n.2
theorem hasKey_iff {k:List Nat}:∀ {l:List (List Nat)},hasKey k l=true↔k∈l:=by
 intro l
 unfold hasKey
 rw [List.any_eq_true]
 constructor
 ·rintro ⟨y,hy,e⟩;rw [beqL_iff.mp e];exact hy
 ·intro h;exact ⟨k,h,beqL_iff.mpr rfl⟩
theorem nodupK_S:∀ {ks:List (List Nat)},nodupK ks=true→(ks.map S).Nodup
 | [],_=>List.nodup_nil
 | k :: r,h=>by
  unfold nodupK at h
  split at h
  ·cases h
  ·rename_i q
   rw [List.map_cons,List.nodup_cons]
   refine ⟨fun m=>?_,nodupK_S h⟩
   obtain ⟨y,hy,e⟩:=List.mem_map.mp m
   rw [S_inj.mp e] at hy
   rw [hasKey_iff.mpr hy] at q
   cases q
noncomputable abbrev zipItems (ks:List Str) (va vb:List Value):List (Str × Value × Value):=ks.zip (va.zip vb)
theorem zipItems_fst:∀ {ks:List Str} {va vb:List Value},va.length=ks.length→vb.length=ks.length→(zipItems ks va vb).map (·.1)=ks∧(zipItems ks va vb).map (·.2.2)=vb∧(zipItems ks va vb).length=ks.length
 | [],[],[],_,_=>⟨rfl,rfl,rfl⟩
 | [],_ :: _,_,h,_=>by cases h
 | [],[],_ :: _,_,h=>by cases h
 | _ :: _,[],_,h,_=>by cases h
 | _ :: _,_ :: _,[],_,h=>by cases h
 | k :: ks,a :: va,b :: vb,h,g=>by
  obtain ⟨i1,i2,i3⟩:=zipItems_fst (ks:=ks) (va:=va) (vb:=vb) (by simpa using h) (by simpa using g)
  refine ⟨?_,?_,?_⟩
  ·simpa [zipItems] using i1
  ·simpa [zipItems] using i2
  ·simpa [zipItems] using i3
theorem zipItems_at {ks:List Str} {va vb:List Value} {i:Nat} {x:Str × Value × Value} (h:(zipItems ks va vb)[i]?=some x):ks[i]?=some x.1∧va[i]?=some x.2.1∧vb[i]?=some x.2.2:=by
 obtain ⟨h1,h2⟩:=List.getElem?_zip_eq_some.mp h
 obtain ⟨h3,h4⟩:=List.getElem?_zip_eq_some.mp h2
 exact ⟨h1,h3,h4⟩
theorem zipItems_keys {prog:Program} {w:World}:∀ {ks:List Str} {va vb:List Value},StrsAre va ks→∀ x∈zipItems ks va vb,(strKind prog w).is x.1 x.2.1=true
 | _,_,_,.nil,x,hx=>by simp [zipItems] at hx
 | _,_,[],.cons _ _ _,x,hx=>by simp [zipItems] at hx
 | k :: ks,_,b :: vb,.cons _ t r,x,hx=>by
  simp only [zipItems,List.zip_cons_cons,List.mem_cons] at hx
  rcases hx with rfl|hx
  ·show Value.isStrOf k (.str k t)=true
   simp [Value.isStrOf]
  ·exact zipItems_keys r x hx
theorem strsAre_len:∀ {vs:List Value} {xs:List Str},StrsAre vs xs→vs.length=xs.length
 | _,_,.nil=>rfl
 | _,_,.cons _ _ r=>by simp [strsAre_len r]
section
variable {cx:Cx} {A:Around} {E:Value→Shared→Prop} {s:Shared} {H:Hid} {Q:Value→Shared→Prop}
theorem dzip_ok {vs:List Value} {ps:List PV} {r:PV} (hh:A.handled=none) (c:Cn cx s.heap H) (x:RepAll cx s.heap H vs ps) (e:biV .dictZip ps=some r) (h:RetF cx s H false r Q) :
  wpAny (model cx.prog cx.w) A (call (.type "zip") vs) (fun v s₁=>cx.GI s₁.heap∧wpAny (model cx.prog cx.w) A (call (.type "dict") [v]) Q E s₁) E s:=by
 obtain ⟨p,hp,e1⟩:=ob_i e
 obtain ⟨va',vb',rfl,xa,xb⟩:=x.two hp
 obtain ⟨pa,hpa,e2⟩:=ob_i e1
 obtain ⟨pb,hpb,e3⟩:=ob_i e2
 obtain ⟨a,va,rfl,na,la,ra⟩:=xa.toList hpa
 obtain ⟨b,vb,rfl,nb,lb,rb⟩:=xb.toList hpb
 obtain ⟨ks,hks,e4⟩:=ob_i e3
 obtain ⟨q,rfl⟩:=og_i e4
 obtain ⟨q,q3⟩:=Bool.and_eq_true_iff.mp q
 obtain ⟨q1,q2⟩:=Bool.and_eq_true_iff.mp q
 have sa:=strs_rep ra hks
 have l1:va.length=(ks.map S).length:=strsAre_len sa
 have l2:vb.length=(ks.map S).length:=by rw [rb.length,List.length_map];exact (Nat.eq_of_beq_eq_true q2).symm
 have l3:ks.length<1000:=blt_true.mp q3
 obtain ⟨f1,f2,f3⟩:=zipItems_fst l1 l2
 refine call_zip_2 la.isList lb.isList fun h₁ g1 g2 g3 g4 g5 g6 g7=>?_
 have e1:Ext cx cx.T s.heap h₁:=.of_keep g7
 refine ⟨e1.gi c.gi,?_⟩
 have lta:a<s.heap.objs.size:=by obtain ⟨_,z⟩:=la;exact Heap.lt_size z
 have ltb:b<s.heap.objs.size:=by obtain ⟨_,z⟩:=lb;exact Heap.lt_size z
 have la₁:h₁.IsList a va.toArray:=(by obtain ⟨n,z⟩:=la;exact ⟨_,g7 _ _ z,rfl,n,rfl⟩)
 have lb₁:h₁.IsList b vb.toArray:=(by obtain ⟨n,z⟩:=lb;exact ⟨_,g7 _ _ z,rfl,n,rfl⟩)
 have lz:h₁.objs.size=s.heap.objs.size+5:=g6
 have D:ZipApart (s.heap.objs.size+4) (s.heap.objs.size+2) (s.heap.objs.size+3) s.heap.objs.size (s.heap.objs.size+1) a b:=by
  have lta':a<s.heap.objs.size:=lta
  have ltb':b<s.heap.objs.size:=ltb
  revert lta' ltb'
  generalize s.heap.objs.size=m
  intro lta' ltb'
  constructor <;> (first|exact Nat.ne_of_gt (by omega)|exact Nat.ne_of_lt (by omega)|exact Nat.ne_of_lt (Nat.lt_of_lt_of_le lta' (by omega))|exact Nat.ne_of_lt (Nat.lt_of_lt_of_le ltb' (by omega)))
 have W:ZipAway (s.heap.objs.size+4) (s.heap.objs.size+2) (s.heap.objs.size+3) s.heap.objs.size (s.heap.objs.size+1) a b h₁.objs.size:=by
  rw [lz]
  revert lta ltb
  generalize s.heap.objs.size=m
  intro lta' ltb'
  constructor <;> (first|exact Nat.ne_of_lt (by omega)|exact Nat.ne_of_lt (Nat.lt_of_lt_of_le lta' (by omega))|exact Nat.ne_of_lt (Nat.lt_of_lt_of_le ltb' (by omega)))
 refine call_dict_pairs (s:={ s with heap:=h₁ }) (knd:=strKind cx.prog cx.w) (it:=.ref (s.heap.objs.size+4)) (wr:=[s.heap.objs.size+4,s.heap.objs.size+3,s.heap.objs.size,s.heap.objs.size+1]) (items:=zipItems (ks.map S) va vb)
  (ZipSt (s.heap.objs.size+4) (s.heap.objs.size+2) (s.heap.objs.size+3) s.heap.objs.size (s.heap.objs.size+1) a b h₁.objs.size va.toArray vb.toArray) (T:="zip")
  ⟨_,g1,rfl⟩ (by decide) (by rw [f3,List.length_map];exact Nat.le_trans (Nat.le_of_lt l3) (by decide)) (zipItems_keys sa) (by
   show h₁.objs.size ∉ _
   rw [lz];simp) (fun i h h' j x=>j.other W x)
  (fun s₁ Q k hq=>keys_zip (k _ _ g1) hh fun h' tk k'=>hq h' tk k') (fun s₁ Q k lt hq=>?_) (fun i y s₁ Q hy j hq=>?_) (fun s₁ Q j hq=>?_) fun h₂ tk hd hk=>?_
 ·refine wpAny_pyIter_zip (k _ _ g1) (hq s₁.heap s₁.toks (fun _ _ z=>z) ⟨fun _=>⟨k _ _ g1,_,_,k _ _ g3⟩,fun z=>absurd rfl z,k _ _ g2,?_,?_,?_,?_,lt⟩)
  ·obtain ⟨o,z,r⟩:=g4;exact ⟨o,k _ _ z,r⟩
  ·obtain ⟨o,z,r⟩:=g5;exact ⟨o,k _ _ z,r⟩
  ·obtain ⟨o,z,r⟩:=la₁;exact ⟨o,k _ _ z,r⟩
  ·obtain ⟨o,z,r⟩:=lb₁;exact ⟨o,k _ _ z,r⟩
 ·obtain ⟨_,a1,a2⟩:=zipItems_at hy
  exact zipSt_step D (by simpa using a1) (by simpa using a2) j fun h' a j' p k=>hq h' a j' ⟨0,p⟩ k
 ·refine zipSt_stop hh D (.inl ?_) j hq
  rw [f3,← l1];simp
 ·rw [storedAll_new _ _ (fun _ _ y hy=>by cases hy) (by rw [f1];exact nodupK_S q1)] at hd
  have nl:¬ Live s.heap h₁.objs.size:=fun ⟨o,z⟩=>absurd (Heap.lt_size z) (by rw [lz];exact Nat.not_lt.mpr (Nat.le_add_right _ 5))
  have k2:∀ a o,s.heap.get? a=some o→h₂.get? a=some o:=fun a o z=>by
   have lt:=Heap.lt_size z
   refine hk a o ?_ (g7 _ _ z)
   simp only [List.mem_cons,List.not_mem_nil,or_false,not_or]
   refine ⟨Nat.ne_of_lt (Nat.lt_of_lt_of_le lt (by omega)),Nat.ne_of_lt (Nat.lt_of_lt_of_le lt (by omega)),Nat.ne_of_lt lt,Nat.ne_of_lt (Nat.lt_of_lt_of_le lt (by omega))⟩
  refine h.plain (.of_keep k2) (.dict (fun z=>nl (c.hid _ z)) hd ?_ ?_)
  ·rw [List.nil_append,List.map_map];exact f1
  ·have:List.map (fun x=>x.2) (List.map (fun x:Str × Value × Value=>(x.1,x.2.2)) (zipItems (ks.map S) va vb))=vb:=by rw [List.map_map];exact f2
   rw [List.nil_append,this]
   exact rb.ext (.of_keep k2) c.tH
end
end Mine
end
section
set_option maxRecDepth 100000
open PySem PySem.Calls PyProof.Rows PySem.W
set_option genSizeOf false
set_option genInjectivity false
namespace Mine
section
variable {cx:Cx} {G:Gl} {A:Around} {s:Shared} {H:Hid} {E:Value→Shared→Prop} {Q:Value→Shared→Prop}
theorem rest_ok (g:GOk cx G) (n:Nat) (S:SndN cx G n):Rest cx G n:=⟨fun b c d e f I he h=>comp_ok g S b c d e f I he h,lrange_ok,dzip_ok⟩
end
end Mine
end
section
set_option maxRecDepth 100000
open PySem PySem.Calls PyProof.Rows PySem.W
set_option genSizeOf false
set_option genInjectivity false
namespace Mine
noncomputable def TabOk (h:Heap) (P:Addr) (pos:Pos) (qual:Str):Prop :=
 h.get? P=some (tabObj #[])∨∃ c' oc vs t,h.get? P=some (tabObj #[rawInt pos.line,rawInt pos.col,.ref c'])∧h.get? c'=some oc∧oc.cls=.type "code"∧oc.data=.fields vs∧vs[1]?=some (.str qual t)
theorem TabOk.mono {h h':Heap} {P:Addr} {pos:Pos} {qual:Str} (x:TabOk h P pos qual) (kP:∀ o,h.get? P=some o→h'.get? P=some o) (kc:∀ a o,isCd o→h.get? a=some o→h'.get? a=some o):TabOk h' P pos qual:=by
 rcases x with x|⟨c',oc,vs,t,e1,e2,e3,e4,e5⟩
 ·exact .inl (kP _ x)
 ·exact .inr ⟨c',oc,vs,t,kP _ e1,kc _ _ ⟨e3,vs,e4⟩ e2,e3,e4,e5⟩
theorem TabOk.live {h:Heap} {P:Addr} {pos:Pos} {qual:Str} (x:TabOk h P pos qual):Live h P:=by
 rcases x with x|⟨c',oc,vs,t,e1,_⟩
 ·exact ⟨_,x⟩
 ·exact ⟨_,e1⟩
theorem TabOk.noCd {h:Heap} {P:Addr} {pos:Pos} {qual:Str} (x:TabOk h P pos qual):NoCd h P:=by
 rcases x with x|⟨c',oc,vs,t,e1,_⟩
 ·exact .of_cls x (by intro q;cases q)
 ·exact .of_cls e1 (by intro q;cases q)
section
variable {M:Model} {A:Around} {E:Value→Shared→Prop} {s:Shared} {name qual:Str} {params:Arguments} {body:List Stmt} {scope:Scope} {env:Env} {c P:Addr} {pos:Pos} {firstLine:Nat} {mg:Str→Option Value} {clos:List (Str × Addr)} {Q:Value→Shared→Prop}
theorem nest_make (hcl:closureFor scope env=pure clos) (hne:clos ≠ []) (hge0:env.globals=mainGlobals) (hg:s.heap.Ns mainGlobals mg) (hcode:env.code=.ref c) (C:CodeHd s.heap c P) (hT:TabOk s.heap P pos qual) (hdoc:docOf body=none)
  (hgP:mainGlobals ≠ P) (hb:s.heap.BuiltinsAt mg P)
  (h:∀ f c' ctv h' tk,(∀ b o,b ≠ P→s.heap.get? b=some o→h'.get? b=some o)→¬ Live s.heap f→h'.get? f=some (fnMade name qual params body scope clos .none ((mg "__name__").getD .none) c' ctv)→h'.CodeRec (.ref c') qual→TabOk h' P pos qual→f ≠ P →
   Q (.ref f) { s with heap:=h',toks:=tk }) :
  wpAny M A (makeFunction name qual params (.stmts body) scope env [] [] [] pos firstLine) Q E s:=by
 rw [makeFunction_eq]
 simp only [List.zip_nil_right,List.filterMap_nil,List.isEmpty_nil,if_true,pure_bind]
 obtain ⟨bm,ob,hbm,hne0,_,hneP,hbo,hcls,hdict,hdata⟩:=hb
 unfold makeTail
 rw [hcl,hge0]
 refine wpAny_bind (wpAny_pure ?_)
 cases clos with
 | nil=>exact (hne rfl).elim
 | cons q r =>
 simp only [List.isEmpty_cons,Bool.false_eq_true,if_false]
 refine wpAny_bind (wpAny_newTextTuple ?_)
 have push:∀ (oT:Obj) b o,s.heap.get? b=some o→(s.heap.push oT).get? b=some o:=fun oT b o e=>Heap.get?_push_of_some _ e
 have ltP:P<s.heap.objs.size:=hT.live.lt
 rcases hT with hP|⟨c',oc,vs,t,hP,hc1,hc2,hc3,hc4⟩
 ·refine wpAny_bind (wpAny_functionCodeX hcode ((C.keeps (push _)).code (push _ _ _ hP) trivial) ((C.keeps (push _)).tab (push _ _ _ hP)) rfl fun c' h' tk hx hge hlt _ hrec htb hP2=>?_)
  have hg':=(hg.push _).extBut hx hgP
  have hx':Heap.ExtBut P s.heap h':=fun b o hb' e=>hx b o hb' (push _ _ _ e)
  have hge':s.heap.objs.size≤c':=Nat.le_trans (by rw [Heap.size_push];omega) hge
  refine wpAny_bind (wpAny_builtinsFor hg' hbm hne0 (hx' _ _ hneP hbo) hcls hdict hdata ?_)
  refine wpAny_bind (wpAny_nsGet hg' ?_)
  rw [hdoc]
  obtain ⟨P',_,_,⟨oc,vs,g1,g2,g3,_⟩,_⟩:=hP2
  obtain ⟨c₂,o₂,vs₂,t₂,e₂,r1,r2,r3⟩:=hrec
  cases e₂
  obtain rfl:=Option.some.inj (r1.symm.trans g1)
  have lt1:s.heap.objs.size<h'.objs.size:=Nat.lt_of_le_of_lt hge' hlt
  have lift:∀ (oo:Obj) b o,h'.get? b=some o→(h'.push oo).get? b=some o:=fun oo b o e=>Heap.get?_push_of_some _ e
  exact wpAny_bind (wpAny_pure (wpAny_newObj_type (h h'.objs.size c' _ _ tk (fun b o q e=>lift _ _ _ (hx' b o q e)) (fun ⟨o,e⟩=>absurd (Heap.lt_size e) (Nat.not_lt.mpr (Nat.le_of_lt lt1))) (Heap.get?_push_size _ rfl)
   ⟨c',_,vs₂,t₂,rfl,lift _ _ _ r1,r2,r3⟩ (Or.inr ⟨c',_,vs₂,t₂,lift _ _ _ htb.2,lift _ _ _ r1,g2,r2,r3⟩) (Nat.ne_of_gt (Nat.lt_trans ltP lt1))) (by size_fits)))
 ·refine wpAny_bind (wpAny_functionCode_hit (c':=.ref c') hcode ((C.keeps (push _)).code (push _ _ _ hP) (by simp [TriplesOk,rawInt])) (by simp [codeAmong,rawInt]) ?_)
  refine wpAny_bind (wpAny_builtinsFor (hg.push _) hbm hne0 (push _ _ _ hbo) hcls hdict hdata ?_)
  refine wpAny_bind (wpAny_nsGet (hg.push _) ?_)
  rw [hdoc]
  have lift:∀ (o1 o2:Obj) b o,s.heap.get? b=some o→((s.heap.push o1).push o2).get? b=some o:=fun o1 o2 b o e=>Heap.get?_push_of_some _ (push _ _ _ e)
  refine wpAny_bind (wpAny_pure (wpAny_newObj_type (h _ c' _ _ s.toks (fun b o q e=>lift _ _ _ _ e) (fun ⟨o,e⟩=>Nat.lt_irrefl _ (Nat.lt_trans (Heap.lt_size e) (by rw [Heap.size_push];exact Nat.lt_succ_self _))) (Heap.get?_push_size _ rfl)
   ⟨c',oc,vs,t,rfl,lift _ _ _ _ hc1,hc3,hc4⟩ (Or.inr ⟨c',oc,vs,t,lift _ _ _ _ hP,lift _ _ _ _ hc1,hc2,hc3,hc4⟩) ?_) (by size_fits)))
  exact Nat.ne_of_gt (Nat.lt_trans ltP (by rw [Heap.size_push];exact Nat.lt_succ_self _))
end
end Mine
end
section
set_option maxRecDepth 100000
open PySem PySem.Calls PyProof.Rows PySem.W
set_option genSizeOf false
set_option genInjectivity false
namespace Mine
theorem get_app {r:Bool × PV} {x:Nat} {b:PEnv}:∀ {a:PEnv},PEnv.get (a++b) x=some r→PEnv.get a x=some r∨PEnv.get b x=some r
 | [],h=>.inr h
 | (y,v) :: a,h=>by
  have h:(match Nat.beq x y with|true=>some v|false=>PEnv.get (a++b) x)=some r:=h
  show (match Nat.beq x y with|true=>some v|false=>PEnv.get a x)=some r∨_
  cases q:Nat.beq x y with
  | true=>rw [q] at h;exact .inl h
  | false=>rw [q] at h;exact get_app h
theorem rmiss {x:Str}:∀ {names:List Str} {vs:List Value} {acc:List (Str × Value)},x ∉ names→((names.zip vs).reverseAux acc).lookup x=acc.lookup x
 | [],_,_,_=>rfl
 | _ :: _,[],_,_=>rfl
 | n :: names,w :: vs,acc,h=>by
  refine (rmiss (acc:=(n,w) :: acc) fun q=>h (.tail _ q)).trans ?_
  rw [List.lookup_cons,show (x == n)=false from beq_eq_false_iff_ne.mpr fun q=>h (by rw [q];exact .head _)]
theorem rhit {x:Str} {v:Value}:∀ {names:List Str} {vs:List Value} {acc:List (Str × Value)},names.Nodup→(x,v)∈names.zip vs→((names.zip vs).reverseAux acc).lookup x=some v
 | [],_,_,_,h=>nomatch h
 | _ :: _,[],_,_,h=>nomatch h
 | n :: names,w :: vs,acc,nd,h=>by
  show ((names.zip vs).reverseAux ((n,w) :: acc)).lookup x=some v
  obtain ⟨nd1,nd2⟩:=List.nodup_cons.mp nd
  rcases List.mem_cons.mp h with e|h
  ·obtain ⟨rfl,rfl⟩:=Prod.mk.inj e
   refine (rmiss (acc:=(x,v) :: acc) nd1).trans ?_
   rw [List.lookup_cons,beq_self_eq_true]
  ·exact rhit nd2 h
section
variable {M:Model} {Γ:Ctx} {env:Env} {bs:List Stmt}
theorem wp_app {Q:Flow→Pos→Shared→Prop} {E:Value→Pos→Shared→Prop}:∀ {as:List Stmt} {p:Pos} {s:Shared},Sem.wp M Γ (execs as env) (fun f p' s'=>match f with | .next=>Sem.wp M Γ (execs bs env) Q E p' s' | f=>Q f p' s') E p s→Sem.wp M Γ (execs (as++bs) env) Q E p s
 | [],_,_,h=>h
 | a :: as,_,_,h=>by
  rw [execs_cons,Sem.wp_bind'] at h
  rw [List.cons_append,execs_cons,Sem.wp_bind']
  refine Sem.wp_mono M Γ _ (fun f p' s' h'=>?_) (fun _ _ _ h'=>h') _ _ h
  cases f <;> first|exact wp_app h' | exact h'
theorem execs_app {A:Around} {as:List Stmt} {Q:Flow→Shared→Prop} {E:Value→Shared→Prop} {s:Shared} (h:wpAny M A (execs as env) (fun f s'=>match f with | .next=>wpAny M A (execs bs env) Q E s' | f=>Q f s') E s):wpAny M A (execs (as++bs) env) Q E s:=fun Γ p hΓ =>
 wp_app (Sem.wp_mono M Γ _ (fun f p' s' h'=>by cases f <;> first|exact h' Γ p' hΓ|exact h') (fun _ _ _ h'=>h') _ _ (h Γ p hΓ))
end
structure ExtL (cx:Cx) (W:Hid) (h h':Heap):Prop where
 keep:∀ a o,¬ W a→h.get? a=some o→h'.get? a=some o
 live:∀ a,Live h a→Live h' a
 gi:cx.GI h→cx.GI h'
section
variable {cx:Cx} {W H:Hid} {h h' h'':Heap}
theorem ExtL.of (e:Ext cx cx.T h h') (k:∀ a,cx.T a→W a):ExtL cx W h h':=⟨fun a o n g=>e.keep a o (fun t=>n (k a t)) g,e.live,e.gi⟩
theorem ExtL.trans (x:ExtL cx W h h') (y:ExtL cx W h' h''):ExtL cx W h h'':=⟨fun a o n g=>y.keep a o n (x.keep a o n g),fun a l=>y.live a (x.live a l),fun g=>y.gi (x.gi g)⟩
theorem ExtL.ext (x:ExtL cx W h h'):Ext cx W h h':=⟨x.keep,fun a _ l=>x.live a l,x.gi⟩
theorem ExtL.cn (x:ExtL cx W h h') (c:Cn cx h H):Cn cx h' H:=⟨x.gi c.gi,fun a q=>x.live a (c.hid a q),c.bH,c.hg⟩
theorem IsCell_map {c:Addr} {v:Option Value} (x:h.IsCell c v) (k:∀ o,h.get? c=some o→h'.get? c=some o):h'.IsCell c v:=(by obtain ⟨o,e,d⟩:=x;exact ⟨o,k _ e,d⟩)
theorem CodeRec_map {c:Addr} {q:Str} (x:h.CodeRec (.ref c) q) (k:∀ o,h.get? c=some o→h'.get? c=some o):h'.CodeRec (.ref c) q:=by
 obtain ⟨c₁,o,vs,t,e,e1,e2,e3⟩:=x
 obtain rfl:=Value.ref.inj e
 exact ⟨_,o,vs,t,rfl,k _ e1,e2,e3⟩
theorem InE.extL {n:Nat} {A:Around} {env:Env} {ns:Ns} {ρ:PEnv} {s:Shared} {tk':Nat} (I:InE cx n A env ns ρ H s) (e:ExtL cx W s.heap h') (wH:∀ a,W a→H a) (nl:¬ W env.locals) (nc:∀ n c,env.cells.lookup n=some c→¬ W c):InE cx n A env ns ρ H { s with heap:=h',toks:=tk' } :=
 ⟨I.room,I.kind,I.glb,I.cel,I.glob,I.blt,e.cn I.cn,I.lH,I.cH,I.nT,fun x b p ok g=>by
  obtain ⟨v,hv,hr⟩:=I.vars x b p ok g
  refine ⟨v,hv.keep fun a o ha g=>?_,hr.ext e.ext wH⟩
  rcases ha with rfl|⟨n,c,hc,rfl⟩
  ·exact e.keep _ _ nl g
  ·exact e.keep _ _ (nc _ _ hc) g⟩
end
noncomputable abbrev Nst:=Arguments × List Stmt × Scope × Pos
noncomputable def isLoc (o:Option NameKind):Bool:=match o with
 | some .local=>true
 | _=>false
noncomputable def noCell (o:NameKind):Bool:=match o with
 | .cell=>false
 | _=>true
theorem isLoc_i {o:Option NameKind} (h:isLoc o=true):o=some .local:=by
 induction o using Option.casesOn with
 | none=>exact (Bool.false_ne_true h).elim
 | some k=>induction k using NameKind.casesOn <;> first|rfl|exact (Bool.false_ne_true h).elim
structure InnT (q:Nst) (names:List Str) (ns:Ns):Prop where
 sc:(q.2.2.1.kind,q.2.2.1.isCoroutine,q.2.2.1.isGenerator)=(.function,false,false)
 loc:(ns.all fun y=>isLoc (some y.2) && isLoc (q.2.2.1.names.lookup y.1))=true
 nms:(names.all fun x=>okN x && isLoc (q.2.2.1.names.lookup x))=true
 nc:(q.2.2.1.names.all fun y=>noCell y.2)=true
 fr:q.2.2.1.names.lookup ("inner":Str)=some .free
 nd:names.Nodup
structure Inn (cx:Cx) (W Hx:Hid) (f:Addr) (fd:FuncData) (q:Nst) (names:List Str):Prop where
 body:fd.body=.stmts q.2.1
 scope:fd.scope=q.2.2.1
 glob:fd.globals=mainGlobals
 blt:fd.builtins=builtinsNs
 bind:∀ vals:List Value,vals.length=names.length→bindArgs fd ⟨vals,[]⟩=pure (names.zip vals)
 tW:∀ a,cx.T a→W a
 wH:∀ a,W a→Hx a
 fW:¬ W f
 cW:∃ c',fd.code=.ref c'∧¬ W c'
 cl:∀ m c,fd.closure.lookup m=some c→Hx c∧¬ W c
structure InnS (cx:Cx) (Hx:Hid) (f:Addr) (fd:FuncData) (ρf:PEnv) (h:Heap):Prop where
 cn:Cn cx h Hx
 fn:∃ o,h.get? f=some o∧o.data=.func fd
 code:h.CodeRec fd.code fd.qualname
 self:∃ ci,fd.closure.lookup ("inner":Str)=some ci∧h.IsCell ci (some (.ref f))
 vars:∀ x b p,okN x=true→PEnv.get ρf (enc x)=some (b,p)→b=false∧fd.scope.names.lookup x=some .free∧(x == ("__classdict__":Str))=false∧∃ c v,fd.closure.lookup x=some c∧h.IsCell c (some v)∧Rep cx h Hx v p
section
variable {cx:Cx} {W Hx:Hid} {f:Addr} {fd:FuncData} {q:Nst} {names:List Str} {ρf:PEnv} {ns:Ns} {h h':Heap}
theorem InnS.ext (Z:Inn cx W Hx f fd q names) (x:InnS cx Hx f fd ρf h) (e:ExtL cx W h h'):InnS cx Hx f fd ρf h':=by
 obtain ⟨cn,⟨o,ho,hd⟩,hc,⟨ci,h4,h5⟩,hv⟩:=x
 obtain ⟨c',h1,h2⟩:=Z.cW
 refine ⟨e.cn cn,⟨o,e.keep _ _ Z.fW ho,hd⟩,?_,⟨ci,h4,IsCell_map h5 fun o=>e.keep _ o (Z.cl _ _ h4).2⟩,fun x b p ok g=>?_⟩
 ·rw [h1] at hc ⊢
  exact CodeRec_map hc fun o=>e.keep _ o h2
 ·obtain ⟨hb,h6,h7,c,v,h8,h9,r⟩:=hv x b p ok g
  exact ⟨hb,h6,h7,c,v,h8,IsCell_map h9 fun o=>e.keep _ o (Z.cl _ _ h8).2,r.ext e.ext Z.wH⟩
noncomputable def noI:Own:=⟨fun _=>False,0⟩
theorem WW_in {L:Addr} (n:¬ Live h L) {env:Env} (e:env.locals=L):∀ a,WW cx env noI noW a→cx.T a∨¬ Live h a:=fun a w=>by
 rcases w with w|w|w|⟨_,w⟩
 ·exact .inl w
 ·exact .inr (w ▸ e ▸ n)
 ·exact w.elim
 ·exact w.elim
theorem inn_call (Z:Inn cx W Hx f fd q names) (t:InnT q names ns) {A:Around} {E:Value→Shared→Prop} {Q:Value→Shared→Prop} {s:Shared} {vs:List Value} {ps:List PV} {ρp:PEnv} {n:Nat} (J:InnS cx Hx f fd ρf s.heap) (room:Room A (n+61)) (x:RepAll cx s.heap Hx vs ps) (hz:zipE (names.map enc) ps=some ρp)
  (h:∀ h₀ tk {E'},Ext cx cx.T s.heap h₀→InS cx (n+60) (A.deeper (callEnv fd s.heap.objs.size f)) (callEnv fd s.heap.objs.size f) ns Hx noI noW (ρp++ρf) h₀→wpAny (model cx.prog cx.w) (A.deeper (callEnv fd s.heap.objs.size f)) (execs q.2.1 (callEnv fd s.heap.objs.size f)) (fun fl s'=>Q (match fl with | .ret v=>v|_=>.none) s') E' { s with heap:=h₀,toks:=tk }) :
  wpAny (model cx.prog cx.w) A (call (.ref f) vs) Q E s:=by
 obtain ⟨o,ho,hd⟩:=J.fn
 obtain ⟨k1,k2⟩:=Prod.mk.inj t.sc
 obtain ⟨k2,k3⟩:=Prod.mk.inj k2
 have hs:=Z.scope
 have nm:∀ y∈names,okN y=true∧fd.scope.names.lookup y=some .local:=fun y hy=>by
  obtain ⟨h1,h2⟩:=band (List.all_eq_true.mp t.nms y hy)
  exact ⟨h1,hs ▸ isLoc_i h2⟩
 have lc:∀ y k,ns.lookup y=some k→k=.local∧fd.scope.names.lookup y=some .local:=fun y k hy=>by
  obtain ⟨h1,h2⟩:=band (List.all_eq_true.mp t.loc _ (mem_of_lookup hy))
  exact ⟨Option.some.inj (isLoc_i h1),hs ▸ isLoc_i h2⟩
 obtain ⟨hlen,hget⟩:=zipE_get (fun y hy=>(nm y hy).1) x hz
 refine wpAny_call (codeAny_call_def (binds:=names.zip vs) room.lt ho hd (cx.lim _ J.cn.gi) J.code Z.body (.of_eq (Z.bind vs hlen)) (fun y hy=>?_) (fun y hy=>?_) (fun h₀ hN kk=>h h₀ _ (.of_keep kk) ?_) (hs ▸ k2) (hs ▸ k3) (hs ▸ k1))
 ·rw [hs] at hy
  intro e
  have:=List.all_eq_true.mp t.nc y hy
  rw [e] at this
  exact Bool.false_ne_true this
 ·exact (nm _ (List.of_mem_zip (show (y.1,y.2)∈names.zip vs from hy)).1).2
 ·generalize hE:callEnv fd s.heap.objs.size f=env
  have eL:env.locals=s.heap.objs.size:=by rw [← hE];rfl
  have eC:env.cells=fd.closure:=by rw [← hE];rfl
  have eK:∀ y,env.kindOf y=fd.scope.names.lookup y:=fun y=>by rw [← hE];rfl
  have nl:¬ Live s.heap env.locals:=eL ▸ not_live_size
  have up:∀ b,HA Hx env noI noW b→Live s.heap b→Hx b:=fun b q l=>by
   rcases q with q|q|q|⟨_,_,q⟩
   ·exact q
   ·exact (nl (q ▸ l)).elim
   ·exact q.elim
   ·exact q.elim
  have lift:∀ {v:Value} {p:PV},Rep cx s.heap Hx v p→Rep cx h₀ (HA Hx env noI noW) v p:=fun r=>(r.hide fun b l q=>up b q l).map fun b o q gg=>⟨q,kk b o gg⟩
  refine ⟨hE ▸ room.deeper,hE ▸ (congrArg Scope.kind hs).trans k1,fun y q=>(nomatch (lc y _ q).1),fun y q=>(eK y).trans (lc y _ q).2,fun y q=>(nomatch (lc y _ q).1),fun y q=>(nomatch (lc y _ q).1),hE ▸ Z.glob,hE ▸ Z.blt,J.cn.ext (.of_keep kk),⟨_,eL ▸ hN⟩,fun c q=>q.elim,fun _ _ _ _ q=>q.elim,
   ⟨fun q=>nl (J.cn.hid _ q),fun c q=>q.elim⟩,⟨fun g=>nl (cx.ga_live _ _ J.cn.gi g),fun c q=>q.elim⟩,fun q=>q,fun m c e _=>?_,fun k a q=>q.elim,fun k a q=>q.elim,fun j k a q=>q.elim,fun y b p oky g=>?_⟩
  ·obtain ⟨h1,h2⟩:=Z.cl m c (eC ▸ e)
   exact ⟨h1,fun t=>h2 (Z.tW _ t)⟩
  ·rcases get_app g with g|g
   ·obtain ⟨rfl,v,hv,hr⟩:=hget y b p oky g
    exact ⟨v,.inl ⟨(eK y).trans (nm y (List.of_mem_zip hv).1).2,_,eL ▸ hN,rhit t.nd hv⟩,fun _=>lift hr,fun z=>(nomatch z)⟩
   ·obtain ⟨rfl,h1,h2,c,v,hc,hcell,hr⟩:=J.vars y b p oky g
    exact ⟨v,.inr ⟨.inr ⟨(eK y).trans h1,h2⟩,c,eC ▸ hc,IsCell_map hcell (kk _)⟩,fun _=>lift hr,fun z=>(nomatch z)⟩
structure At (cx:Cx) (W Hx:Hid) (f:Addr) (fd:FuncData) (ρf:PEnv) (n:Nat) (A:Around) (env:Env) (ns:Ns) (ρ:PEnv) (H:Hid) (h₀:Heap) (s:Shared):Prop where
 e:ExtL cx W h₀ s.heap
 I:InE cx (n+60) A env ns ρ H s
 J:InnS cx Hx f fd ρf s.heap
 ki:env.kindOf "inner"=some .free
 ec:env.cells=fd.closure
 nl:¬ W env.locals
 up:∀ a,Hx a→H a
variable {n:Nat} {A:Around} {env:Env} {ρ:PEnv} {H:Hid} {s:Shared} {tk':Nat} {h₀:Heap}
theorem At.ext (Z:Inn cx W Hx f fd q names) (x:At cx W Hx f fd ρf n A env ns ρ H h₀ s) (e:ExtL cx W s.heap h'):At cx W Hx f fd ρf n A env ns ρ H h₀ { s with heap:=h',toks:=tk' } :=
 ⟨x.e.trans e,x.I.extL e (fun a w=>x.up a (Z.wH a w)) x.nl (fun n c g=>(Z.cl n c (x.ec ▸ g)).2),x.J.ext Z e,x.ki,x.ec,x.nl,x.up⟩
theorem callF {E:Value→Shared→Prop} {Q:Value→Shared→Prop} {G:Gl} {np pos:Pos} {es:List Expr} {a:PE} {l:List PE} {ps:List PV} (S:SndN cx G n) (I:InE cx (n+60) A env ns ρ H s) (at':∀ h',Ext cx cx.T s.heap h'→FnAt f h')
  (ld:∀ {Q:Value→Shared→Prop},Q (.ref f) s→wpAny (model cx.prog cx.w) A (eval (.Name "inner" np) env) Q E s) (hc:CEs ns es (a :: l)) (he:evL (sem G n) ρ (a :: l)=some ps)
  (hcall:∀ vs h' tk',Ext cx cx.T s.heap h'→RepAll cx h' H vs ps→wpAny (model cx.prog cx.w) A (call (.ref f) vs) Q E { s with heap:=h',toks:=tk' }) :
  wpAny (model cx.prog cx.w) A (eval (.Call (.Name "inner" np) es [] pos) env) Q E s:=by
 induction es using List.casesOn with
 | nil=>exact (List.cons_ne_nil _ _ hc.nil').elim
 | cons e es =>
 refine Call_ (ld (callWith_F (at' _ .refl) (evL_ok S hc I he fun vs h' tk' e₁ r₁=>⟨at' _ e₁,hcall vs h' tk' e₁ r₁⟩) ?_ ?_))
 ·obtain ⟨_,_,_,hx,_⟩:=hc.cons'
  exact hx.facts.star _ _
 ·obtain ⟨_,_,_,_,hr⟩:=hc.cons'
  exact hr.plain
theorem FnAt_of {o:Obj} (ho:h.get? f=some o) (hd:o.data=.func fd):FnAt f h:=by
 obtain ⟨oc,od,da,sl⟩:=o
 exact ⟨oc,od,fd,sl,(show da=.func fd from hd) ▸ ho⟩
theorem At.call (Z:Inn cx W Hx f fd q names) {E:Value→Shared→Prop} {Q:Value→Shared→Prop} {G:Gl} {np pos:Pos} {es:List Expr} {a:PE} {l:List PE} {ps:List PV} (S:SndN cx G n) (x:At cx W Hx f fd ρf n A env ns ρ H h₀ s) (hc:CEs ns es (a :: l)) (he:evL (sem G n) ρ (a :: l)=some ps)
  (hcall:∀ vs h' tk',Ext cx cx.T s.heap h'→At cx W Hx f fd ρf n A env ns ρ H h₀ { s with heap:=h',toks:=tk' }→RepAll cx h' Hx vs ps→wpAny (model cx.prog cx.w) A (call (.ref f) vs) Q E { s with heap:=h',toks:=tk' }) :
  wpAny (model cx.prog cx.w) A (eval (.Call (.Name "inner" np) es [] pos) env) Q E s:=by
 obtain ⟨ci,h1,h2⟩:=x.J.self
 obtain ⟨o,ho,hd⟩:=x.J.fn
 exact callF S x.I (fun h' e=>FnAt_of (e.keep _ _ (fun t=>Z.fW (Z.tW _ t)) ho) hd) (fun hq=>wpAny_Name (wpAny_loadName_free x.I.kind x.ki (x.ec ▸ h1) h2 hq (by decide)) (by decide)) hc he
  fun vs h' tk' e r=>hcall vs h' tk' e (x.ext Z (.of e Z.tW)) (r.open' x.up)
end
end Mine
end
section
set_option maxRecDepth 100000
open PySem PySem.Calls PyProof.Rows PySem.W
set_option genSizeOf false
set_option genInjectivity false
namespace Mine
structure Lay where
 prog:Program
 C:Addr
 P1:Addr
 P2:Addr
 pos1:Pos
 pos2:Pos
 q1:Str
 q2:Str
structure AtCall (L:Lay) (h₁:Heap) (mg mb:Str→Option Value):Prop where
 g:h₁.Ns mainGlobals mg
 b:h₁.Ns builtinsNs mb
 lim:h₁.NoLimit
 boot:∀ x:Str,x ≠ "__name__"→mb x=bootBuiltins x
 bm:∃ bm ob,mg "__builtins__"=some (.ref bm)∧bm ≠ builtinsNs∧h₁.get? bm=some ob∧ob.cls=.type "module"∧ob.dict=some builtinsNs∧ob.data=.plain
 sys:Live h₁ sysModules
 t1:h₁.get? L.P1=some (tabObj #[])
 t2:h₁.get? L.P2=some (tabObj #[])
 nT:∀ a,a≤3→a ≠ L.P1∧a ≠ L.P2
 t12:L.P1 ≠ L.P2
theorem tab_ne {h:Heap} {a P:Addr} {o:Obj} (e:h.get? a=some o) (t:h.get? P=some (tabObj #[])) (n:o.cls ≠ .none):a ≠ P:=fun q=>by
 subst q
 rw [e] at t
 cases t
 exact n rfl
noncomputable def giOf (L:Lay) (h₁ h:Heap):Prop:=(∀ a o,a ≠ L.P1→a ≠ L.P2→h₁.get? a=some o→h.get? a=some o)∧TabOk h L.P1 L.pos1 L.q1∧TabOk h L.P2 L.pos2 L.q2
theorem ns_kept {L:Lay} {h₁ h:Heap} {a:Addr} {m:Str→Option Value} (x:h₁.Ns a m) (n:a ≠ L.P1∧a ≠ L.P2) (g:giOf L h₁ h):h.Ns a m :=
 (by obtain ⟨o,es,ep,e,r⟩:=x;exact ⟨o,es,ep,g.1 _ _ n.1 n.2 e,r⟩)
noncomputable def cxOf (L:Lay) (w:World) (h₁:Heap) (mg mb:Str→Option Value) (X:AtCall L h₁ mg mb):Cx where
 prog:=L.prog
 w:=w
 GA:=Live h₁
 T:=fun a=>a=L.P1∨a=L.P2
 B:=fun a=>a=sysModules∨a=L.P1∨a=L.P2
 GI:=giOf L h₁
 mg:=mg
 mb:=mb
 C:=L.C
 ga_live:=fun h a g l=>by
  by_cases q1:a=L.P1
  ·exact q1 ▸ g.2.1.live
  ·by_cases q2:a=L.P2
   ·exact q2 ▸ g.2.2.live
   ·obtain ⟨o,e⟩:=l
    exact ⟨o,g.1 a o q1 q2 e⟩
 mono:=fun h h' g k=>by
  refine ⟨fun a o n1 n2 e=>k a o (.inl ⟨o,e⟩) (g.1 a o n1 n2 e),g.2.1.mono (fun o e=>k _ _ (.inl ⟨_,X.t1⟩) e) fun a o c e=>k a o (.inr c) e,g.2.2.mono (fun o e=>k _ _ (.inl ⟨_,X.t2⟩) e) fun a o c e=>k a o (.inr c) e⟩
 tB:=fun a q=>.inr q
 bGA:=fun a q=>by
  rcases q with q|q|q
  ·exact q ▸ X.sys
  ·exact ⟨_,q ▸ X.t1⟩
  ·exact ⟨_,q ▸ X.t2⟩
 sysB:=.inl rfl
 ns_g:=fun h g=>ns_kept X.g (X.nT _ (by decide)) g
 ns_b:=fun h g=>ns_kept X.b (X.nT _ (by decide)) g
 lim:=fun h g=>(by obtain ⟨mc,e,r⟩:=X.lim;exact ⟨mc,ns_kept e (X.nT _ (by decide)) g,r⟩)
 boot:=X.boot
section
variable {L:Lay} {w:World} {h₁:Heap} {mg mb:Str→Option Value} {X:AtCall L h₁ mg mb}
theorem gi_start:(cxOf L w h₁ mg mb X).GI h₁:=⟨fun _ _ _ _ e=>e,.inl X.t1,.inl X.t2⟩
theorem gi_obj {a:Addr} {o:Obj} (e:h₁.get? a=some o) (n:o.cls ≠ .none):∀ h,(cxOf L w h₁ mg mb X).GI h→h.get? a=some o:=fun h g=>g.1 a o (tab_ne e X.t1 n) (tab_ne e X.t2 n) e
end
end Mine
end
section
set_option maxRecDepth 100000
open PySem PySem.Calls PyProof.Rows PySem.W
set_option genSizeOf false
set_option genInjectivity false
namespace Mine
structure Tp where
 p:Program
 w:World
 n:Nat
 ann:Option Value
noncomputable def Rn (X:Tp) (s:Shared) (t:Thread) (s':Shared) (t':Thread) (k:Nat):Prop:=∃ n,n≤k∧∀ N r,topRun treeTable X.p X.w X.n X.ann N s' t'=some r→topRun treeTable X.p X.w X.n X.ann (n+N) s t=some r
noncomputable def TR (X:Tp) {α:Type} (s:Shared) (x:Sem α) (s':Shared) (a:α) (k:Nat):Prop :=
 ∀ (K:α→Sem Fin) (H:Value→Sem Fin) (gd:Bool→Bool) (lv:List Value→List Value) (c:Code) (q:Pos) (B:List Frame),∃ q',Rn X s ⟨x.wrap K H gd lv,c,q,B⟩ s' ⟨K a,c,q',B⟩ k
section
variable {X:Tp} {s s' s'':Shared} {t t' t'':Thread} {k k':Nat}
theorem Rn.refl:Rn X s t s t 0:=⟨0,Nat.le_refl _,fun N r h=>by rw [Nat.zero_add];exact h⟩
theorem Rn.trans (a:Rn X s t s' t' k) (b:Rn X s' t' s'' t'' k'):Rn X s t s'' t'' (k+k'):=by
 obtain ⟨n,hn',hn⟩:=a
 obtain ⟨m,hm',hm⟩:=b
 exact ⟨n+m,Nat.add_le_add hn' hm',fun N r h=>by rw [Nat.add_assoc];exact hn _ _ (hm _ _ h)⟩
theorem Rn.le (a:Rn X s t s' t' k) (h:k≤k'):Rn X s t s' t' k':=(by obtain ⟨n,a,b⟩:=a;exact ⟨n,Nat.le_trans a h,b⟩)
theorem Rn.step (h1:through t=false) (h2:stepOk X.n X.ann t=true) (h3:PySem.step (denote treeTable) X.p X.w s t=.go s' t') (r:Rn X s' t' s'' t'' k):Rn X s t s'' t'' (k+1):=by
 obtain ⟨n,hn',hn⟩:=r
 refine ⟨n+1,Nat.succ_le_succ hn',fun N r h=>?_⟩
 rw [show n+1+N=n+N+1 by omega]
 unfold topRun
 rw [h1,h2,h3]
 exact hn N r h
end
section
variable {X:Tp} {α β:Type} {h h':Heap} {g:Array GenState} {d:Drawn} {tk tk':Nat} {os:OsState} {s s' s'':Shared} {k k':Nat}
theorem TR.le {x:Sem α} {a:α} (r:TR X s x s' a k) (h:k≤k'):TR X s x s' a k':=fun K H gd lv c q B=>(by obtain ⟨q',r'⟩:=r K H gd lv c q B;exact ⟨q',r'.le h⟩)
theorem TR.pure {a:α}:TR X s (Pure.pure a:Sem α) s a k:=fun _ _ _ _ _ q _=>⟨q,Rn.refl.le (Nat.zero_le _)⟩
theorem TR.bind0 {m:Sem α} {f:α→Sem β} {a:α} {b:β} (x:TR X s m s' a k) (y:TR X s' (f a) s'' b k'):TR X s (m >>= f) s'' b (k+k'):=fun K H gd lv c q B=>by
 obtain ⟨q1,r1⟩:=x (fun a=>(f a).wrap K H gd lv) H gd lv c q B
 obtain ⟨q2,r2⟩:=y K H gd lv c q1 B
 refine ⟨q2,?_⟩
 rw [Sem.bind_eq_wrap',Sem.wrap_wrap]
 exact r1.trans r2
theorem TR.bind {m:Sem α} {f:α→Sem β} {a:α} {b:β} (x:TR X s m s' a k) (y:TR X s' (f a) s'' b (k' - k)) (h:k≤k':=by omega):TR X s (m >>= f) s'' b k':=(TR.bind0 x y).le (by omega)
theorem TR.of_eq {m m':Sem α} {a:α} (e:m=m') (x:TR X s m' s' a k):TR X s m s' a k:=e ▸ x
theorem TR.keep {m:Sem α} {a:α} {vs:List Value} (x:TR X s m s' a k):TR X s (m.keep vs) s' a k:=fun K H gd lv c q B=>by
 rw [Sem.keep_eq_wrap,Sem.wrap_wrap]
 exact x _ _ _ _ _ _ _
theorem TR.holding {m:Sem α} {a:α} {vs:List Value} (x:TR X s m s' a k):TR X s (holding vs m) s' a k:=by
 unfold PySem.holding
 split
 ·exact x
 ·exact x.keep
theorem TR.onRaise {m:Sem α} {a:α} {f:Value→Sem Unit} (x:TR X s m s' a k):TR X s (m.onRaise f) s' a k:=fun K H gd lv c q B=>by
 rw [Sem.onRaise_eq_wrap,Sem.wrap_wrap]
 exact x _ _ _ _ _ _ _
theorem TR.tryCatch {m:Sem α} {a:α} {f:Value→Sem α} (x:TR X s m s' a k):TR X s (MonadExcept.tryCatch m f) s' a k:=fun K H gd lv c q B=>by
 show ∃ q',Rn X s ⟨(m.tryCatch f).wrap K H gd lv,c,q,B⟩ _ _ _
 rw [Sem.tryCatch_eq_wrap,Sem.wrap_wrap]
 exact x _ _ _ _ _ _ _
theorem TR.rule {x:String}:TR X s (PySem.rule x) s () 1:=fun _ _ _ _ _ q _=>⟨q,Rn.step (Bool.and_false _) rfl rfl Rn.refl⟩
theorem TR.standAt {x:Pos}:TR X s (standAt x) s () 1:=fun _ _ _ _ _ _ _=>⟨x,Rn.step (Bool.and_false _) rfl rfl Rn.refl⟩
theorem TR.point:TR X s PySem.point s () 1:=fun _ _ _ _ _ q _=>⟨q,Rn.step (Bool.and_false _) rfl rfl Rn.refl⟩
theorem TR.ask:TR X s PySem.ask s ⟨X.p,X.w.params⟩ 1:=fun _ _ _ _ _ q _=>⟨q,Rn.step (Bool.and_false _) rfl rfl Rn.refl⟩
theorem TR.fresh:TR X ⟨h,g,d,tk,os⟩ PySem.fresh ⟨h,g,d,tk+1,os⟩ tk 1:=fun _ _ _ _ _ q _=>⟨q,Rn.step (Bool.and_false _) rfl rfl Rn.refl⟩
theorem TR.alloc {o:Obj}:TR X ⟨h,g,d,tk,os⟩ (PySem.alloc o) ⟨h.push o,g,d,tk,os⟩ h.objs.size 1:=fun _ _ _ _ _ q _=>⟨q,Rn.step (Bool.and_false _) rfl rfl Rn.refl⟩
theorem TR.loadPart {a:Addr} {part:Option Value} {o:Obj} (e:h.get? a=some o):TR X ⟨h,g,d,tk,os⟩ (PySem.loadPart a part) ⟨h,g,d,tk,os⟩ o 1:=fun _ _ _ _ _ q _=>⟨q,Rn.step (Bool.and_false _) rfl (by
 show PySem.step _ _ _ ⟨h,g,d,tk,os⟩ ⟨.load a part _,_,_,_⟩=_
 simp only [PySem.step,e]
 rfl) Rn.refl⟩
theorem TR.updatePart {a:Addr} {part:Option Value} {f:Obj→Obj} {o:Obj} (e:h.get? a=some o) (ok:(Nat.ble X.n a || a == mainNs)=true):TR X ⟨h,g,d,tk,os⟩ (PySem.updatePart a part f) ⟨h.update a f,g,d,tk,os⟩ () 1:=fun _ _ _ _ _ q _=>⟨q,Rn.step (Bool.and_false _) (by
 show (_ && (Nat.ble X.n a || a == mainNs || a == cStatics || X.ann == some (.ref a)))=true
 rw [ok];rfl) (by
 show PySem.step _ _ _ ⟨h,g,d,tk,os⟩ ⟨.update a part f _,_,_,_⟩=_
 simp only [PySem.step,e,Option.isSome_some,if_true]
 rfl) Rn.refl⟩
theorem TR.mkInt {i:Int}:TR X ⟨h,g,d,tk,os⟩ (PySem.mkInt i) ⟨h,g,d,tk+1,os⟩ (.int i tk) 1:=by
 unfold PySem.mkInt
 exact TR.bind TR.fresh TR.pure
theorem check_hash (k:Int) (t:Tok):checkBuiltinCall "int.__hash__" ⟨[.int k t],[]⟩=Pure.pure ():=by kernel_rfl
theorem hash_plain:("int.__hash__").startsWith "lifetime."=false:=by decide +kernel
theorem entry_hash:entryFor treeTable "int.__hash__"=some Builtin.«int.__hash__»:=by rw [← table_eq_tree];exact entry_int_hash
theorem TR.call_hash {k:Int} {t:Tok}:TR X ⟨h,g,d,tk,os⟩ (call (.builtin "int.__hash__") [.int k t] []) ⟨h,g,d,tk+1,os⟩ (.int (rawHash k) tk) 4:=fun K H gd lv c q B=>by
 have e1:denote treeTable (.call (.builtin "int.__hash__") ⟨[.int k t],[]⟩)=Sem.pure (.again (.builtin "int.__hash__" ⟨[.int k t],[]⟩)):=by
  show (do checkBuiltinCall "int.__hash__" ⟨[.int k t],[]⟩;again (.builtin "int.__hash__" ⟨[.int k t],[]⟩):Sem Fin)=_
  rw [check_hash]
  rfl
 have e2:denote treeTable (.builtin "int.__hash__" ⟨[.int k t],[]⟩)=Sem.fresh fun u=>Sem.pure (.done (.ret (.int (rawHash k) u))):=by
  show (match entryFor treeTable "int.__hash__" with|some b=>b ⟨[.int k t],[]⟩|none=>unsupported ((withoutEnding? "int.__hash__" "#data").getD "int.__hash__"))=_
  rw [entry_hash]
  rfl
 refine ⟨q,?_⟩
 refine Rn.step (s':=⟨h,g,d,tk,os⟩) (Bool.and_false _) rfl (by
  show PySem.step _ _ _ ⟨h,g,d,tk,os⟩ ⟨.call _ _ _ _ _,_,_,_⟩=_
  simp only [PySem.step]
  rfl) ?_
 rw [e1]
 refine Rn.step (s':=⟨h,g,d,tk,os⟩) rfl (by simp only [stepOk,Thread.calm,Thread.atCollectorCode,Thread.yieldsInsideHandler,hash_plain];rfl) step_again ?_
 rw [e2]
 refine Rn.step (s':=⟨h,g,d,tk+1,os⟩) rfl rfl rfl ?_
 refine Rn.step (s':=⟨h,g,d,tk+1,os⟩) rfl rfl rfl ?_
 exact Rn.refl
end
end Mine
end
section
set_option maxRecDepth 100000
open PySem PySem.Calls PyProof.Rows PySem.W
set_option genSizeOf false
set_option genInjectivity false
namespace Mine
section
variable {X:Tp} {α β:Type} {h h':Heap} {g:Array GenState} {d:Drawn} {tk tk':Nat} {os:OsState} {s s' s'':Shared}
theorem TR.pyHash_int {k:Int} {t:Tok}:TR X ⟨h,g,d,tk,os⟩ (pyHash (.int k t)) ⟨h,g,d,tk+1,os⟩ (hashInt k) 8:=by
 have hr:=rawHash_range k
 have sp:specialOf (.int k t) "__hash__"=Pure.pure (some (Value.builtin "int.__hash__")):=by
  show (Pure.pure (Value.type "int") >>= fun x=>typeLookup x "__hash__")=_
  exact slot_int_hash.lookup
 show TR X _ (pyHashByItsType (.int k t)) _ _ _
 unfold pyHashByItsType
 refine TR.bind (k:=0) (a:=()) TR.pure ?_
 refine TR.bind (k:=0) (TR.of_eq sp TR.pure) ?_
 show TR X _ (if (some (Value.builtin "int.__hash__") == some Value.none)=true then _ else _) _ _ _
 rw [if_neg (by rw [beq_builtin_none];exact Bool.false_ne_true)]
 refine TR.bind (k:=0) (TR.of_eq sp TR.pure) ?_
 show TR X _ (callSpecialIfBoundUnlessNone? (.int k t) "__hash__" _ >>= _) _ _ _
 refine TR.bind (k:=5) (s':=⟨h,g,d,tk+1,os⟩) (a:=some (.int (rawHash k) tk)) ?_ ?_
 ·simp only [callSpecialIfBoundUnlessNone?,bindSpecialIfBound?]
  refine TR.holding (TR.bind (k:=1) (s':=⟨h,g,d,tk,os⟩) (a:=some (.builtin "int.__hash__",[.int k t])) ?_ ?_)
  ·refine TR.bind (k:=0) (TR.of_eq sp TR.pure) ?_
   simp only [slot_int_hash.bind]
   refine TR.bind TR.ask ?_
   split
   ·exact TR.bind (k:=0) TR.pure TR.pure
   ·exact TR.tryCatch (TR.bind (k:=0) TR.pure TR.pure)
  ·simp only [builtin_beq_none,Bool.false_eq_true,if_false]
   exact TR.bind TR.call_hash TR.pure
 ·show TR X _ (if (decide (-(2:Int) ^ 63≤rawHash k) && decide (rawHash k<2 ^ 63))=true then _ else _) _ _ _
  rw [if_pos (by rw [decide_eq_true hr.1,decide_eq_true hr.2];rfl)]
  exact TR.pure
theorem TR.dictEntries {a:Addr} {part:Option Value} {o:Obj} {es:Array DictEntry} {ep:Nat} (ho:h.get? a=some o) (hd:o.data=.dict es ep):TR X ⟨h,g,d,tk,os⟩ (dictEntries a part) ⟨h,g,d,tk,os⟩ es 1:=by
 unfold PySem.dictEntries
 refine TR.bind (TR.loadPart ho) ?_
 rw [hd]
 exact TR.pure
theorem TR.dictEpoch {a:Addr} {part:Option Value} {o:Obj} {es:Array DictEntry} {ep:Nat} (ho:h.get? a=some o) (hd:o.data=.dict es ep):TR X ⟨h,g,d,tk,os⟩ (dictEpoch a part) ⟨h,g,d,tk,os⟩ ep 1:=by
 unfold PySem.dictEpoch
 refine TR.bind (TR.loadPart ho) ?_
 rw [hd]
 exact TR.pure
theorem places_none {es:Array DictEntry} {k:Int} (hk:∀ e∈es,e.hash ≠ k):placesWithHash es.size (fun i=>es[i]?.map (·.hash)) k=[]:=by
 unfold placesWithHash
 rw [List.filter_eq_nil_iff]
 intro i hi q
 have hlt:=List.mem_range.mp hi
 dsimp only at q
 rw [Array.getElem?_eq_getElem hlt,Option.map_some] at q
 exact hk _ (Array.getElem_mem hlt) (by simpa using q)
theorem TR.dictFind_none {a:Addr} {o:Obj} {es:Array DictEntry} {ep:Nat} {k:Int} {t:Tok} {hh:Int} (ho:h.get? a=some o) (hd:o.data=.dict es ep) (hk:∀ e∈es,e.hash ≠ hh) :
  TR X ⟨h,g,d,tk,os⟩ (dictFind a (.int k t) hh) ⟨h,g,d,tk,os⟩ none 1:=by
 unfold dictFind
 refine TR.holding (TR.bind (TR.dictEntries ho hd) ?_)
 dsimp only
 rw [places_none hk]
 dsimp only [List.filterMap_nil]
 refine TR.of_eq (m':=dictWalkPlain a (.int k t) hh es []) (if_pos rfl) ?_
 unfold dictWalkPlain
 exact TR.pure
theorem get_update {a:Addr} {o:Obj} {f:Obj→Obj} (ho:h.get? a=some o) (hf:(f o).data ≠ .freed):(h.update a f).get? a=some (f o) :=
 Heap.get?_update_self _ ho (by
  revert hf
  generalize f o=x
  intro hf
  obtain ⟨c,dd,dt,sl⟩:=x
  cases dt <;> first|rfl|exact (hf rfl).elim)
theorem TR.updateDictKeys {a:Addr} {o:Obj} {es:Array DictEntry} {ep:Nat} {f:Array DictEntry→Array DictEntry} {part:Option Value} (ho:h.get? a=some o) (hd:o.data=.dict es ep) (ok:(Nat.ble X.n a || a == mainNs)=true) (hz:(f es).size≤sizeLine+1) :
  TR X ⟨h,g,d,tk,os⟩ (updateDictKeys a f part) ⟨h.update a (Obj.mapDictKeys f),g,d,tk,os⟩ () 3:=by
 have e':(Obj.mapDictKeys f o).data=.dict (f es) (ep+1):=Obj.data_mapDictKeys hd _
 unfold PySem.updateDictKeys
 refine TR.bind (TR.loadPart ho) ?_
 rw [hd]
 refine TR.bind (TR.updatePart ho ok) ?_
 unfold lookBehind
 refine TR.bind (TR.loadPart (get_update ho (by rw [e'];exact Data.noConfusion))) ?_
 rw [e']
 have:(Data.dict (f es) (ep+1)).pastItsLine=none:=by
  simp only [Data.pastItsLine]
  rw [if_neg (by omega)]
 rw [this]
 exact TR.pure
theorem TR.dictSet_new {a:Addr} {o:Obj} {es:Array DictEntry} {ep:Nat} {k:Int} {t:Tok} {v:Value} (ho:h.get? a=some o) (hd:o.data=.dict es ep) (hk:∀ e∈es,e.hash ≠ hashInt k) (ok:(Nat.ble X.n a || a == mainNs)=true) (hz:es.size≤sizeLine) :
  TR X ⟨h,g,d,tk,os⟩ (dictSet a (.int k t) v) ⟨h.update a (Obj.mapDictKeys (·.push ⟨hashInt k,.int k t,v⟩)),g,d,tk+1,os⟩ () 20:=by
 unfold dictSet
 refine TR.holding (TR.bind TR.pyHash_int ?_)
 unfold dictSetHashed
 refine TR.holding (TR.bind (TR.dictFind_none ho hd hk) ?_)
 exact TR.bind TR.rule (TR.updateDictKeys ho hd ok (by rw [Array.size_push];omega) |>.le (by omega))
theorem TR.dictPut_new {a:Addr} {o:Obj} {es:Array DictEntry} {ep:Nat} {k:Int} {t:Tok} {v:Value} {hh:Int} (ho:h.get? a=some o) (hd:o.data=.dict es ep) (hk:∀ e∈es,e.hash ≠ hh) (ok:(Nat.ble X.n a || a == mainNs)=true) (hz:es.size≤sizeLine) :
  TR X ⟨h,g,d,tk,os⟩ (dictPut a hh (.int k t) v) ⟨h.update a (Obj.mapDictKeys (·.push ⟨hh,.int k t,v⟩)),g,d,tk,os⟩ () 4:=by
 unfold dictPut
 exact TR.bind (TR.dictFind_none ho hd hk) (TR.updateDictKeys ho hd ok (by rw [Array.size_push];omega) |>.le (by omega))
end
end Mine
end
section
set_option maxRecDepth 100000
open PySem PySem.Calls PyProof.Rows PySem.W
set_option genSizeOf false
set_option genInjectivity false
namespace Mine
noncomputable def app (h:Heap) (l:List Obj):Heap:=⟨h.objs++l.toArray,h.life⟩
theorem app_nil (h:Heap):app h []=h:=by cases h;simp [app]
theorem app_size {h:Heap} {l:List Obj}:(app h l).objs.size=h.objs.size+l.length:=by simp [app]
theorem app_push {h:Heap} {l:List Obj} {o:Obj}:(app h l).push o=app h (l++[o]):=by
 show Heap.mk _ _=Heap.mk _ _
 simp [app]
theorem app_get {h:Heap} {l:List Obj} {i:Nat} {o:Obj} (e:l[i]?=some o) (nf:o.data ≠ .freed):(app h l).get? (h.objs.size+i)=some o:=by
 have:(app h l).objs[h.objs.size+i]?=some o:=by
  show (h.objs++l.toArray)[h.objs.size+i]?=_
  rw [Array.getElem?_append_right (by omega),Nat.add_sub_cancel_left]
  simpa using e
 unfold Heap.get?
 rw [this]
 obtain ⟨c,dd,dt,sl⟩:=o
 cases dt <;> first|rfl|exact (nf rfl).elim
theorem app_get_old {h:Heap} {l:List Obj} {a:Addr} {o:Obj} (e:h.get? a=some o):(app h l).get? a=some o:=by
 have lt:=Heap.lt_size e
 have:(app h l).objs[a]?=h.objs[a]?:=by
  show (h.objs++l.toArray)[a]?=_
  rw [Array.getElem?_append_left lt]
 unfold Heap.get? at e ⊢
 rw [this]
 exact e
theorem app_update {h:Heap} {l:List Obj} {i:Nat} {f:Obj→Obj}:(app h l).update (h.objs.size+i) f=app h (l.modify i f):=by
 show Heap.mk _ _=Heap.mk _ _
 congr 1
 apply Array.ext_getElem?
 intro j
 rw [Array.getElem?_modify]
 by_cases hj:j<h.objs.size
 ·rw [if_neg (by omega),Array.getElem?_append_left hj,Array.getElem?_append_left hj]
 ·rw [Array.getElem?_append_right (by omega),Array.getElem?_append_right (by omega)]
  simp only [List.getElem?_toArray,List.getElem?_modify]
  by_cases q:h.objs.size+i=j
  ·subst q
   simp
  ·rw [if_neg q]
   have:i ≠ j - h.objs.size:=by omega
   simp [this]
noncomputable def ent (t:Tok) (k:Int) (x:Str):DictEntry:=⟨hashInt k,.int k t,.str x (t+1)⟩
noncomputable def dOb (es:List DictEntry):Obj:={ cls:=.type "dict",data:=.dict es.toArray es.length }
theorem dOb_push {es:List DictEntry} {e:DictEntry}:Obj.mapDictKeys (·.push e) (dOb es)=dOb (es++[e]):=by
 simp [Obj.mapDictKeys,dOb]
noncomputable def ents3 (t:Tok):List (Int × Str)→List DictEntry
 | []=>[]
 | (k,x) :: r=>ent t k x :: ents3 (t+3) r
noncomputable def ents2 (t:Tok):List (Int × Str)→List DictEntry
 | []=>[]
 | (k,x) :: r=>ent t k x :: ents2 (t+2) r
noncomputable def chunk (t:Tok) (c:List (Int × Str)):List DictEntry:=match Nat.ble c.length 15 with
 | true=>ents2 t c
 | false=>ents3 t c
theorem ents3_hash:∀ {c:List (Int × Str)} {t:Tok},(ents3 t c).map (·.hash)=c.map fun x=>hashInt x.1
 | [],_=>rfl
 | (k,x) :: r,t=>by rw [ents3,List.map_cons,List.map_cons,ents3_hash];rfl
theorem ents2_hash:∀ {c:List (Int × Str)} {t:Tok},(ents2 t c).map (·.hash)=c.map fun x=>hashInt x.1
 | [],_=>rfl
 | (k,x) :: r,t=>by rw [ents2,List.map_cons,List.map_cons,ents2_hash];rfl
theorem chunk_hash {c:List (Int × Str)} {t:Tok}:(chunk t c).map (·.hash)=c.map fun x=>hashInt x.1:=by
 unfold chunk
 split
 ·exact ents2_hash
 ·exact ents3_hash
theorem chunk_length {c:List (Int × Str)} {t:Tok}:(chunk t c).length=c.length:=by
 have:=congrArg List.length (chunk_hash (c:=c) (t:=t))
 simpa using this
noncomputable def ItemOk (X:Tp) (it:Sem Value × Sem Value) (kx:Int × Str):Prop :=
 (∀ h g d tk os,TR X ⟨h,g,d,tk,os⟩ it.1 ⟨h,g,d,tk+1,os⟩ (.int kx.1 tk) 1)∧∀ h g d tk os,TR X ⟨h,g,d,tk,os⟩ it.2 ⟨h,g,d,tk+1,os⟩ (.str kx.2 tk) 2
inductive ItemsOk (X:Tp):List (Sem Value × Sem Value)→List (Int × Str)→Prop
 | nil:ItemsOk X [] []
 | cons {it:Sem Value × Sem Value} {kx:Int × Str} {l:List (Sem Value × Sem Value)} {c:List (Int × Str)}:ItemOk X it kx→ItemsOk X l c→ItemsOk X (it :: l) (kx :: c)
theorem ItemsOk.length {X:Tp} {l:List (Sem Value × Sem Value)} {c:List (Int × Str)} (i:ItemsOk X l c):l.length=c.length:=by
 induction i with
 | nil=>rfl
 | cons _ _ ih=>rw [List.length_cons,List.length_cons,ih]
theorem ItemsOk.append {X:Tp} {l l':List (Sem Value × Sem Value)} {c c':List (Int × Str)} (i:ItemsOk X l c) (j:ItemsOk X l' c'):ItemsOk X (l++l') (c++c'):=by
 induction i with
 | nil=>exact j
 | cons a _ ih=>exact .cons a ih
section
variable {X:Tp} {h:Heap} {l:List Obj} {g:Array GenState} {d:Drawn} {tk:Nat} {os:OsState}
theorem hash_new {es:List DictEntry} {k:Int} (hn:∀ e∈es,e.hash ≠ hashInt k):∀ e∈es.toArray,e.hash ≠ hashInt k:=fun e he=>hn e (List.mem_toArray.mp he)
theorem get_dOb {i:Nat} {es:List DictEntry} (hi:l[i]?=some (dOb es)):(app h l).get? (h.objs.size+i)=some (dOb es):=app_get hi (by exact Data.noConfusion)
theorem modify_dOb {i:Nat} {es:List DictEntry} {e:DictEntry} (hi:l[i]?=some (dOb es)):l.modify i (Obj.mapDictKeys (·.push e))=l.set i (dOb (es++[e])):=by
 apply List.ext_getElem?
 intro j
 rw [List.getElem?_modify,List.getElem?_set]
 by_cases q:i=j
 ·subst q
  have lt:i<l.length:=by
   by_cases c:i<l.length
   ·exact c
   ·rw [List.getElem?_eq_none (by omega)] at hi;cases hi
  rw [hi]
  simp [lt,dOb_push]
 ·simp [q]
theorem TR.set_at {i:Nat} {es:List DictEntry} {k:Int} {x:Str} {t u:Tok} (hn:X.n≤h.objs.size) (hi:l[i]?=some (dOb es)) (hk:∀ e∈es,e.hash ≠ hashInt k) (hz:es.length≤10000) :
  TR X ⟨app h l,g,d,tk,os⟩ (dictSet (h.objs.size+i) (.int k t) (.str x u)) ⟨app h (l.set i (dOb (es++[⟨hashInt k,.int k t,.str x u⟩]))),g,d,tk+1,os⟩ () 20:=by
 have:=TR.dictSet_new (X:=X) (h:=app h l) (g:=g) (d:=d) (tk:=tk) (os:=os) (a:=h.objs.size+i) (o:=dOb es) (es:=es.toArray) (ep:=es.length) (k:=k) (t:=t) (v:=.str x u) (get_dOb hi) rfl (hash_new hk) (by
  rw [Nat.ble_eq_true_of_le (by omega)];rfl) (by rw [List.size_toArray];exact Nat.le_trans hz (by decide))
 rw [app_update,modify_dOb hi] at this
 exact this
theorem TR.put_at {i:Nat} {es:List DictEntry} {e:DictEntry} {k:Int} {t:Tok} (he:e.key=.int k t) (hn:X.n≤h.objs.size) (hi:l[i]?=some (dOb es)) (hk:∀ z∈es,z.hash ≠ e.hash) (hz:es.length≤10000) :
  TR X ⟨app h l,g,d,tk,os⟩ (dictPut (h.objs.size+i) e.hash e.key e.val) ⟨app h (l.set i (dOb (es++[e]))),g,d,tk,os⟩ () 4:=by
 have:=TR.dictPut_new (X:=X) (h:=app h l) (g:=g) (d:=d) (tk:=tk) (os:=os) (a:=h.objs.size+i) (o:=dOb es) (es:=es.toArray) (ep:=es.length) (k:=k) (t:=t) (v:=e.val) (hh:=e.hash) (get_dOb hi) rfl (fun z hz=>hk z (List.mem_toArray.mp hz)) (by
  rw [Nat.ble_eq_true_of_le (by omega)];rfl) (by rw [List.size_toArray];exact Nat.le_trans hz (by decide))
 rw [app_update,modify_dOb hi] at this
 rw [he]
 obtain ⟨a1,a2,a3⟩:=e
 subst he
 exact this
theorem getLast_app {o:Obj}:(l++[o])[l.length]?=some o:=by simp
theorem set_last {o o':Obj}:(l++[o]).set l.length o'=l++[o']:=by
 rw [List.set_append_right _ _ (Nat.le_refl _),Nat.sub_self]
 rfl
theorem TR.long {pairs:List (Sem Value × Sem Value)} {c:List (Int × Str)} (hn:X.n≤h.objs.size) (it:ItemsOk X pairs c):∀ {es:List DictEntry} {tk:Nat},(es.map (·.hash)++c.map fun x=>hashInt x.1).Nodup→es.length+c.length≤10000 →
  TR X ⟨app h (l++[dOb es]),g,d,tk,os⟩ (forIn pairs PUnit.unit fun x _=>do
    let kv ← x.1
    let vv ← PySem.holding [kv] x.2
    PySem.holding [kv,vv] (dictSet (h.objs.size+l.length) kv vv)
    Pure.pure (ForInStep.yield PUnit.unit)) ⟨app h (l++[dOb (es++ents3 tk c)]),g,d,tk+3*c.length,os⟩ PUnit.unit (30*c.length):=by
 induction it with
 | nil =>
  intro es tk _ _
  rw [ents3,List.append_nil]
  exact TR.pure
 | @cons it kx pairs c hi _ ih =>
  intro es tk nd hz
  rw [List.forIn_cons]
  rw [show 30*(kx :: c).length=30+30*c.length by rw [List.length_cons];omega]
  refine TR.bind0 (s':=⟨app h (l++[dOb (es++[ent tk kx.1 kx.2])]),g,d,tk+3,os⟩) (a:=.yield PUnit.unit) ?_ ?_
  ·refine TR.bind (hi.1 _ _ _ _ _) (TR.bind (TR.holding (hi.2 _ _ _ _ _)) (TR.bind (k:=20) (s':=⟨app h (l++[dOb (es++[ent tk kx.1 kx.2])]),g,d,tk+3,os⟩) (a:=()) (TR.holding ?_) TR.pure))
   have:=TR.set_at (X:=X) (h:=h) (l:=l++[dOb es]) (g:=g) (d:=d) (tk:=tk+2) (os:=os) (i:=l.length) (es:=es) (k:=kx.1) (x:=kx.2) (t:=tk) (u:=tk+1) hn getLast_app (fun e he q=>?_) (by omega)
   ·rw [set_last] at this
    exact this
   ·have h1:=(List.nodup_append.mp nd).2.2 e.hash (List.mem_map.mpr ⟨e,he,rfl⟩) (hashInt kx.1) (.head _)
    exact h1 q
  ·have:=ih (es:=es++[ent tk kx.1 kx.2]) (tk:=tk+3) (by simpa [ent] using nd) (by simp at hz ⊢;omega)
   rw [List.append_assoc] at this
   rw [show tk+3*(kx :: c).length=tk+3+3*c.length by rw [List.length_cons];omega]
   exact this
end
end Mine
end
section
set_option maxRecDepth 100000
open PySem PySem.Calls PyProof.Rows PySem.W
set_option genSizeOf false
set_option genInjectivity false
namespace Mine
section
variable {X:Tp} {h:Heap} {l:List Obj} {g:Array GenState} {d:Drawn} {os:OsState}
noncomputable def vals2 (t:Tok):List (Int × Str)→List (Value × Value)
 | []=>[]
 | (k,x) :: r=>(.int k t,.str x (t+1)) :: vals2 (t+2) r
theorem TR.evalPairs {pairs:List (Sem Value × Sem Value)} {c:List (Int × Str)} (it:ItemsOk X pairs c):∀ {hh:Heap} {tk:Nat},TR X ⟨hh,g,d,tk,os⟩ (evalPairs pairs) ⟨hh,g,d,tk+2*c.length,os⟩ (vals2 tk c) (3*c.length):=by
 induction it with
 | nil=>intro hh tk;exact TR.pure
 | @cons it kx pairs c hi _ ih =>
  intro hh tk
  show TR X _ (do let kv ← it.1;let vv ← PySem.holding [kv] it.2;return (kv,vv) :: (← PySem.holding [kv,vv] (PySem.evalPairs pairs))) _ _ _
  have hl:(kx :: c).length=c.length+1:=rfl
  refine TR.bind (hi.1 _ _ _ _ _) (TR.bind (TR.holding (hi.2 _ _ _ _ _)) (TR.bind (TR.holding (ih (tk:=tk+1+1))) ?_))
  rw [show tk+2*(kx :: c).length=tk+1+1+2*c.length by rw [List.length_cons];omega]
  exact TR.pure
theorem TR.short {c:List (Int × Str)} (hn:X.n≤h.objs.size):∀ {es:List DictEntry} {tk u:Nat},(es.map (·.hash)++c.map fun x=>hashInt x.1).Nodup→es.length+c.length≤10000 →
  TR X ⟨app h (l++[dOb es]),g,d,tk,os⟩ (forIn (vals2 u c) PUnit.unit fun x _=>do
    dictSet (h.objs.size+l.length) x.1 x.2
    Pure.pure (ForInStep.yield PUnit.unit)) ⟨app h (l++[dOb (es++ents2 u c)]),g,d,tk+c.length,os⟩ PUnit.unit (20*c.length):=by
 induction c with
 | nil =>
  intro es tk u _ _
  rw [ents2,List.append_nil]
  exact TR.pure
 | cons kx c ih =>
  intro es tk u nd hz
  rw [vals2,List.forIn_cons]
  rw [show 20*(kx :: c).length=20+20*c.length by rw [List.length_cons];omega]
  refine TR.bind0 (s':=⟨app h (l++[dOb (es++[ent u kx.1 kx.2])]),g,d,tk+1,os⟩) (a:=.yield PUnit.unit) ?_ ?_
  ·refine TR.bind (k:=20) (s':=⟨app h (l++[dOb (es++[ent u kx.1 kx.2])]),g,d,tk+1,os⟩) (a:=()) ?_ TR.pure
   have:=TR.set_at (X:=X) (h:=h) (l:=l++[dOb es]) (g:=g) (d:=d) (tk:=tk) (os:=os) (i:=l.length) (es:=es) (k:=kx.1) (x:=kx.2) (t:=u) (u:=u+1) hn getLast_app (fun e he q=>?_) (by omega)
   ·rw [set_last] at this
    exact this
   ·have h1:=(List.nodup_append.mp nd).2.2 e.hash (List.mem_map.mpr ⟨e,he,rfl⟩) (hashInt kx.1) (.head _)
    exact h1 q
  ·have:=ih (es:=es++[ent u kx.1 kx.2]) (tk:=tk+1) (u:=u+2) (by simpa [ent] using nd) (by simp at hz ⊢;omega)
   rw [List.append_assoc] at this
   rw [show tk+(kx :: c).length=tk+1+c.length by rw [List.length_cons];omega]
   exact this
theorem TR.subDict {pairs:List (Sem Value × Sem Value)} {c:List (Int × Str)} {tk:Nat} (hn:X.n≤h.objs.size) (it:ItemsOk X pairs c) (nd:(c.map fun x=>hashInt x.1).Nodup) (hz:c.length≤10000) :
  TR X ⟨app h l,g,d,tk,os⟩ (subDict pairs) ⟨app h (l++[dOb (chunk tk c)]),g,d,tk+3*c.length,os⟩ (h.objs.size+l.length) (30*c.length+5):=by
 unfold PySem.subDict
 have ha:=TR.alloc (X:=X) (h:=app h l) (g:=g) (d:=d) (tk:=tk) (os:=os) (o:=dOb [])
 rw [app_push,app_size] at ha
 refine TR.bind ha ?_
 refine TR.bind (k:=30*c.length+4) (s':=⟨app h (l++[dOb (chunk tk c)]),g,d,tk+3*c.length,os⟩) (a:=()) (TR.holding ?_) TR.pure
 rw [it.length]
 unfold chunk
 by_cases q:c.length≤15
 ·rw [if_pos q,Nat.ble_eq_true_of_le q]
  refine TR.bind (TR.evalPairs it) (TR.holding ?_)
  have:=TR.short (X:=X) (h:=h) (l:=l) (g:=g) (d:=d) (os:=os) (c:=c) hn (es:=[]) (tk:=tk+2*c.length) (u:=tk) (by simpa using nd) (by simpa using hz)
  rw [List.nil_append,show tk+2*c.length+c.length=tk+3*c.length by omega] at this
  exact TR.bind this TR.pure
 ·have qb:Nat.ble c.length 15=false:=by
   cases e:Nat.ble c.length 15 with
   | false=>rfl
   | true=>exact (q (Nat.le_of_ble_eq_true e)).elim
  rw [if_neg q,qb]
  refine TR.bind TR.rule ?_
  have:=TR.long (X:=X) (h:=h) (l:=l) (g:=g) (d:=d) (os:=os) hn it (es:=[]) (tk:=tk) (by simpa using nd) (by simpa using hz)
  rw [List.nil_append] at this
  exact TR.bind this TR.pure
theorem TR.typeOf_ref {hh:Heap} {a:Addr} {o:Obj} {tk:Nat} (e:hh.get? a=some o):TR X ⟨hh,g,d,tk,os⟩ (typeOf (.ref a)) ⟨hh,g,d,tk,os⟩ o.cls 1:=by
 unfold PySem.typeOf
 exact TR.bind (TR.loadPart e) TR.pure
end
end Mine
end
section
set_option maxRecDepth 100000
open PySem PySem.Calls PyProof.Rows PySem.W
set_option genSizeOf false
set_option genInjectivity false
namespace Mine
section
variable {X:Tp} {h:Heap} {l:List Obj} {g:Array GenState} {d:Drawn} {os:OsState}
theorem TR.isDict {hh:Heap} {a:Addr} {o:Obj} {tk:Nat} (e:hh.get? a=some o) (hc:o.cls=.type "dict"):TR X ⟨hh,g,d,tk,os⟩ (isInstance (.ref a) (.type "dict")) ⟨hh,g,d,tk,os⟩ true 1:=by
 unfold isInstance
 refine TR.bind (TR.typeOf_ref e) ?_
 rw [hc,isSubtype_dict_dict]
 exact TR.pure
theorem TR.dictIter {hh:Heap} {a:Addr} {o:Obj} {tk:Nat} (e:hh.get? a=some o) (hc:o.cls=.type "dict"):TR X ⟨hh,g,d,tk,os⟩ (specialOf (.ref a) "__iter__") ⟨hh,g,d,tk,os⟩ (some (.builtin "dict.__iter__")) 1:=by
 unfold specialOf
 refine TR.bind (TR.typeOf_ref e) ?_
 rw [hc,F.slot_dict_iter.lookup]
 exact TR.pure
theorem TR.mergeLoop {es cs:List DictEntry} {rest:List Obj} {i:Nat} {tk:Nat} (hn:X.n≤h.objs.size) (hi:rest[i]?=some (dOb cs)) (hks:∀ e∈cs,∃ k t,e.key=.int k t) (nd:(es.map (·.hash)++cs.map (·.hash)).Nodup) (hz:es.length+cs.length≤10000) :
  ∀ n k,k+n=cs.length→TR X ⟨app h (dOb (es++cs.take k) :: rest),g,d,tk,os⟩ (forIn (List.range' k n) PUnit.unit fun j _=>do
   let x ← PySem.dictEntries (h.objs.size+(i+1))
   match x[j]? with
   | some e=>do
    PySem.holding [e.key,e.val] (do dictPut (h.objs.size+0) e.hash e.key e.val)
    let z ← PySem.dictEpoch (h.objs.size+(i+1))
    if (z != cs.length)=true then do
     unsupported "dict.changed-during-merge"
     Pure.pure (ForInStep.yield PUnit.unit)
    else Pure.pure (ForInStep.yield PUnit.unit)
   | _=>do
    unsupported "dict.changed-during-merge"
    Pure.pure (ForInStep.yield PUnit.unit)) ⟨app h (dOb (es++cs) :: rest),g,d,tk,os⟩ PUnit.unit (10*n)
 | 0,k,hk=>by
  rw [List.take_of_length_le (by omega)]
  exact TR.pure
 | n+1,k,hk=>by
  have hlt:k<cs.length:=by omega
  have get:∀ o:Obj,(app h (o :: rest)).get? (h.objs.size+(i+1))=some (dOb cs):=fun o=>app_get (by simpa using hi) (by exact Data.noConfusion)
  rw [List.range'_succ,List.forIn_cons]
  have ht:es++cs.take (k+1)=es++cs.take k++[cs[k]]:=by rw [List.append_assoc,List.take_succ_eq_append_getElem hlt]
  rw [show 10*(n+1)=10+10*n by omega]
  refine TR.bind0 (s':=⟨app h (dOb (es++cs.take (k+1)) :: rest),g,d,tk,os⟩) (a:=.yield PUnit.unit) ?_ (TR.mergeLoop hn hi hks nd hz n (k+1) (by omega))
  refine TR.bind (TR.dictEntries (get _) rfl) ?_
  have:cs.toArray[k]?=some cs[k]:=by simp [hlt]
  rw [this]
  obtain ⟨kk,t,hkey⟩:=hks _ (List.getElem_mem hlt)
  refine TR.bind (k:=4) (s':=⟨app h (dOb (es++cs.take (k+1)) :: rest),g,d,tk,os⟩) (a:=()) (TR.holding ?_) ?_
  ·have:=TR.put_at (X:=X) (h:=h) (l:=dOb (es++cs.take k) :: rest) (g:=g) (d:=d) (tk:=tk) (os:=os) (i:=0) (es:=es++cs.take k) (e:=cs[k]) hkey hn rfl (fun z hz q=>?_) (by rw [List.length_append,List.length_take];omega)
   ·rw [ht]
    exact this
   ·have e1:cs=cs.take k++cs[k] :: cs.drop (k+1):=by rw [List.getElem_cons_drop,List.take_append_drop]
    rw [e1,List.map_append,List.map_cons,← List.append_assoc,← List.map_append] at nd
    have:=(List.nodup_append.mp nd).2.2 z.hash (List.mem_map.mpr ⟨z,hz,rfl⟩) cs[k].hash (.head _)
    exact this q
  ·refine TR.bind (TR.dictEpoch (get _) rfl) ?_
   rw [if_neg (by simp)]
   exact TR.pure
end
end Mine
end
section
set_option maxRecDepth 100000
open PySem PySem.Calls PyProof.Rows PySem.W
set_option genSizeOf false
set_option genInjectivity false
namespace Mine
section
variable {X:Tp} {h:Heap} {l:List Obj} {g:Array GenState} {d:Drawn} {os:OsState}
theorem TR.merge {es cs:List DictEntry} {rest:List Obj} {i:Nat} {tk:Nat} (hn:X.n≤h.objs.size) (hs:sysModules<h.objs.size) (ne:es ≠ []) (hi:rest[i]?=some (dOb cs)) (hks:∀ e∈cs,∃ k t,e.key=.int k t) (nd:(es.map (·.hash)++cs.map (·.hash)).Nodup) (hz:es.length+cs.length≤10000) :
  TR X ⟨app h (dOb es :: rest),g,d,tk,os⟩ (mergeMapping (h.objs.size+0) (.ref (h.objs.size+(i+1))) false) ⟨app h (dOb (es++cs) :: rest),g,d,tk,os⟩ () (10*cs.length+10):=by
 have get:(app h (dOb es :: rest)).get? (h.objs.size+(i+1))=some (dOb cs):=app_get (by simpa using hi) (by exact Data.noConfusion)
 have get0:(app h (dOb es :: rest)).get? (h.objs.size+0)=some (dOb es):=app_get rfl (by exact Data.noConfusion)
 have hs':¬ ((h.objs.size+(i+1) == sysModules)=true):=by
  intro q
  exact absurd (eq_of_beq q) (Nat.ne_of_gt (Nat.lt_of_lt_of_le hs (Nat.le_add_right _ _)))
 unfold mergeMapping
 refine TR.bind (TR.isDict get rfl) ?_
 rw [if_pos rfl]
 refine TR.bind (TR.dictIter get rfl) ?_
 have hb:(some (Value.builtin "dict.__iter__") == some (Value.builtin "dict.__iter__"))=true:=by simp
 rw [hb]
 dsimp only
 refine TR.bind (k:=0) TR.pure ?_
 dsimp only
 rw [if_neg hs']
 simp only [Bool.false_eq_true,if_false]
 refine TR.bind (TR.dictEntries get0 rfl) ?_
 rw [if_neg (show ¬ (es.toArray.isEmpty=true) by
  intro q
  cases es with
  | nil=>exact ne rfl
  | cons=>simp at q)]
 refine TR.bind (TR.dictEntries get rfl) (TR.bind (TR.dictEpoch get rfl) ?_)
 rw [List.size_toArray,List.range_eq_range']
 have:=TR.mergeLoop (X:=X) (h:=h) (g:=g) (d:=d) (os:=os) (tk:=tk) hn hi hks nd hz cs.length 0 (by omega)
 rw [List.take_zero,List.append_nil] at this
 refine TR.bind this ?_
 exact TR.pure
end
end Mine
end
section
set_option maxRecDepth 100000
open PySem PySem.Calls PyProof.Rows PySem.W
set_option genSizeOf false
set_option genInjectivity false
namespace Mine
noncomputable abbrev MainD:=Option (List DictEntry × List (List DictEntry))
noncomputable def objsOf:MainD→List Obj
 | none=>[]
 | some (es,subs)=>dOb es :: subs.map dOb
noncomputable def addrOf (n:Nat):MainD→Option Addr
 | none=>none
 | some _=>some (n+0)
noncomputable def hashesOf:MainD→List Int
 | none=>[]
 | some (es,_)=>es.map (·.hash)
noncomputable def flushP (tk:Tok) (r:List (Int × Str)) (m:MainD):MainD:=match r with
 | []=>m
 | _=>match m with
  | none=>some (chunk tk r,[])
  | some (es,subs)=>some (es++chunk tk r,subs++[chunk tk r])
noncomputable def disp (tk:Tok) (m:MainD) (r:List (Int × Str)):List (Int × Str)→MainD
 | []=>flushP tk r m
 | x :: c=>match Nat.beq (r++[x]).length 17 with
  | true=>disp (tk+3*(r++[x]).length) (flushP tk (r++[x]) m) [] c
  | false=>disp tk m (r++[x]) c
theorem ents3_keys:∀ {c:List (Int × Str)} {t:Tok},∀ e∈ents3 t c,∃ k t,e.key=.int k t
 | [],_=>fun e he=>nomatch he
 | (k,x) :: r,t=>fun e he=>by
  rw [ents3] at he
  rcases List.mem_cons.mp he with rfl|he
  ·exact ⟨_,_,rfl⟩
  ·exact ents3_keys e he
theorem ents2_keys:∀ {c:List (Int × Str)} {t:Tok},∀ e∈ents2 t c,∃ k t,e.key=.int k t
 | [],_=>fun e he=>nomatch he
 | (k,x) :: r,t=>fun e he=>by
  rw [ents2] at he
  rcases List.mem_cons.mp he with rfl|he
  ·exact ⟨_,_,rfl⟩
  ·exact ents2_keys e he
theorem chunk_keys {c:List (Int × Str)} {t:Tok}:∀ e∈chunk t c,∃ k t,e.key=.int k t:=by
 unfold chunk
 split
 ·exact ents2_keys
 ·exact ents3_keys
section
variable {X:Tp} {h:Heap} {l:List Obj} {g:Array GenState} {d:Drawn} {os:OsState}
theorem flushP_hash {tk:Tok} {r:List (Int × Str)} {m:MainD}:hashesOf (flushP tk r m)=hashesOf m++r.map fun x=>hashInt x.1:=by
 unfold flushP
 split
 ·simp
 ·rename_i hr
  cases m with
  | none=>simp [hashesOf,chunk_hash]
  | some p=>simp [hashesOf,chunk_hash]
noncomputable def flushS (run:List (Sem Value × Sem Value)) (main:Option Addr):Sem (Option Addr):=if run.isEmpty=true then Pure.pure main
   else match main with
    | none=>do
     let __do_lift ← PySem.subDict run
     Pure.pure (some __do_lift)
    | some d=>do
     let sub ← PySem.holding [Value.ref d] (PySem.subDict run)
     (PySem.holding [Value.ref d,Value.ref sub] (mergeMapping d (Value.ref sub) false)).onRaise fun x=>do
       let _ ← PySem.holding [Value.ref d,x] (runValue (Code.builtin "proto.let_go" { }))
       Pure.pure ()
     Pure.pure (some d)
theorem TR.flush {run:List (Sem Value × Sem Value)} {r:List (Int × Str)} {m:MainD} {tk:Nat} (hn:X.n≤h.objs.size) (hs:sysModules<h.objs.size) (it:ItemsOk X run r) (nd:(hashesOf m++r.map fun x=>hashInt x.1).Nodup) (hz:(hashesOf m).length+r.length≤10000) (ok:∀ es subs,m=some (es,subs)→es ≠ []) :
  TR X ⟨app h (objsOf m),g,d,tk,os⟩ (flushS run (addrOf h.objs.size m)) ⟨app h (objsOf (flushP tk r m)),g,d,tk+3*r.length,os⟩ (addrOf h.objs.size (flushP tk r m)) (40*r.length+20):=by
 unfold flushS
 cases it with
 | nil =>
  refine TR.of_eq (if_pos rfl) ?_
  exact TR.pure
 | @cons i kx run r hi it =>
  refine TR.of_eq (if_neg (by simp)) ?_
  cases m with
  | none =>
   show TR X ⟨app h [],g,d,tk,os⟩ (do let x ← PySem.subDict (i :: run);Pure.pure (some x)) ⟨app h [dOb (chunk tk (kx :: r))],g,d,_,os⟩ (some (h.objs.size+0)) _
   have:=TR.subDict (X:=X) (h:=h) (l:=[]) (g:=g) (d:=d) (os:=os) (tk:=tk) hn (.cons hi it) (by simpa [hashesOf] using nd) (by simpa [hashesOf] using hz)
   exact TR.bind this TR.pure
  | some p =>
   obtain ⟨es,subs⟩:=p
   show TR X ⟨app h (dOb es :: subs.map dOb),g,d,tk,os⟩ (do
     let sub ← PySem.holding [Value.ref (h.objs.size+0)] (PySem.subDict (i :: run))
     (PySem.holding [Value.ref (h.objs.size+0),Value.ref sub] (mergeMapping (h.objs.size+0) (Value.ref sub) false)).onRaise fun x=>do
       let _ ← PySem.holding [Value.ref (h.objs.size+0),x] (runValue (Code.builtin "proto.let_go" { }))
       Pure.pure ()
     Pure.pure (some (h.objs.size+0))) ⟨app h (dOb (es++chunk tk (kx :: r)) :: (subs++[chunk tk (kx :: r)]).map dOb),g,d,_,os⟩ (some (h.objs.size+0)) _
   have nd2:=(List.nodup_append.mp nd).2.1
   have:=TR.subDict (X:=X) (h:=h) (l:=dOb es :: subs.map dOb) (g:=g) (d:=d) (os:=os) (tk:=tk) hn (.cons hi it) nd2 (by omega)
   refine TR.bind (TR.holding this) ?_
   have e1:(dOb es :: subs.map dOb)++[dOb (chunk tk (kx :: r))]=dOb es :: (subs++[chunk tk (kx :: r)]).map dOb:=by simp
   have e2:h.objs.size+(dOb es :: subs.map dOb).length=h.objs.size+(subs.length+1):=by simp
   rw [e1,e2]
   refine TR.bind (TR.onRaise (TR.holding (TR.merge hn hs (ok es subs rfl) (by simp) chunk_keys ?_ ?_))) TR.pure (by rw [chunk_length];omega)
   ·rw [chunk_hash];exact nd
   ·rw [chunk_length];simpa [hashesOf] using hz
theorem flushP_ok {tk:Tok} {r:List (Int × Str)} {m:MainD} (ok:∀ es subs,m=some (es,subs)→es ≠ []):∀ es subs,flushP tk r m=some (es,subs)→es ≠ []:=by
 intro es subs e q
 subst q
 unfold flushP at e
 split at e
 ·exact ok _ _ e rfl
 ·rename_i hr
  cases m with
  | none =>
   have:=congrArg (fun z=>z.map (·.1)) e
   simp only [Option.map_some,Option.some.injEq] at this
   have:=congrArg List.length this
   rw [chunk_length] at this
   cases r with
   | nil=>exact hr rfl
   | cons=>simp at this
  | some p =>
   obtain ⟨es,subs'⟩:=p
   simp only [Option.some.injEq,Prod.mk.injEq,List.append_eq_nil_iff] at e
   exact ok es subs' rfl e.1.1
theorem TR.displayLoop {pairs:List (Sem Value × Sem Value)} {c:List (Int × Str)} (hn:X.n≤h.objs.size) (hs:sysModules<h.objs.size) (it:ItemsOk X pairs c):∀ {run:List (Sem Value × Sem Value)} {r:List (Int × Str)} {m:MainD} {tk:Nat},ItemsOk X run r→(hashesOf m++(r++c).map fun x=>hashInt x.1).Nodup→(hashesOf m).length+(r++c).length≤10000→(∀ es subs,m=some (es,subs)→es ≠ []) →
  ∃ (run':List (Sem Value × Sem Value)) (r':List (Int × Str)) (m':MainD) (tk':Nat),ItemsOk X run' r'∧flushP tk' r' m'=disp tk m r c∧tk'+3*r'.length=tk+3*(r++c).length∧(hashesOf m'++r'.map fun x=>hashInt x.1).Nodup∧(hashesOf m').length+r'.length≤10000∧(∀ es subs,m'=some (es,subs)→es ≠ []) ∧
   TR X ⟨app h (objsOf m),g,d,tk,os⟩ (forIn (pairs.map fun p=>(some p.1,p.2)) ((addrOf h.objs.size m,run):Option Addr × List (Sem Value × Sem Value)) fun (x:Option (Sem Value) × Sem Value) __s =>
      match x.fst with
      | some k =>
       if ((__s.snd++[(k,x.snd)]).length == 17)=true then do
        let main ← flushS (__s.snd++[(k,x.snd)]) __s.fst
        Pure.pure (ForInStep.yield (main,[]))
       else Pure.pure (ForInStep.yield (__s.fst,__s.snd++[(k,x.snd)]))
      | none=>Sem.unsupported "") ⟨app h (objsOf m'),g,d,tk',os⟩ (addrOf h.objs.size m',run') (100*(r++c).length):=by
 induction it with
 | nil =>
  intro run r m tk ir nd hz ok
  rw [List.append_nil] at nd hz
  exact ⟨run,r,m,tk,ir,rfl,by rw [List.append_nil],nd,hz,ok,TR.pure⟩
 | @cons i kx pairs c hi it ih =>
  intro run r m tk ir nd hz ok
  have ir':=ir.append (.cons hi .nil)
  have hl:(run++[i]).length=(r++[kx]).length:=ir'.length
  have e0:r++kx :: c=(r++[kx])++c:=by simp
  rw [e0] at nd hz
  rw [List.map_append,← List.append_assoc] at nd
  by_cases q:(r++[kx]).length=17
  ·have nd1:=(List.nodup_append.mp nd).1
   obtain ⟨run',r',m',tk',a1,a2,a3,a4,a5,a6,a7⟩:=ih (run:=[]) (r:=[]) (m:=flushP tk (r++[kx]) m) (tk:=tk+3*(r++[kx]).length) .nil (by rw [flushP_hash];exact nd) (by rw [flushP_hash,List.length_append,List.length_map];simp only [List.nil_append,List.length_append,List.length_cons,List.length_nil] at hz q ⊢;omega) (flushP_ok ok)
   refine ⟨run',r',m',tk',a1,?_,?_,a4,a5,a6,?_⟩
   ·rw [a2]
    show _=(match Nat.beq (r++[kx]).length 17 with|true=>_|false=>_)
    rw [q]
   ·rw [List.nil_append] at a3
    have e1:(r++kx :: c).length=(r++[kx]).length+c.length:=by rw [e0,List.length_append]
    omega
   ·have e1:(r++kx :: c).length=(r++[kx]).length+c.length:=by rw [e0,List.length_append]
    have e2:(([]:List (Int × Str))++c).length=c.length:=rfl
    rw [List.map_cons,List.forIn_cons]
    refine TR.bind (h:=by omega) (k:=40*(r++[kx]).length+20) (s':=⟨app h (objsOf (flushP tk (r++[kx]) m)),g,d,tk+3*(r++[kx]).length,os⟩) (a:=ForInStep.yield ((addrOf h.objs.size (flushP tk (r++[kx]) m),[]):Option Addr × List (Sem Value × Sem Value))) ?_ ?_
    rotate_left
    ·exact a7.le (by rw [e2];omega)
    show TR X _ (if ((run++[i]).length == 17)=true then _ else _) _ _ _
    rw [if_pos (by rw [hl,q];rfl)]
    exact TR.bind (TR.flush hn hs ir' nd1 (by simp only [List.length_append,List.length_cons,List.length_nil] at hz ⊢;omega) ok) TR.pure
  ·obtain ⟨run',r',m',tk',a1,a2,a3,a4,a5,a6,a7⟩:=ih (run:=run++[i]) (r:=r++[kx]) (m:=m) (tk:=tk) ir' (by rw [List.map_append,← List.append_assoc];exact nd) hz ok
   refine ⟨run',r',m',tk',a1,?_,?_,a4,a5,a6,?_⟩
   ·rw [a2]
    show _=(match Nat.beq (r++[kx]).length 17 with|true=>_|false=>_)
    have:Nat.beq (r++[kx]).length 17=false:=by
     cases z:Nat.beq (r++[kx]).length 17 with
     | false=>rfl
     | true=>exact (q (Nat.eq_of_beq_eq_true z)).elim
    rw [this]
   ·rw [a3,e0]
   ·rw [List.map_cons,List.forIn_cons]
    refine TR.bind (k:=0) (s':=⟨app h (objsOf m),g,d,tk,os⟩) (a:=ForInStep.yield ((addrOf h.objs.size m,run++[i]):Option Addr × List (Sem Value × Sem Value))) ?_ ?_
    rotate_left
    ·rw [e0];exact a7
    show TR X _ (if ((run++[i]).length == 17)=true then _ else _) _ _ _
    rw [if_neg (by rw [hl];intro z;exact q (of_decide_eq_true z))]
    exact TR.pure
end
end Mine
end
section
set_option maxRecDepth 100000
open PySem PySem.Calls PyProof.Rows PySem.W
set_option genSizeOf false
set_option genInjectivity false
namespace Mine
section
variable {X:Tp} {h:Heap} {g:Array GenState} {d:Drawn} {os:OsState} {tk:Nat}
theorem flushP_some {tk:Tok} {r:List (Int × Str)} {m:MainD} (ne:r ≠ []∨m ≠ none):∃ p,flushP tk r m=some p:=by
 unfold flushP
 split
 ·cases m with
  | none=>exact (ne.elim (fun q=>q rfl) fun q=>q rfl).elim
  | some p=>exact ⟨p,rfl⟩
 ·cases m with
  | none=>exact ⟨_,rfl⟩
  | some p=>exact ⟨_,rfl⟩
theorem disp_some:∀ {c:List (Int × Str)} {tk:Tok} {m:MainD} {r:List (Int × Str)},(c ≠ []∨r ≠ []∨m ≠ none)→∃ p,disp tk m r c=some p
 | [],tk,m,r,ne=>by
  unfold disp
  exact flushP_some (ne.elim (fun q=>(q rfl).elim) id)
 | x :: c,tk,m,r,ne=>by
  unfold disp
  split
  ·obtain ⟨p,hp⟩:=flushP_some (tk:=tk) (r:=r++[x]) (m:=m) (.inl (by simp))
   rw [hp]
   exact disp_some (.inr (.inr (by simp)))
  ·exact disp_some (.inr (.inl (by simp)))
theorem disp_hash:∀ {c:List (Int × Str)} {tk:Tok} {m:MainD} {r:List (Int × Str)},hashesOf (disp tk m r c)=hashesOf m++(r++c).map fun x=>hashInt x.1
 | [],tk,m,r=>by unfold disp;rw [flushP_hash,List.append_nil]
 | x :: c,tk,m,r=>by
  unfold disp
  split
  ·rw [disp_hash,flushP_hash];simp
  ·rw [disp_hash];simp
theorem disp_len {c:List (Int × Str)}:(hashesOf (disp tk none [] c)).length=c.length:=by rw [disp_hash];simp [hashesOf]
theorem TR.display {pairs:List (Sem Value × Sem Value)} {c:List (Int × Str)} (hn:X.n≤h.objs.size) (hs:sysModules<h.objs.size) (it:ItemsOk X pairs c) (nd:(c.map fun x=>hashInt x.1).Nodup) (hz:c.length≤10000) (ne:c ≠ []) :
  TR X ⟨h,g,d,tk,os⟩ (dictDisplay (pairs.map fun p=>(some p.1,p.2))) ⟨app h (objsOf (disp tk none [] c)),g,d,tk+3*c.length,os⟩ (.ref (h.objs.size+0)) (200*c.length+20):=by
 obtain ⟨run',r',m',tk',a1,a2,a3,a4,a5,a6,a7⟩:=TR.displayLoop (X:=X) (h:=h) (g:=g) (d:=d) (os:=os) hn hs it (run:=[]) (r:=[]) (m:=none) (tk:=tk) .nil (by simpa [hashesOf] using nd) (by simpa [hashesOf] using hz) (fun _ _ q=>nomatch q)
 unfold dictDisplay
 dsimp only
 have hh:app h (objsOf none)=h:=app_nil h
 rw [hh] at a7
 have hl:r'.length≤c.length:=by
  have:=a4
  have h1:=congrArg (fun z=>(hashesOf z).length) a2
  simp only [flushP_hash,List.length_append,List.length_map] at h1
  have h2:(hashesOf (disp tk none [] c)).length=c.length:=disp_len
  omega
 refine TR.bind (k:=100*c.length) (s':=⟨app h (objsOf m'),g,d,tk',os⟩) (a:=(addrOf h.objs.size m',run')) ?_ ?_
 ·have e:∀ (l:List (Sem Value × Sem Value)) (st:Option Addr × List (Sem Value × Sem Value)) (f f':Option (Sem Value) × Sem Value→Option Addr × List (Sem Value × Sem Value)→Sem (ForInStep (Option Addr × List (Sem Value × Sem Value)))),(∀ a b st,f (some a,b) st=f' (some a,b) st) →
    forIn (l.map fun p=>(some p.1,p.2)) st f=forIn (l.map fun p=>(some p.1,p.2)) st f':=by
   intro l
   induction l with
   | nil=>intro st f f' _;rfl
   | cons x l ih =>
    intro st f f' hf
    rw [List.map_cons,List.forIn_cons,List.forIn_cons,hf]
    congr 1
    funext z
    cases z with
    | done b=>rfl
    | yield b=>exact ih b f f' hf
  refine TR.of_eq (e pairs _ _ _ fun a b st=>?_) (a7.le (by rw [List.nil_append];exact Nat.le_refl _))
  rfl
 ·refine TR.bind (TR.flush hn hs a1 a4 a5 a6) ?_
  rw [a2,a3,List.nil_append]
  obtain ⟨p,hp⟩:=disp_some (c:=c) (tk:=tk) (m:=none) (r:=[]) (.inl ne)
  rw [hp]
  exact TR.pure
noncomputable def keyI (o:Option Expr):Option Int:=match o with
 | some e=>match e with
  | .Constant c _ _=>match c with
   | .int k=>some k
   | _=>none
  | _=>none
 | none=>none
noncomputable def valS (e:Expr):Option Str:=match e with
 | .Constant c _ _=>match c with
  | .str x=>some x
  | _=>none
 | _=>none
theorem keyI_i {o:Option Expr} {k:Int} (h:keyI o=some k):∃ i p,o=some (.Constant (.int k) i p):=by
 cases o with
 | none=>exact (Option.some_ne_none _ h.symm).elim
 | some e=>cases e with
  | Constant c i p=>cases c with
   | int j=>exact ⟨i,p,by rw [Option.some.inj h]⟩
   | _=>exact (Option.some_ne_none _ h.symm).elim
  | _=>exact (Option.some_ne_none _ h.symm).elim
theorem valS_i {e:Expr} {x:Str} (h:valS e=some x):∃ i p,e=.Constant (.str x) i p:=by
 cases e with
 | Constant c i p=>cases c with
  | str j=>exact ⟨i,p,by rw [Option.some.inj h]⟩
  | _=>exact (Option.some_ne_none _ h.symm).elim
 | _=>exact (Option.some_ne_none _ h.symm).elim
noncomputable def decD:List (Option Expr)→List Expr→Option (List (Int × Str))
 | [],[]=>some []
 | o :: ks,e :: vs=>match keyI o with
  | some k=>match valS e with
   | some x=>match decD ks vs with
    | some c=>some ((k,x) :: c)
    | none=>none
   | none=>none
  | none=>none
 | _,_=>none
theorem decD_items {env:Env} {pos:Pos}:∀ {keys:List (Option Expr)} {values:List Expr} {c:List (Int × Str)},decD keys values=some c →
  ∃ pairs,ItemsOk X pairs c∧(evalEachOpt keys env).zip ((evalEach values env).map fun v=>do let x ← v;PySem.standAt pos;Pure.pure x)=pairs.map fun p=>(some p.1,p.2)
 | [],[],c,e=>by cases e;exact ⟨[],.nil,rfl⟩
 | o :: ks,e' :: vs,c,e=>by
  rw [decD] at e
  cases h1:keyI o with
  | none=>rw [h1] at e;exact (Option.some_ne_none _ e.symm).elim
  | some k =>
   cases h2:valS e' with
   | none=>rw [h1,h2] at e;exact (Option.some_ne_none _ e.symm).elim
   | some x =>
    cases h3:decD ks vs with
    | none=>rw [h1,h2,h3] at e;exact (Option.some_ne_none _ e.symm).elim
    | some c' =>
     rw [h1,h2,h3] at e
     obtain rfl:=Option.some.inj e
     obtain ⟨pairs,a1,a2⟩:=decD_items (env:=env) (pos:=pos) h3
     obtain ⟨_,_,rfl⟩:=keyI_i h1
     obtain ⟨_,_,rfl⟩:=valS_i h2
     refine ⟨(mkInt k,do let v ← mkText x;PySem.standAt pos;Pure.pure v) :: pairs,.cons ⟨fun h g d tk os=>TR.mkInt,fun h g d tk os=>TR.bind (k:=1) (TR.bind TR.fresh TR.pure) (TR.bind TR.standAt TR.pure)⟩ a1,?_⟩
     rw [List.map_cons,← a2]
     rfl
 | [],_ :: _,_,e=>(Option.some_ne_none _ e.symm).elim
 | _ :: _,[],_,e=>(Option.some_ne_none _ e.symm).elim
theorem TR.Dict {keys:List (Option Expr)} {values:List Expr} {pos:Pos} {env:Env} {c:List (Int × Str)} (hc:decD keys values=some c) (hn:X.n≤h.objs.size) (hs:sysModules<h.objs.size) (nd:(c.map fun x=>hashInt x.1).Nodup) (hz:c.length≤10000) (ne:c ≠ []) :
  TR X ⟨h,g,d,tk,os⟩ (eval (.Dict keys values pos) env) ⟨app h (objsOf (disp tk none [] c)),g,d,tk+3*c.length,os⟩ (.ref (h.objs.size+0)) (200*c.length+30):=by
 obtain ⟨pairs,a1,a2⟩:=decD_items (X:=X) (env:=env) (pos:=pos) hc
 show TR X _ (do PySem.standAt pos;dictDisplay ((evalEachOpt keys env).zip ((evalEach values env).map fun v=>do let x ← v;PySem.standAt pos;Pure.pure x))) _ _ _
 rw [a2]
 exact TR.bind TR.standAt ((TR.display hn hs a1 nd hz ne).le (by omega))
end
end Mine
end
section
set_option maxRecDepth 100000
open PySem PySem.Calls PyProof.Rows PySem.W
set_option genSizeOf false
set_option genInjectivity false
namespace Mine
section
variable {X:Tp} {h:Heap} {g:Array GenState} {d:Drawn} {os:OsState} {tk:Nat}
noncomputable def hashOf (P:Params) (x:Str):Int:=if x.cps.isEmpty then 0 else reduceHash (P.strHash x.cps)
theorem TR.nsSet {ns:Addr} {x:Str} {v:Value} {o:Obj} {es:Array DictEntry} {ep:Nat} (ho:h.get? ns=some o) (hd:o.data=.dict es ep) (ok:(Nat.ble X.n ns || ns == mainNs)=true) (hr:aRefKeyMayBeTheName x es=false) :
  TR X ⟨h,g,d,tk,os⟩ (nsSet ns x v) ⟨h.update ns (Obj.putName x (hashOf X.w.params x) (.str x tk) v),g,d,tk+1,os⟩ () 10:=by
 unfold PySem.nsSet
 refine TR.bind (k:=1) (s':=⟨h,g,d,tk,os⟩) (a:=hashOf X.w.params x) ?_ ?_
 ·unfold strHash
  exact TR.bind TR.ask TR.pure
 refine TR.bind (k:=1) (s':=⟨h,g,d,tk+1,os⟩) (a:=.str x tk) (TR.bind TR.fresh TR.pure) ?_
 refine TR.bind (TR.loadPart ho) ?_
 rw [hd]
 dsimp only
 rw [hr]
 refine TR.of_eq (if_neg Bool.false_ne_true) ?_
 exact (TR.updatePart ho ok).le (by omega)
theorem TR.storeMain {env:Env} {x:Str} {v:Value} {o:Obj} {es:Array DictEntry} {ep:Nat} (hk:env.kindOf x=some .local) (hm:env.scope.kind=.module) (hl:env.locals=mainNs) (hg:env.globals=mainNs)
  (ho:h.get? mainNs=some o) (hd:o.data=.dict es ep) (hr:aRefKeyMayBeTheName x es=false) :
  TR X ⟨h,g,d,tk,os⟩ (storeName env x v) ⟨h.update mainNs (Obj.putName x (hashOf X.w.params x) (.str x tk) v),g,d,tk+1,os⟩ () 10:=by
 unfold storeName
 rw [hk]
 have e1:(some NameKind.local == some NameKind.globalImplicit && env.blockKind != .function)=false:=rfl
 rw [e1]
 dsimp only
 have e2:(env.scope.kind == .class || (env.scope.kind == .module && env.locals != env.globals))=false:=by
  rw [hm,hl,hg]
  have:(mainNs != mainNs)=false:=bne_self_eq_false (α:=Nat) _
  rw [this]
  rfl
 rw [e2]
 refine TR.of_eq (if_neg Bool.false_ne_true) ?_
 rw [hl]
 exact TR.nsSet ho hd (by rw [beq_self_eq_true,Bool.or_true]) hr
theorem TR.assignDict {keys:List (Option Expr)} {values:List Expr} {pos q p:Pos} {env:Env} {c:List (Int × Str)} {x:Str} {o:Obj} {es:Array DictEntry} {ep:Nat} (hc:decD keys values=some c) (hn:X.n≤h.objs.size) (hs:sysModules<h.objs.size) (nd:(c.map fun x=>hashInt x.1).Nodup) (hz:c.length≤10000) (ne:c ≠ [])
  (hk:env.kindOf x=some .local) (hm:env.scope.kind=.module) (hl:env.locals=mainNs) (hg:env.globals=mainNs) (ho:h.get? mainNs=some o) (hd:o.data=.dict es ep) (hr:aRefKeyMayBeTheName x es=false) :
  TR X ⟨h,g,d,tk,os⟩ (exec (.Assign [.Name x q] (.Dict keys values pos) p) env) ⟨(app h (objsOf (disp tk none [] c))).update mainNs (Obj.putName x (hashOf X.w.params x) (.str x (tk+3*c.length)) (.ref (h.objs.size+0))),g,d,tk+3*c.length+1,os⟩ .next (200*c.length+100):=by
 rw [exec_Assign_Name env x q (.Dict keys values pos) p rfl]
 refine TR.bind TR.standAt ?_
 refine TR.bind (TR.Dict hc hn hs nd hz ne) ?_
 refine TR.bind TR.standAt ?_
 refine TR.bind (k:=20) (a:=()) ?_ TR.pure
 unfold bindName
 refine TR.bind (TR.holding TR.point) (TR.bind (TR.storeMain hk hm hl hg (app_get_old ho) hd hr) ((TR.point).le (by omega)))
theorem TR.stmt {s s':Shared} {st:Stmt} {rest:List Stmt} {env:Env} {c:Code} {pos:Pos} {B:List Frame} {k:Nat} (r:TR X s (exec st env) s' .next k):∃ q',Rn X s (restOf (st :: rest) env c pos B) s' (restOf rest env c q' B) k:=by
 obtain ⟨q',r'⟩:=r (fun f=>match f with | .next=>(execs rest env).wrap doneF (leaveH env) id id|f=>doneF f) (leaveH env) id id c pos B
 refine ⟨q',?_⟩
 unfold restOf
 rw [execs_cons_wrap]
 exact r'
end
noncomputable def insAll (t:BT) (n:Nat):List Obj→BT
 | []=>t
 | o :: r=>insAll (t.ins n o) (n+1) r
noncomputable def okIns (t:BT) (n:Nat):List Obj→Bool
 | []=>true
 | o :: r=>match (t.ins n o).get n with
  | some _=>okIns (t.ins n o) (n+1) r
  | none=>false
theorem abs_insAll {life:Life}:∀ {l:List Obj} {t:BT} {n:Nat},okIns t n l=true→absHeap (insAll t n l) (n+l.length) life=app (absHeap t n life) l
 | [],t,n,_=>(app_nil _).symm
 | o :: r,t,n,h=>by
  unfold okIns at h
  split at h
  ·rename_i x hx
   have h1:=absHeap_ins (life:=life) (t:=t) (n:=n) (o:=o) (by rw [hx];rfl)
   have h2:=abs_insAll (life:=life) h
   rw [insAll,List.length_cons,show n+(r.length+1)=n+1+r.length by omega,h2,h1]
   show Heap.mk _ _=Heap.mk _ _
   congr 1
   show (absHeap t n life).objs.push o++r.toArray=(absHeap t n life).objs++(o :: r).toArray
   apply Array.toList_inj.mp
   simp
  ·cases h
end Mine
end
section
set_option maxRecDepth 100000
set_option linter.unusedVariables false
open PySem PySem.Calls PyProof.Rows PySem.W
set_option genSizeOf false
set_option genInjectivity false
namespace Mine
noncomputable abbrev PP:Program:=PySem.Challenge.pw_us0027_02
@[irreducible] noncomputable def stAt (k:Nat):Stmt:=(PP.main.body[k]?).getD (.Pass default)
noncomputable def partsOf:Stmt→Arguments × List Stmt × Scope
 | .FunctionDef _ a b _ _ _ s _ _ _=>(a,b,s)
 | _=>(default,[],default)
noncomputable def fP (k:Nat):Arguments:=(partsOf (stAt k)).1
noncomputable def fB (k:Nat):List Stmt:=(partsOf (stAt k)).2.1
noncomputable def fS (k:Nat):Scope:=(partsOf (stAt k)).2.2
noncomputable def inAt (k j:Nat):Stmt:=match stAt k with
 | .ClassDef _ _ _ b _ _ _ _ _ _ _=>(b[j]?).getD (.Pass default)
 | _=>.Pass default
noncomputable def mP (k j:Nat):Arguments:=(partsOf (inAt k j)).1
noncomputable def mB (k j:Nat):List Stmt:=(partsOf (inAt k j)).2.1
noncomputable def mS (k j:Nat):Scope:=(partsOf (inAt k j)).2.2
noncomputable def ho_1 (P:Params):Obj :=
 {cls:=Value.type "tuple",data:=Data.seq #[] }
noncomputable def ho_3 (P:Params):Obj :=
 {cls:=Value.type "code",
  data :=
   Data.fields
    #[Value.str (Str.ofString "<module>") 182,Value.str (Str.ofString "<module>") 183,
     Value.str (Str.ofString "/claim/cut.py") 184,Value.int 1 0,Value.int 0 0,Value.int 0 0,Value.int 0 0,
     Value.int 0 0,Value.ref 11,Value.bool false,Value.int 181 0,Value.ref 12,Value.none,Value.none,
     Value.none,Value.none,Value.int 185 0,Value.int 1 0,Value.str (Str.ofString "/claim/cut.py") 186] }
noncomputable def ho_2 (P:Params):Obj :=
 {cls:=Value.none,data:=Data.fields #[] }
noncomputable def ho_4 (P:Params):Obj :=
 {cls:=Value.type "frame",
  slots :=
   #[some (Value.ref 13),some (Value.ref 3),some (Value.ref 3),none,some (Value.str (Str.ofString "__main__") 164),
    none,some (Value.ref 0)] }
@[irreducible] noncomputable def hT0 (P:Params):BT :=
 BT.node (boot_o_0 P)
  (BT.node (boot_o_1 P) (BT.node (boot_o_3 P) (BT.node (boot_o_7 P) BT.nil BT.nil) (BT.node (ho_1 P) BT.nil BT.nil))
   (BT.node (boot_o_5 P) (BT.node (boot_o_9 P) BT.nil BT.nil) (BT.node (ho_3 P) BT.nil BT.nil)))
  (BT.node (boot_o_2 P) (BT.node (boot_o_4 P) (BT.node (boot_o_8 P) BT.nil BT.nil) (BT.node (ho_2 P) BT.nil BT.nil))
   (BT.node (boot_o_6 P) (BT.node (boot_o_10 P) BT.nil BT.nil) (BT.node (ho_4 P) BT.nil BT.nil)))
noncomputable def ho_134 (P:Params):Obj :=
 {cls:=Value.type "dict",
  data :=
   Data.dict
    #[{ hash:=PyData.keyHash P (Str.ofString "__name__"),key:=Value.str (Str.ofString "__name__") 165,val:=Value.str (Str.ofString "cpy313.stringprep") 424 },
     {hash:=PyData.keyHash P (Str.ofString "__doc__"),key:=Value.str (Str.ofString "__doc__") 166,
      val:=Value.none },
     {hash:=PyData.keyHash P (Str.ofString "__package__"),key:=Value.str (Str.ofString "__package__") 167,
      val:=Value.none },
     {hash:=PyData.keyHash P (Str.ofString "__loader__"),key:=Value.str (Str.ofString "__loader__") 168,
      val:=Value.builtin "__main__.__loader__#opaque" },
     {hash:=PyData.keyHash P (Str.ofString "__spec__"),key:=Value.str (Str.ofString "__spec__") 169,
      val:=Value.none },
     {hash:=PyData.keyHash P (Str.ofString "__annotations__"),
      key:=Value.str (Str.ofString "__annotations__") 170,val:=Value.ref 6 },
     {hash:=PyData.keyHash P (Str.ofString "__builtins__"),key:=Value.str (Str.ofString "__builtins__") 171,
      val:=Value.ref 4 },
     {hash:=PyData.keyHash P (Str.ofString "__file__"),key:=Value.str (Str.ofString "__file__") 173,
      val:=Value.str (Str.ofString "/claim/cut.py") 172 },
     {hash:=PyData.keyHash P (Str.ofString "__cached__"),key:=Value.str (Str.ofString "__cached__") 174,
      val:=Value.none },
     {hash:=PyData.keyHash P (Str.ofString "_wall"),key:=Value.str (Str.ofString "_wall") 193,
      val:=Value.ref 21 },
     {hash:=PyData.keyHash P (Str.ofString "Whitespace"),key:=Value.str (Str.ofString "Whitespace") 298,
      val:=Value.ref 83 },
     {hash:=PyData.keyHash P (Str.ofString "_DIV_LIMIT"),key:=Value.str (Str.ofString "_DIV_LIMIT") 302,
      val:=Value.int 4000 301 },
     {hash:=PyData.keyHash P (Str.ofString "_div2n1n"),key:=Value.str (Str.ofString "_div2n1n") 319,
      val:=Value.ref 94 },
     {hash:=PyData.keyHash P (Str.ofString "_div3n2n"),key:=Value.str (Str.ofString "_div3n2n") 333,
      val:=Value.ref 101 },
     {hash:=PyData.keyHash P (Str.ofString "_int2digits"),key:=Value.str (Str.ofString "_int2digits") 344,
      val:=Value.ref 108 },
     {hash:=PyData.keyHash P (Str.ofString "_digits2int"),key:=Value.str (Str.ofString "_digits2int") 355,
      val:=Value.ref 115 },
     {hash:=PyData.keyHash P (Str.ofString "_divmod_pos"),key:=Value.str (Str.ofString "_divmod_pos") 370,
      val:=Value.ref 122 },
     {hash:=PyData.keyHash P (Str.ofString "int_divmod"),key:=Value.str (Str.ofString "int_divmod") 380,
      val:=Value.ref 129 },
     {hash:=PyData.keyHash P (Str.ofString "COMPILER_FLAG_NAMES"),
      key:=Value.str (Str.ofString "COMPILER_FLAG_NAMES") 413,val:=Value.ref 130 },
     {hash:=PyData.keyHash P (Str.ofString "pretty_flags"),key:=Value.str (Str.ofString "pretty_flags") 423,
      val:=Value.ref 137 }]
    20 }
noncomputable def ho_7 (P:Params):Obj :=
 {cls:=Value.type "tuple",data:=Data.seq #[] }
noncomputable def ho_26 (P:Params):Obj :=
 {cls:=Value.type "StopIteration",
  data:=Data.fields #[Value.ref 30,Value.none,Value.none,Value.none,Value.bool false,Value.none] }
noncomputable def ho_58 (P:Params):Obj :=
 {cls:=Value.type "tuple",data:=Data.seq #[] }
noncomputable def ho_127 (P:Params):Obj :=
 {cls:=Value.none,
  data :=
   Data.func
    {name:=Str.ofString "int_divmod",qualname:=Str.ofString "int_divmod",params:=fP 10,
     body:=FuncBody.stmts (fB 10),scope:=fS 10,globals:=0,closure:=[],defaults:=Value.none,
     kwdefaults:=Value.none } }
noncomputable def ho_95 (P:Params):Obj :=
 {cls:=Value.type "tuple",data:=Data.seq #[] }
noncomputable def ho_42 (P:Params):Obj :=
 {cls:=Value.none,data:=Data.fields #[] }
noncomputable def ho_74 (P:Params):Obj :=
 {cls:=Value.type "code",
  data :=
   Data.fields
    #[Value.str (Str.ofString "not_less_witness") 278,Value.str (Str.ofString "Whitespace.not_less_witness") 279,
     Value.str (Str.ofString "/claim/cut.py") 280,Value.int 64 0,Value.int 2 0,Value.int 0 0,Value.int 0 0,
     Value.int 3 0,Value.ref 74,Value.bool true,Value.int 181 0,Value.ref 75,Value.none,Value.ref 76,
     Value.ref 77,Value.ref 78,Value.int 283 0,Value.int 64 0,Value.str (Str.ofString "/claim/cut.py") 284] }
noncomputable def ho_111 (P:Params):Obj :=
 {cls:=Value.type "tuple",
  data:=Data.seq #[Value.str (Str.ofString "digits") 348,Value.str (Str.ofString "n") 349] }
noncomputable def ho_18 (P:Params):Obj :=
 {cls:=Value.type "builtin_function_or_method",
  data:=Data.fields #[Value.builtin "type.__prepare__",Value.type "type"] }
noncomputable def ho_34 (P:Params):Obj :=
 {cls:=Value.type "tuple",data:=Data.seq #[] }
noncomputable def ho_66 (P:Params):Obj :=
 {cls:=Value.none,
  data :=
   Data.func
    {name:=Str.ofString "less",qualname:=Str.ofString "Whitespace.less",params:=mP 2 6,
     body:=FuncBody.stmts (mB 2 6),scope:=mS 2 6,globals:=0,closure:=[],defaults:=Value.none,
     kwdefaults:=Value.none } }
noncomputable def ho_140 (P:Params):Obj :=
 {cls:=Value.none,
  data :=
   Data.func
    {name:=Str.ofString "pretty_flags",qualname:=Str.ofString "pretty_flags",params:=fP 13,
     body:=FuncBody.stmts (fB 13),scope:=fS 13,globals:=0,closure:=[],defaults:=Value.none,
     kwdefaults:=Value.none } }
noncomputable def ho_103 (P:Params):Obj :=
 {cls:=Value.none,data:=Data.fields #[] }
noncomputable def ho_50 (P:Params):Obj :=
 {cls:=Value.type "tuple",
  data:=Data.seq #[Value.str (Str.ofString "self") 252,Value.str (Str.ofString "other") 253] }
noncomputable def ho_82 (P:Params):Obj :=
 {cls:=Value.type "builtin_function_or_method",
  data:=Data.fields #[Value.builtin "object.__init_subclass__",Value.ref 83] }
noncomputable def ho_119 (P:Params):Obj :=
 {cls:=Value.type "tuple",data:=Data.seq #[] }
noncomputable def ho_11 (P:Params):Obj :=
 {cls:=Value.none,
  data :=
   Data.func
    {name:=Str.ofString "_wall",qualname:=Str.ofString "_wall",params:=fP 0,body:=FuncBody.stmts (fB 0),
     scope:=fS 0,globals:=0,closure:=[],defaults:=Value.none,kwdefaults:=Value.none } }
noncomputable def ho_30 (P:Params):Obj :=
 {cls:=Value.type "tuple",data:=Data.seq #[] }
noncomputable def ho_62 (P:Params):Obj :=
 {cls:=Value.type "tuple",data:=Data.seq #[] }
noncomputable def ho_136 (P:Params):Obj :=
 {cls:=Value.type "tuple",data:=Data.seq #[] }
noncomputable def ho_99 (P:Params):Obj :=
 {cls:=Value.none,
  data :=
   Data.func
    {name:=Str.ofString "_div3n2n",qualname:=Str.ofString "_div3n2n",params:=fP 6,
     body:=FuncBody.stmts (fB 6),scope:=fS 6,globals:=0,closure:=[],defaults:=Value.none,
     kwdefaults:=Value.none } }
noncomputable def ho_46 (P:Params):Obj :=
 {cls:=Value.type "code",
  data :=
   Data.fields
    #[Value.str (Str.ofString "indent_level") 237,Value.str (Str.ofString "Whitespace.indent_level") 238,
     Value.str (Str.ofString "/claim/cut.py") 239,Value.int 35 0,Value.int 2 0,Value.int 0 0,Value.int 0 0,
     Value.int 3 0,Value.ref 46,Value.bool true,Value.int 181 0,Value.ref 47,Value.none,Value.ref 48,
     Value.ref 49,Value.ref 50,Value.int 246 0,Value.int 35 0,Value.str (Str.ofString "/claim/cut.py") 247] }
noncomputable def ho_78 (P:Params):Obj :=
 {cls:=Value.type "type",
  data :=
   Data.cls
    {name:=Str.ofString "Whitespace",bases:=[Value.type "object"],mro:=[Value.ref 83,Value.type "object"],
     ns:=82,qualname:=Str.ofString "Whitespace" },
  slots :=
   #[none,none,some (Value.str (Str.ofString "Whitespace") 196),some (Value.str (Str.ofString "Whitespace") 204),
    some (Value.builtin "object.__new__"),some (Value.bool true)] }
noncomputable def ho_115 (P:Params):Obj :=
 {cls:=Value.type "function",
  data :=
   Data.func
    {name:=Str.ofString "_digits2int",qualname:=Str.ofString "_digits2int",params:=fP 8,
     body:=FuncBody.stmts (fB 8),scope:=fS 8,globals:=3,closure:=[],defaults:=Value.none,
     kwdefaults:=Value.none,pyModule:=Value.str (Str.ofString "cpy313._pylong") 299,code:=Value.ref 114 } }
noncomputable def ho_22 (P:Params):Obj :=
 {cls:=Value.type "code",
  data :=
   Data.fields
    #[Value.str (Str.ofString "Whitespace") 198,Value.str (Str.ofString "Whitespace") 199,
     Value.str (Str.ofString "/claim/cut.py") 200,Value.int 5 0,Value.int 0 0,Value.int 0 0,Value.int 0 0,
     Value.int 0 0,Value.ref 25,Value.bool false,Value.int 181 0,Value.ref 26,Value.none,Value.none,
     Value.none,Value.none,Value.int 201 0,Value.int 5 0,Value.str (Str.ofString "/claim/cut.py") 202] }
noncomputable def ho_38 (P:Params):Obj :=
 {cls:=Value.none,
  data :=
   Data.func
    {name:=Str.ofString "longest_run_of_spaces",qualname:=Str.ofString "Whitespace.longest_run_of_spaces",
     params:=mP 2 2,body:=FuncBody.stmts (mB 2 2),scope:=mS 2 2,globals:=0,closure:=[],
     defaults:=Value.none,kwdefaults:=Value.none } }
noncomputable def ho_70 (P:Params):Obj :=
 {cls:=Value.none,data:=Data.fields #[] }
noncomputable def ho_107 (P:Params):Obj :=
 {cls:=Value.type "code",
  data :=
   Data.fields
    #[Value.str (Str.ofString "_int2digits") 334,Value.str (Str.ofString "_int2digits") 335,
     Value.str (Str.ofString "/claim/cut.py") 336,Value.int 94 0,Value.int 2 0,Value.int 0 0,Value.int 0 0,
     Value.int 3 0,Value.ref 102,Value.bool true,Value.int 181 0,Value.ref 103,Value.none,Value.ref 104,
     Value.ref 105,Value.ref 106,Value.int 342 0,Value.int 94 0,Value.str (Str.ofString "/claim/cut.py") 343] }
noncomputable def ho_54 (P:Params):Obj :=
 {cls:=Value.type "function",
  data :=
   Data.func
    {name:=Str.ofString "equal",qualname:=Str.ofString "Whitespace.equal",params:=mP 2 4,
     body:=FuncBody.stmts (mB 2 4),scope:=mS 2 4,globals:=3,closure:=[],defaults:=Value.none,
     kwdefaults:=Value.none,pyModule:=Value.str (Str.ofString "cpy313.tabnanny") 194,code:=Value.ref 58 } }
noncomputable def ho_91 (P:Params):Obj :=
 {cls:=Value.type "tuple",data:=Data.seq #[] }
noncomputable def ho_123 (P:Params):Obj :=
 {cls:=Value.type "tuple",data:=Data.seq #[] }
noncomputable def ho_9 (P:Params):Obj :=
 {cls:=Value.type "tuple",data:=Data.seq #[Value.str (Str.ofString "k") 190] }
noncomputable def ho_28 (P:Params):Obj :=
 {cls:=Value.none,data:=Data.fields #[] }
noncomputable def ho_60 (P:Params):Obj :=
 {cls:=Value.type "code",
  data :=
   Data.fields
    #[Value.str (Str.ofString "not_equal_witness") 257,Value.str (Str.ofString "Whitespace.not_equal_witness") 258,
     Value.str (Str.ofString "/claim/cut.py") 259,Value.int 45 0,Value.int 2 0,Value.int 0 0,Value.int 0 0,
     Value.int 3 0,Value.ref 60,Value.bool true,Value.int 181 0,Value.ref 61,Value.none,Value.ref 62,
     Value.ref 63,Value.ref 64,Value.int 265 0,Value.int 45 0,Value.str (Str.ofString "/claim/cut.py") 266] }
noncomputable def ho_129 (P:Params):Obj :=
 {cls:=Value.type "function",
  data :=
   Data.func
    {name:=Str.ofString "int_divmod",qualname:=Str.ofString "int_divmod",params:=fP 10,
     body:=FuncBody.stmts (fB 10),scope:=fS 10,globals:=3,closure:=[],defaults:=Value.none,
     kwdefaults:=Value.none,pyModule:=Value.str (Str.ofString "cpy313._pylong") 299,code:=Value.ref 128 } }
noncomputable def ho_97 (P:Params):Obj :=
 {cls:=Value.type "tuple",
  data :=
   Data.seq
    #[Value.str (Str.ofString "a12") 323,Value.str (Str.ofString "a3") 324,Value.str (Str.ofString "b") 325,
     Value.str (Str.ofString "b1") 326,Value.str (Str.ofString "b2") 327,Value.str (Str.ofString "n") 328,
     Value.str (Str.ofString "q") 329,Value.str (Str.ofString "r") 330] }
noncomputable def ho_44 (P:Params):Obj :=
 {cls:=Value.type "tuple",data:=Data.seq #[] }
noncomputable def ho_76 (P:Params):Obj :=
 {cls:=Value.type "tuple",
  data :=
   Data.seq
    #[Value.str (Str.ofString "is_simple") 286,Value.str (Str.ofString "n") 287,Value.str (Str.ofString "norm") 288,
     Value.str (Str.ofString "nt") 289,Value.str (Str.ofString "raw") 290] }
noncomputable def ho_113 (P:Params):Obj :=
 {cls:=Value.none,
  data :=
   Data.func
    {name:=Str.ofString "_digits2int",qualname:=Str.ofString "_digits2int",params:=fP 8,
     body:=FuncBody.stmts (fB 8),scope:=fS 8,globals:=0,closure:=[],defaults:=Value.none,
     kwdefaults:=Value.none } }
noncomputable def ho_20 (P:Params):Obj :=
 {cls:=Value.type "tuple",data:=Data.seq #[] }
noncomputable def ho_36 (P:Params):Obj :=
 {cls:=Value.type "tuple",
  data :=
   Data.seq
    #[Value.str (Str.ofString "self") 231,Value.str (Str.ofString "count") 232,
     Value.str (Str.ofString "trailing") 233] }
noncomputable def ho_68 (P:Params):Obj :=
 {cls:=Value.type "function",
  data :=
   Data.func
    {name:=Str.ofString "less",qualname:=Str.ofString "Whitespace.less",params:=mP 2 6,
     body:=FuncBody.stmts (mB 2 6),scope:=mS 2 6,globals:=3,closure:=[],defaults:=Value.none,
     kwdefaults:=Value.none,pyModule:=Value.str (Str.ofString "cpy313.tabnanny") 194,code:=Value.ref 72 } }
noncomputable def ho_142 (P:Params):Obj :=
 {cls:=Value.type "function",
  data :=
   Data.func
    {name:=Str.ofString "pretty_flags",qualname:=Str.ofString "pretty_flags",params:=fP 13,
     body:=FuncBody.stmts (fB 13),scope:=fS 13,globals:=3,closure:=[],defaults:=Value.none,
     kwdefaults:=Value.none,pyModule:=Value.str (Str.ofString "cpy313.dis") 381,code:=Value.ref 136 } }
noncomputable def ho_105 (P:Params):Obj :=
 {cls:=Value.type "tuple",
  data :=
   Data.seq
    #[Value.str (Str.ofString "n") 339,Value.str (Str.ofString "a_digits") 340,
     Value.str (Str.ofString "inner") 341] }
noncomputable def ho_52 (P:Params):Obj :=
 {cls:=Value.none,
  data :=
   Data.func
    {name:=Str.ofString "equal",qualname:=Str.ofString "Whitespace.equal",params:=mP 2 4,
     body:=FuncBody.stmts (mB 2 4),scope:=mS 2 4,globals:=0,closure:=[],defaults:=Value.none,
     kwdefaults:=Value.none } }
noncomputable def ho_89 (P:Params):Obj :=
 {cls:=Value.none,data:=Data.fields #[] }
noncomputable def ho_121 (P:Params):Obj :=
 {cls:=Value.type "code",
  data :=
   Data.fields
    #[Value.str (Str.ofString "_divmod_pos") 356,Value.str (Str.ofString "_divmod_pos") 357,
     Value.str (Str.ofString "/claim/cut.py") 358,Value.int 119 0,Value.int 2 0,Value.int 0 0,Value.int 0 0,
     Value.int 3 0,Value.ref 116,Value.bool true,Value.int 181 0,Value.ref 117,Value.none,Value.ref 118,
     Value.ref 119,Value.ref 120,Value.int 368 0,Value.int 119 0,Value.str (Str.ofString "/claim/cut.py") 369] }
noncomputable def ho_13 (P:Params):Obj :=
 {cls:=Value.type "function",
  data :=
   Data.func
    {name:=Str.ofString "_wall",qualname:=Str.ofString "_wall",params:=fP 0,body:=FuncBody.stmts (fB 0),
     scope:=fS 0,globals:=3,closure:=[],defaults:=Value.none,kwdefaults:=Value.none,
     pyModule:=Value.str (Str.ofString "__main__") 164,code:=Value.ref 20 } }
noncomputable def ho_32 (P:Params):Obj :=
 {cls:=Value.type "code",
  data :=
   Data.fields
    #[Value.str (Str.ofString "__init__") 213,Value.str (Str.ofString "Whitespace.__init__") 214,
     Value.str (Str.ofString "/claim/cut.py") 215,Value.int 8 0,Value.int 2 0,Value.int 0 0,Value.int 0 0,
     Value.int 3 0,Value.ref 32,Value.bool true,Value.int 181 0,Value.ref 33,Value.none,Value.ref 34,
     Value.ref 35,Value.ref 36,Value.int 225 0,Value.int 8 0,Value.str (Str.ofString "/claim/cut.py") 226] }
noncomputable def ho_64 (P:Params):Obj :=
 {cls:=Value.type "tuple",
  data :=
   Data.seq
    #[Value.str (Str.ofString "self") 271,Value.str (Str.ofString "other") 272,Value.str (Str.ofString "n") 273,
     Value.str (Str.ofString "ts") 274] }
noncomputable def ho_138 (P:Params):Obj :=
 {cls:=Value.type "tuple",
  data :=
   Data.seq
    #[Value.str (Str.ofString "flags") 417,Value.str (Str.ofString "names") 418,Value.str (Str.ofString "i") 419,
     Value.str (Str.ofString "flag") 420] }
noncomputable def ho_101 (P:Params):Obj :=
 {cls:=Value.type "function",
  data :=
   Data.func
    {name:=Str.ofString "_div3n2n",qualname:=Str.ofString "_div3n2n",params:=fP 6,
     body:=FuncBody.stmts (fB 6),scope:=fS 6,globals:=3,closure:=[],defaults:=Value.none,
     kwdefaults:=Value.none,pyModule:=Value.str (Str.ofString "cpy313._pylong") 299,code:=Value.ref 100 } }
noncomputable def ho_48 (P:Params):Obj :=
 {cls:=Value.type "tuple",data:=Data.seq #[] }
noncomputable def ho_80 (P:Params):Obj :=
 {cls:=Value.type "getset_descriptor",
  data :=
   Data.fields
    #[Value.str (Str.ofString "__weakref__") 294,Value.ref 83,Value.builtin "ExceptionGroup.__weakref__",
     Value.none] }
noncomputable def ho_117 (P:Params):Obj :=
 {cls:=Value.none,data:=Data.fields #[] }
noncomputable def ho_24 (P:Params):Obj :=
 {cls:=Value.type "str_ascii_iterator",data:=Data.fields #[Value.none,Value.int 2 0] }
noncomputable def ho_40 (P:Params):Obj :=
 {cls:=Value.type "function",
  data :=
   Data.func
    {name:=Str.ofString "longest_run_of_spaces",qualname:=Str.ofString "Whitespace.longest_run_of_spaces",
     params:=mP 2 2,body:=FuncBody.stmts (mB 2 2),scope:=mS 2 2,globals:=3,closure:=[],
     defaults:=Value.none,kwdefaults:=Value.none,pyModule:=Value.str (Str.ofString "cpy313.tabnanny") 194,
     code:=Value.ref 44 } }
noncomputable def ho_72 (P:Params):Obj :=
 {cls:=Value.type "tuple",data:=Data.seq #[] }
noncomputable def ho_109 (P:Params):Obj :=
 {cls:=Value.type "tuple",data:=Data.seq #[] }
noncomputable def ho_56 (P:Params):Obj :=
 {cls:=Value.none,data:=Data.fields #[] }
noncomputable def ho_93 (P:Params):Obj :=
 {cls:=Value.type "code",
  data :=
   Data.fields
    #[Value.str (Str.ofString "_div2n1n") 303,Value.str (Str.ofString "_div2n1n") 304,
     Value.str (Str.ofString "/claim/cut.py") 305,Value.int 68 0,Value.int 3 0,Value.int 0 0,Value.int 0 0,
     Value.int 3 0,Value.ref 88,Value.bool true,Value.int 181 0,Value.ref 89,Value.none,Value.ref 90,
     Value.ref 91,Value.ref 92,Value.int 317 0,Value.int 68 0,Value.str (Str.ofString "/claim/cut.py") 318] }
noncomputable def ho_125 (P:Params):Obj :=
 {cls:=Value.type "tuple",
  data :=
   Data.seq
    #[Value.str (Str.ofString "a") 374,Value.str (Str.ofString "b") 375,Value.str (Str.ofString "q") 376,
     Value.str (Str.ofString "r") 377] }
noncomputable def ho_8 (P:Params):Obj :=
 {cls:=Value.none,data:=Data.fields #[] }
noncomputable def ho_27 (P:Params):Obj :=
 {cls:=Value.type "tuple",data:=Data.seq #[] }
noncomputable def ho_59 (P:Params):Obj :=
 {cls:=Value.none,
  data :=
   Data.func
    {name:=Str.ofString "not_equal_witness",qualname:=Str.ofString "Whitespace.not_equal_witness",
     params:=mP 2 5,body:=FuncBody.stmts (mB 2 5),scope:=mS 2 5,globals:=0,closure:=[],
     defaults:=Value.none,kwdefaults:=Value.none } }
noncomputable def ho_128 (P:Params):Obj :=
 {cls:=Value.type "code",
  data :=
   Data.fields
    #[Value.str (Str.ofString "int_divmod") 371,Value.str (Str.ofString "int_divmod") 372,
     Value.str (Str.ofString "/claim/cut.py") 373,Value.int 130 0,Value.int 2 0,Value.int 0 0,Value.int 0 0,
     Value.int 3 0,Value.ref 123,Value.bool true,Value.int 181 0,Value.ref 124,Value.none,Value.ref 125,
     Value.ref 126,Value.ref 127,Value.int 378 0,Value.int 130 0,Value.str (Str.ofString "/claim/cut.py") 379] }
noncomputable def ho_96 (P:Params):Obj :=
 {cls:=Value.none,data:=Data.fields #[] }
noncomputable def ho_43 (P:Params):Obj :=
 {cls:=Value.type "tuple",
  data :=
   Data.seq
    #[Value.str (Str.ofString "self") 240,Value.str (Str.ofString "tabsize") 241,
     Value.str (Str.ofString "count") 242,Value.str (Str.ofString "trailing") 243,
     Value.str (Str.ofString "il") 244,Value.str (Str.ofString "i") 245] }
noncomputable def ho_75 (P:Params):Obj :=
 {cls:=Value.type "function",
  data :=
   Data.func
    {name:=Str.ofString "not_less_witness",qualname:=Str.ofString "Whitespace.not_less_witness",
     params:=mP 2 7,body:=FuncBody.stmts (mB 2 7),scope:=mS 2 7,globals:=3,closure:=[],
     defaults:=Value.none,kwdefaults:=Value.none,pyModule:=Value.str (Str.ofString "cpy313.tabnanny") 194,
     code:=Value.ref 79 } }
noncomputable def ho_112 (P:Params):Obj :=
 {cls:=Value.type "tuple",
  data :=
   Data.seq
    #[Value.str (Str.ofString "digits") 350,Value.str (Str.ofString "n") 351,Value.str (Str.ofString "inner") 352] }
noncomputable def ho_19 (P:Params):Obj :=
 {cls:=Value.type "dict",
  data :=
   Data.dict
    #[{ hash:=PyData.keyHash P (Str.ofString "__module__"),key:=Value.str (Str.ofString "__module__") 203,val:=Value.str (Str.ofString "cpy313.tabnanny") 194 },
     {hash:=PyData.keyHash P (Str.ofString "__qualname__"),key:=Value.str (Str.ofString "__qualname__") 205,
      val:=Value.str (Str.ofString "Whitespace") 204 },
     {hash:=PyData.keyHash P (Str.ofString "__firstlineno__"),
      key:=Value.str (Str.ofString "__firstlineno__") 207,val:=Value.int 5 206 },
     {hash:=PyData.keyHash P (Str.ofString "S"),key:=Value.str (Str.ofString "S") 211,
      val:=Value.str (Str.ofString " ") 209 },
     {hash:=PyData.keyHash P (Str.ofString "T"),key:=Value.str (Str.ofString "T") 212,
      val:=Value.str (Str.ofString "\t") 210 },
     {hash:=PyData.keyHash P (Str.ofString "__init__"),key:=Value.str (Str.ofString "__init__") 227,
      val:=Value.ref 38 },
     {hash:=PyData.keyHash P (Str.ofString "longest_run_of_spaces"),
      key:=Value.str (Str.ofString "longest_run_of_spaces") 236,val:=Value.ref 45 },
     {hash:=PyData.keyHash P (Str.ofString "indent_level"),key:=Value.str (Str.ofString "indent_level") 248,
      val:=Value.ref 52 },
     {hash:=PyData.keyHash P (Str.ofString "equal"),key:=Value.str (Str.ofString "equal") 256,
      val:=Value.ref 59 },
     {hash:=PyData.keyHash P (Str.ofString "not_equal_witness"),
      key:=Value.str (Str.ofString "not_equal_witness") 267,val:=Value.ref 66 },
     {hash:=PyData.keyHash P (Str.ofString "less"),key:=Value.str (Str.ofString "less") 277,
      val:=Value.ref 73 },
     {hash:=PyData.keyHash P (Str.ofString "not_less_witness"),
      key:=Value.str (Str.ofString "not_less_witness") 285,val:=Value.ref 80 },
     {hash:=PyData.keyHash P (Str.ofString "__static_attributes__"),
      key:=Value.str (Str.ofString "__static_attributes__") 291,val:=Value.ref 81 }]
    13 }
noncomputable def ho_35 (P:Params):Obj :=
 {cls:=Value.none,data:=Data.fields #[] }
noncomputable def ho_67 (P:Params):Obj :=
 {cls:=Value.type "code",
  data :=
   Data.fields
    #[Value.str (Str.ofString "less") 268,Value.str (Str.ofString "Whitespace.less") 269,
     Value.str (Str.ofString "/claim/cut.py") 270,Value.int 53 0,Value.int 2 0,Value.int 0 0,Value.int 0 0,
     Value.int 3 0,Value.ref 67,Value.bool true,Value.int 181 0,Value.ref 68,Value.none,Value.ref 69,
     Value.ref 70,Value.ref 71,Value.int 275 0,Value.int 53 0,Value.str (Str.ofString "/claim/cut.py") 276] }
noncomputable def ho_141 (P:Params):Obj :=
 {cls:=Value.type "code",
  data :=
   Data.fields
    #[Value.str (Str.ofString "pretty_flags") 414,Value.str (Str.ofString "pretty_flags") 415,
     Value.str (Str.ofString "/claim/cut.py") 416,Value.int 143 0,Value.int 1 0,Value.int 0 0,Value.int 0 0,
     Value.int 3 0,Value.ref 131,Value.bool true,Value.int 181 0,Value.ref 132,Value.none,Value.ref 133,
     Value.ref 134,Value.ref 135,Value.int 421 0,Value.int 143 0,Value.str (Str.ofString "/claim/cut.py") 422] }
noncomputable def ho_104 (P:Params):Obj :=
 {cls:=Value.type "tuple",data:=Data.seq #[Value.str (Str.ofString "a") 337,Value.str (Str.ofString "n") 338] }
noncomputable def ho_51 (P:Params):Obj :=
 {cls:=Value.type "tuple",data:=Data.seq #[] }
noncomputable def ho_88 (P:Params):Obj :=
 {cls:=Value.type "tuple",data:=Data.seq #[] }
noncomputable def ho_120 (P:Params):Obj :=
 {cls:=Value.none,
  data :=
   Data.func
    {name:=Str.ofString "_divmod_pos",qualname:=Str.ofString "_divmod_pos",params:=fP 9,
     body:=FuncBody.stmts (fB 9),scope:=fS 9,globals:=0,closure:=[],defaults:=Value.none,
     kwdefaults:=Value.none } }
noncomputable def ho_135 (P:Params):Obj :=
 {cls:=Value.none,
  data :=
   Data.fields
    #[Value.int 1 0,Value.int 0 0,Value.ref 20,Value.int 5 0,Value.int 0 0,Value.ref 27,Value.int 68 0,
     Value.int 0 0,Value.ref 93,Value.int 84 0,Value.int 0 0,Value.ref 100,Value.int 94 0,Value.int 0 0,
     Value.ref 107,Value.int 110 0,Value.int 0 0,Value.ref 114,Value.int 119 0,Value.int 0 0,Value.ref 121,
     Value.int 130 0,Value.int 0 0,Value.ref 128,Value.int 143 0,Value.int 0 0,Value.ref 136] }
noncomputable def ho_12 (P:Params):Obj :=
 {cls:=Value.type "code",
  data :=
   Data.fields
    #[Value.str (Str.ofString "_wall") 187,Value.str (Str.ofString "_wall") 188,
     Value.str (Str.ofString "/claim/cut.py") 189,Value.int 1 0,Value.int 1 0,Value.int 0 0,Value.int 0 0,
     Value.int 3 0,Value.ref 15,Value.bool true,Value.int 181 0,Value.ref 16,Value.none,Value.ref 17,
     Value.ref 18,Value.ref 19,Value.int 191 0,Value.int 1 0,Value.str (Str.ofString "/claim/cut.py") 192] }
noncomputable def ho_31 (P:Params):Obj :=
 {cls:=Value.none,
  data :=
   Data.func
    {name:=Str.ofString "__init__",qualname:=Str.ofString "Whitespace.__init__",params:=mP 2 1,
     body:=FuncBody.stmts (mB 2 1),scope:=mS 2 1,globals:=0,closure:=[],defaults:=Value.none,
     kwdefaults:=Value.none } }
noncomputable def ho_63 (P:Params):Obj :=
 {cls:=Value.none,data:=Data.fields #[] }
noncomputable def ho_137 (P:Params):Obj :=
 {cls:=Value.none,data:=Data.fields #[] }
noncomputable def ho_100 (P:Params):Obj :=
 {cls:=Value.type "code",
  data :=
   Data.fields
    #[Value.str (Str.ofString "_div3n2n") 320,Value.str (Str.ofString "_div3n2n") 321,
     Value.str (Str.ofString "/claim/cut.py") 322,Value.int 84 0,Value.int 6 0,Value.int 0 0,Value.int 0 0,
     Value.int 3 0,Value.ref 95,Value.bool true,Value.int 181 0,Value.ref 96,Value.none,Value.ref 97,
     Value.ref 98,Value.ref 99,Value.int 331 0,Value.int 84 0,Value.str (Str.ofString "/claim/cut.py") 332] }
noncomputable def ho_47 (P:Params):Obj :=
 {cls:=Value.type "function",
  data :=
   Data.func
    {name:=Str.ofString "indent_level",qualname:=Str.ofString "Whitespace.indent_level",params:=mP 2 3,
     body:=FuncBody.stmts (mB 2 3),scope:=mS 2 3,globals:=3,closure:=[],defaults:=Value.none,
     kwdefaults:=Value.none,pyModule:=Value.str (Str.ofString "cpy313.tabnanny") 194,code:=Value.ref 51 } }
noncomputable def ho_79 (P:Params):Obj :=
 {cls:=Value.type "getset_descriptor",
  data :=
   Data.fields
    #[Value.str (Str.ofString "__dict__") 292,Value.ref 83,Value.builtin "function.__dict__",
     Value.builtin "function.__dict__#set"] }
noncomputable def ho_116 (P:Params):Obj :=
 {cls:=Value.type "tuple",data:=Data.seq #[] }
noncomputable def ho_23 (P:Params):Obj :=
 {cls:=Value.type "frame",
  slots :=
   #[some (Value.ref 27),some (Value.ref 3),some (Value.ref 24),none,
    some (Value.str (Str.ofString "cpy313.tabnanny") 194),none,some (Value.ref 0)] }
noncomputable def ho_39 (P:Params):Obj :=
 {cls:=Value.type "code",
  data :=
   Data.fields
    #[Value.str (Str.ofString "longest_run_of_spaces") 228,
     Value.str (Str.ofString "Whitespace.longest_run_of_spaces") 229,Value.str (Str.ofString "/claim/cut.py") 230,
     Value.int 31 0,Value.int 1 0,Value.int 0 0,Value.int 0 0,Value.int 3 0,Value.ref 39,Value.bool true,
     Value.int 181 0,Value.ref 40,Value.none,Value.ref 41,Value.ref 42,Value.ref 43,Value.int 234 0,
     Value.int 31 0,Value.str (Str.ofString "/claim/cut.py") 235] }
noncomputable def ho_71 (P:Params):Obj :=
 {cls:=Value.type "tuple",
  data:=Data.seq #[Value.str (Str.ofString "self") 281,Value.str (Str.ofString "other") 282] }
noncomputable def ho_108 (P:Params):Obj :=
 {cls:=Value.type "function",
  data :=
   Data.func
    {name:=Str.ofString "_int2digits",qualname:=Str.ofString "_int2digits",params:=fP 7,
     body:=FuncBody.stmts (fB 7),scope:=fS 7,globals:=3,closure:=[],defaults:=Value.none,
     kwdefaults:=Value.none,pyModule:=Value.str (Str.ofString "cpy313._pylong") 299,code:=Value.ref 107 } }
noncomputable def ho_55 (P:Params):Obj :=
 {cls:=Value.type "tuple",data:=Data.seq #[] }
noncomputable def ho_92 (P:Params):Obj :=
 {cls:=Value.none,
  data :=
   Data.func
    {name:=Str.ofString "_div2n1n",qualname:=Str.ofString "_div2n1n",params:=fP 5,
     body:=FuncBody.stmts (fB 5),scope:=fS 5,globals:=0,closure:=[],defaults:=Value.none,
     kwdefaults:=Value.none } }
noncomputable def ho_124 (P:Params):Obj :=
 {cls:=Value.none,data:=Data.fields #[] }
noncomputable def ho_10 (P:Params):Obj :=
 {cls:=Value.type "tuple",data:=Data.seq #[] }
noncomputable def ho_29 (P:Params):Obj :=
 {cls:=Value.type "tuple",
  data :=
   Data.seq
    #[Value.str (Str.ofString "self") 216,Value.str (Str.ofString "ws") 217,Value.str (Str.ofString "S") 218,
     Value.str (Str.ofString "T") 219,Value.str (Str.ofString "count") 220,Value.str (Str.ofString "b") 221,
     Value.str (Str.ofString "n") 222,Value.str (Str.ofString "nt") 223,Value.str (Str.ofString "ch") 224] }
noncomputable def ho_61 (P:Params):Obj :=
 {cls:=Value.type "function",
  data :=
   Data.func
    {name:=Str.ofString "not_equal_witness",qualname:=Str.ofString "Whitespace.not_equal_witness",
     params:=mP 2 5,body:=FuncBody.stmts (mB 2 5),scope:=mS 2 5,globals:=3,closure:=[],
     defaults:=Value.none,kwdefaults:=Value.none,pyModule:=Value.str (Str.ofString "cpy313.tabnanny") 194,
     code:=Value.ref 65 } }
noncomputable def ho_130 (P:Params):Obj :=
 {cls:=Value.type "dict",
  data :=
   Data.dict
    #[{ hash:=1,key:=Value.int 1 383,val:=Value.str (Str.ofString "OPTIMIZED") 384 },
     {hash:=2,key:=Value.int 2 385,val:=Value.str (Str.ofString "NEWLOCALS") 386 },
     {hash:=4,key:=Value.int 4 387,val:=Value.str (Str.ofString "VARARGS") 388 },
     {hash:=8,key:=Value.int 8 389,val:=Value.str (Str.ofString "VARKEYWORDS") 390 },
     {hash:=16,key:=Value.int 16 391,val:=Value.str (Str.ofString "NESTED") 392 },
     {hash:=32,key:=Value.int 32 393,val:=Value.str (Str.ofString "GENERATOR") 394 },
     {hash:=64,key:=Value.int 64 395,val:=Value.str (Str.ofString "NOFREE") 396 },
     {hash:=128,key:=Value.int 128 397,val:=Value.str (Str.ofString "COROUTINE") 398 },
     {hash:=256,key:=Value.int 256 399,val:=Value.str (Str.ofString "ITERABLE_COROUTINE") 400 },
     {hash:=512,key:=Value.int 512 401,val:=Value.str (Str.ofString "ASYNC_GENERATOR") 402 }]
    10 }
noncomputable def ho_98 (P:Params):Obj :=
 {cls:=Value.type "tuple",data:=Data.seq #[] }
noncomputable def ho_45 (P:Params):Obj :=
 {cls:=Value.none,
  data :=
   Data.func
    {name:=Str.ofString "indent_level",qualname:=Str.ofString "Whitespace.indent_level",params:=mP 2 3,
     body:=FuncBody.stmts (mB 2 3),scope:=mS 2 3,globals:=0,closure:=[],defaults:=Value.none,
     kwdefaults:=Value.none } }
noncomputable def ho_77 (P:Params):Obj :=
 {cls:=Value.type "dict",
  data :=
   Data.dict
    #[{ hash:=PyData.keyHash P (Str.ofString "__module__"),key:=Value.str (Str.ofString "__module__") 203,val:=Value.str (Str.ofString "cpy313.tabnanny") 194 },
     {hash:=PyData.keyHash P (Str.ofString "__firstlineno__"),
      key:=Value.str (Str.ofString "__firstlineno__") 207,val:=Value.int 5 206 },
     {hash:=PyData.keyHash P (Str.ofString "S"),key:=Value.str (Str.ofString "S") 211,
      val:=Value.str (Str.ofString " ") 209 },
     {hash:=PyData.keyHash P (Str.ofString "T"),key:=Value.str (Str.ofString "T") 212,
      val:=Value.str (Str.ofString "\t") 210 },
     {hash:=PyData.keyHash P (Str.ofString "__init__"),key:=Value.str (Str.ofString "__init__") 227,
      val:=Value.ref 38 },
     {hash:=PyData.keyHash P (Str.ofString "longest_run_of_spaces"),
      key:=Value.str (Str.ofString "longest_run_of_spaces") 236,val:=Value.ref 45 },
     {hash:=PyData.keyHash P (Str.ofString "indent_level"),key:=Value.str (Str.ofString "indent_level") 248,
      val:=Value.ref 52 },
     {hash:=PyData.keyHash P (Str.ofString "equal"),key:=Value.str (Str.ofString "equal") 256,
      val:=Value.ref 59 },
     {hash:=PyData.keyHash P (Str.ofString "not_equal_witness"),
      key:=Value.str (Str.ofString "not_equal_witness") 267,val:=Value.ref 66 },
     {hash:=PyData.keyHash P (Str.ofString "less"),key:=Value.str (Str.ofString "less") 277,
      val:=Value.ref 73 },
     {hash:=PyData.keyHash P (Str.ofString "not_less_witness"),
      key:=Value.str (Str.ofString "not_less_witness") 285,val:=Value.ref 80 },
     {hash:=PyData.keyHash P (Str.ofString "__static_attributes__"),
      key:=Value.str (Str.ofString "__static_attributes__") 291,val:=Value.ref 81 },
     {hash:=PyData.keyHash P (Str.ofString "__dict__"),key:=Value.str (Str.ofString "__dict__") 293,
      val:=Value.ref 84 },
     {hash:=PyData.keyHash P (Str.ofString "__weakref__"),key:=Value.str (Str.ofString "__weakref__") 295,
      val:=Value.ref 85 },
     {hash:=PyData.keyHash P (Str.ofString "__doc__"),key:=Value.str (Str.ofString "__doc__") 296,
      val:=Value.none }]
    4 }
noncomputable def ho_114 (P:Params):Obj :=
 {cls:=Value.type "code",
  data :=
   Data.fields
    #[Value.str (Str.ofString "_digits2int") 345,Value.str (Str.ofString "_digits2int") 346,
     Value.str (Str.ofString "/claim/cut.py") 347,Value.int 110 0,Value.int 2 0,Value.int 0 0,Value.int 0 0,
     Value.int 3 0,Value.ref 109,Value.bool true,Value.int 181 0,Value.ref 110,Value.none,Value.ref 111,
     Value.ref 112,Value.ref 113,Value.int 353 0,Value.int 110 0,Value.str (Str.ofString "/claim/cut.py") 354] }
noncomputable def ho_21 (P:Params):Obj :=
 {cls:=Value.none,
  data :=
   Data.fields
    #[Value.int 8 0,Value.int 4 0,Value.ref 37,Value.int 31 0,Value.int 4 0,Value.ref 44,Value.int 35 0,
     Value.int 4 0,Value.ref 51,Value.int 42 0,Value.int 4 0,Value.ref 58,Value.int 45 0,Value.int 4 0,
     Value.ref 65,Value.int 53 0,Value.int 4 0,Value.ref 72,Value.int 64 0,Value.int 4 0,Value.ref 79] }
noncomputable def ho_37 (P:Params):Obj :=
 {cls:=Value.type "tuple",data:=Data.seq #[] }
noncomputable def ho_69 (P:Params):Obj :=
 {cls:=Value.type "tuple",data:=Data.seq #[] }
noncomputable def ho_106 (P:Params):Obj :=
 {cls:=Value.none,
  data :=
   Data.func
    {name:=Str.ofString "_int2digits",qualname:=Str.ofString "_int2digits",params:=fP 7,
     body:=FuncBody.stmts (fB 7),scope:=fS 7,globals:=0,closure:=[],defaults:=Value.none,
     kwdefaults:=Value.none } }
noncomputable def ho_53 (P:Params):Obj :=
 {cls:=Value.type "code",
  data :=
   Data.fields
    #[Value.str (Str.ofString "equal") 249,Value.str (Str.ofString "Whitespace.equal") 250,
     Value.str (Str.ofString "/claim/cut.py") 251,Value.int 42 0,Value.int 2 0,Value.int 0 0,Value.int 0 0,
     Value.int 3 0,Value.ref 53,Value.bool true,Value.int 181 0,Value.ref 54,Value.none,Value.ref 55,
     Value.ref 56,Value.ref 57,Value.int 254 0,Value.int 42 0,Value.str (Str.ofString "/claim/cut.py") 255] }
noncomputable def ho_90 (P:Params):Obj :=
 {cls:=Value.type "tuple",
  data :=
   Data.seq
    #[Value.str (Str.ofString "a") 306,Value.str (Str.ofString "b") 307,Value.str (Str.ofString "n") 308,
     Value.str (Str.ofString "pad") 309,Value.str (Str.ofString "half_n") 310,Value.str (Str.ofString "mask") 311,
     Value.str (Str.ofString "b1") 312,Value.str (Str.ofString "b2") 313,Value.str (Str.ofString "q1") 314,
     Value.str (Str.ofString "r") 315,Value.str (Str.ofString "q2") 316] }
noncomputable def ho_122 (P:Params):Obj :=
 {cls:=Value.type "function",
  data :=
   Data.func
    {name:=Str.ofString "_divmod_pos",qualname:=Str.ofString "_divmod_pos",params:=fP 9,
     body:=FuncBody.stmts (fB 9),scope:=fS 9,globals:=3,closure:=[],defaults:=Value.none,
     kwdefaults:=Value.none,pyModule:=Value.str (Str.ofString "cpy313._pylong") 299,code:=Value.ref 121 } }
noncomputable def ho_17 (P:Params):Obj :=
 {cls:=Value.type "tuple",data:=Data.seq #[] }
noncomputable def ho_33 (P:Params):Obj :=
 {cls:=Value.type "function",
  data :=
   Data.func
    {name:=Str.ofString "__init__",qualname:=Str.ofString "Whitespace.__init__",params:=mP 2 1,
     body:=FuncBody.stmts (mB 2 1),scope:=mS 2 1,globals:=3,closure:=[],defaults:=Value.none,
     kwdefaults:=Value.none,pyModule:=Value.str (Str.ofString "cpy313.tabnanny") 194,code:=Value.ref 37 } }
noncomputable def ho_65 (P:Params):Obj :=
 {cls:=Value.type "tuple",data:=Data.seq #[] }
noncomputable def ho_139 (P:Params):Obj :=
 {cls:=Value.type "tuple",data:=Data.seq #[] }
noncomputable def ho_102 (P:Params):Obj :=
 {cls:=Value.type "tuple",data:=Data.seq #[] }
noncomputable def ho_49 (P:Params):Obj :=
 {cls:=Value.none,data:=Data.fields #[] }
noncomputable def ho_81 (P:Params):Obj :=
 {cls:=Value.type "super",data:=Data.fields #[Value.ref 83,Value.ref 83,Value.ref 83] }
noncomputable def ho_118 (P:Params):Obj :=
 {cls:=Value.type "tuple",
  data :=
   Data.seq
    #[Value.str (Str.ofString "a") 359,Value.str (Str.ofString "b") 360,Value.str (Str.ofString "n") 361,
     Value.str (Str.ofString "a_digits") 362,Value.str (Str.ofString "r") 363,
     Value.str (Str.ofString "q_digits") 364,Value.str (Str.ofString "a_digit") 365,
     Value.str (Str.ofString "q_digit") 366,Value.str (Str.ofString "q") 367] }
noncomputable def ho_25 (P:Params):Obj :=
 {cls:=Value.type "tuple",data:=Data.seq #[] }
noncomputable def ho_41 (P:Params):Obj :=
 {cls:=Value.type "tuple",data:=Data.seq #[] }
noncomputable def ho_73 (P:Params):Obj :=
 {cls:=Value.none,
  data :=
   Data.func
    {name:=Str.ofString "not_less_witness",qualname:=Str.ofString "Whitespace.not_less_witness",
     params:=mP 2 7,body:=FuncBody.stmts (mB 2 7),scope:=mS 2 7,globals:=0,closure:=[],
     defaults:=Value.none,kwdefaults:=Value.none } }
noncomputable def ho_110 (P:Params):Obj :=
 {cls:=Value.none,data:=Data.fields #[] }
noncomputable def ho_57 (P:Params):Obj :=
 {cls:=Value.type "tuple",
  data :=
   Data.seq
    #[Value.str (Str.ofString "self") 260,Value.str (Str.ofString "other") 261,Value.str (Str.ofString "n") 262,
     Value.str (Str.ofString "a") 263,Value.str (Str.ofString "ts") 264] }
noncomputable def ho_94 (P:Params):Obj :=
 {cls:=Value.type "function",
  data :=
   Data.func
    {name:=Str.ofString "_div2n1n",qualname:=Str.ofString "_div2n1n",params:=fP 5,
     body:=FuncBody.stmts (fB 5),scope:=fS 5,globals:=3,closure:=[],defaults:=Value.none,
     kwdefaults:=Value.none,pyModule:=Value.str (Str.ofString "cpy313._pylong") 299,code:=Value.ref 93 } }
noncomputable def ho_126 (P:Params):Obj :=
 {cls:=Value.type "tuple",data:=Data.seq #[] }
@[irreducible] noncomputable def hTP (P:Params):BT :=
 BT.node (boot_o_0 P)
  (BT.node (boot_o_1 P)
   (BT.node (ho_134 P)
    (BT.node (boot_o_7 P)
     (BT.node (ho_7 P)
      (BT.node (ho_26 P) (BT.node (ho_58 P) (BT.node (ho_127 P) BT.nil BT.nil) BT.nil)
       (BT.node (ho_95 P) BT.nil BT.nil))
      (BT.node (ho_42 P) (BT.node (ho_74 P) BT.nil BT.nil) (BT.node (ho_111 P) BT.nil BT.nil)))
     (BT.node (ho_18 P)
      (BT.node (ho_34 P) (BT.node (ho_66 P) (BT.node (ho_140 P) BT.nil BT.nil) BT.nil)
       (BT.node (ho_103 P) BT.nil BT.nil))
      (BT.node (ho_50 P) (BT.node (ho_82 P) BT.nil BT.nil) (BT.node (ho_119 P) BT.nil BT.nil))))
    (BT.node (ho_1 P)
     (BT.node (ho_11 P)
      (BT.node (ho_30 P) (BT.node (ho_62 P) (BT.node (ho_136 P) BT.nil BT.nil) BT.nil)
       (BT.node (ho_99 P) BT.nil BT.nil))
      (BT.node (ho_46 P) (BT.node (ho_78 P) BT.nil BT.nil) (BT.node (ho_115 P) BT.nil BT.nil)))
     (BT.node (ho_22 P) (BT.node (ho_38 P) (BT.node (ho_70 P) BT.nil BT.nil) (BT.node (ho_107 P) BT.nil BT.nil))
      (BT.node (ho_54 P) (BT.node (ho_91 P) BT.nil BT.nil) (BT.node (ho_123 P) BT.nil BT.nil)))))
   (BT.node (boot_o_5 P)
    (BT.node (boot_o_9 P)
     (BT.node (ho_9 P)
      (BT.node (ho_28 P) (BT.node (ho_60 P) (BT.node (ho_129 P) BT.nil BT.nil) BT.nil)
       (BT.node (ho_97 P) BT.nil BT.nil))
      (BT.node (ho_44 P) (BT.node (ho_76 P) BT.nil BT.nil) (BT.node (ho_113 P) BT.nil BT.nil)))
     (BT.node (ho_20 P)
      (BT.node (ho_36 P) (BT.node (ho_68 P) (BT.node (ho_142 P) BT.nil BT.nil) BT.nil)
       (BT.node (ho_105 P) BT.nil BT.nil))
      (BT.node (ho_52 P) (BT.node (ho_89 P) BT.nil BT.nil) (BT.node (ho_121 P) BT.nil BT.nil))))
    (BT.node (ho_3 P)
     (BT.node (ho_13 P)
      (BT.node (ho_32 P) (BT.node (ho_64 P) (BT.node (ho_138 P) BT.nil BT.nil) BT.nil)
       (BT.node (ho_101 P) BT.nil BT.nil))
      (BT.node (ho_48 P) (BT.node (ho_80 P) BT.nil BT.nil) (BT.node (ho_117 P) BT.nil BT.nil)))
     (BT.node (ho_24 P) (BT.node (ho_40 P) (BT.node (ho_72 P) BT.nil BT.nil) (BT.node (ho_109 P) BT.nil BT.nil))
      (BT.node (ho_56 P) (BT.node (ho_93 P) BT.nil BT.nil) (BT.node (ho_125 P) BT.nil BT.nil))))))
  (BT.node (boot_o_2 P)
   (BT.node (boot_o_4 P)
    (BT.node (boot_o_8 P)
     (BT.node (ho_8 P)
      (BT.node (ho_27 P) (BT.node (ho_59 P) (BT.node (ho_128 P) BT.nil BT.nil) BT.nil)
       (BT.node (ho_96 P) BT.nil BT.nil))
      (BT.node (ho_43 P) (BT.node (ho_75 P) BT.nil BT.nil) (BT.node (ho_112 P) BT.nil BT.nil)))
     (BT.node (ho_19 P)
      (BT.node (ho_35 P) (BT.node (ho_67 P) (BT.node (ho_141 P) BT.nil BT.nil) BT.nil)
       (BT.node (ho_104 P) BT.nil BT.nil))
      (BT.node (ho_51 P) (BT.node (ho_88 P) BT.nil BT.nil) (BT.node (ho_120 P) BT.nil BT.nil))))
    (BT.node (ho_135 P)
     (BT.node (ho_12 P)
      (BT.node (ho_31 P) (BT.node (ho_63 P) (BT.node (ho_137 P) BT.nil BT.nil) BT.nil)
       (BT.node (ho_100 P) BT.nil BT.nil))
      (BT.node (ho_47 P) (BT.node (ho_79 P) BT.nil BT.nil) (BT.node (ho_116 P) BT.nil BT.nil)))
     (BT.node (ho_23 P) (BT.node (ho_39 P) (BT.node (ho_71 P) BT.nil BT.nil) (BT.node (ho_108 P) BT.nil BT.nil))
      (BT.node (ho_55 P) (BT.node (ho_92 P) BT.nil BT.nil) (BT.node (ho_124 P) BT.nil BT.nil)))))
   (BT.node (boot_o_6 P)
    (BT.node (boot_o_10 P)
     (BT.node (ho_10 P)
      (BT.node (ho_29 P) (BT.node (ho_61 P) (BT.node (ho_130 P) BT.nil BT.nil) BT.nil)
       (BT.node (ho_98 P) BT.nil BT.nil))
      (BT.node (ho_45 P) (BT.node (ho_77 P) BT.nil BT.nil) (BT.node (ho_114 P) BT.nil BT.nil)))
     (BT.node (ho_21 P) (BT.node (ho_37 P) (BT.node (ho_69 P) BT.nil BT.nil) (BT.node (ho_106 P) BT.nil BT.nil))
      (BT.node (ho_53 P) (BT.node (ho_90 P) BT.nil BT.nil) (BT.node (ho_122 P) BT.nil BT.nil))))
    (BT.node (ho_4 P)
     (BT.node (ho_17 P)
      (BT.node (ho_33 P) (BT.node (ho_65 P) (BT.node (ho_139 P) BT.nil BT.nil) BT.nil)
       (BT.node (ho_102 P) BT.nil BT.nil))
      (BT.node (ho_49 P) (BT.node (ho_81 P) BT.nil BT.nil) (BT.node (ho_118 P) BT.nil BT.nil)))
     (BT.node (ho_25 P) (BT.node (ho_41 P) (BT.node (ho_73 P) BT.nil BT.nil) (BT.node (ho_110 P) BT.nil BT.nil))
      (BT.node (ho_57 P) (BT.node (ho_94 P) BT.nil BT.nil) (BT.node (ho_126 P) BT.nil BT.nil))))))
noncomputable abbrev hEnv:Env:={ scope:=PP.main.scope,locals:=mainNs,globals:=mainNs,cells:=[],code:=.ref 13,frame:=some 14 }
noncomputable def o02_138 (P:Params):Obj :=
 {cls:=Value.type "list",
  data :=
   Data.seq
    #[Value.int 173 426,Value.int 847 427,Value.int 6150 428,Value.int 6155 429,Value.int 6156 430,
     Value.int 6157 431,Value.int 8203 432,Value.int 8204 433,Value.int 8205 434,Value.int 8288 435,
     Value.int 65279 436] }
noncomputable def o02_139 (P:Params):Obj :=
 {cls:=Value.type "range",data:=Data.fields #[Value.int 65024 437,Value.int 65040 438,Value.int 1 439] }
noncomputable def o02_140 (P:Params):Obj :=
 {cls:=Value.type "list",
  data :=
   Data.seq
    #[Value.int 65024 442,Value.int 65025 443,Value.int 65026 444,Value.int 65027 445,Value.int 65028 446,
     Value.int 65029 447,Value.int 65030 448,Value.int 65031 449,Value.int 65032 450,Value.int 65033 451,
     Value.int 65034 452,Value.int 65035 453,Value.int 65036 454,Value.int 65037 455,Value.int 65038 456,
     Value.int 65039 457]
    18 }
noncomputable def o02_141 (P:Params):Obj :=
 {cls:=Value.type "range_iterator",data:=Data.fields #[Value.int 65040 0,Value.int 0 0,Value.int 1 0] }
noncomputable def o02_142 (P:Params):Obj :=
 {cls:=Value.type "tuple",data:=Data.seq #[] }
noncomputable def o02_143 (P:Params):Obj :=
 {cls:=Value.type "StopIteration",
  data:=Data.fields #[Value.ref 142,Value.none,Value.none,Value.none,Value.bool false,Value.none] }
noncomputable def o02_144 (P:Params):Obj :=
 {cls:=Value.type "list",
  data :=
   Data.seq
    #[Value.int 173 426,Value.int 847 427,Value.int 6150 428,Value.int 6155 429,Value.int 6156 430,
     Value.int 6157 431,Value.int 8203 432,Value.int 8204 433,Value.int 8205 434,Value.int 8288 435,
     Value.int 65279 436,Value.int 65024 442,Value.int 65025 443,Value.int 65026 444,Value.int 65027 445,
     Value.int 65028 446,Value.int 65029 447,Value.int 65030 448,Value.int 65031 449,Value.int 65032 450,
     Value.int 65033 451,Value.int 65034 452,Value.int 65035 453,Value.int 65036 454,Value.int 65037 455,
     Value.int 65038 456,Value.int 65039 457] }
noncomputable def o02_145 (P:Params):Obj :=
 {cls:=Value.type "set",
  data :=
   Data.set
    #[(65024,Value.int 65024 442),(65025,Value.int 65025 443),(65026,Value.int 65026 444),
     (65027,Value.int 65027 445),(65028,Value.int 65028 446),(65029,Value.int 65029 447),
     (6150,Value.int 6150 428),(65030,Value.int 65030 448),(65031,Value.int 65031 449),
     (65032,Value.int 65032 450),(65033,Value.int 65033 451),(6155,Value.int 6155 429),
     (6156,Value.int 6156 430),(6157,Value.int 6157 431),(8203,Value.int 8203 432),(8204,Value.int 8204 433),
     (8205,Value.int 8205 434),(65034,Value.int 65034 452),(65035,Value.int 65035 453),
     (65036,Value.int 65036 454),(65037,Value.int 65037 455),(65038,Value.int 65038 456),
     (65039,Value.int 65039 457),(173,Value.int 173 426),(847,Value.int 847 427),(8288,Value.int 8288 435),
     (65279,Value.int 65279 436)]
    29
    {mask:=127,
     place:=#[0,1,2,3,4,5,6,7,8,9,10,11,12,13,14,15,16,17,18,19,20,21,22,45,79,96,127],
     dummies:=#[],finger:=0,led:=!P.followText "set-order",moves:=2,plain:=true } }
noncomputable def o02_146 (P:Params):Obj :=
 {cls:=Value.type "list_iterator",data:=Data.fields #[Value.none,Value.int 27 0] }
noncomputable def o02_147 (P:Params):Obj :=
 {cls:=Value.type "tuple",data:=Data.seq #[] }
noncomputable def o02_148 (P:Params):Obj :=
 {cls:=Value.type "StopIteration",
  data:=Data.fields #[Value.ref 147,Value.none,Value.none,Value.none,Value.bool false,Value.none] }
noncomputable def o02_149 (P:Params):Obj :=
 {cls:=Value.type "tuple",data:=Data.seq #[] }
noncomputable def o02_150 (P:Params):Obj :=
 {cls:=Value.none,data:=Data.fields #[] }
noncomputable def o02_151 (P:Params):Obj :=
 {cls:=Value.type "tuple",data:=Data.seq #[Value.str (Str.ofString "code") 489] }
noncomputable def o02_152 (P:Params):Obj :=
 {cls:=Value.type "tuple",data:=Data.seq #[] }
noncomputable def o02_153 (P:Params):Obj :=
 {cls:=Value.none,
  data :=
   Data.func
    {name:=Str.ofString "in_table_b1",qualname:=Str.ofString "in_table_b1",params:=fP 16,
     body:=FuncBody.stmts (fB 16),scope:=fS 16,globals:=0,closure:=[],defaults:=Value.none,
     kwdefaults:=Value.none } }
noncomputable def o02_154 (P:Params):Obj :=
 {cls:=Value.type "code",
  data :=
   Data.fields
    #[Value.str (Str.ofString "in_table_b1") 486,Value.str (Str.ofString "in_table_b1") 487,
     Value.str (Str.ofString "/claim/cut.py") 488,Value.int 157 0,Value.int 1 0,Value.int 0 0,Value.int 0 0,
     Value.int 3 0,Value.ref 149,Value.bool true,Value.int 181 0,Value.ref 150,Value.none,Value.ref 151,
     Value.ref 152,Value.ref 153,Value.int 490 0,Value.int 157 0,Value.str (Str.ofString "/claim/cut.py") 491] }
noncomputable def o02_155 (P:Params):Obj :=
 {cls:=Value.type "function",
  data :=
   Data.func
    {name:=Str.ofString "in_table_b1",qualname:=Str.ofString "in_table_b1",params:=fP 16,
     body:=FuncBody.stmts (fB 16),scope:=fS 16,globals:=3,closure:=[],defaults:=Value.none,
     kwdefaults:=Value.none,pyModule:=Value.str (Str.ofString "cpy313.stringprep") 424,
     code:=Value.ref 154 } }
noncomputable def l02A (P:Params):List Obj:=[o02_138 P,o02_139 P,o02_140 P,o02_141 P,o02_142 P,o02_143 P,o02_144 P,o02_145 P,o02_146 P,o02_147 P,o02_148 P,o02_149 P,o02_150 P,o02_151 P,o02_152 P,o02_153 P,o02_154 P,o02_155 P]
noncomputable def t02A_3 (P:Params):Obj :=
 {cls:=Value.type "dict",
  data :=
   Data.dict
    #[{ hash:=PyData.keyHash P (Str.ofString "__name__"),key:=Value.str (Str.ofString "__name__") 165,val:=Value.str (Str.ofString "cpy313.stringprep") 424 },
     {hash:=PyData.keyHash P (Str.ofString "__doc__"),key:=Value.str (Str.ofString "__doc__") 166,
      val:=Value.none },
     {hash:=PyData.keyHash P (Str.ofString "__package__"),key:=Value.str (Str.ofString "__package__") 167,
      val:=Value.none },
     {hash:=PyData.keyHash P (Str.ofString "__loader__"),key:=Value.str (Str.ofString "__loader__") 168,
      val:=Value.builtin "__main__.__loader__#opaque" },
     {hash:=PyData.keyHash P (Str.ofString "__spec__"),key:=Value.str (Str.ofString "__spec__") 169,
      val:=Value.none },
     {hash:=PyData.keyHash P (Str.ofString "__annotations__"),
      key:=Value.str (Str.ofString "__annotations__") 170,val:=Value.ref 6 },
     {hash:=PyData.keyHash P (Str.ofString "__builtins__"),key:=Value.str (Str.ofString "__builtins__") 171,
      val:=Value.ref 4 },
     {hash:=PyData.keyHash P (Str.ofString "__file__"),key:=Value.str (Str.ofString "__file__") 173,
      val:=Value.str (Str.ofString "/claim/cut.py") 172 },
     {hash:=PyData.keyHash P (Str.ofString "__cached__"),key:=Value.str (Str.ofString "__cached__") 174,
      val:=Value.none },
     {hash:=PyData.keyHash P (Str.ofString "_wall"),key:=Value.str (Str.ofString "_wall") 193,
      val:=Value.ref 21 },
     {hash:=PyData.keyHash P (Str.ofString "Whitespace"),key:=Value.str (Str.ofString "Whitespace") 298,
      val:=Value.ref 83 },
     {hash:=PyData.keyHash P (Str.ofString "_DIV_LIMIT"),key:=Value.str (Str.ofString "_DIV_LIMIT") 302,
      val:=Value.int 4000 301 },
     {hash:=PyData.keyHash P (Str.ofString "_div2n1n"),key:=Value.str (Str.ofString "_div2n1n") 319,
      val:=Value.ref 94 },
     {hash:=PyData.keyHash P (Str.ofString "_div3n2n"),key:=Value.str (Str.ofString "_div3n2n") 333,
      val:=Value.ref 101 },
     {hash:=PyData.keyHash P (Str.ofString "_int2digits"),key:=Value.str (Str.ofString "_int2digits") 344,
      val:=Value.ref 108 },
     {hash:=PyData.keyHash P (Str.ofString "_digits2int"),key:=Value.str (Str.ofString "_digits2int") 355,
      val:=Value.ref 115 },
     {hash:=PyData.keyHash P (Str.ofString "_divmod_pos"),key:=Value.str (Str.ofString "_divmod_pos") 370,
      val:=Value.ref 122 },
     {hash:=PyData.keyHash P (Str.ofString "int_divmod"),key:=Value.str (Str.ofString "int_divmod") 380,
      val:=Value.ref 129 },
     {hash:=PyData.keyHash P (Str.ofString "COMPILER_FLAG_NAMES"),
      key:=Value.str (Str.ofString "COMPILER_FLAG_NAMES") 413,val:=Value.ref 130 },
     {hash:=PyData.keyHash P (Str.ofString "pretty_flags"),key:=Value.str (Str.ofString "pretty_flags") 423,
      val:=Value.ref 137 },
     {hash:=PyData.keyHash P (Str.ofString "b1_set"),key:=Value.str (Str.ofString "b1_set") 485,
      val:=Value.ref 145 },
     {hash:=PyData.keyHash P (Str.ofString "in_table_b1"),key:=Value.str (Str.ofString "in_table_b1") 492,
      val:=Value.ref 155 }]
    22 }
noncomputable def t02A_12 (P:Params):Obj :=
 {cls:=Value.none,
  data :=
   Data.fields
    #[Value.int 1 0,Value.int 0 0,Value.ref 20,Value.int 5 0,Value.int 0 0,Value.ref 27,Value.int 68 0,
     Value.int 0 0,Value.ref 93,Value.int 84 0,Value.int 0 0,Value.ref 100,Value.int 94 0,Value.int 0 0,
     Value.ref 107,Value.int 110 0,Value.int 0 0,Value.ref 114,Value.int 119 0,Value.int 0 0,Value.ref 121,
     Value.int 130 0,Value.int 0 0,Value.ref 128,Value.int 143 0,Value.int 0 0,Value.ref 136,Value.int 157 0,
     Value.int 0 0,Value.ref 154] }
noncomputable def o02_195 (P:Params):Obj :=
 {cls:=Value.type "tuple",data:=Data.seq #[] }
noncomputable def o02_196 (P:Params):Obj :=
 {cls:=Value.none,data:=Data.fields #[] }
noncomputable def o02_197 (P:Params):Obj :=
 {cls:=Value.type "tuple",
  data:=Data.seq #[Value.str (Str.ofString "code") 2447,Value.str (Str.ofString "r") 2448] }
noncomputable def o02_198 (P:Params):Obj :=
 {cls:=Value.type "tuple",data:=Data.seq #[] }
noncomputable def o02_199 (P:Params):Obj :=
 {cls:=Value.none,
  data :=
   Data.func
    {name:=Str.ofString "map_table_b3",qualname:=Str.ofString "map_table_b3",params:=fP 18,
     body:=FuncBody.stmts (fB 18),scope:=fS 18,globals:=0,closure:=[],defaults:=Value.none,
     kwdefaults:=Value.none } }
noncomputable def o02_200 (P:Params):Obj :=
 {cls:=Value.type "code",
  data :=
   Data.fields
    #[Value.str (Str.ofString "map_table_b3") 2444,Value.str (Str.ofString "map_table_b3") 2445,
     Value.str (Str.ofString "/claim/cut.py") 2446,Value.int 160 0,Value.int 1 0,Value.int 0 0,Value.int 0 0,
     Value.int 3 0,Value.ref 195,Value.bool true,Value.int 181 0,Value.ref 196,Value.none,Value.ref 197,
     Value.ref 198,Value.ref 199,Value.int 2449 0,Value.int 160 0,
     Value.str (Str.ofString "/claim/cut.py") 2450] }
noncomputable def o02_201 (P:Params):Obj :=
 {cls:=Value.type "function",
  data :=
   Data.func
    {name:=Str.ofString "map_table_b3",qualname:=Str.ofString "map_table_b3",params:=fP 18,
     body:=FuncBody.stmts (fB 18),scope:=fS 18,globals:=3,closure:=[],defaults:=Value.none,
     kwdefaults:=Value.none,pyModule:=Value.str (Str.ofString "cpy313.stringprep") 424,
     code:=Value.ref 200 } }
noncomputable def o02_202 (P:Params):Obj :=
 {cls:=Value.type "tuple",data:=Data.seq #[] }
noncomputable def o02_203 (P:Params):Obj :=
 {cls:=Value.none,data:=Data.fields #[] }
noncomputable def o02_204 (P:Params):Obj :=
 {cls:=Value.type "tuple",
  data :=
   Data.seq
    #[Value.str (Str.ofString "letter") 2457,Value.str (Str.ofString "hand") 2458,
     Value.str (Str.ofString "starts") 2459] }
noncomputable def o02_205 (P:Params):Obj :=
 {cls:=Value.type "tuple",data:=Data.seq #[] }
noncomputable def o02_206 (P:Params):Obj :=
 {cls:=Value.none,
  data :=
   Data.func
    {name:=Str.ofString "_law_spelled",qualname:=Str.ofString "_law_spelled",params:=fP 20,
     body:=FuncBody.stmts (fB 20),scope:=fS 20,globals:=0,closure:=[],defaults:=Value.none,
     kwdefaults:=Value.none } }
noncomputable def o02_207 (P:Params):Obj :=
 {cls:=Value.type "code",
  data :=
   Data.fields
    #[Value.str (Str.ofString "_law_spelled") 2454,Value.str (Str.ofString "_law_spelled") 2455,
     Value.str (Str.ofString "/claim/cut.py") 2456,Value.int 166 0,Value.int 2 0,Value.int 0 0,Value.int 0 0,
     Value.int 3 0,Value.ref 202,Value.bool true,Value.int 181 0,Value.ref 203,Value.none,Value.ref 204,
     Value.ref 205,Value.ref 206,Value.int 2460 0,Value.int 166 0,
     Value.str (Str.ofString "/claim/cut.py") 2461] }
noncomputable def o02_208 (P:Params):Obj :=
 {cls:=Value.type "function",
  data :=
   Data.func
    {name:=Str.ofString "_law_spelled",qualname:=Str.ofString "_law_spelled",params:=fP 20,
     body:=FuncBody.stmts (fB 20),scope:=fS 20,globals:=3,closure:=[],defaults:=Value.none,
     kwdefaults:=Value.none,pyModule:=Value.str (Str.ofString "law_us0027_02") 2452,code:=Value.ref 207 } }
noncomputable def o02_209 (P:Params):Obj :=
 {cls:=Value.type "tuple",data:=Data.seq #[] }
noncomputable def o02_210 (P:Params):Obj :=
 {cls:=Value.none,data:=Data.fields #[] }
noncomputable def o02_211 (P:Params):Obj :=
 {cls:=Value.type "tuple",
  data :=
   Data.seq
    #[Value.str (Str.ofString "totals") 2466,Value.str (Str.ofString "unseen") 2467,
     Value.str (Str.ofString "pairs") 2468,Value.str (Str.ofString "text") 2469,
     Value.str (Str.ofString "laid") 2470,Value.str (Str.ofString "total") 2471,
     Value.str (Str.ofString "kind") 2472,Value.str (Str.ofString "mark") 2473] }
noncomputable def o02_212 (P:Params):Obj :=
 {cls:=Value.type "tuple",data:=Data.seq #[] }
noncomputable def o02_213 (P:Params):Obj :=
 {cls:=Value.none,
  data :=
   Data.func
    {name:=Str.ofString "_law_text",qualname:=Str.ofString "_law_text",params:=fP 21,
     body:=FuncBody.stmts (fB 21),scope:=fS 21,globals:=0,closure:=[],defaults:=Value.none,
     kwdefaults:=Value.none } }
noncomputable def o02_214 (P:Params):Obj :=
 {cls:=Value.type "code",
  data :=
   Data.fields
    #[Value.str (Str.ofString "_law_text") 2463,Value.str (Str.ofString "_law_text") 2464,
     Value.str (Str.ofString "/claim/cut.py") 2465,Value.int 173 0,Value.int 1 0,Value.int 0 0,Value.int 0 0,
     Value.int 3 0,Value.ref 209,Value.bool true,Value.int 181 0,Value.ref 210,Value.none,Value.ref 211,
     Value.ref 212,Value.ref 213,Value.int 2474 0,Value.int 173 0,
     Value.str (Str.ofString "/claim/cut.py") 2475] }
noncomputable def o02_215 (P:Params):Obj :=
 {cls:=Value.type "function",
  data :=
   Data.func
    {name:=Str.ofString "_law_text",qualname:=Str.ofString "_law_text",params:=fP 21,
     body:=FuncBody.stmts (fB 21),scope:=fS 21,globals:=3,closure:=[],defaults:=Value.none,
     kwdefaults:=Value.none,pyModule:=Value.str (Str.ofString "law_us0027_02") 2452,code:=Value.ref 214 } }
noncomputable def o02_216 (P:Params):Obj :=
 {cls:=Value.type "tuple",data:=Data.seq #[] }
noncomputable def o02_217 (P:Params):Obj :=
 {cls:=Value.none,data:=Data.fields #[] }
noncomputable def o02_218 (P:Params):Obj :=
 {cls:=Value.type "tuple",
  data :=
   Data.seq
    #[Value.str (Str.ofString "base") 2480,Value.str (Str.ofString "count") 2481,
     Value.str (Str.ofString "names") 2482] }
noncomputable def o02_219 (P:Params):Obj :=
 {cls:=Value.type "tuple",data:=Data.seq #[] }
noncomputable def o02_220 (P:Params):Obj :=
 {cls:=Value.none,
  data :=
   Data.func
    {name:=Str.ofString "_law_flags",qualname:=Str.ofString "_law_flags",params:=fP 22,
     body:=FuncBody.stmts (fB 22),scope:=fS 22,globals:=0,closure:=[],defaults:=Value.none,
     kwdefaults:=Value.none } }
noncomputable def o02_221 (P:Params):Obj :=
 {cls:=Value.type "code",
  data :=
   Data.fields
    #[Value.str (Str.ofString "_law_flags") 2477,Value.str (Str.ofString "_law_flags") 2478,
     Value.str (Str.ofString "/claim/cut.py") 2479,Value.int 190 0,Value.int 2 0,Value.int 0 0,Value.int 0 0,
     Value.int 3 0,Value.ref 216,Value.bool true,Value.int 181 0,Value.ref 217,Value.none,Value.ref 218,
     Value.ref 219,Value.ref 220,Value.int 2483 0,Value.int 190 0,
     Value.str (Str.ofString "/claim/cut.py") 2484] }
noncomputable def o02_222 (P:Params):Obj :=
 {cls:=Value.type "function",
  data :=
   Data.func
    {name:=Str.ofString "_law_flags",qualname:=Str.ofString "_law_flags",params:=fP 22,
     body:=FuncBody.stmts (fB 22),scope:=fS 22,globals:=3,closure:=[],defaults:=Value.none,
     kwdefaults:=Value.none,pyModule:=Value.str (Str.ofString "law_us0027_02") 2452,code:=Value.ref 221 } }
noncomputable def o02_223 (P:Params):Obj :=
 {cls:=Value.type "tuple",data:=Data.seq #[] }
noncomputable def o02_224 (P:Params):Obj :=
 {cls:=Value.none,data:=Data.fields #[] }
noncomputable def o02_225 (P:Params):Obj :=
 {cls:=Value.none,
  data :=
   Data.func
    {name:=Str.ofString "_law_choices",qualname:=Str.ofString "_law_choices",params:=fP 23,
     body:=FuncBody.stmts (fB 23),scope:=fS 23,globals:=0,closure:=[],defaults:=Value.none,
     kwdefaults:=Value.none } }
noncomputable def o02_226 (P:Params):Obj :=
 {cls:=Value.type "code",
  data :=
   Data.fields
    #[Value.str (Str.ofString "_law_choices") 2486,Value.str (Str.ofString "_law_choices") 2487,
     Value.str (Str.ofString "/claim/cut.py") 2488,Value.int 193 0,Value.int 1 0,Value.int 0 0,Value.int 0 0,
     Value.int 3 0,Value.ref 223,Value.bool true,Value.int 181 0,Value.ref 224,Value.none,Value.none,
     Value.none,Value.ref 225,Value.int 2489 0,Value.int 193 0,Value.str (Str.ofString "/claim/cut.py") 2490] }
noncomputable def o02_227 (P:Params):Obj :=
 {cls:=Value.type "function",
  data :=
   Data.func
    {name:=Str.ofString "_law_choices",qualname:=Str.ofString "_law_choices",params:=fP 23,
     body:=FuncBody.stmts (fB 23),scope:=fS 23,globals:=3,closure:=[],defaults:=Value.none,
     kwdefaults:=Value.none,pyModule:=Value.str (Str.ofString "law_us0027_02") 2452,code:=Value.ref 226 } }
noncomputable def o02_228 (P:Params):Obj :=
 {cls:=Value.type "tuple",data:=Data.seq #[] }
noncomputable def o02_229 (P:Params):Obj :=
 {cls:=Value.none,data:=Data.fields #[] }
noncomputable def o02_230 (P:Params):Obj :=
 {cls:=Value.type "tuple",
  data :=
   Data.seq
    #[Value.str (Str.ofString "power") 2495,Value.str (Str.ofString "worths") 2496,
     Value.str (Str.ofString "product") 2497,Value.str (Str.ofString "worth") 2498] }
noncomputable def o02_231 (P:Params):Obj :=
 {cls:=Value.type "tuple",data:=Data.seq #[] }
noncomputable def o02_232 (P:Params):Obj :=
 {cls:=Value.none,
  data :=
   Data.func
    {name:=Str.ofString "_law_product",qualname:=Str.ofString "_law_product",params:=fP 24,
     body:=FuncBody.stmts (fB 24),scope:=fS 24,globals:=0,closure:=[],defaults:=Value.none,
     kwdefaults:=Value.none } }
noncomputable def o02_233 (P:Params):Obj :=
 {cls:=Value.type "code",
  data :=
   Data.fields
    #[Value.str (Str.ofString "_law_product") 2492,Value.str (Str.ofString "_law_product") 2493,
     Value.str (Str.ofString "/claim/cut.py") 2494,Value.int 198 0,Value.int 2 0,Value.int 0 0,Value.int 0 0,
     Value.int 3 0,Value.ref 228,Value.bool true,Value.int 181 0,Value.ref 229,Value.none,Value.ref 230,
     Value.ref 231,Value.ref 232,Value.int 2499 0,Value.int 198 0,
     Value.str (Str.ofString "/claim/cut.py") 2500] }
noncomputable def o02_234 (P:Params):Obj :=
 {cls:=Value.type "function",
  data :=
   Data.func
    {name:=Str.ofString "_law_product",qualname:=Str.ofString "_law_product",params:=fP 24,
     body:=FuncBody.stmts (fB 24),scope:=fS 24,globals:=3,closure:=[],defaults:=Value.none,
     kwdefaults:=Value.none,pyModule:=Value.str (Str.ofString "law_us0027_02") 2452,code:=Value.ref 233 } }
noncomputable def o02_235 (P:Params):Obj :=
 {cls:=Value.type "tuple",data:=Data.seq #[] }
noncomputable def o02_236 (P:Params):Obj :=
 {cls:=Value.none,data:=Data.fields #[] }
noncomputable def o02_237 (P:Params):Obj :=
 {cls:=Value.none,
  data :=
   Data.func
    {name:=Str.ofString "_law_ways",qualname:=Str.ofString "_law_ways",params:=fP 25,
     body:=FuncBody.stmts (fB 25),scope:=fS 25,globals:=0,closure:=[],defaults:=Value.none,
     kwdefaults:=Value.none } }
noncomputable def o02_238 (P:Params):Obj :=
 {cls:=Value.type "code",
  data :=
   Data.fields
    #[Value.str (Str.ofString "_law_ways") 2502,Value.str (Str.ofString "_law_ways") 2503,
     Value.str (Str.ofString "/claim/cut.py") 2504,Value.int 203 0,Value.int 1 0,Value.int 0 0,Value.int 0 0,
     Value.int 3 0,Value.ref 235,Value.bool true,Value.int 181 0,Value.ref 236,Value.none,Value.none,
     Value.none,Value.ref 237,Value.int 2505 0,Value.int 203 0,Value.str (Str.ofString "/claim/cut.py") 2506] }
noncomputable def o02_239 (P:Params):Obj :=
 {cls:=Value.type "function",
  data :=
   Data.func
    {name:=Str.ofString "_law_ways",qualname:=Str.ofString "_law_ways",params:=fP 25,
     body:=FuncBody.stmts (fB 25),scope:=fS 25,globals:=3,closure:=[],defaults:=Value.none,
     kwdefaults:=Value.none,pyModule:=Value.str (Str.ofString "law_us0027_02") 2452,code:=Value.ref 238 } }
noncomputable def o02_240 (P:Params):Obj :=
 {cls:=Value.type "tuple",data:=Data.seq #[] }
noncomputable def o02_241 (P:Params):Obj :=
 {cls:=Value.none,data:=Data.fields #[] }
noncomputable def o02_242 (P:Params):Obj :=
 {cls:=Value.none,
  data :=
   Data.func
    {name:=Str.ofString "_law_witness",qualname:=Str.ofString "_law_witness",params:=fP 26,
     body:=FuncBody.stmts (fB 26),scope:=fS 26,globals:=0,closure:=[],defaults:=Value.none,
     kwdefaults:=Value.none } }
noncomputable def o02_243 (P:Params):Obj :=
 {cls:=Value.type "code",
  data :=
   Data.fields
    #[Value.str (Str.ofString "_law_witness") 2508,Value.str (Str.ofString "_law_witness") 2509,
     Value.str (Str.ofString "/claim/cut.py") 2510,Value.int 210 0,Value.int 3 0,Value.int 0 0,Value.int 0 0,
     Value.int 3 0,Value.ref 240,Value.bool true,Value.int 181 0,Value.ref 241,Value.none,Value.none,
     Value.none,Value.ref 242,Value.int 2511 0,Value.int 210 0,Value.str (Str.ofString "/claim/cut.py") 2512] }
noncomputable def o02_244 (P:Params):Obj :=
 {cls:=Value.type "function",
  data :=
   Data.func
    {name:=Str.ofString "_law_witness",qualname:=Str.ofString "_law_witness",params:=fP 26,
     body:=FuncBody.stmts (fB 26),scope:=fS 26,globals:=3,closure:=[],defaults:=Value.none,
     kwdefaults:=Value.none,pyModule:=Value.str (Str.ofString "law_us0027_02") 2452,code:=Value.ref 243 } }
noncomputable def o02_245 (P:Params):Obj :=
 {cls:=Value.type "tuple",data:=Data.seq #[] }
noncomputable def o02_246 (P:Params):Obj :=
 {cls:=Value.none,data:=Data.fields #[] }
noncomputable def o02_247 (P:Params):Obj :=
 {cls:=Value.none,
  data :=
   Data.func
    {name:=Str.ofString "law",qualname:=Str.ofString "law",params:=fP 27,body:=FuncBody.stmts (fB 27),
     scope:=fS 27,globals:=0,closure:=[],defaults:=Value.none,kwdefaults:=Value.none } }
noncomputable def o02_248 (P:Params):Obj :=
 {cls:=Value.type "code",
  data :=
   Data.fields
    #[Value.str (Str.ofString "law") 2514,Value.str (Str.ofString "law") 2515,
     Value.str (Str.ofString "/claim/cut.py") 2516,Value.int 219 0,Value.int 1 0,Value.int 0 0,Value.int 0 0,
     Value.int 3 0,Value.ref 245,Value.bool true,Value.int 181 0,Value.ref 246,Value.none,Value.none,
     Value.none,Value.ref 247,Value.int 2517 0,Value.int 219 0,Value.str (Str.ofString "/claim/cut.py") 2518] }
noncomputable def o02_249 (P:Params):Obj :=
 {cls:=Value.type "function",
  data :=
   Data.func
    {name:=Str.ofString "law",qualname:=Str.ofString "law",params:=fP 27,body:=FuncBody.stmts (fB 27),
     scope:=fS 27,globals:=3,closure:=[],defaults:=Value.none,kwdefaults:=Value.none,
     pyModule:=Value.str (Str.ofString "law_us0027_02") 2452,code:=Value.ref 248 } }
noncomputable def l02C (P:Params):List Obj:=[o02_195 P,o02_196 P,o02_197 P,o02_198 P,o02_199 P,o02_200 P,o02_201 P,o02_202 P,o02_203 P,o02_204 P,o02_205 P,o02_206 P,o02_207 P,o02_208 P,o02_209 P,o02_210 P,o02_211 P,o02_212 P,o02_213 P,o02_214 P,o02_215 P,o02_216 P,o02_217 P,o02_218 P,o02_219 P,o02_220 P,o02_221 P,o02_222 P,o02_223 P,o02_224 P,o02_225 P,o02_226 P,o02_227 P,o02_228 P,o02_229 P,o02_230 P,o02_231 P,o02_232 P,o02_233 P,o02_234 P,o02_235 P,o02_236 P,o02_237 P,o02_238 P,o02_239 P,o02_240 P,o02_241 P,o02_242 P,o02_243 P,o02_244 P,o02_245 P,o02_246 P,o02_247 P,o02_248 P,o02_249 P]
noncomputable def t02C_3 (P:Params):Obj :=
 {cls:=Value.type "dict",
  data :=
   Data.dict
    #[{ hash:=PyData.keyHash P (Str.ofString "__name__"),key:=Value.str (Str.ofString "__name__") 165,val:=Value.str (Str.ofString "law_us0027_02") 2452 },
     {hash:=PyData.keyHash P (Str.ofString "__doc__"),key:=Value.str (Str.ofString "__doc__") 166,
      val:=Value.none },
     {hash:=PyData.keyHash P (Str.ofString "__package__"),key:=Value.str (Str.ofString "__package__") 167,
      val:=Value.none },
     {hash:=PyData.keyHash P (Str.ofString "__loader__"),key:=Value.str (Str.ofString "__loader__") 168,
      val:=Value.builtin "__main__.__loader__#opaque" },
     {hash:=PyData.keyHash P (Str.ofString "__spec__"),key:=Value.str (Str.ofString "__spec__") 169,
      val:=Value.none },
     {hash:=PyData.keyHash P (Str.ofString "__annotations__"),
      key:=Value.str (Str.ofString "__annotations__") 170,val:=Value.ref 6 },
     {hash:=PyData.keyHash P (Str.ofString "__builtins__"),key:=Value.str (Str.ofString "__builtins__") 171,
      val:=Value.ref 4 },
     {hash:=PyData.keyHash P (Str.ofString "__file__"),key:=Value.str (Str.ofString "__file__") 173,
      val:=Value.str (Str.ofString "/claim/cut.py") 172 },
     {hash:=PyData.keyHash P (Str.ofString "__cached__"),key:=Value.str (Str.ofString "__cached__") 174,
      val:=Value.none },
     {hash:=PyData.keyHash P (Str.ofString "_wall"),key:=Value.str (Str.ofString "_wall") 193,
      val:=Value.ref 21 },
     {hash:=PyData.keyHash P (Str.ofString "Whitespace"),key:=Value.str (Str.ofString "Whitespace") 298,
      val:=Value.ref 83 },
     {hash:=PyData.keyHash P (Str.ofString "_DIV_LIMIT"),key:=Value.str (Str.ofString "_DIV_LIMIT") 302,
      val:=Value.int 4000 301 },
     {hash:=PyData.keyHash P (Str.ofString "_div2n1n"),key:=Value.str (Str.ofString "_div2n1n") 319,
      val:=Value.ref 94 },
     {hash:=PyData.keyHash P (Str.ofString "_div3n2n"),key:=Value.str (Str.ofString "_div3n2n") 333,
      val:=Value.ref 101 },
     {hash:=PyData.keyHash P (Str.ofString "_int2digits"),key:=Value.str (Str.ofString "_int2digits") 344,
      val:=Value.ref 108 },
     {hash:=PyData.keyHash P (Str.ofString "_digits2int"),key:=Value.str (Str.ofString "_digits2int") 355,
      val:=Value.ref 115 },
     {hash:=PyData.keyHash P (Str.ofString "_divmod_pos"),key:=Value.str (Str.ofString "_divmod_pos") 370,
      val:=Value.ref 122 },
     {hash:=PyData.keyHash P (Str.ofString "int_divmod"),key:=Value.str (Str.ofString "int_divmod") 380,
      val:=Value.ref 129 },
     {hash:=PyData.keyHash P (Str.ofString "COMPILER_FLAG_NAMES"),
      key:=Value.str (Str.ofString "COMPILER_FLAG_NAMES") 413,val:=Value.ref 130 },
     {hash:=PyData.keyHash P (Str.ofString "pretty_flags"),key:=Value.str (Str.ofString "pretty_flags") 423,
      val:=Value.ref 137 },
     {hash:=PyData.keyHash P (Str.ofString "b1_set"),key:=Value.str (Str.ofString "b1_set") 485,
      val:=Value.ref 145 },
     {hash:=PyData.keyHash P (Str.ofString "in_table_b1"),key:=Value.str (Str.ofString "in_table_b1") 492,
      val:=Value.ref 155 },
     {hash:=PyData.keyHash P (Str.ofString "b3_exceptions"),key:=Value.str (Str.ofString "b3_exceptions") 2443,
      val:=Value.ref 156 },
     {hash:=PyData.keyHash P (Str.ofString "map_table_b3"),key:=Value.str (Str.ofString "map_table_b3") 2451,
      val:=Value.ref 201 },
     {hash:=PyData.keyHash P (Str.ofString "_law_spelled"),key:=Value.str (Str.ofString "_law_spelled") 2462,
      val:=Value.ref 208 },
     {hash:=PyData.keyHash P (Str.ofString "_law_text"),key:=Value.str (Str.ofString "_law_text") 2476,
      val:=Value.ref 215 },
     {hash:=PyData.keyHash P (Str.ofString "_law_flags"),key:=Value.str (Str.ofString "_law_flags") 2485,
      val:=Value.ref 222 },
     {hash:=PyData.keyHash P (Str.ofString "_law_choices"),key:=Value.str (Str.ofString "_law_choices") 2491,
      val:=Value.ref 227 },
     {hash:=PyData.keyHash P (Str.ofString "_law_product"),key:=Value.str (Str.ofString "_law_product") 2501,
      val:=Value.ref 234 },
     {hash:=PyData.keyHash P (Str.ofString "_law_ways"),key:=Value.str (Str.ofString "_law_ways") 2507,
      val:=Value.ref 239 },
     {hash:=PyData.keyHash P (Str.ofString "_law_witness"),key:=Value.str (Str.ofString "_law_witness") 2513,
      val:=Value.ref 244 },
     {hash:=PyData.keyHash P (Str.ofString "law"),key:=Value.str (Str.ofString "law") 2519,
      val:=Value.ref 249 }]
    32 }
noncomputable def t02C_12 (P:Params):Obj :=
 {cls:=Value.none,
  data :=
   Data.fields
    #[Value.int 1 0,Value.int 0 0,Value.ref 20,Value.int 5 0,Value.int 0 0,Value.ref 27,Value.int 68 0,
     Value.int 0 0,Value.ref 93,Value.int 84 0,Value.int 0 0,Value.ref 100,Value.int 94 0,Value.int 0 0,
     Value.ref 107,Value.int 110 0,Value.int 0 0,Value.ref 114,Value.int 119 0,Value.int 0 0,Value.ref 121,
     Value.int 130 0,Value.int 0 0,Value.ref 128,Value.int 143 0,Value.int 0 0,Value.ref 136,Value.int 157 0,
     Value.int 0 0,Value.ref 154,Value.int 160 0,Value.int 0 0,Value.ref 200,Value.int 166 0,Value.int 0 0,
     Value.ref 207,Value.int 173 0,Value.int 0 0,Value.ref 214,Value.int 190 0,Value.int 0 0,Value.ref 221,
     Value.int 193 0,Value.int 0 0,Value.ref 226,Value.int 198 0,Value.int 0 0,Value.ref 233,Value.int 203 0,
     Value.int 0 0,Value.ref 238,Value.int 210 0,Value.int 0 0,Value.ref 243,Value.int 219 0,Value.int 0 0,
     Value.ref 248] }
end Mine
end
section
set_option maxRecDepth 100000
open PySem PySem.Calls PyProof.Rows PySem.W
set_option genSizeOf false
set_option genInjectivity false
namespace Mine
@[irreducible] noncomputable def T1 (P:Params):BT:=insAll (((hTP P).set 3 fun _=>t02A_3 P).set 12 fun _=>t02A_12 P) 138 (l02A P)
noncomputable def ww (w:World) (x y:Bool):World:=(w.withFollow "set-order" x).withFollow "special-get-raises" y
noncomputable def stsP:List Stmt:=[stAt 0,stAt 1,stAt 2,stAt 3,stAt 4,stAt 5,stAt 6,stAt 7,stAt 8,stAt 9,stAt 10,stAt 11,stAt 12,stAt 13,stAt 14]
theorem pieceP_at (p:Program) (b:List Stmt) (w:World) (os:OsState) (x y:Bool) :
  segRunT treeTable p (ww w x y) 11 (some (.ref 6)) 1 1000 ⟨hT0 (ww w x y).params,15,{},⟨[]⟩,{},187,os⟩ (piecesOf stsP hEnv (.body b hEnv) ⟨0,0,0,0⟩ [topFrame ⟨0,0,0,0⟩]) =
   some (.next,⟨hTP (ww w x y).params,138,{},⟨[]⟩,{},426,os⟩,.body b hEnv,⟨155,0,155,8⟩):=by
 unfold piecesOf
 rw [PySem.W.Fast.te10110043849684766642,PySem.W.Fast.te14364793385576792824,PySem.W.Fast.te12563942051412417395]
 cases x <;> cases y <;> kernel_rfl
theorem ww_self (w:World):ww w (w.params.followText "set-order") (w.params.followText "special-get-raises")=w:=by
 unfold ww
 rw [World.withFollow_self w "set-order",World.withFollow_self w "special-get-raises"]
theorem pieceP (p:Program) (b:List Stmt) (w:World) (os:OsState) :
  segRunT treeTable p w 11 (some (.ref 6)) 1 1000 ⟨hT0 w.params,15,{},⟨[]⟩,{},187,os⟩ (piecesOf stsP hEnv (.body b hEnv) ⟨0,0,0,0⟩ [topFrame ⟨0,0,0,0⟩]) =
   some (.next,⟨hTP w.params,138,{},⟨[]⟩,{},426,os⟩,.body b hEnv,⟨155,0,155,8⟩):=by
 have h:=pieceP_at p b w os (w.params.followText "set-order") (w.params.followText "special-get-raises")
 rw [ww_self] at h
 exact h
theorem pieceA_at (p:Program) (b:List Stmt) (w:World) (os:OsState) (x y:Bool) :
  segRunT treeTable p (ww w x y) 11 (some (.ref 6)) 1 1030 ⟨hTP (ww w x y).params,138,{},⟨[]⟩,{},426,os⟩ (piecesOf [stAt 15,stAt 16] hEnv (.body b hEnv) ⟨155,0,155,8⟩ [topFrame ⟨0,0,0,0⟩]) =
   some (.next,⟨T1 (ww w x y).params,156,{},⟨[]⟩,{},493,os⟩,.body b hEnv,⟨157,0,158,30⟩):=by
 unfold piecesOf
 rw [PySem.W.Fast.te10110043849684766642,PySem.W.Fast.te14364793385576792824,PySem.W.Fast.te12563942051412417395]
 cases x <;> cases y <;> kernel_rfl
theorem pieceA (p:Program) (b:List Stmt) (w:World) (os:OsState) :
  segRunT treeTable p w 11 (some (.ref 6)) 1 1030 ⟨hTP w.params,138,{},⟨[]⟩,{},426,os⟩ (piecesOf [stAt 15,stAt 16] hEnv (.body b hEnv) ⟨155,0,155,8⟩ [topFrame ⟨0,0,0,0⟩]) =
   some (.next,⟨T1 w.params,156,{},⟨[]⟩,{},493,os⟩,.body b hEnv,⟨157,0,158,30⟩):=by
 have h:=pieceA_at p b w os (w.params.followText "set-order") (w.params.followText "special-get-raises")
 rw [ww_self] at h
 exact h
end Mine
end
section
set_option maxRecDepth 100000
open PySem PySem.Calls PyProof.Rows PySem.W
set_option genSizeOf false
set_option genInjectivity false
namespace Mine
noncomputable def dParts:Stmt→List (Option Expr) × List Expr × Pos × Pos × Pos
 | .Assign [.Name _ q] (.Dict ks vs dp) p=>(ks,vs,dp,q,p)
 | _=>([],[],default,default,default)
@[irreducible] noncomputable def b3c:List (Int × Str):=(decD (dParts (stAt 17)).1 (dParts (stAt 17)).2.1).getD []
noncomputable def incr:Int→List (Int × Str)→Bool
 | _,[]=>true
 | a,(k,_) :: r=>match decide (a<k) && decide (k<2000000) with
  | true=>incr k r
  | false=>false
theorem incr_all:∀ {l:List (Int × Str)} {a:Int},incr a l=true→∀ x∈l,a<x.1∧x.1<2000000
 | [],_,_=>fun x hx=>nomatch hx
 | (k,y) :: r,a,h=>fun x hx=>by
  unfold incr at h
  split at h
  ·rename_i q
   simp only [Bool.and_eq_true,decide_eq_true_eq] at q
   rcases List.mem_cons.mp hx with rfl|hx
   ·exact q
   ·have:=incr_all h x hx
    exact ⟨Int.lt_trans q.1 this.1,this.2⟩
  ·cases h
theorem hashInt_small {k:Int} (h:0≤k) (h2:k<2000000):hashInt k=k:=by
 have e:rawHash k=k:=by
  unfold rawHash
  have:(k.natAbs:Int)=k:=Int.natAbs_of_nonneg h
  have e1:(k.natAbs:Int) % ((2 ^ 61 - 1:Nat):Int)=k:=by
   rw [this]
   exact Int.emod_eq_of_lt h (by omega)
  have n1:¬ (k<0):=by omega
  have n2:¬ ((k == -1)=true):=by rw [beq_iff_eq];omega
  dsimp only
  rw [e1,if_neg n1,if_neg n2]
 unfold hashInt
 have n2:¬ ((k == -1)=true):=by rw [beq_iff_eq];omega
 rw [e,if_neg n2]
theorem incr_nodup:∀ {l:List (Int × Str)} {a:Int},0≤a→incr a l=true→(l.map fun x=>hashInt x.1).Nodup
 | [],_,_,_=>List.nodup_nil
 | (k,y) :: r,a,h0,h=>by
  have h':=h
  unfold incr at h
  split at h
  ·rename_i q
   simp only [Bool.and_eq_true,decide_eq_true_eq] at q
   rw [List.map_cons,List.nodup_cons]
   have hk0:0≤k:=Int.le_of_lt (Int.lt_of_le_of_lt h0 q.1)
   refine ⟨fun hm=>?_,incr_nodup hk0 h⟩
   obtain ⟨z,hz,e⟩:=List.mem_map.mp hm
   have:=incr_all h z hz
   rw [hashInt_small (by omega) this.2,hashInt_small hk0 q.2] at e
   omega
  ·cases h
theorem b3_dec:decD (dParts (stAt 17)).1 (dParts (stAt 17)).2.1=some b3c:=by kernel_rfl
theorem b3_incr:incr 0 b3c=true:=by kernel_rfl
theorem b3_len:b3c.length=650:=by kernel_rfl
theorem b3_st:stAt 17=.Assign [.Name "b3_exceptions" (dParts (stAt 17)).2.2.2.1] (.Dict (dParts (stAt 17)).1 (dParts (stAt 17)).2.1 (dParts (stAt 17)).2.2.1) (dParts (stAt 17)).2.2.2.2:=by kernel_rfl
@[irreducible] noncomputable def b3objs:List Obj:=objsOf (disp 493 none [] b3c)
theorem b3objs_eq:objsOf (disp 493 none [] b3c)=b3objs:=by unfold b3objs;rfl
theorem b3objs_len:b3objs.length=39:=by kernel_rfl
@[irreducible] noncomputable def T1b (P:Params):BT:=insAll (T1 P) 156 b3objs
@[irreducible] noncomputable def T2 (P:Params):BT:=(T1b P).set 3 (Obj.putName "b3_exceptions" (hashOf P "b3_exceptions") (.str "b3_exceptions" 2443) (.ref 156))
theorem T1_ok (P:Params):okIns (T1 P) 156 b3objs=true:=by kernel_rfl
theorem T1_main (P:Params):(absHeap (T1 P) 156 {}).get? mainNs=some (t02A_3 P):=by kernel_rfl
theorem T1b_main (P:Params):(T1b P).get 3=some (t02A_3 P):=by kernel_rfl
end Mine
end
section
set_option maxRecDepth 100000
open PySem PySem.Calls PyProof.Rows PySem.W
set_option genSizeOf false
set_option genInjectivity false
namespace Mine
theorem T2_abs (P:Params):absHeap (T2 P) 195 {}=(app (absHeap (T1 P) 156 {}) b3objs).update mainNs (Obj.putName "b3_exceptions" (hashOf P "b3_exceptions") (.str "b3_exceptions" 2443) (.ref 156)):=by
 unfold T2
 rw [absHeap_set (T1b_main P)]
 have:=abs_insAll (life:={}) (T1_ok P)
 rw [b3objs_len] at this
 unfold T1b
 rw [show (195:Nat)=156+39 from rfl,this]
 rfl
theorem b3_run (w:World) (os:OsState) (c:Code) (pos:Pos) (rest:List Stmt) (B:List Frame) :
  ∃ q',Rn ⟨PP,w,11,some (.ref 6)⟩ (SharedT.abs ⟨T1 w.params,156,{},⟨[]⟩,{},493,os⟩) (restOf (stAt 17 :: rest) hEnv c pos B) (SharedT.abs ⟨T2 w.params,195,{},⟨[]⟩,{},2444,os⟩) (restOf rest hEnv c q' B) 130100:=by
 have h:=TR.assignDict (X:=⟨PP,w,11,some (.ref 6)⟩) (h:=absHeap (T1 w.params) 156 {}) (g:=⟨[]⟩) (d:={}) (os:=os) (tk:=493) (env:=hEnv) (x:="b3_exceptions") (q:=(dParts (stAt 17)).2.2.2.1) (pos:=(dParts (stAt 17)).2.2.1) (p:=(dParts (stAt 17)).2.2.2.2)
  (o:=t02A_3 w.params) (es:=(match (t02A_3 w.params).data with | .dict es _=>es|_=>#[])) (ep:=(match (t02A_3 w.params).data with | .dict _ n=>n|_=>0)) b3_dec (by rw [absHeap_size];exact (by decide:11≤156)) (by rw [absHeap_size];exact (by decide:1<156)) (incr_nodup (Int.le_refl 0) b3_incr) (by rw [b3_len];exact (by decide:650≤10000)) (by intro q;have:=b3_len;rw [q] at this;cases this)
  (by kernel_rfl) (by kernel_rfl) (by kernel_rfl) (by kernel_rfl) (T1_main _) (by kernel_rfl) (by kernel_rfl)
 rw [← b3_st,b3_len,absHeap_size,b3objs_eq] at h
 have h2:=h.stmt (rest:=rest) (c:=c) (pos:=pos) (B:=B)
 obtain ⟨q',h3⟩:=h2
 refine ⟨q',?_⟩
 show Rn _ ⟨absHeap (T1 w.params) 156 {},_,_,_,_⟩ _ ⟨absHeap (T2 w.params) 195 {},_,_,_,_⟩ _ _
 rw [T2_abs]
 exact h3
@[irreducible] noncomputable def T3 (P:Params):BT:=insAll (((T2 P).set 3 fun _=>t02C_3 P).set 12 fun _=>t02C_12 P) 195 (l02C P)
noncomputable def stsC:List Stmt:=[stAt 18,stAt 19,stAt 20,stAt 21,stAt 22,stAt 23,stAt 24,stAt 25,stAt 26,stAt 27]
theorem pieceC (p:Program) (b:List Stmt) (w:World) (os:OsState) (pos:Pos) :
  segRunT treeTable p w 11 (some (.ref 6)) 1 300 ⟨T2 w.params,195,{},⟨[]⟩,{},2444,os⟩ (piecesOf stsC hEnv (.body b hEnv) pos [topFrame ⟨0,0,0,0⟩]) =
   some (.next,⟨T3 w.params,250,{},⟨[]⟩,{},2520,os⟩,.body b hEnv,⟨219,0,246,314⟩):=by
 unfold piecesOf
 rw [PySem.W.Fast.te10110043849684766642,PySem.W.Fast.te14364793385576792824,PySem.W.Fast.te12563942051412417395]
 kernel_rfl
end Mine
end
section
set_option maxRecDepth 100000
open PySem PySem.Calls PyProof.Rows PySem.W
set_option genSizeOf false
set_option genInjectivity false
namespace Mine
noncomputable abbrev bodyP:List Stmt:=behindTheImports PP
theorem body_eq:bodyP=stsP++([stAt 15,stAt 16]++(stAt 17 :: (stsC++[]))):=by kernel_rfl
theorem pre_go (w:World) (os:OsState):topGo treeTable PP w 11 (some (.ref 6)) 12 ⟨boot_heap w.params,⟨[]⟩,boot_drawn,boot_toks,os⟩ (topStub PP) =
  some (SharedT.abs ⟨hT0 w.params,15,{},⟨[]⟩,{},187,os⟩,⟨denote treeTable (.body bodyP hEnv),.body bodyP hEnv,⟨0,0,0,0⟩,[topFrame ⟨0,0,0,0⟩]⟩):=by kernel_rfl
theorem block_run (w:World) (os:OsState):segRun treeTable PP w 11 (some (.ref 6)) 1 1 (SharedT.abs ⟨hT0 w.params,15,{},⟨[]⟩,{},187,os⟩) (blockOf bodyP hEnv (.body bodyP hEnv) ⟨0,0,0,0⟩ [topFrame ⟨0,0,0,0⟩]) =
  some (.next,SharedT.abs ⟨hT0 w.params,15,{},⟨[]⟩,{},187,os⟩,.body bodyP hEnv,⟨0,0,0,0⟩):=by kernel_rfl
theorem fin_run (w:World) (os:OsState) (pos:Pos):topRun treeTable PP w 11 (some (.ref 6)) 2 (SharedT.abs ⟨T3 w.params,250,{},⟨[]⟩,{},2520,os⟩) ⟨doneF .next,.body bodyP hEnv,pos,[topFrame ⟨0,0,0,0⟩]⟩ =
  some (SharedT.abs ⟨T3 w.params,250,{},⟨[]⟩,{},2520,os⟩):=by rfl
theorem run_all (w:World) (os:OsState):topRun treeTable PP w 11 (some (.ref 6)) (12+(1+(1000+(1030+(130100+(300+2)))))) ⟨boot_heap w.params,⟨[]⟩,boot_drawn,boot_toks,os⟩ (topStub PP) =
  some (SharedT.abs ⟨T3 w.params,250,{},⟨[]⟩,{},2520,os⟩):=by
 refine go_top (pre_go w os) (piece_block (block_run w os) ?_)
 rw [body_eq]
 refine piece_app (segRun_of (pieceP PP _ w os)) ?_
 refine piece_app (segRun_of (pieceA PP _ w os)) ?_
 obtain ⟨q',n,hn,hr⟩:=b3_run w os (.body bodyP hEnv) ⟨157,0,158,30⟩ (stsC++[]) [topFrame ⟨0,0,0,0⟩]
 have h:=hr (300+2) _ (piece_app (segRun_of (pieceC PP bodyP w os q')) (piece_nil (fin_run w os _)))
 rw [body_eq] at h
 have:=topRun_mono (130100 - n) _ _ _ _ h
 rw [show n+(300+2)+(130100 - n)=130100+(300+2) by omega] at this
 exact this
end Mine
end
section
set_option maxRecDepth 100000
open PySem PySem.Calls PyProof.Rows PySem.W
set_option genSizeOf false
set_option genInjectivity false
namespace Mine
noncomputable def lawQ:Program:={ PP with main:={ PP.main with body:=[stAt 27] } }
noncomputable def lawLoose:List Str:=["_wall","Whitespace","_DIV_LIMIT","_div2n1n","_div3n2n","_int2digits","_digits2int","_divmod_pos","int_divmod","COMPILER_FLAG_NAMES","pretty_flags","b1_set","in_table_b1","b3_exceptions","map_table_b3","_law_spelled","_law_text","_law_flags","_law_choices","_law_product","_law_ways","_law_witness"]
noncomputable def H1 (P:Params):Heap:=absHeap (T3 P) 250 {}
theorem left_open (w:World):(fencedOpening treeTable PP w 300000).map (fun s=>(s.heap,s.gens,s.drawn,s.toks))=some (boot_heap w.params,Array.mk [],boot_drawn,boot_toks) :=
 boot_open (p:=PP) (by kernel_rfl) (by kernel_rfl) (fun s=>by kernel_rfl) w
theorem left_size (w:World):((boot_heap w.params).isNs mainGlobals && (Array.mk []:Array GenState).size == 0,(boot_heap w.params).objs.size,(boot_heap w.params).nsMap mainGlobals "__annotations__")=(true,11,some (.ref 6)):=by kernel_rfl
theorem look0 (w:World) (os:OsState):(staticsOk (importedModules PP.main.body) (boot_heap w.params) (H1 w.params) && namesBound PP (H1 w.params) && gensDone ⟨H1 w.params,⟨[]⟩,{},2520,os⟩ && laidKept (boot_heap w.params) (H1 w.params))=true:=by kernel_rfl
theorem look1 (w:World) (os:OsState):seen ((recsOf lawQ).map (·.name)) (ownsOf lawQ) [] { (⟨H1 w.params,⟨[]⟩,{},2520,os⟩:Shared) with gens:=#[] }=expectedOf lawQ:=by kernel_rfl
theorem look2 (w:World):(H1 w.params).bltView=bltViewBooted:=by kernel_rfl
end Mine
end
section
set_option maxRecDepth 100000
open PySem PySem.Calls PyProof.Rows PySem.W
set_option genSizeOf false
set_option genInjectivity false
namespace Mine
noncomputable def Sf (w:World) (os:OsState):Shared:=⟨H1 w.params,⟨[]⟩,{},2520,os⟩
theorem look3 (w:World) (os:OsState):((Sf w os).heap.keysOk (looseW lawQ lawLoose) ((recsOf lawQ).map (·.name)) ((litsOf lawQ).map (·.1)) ((clssOf lawQ (looseW lawQ lawLoose)).map (·.name)) && (Sf w os).heap.accountedOkI (importedModules PP.main.body) && (Sf w os).heap.isNs mainGlobals && (Sf w os).heap.isNs builtinsNs && tablesOk lawQ (Sf w os).heap && true && (if true then (Sf w os).gens.size == 0 else !leftWithCleanup (Sf w os).gens))=true:=by kernel_rfl
theorem look4 (w:World) (os:OsState):tabsOk lawQ (Sf w os)=true:=by kernel_rfl
theorem look5 (w:World) (os:OsState):pinSeenD lawQ (drecsOf lawQ) (Sf w os)=pinGoodD (drecsOf lawQ):=by kernel_rfl
theorem look6 (w:World) (os:OsState):plainSeenE lawQ (looseW lawQ lawLoose) (Sf w os)=plainGoodE lawQ (looseW lawQ lawLoose):=by kernel_rfl
theorem look7 (w:World) (os:OsState):plainSeenD lawQ lawLoose (Sf w os)=plainGoodD lawQ lawLoose:=by kernel_rfl
theorem look8 (w:World) (os:OsState):wideSeen lawQ (Sf w os)=wideGood lawQ:=by kernel_rfl
theorem look9 (w:World) (os:OsState):clsSeenW lawQ lawLoose (Sf w os)=clsGoodW lawQ lawLoose:=by kernel_rfl
theorem looks_all (w:World) (os:OsState):openSeen lawQ lawLoose (importedModules PP.main.body) (fun _=>true) true (Sf w os)=openGood lawQ lawLoose:=by
 refine looks_pair (look1 w os) (looks_pair (look2 w) (looks_pair (look3 w os) (looks_pair (look4 w os) (looks_pair (look5 w os) (looks_pair (look6 w os) (looks_pair (look7 w os) (looks_pair (look8 w os) (look9 w os))))))))
theorem left_law {α:Type} (Yf:Shared→α) (Ya:World→α) (hY:∀ w os,Yf (Sf w os)=Ya w):LeftO PP lawQ lawLoose (fun _=>true) Yf Ya 300000:=by
 refine LeftO.of_pieces (H₀:=boot_heap) (H₁:=H1) (gs₀:=⟨[]⟩) (gs₁:=⟨[]⟩) (d₀:=boot_drawn) (d₁:={}) (k₀:=boot_toks) (k₁:=2520) (m₀:=11) (ann:=some (.ref 6)) left_open left_size run_all (by kernel_rfl) fun w=>?_
 funext os
 exact looks_pair (look0 w os) (looks_pair (looks_all w os) (hY w os))
end Mine
end
section
set_option genSizeOf false
set_option genInjectivity false
namespace Mine
noncomputable def M___init__:FnP where
 params:=[217805684,14968]
 body:=[.setattr 217805684 1978739 (.var 14968) [14968],
  .unpackR [84,85] (.tup [(.gattr 948045377251028153560 84),(.gattr 948045377251028153560 85)]) [],
  .assign 31641679972 (.list []) [],
  .chain [99,111,15087] (.lit (.int 0)),
  .for_ [13540] true (.tv (.attr (.var 217805684) 1978739)) [217805684] [.if_ (.cmp .eq (.var 13540) (.var 84)) [.assign 111 (.bin .add (.var 111) (.lit (.int 1))) [111],.assign 99 (.bin .add (.var 99) (.lit (.int 1))) [99]] [.if_ (.cmp .eq (.var 13540) (.var 85)) [.assign 111 (.bin .add (.var 111) (.lit (.int 1))) [111],.assign 15087 (.bin .add (.var 15087) (.lit (.int 1))) [15087],.if_ (.cmp .ge (.var 99) (.bi .len [(.var 31641679972)])) [.assign 31641679972 (.bin .add (.var 31641679972) (.bin .mul (.list [(.lit (.int 0))]) (.bin .add (.bin .sub (.var 99) (.bi .len [(.var 31641679972)])) (.lit (.int 1))))) [31641679972,99]] [],.setidx 31641679972 (.var 99) (.bin .add (.idx (.var 31641679972) (.var 99)) (.lit (.int 1))),.assign 99 (.lit (.int 0)) []] [.brk]]] [],
  .setattr 217805684 111 (.var 111) [111],
  .setattr 217805684 15087 (.var 15087) [15087],
  .setattr 217805684 232585327 (.tup [(.bi .tuple [(.var 31641679972)]),(.var 99)]) [31641679972,99],
  .setattr 217805684 7411736924317563498 (.cmp .le (.bi .len [(.var 31641679972)]) (.lit (.int 1))) [31641679972]]
noncomputable def M_longest_run_of_spaces:FnP where
 params:=[217805684]
 body:=[.unpack [31641679972,59038649934199285] (.attr (.var 217805684) 232585327) [217805684],
  .ret (.bi .max [(.bin .sub (.bi .len [(.var 31641679972)]) (.lit (.int 1))),(.var 59038649934199285)]) [31641679972,59038649934199285]]
noncomputable def M_indent_level:FnP where
 params:=[217805684,452855691014517]
 body:=[.unpack [31641679972,59038649934199285] (.attr (.var 217805684) 232585327) [217805684],
  .assign 14058 (.lit (.int 0)) [],
  .for_ [106] true (.bi .range [(.var 452855691014517),(.bi .len [(.var 31641679972)])]) [452855691014517,31641679972] [.assign 14058 (.bin .add (.var 14058) (.bin .mul (.bin .fdiv (.var 106) (.var 452855691014517)) (.idx (.var 31641679972) (.var 106)))) [14058,106,452855691014517,31641679972]] [],
  .ret (.bin .add (.var 59038649934199285) (.bin .mul (.var 452855691014517) (.bin .add (.var 14058) (.attr (.var 217805684) 15087)))) [59038649934199285,452855691014517,14058,217805684]]
noncomputable def M_equal:FnP where
 params:=[217805684,31085722352]
 body:=[.ret (.cmp .eq (.attr (.var 217805684) 232585327) (.attr (.var 31085722352) 232585327)) [217805684,31085722352]]
noncomputable def M_not_equal_witness:FnP where
 params:=[217805684,31085722352]
 body:=[.assign 111 (.bin .add (.bi .max [(.imeth (.var 217805684) 162799657117787522696913369657140165249595501 []),(.imeth (.var 31085722352) 162799657117787522696913369657140165249595501 [])]) (.lit (.int 1))) [217805684,31085722352],
  .assign 98 (.list []) [],
  .for_ [14965] true (.bi .range [(.lit (.int 1)),(.bin .add (.var 111) (.lit (.int 1)))]) [111] [.if_ (.cmp .ne (.imeth (.var 217805684) 16593139630497283534583786 [(.var 14965)]) (.imeth (.var 31085722352) 16593139630497283534583786 [(.var 14965)])) [.append 98 (.tup [(.var 14965),(.imeth (.var 217805684) 16593139630497283534583786 [(.var 14965)]),(.imeth (.var 31085722352) 16593139630497283534583786 [(.var 14965)])]) [14965,217805684,31085722352]] []] [],
  .ret (.var 98) [98]]
noncomputable def M_less:FnP where
 params:=[217805684,31085722352]
 body:=[.if_ (.cmp .ge (.attr (.var 217805684) 111) (.attr (.var 31085722352) 111)) [.ret (.lit (.bool false)) []] [],
  .if_ (.and [(.tv (.attr (.var 217805684) 7411736924317563498)),(.tv (.attr (.var 31085722352) 7411736924317563498))]) [.ret (.cmp .le (.attr (.var 217805684) 15087) (.attr (.var 31085722352) 15087)) [217805684,31085722352]] [],
  .assign 111 (.bin .add (.bi .max [(.imeth (.var 217805684) 162799657117787522696913369657140165249595501 []),(.imeth (.var 31085722352) 162799657117787522696913369657140165249595501 [])]) (.lit (.int 1))) [217805684,31085722352],
  .for_ [14965] true (.bi .range [(.lit (.int 2)),(.bin .add (.var 111) (.lit (.int 1)))]) [111] [.if_ (.cmp .ge (.imeth (.var 217805684) 16593139630497283534583786 [(.var 14965)]) (.imeth (.var 31085722352) 16593139630497283534583786 [(.var 14965)])) [.ret (.lit (.bool false)) []] []] [],
  .ret (.lit (.bool true)) []]
noncomputable def F__div2n1n:FnP where
 params:=[98,99,111]
 body:=[.if_ (.cmp .le (.bin .sub (.meth .bitLength (.var 98) []) (.var 111)) (.glob 789363123314924626656)) [.ret (.bi .divmod [(.var 98),(.var 99)]) [98,99]] [],
  .assign 1667441 (.bin .band (.var 111) (.lit (.int 1))) [111],
  .if_ (.tv (.var 1667441)) [.aug 98 .shl (.lit (.int 1)),.aug 99 .shl (.lit (.int 1)),.aug 111 .add (.lit (.int 1))] [],
  .assign 3839918567785 (.bin .shr (.var 111) (.lit (.int 1))) [111],
  .assign 228405614 (.bin .sub (.bin .shl (.lit (.int 1)) (.var 3839918567785)) (.lit (.int 1))) [3839918567785],
  .unpackR [6499,6627] (.tup [(.bin .shr (.var 99) (.var 3839918567785)),(.bin .band (.var 99) (.var 228405614))]) [99,3839918567785,228405614],
  .unpack [6514,115] (.call 62715573342745312 [(.bin .shr (.var 98) (.var 111)),(.bin .band (.bin .shr (.var 98) (.var 3839918567785)) (.var 228405614)),(.var 99),(.var 6499),(.var 6627),(.var 3839918567785)]) [98,111,3839918567785,228405614,99,6499,6627],
  .unpack [6642,115] (.call 62715573342745312 [(.var 115),(.bin .band (.var 98) (.var 228405614)),(.var 99),(.var 6499),(.var 6627),(.var 3839918567785)]) [115,98,228405614,99,6499,6627,3839918567785],
  .if_ (.tv (.var 1667441)) [.aug 115 .shr (.lit (.int 1))] [],
  .stuck]
noncomputable def F__divmod_pos:FnP where
 params:=[98,99]
 body:=[.assign 111 (.meth .bitLength (.var 99) []) [99],
  .assign 65820436312191074 (.call 138035459652972097303904 [(.var 98),(.var 111)]) [98,111],
  .assign 115 (.lit (.int 0)) [],
  .assign 65820436312191090 (.list []) [],
  .for_ [518241715318882] true (.bi .reversed [(.var 65820436312191074)]) [65820436312191074] [.unpack [518241715318898,115] (.call 62711175027798752 [(.bin .add (.bin .shl (.var 115) (.var 111)) (.var 518241715318882)),(.var 99),(.var 111)]) [115,111,518241715318882,99],.append 65820436312191090 (.var 518241715318898) [518241715318898]] [],
  .reverse 65820436312191090,
  .assign 114 (.call 139160681249665806152416 [(.var 65820436312191090),(.var 111)]) [65820436312191090,111],
  .ret (.tup [(.var 114),(.var 115)]) [114,115]]
noncomputable def F_int_divmod:FnP where
 params:=[98,99]
 body:=[.if_ (.cmp .eq (.var 99) (.lit (.int 0))) [.stuck] [.if_ (.cmp .lt (.var 99) (.lit (.int 0))) [.unpack [114,115] (.call 939693477786438957034 [(.neg (.var 98)),(.neg (.var 99))]) [98,99],.ret (.tup [(.var 114),(.neg (.var 115))]) [114,115]] [.if_ (.cmp .lt (.var 98) (.lit (.int 0))) [.unpack [114,115] (.call 939693477786438957034 [(.inv (.var 98)),(.var 99)]) [98,99],.ret (.tup [(.inv (.var 114)),(.bin .add (.var 99) (.inv (.var 115)))]) [114,99,115]] [.ret (.call 137989842670750027920096 [(.var 98),(.var 99)]) [98,99]]]]]
noncomputable def F_pretty_flags:FnP where
 params:=[31358236391]
 body:=[.assign 31354237295 (.list []) [],
  .for_ [106] true (.bi .range [(.lit (.int 32))]) [] [.assign 219723495 (.bin .shl (.lit (.int 1)) (.var 106)) [106],.if_ (.tv (.bin .band (.var 31358236391) (.var 219723495))) [.append 31354237295 (.gmeth 7192860386900399776657931683028391929924 1930088 [(.var 219723495),(.bi .hex [(.var 219723495)])]) [219723495],.aug 31358236391 .bxor (.var 219723495),.if_ (.not (.tv (.var 31358236391))) [.brk] []] []] [.append 31354237295 (.bi .hex [(.var 31358236391)]) [31358236391]],
  .ret (.meth .join (.lit (.str [44,32])) [(.var 31354237295)]) [31354237295]]
noncomputable def F_in_table_b1:FnP where
 params:=[215578724]
 body:=[.ret (.gmeth 4047714654563 0 [(.bi .ord [(.var 215578724)])]) [215578724]]
noncomputable def F_map_table_b3:FnP where
 params:=[215578724]
 body:=[.assign 115 (.gmeth 2260673379385664901314255459 1930088 [(.bi .ord [(.var 215578724)])]) [215578724],
  .if_ (.cmp .isNot (.var 115) (.lit .none)) [.ret (.var 115) [115]] [],
  .ret (.meth .lower (.var 215578724) []) [215578724]]
noncomputable def F__law_spelled:FnP where
 params:=[3978997625709,213643625]
 body:=[.if_ (.cmp .eq (.var 213643625) (.lit (.int 0))) [.ret (.var 3978997625709) [3978997625709]] [],
  .if_ (.cmp .eq (.var 213643625) (.lit (.int 1))) [.ret (.meth .upper (.var 3978997625709) []) [3978997625709]] [],
  .assign 4017379392244 (.list [(.lit (.int 119808)),(.lit (.int 119860)),(.lit (.int 119912)),(.lit (.int 120016)),(.lit (.int 120172)),(.lit (.int 120224)),(.lit (.int 120276)),(.lit (.int 120328)),(.lit (.int 120380)),(.lit (.int 120432))]) [],
  .ret (.bi .chr [(.bin .sub (.bin .add (.idx (.var 4017379392244) (.bin .sub (.var 213643625) (.lit (.int 2)))) (.bi .ord [(.var 3978997625709)])) (.lit (.int 97)))]) [4017379392244,213643625,3978997625709]]
noncomputable def F__law_text:FnP where
 params:=[4015196567669]
 body:=[.assign 3841527199734 (.bin .add (.list [(.lit (.int 173)),(.lit (.int 847)),(.lit (.int 6150)),(.lit (.int 6155)),(.lit (.int 6156)),(.lit (.int 6157)),(.lit (.int 8203)),(.lit (.int 8204)),(.lit (.int 8205)),(.lit (.int 8288)),(.lit (.int 65279))]) (.bi .listRange [(.lit (.int 65024)),(.lit (.int 65040))])) [],
  .assign 31381434737 (.list [(.tup [(.bi .chr [(.lit (.int 13256))]),(.lit (.str [100,98]))]),(.tup [(.bi .chr [(.lit (.int 13191))]),(.lit (.str [103,98]))]),(.tup [(.bi .chr [(.lit (.int 64256))]),(.lit (.str [102,102]))])]) [],
  .assign 247362421 (.list []) [],
  .assign 213561709 (.lit (.int 0)) [],
  .for_ [29466916981] true (.tv (.var 4015196567669)) [4015196567669] [.if_ (.cmp .lt (.var 213561709) (.lit (.int 3))) [.assign 213644652 (.bin .mod (.var 29466916981) (.lit (.int 10))) [29466916981],.assign 228389230 (.bin .fdiv (.var 29466916981) (.lit (.int 120))) [29466916981],.if_ (.cmp .lt (.var 213644652) (.lit (.int 7))) [.append 247362421 (.tup [(.call 15384122077699522845783776 [(.bi .chr [(.bin .add (.lit (.int 97)) (.var 213644652))]),(.bin .mod (.bin .fdiv (.var 29466916981) (.lit (.int 10))) (.lit (.int 12)))]),(.bi .chr [(.bin .add (.lit (.int 97)) (.var 213644652))])]) [213644652,29466916981]] [.append 247362421 (.idx (.var 31381434737) (.bin .sub (.var 213644652) (.lit (.int 7)))) [31381434737,213644652]],.assign 213561709 (.bin .add (.var 213561709) (.bi .len [(.idx (.idx (.var 247362421) (.neg (.lit (.int 1)))) (.lit (.int 1)))])) [213561709,247362421],.if_ (.cmp .lt (.var 228389230) (.lit (.int 27))) [.append 247362421 (.tup [(.bi .chr [(.idx (.var 3841527199734) (.var 228389230))]),(.lit (.str []))]) [3841527199734,228389230]] []] []] [],
  .ret (.var 247362421) [247362421]]
noncomputable def F__law_flags:FnP where
 params:=[215822691,31641679972]
 body:=[.assign 31354237295 (.list [(.lit (.str [79,80,84,73,77,73,90,69,68])),(.lit (.str [78,69,87,76,79,67,65,76,83])),(.lit (.str [86,65,82,65,82,71,83])),(.lit (.str [86,65,82,75,69,89,87,79,82,68,83])),(.lit (.str [78,69,83,84,69,68])),(.lit (.str [71,69,78,69,82,65,84,79,82])),(.lit (.str [78,79,70,82,69,69])),(.lit (.str [67,79,82,79,85,84,73,78,69])),(.lit (.str [73,84,69,82,65,66,76,69,95,67,79,82,79,85,84,73,78,69])),(.lit (.str [65,83,89,78,67,95,71,69,78,69,82,65,84,79,82])),(.lit (.str [48,120,52,48,48]))]) [],
  .ret (.slice (.var 31354237295) (.var 215822691) (.bin .add (.var 215822691) (.var 31641679972)) (.lit .none)) [31354237295,215822691,31641679972]]
noncomputable def F__law_choices:FnP where
 params:=[31358236391]
 body:=[.assign 513705156293860 (.list [(.list [])]) [],
  .for_ [219723495] true (.tv (.var 31358236391)) [31358236391] [.assign 513705156293860 (.bin .add (.var 513705156293860) (.comp (.bin .add (.var 3531761005796) (.list [(.var 219723495)])) [3531761005796] true (.tv (.var 513705156293860)) [] [219723495])) [513705156293860,219723495]] [],
  .ret (.var 513705156293860) [513705156293860]]
noncomputable def F__law_product:FnP where
 params:=[31085967473,4014162638968]
 body:=[.assign 518039304681969 (.lit (.int 1)) [],
  .for_ [28432988280] true (.tv (.var 4014162638968)) [4014162638968] [.assign 518039304681969 (.bin .mul (.var 518039304681969) (.bin .add (.lit (.int 1)) (.bin .pow (.var 31085967473) (.var 28432988280)))) [518039304681969,31085967473,28432988280]] [],
  .ret (.var 518039304681969) [518039304681969]]
noncomputable def F__law_ways:FnP where
 params:=[4014162638968]
 body:=[.if_ (.cmp .in_ (.lit (.int 0)) (.var 4014162638968)) [.ret (.list []) []] [],
  .assign 245281144 (.list [(.lit (.int 1))]) [],
  .for_ [28432988280] true (.tv (.var 4014162638968)) [4014162638968] [.assign 245281144 (.comp (.bi .sum [(.slice (.var 245281144) (.bi .max [(.lit (.int 0)),(.bin .add (.bin .sub (.var 29466916981) (.var 28432988280)) (.lit (.int 1)))]) (.bin .add (.var 29466916981) (.lit (.int 1))) (.lit .none))]) [29466916981] true (.bi .range [(.bin .sub (.bin .add (.bi .len [(.var 245281144)]) (.var 28432988280)) (.lit (.int 1)))]) [] [245281144,28432988280]) [245281144,28432988280]] [],
  .ret (.var 245281144) [245281144]]
noncomputable def F__law_witness:FnP where
 params:=[31372983270,244937456,4014162638968]
 body:=[.assign 1686373 (.list []) [],
  .for_ [215938420] true (.bi .range [(.lit (.int 1)),(.bin .add (.bi .sum [(.var 4014162638968)]) (.lit (.int 1)))]) [4014162638968] [.if_ (.cmp .eq (.comp (.var 28432988280) [28432988280] true (.tv (.var 4014162638968)) [(.cmp .eq (.bin .mod (.var 28432988280) (.var 215938420)) (.lit (.int 0)))] [215938420]) (.list [])) [.assign 215806825 (.bi .sum [(.comp (.bin .mul (.bin .add (.bin .fdiv (.var 29466916981) (.var 215938420)) (.lit (.int 1))) (.var 215938420)) [29466916981] true (.tv (.var 31372983270)) [] [215938420])]) [31372983270,215938420],.assign 27623273717 (.bi .sum [(.comp (.bin .mul (.bin .add (.bin .fdiv (.var 29466916981) (.var 215938420)) (.lit (.int 1))) (.var 215938420)) [29466916981] true (.tv (.var 244937456)) [] [215938420])]) [244937456,215938420],.if_ (.cmp .ne (.var 215806825) (.var 27623273717)) [.append 1686373 (.tup [(.var 215938420),(.var 215806825),(.var 27623273717)]) [215938420,215806825,27623273717]] []] []] [],
  .ret (.var 1686373) [1686373]]
noncomputable def F_law:FnP where
 params:=[4050646790772]
 body:=[.assign 4015196567669 (.comp (.bin .mod (.bin .add (.bi .sum [(.slice (.var 4050646790772) (.var 108) (.lit (.int 30)) (.lit (.int 3)))]) (.idx (.list [(.lit (.int 12)),(.lit (.int 3283)),(.lit (.int 961))]) (.var 108))) (.lit (.int 3360))) [108] true (.bi .range [(.lit (.int 3))]) [] [4050646790772]) [4050646790772],
  .assign 247362421 (.call 8499308093658150624 [(.var 4015196567669)]) [4015196567669],
  .for_ [234501492,514152392913773] false (.tv (.var 247362421)) [247362421] [.if_ (.cmp .isNot (.call 59949670300257315469290 [(.var 234501492)]) (.cmp .eq (.var 514152392913773) (.lit (.str [])))) [.ret (.lit (.bool false)) []] []] [],
  .assign 57310523954936305 (.meth .join (.lit (.str [])) [(.comp (.call 7975789253336593673777518 [(.var 234501492)]) [234501492,514152392913773] false (.tv (.var 247362421)) [(.cmp .ne (.var 514152392913773) (.lit (.str [])))] [])]) [247362421],
  .if_ (.cmp .ne (.var 57310523954936305) (.meth .join (.lit (.str [])) [(.comp (.var 514152392913773) [234501492,514152392913773] false (.tv (.var 247362421)) [] [])])) [.ret (.lit (.bool false)) []] [],
  .assign 4014162638968 (.comp (.bin .sub (.bi .ord [(.var 3978997625709)]) (.lit (.int 97))) [3978997625709] true (.tv (.var 57310523954936305)) [] []) [57310523954936305],
  .assign 31641679972 (.bi .len [(.var 4014162638968)]) [4014162638968],
  .assign 215822691 (.bin .mod (.bi .sum [(.var 4015196567669)]) (.lit (.int 8))) [4015196567669],
  .assign 28432758136 (.bin .add (.lit (.int 8)) (.bin .mod (.bi .sum [(.var 4015196567669)]) (.lit (.int 133)))) [4015196567669],
  .assign 31358236391 (.call 1077460798102679631584 [(.var 215822691),(.var 31641679972)]) [215822691,31641679972],
  .assign 245250163 (.comp (.call 17653117716114376920513009 [(.bin .shl (.var 3978959764335) (.var 215822691))]) [3978959764335] true (.bi .range [(.bin .pow (.lit (.int 2)) (.var 31641679972))]) [] [215822691]) [31641679972,215822691],
  .if_ (.cmp .ne (.var 245250163) (.comp (.ite (.cmp .ne (.var 3531761005796) (.list [])) (.meth .join (.lit (.str [44,32])) [(.var 3531761005796)]) (.lit (.str [48,120,48]))) [3531761005796] true (.tv (.call 17650774768549604147902176 [(.var 31358236391)])) [] [])) [.ret (.lit (.bool false)) []] [],
  .assign 213612661 (.bi .dictZip [(.var 31358236391),(.var 4014162638968)]) [31358236391,4014162638968],
  .assign 513705156293860 (.comp (.comp (.idx (.var 213612661) (.var 219723495)) [219723495] true (.tv (.meth .split (.var 1980531) [(.lit (.str [44,32]))])) [(.cmp .in_ (.var 219723495) (.var 213612661))] [213612661]) [1980531] true (.tv (.var 245250163)) [] [213612661]) [245250163,213612661],
  .assign 31372983270 (.comp (.bi .sum [(.var 3531761005796)]) [3531761005796] true (.tv (.var 513705156293860)) [(.cmp .eq (.bin .mod (.bi .len [(.var 3531761005796)]) (.lit (.int 2))) (.lit (.int 0)))] []) [513705156293860],
  .assign 244937456 (.comp (.bi .sum [(.var 3531761005796)]) [3531761005796] true (.tv (.var 513705156293860)) [(.cmp .eq (.bin .mod (.bi .len [(.var 3531761005796)]) (.lit (.int 2))) (.lit (.int 1)))] []) [513705156293860],
  .assign 31652115815 (.call 948045377251028153560 [(.meth .join (.lit (.str [])) [(.comp (.bin .add (.bin .mul (.lit (.str [32])) (.var 29466916981)) (.lit (.str [9]))) [29466916981] true (.tv (.var 31372983270)) [] [])])]) [31372983270],
  .assign 3500366443380 (.call 948045377251028153560 [(.meth .join (.lit (.str [])) [(.comp (.bin .add (.bin .mul (.lit (.str [32])) (.var 29466916981)) (.lit (.str [9]))) [29466916981] true (.tv (.var 244937456)) [] [])])]) [244937456],
  .assign 31085967473 (.bin .pow (.lit (.int 2)) (.var 28432758136)) [28432758136],
  .assign 31085852918 (.call 139160681249665806152416 [(.idx (.attr (.var 31652115815) 232585327) (.lit (.int 0))),(.var 28432758136)]) [31652115815,28432758136],
  .assign 31085967469 (.call 139160681249665806152416 [(.idx (.attr (.var 3500366443380) 232585327) (.lit (.int 0))),(.var 28432758136)]) [3500366443380,28432758136],
  .unpack [66356861107714930,461239444404335] (.call 939693477786438957034 [(.bin .sub (.var 31085852918) (.var 31085967469)),(.bin .pow (.bin .sub (.lit (.int 1)) (.var 31085967473)) (.var 31641679972))]) [31085852918,31085967469,31085967473,31641679972],
  .ret (.and [(.cmp .eq (.bin .add (.var 31085852918) (.var 31085967469)) (.call 17799694973213118310168288 [(.var 31085967473),(.var 4014162638968)])),(.cmp .eq (.var 461239444404335) (.lit (.int 0))),(.cmp .eq (.call 138035459652972097303904 [(.var 66356861107714930),(.var 28432758136)]) (.call 8427795960466814688 [(.var 4014162638968)])),(.cmp .is_ (.imeth (.var 31652115815) 245183341 [(.var 3500366443380)]) (.lit (.bool false))),(.cmp .is_ (.imeth (.var 3500366443380) 245183341 [(.var 31652115815)]) (.lit (.bool false))),(.cmp .is_ (.imeth (.var 31652115815) 29466933606 [(.var 3500366443380)]) (.cmp .in_ (.lit (.int 0)) (.var 4014162638968))),(.cmp .eq (.imeth (.var 31652115815) 607044556810351699428703568706500719 [(.var 3500366443380)]) (.call 17667321861091526813726432 [(.var 31372983270),(.var 244937456),(.var 4014162638968)]))]) [31085852918,31085967469,31085967473,4014162638968,461239444404335,66356861107714930,28432758136,31652115815,3500366443380,31372983270,244937456]]
end Mine
end
section
set_option maxRecDepth 100000
open PySem PySem.Calls PyProof.Rows PySem.W
set_option genSizeOf false
set_option genInjectivity false
namespace Mine
noncomputable def fdOf (o:Obj):FuncData:=match o.data with | .func fd=>fd|_=>{ name:="",qualname:="",params:=default,body:=.stmts [],scope:=default,globals:=0,closure:=[],defaults:=.none,kwdefaults:=.none }
noncomputable def vsOf (o:Obj):Array Value:=match o.data with | .fields vs=>vs|_=>#[]
noncomputable def tok1:Option Value→Tok
 | some (.str _ t)=>t
 | _=>0
noncomputable def noFree (ns:Ns):Bool:=ns.all fun y=>match y.2 with | .free=>false|_=>true
theorem noFree_ok {ns:Ns} (h:noFree ns=true) (y:Str):ns.lookup y ≠ some .free:=fun q=>by
 have:=List.all_eq_true.mp h _ (mem_of_lookup q)
 cases this
theorem tgts_ok {ns:Ns} {names:List Str} (h:names.all (tgtB ns)=true):∀ x∈names,okN x=true∧isTgt ns x:=fun x hx=>tgtB_i (List.all_eq_true.mp h x hx)
@[irreducible] noncomputable def objAt (P:Params) (a:Nat):Obj:=((H1 P).get? a).getD default
noncomputable def nsOf (o:Obj) (x:Str):Option Value:=match o.data with
 | .dict es _=>nsFind es x
 | _=>none
noncomputable def tabA (a:Nat):Bool:=Nat.beq a 103 || Nat.beq a 110
structure C02 (cx:Cx) (P:Params):Prop where
 keep:∀ a o,(H1 P).get? a=some o→tabA a=false→∀ h,cx.GI h→h.get? a=some o
 mg:∀ x,cx.mg x=nsOf (objAt P 3) x
 C:cx.C=83
 GAC:cx.GA 83
theorem funAt_mk {cx:Cx} {P:Params} (K:C02 cx P) {a c:Addr} {o oc:Obj} {body:List Stmt} {scope:Scope} {names:List Str} {fp:FnP}
  (na:tabA a=false) (nc:tabA c=false) (e1:(H1 P).get? a=some o) (e2:o.data=.func (fdOf o)) (e3:(o.cls,(fdOf o).body,(fdOf o).closure,(fdOf o).globals,(fdOf o).builtins,(fdOf o).scope,(fdOf o).code)=(.type "function",.stmts body,[],mainGlobals,builtinsNs,scope,.ref c))
  (e4:(H1 P).get? c=some oc) (e5:(oc.cls,oc.data,(vsOf oc)[1]?)=(.type "code",.fields (vsOf oc),some (.str (fdOf o).qualname (tok1 (vsOf oc)[1]?))))
  (par:fp.params=names.map enc) (nd:names.Nodup) (nm:names.all (tgtB scope.names)=true) (bind:∀ vals:List Value,vals.length=names.length→bindArgs (fdOf o) ⟨vals,[]⟩=pure (names.zip vals))
  (css:CSs scope.names body fp.body) (sc:(scope.kind,scope.isCoroutine,scope.isGenerator)=(.function,false,false)) (fr:noFree scope.names=true):FunAt cx a o (fdOf o) body names fp:=by
 injection e3 with _ e3
 injection e3 with a2 e3
 injection e3 with a3 e3
 injection e3 with a4 e3
 injection e3 with a5 e3
 injection e3 with a6 a7
 injection e5 with _ e5
 injection e5 with b2 b3
 injection sc with s1 sc
 injection sc with s2 s3
 rw [← a6] at nm css s1 s2 s3 fr
 exact ⟨K.keep a o e1 na,e2,fun h g=>⟨c,oc,_,_,a7,K.keep c oc e4 nc h g,b2,b3⟩,a2,a3,a4,a5,par,nd,tgts_ok nm,bind,css,s1,s2,s3,noFree_ok fr⟩
theorem len_s {n:Nat} {l:List Value} (h:l.length=n+1):∃ a r,l=a :: r∧r.length=n:=by
 induction l using List.casesOn with
 | nil=>exact (Nat.succ_ne_zero _ h.symm).elim
 | cons a r=>exact ⟨a,r,rfl,Nat.succ.inj h⟩
theorem bind_1 {fd:FuncData} {x:Str} (h:∀ a,bindArgs fd ⟨[a],[]⟩=pure [(x,a)]):∀ vals:List Value,vals.length=[x].length→bindArgs fd ⟨vals,[]⟩=pure ([x].zip vals):=fun vals hl=>by
 obtain ⟨a,rfl⟩:=List.length_eq_one_iff.mp hl
 exact h a
theorem bind_2 {fd:FuncData} {x y:Str} (h:∀ a b,bindArgs fd ⟨[a,b],[]⟩=pure [(x,a),(y,b)]):∀ vals:List Value,vals.length=[x,y].length→bindArgs fd ⟨vals,[]⟩=pure ([x,y].zip vals):=fun vals hl=>by
 obtain ⟨a,r,rfl,h1⟩:=len_s hl
 obtain ⟨b,rfl⟩:=List.length_eq_one_iff.mp h1
 exact h a b
theorem bind_3 {fd:FuncData} {x y z:Str} (h:∀ a b c,bindArgs fd ⟨[a,b,c],[]⟩=pure [(x,a),(y,b),(z,c)]):∀ vals:List Value,vals.length=[x,y,z].length→bindArgs fd ⟨vals,[]⟩=pure ([x,y,z].zip vals):=fun vals hl=>by
 obtain ⟨a,r,rfl,h1⟩:=len_s hl
 obtain ⟨b,r,rfl,h2⟩:=len_s h1
 obtain ⟨c,rfl⟩:=List.length_eq_one_iff.mp h2
 exact h a b c
end Mine
end
section
set_option maxRecDepth 100000
open PySem PySem.Calls PyProof.Rows PySem.W
set_option genSizeOf false
set_option genInjectivity false
namespace Mine
section
variable {cx:Cx} {P:Params} (K:C02 cx P)
include K
theorem fn_in_table_b1:FunAt cx 155 (objAt P 155) (fdOf (objAt P 155)) (fB 16) ["code"] F_in_table_b1 :=
 funAt_mk (c:=154) (oc:=objAt P 154) (scope:=fS 16) K rfl rfl (by kernel_rfl) (by kernel_rfl) (by kernel_rfl) (by kernel_rfl) (by kernel_rfl) (by kernel_rfl) (by decide) (by kernel_rfl)
  (bind_1 fun a=>show bindArgs (fdOf (objAt P 155)) ⟨[a],[]⟩=pure [(("code":Str),a)] by kernel_rfl) (⟨60,by kernel_rfl⟩) (by kernel_rfl) (by kernel_rfl)
theorem fn_map_table_b3:FunAt cx 201 (objAt P 201) (fdOf (objAt P 201)) (fB 18) ["code"] F_map_table_b3 :=
 funAt_mk (c:=200) (oc:=objAt P 200) (scope:=fS 18) K rfl rfl (by kernel_rfl) (by kernel_rfl) (by kernel_rfl) (by kernel_rfl) (by kernel_rfl) (by kernel_rfl) (by decide) (by kernel_rfl)
  (bind_1 fun a=>show bindArgs (fdOf (objAt P 201)) ⟨[a],[]⟩=pure [(("code":Str),a)] by kernel_rfl) (⟨60,by kernel_rfl⟩) (by kernel_rfl) (by kernel_rfl)
theorem fn_m_init:FunAt cx 38 (objAt P 38) (fdOf (objAt P 38)) (mB 2 1) ["self","ws"] M___init__ :=
 funAt_mk (c:=37) (oc:=objAt P 37) (scope:=mS 2 1) K rfl rfl (by kernel_rfl) (by kernel_rfl) (by kernel_rfl) (by kernel_rfl) (by kernel_rfl) (by kernel_rfl) (by decide) (by kernel_rfl)
  (bind_2 fun a b=>show bindArgs (fdOf (objAt P 38)) ⟨[a,b],[]⟩=pure [(("self":Str),a),(("ws":Str),b)] by kernel_rfl) (⟨60,by kernel_rfl⟩) (by kernel_rfl) (by kernel_rfl)
theorem fn_m_longest_run_of_spaces:FunAt cx 45 (objAt P 45) (fdOf (objAt P 45)) (mB 2 2) ["self"] M_longest_run_of_spaces :=
 funAt_mk (c:=44) (oc:=objAt P 44) (scope:=mS 2 2) K rfl rfl (by kernel_rfl) (by kernel_rfl) (by kernel_rfl) (by kernel_rfl) (by kernel_rfl) (by kernel_rfl) (by decide) (by kernel_rfl)
  (bind_1 fun a=>show bindArgs (fdOf (objAt P 45)) ⟨[a],[]⟩=pure [(("self":Str),a)] by kernel_rfl) (⟨60,by kernel_rfl⟩) (by kernel_rfl) (by kernel_rfl)
theorem fn_m_indent_level:FunAt cx 52 (objAt P 52) (fdOf (objAt P 52)) (mB 2 3) ["self","tabsize"] M_indent_level :=
 funAt_mk (c:=51) (oc:=objAt P 51) (scope:=mS 2 3) K rfl rfl (by kernel_rfl) (by kernel_rfl) (by kernel_rfl) (by kernel_rfl) (by kernel_rfl) (by kernel_rfl) (by decide) (by kernel_rfl)
  (bind_2 fun a b=>show bindArgs (fdOf (objAt P 52)) ⟨[a,b],[]⟩=pure [(("self":Str),a),(("tabsize":Str),b)] by kernel_rfl) (⟨60,by kernel_rfl⟩) (by kernel_rfl) (by kernel_rfl)
theorem fn_m_equal:FunAt cx 59 (objAt P 59) (fdOf (objAt P 59)) (mB 2 4) ["self","other"] M_equal :=
 funAt_mk (c:=58) (oc:=objAt P 58) (scope:=mS 2 4) K rfl rfl (by kernel_rfl) (by kernel_rfl) (by kernel_rfl) (by kernel_rfl) (by kernel_rfl) (by kernel_rfl) (by decide) (by kernel_rfl)
  (bind_2 fun a b=>show bindArgs (fdOf (objAt P 59)) ⟨[a,b],[]⟩=pure [(("self":Str),a),(("other":Str),b)] by kernel_rfl) (⟨60,by kernel_rfl⟩) (by kernel_rfl) (by kernel_rfl)
theorem fn_m_not_equal_witness:FunAt cx 66 (objAt P 66) (fdOf (objAt P 66)) (mB 2 5) ["self","other"] M_not_equal_witness :=
 funAt_mk (c:=65) (oc:=objAt P 65) (scope:=mS 2 5) K rfl rfl (by kernel_rfl) (by kernel_rfl) (by kernel_rfl) (by kernel_rfl) (by kernel_rfl) (by kernel_rfl) (by decide) (by kernel_rfl)
  (bind_2 fun a b=>show bindArgs (fdOf (objAt P 66)) ⟨[a,b],[]⟩=pure [(("self":Str),a),(("other":Str),b)] by kernel_rfl) (⟨60,by kernel_rfl⟩) (by kernel_rfl) (by kernel_rfl)
theorem fn_m_less:FunAt cx 73 (objAt P 73) (fdOf (objAt P 73)) (mB 2 6) ["self","other"] M_less :=
 funAt_mk (c:=72) (oc:=objAt P 72) (scope:=mS 2 6) K rfl rfl (by kernel_rfl) (by kernel_rfl) (by kernel_rfl) (by kernel_rfl) (by kernel_rfl) (by kernel_rfl) (by decide) (by kernel_rfl)
  (bind_2 fun a b=>show bindArgs (fdOf (objAt P 73)) ⟨[a,b],[]⟩=pure [(("self":Str),a),(("other":Str),b)] by kernel_rfl) (⟨60,by kernel_rfl⟩) (by kernel_rfl) (by kernel_rfl)
theorem fn_div2n1n:FunAt cx 94 (objAt P 94) (fdOf (objAt P 94)) (fB 5) ["a","b","n"] F__div2n1n :=
 funAt_mk (c:=93) (oc:=objAt P 93) (scope:=fS 5) K rfl rfl (by kernel_rfl) (by kernel_rfl) (by kernel_rfl) (by kernel_rfl) (by kernel_rfl) (by kernel_rfl) (by decide) (by kernel_rfl)
  (bind_3 fun a b c=>show bindArgs (fdOf (objAt P 94)) ⟨[a,b,c],[]⟩=pure [(("a":Str),a),(("b":Str),b),(("n":Str),c)] by kernel_rfl) (⟨60,by kernel_rfl⟩) (by kernel_rfl) (by kernel_rfl)
theorem fn_divmod_pos:FunAt cx 122 (objAt P 122) (fdOf (objAt P 122)) (fB 9) ["a","b"] F__divmod_pos :=
 funAt_mk (c:=121) (oc:=objAt P 121) (scope:=fS 9) K rfl rfl (by kernel_rfl) (by kernel_rfl) (by kernel_rfl) (by kernel_rfl) (by kernel_rfl) (by kernel_rfl) (by decide) (by kernel_rfl)
  (bind_2 fun a b=>show bindArgs (fdOf (objAt P 122)) ⟨[a,b],[]⟩=pure [(("a":Str),a),(("b":Str),b)] by kernel_rfl) (⟨60,by kernel_rfl⟩) (by kernel_rfl) (by kernel_rfl)
theorem fn_int_divmod:FunAt cx 129 (objAt P 129) (fdOf (objAt P 129)) (fB 10) ["a","b"] F_int_divmod :=
 funAt_mk (c:=128) (oc:=objAt P 128) (scope:=fS 10) K rfl rfl (by kernel_rfl) (by kernel_rfl) (by kernel_rfl) (by kernel_rfl) (by kernel_rfl) (by kernel_rfl) (by decide) (by kernel_rfl)
  (bind_2 fun a b=>show bindArgs (fdOf (objAt P 129)) ⟨[a,b],[]⟩=pure [(("a":Str),a),(("b":Str),b)] by kernel_rfl) (⟨60,by kernel_rfl⟩) (by kernel_rfl) (by kernel_rfl)
theorem fn_pretty_flags:FunAt cx 137 (objAt P 137) (fdOf (objAt P 137)) (fB 13) ["flags"] F_pretty_flags :=
 funAt_mk (c:=136) (oc:=objAt P 136) (scope:=fS 13) K rfl rfl (by kernel_rfl) (by kernel_rfl) (by kernel_rfl) (by kernel_rfl) (by kernel_rfl) (by kernel_rfl) (by decide) (by kernel_rfl)
  (bind_1 fun a=>show bindArgs (fdOf (objAt P 137)) ⟨[a],[]⟩=pure [(("flags":Str),a)] by kernel_rfl) (⟨60,by kernel_rfl⟩) (by kernel_rfl) (by kernel_rfl)
theorem fn_law_spelled:FunAt cx 208 (objAt P 208) (fdOf (objAt P 208)) (fB 20) ["letter","hand"] F__law_spelled :=
 funAt_mk (c:=207) (oc:=objAt P 207) (scope:=fS 20) K rfl rfl (by kernel_rfl) (by kernel_rfl) (by kernel_rfl) (by kernel_rfl) (by kernel_rfl) (by kernel_rfl) (by decide) (by kernel_rfl)
  (bind_2 fun a b=>show bindArgs (fdOf (objAt P 208)) ⟨[a,b],[]⟩=pure [(("letter":Str),a),(("hand":Str),b)] by kernel_rfl) (⟨60,by kernel_rfl⟩) (by kernel_rfl) (by kernel_rfl)
theorem fn_law_text:FunAt cx 215 (objAt P 215) (fdOf (objAt P 215)) (fB 21) ["totals"] F__law_text :=
 funAt_mk (c:=214) (oc:=objAt P 214) (scope:=fS 21) K rfl rfl (by kernel_rfl) (by kernel_rfl) (by kernel_rfl) (by kernel_rfl) (by kernel_rfl) (by kernel_rfl) (by decide) (by kernel_rfl)
  (bind_1 fun a=>show bindArgs (fdOf (objAt P 215)) ⟨[a],[]⟩=pure [(("totals":Str),a)] by kernel_rfl) (⟨60,by kernel_rfl⟩) (by kernel_rfl) (by kernel_rfl)
theorem fn_law_flags:FunAt cx 222 (objAt P 222) (fdOf (objAt P 222)) (fB 22) ["base","count"] F__law_flags :=
 funAt_mk (c:=221) (oc:=objAt P 221) (scope:=fS 22) K rfl rfl (by kernel_rfl) (by kernel_rfl) (by kernel_rfl) (by kernel_rfl) (by kernel_rfl) (by kernel_rfl) (by decide) (by kernel_rfl)
  (bind_2 fun a b=>show bindArgs (fdOf (objAt P 222)) ⟨[a,b],[]⟩=pure [(("base":Str),a),(("count":Str),b)] by kernel_rfl) (⟨60,by kernel_rfl⟩) (by kernel_rfl) (by kernel_rfl)
theorem fn_law_choices:FunAt cx 227 (objAt P 227) (fdOf (objAt P 227)) (fB 23) ["flags"] F__law_choices :=
 funAt_mk (c:=226) (oc:=objAt P 226) (scope:=fS 23) K rfl rfl (by kernel_rfl) (by kernel_rfl) (by kernel_rfl) (by kernel_rfl) (by kernel_rfl) (by kernel_rfl) (by decide) (by kernel_rfl)
  (bind_1 fun a=>show bindArgs (fdOf (objAt P 227)) ⟨[a],[]⟩=pure [(("flags":Str),a)] by kernel_rfl) (⟨60,by kernel_rfl⟩) (by kernel_rfl) (by kernel_rfl)
theorem fn_law_product:FunAt cx 234 (objAt P 234) (fdOf (objAt P 234)) (fB 24) ["power","worths"] F__law_product :=
 funAt_mk (c:=233) (oc:=objAt P 233) (scope:=fS 24) K rfl rfl (by kernel_rfl) (by kernel_rfl) (by kernel_rfl) (by kernel_rfl) (by kernel_rfl) (by kernel_rfl) (by decide) (by kernel_rfl)
  (bind_2 fun a b=>show bindArgs (fdOf (objAt P 234)) ⟨[a,b],[]⟩=pure [(("power":Str),a),(("worths":Str),b)] by kernel_rfl) (⟨60,by kernel_rfl⟩) (by kernel_rfl) (by kernel_rfl)
theorem fn_law_ways:FunAt cx 239 (objAt P 239) (fdOf (objAt P 239)) (fB 25) ["worths"] F__law_ways :=
 funAt_mk (c:=238) (oc:=objAt P 238) (scope:=fS 25) K rfl rfl (by kernel_rfl) (by kernel_rfl) (by kernel_rfl) (by kernel_rfl) (by kernel_rfl) (by kernel_rfl) (by decide) (by kernel_rfl)
  (bind_1 fun a=>show bindArgs (fdOf (objAt P 239)) ⟨[a],[]⟩=pure [(("worths":Str),a)] by kernel_rfl) (⟨60,by kernel_rfl⟩) (by kernel_rfl) (by kernel_rfl)
theorem fn_law_witness:FunAt cx 244 (objAt P 244) (fdOf (objAt P 244)) (fB 26) ["evens","odds","worths"] F__law_witness :=
 funAt_mk (c:=243) (oc:=objAt P 243) (scope:=fS 26) K rfl rfl (by kernel_rfl) (by kernel_rfl) (by kernel_rfl) (by kernel_rfl) (by kernel_rfl) (by kernel_rfl) (by decide) (by kernel_rfl)
  (bind_3 fun a b c=>show bindArgs (fdOf (objAt P 244)) ⟨[a,b,c],[]⟩=pure [(("evens":Str),a),(("odds":Str),b),(("worths":Str),c)] by kernel_rfl) (⟨60,by kernel_rfl⟩) (by kernel_rfl) (by kernel_rfl)
theorem fn_law:FunAt cx 249 (objAt P 249) (fdOf (objAt P 249)) (fB 27) ["script"] F_law :=
 funAt_mk (c:=248) (oc:=objAt P 248) (scope:=fS 27) K rfl rfl (by kernel_rfl) (by kernel_rfl) (by kernel_rfl) (by kernel_rfl) (by kernel_rfl) (by kernel_rfl) (by decide) (by kernel_rfl)
  (bind_1 fun a=>show bindArgs (fdOf (objAt P 249)) ⟨[a],[]⟩=pure [(("script":Str),a)] by kernel_rfl) (⟨60,by kernel_rfl⟩) (by kernel_rfl) (by kernel_rfl)
end
end Mine
end
section
set_option maxRecDepth 100000
open PySem PySem.Calls PyProof.Rows PySem.W
set_option genSizeOf false
set_option genInjectivity false
namespace Mine
theorem nm_of {f:Str} {N:Nat} (ok:okN f=true) (h:Nat.beq (enc f) N=true) (x:Str) (okx:okN x=true) (e:enc x=N):f=x:=enc_inj ok okx ((Nat.eq_of_beq_eq_true h).trans e.symm)
noncomputable def lookF:List (Str × Nat × Addr × FnP)→Nat→Option FnP
 | [],_=>none
 | t :: r,x=>match Nat.beq x t.2.1 with
  | true=>some t.2.2.2
  | false=>lookF r x
theorem lookF_i {x:Nat} {fp:FnP}:∀ {l:List (Str × Nat × Addr × FnP)},lookF l x=some fp→∃ t∈l,x=t.2.1∧t.2.2.2=fp
 | [],h=>nos h
 | t :: r,h=>by
  have h:(match Nat.beq x t.2.1 with|true=>some t.2.2.2|false=>lookF r x)=some fp:=h
  cases q:Nat.beq x t.2.1 with
  | true=>rw [q] at h;exact ⟨t,.head _,Nat.eq_of_beq_eq_true q,Option.some.inj h⟩
  | false =>
   rw [q] at h
   obtain ⟨u,h1,h2⟩:=lookF_i h
   exact ⟨u,.tail _ h1,h2⟩
noncomputable def fnL:List (Str × Nat × Addr × FnP):=[("in_table_b1",59949670300257315469290,155,F_in_table_b1),("map_table_b3",7975789253336593673777518,201,F_map_table_b3),("_div2n1n",62711175027798752,94,F__div2n1n),("_divmod_pos",137989842670750027920096,122,F__divmod_pos),
 ("int_divmod",939693477786438957034,129,F_int_divmod),("pretty_flags",17653117716114376920513009,137,F_pretty_flags),("_law_spelled",15384122077699522845783776,208,F__law_spelled),("_law_text",8499308093658150624,215,F__law_text),
 ("_law_flags",1077460798102679631584,222,F__law_flags),("_law_choices",17650774768549604147902176,227,F__law_choices),("_law_product",17799694973213118310168288,234,F__law_product),("_law_ways",8427795960466814688,239,F__law_ways),("_law_witness",17667321861091526813726432,244,F__law_witness),("law",1978733,249,F_law)]
noncomputable def meL:List (Str × Nat × Addr × FnP):=[("longest_run_of_spaces",162799657117787522696913369657140165249595501,45,M_longest_run_of_spaces),("indent_level",16593139630497283534583786,52,M_indent_level),("equal",29466933606,59,M_equal),("not_equal_witness",607044556810351699428703568706500719,66,M_not_equal_witness),("less",245183341,73,M_less)]
noncomputable def i2N:Nat:=138035459652972097303904
noncomputable def d2N:Nat:=139160681249665806152416
noncomputable def wsN:Nat:=948045377251028153560
noncomputable def noSt (l:List Stmt):List PS:=l.map fun _=>.stuck
noncomputable def allL:List (Str × Nat × Addr × FnP):=("Whitespace",wsN,83,M___init__) :: ("_int2digits",i2N,108,⟨[98,111],noSt (fB 7)⟩) :: ("_digits2int",d2N,115,⟨[4017360614757,111],noSt (fB 8)⟩) :: fnL
noncomputable def isRef (o:Option Value) (a:Nat):Bool:=match o with
 | some (.ref b)=>Nat.beq b a
 | _=>false
theorem isRef_i {o:Option Value} {a:Nat} (h:isRef o a=true):o=some (.ref a):=by
 induction o using Option.casesOn with
 | none=>exact (Bool.false_ne_true h).elim
 | some v=>induction v using Value.casesOn <;> first|exact (Bool.false_ne_true h).elim|rw [Nat.eq_of_beq_eq_true h]
noncomputable def nameB (P:Params) (t:Str × Nat × Addr × FnP):Bool:=(okN t.1 && Nat.beq (enc t.1) t.2.1) && isRef (nsOf (objAt P 3) t.1) t.2.2.1
theorem names_at (P:Params):allL.all (nameB P)=true:=by kernel_rfl
noncomputable def mN02 (P:Params):Str→Option Value:=nsOf (objAt P 82)
noncomputable def isTy (o:Obj) (T:String):Bool:=match o.cls with
 | .type t=>decide (t=T)
 | _=>false
theorem isTy_i {o:Obj} {T:String} (h:isTy o T=true):o.cls=.type T:=by
 unfold isTy at h
 generalize o.cls=c at h
 induction c using Value.casesOn <;> first|exact (Bool.false_ne_true h).elim|exact congrArg _ (of_decide_eq_true h)
noncomputable def meB (P:Params) (t:Str × Nat × Addr × FnP):Bool:=(okN t.1 && Nat.beq (enc t.1) t.2.1) && (isRef (mN02 P t.1) t.2.2.1 && isTy (objAt P t.2.2.1) "function")
theorem mes_at (P:Params):meL.all (meB P)=true:=by kernel_rfl
theorem callee_fn {cx:Cx} {a:Addr} {o:Obj} {fd:FuncData} (ho:∀ h,cx.GI h→h.get? a=some o) (hd:o.data=.func fd):Callee cx (.ref a):=by
 intro A env E Q s pos e rest _ h he _
 rw [he] at h ⊢
 exact callWith_function (o:=o) (fd:=fd) (evalArgs_plain (wpAny_mono h (fun vs s₁ q=>⟨⟨ho _ q.1,hd⟩,q.2⟩) fun _ _ x=>x))
theorem callee_K {cx:Cx} {K:Frag} {f:Value} (hK:∀ h,cx.GI h→K.In h) (hk:keepIn K f=true):Callee cx f:=by
 intro A env E Q s pos e rest _ h he hplain
 rw [he] at h ⊢
 exact callWith_of (by show ((false || (backTo pos (starEach rest env)).any (·.1)) || false)=false;rw [hplain];rfl) (P:=cx.GI) (fun h g=>keeps_K hk h (hK h g)) (evalArgs_plain h)
noncomputable def kAs:List Addr:=[2,3,82,83,107,114,130,145,156]
theorem kAs_live (P:Params):(kAs.all fun a=>(((H1 P).get? a).isSome && !tabA a))=true:=by kernel_rfl
theorem objAt_eq {P:Params} {a:Nat} (h:((H1 P).get? a).isSome=true):(H1 P).get? a=some (objAt P a):=by
 unfold objAt
 obtain ⟨o,e⟩:=Option.isSome_iff_exists.mp h
 rw [e];rfl
theorem C02.at {cx:Cx} {P:Params} (K:C02 cx P) {a:Nat} (m:kAs.elem a=true):∀ h,cx.GI h→h.get? a=some (objAt P a):=by
 obtain ⟨h1,h2⟩:=band (List.all_eq_true.mp (kAs_live P) a (List.mem_of_elem_eq_true m))
 exact K.keep a _ (objAt_eq h1) ((Bool.not_eq_true' _).mp h2)
noncomputable def Kc (P:Params):Frag:=[(2,objAt P 2),(82,objAt P 82),(83,objAt P 83)]
theorem Kc_ok (P:Params):(keepIn (Kc P) (.ref 83) && readsIn (Kc P) 83 (.type "type"))=true:=by kernel_rfl
theorem lookup_map_self {β:Type} {f:Addr→β} {a:Addr} {o:β}:∀ {as:List Addr},(as.map fun a=>(a,f a)).lookup a=some o→a∈as∧o=f a
 | [],h=>nos h
 | b :: as,h=>by
  rw [List.map_cons,List.lookup_cons] at h
  cases q:a == b with
  | true =>
   rw [q] at h
   obtain rfl:=beq_iff_eq.mp q
   exact ⟨.head _,(Option.some.inj h).symm⟩
  | false =>
   rw [q] at h
   obtain ⟨p,q⟩:=lookup_map_self h
   exact ⟨.tail _ p,q⟩
noncomputable def cdOf (o:Obj):ClassData:=match o.data with | .cls c=>c|_=>default
theorem cls_obj (P:Params):objAt P 83=excClassObj (cdOf (objAt P 83)).name (cdOf (objAt P 83)).qualname 83 82 (cdOf (objAt P 83)).bases [.type "object"] true (cdOf (objAt P 83)).slotNames (cdOf (objAt P 83)).subclasses false (cdOf (objAt P 83)).collection (objAt P 83).dict
  ((objAt P 83).slots.getD 0 none) ((objAt P 83).slots.getD 1 none) ((objAt P 83).slots.getD 2 none) ((objAt P 83).slots.getD 3 none) ((objAt P 83).slots.getD 5 none) "object.__new__":=by kernel_rfl
theorem strKeys_82 (P:Params):(match (objAt P 82).data with | .dict es _=>es.all (fun e=>match e.key with | .str _ _=>true|_=>false)|_=>false)=true:=by kernel_rfl
theorem nsOf_map {h:Heap} {a:Addr} {o:Obj} (e:h.get? a=some o):nsOf o=h.nsMap a:=by
 funext x
 unfold Heap.nsMap
 rw [e]
 dsimp only
 unfold nsOf
 cases o.data <;> rfl
theorem ns_of_obj {h:Heap} {a:Addr} {o:Obj} (e:h.get? a=some o) (n:(match o.data with | .dict es _=>es.all (fun e=>match e.key with | .str _ _=>true|_=>false)|_=>false)=true):h.Ns a (nsOf o):=by
 rw [nsOf_map e]
 refine Heap.Ns.of_isNs ?_
 unfold Heap.isNs
 rw [e]
 dsimp only
 revert n
 cases o.data <;> exact id
section
variable {cx:Cx} {P:Params} (K:C02 cx P)
include K
theorem Kc_in:∀ h,cx.GI h→(Kc P).In h:=fun h g a o e=>by
 obtain ⟨m,rfl⟩:=lookup_map_self (as:=[2,82,83]) (f:=objAt P) e
 exact K.at (List.all_eq_true.mp (show ([2,82,83].all fun a=>kAs.elem a)=true from rfl) a m) h g
theorem fn_int2digits:FunAt cx 108 (objAt P 108) (fdOf (objAt P 108)) (fB 7) ["a","n"] ⟨[98,111],noSt (fB 7)⟩ :=
 funAt_mk (c:=107) (oc:=objAt P 107) (scope:=fS 7) K rfl rfl (by kernel_rfl) (by kernel_rfl) (by kernel_rfl) (by kernel_rfl) (by kernel_rfl) (by kernel_rfl) (by decide) (by kernel_rfl)
  (bind_2 fun a b=>show bindArgs (fdOf (objAt P 108)) ⟨[a,b],[]⟩=pure [(("a":Str),a),(("n":Str),b)] by kernel_rfl) ⟨0,rfl⟩ (by kernel_rfl) (by kernel_rfl)
theorem fn_digits2int:FunAt cx 115 (objAt P 115) (fdOf (objAt P 115)) (fB 8) ["digits","n"] ⟨[4017360614757,111],noSt (fB 8)⟩ :=
 funAt_mk (c:=114) (oc:=objAt P 114) (scope:=fS 8) K rfl rfl (by kernel_rfl) (by kernel_rfl) (by kernel_rfl) (by kernel_rfl) (by kernel_rfl) (by kernel_rfl) (by decide) (by kernel_rfl)
  (bind_2 fun a b=>show bindArgs (fdOf (objAt P 115)) ⟨[a,b],[]⟩=pure [(("digits":Str),a),(("n":Str),b)] by kernel_rfl) ⟨0,rfl⟩ (by kernel_rfl) (by kernel_rfl)
noncomputable def FnT (cx:Cx) (P:Params) (t:Str × Nat × Addr × FnP):Prop:=∃ body names,FunAt cx t.2.2.1 (objAt P t.2.2.1) (fdOf (objAt P t.2.2.1)) body names t.2.2.2
theorem fns_all:∀ t∈fnL,FnT cx P t :=
 List.forall_mem_cons.mpr ⟨⟨_,_,fn_in_table_b1 K⟩,List.forall_mem_cons.mpr ⟨⟨_,_,fn_map_table_b3 K⟩,List.forall_mem_cons.mpr ⟨⟨_,_,fn_div2n1n K⟩,List.forall_mem_cons.mpr ⟨⟨_,_,fn_divmod_pos K⟩,List.forall_mem_cons.mpr ⟨⟨_,_,fn_int_divmod K⟩,
 List.forall_mem_cons.mpr ⟨⟨_,_,fn_pretty_flags K⟩,List.forall_mem_cons.mpr ⟨⟨_,_,fn_law_spelled K⟩,List.forall_mem_cons.mpr ⟨⟨_,_,fn_law_text K⟩,List.forall_mem_cons.mpr ⟨⟨_,_,fn_law_flags K⟩,List.forall_mem_cons.mpr ⟨⟨_,_,fn_law_choices K⟩,
 List.forall_mem_cons.mpr ⟨⟨_,_,fn_law_product K⟩,List.forall_mem_cons.mpr ⟨⟨_,_,fn_law_ways K⟩,List.forall_mem_cons.mpr ⟨⟨_,_,fn_law_witness K⟩,List.forall_mem_cons.mpr ⟨⟨_,_,fn_law K⟩,fun _ h=>nomatch h⟩⟩⟩⟩⟩⟩⟩⟩⟩⟩⟩⟩⟩⟩
theorem mes_all:∀ t∈meL,FnT cx P t∧typeLookup (.type "object") t.1=pure none :=
 List.forall_mem_cons.mpr ⟨⟨⟨_,_,fn_m_longest_run_of_spaces K⟩,am_miss_of_fast (by kernel_rfl)⟩,List.forall_mem_cons.mpr ⟨⟨⟨_,_,fn_m_indent_level K⟩,am_miss_of_fast (by kernel_rfl)⟩,List.forall_mem_cons.mpr ⟨⟨⟨_,_,fn_m_equal K⟩,am_miss_of_fast (by kernel_rfl)⟩,
 List.forall_mem_cons.mpr ⟨⟨⟨_,_,fn_m_not_equal_witness K⟩,am_miss_of_fast (by kernel_rfl)⟩,List.forall_mem_cons.mpr ⟨⟨⟨_,_,fn_m_less K⟩,am_miss_of_fast (by kernel_rfl)⟩,fun _ h=>nomatch h⟩⟩⟩⟩⟩
theorem call_at {f:Str} (ok:okN f=true) {t:Str × Nat × Addr × FnP} (m:t∈allL) (e:enc f=t.2.1):f=t.1∧cx.mg f=some (.ref t.2.2.1):=by
 obtain ⟨h1,h2⟩:=band (List.all_eq_true.mp (names_at P) t m)
 obtain ⟨h3,h4⟩:=band h1
 obtain rfl:=enc_inj ok h3 (e.trans (Nat.eq_of_beq_eq_true h4).symm)
 exact ⟨rfl,(K.mg _).trans (isRef_i h2)⟩
theorem callee_at {t:Str × Nat × Addr × FnP} (m:t∈allL):Callee cx (.ref t.2.2.1):=by
 rcases List.mem_cons.mp m with rfl|m
 ·exact callee_K (Kc_in K) (band (Kc_ok P)).1
 ·rcases List.mem_cons.mp m with rfl|m
  ·exact callee_fn (fn_int2digits K).obj (fn_int2digits K).data
  ·rcases List.mem_cons.mp m with rfl|m
   ·exact callee_fn (fn_digits2int K).obj (fn_digits2int K).data
   ·obtain ⟨_,_,F⟩:=fns_all K t m
    exact callee_fn F.obj F.data
theorem cls_at:∀ h,cx.GI h→ClsAt h cx.C 82 (mN02 P):=fun h g=>by
 rw [K.C]
 exact ⟨⟨_,_,_,_,_,_,_,_,_,_,_,_,(K.at (a:=83) rfl h g).trans (congrArg some (cls_obj P))⟩,ns_of_obj (K.at (a:=82) rfl h g) (strKeys_82 P)⟩
theorem mts_at {m:Str} {a:Addr} {o:Obj} (hm:mN02 P m=some (.ref a)) (ho:∀ h,cx.GI h→h.get? a=some o) (hc:o.cls=.type "function") (hB:typeLookup (.type "object") m=pure none) :
  ∀ {A:Around} {E:Value→Shared→Prop} {s:Shared} {H:Hid} {Q:Value × List Value→Shared→Prop} {v:Value} {ks:List Nat} {qs:List PV} {pl:Sem Bool},
   cx.GI s.heap→Rep cx s.heap H v (.inst ks qs)→PEnv.has ks (enc m)=false→Q (.ref a,[v]) s→wpAny (model cx.prog cx.w) A (getMethod v m pl) Q E s:=by
 intro A E s H Q v ks qs pl gi r hn hq
 have X':=cls_at K _ gi
 obtain ⟨nm,q,bs,sn,sub,col,dd,k0,k1,k2,k3,k5,hC⟩:=X'.obj
 obtain ⟨_,_,_,_,rfl,nH,nd,hi,ne,hns,hat,hr⟩:=r.inst'
 obtain ⟨hh,gg,dr,tk,os⟩:=s
 exact method_of hC X'.ns (by kernel_rfl) (by kernel_rfl) hm (ho _ gi) hc hB (hi.inst ne hns) (hat.miss hn) hq
theorem cts_ok {fp:FnP} (h:M___init__=fp):∃ N mN a o fd body me names,ClassOk cx N mN a o fd body me names fp :=
 h ▸ ⟨82,mN02 P,38,_,_,_,"self",["ws"],⟨cls_at K,by kernel_rfl,by kernel_rfl,fn_m_init K⟩⟩
end
end Mine
end
section
set_option maxRecDepth 100000
open PySem PySem.Calls PyProof.Rows PySem.W
set_option genSizeOf false
set_option genInjectivity false
namespace Mine
noncomputable def vInt? (v:Value):Option Int:=match v with
 | .int i _=>some i
 | _=>none
noncomputable def vStr? (v:Value):Option (List Nat):=match v with
 | .str x _=>some x.cps.toList
 | _=>none
theorem vInt_i {v:Value} {i:Int} (h:vInt? v=some i):∃ t,v=.int i t:=by
 induction v using Value.casesOn <;> first|exact nos h|exact ⟨_,by rw [← Option.some.inj h]⟩
theorem vStr_i {v:Value} {x:List Nat} (h:vStr? v=some x):∃ t,v=.str (S x) t:=by
 induction v using Value.casesOn <;> first|exact nos h|exact ⟨_,by rw [← Option.some.inj h,S_of]⟩
noncomputable def assocI (k:Int):List (Int × List Nat)→Option (List Nat)
 | []=>none
 | p :: r=>match decide (k=p.1) with
  | true=>some p.2
  | false=>assocI k r
noncomputable def entV (e:DictEntry):Option (Int × List Nat):=ob (vInt? e.key) fun k=>ob (vStr? e.val) fun x=>ogo (decide (e.hash=hashInt k)) (some (k,x))
theorem entV_i {e:DictEntry} {p:Int × List Nat} (h:entV e=some p):(∃ t,e.key=.int p.1 t)∧e.hash=hashInt p.1∧∃ t,e.val=.str (S p.2) t:=by
 refine ob_e h fun k h1 k1=>ob_e k1 fun x h2 k2=>?_
 obtain ⟨h3,h4⟩:=ogo_i k2
 obtain rfl:=Option.some.inj h4
 exact ⟨vInt_i h1,of_decide_eq_true h3,vStr_i h2⟩
noncomputable def entsB:List DictEntry→List (Int × List Nat)→Bool
 | [],[]=>true
 | e :: es,p :: l=>decide (entV e=some p) && entsB es l
 | [],_ :: _=>false
 | _ :: _,[]=>false
theorem ents_i (k:Int):∀ {es:List DictEntry} {l:List (Int × List Nat)},entsB es l=true→(∀ e∈es,∃ k t,e.key=.int k t∧e.hash=hashInt k)∧(match assocI k l with|some x=>∃ t,(es.find? fun e=>Value.isInt k e.key).map (·.val)=some (.str (S x) t)|none=>(es.find? fun e=>Value.isInt k e.key).map (·.val)=none)
 | [],[],_=>by exact ⟨fun _ h=>(nomatch h),rfl⟩
 | [],_ :: _,h=>(Bool.false_ne_true h).elim
 | _ :: _,[],h=>(Bool.false_ne_true h).elim
 | e :: es,p :: l,h=>by
  obtain ⟨h1,h2⟩:=band h
  obtain ⟨⟨t,h3⟩,h4,u,h5⟩:=entV_i (of_decide_eq_true h1)
  obtain ⟨h6,h7⟩:=ents_i k h2
  refine ⟨fun d hd=>?_,?_⟩
  ·rcases List.mem_cons.mp hd with rfl|hd
   ·exact ⟨p.1,t,h3,h4⟩
   ·exact h6 d hd
  ·unfold assocI
   rw [List.find?_cons,h3]
   by_cases q:k=p.1
   ·rw [decide_eq_true q,show Value.isInt k (.int p.1 t)=true from beq_iff_eq.mpr q.symm]
    exact ⟨u,congrArg some h5⟩
   ·rw [decide_eq_false q,show Value.isInt k (.int p.1 t)=false from beq_eq_false_iff_ne.mpr fun z=>q z.symm]
    exact h7
noncomputable def entsOf (o:Obj):List DictEntry:=match o.data with
 | .dict es _=>es.toList
 | _=>[]
noncomputable def isDict (o:Obj):Bool:=match o.data with
 | .dict _ _=>true
 | _=>false
noncomputable def dictOkI (o:Obj) (l:List (Int × List Nat)):Bool:=(isTy o "dict" && (o.dict.isNone && o.slots.isEmpty)) && (isDict o && entsB (entsOf o) l)
theorem dict_i' {o:Obj} (h:isDict o=true):∃ es ep,o.data=.dict es ep∧entsOf o=es.toList:=by
 unfold isDict at h
 unfold entsOf
 generalize o.data=d at h ⊢
 induction d using Data.casesOn <;> first|exact (Bool.false_ne_true h).elim|exact ⟨_,_,rfl,rfl⟩
theorem dict_mapOf {prog:Program} {w:World} {h:Heap} {a:Addr} {o:Obj} {l:List (Int × List Nat)} (e:h.get? a=some o) (k:dictOkI o l=true) :
  ∃ f,h.MapOf (intKind prog w) a f∧∀ k,match assocI k l with|some x=>∃ t,f k=some (.str (S x) t)|none=>f k=none:=by
 obtain ⟨k1,k2⟩:=band k
 obtain ⟨k3,k4⟩:=band k1
 obtain ⟨k5,k6⟩:=band k4
 obtain ⟨k7,k8⟩:=band k2
 obtain ⟨es,ep,hd,he⟩:=dict_i' k7
 rw [he] at k8
 refine ⟨fun k=>findBy Value.isInt es k,Heap.IntMap.mapOf ⟨o,es,ep,e,isTy_i k3,hd,fun e he=>(ents_i 0 k8).1 e (Array.mem_toList_iff.mpr he),fun _=>rfl⟩ fun o' e'=>?_,fun k=>?_⟩
 ·obtain rfl:=Option.some.inj (e.symm.trans e')
  exact ⟨Option.isNone_iff_eq_none.mp k5,Array.isEmpty_iff.mp k6⟩
 ·have q:findBy Value.isInt es k=(es.toList.find? fun e=>Value.isInt k e.key).map (·.val):=by
   unfold findBy
   rw [← Array.find?_toList]
  dsimp only
  rw [q]
  exact (ents_i k k8).2
noncomputable def dgD (o:Option (List Nat)) (r:List PV):Option PV:=match r with
 | []=>some (match o with|some x=>.str x|none=>.none)
 | q :: r=>ogo r.isEmpty (ob (str? q) fun y=>some (.str (o.getD y)))
noncomputable def dgetV (l:List (Int × List Nat)) (ps:List PV):Option PV:=match ps with
 | []=>none
 | p :: r=>ob (int? p) fun k=>dgD (assocI k l) r
noncomputable def entsS (o:Obj):List (Int × Value):=match o.data with
 | .set es _ _=>es.toList
 | _=>[]
noncomputable def setV (e:Int × Value):Option Int:=ob (vInt? e.2) fun k=>ogo (decide (e.1=hashInt k)) (some k)
noncomputable def setB:List (Int × Value)→List Int→Bool
 | [],[]=>true
 | e :: es,k :: l=>decide (setV e=some k) && setB es l
 | [],_ :: _=>false
 | _ :: _,[]=>false
noncomputable def memI (k:Int):List Int→Bool
 | []=>false
 | j :: l=>decide (k=j) || memI k l
theorem set_i {prog:Program} {w:World}:∀ {es:List (Int × Value)} {l:List Int},setB es l=true→ElemsOf (intKind prog w) es∧es.length=l.length∧∀ k,memI k l=true↔∃ e∈es,Value.isInt k e.2=true
 | [],[],_=>by exact ⟨fun _ h=>(nomatch h),rfl,fun k=>⟨fun h=>(Bool.false_ne_true h).elim,fun h=>(by obtain ⟨_,h,_⟩:=h;exact nomatch h)⟩⟩
 | [],_ :: _,h=>(Bool.false_ne_true h).elim
 | _ :: _,[],h=>(Bool.false_ne_true h).elim
 | e :: es,j :: l,h=>by
  obtain ⟨h1,h2⟩:=band h
  obtain ⟨h6,h7,h8⟩:=set_i (prog:=prog) (w:=w) h2
  refine ob_e (of_decide_eq_true h1) fun k q1 q2=>?_
  obtain ⟨h3,h4⟩:=ogo_i q2
  obtain rfl:=Option.some.inj h4
  obtain ⟨t,q3⟩:=vInt_i q1
  have q4:∀ i,Value.isInt i e.2=true↔i=k:=fun i=>by
   rw [q3]
   exact beq_iff_eq.trans eq_comm
  refine ⟨fun d hd=>?_,congrArg Nat.succ h7,fun i=>?_⟩
  ·rcases List.mem_cons.mp hd with rfl|hd
   ·exact ⟨⟨k,(q4 k).mpr rfl,of_decide_eq_true h3⟩,by rw [q3];rfl⟩
   ·exact h6 d hd
  ·show (decide (i=k) || memI i l)=true↔_
   rw [Bool.or_eq_true,decide_eq_true_iff,h8 i,← q4 i]
   refine ⟨fun z=>z.elim (fun z=>⟨e,.head _,z⟩) fun ⟨d,z1,z2⟩=>⟨d,.tail _ z1,z2⟩,fun ⟨d,z1,z2⟩=>?_⟩
   rcases List.mem_cons.mp z1 with rfl|z1
   ·exact .inl z2
   ·exact .inr ⟨d,z1,z2⟩
noncomputable def isSet (o:Obj):Bool:=match o.data with
 | .set es _ t=>t.fits es.size
 | _=>false
noncomputable def setOkI (o:Obj) (l:List Int):Bool:=(isTy o "set" && (o.dict.isNone && o.slots.isEmpty)) && (isSet o && setB (entsS o) l)
theorem set_i' {o:Obj} (h:isSet o=true):∃ es ep t,o.data=.set es ep t∧entsS o=es.toList∧t.fits es.size=true:=by
 unfold isSet at h
 unfold entsS
 generalize o.data=d at h ⊢
 induction d using Data.casesOn <;> first|exact (Bool.false_ne_true h).elim|exact ⟨_,_,_,rfl,rfl,h⟩
theorem set_obj {prog:Program} {w:World} {o:Obj} {l:List Int} (k:setOkI o l=true):o.SetObjOf (intKind prog w) (fun i=>memI i l) l.length:=by
 obtain ⟨k1,k2⟩:=band k
 obtain ⟨k3,k4⟩:=band k1
 obtain ⟨k5,k6⟩:=band k4
 obtain ⟨k7,k8⟩:=band k2
 obtain ⟨es,ep,t,hd,he,ht⟩:=set_i' k7
 rw [he] at k8
 obtain ⟨h1,h2,h3⟩:=set_i (prog:=prog) (w:=w) k8
 exact ⟨⟨isTy_i k3,Option.isNone_iff_eq_none.mp k5,Array.isEmpty_iff.mp k6⟩,es,ep,t,hd,h1,h3,h2,ht⟩
noncomputable def flagL:List (Int × List Nat):=[(1,[79,80,84,73,77,73,90,69,68]),(2,[78,69,87,76,79,67,65,76,83]),(4,[86,65,82,65,82,71,83]),(8,[86,65,82,75,69,89,87,79,82,68,83]),(16,[78,69,83,84,69,68]),(32,[71,69,78,69,82,65,84,79,82]),
 (64,[78,79,70,82,69,69]),(128,[67,79,82,79,85,84,73,78,69]),(256,[73,84,69,82,65,66,76,69,95,67,79,82,79,85,84,73,78,69]),(512,[65,83,89,78,67,95,71,69,78,69,82,65,84,79,82])]
noncomputable def b3L:List (Int × List Nat):=b3c.map fun p=>(p.1,p.2.cps.toList)
noncomputable def b1L:List Int:=[65024,65025,65026,65027,65028,65029,6150,65030,65031,65032,65033,6155,6156,6157,8203,8204,8205,65034,65035,65036,65037,65038,65039,173,847,8288,65279]
noncomputable def getN:Nat:=1930088
noncomputable def flagN:Nat:=7192860386900399776657931683028391929924
noncomputable def b3N:Nat:=2260673379385664901314255459
noncomputable def b1N:Nat:=4047714654563
noncomputable def divN:Nat:=789363123314924626656
noncomputable def gv02 (x:Nat):Option PV:=ogo (Nat.beq x divN) (some (.int 4000))
noncomputable def ga02 (g n:Nat):Option PV:=ogo (Nat.beq g wsN) (match Nat.beq n 84 with
 | true=>some (.str [32])
 | false=>ogo (Nat.beq n 85) (some (.str [9])))
noncomputable def gget (g:Nat) (ps:List PV):Option PV:=match Nat.beq g flagN with
 | true=>dgetV flagL ps
 | false=>ogo (Nat.beq g b3N) (dgetV b3L ps)
noncomputable def b1In (ps:List PV):Option PV:=ob (one? ps) fun p=>ob (int? p) fun i=>some (.bool (memI i b1L))
noncomputable def gm02 (g m:Nat) (ps:List PV):Option PV:=match Nat.beq m 0 with
 | true=>ogo (Nat.beq g b1N) (b1In ps)
 | false=>ogo (Nat.beq m getN) (gget g ps)
noncomputable def ct02 (x:Nat):Option FnP:=ogo (Nat.beq x wsN) (some M___init__)
noncomputable def G0:Gl:=⟨fun _=>none,fun _ _=>none,fun _ _ _=>none,fun _=>none,fun _=>none,fun _=>none,fun _ _=>none⟩
noncomputable def G02 (sp:Nat→List PV→Option PV):Gl:=⟨gv02,ga02,gm02,lookF fnL,lookF meL,ct02,sp⟩
theorem objs_ok (P:Params):(dictOkI (objAt P 130) flagL && (dictOkI (objAt P 156) b3L && setOkI (objAt P 145) b1L))=true:=by kernel_rfl
noncomputable def isStr (v:Option Value) (x:List Nat):Bool:=match v with
 | some v=>decide (vStr? v=some x)
 | none=>false
noncomputable def clsV (P:Params) (n:Str):Option Value:=match findCls (Kc P) (.ref 83) (.type "type") n with
 | some (.val v)=>some v
 | _=>none
noncomputable def isInt1 (v:Option Value) (i:Int):Bool:=match v with
 | some v=>decide (vInt? v=some i)
 | none=>false
theorem gl_ok (P:Params):(isInt1 (nsOf (objAt P 3) "_DIV_LIMIT") 4000 && (isRef (nsOf (objAt P 3) "COMPILER_FLAG_NAMES") 130 && (isRef (nsOf (objAt P 3) "b3_exceptions") 156 && (isRef (nsOf (objAt P 3) "b1_set") 145 && (isStr (clsV P "S") [32] && (isStr (clsV P "T") [9] && biNames.all fun x=>(nsOf (objAt P 3) x).isNone))))))=true:=by kernel_rfl
theorem isInt1_i {v:Option Value} {i:Int} (h:isInt1 v i=true):∃ t,v=some (.int i t):=by
 induction v using Option.casesOn with
 | none=>exact (Bool.false_ne_true h).elim
 | some v =>
  obtain ⟨t,e⟩:=vInt_i (of_decide_eq_true h)
  exact ⟨t,congrArg some e⟩
theorem isStr_i {v:Option Value} {x:List Nat} (h:isStr v x=true):∃ t,v=some (.str (S x) t):=by
 induction v using Option.casesOn with
 | none=>exact (Bool.false_ne_true h).elim
 | some v =>
  obtain ⟨t,e⟩:=vStr_i (of_decide_eq_true h)
  exact ⟨t,congrArg some e⟩
theorem clsV_i {P:Params} {n:Str} {v:Value} (h:clsV P n=some v):findCls (Kc P) (.ref 83) (.type "type") n=some (.val v):=by
 unfold clsV at h
 generalize findCls (Kc P) (.ref 83) (.type "type") n=o at h
 induction o using Option.casesOn with
 | none=>exact nos h
 | some f=>induction f using CFound.casesOn with
  | val v=>rw [Option.some.inj h]
  | get=>exact nos h
theorem get_ok {cx:Cx} {P:Params} (K:C02 cx P) {a:Addr} {l:List (Int × List Nat)} {ps:List PV} {r:PV} (m:kAs.elem a=true) (k:dictOkI (objAt P a) l=true) (ne:(a == sysModules)=false) (e:dgetV l ps=some r) :
  (∀ s:Shared,cx.GI s.heap→s.TypeIs (.ref a) "dict"∧(∀ b,Value.ref a=.ref b→∃ ob,s.heap.get? b=some ob∧ob.dict=none)) ∧
  ∀ {A:Around} {E:Value→Shared→Prop} {s:Shared} {H:Hid} {Q:Value→Shared→Prop} {vs:List Value},Room A 60→Cn cx s.heap H→RepAll cx s.heap H vs ps→RetF cx s H false r Q→wpAny (model cx.prog cx.w) A (call (.builtin "dict.get") (.ref a :: vs)) Q E s:=by
 refine ⟨fun s gi=>?_,fun room cn x hq=>?_⟩
 ·obtain ⟨f,hm,_⟩:=dict_mapOf (prog:=cx.prog) (w:=cx.w) (K.at m _ gi) k
  refine ⟨hm.typeIs,fun b e=>?_⟩
  obtain rfl:=Value.ref.inj e
  exact hm.noDict _ rfl
 ·obtain ⟨f,hm,hf⟩:=dict_mapOf (prog:=cx.prog) (w:=cx.w) (K.at m _ cn.gi) k
  induction ps using List.casesOn with
  | nil=>exact nos e
  | cons p ps =>
   obtain ⟨v,vs,rfl,x1,x2⟩:=x.cons'
   refine ob_e e fun i h1 h2=>?_
   obtain ⟨t,rfl⟩:=x1.toInt h1
   have q:=hf i
   have hi:(intKind cx.prog cx.w).is i (.int i t)=true:=beq_self_eq_true i
   induction ps using List.casesOn with
   | nil =>
    obtain rfl:=x2.nil'
    refine call_meetsIn PySem.F.slot_dict_get hm.typeIs PySem.F.entry_dict_get (PySem.F.args_dict_get_2 _ _) (meets_dict_get (intKind cx.prog cx.w) (k:=i) a hi ne) ⟨f,hm,?_⟩
    obtain rfl:=Option.some.inj h2
    generalize assocI i l=o at q hq
    induction o using Option.casesOn with
    | none=>rw [show f i=none from q];exact hq.plain .refl .none
    | some z =>
     obtain ⟨u,hu⟩:=q
     rw [hu]
     exact hq.plain .refl (.str _ _)
   | cons p2 ps =>
    obtain ⟨h3,h4⟩:=ogo_i h2
    obtain rfl:=List.isEmpty_iff.mp h3
    refine ob_e h4 fun y h5 h6=>?_
    obtain ⟨v2,rfl,x3⟩:=x2.one'
    obtain ⟨t2,rfl⟩:=x3.toStr h5
    refine call_meetsIn PySem.F.slot_dict_get hm.typeIs PySem.F.entry_dict_get (PySem.F.args_dict_get_3 _ _ _) (meets_dict_get_default (intKind cx.prog cx.w) (k:=i) a hi ne _) ⟨f,hm,?_⟩
    obtain rfl:=Option.some.inj h6
    generalize assocI i l=o at q hq
    induction o using Option.casesOn with
    | none=>rw [show f i=none from q];exact hq.plain .refl (.str _ _)
    | some z =>
     obtain ⟨u,hu⟩:=q
     rw [hu]
     exact hq.plain .refl (.str _ _)
theorem obj_quiet:∀ n∈atNames,typeLookup (.type "object") n=pure none :=
 List.forall_mem_cons.mpr ⟨am_miss_of_fast (by kernel_rfl),List.forall_mem_cons.mpr ⟨am_miss_of_fast (by kernel_rfl),List.forall_mem_cons.mpr ⟨am_miss_of_fast (by kernel_rfl),List.forall_mem_cons.mpr ⟨am_miss_of_fast (by kernel_rfl),List.forall_mem_cons.mpr ⟨am_miss_of_fast (by kernel_rfl),fun _ h=>nomatch h⟩⟩⟩⟩⟩
theorem mN_quiet (P:Params):((("__getattribute__":Str) :: "__setattr__" :: atNames).all fun n=>(mN02 P n).isNone)=true:=by kernel_rfl
structure SpOk (cx:Cx) (sp:Nat→List PV→Option PV):Prop where
 nm:∀ x ps r,sp x ps=some r→x=i2N∨x=d2N
 ok:∀ f v ps r,okN f=true→sp (enc f) ps=some r→cx.mg f=some v→CallOk cx 200 v ps r
section
variable {cx:Cx} {P:Params} (K:C02 cx P)
include K
theorem binm_ok (x:Str) (h:x∈biNames):cx.mg x=none:=by
 obtain ⟨_,q⟩:=band (gl_ok P)
 obtain ⟨_,q⟩:=band q
 obtain ⟨_,q⟩:=band q
 obtain ⟨_,q⟩:=band q
 obtain ⟨_,q⟩:=band q
 obtain ⟨_,q⟩:=band q
 exact (K.mg x).trans (Option.isNone_iff_eq_none.mp (List.all_eq_true.mp q x h))
theorem cls_ok:∃ N mN,(∀ h,cx.GI h→ClsAt h cx.C N mN)∧mN "__getattribute__"=none∧mN "__setattr__"=none∧(∀ n∈atNames,mN n=none∧typeLookup (.type "object") n=pure none)∧∀ h,cx.GI h→cx.GA cx.C :=
 have q:=fun n h=>Option.isNone_iff_eq_none.mp (List.all_eq_true.mp (mN_quiet P) n h)
 ⟨82,mN02 P,cls_at K,q _ (.head _),q _ (.tail _ (.head _)),fun n hn=>⟨q n (.tail _ (.tail _ hn)),obj_quiet n hn⟩,fun _ _=>K.C ▸ K.GAC⟩
theorem gv_ok:∀ x p,okN x=true→gv02 (enc x)=some p→∃ v,cx.mg x=some v∧∀ h,cx.GI h→Rep cx h (fun a=>¬ cx.GA a∨cx.B a) v p:=fun x p ok h=>by
 obtain ⟨h1,h2⟩:=ogo_i h
 obtain rfl:=nm_of ok h1 "_DIV_LIMIT" (by kernel_rfl) (by kernel_rfl)
 obtain rfl:=Option.some.inj h2
 obtain ⟨t,e⟩:=isInt1_i (band (gl_ok P)).1
 exact ⟨_,(K.mg _).trans e,fun _ _=>.int _ _⟩
theorem cls_str {A:Around} {E:Value→Shared→Prop} {s:Shared} {Q:Value→Shared→Prop} {n:Str} {x:List Nat} (e:isStr (clsV P n) x=true) (gi:cx.GI s.heap) (hq:∀ u tk,Rep cx s.heap (fun a=>¬ cx.GA a∨cx.B a) u (.str x)→Q u { s with toks:=tk }):wpAny (model cx.prog cx.w) A (getAttr (.ref 83) n true) Q E s:=by
 obtain ⟨t,h⟩:=isStr_i e
 exact cls_value (Kc_in K _ gi) (band (Kc_ok P)).2 (clsV_i h) rfl (hq _ _ (.str _ _))
theorem ga_ok:∀ g n p,okN g=true→okN n=true→ga02 (enc g) (enc n)=some p→∃ v,cx.mg g=some v∧∀ {A:Around} {E:Value→Shared→Prop} {s:Shared} {Q:Value→Shared→Prop},cx.GI s.heap →
  (∀ w tk,Rep cx s.heap (fun a=>¬ cx.GA a∨cx.B a) w p→Q w { s with toks:=tk })→wpAny (model cx.prog cx.w) A (getAttr v n true) Q E s:=fun g n p okg okn h=>by
 obtain ⟨h1,h2⟩:=ogo_i h
 refine ⟨.ref 83,(call_at K okg (.head _) (Nat.eq_of_beq_eq_true h1)).2,fun gi hq=>?_⟩
 obtain ⟨_,q⟩:=band (gl_ok P)
 obtain ⟨_,q⟩:=band q
 obtain ⟨_,q⟩:=band q
 obtain ⟨_,q⟩:=band q
 obtain ⟨q1,q⟩:=band q
 obtain ⟨q2,_⟩:=band q
 cases k:Nat.beq (enc n) 84 with
 | true =>
  rw [k] at h2
  obtain rfl:=nm_of okn k "S" (by kernel_rfl) (by kernel_rfl)
  obtain rfl:=Option.some.inj h2
  exact cls_str K q1 gi hq
 | false =>
  rw [k] at h2
  obtain ⟨h3,h4⟩:=ogo_i h2
  obtain rfl:=nm_of okn h3 "T" (by kernel_rfl) (by kernel_rfl)
  obtain rfl:=Option.some.inj h4
  exact cls_str K q2 gi hq
theorem gm_ok:∀ g m ps r,okN g=true→okN m=true→m ≠ ""→gm02 (enc g) (enc m) ps=some r→∃ v T id,cx.mg g=some v∧PlainAttrs T∧Slot T m id∧typeOf (.builtin id)=pure (.type "method_descriptor") ∧
  (∀ s:Shared,cx.GI s.heap→s.TypeIs v T∧(∀ a,v=.ref a→∃ ob,s.heap.get? a=some ob∧ob.dict=none)) ∧
  ∀ {A:Around} {E:Value→Shared→Prop} {s:Shared} {H:Hid} {Q:Value→Shared→Prop} {vs:List Value},Room A 60→Cn cx s.heap H→RepAll cx s.heap H vs ps→RetF cx s H false r Q→wpAny (model cx.prog cx.w) A (call (.builtin id) (v :: vs)) Q E s:=fun g m ps r okg okm ne h=>by
 have h:(match Nat.beq (enc m) 0 with|true=>ogo (Nat.beq (enc g) b1N) (b1In ps)|false=>ogo (Nat.beq (enc m) getN) (gget (enc g) ps))=some r:=h
 have h0:Nat.beq (enc m) 0=false:=Bool.not_eq_true _ ▸ fun z=>ne (nm_of okm z "" (by kernel_rfl) (by kernel_rfl))
 rw [h0] at h
 obtain ⟨h1,h2⟩:=ogo_i h
 obtain rfl:=nm_of okm h1 "get" (by kernel_rfl) (by kernel_rfl)
 obtain ⟨k1,q⟩:=band (objs_ok P)
 obtain ⟨k2,_⟩:=band q
 obtain ⟨_,q⟩:=band (gl_ok P)
 obtain ⟨q1,q⟩:=band q
 obtain ⟨q2,_⟩:=band q
 have h2:(match Nat.beq (enc g) flagN with|true=>dgetV flagL ps|false=>ogo (Nat.beq (enc g) b3N) (dgetV b3L ps))=some r:=h2
 cases k:Nat.beq (enc g) flagN with
 | true =>
  rw [k] at h2
  obtain rfl:=nm_of okg k "COMPILER_FLAG_NAMES" (by kernel_rfl) (by kernel_rfl)
  exact ⟨_,"dict","dict.get",(K.mg _).trans (isRef_i q1),PySem.F.plainAttrs_dict,PySem.F.slot_dict_get,PySem.F.type_dict_get,get_ok K rfl k1 rfl h2⟩
 | false =>
  rw [k] at h2
  obtain ⟨h3,h4⟩:=ogo_i h2
  obtain rfl:=nm_of okg h3 "b3_exceptions" (by kernel_rfl) (by kernel_rfl)
  exact ⟨_,"dict","dict.get",(K.mg _).trans (isRef_i q2),PySem.F.plainAttrs_dict,PySem.F.slot_dict_get,PySem.F.type_dict_get,get_ok K rfl k2 rfl h4⟩
theorem gin_ok:∀ g p r,okN g=true→gm02 (enc g) 0 [p]=some r→∃ v b,cx.mg g=some v∧r=.bool b∧∀ {A:Around} {E:Value→Shared→Prop} {s:Shared} {H:Hid} {Q:Value→Shared→Prop} {x:Value},cx.GI s.heap→Rep cx s.heap H x p→(∀ tk,Q (.bool b) { s with toks:=tk })→wpAny (model cx.prog cx.w) A (compareOp .In x v) Q E s:=fun g p r okg h=>by
 obtain ⟨h1,h2⟩:=ogo_i h
 obtain rfl:=nm_of okg h1 "b1_set" (by kernel_rfl) (by kernel_rfl)
 refine ob_e (show ob (int? p) _=some r from h2) fun i h3 h4=>?_
 obtain rfl:=Option.some.inj h4
 obtain ⟨_,q⟩:=band (objs_ok P)
 obtain ⟨_,k1⟩:=band q
 obtain ⟨_,q⟩:=band (gl_ok P)
 obtain ⟨_,q⟩:=band q
 obtain ⟨_,q⟩:=band q
 obtain ⟨q1,_⟩:=band q
 refine ⟨_,_,(K.mg _).trans (isRef_i q1),rfl,fun gi x hq=>?_⟩
 obtain ⟨t,rfl⟩:=x.toInt h3
 exact wpAny_inSet_of (knd:=intKind cx.prog cx.w) (k:=i) (beq_self_eq_true i) rfl ((set_obj k1).setOf (K.at rfl _ gi) (by decide)) (hq _)
theorem call_ok {sp:Nat→List PV→Option PV} (Y:SpOk cx sp):∀ f n ps r,okN f=true→(sem (G02 sp) n).fn (enc f) ps=some r→∃ v,cx.mg f=some v∧Callee cx v
 | _,0,_,_,_,h=>nos h
 | f,n+1,ps,r,ok,h=>by
  have go:∀ {t},t∈allL→enc f=t.2.1→∃ v,cx.mg f=some v∧Callee cx v:=fun m e=>⟨_,(call_at K ok m e).2,callee_at K m⟩
  refine fn_e h (fun _ h=>?_) (fun fp h _=>?_) fun fp h _=>?_
  ·rcases Y.nm _ _ _ h with e|e
   ·exact go (.tail _ (.head _)) e
   ·exact go (.tail _ (.tail _ (.head _))) e
  ·obtain ⟨t,m,e,_⟩:=lookF_i h
   exact go (.tail _ (.tail _ (.tail _ m))) e
  ·exact go (.head _) (Nat.eq_of_beq_eq_true (ogo_i h).1)
theorem t0_ok:TopOk cx G0:=by
 have g:GOk cx G0:=⟨fun _ _ _ h=>nos h,fun _ _ _ _ _ h=>nos h,fun _ _ _ _ _ _ _ h=>nos h,fun _ _ _ _ h=>nos h,fun f n ps r _ h=>?_,cls_ok K,binm_ok K⟩
 ·exact ⟨g,fun _ _ _ h=>nos h,fun _ _ _ _ _ h=>nos h,fun _ _ _ h=>nos h,fun _ _ _ h=>nos h,rest_ok g⟩
 ·cases n with
  | zero=>exact nos h
  | succ n=>exact fn_e h (fun _ h=>nos h) (fun _ h _=>nos h) fun _ h _=>nos h
theorem top_ok {sp:Nat→List PV→Option PV} (Y:SpOk cx sp):TopOk cx (G02 sp):=by
 have g:GOk cx (G02 sp):=⟨gv_ok K,ga_ok K,gm_ok K,gin_ok K,call_ok K Y,cls_ok K,binm_ok K⟩
 refine ⟨g,fun f fp ok h=>?_,Y.ok,fun f fp ok h=>?_,fun m fp ok h=>?_,rest_ok g⟩
 ·obtain ⟨t,m,e,rfl⟩:=lookF_i h
  obtain ⟨_,_,F⟩:=fns_all K t m
  exact ⟨_,_,_,_,_,(call_at K ok (.tail _ (.tail _ (.tail _ m))) e).2,F⟩
 ·obtain ⟨h1,h2⟩:=ogo_i h
  exact ⟨(call_at K ok (.head _) (Nat.eq_of_beq_eq_true h1)).2.trans (by rw [K.C]),cts_ok K (Option.some.inj h2)⟩
 ·obtain ⟨t,hm,e,rfl⟩:=lookF_i h
  obtain ⟨h1,h2⟩:=band (List.all_eq_true.mp (mes_at P) t hm)
  obtain ⟨h3,h4⟩:=band h1
  obtain rfl:=enc_inj ok h3 (e.trans (Nat.eq_of_beq_eq_true h4).symm)
  obtain ⟨⟨_,_,F⟩,hB⟩:=mes_all K t hm
  obtain ⟨h5,h6⟩:=band h2
  exact ⟨_,_,_,_,_,F,fun gi r n hq=>mts_at K (isRef_i h5) F.obj (isTy_i h6) hB gi r n hq⟩
end
end Mine
end
section
set_option maxRecDepth 100000
open PySem PySem.Calls PyProof.Rows PySem.W
set_option genSizeOf false
set_option genInjectivity false
namespace Mine
noncomputable def nestedOf:Stmt→Nst
 | .FunctionDef _ ps b _ _ _ sc _ _ p=>(ps,b,sc,p)
 | _=>({ posonlyargs:=[],args:=[],vararg:=none,kwonlyargs:=[],kw_defaults:=[],kwarg:=none,defaults:=[] },[],default,default)
noncomputable def stD:Stmt:=.Pass default
@[irreducible] noncomputable def n8:Nst:=nestedOf ((fB 8).getD 0 stD)
@[irreducible] noncomputable def n7:Nst:=nestedOf ((fB 7).getD 1 stD)
noncomputable def S0:Rc:=sem G0 10
noncomputable def pre8:List PS:=[.if_ (.cmp .eq (.bin .add (.var 77) (.lit (.int 1))) (.var 83)) [.ret (.idx (.var 4017360614757) (.var 77)) [4017360614757,77]] [],
 .assign 1668462 (.bin .shr (.bin .add (.var 77) (.var 83)) (.lit (.int 1))) [77,83],.assign 31624705268 (.bin .mul (.bin .sub (.var 1668462) (.var 77)) (.var 111)) [1668462,77,111]]
noncomputable def hi8:List PE:=[.var 1668462,.var 83]
noncomputable def lo8:List PE:=[.var 77,.var 1668462]
noncomputable def d2k (rec:List PV→Option PV) (ρ:PEnv) (fl:Fl):Option PV:=match fl with
 | .ret r=>some r
 | .brk=>none
 | .next=>ob (evL S0 ρ hi8) fun as=>ob (rec as) fun hi=>ob (S0.ev ρ (.var 31624705268)) fun sh=>ob (binV .shl hi sh) fun a=>ob (evL S0 ρ lo8) fun bs=>ob (rec bs) fun lo=>binV .add a lo
noncomputable def d2 (ρf:PEnv):Nat→List PV→Option PV
 | 0,_=>none
 | k+1,ps=>ob (zipE [77,83] ps) fun ρp=>ob (exL S0 pre8 (ρp++ρf)) fun o=>d2k (d2 ρf k) o.1 o.2
noncomputable def ns8:Ns:=[("L",.local),("R",.local),("mid",.local),("shift",.local)]
noncomputable def kidsE (e:Expr):List Expr:=match e with
 | .BinOp l _ r _=>[l,r]
 | .Call f a _ _=>f :: a
 | .IfExp a b c _=>[a,b,c]
 | _=>[]
noncomputable def kidsS (s:Stmt):List Expr:=match s with
 | .Return (some e) _=>[e]
 | .Expr e _=>[e]
 | _=>[]
noncomputable def eD:Expr:=.Constant .none 0 default
noncomputable def kid (e:Expr) (k:Nat):Expr:=(kidsE e).getD k eD
noncomputable def kidS (s:Stmt) (k:Nat):Expr:=(kidsS s).getD k eD
noncomputable def argsE (e:Expr):List Expr:=(kidsE e).tail
noncomputable abbrev inC (e:Expr):Expr:=.Call (.Name "inner" (kid e 0).pos) (argsE e) [] e.pos
noncomputable def b8 (k:Nat):Stmt:=n8.2.1.getD k stD
noncomputable def r8:Expr:=kidS (b8 3) 0
noncomputable def u8:Expr:=kid r8 0
theorem body8I:n8.2.1=n8.2.1.take 3++[.Return (some (.BinOp (.BinOp (inC (kid u8 0)) .LShift (kid u8 1) u8.pos) .Add (inC (kid r8 1)) r8.pos)) (b8 3).pos]:=by kernel_rfl
theorem cs8:CSs ns8 (n8.2.1.take 3) pre8:=⟨20,by kernel_rfl⟩
theorem ch8:CEs ns8 (argsE (kid u8 0)) hi8:=⟨2,by kernel_rfl⟩
theorem cl8:CEs ns8 (argsE (kid r8 1)) lo8:=⟨2,by kernel_rfl⟩
theorem csh8:CE ns8 (kid u8 1) (.var 31624705268):=⟨2,by kernel_rfl⟩
theorem t8:InnT n8 ["L","R"] ns8:=⟨by kernel_rfl,by kernel_rfl,by kernel_rfl,by kernel_rfl,by kernel_rfl,by decide⟩
theorem en8:(["L","R"]:List Str).map enc=[77,83]:=by kernel_rfl
section
variable {cx:Cx} {W Hx:Hid} {f:Addr} {fd:FuncData} {ρf:PEnv} {q:Nst} {names:List Str} {ns:Ns}
theorem At.of (Z:Inn cx W Hx f fd q names) (t:InnT q names ns) {n:Nat} {A:Around} {s:Shared} {own:Own} {ow:Nat→Hid} {ρ:PEnv} {h₁:Heap} {t₁:Nat} (J:InnS cx Hx f fd ρf s.heap) (e:Ext cx cx.T s.heap h₁) (I:InS cx (n+60) A (callEnv fd s.heap.objs.size f) ns Hx own ow ρ h₁) :
  At cx W Hx f fd ρf n A (callEnv fd s.heap.objs.size f) ns ρ (HH Hx (callEnv fd s.heap.objs.size f) own ow fun _=>True) s.heap { s with heap:=h₁,toks:=t₁ } :=
 ⟨.of e Z.tW,I.ofAll,J.ext Z (.of e Z.tW),(congrArg (fun sc:Scope=>sc.names.lookup ("inner":Str)) Z.scope).trans t.fr,rfl,fun w=>not_live_size (J.cn.hid _ (Z.wH _ w)),fun _ q=>.inl q⟩
theorem d2_ok (T0:TopOk cx G0) (Z:Inn cx W Hx f fd n8 ["L","R"]):∀ (k:Nat) (ps:List PV) (r:PV),d2 ρf k ps=some r→∀ {A:Around} {E:Value→Shared→Prop} {s:Shared} {Q:Value→Shared→Prop} {vs:List Value},Room A (k+80)→InnS cx Hx f fd ρf s.heap→RepAll cx s.heap Hx vs ps →
  (∀ v h' tk,ExtL cx W s.heap h'→Rep cx h' Hx v r→Q v { s with heap:=h',toks:=tk })→wpAny (model cx.prog cx.w) A (call (.ref f) vs) Q E s
 | 0,_,_,e,_,_,_,_,_,_,_,_,_=>nos e
 | k+1,ps,r,e,A,E,s,Q,vs,room,J,x,h=>by
  refine ob_e (show ob (zipE [77,83] ps) _=some r from e) fun ρp hz e=>ob_e e fun o ho e=>?_
  obtain ⟨S,AC⟩:=all_ok T0 10
  refine inn_call (n:=10) Z t8 J (room.le (Nat.le_trans (show 71≤81 by decide) (Nat.le_add_left _ k))) x (by rw [en8];exact hz) fun h₀ tk E' es I=>?_
  rw [body8I]
  have hW:=WW_in (cx:=cx) (env:=callEnv fd s.heap.objs.size f) not_live_size rfl
  obtain ⟨ρ,fl⟩:=o
  refine execs_app (exs_ok T0.toGOk S AC cs8 I ho ?_)
  induction fl using Fl.casesOn with
  | brk=>exact nos e
  | ret v =>
   obtain rfl:=Option.some.inj e
   exact fun h' tk w e' c r'=>h w h' tk (.of (es.into e' hW) Z.tW) r'
  | next =>
   refine fun h₁ t₁ ow₁ e₁ _ I₁=>ob_e e fun as has e=>ob_e e fun hi hhi e=>ob_e e fun sh hsh e=>ob_e e fun a0 ha e=>ob_e e fun bs hbs e=>ob_e e fun lo hlo hr=>?_
   have a:=At.of Z t8 (t₁:=t₁) J (es.into e₁ hW) I₁
   refine wpAny_execs_cons (wpAny_Return_some (wpAny_BinOp (wpAny_BinOp (a.call Z S.toSndN ch8 has fun vs h₂ t₂ _ a r₂=>d2_ok T0 Z k _ _ hhi room.deeper a.J r₂ fun v₃ h₃ t₃ e₃ r₃=>?_))))
   have a:=a.ext Z (tk':=t₃) e₃
   refine S.ev csh8 a.I hsh fun v₄ h₄ t₄ e₄ r₄ _=>?_
   have a:=a.ext Z (tk':=t₄) (.of e₄ Z.tW)
   refine bin_ok (k:=.shl) (fr:=false) a.J.cn (r₃.ext (ExtL.of e₄ Z.tW).ext Z.wH) (r₄.open' a.up) ha fun v₅ h₅ t₅ e₅ r₅ _=>?_
   have a:=a.ext Z (tk':=t₅) (.of e₅ Z.tW)
   refine a.call Z S.toSndN cl8 hbs fun vs h₆ t₆ e₆ a r₆=>d2_ok T0 Z k _ _ hlo room.deeper a.J r₆ fun v₇ h₇ t₇ e₇ r₇=>?_
   have a:=a.ext Z (tk':=t₇) e₇
   refine bin_ok (k:=.add) (fr:=false) a.J.cn ((r₅.ext (ExtL.of e₆ Z.tW).ext Z.wH).ext e₇.ext Z.wH) r₇ hr fun v₈ h₈ t₈ e₈ r₈ _=>?_
   exact h v₈ h₈ t₈ (a.e.trans (.of e₈ Z.tW)) r₈
end
end Mine
end
section
set_option maxRecDepth 100000
open PySem PySem.Calls PyProof.Rows PySem.W
set_option genSizeOf false
set_option genInjectivity false
namespace Mine
noncomputable def aN:Nat:=65820436312191074
noncomputable def c7T:PE:=.cmp .eq (.bin .add (.var 77) (.lit (.int 1))) (.var 83)
noncomputable def pre7:List PS:=[.assign 1668462 (.bin .shr (.bin .add (.var 77) (.var 83)) (.lit (.int 1))) [77,83],.assign 31624705268 (.bin .mul (.bin .sub (.var 1668462) (.var 77)) (.var 111)) [1668462,77,111],
 .assign 31085852918 (.bin .shr (.var 121) (.var 31624705268)) [121,31624705268],.assign 31085967469 (.bin .bxor (.var 121) (.bin .shl (.var 31085852918) (.var 31624705268))) [121,31085852918,31624705268]]
noncomputable def lo7:List PE:=[.var 31085967469,.var 77,.var 1668462]
noncomputable def hi7:List PE:=[.var 31085852918,.var 1668462,.var 83]
noncomputable def i2n (rec:List PV→List PV→Option (List PV)) (ρ:PEnv) (l:List PV) (fl:Fl):Option (List PV):=match fl with
 | .next=>ob (evL S0 ρ lo7) fun as=>ob (rec as l) fun l₁=>ob (evL S0 ρ hi7) fun bs=>rec bs l₁
 | _=>none
noncomputable def i2k (rec:List PV→List PV→Option (List PV)) (ρ:PEnv) (l:List PV) (b:Bool):Option (List PV):=match b with
 | true=>ob (S0.ev ρ (.var 121)) fun p=>ob (S0.ev ρ (.var 77)) fun w=>ob (int? w) fun i=>ob (toNat? i) fun _=>ob (seat i l) fun j=>some (l.set j p)
 | false=>ob (exL S0 pre7 ρ) fun o=>i2n rec o.1 l o.2
noncomputable def i2 (ρf:PEnv):Nat→List PV→List PV→Option (List PV)
 | 0,_,_=>none
 | k+1,ps,l=>ob (zipE [121,77,83] ps) fun ρp=>ob (S0.ts (ρp++ρf) c7T) fun b=>i2k (i2 ρf k) (ρp++ρf) l b
noncomputable def ns7:Ns:=[("x",.local),("L",.local),("R",.local),("mid",.local),("shift",.local),("upper",.local),("lower",.local)]
noncomputable def ifS (s:Stmt):Expr × List Stmt:=match s with
 | .If c a _ _=>(c,a)
 | _=>(eD,[])
noncomputable def asS (s:Stmt):Expr × Expr:=match s with
 | .Assign [t] e _=>(t,e)
 | _=>(eD,eD)
noncomputable def sbE (e:Expr):Expr × Expr:=match e with
 | .Subscript a b _=>(a,b)
 | _=>(eD,eD)
noncomputable def b7 (k:Nat):Stmt:=n7.2.1.getD k stD
noncomputable def g7 (k:Nat):Stmt:=(ifS (b7 0)).2.getD k stD
noncomputable def t7e:Expr:=(asS (g7 0)).1
noncomputable abbrev exC (s:Stmt):Stmt:=.Expr (inC (kidS s 0)) s.pos
theorem body7I:n7.2.1=.If (ifS (b7 0)).1 [.Assign [.Subscript (.Name "a_digits" (sbE t7e).1.pos) (sbE t7e).2 t7e.pos] (asS (g7 0)).2 (g7 0).pos,.Return none (g7 1).pos] [] (b7 0).pos :: ((n7.2.1.drop 1).take 4++[exC (b7 5),exC (b7 6)]):=by kernel_rfl
theorem cs7:CSs ns7 ((n7.2.1.drop 1).take 4) pre7:=⟨20,by kernel_rfl⟩
theorem ct7:CT ns7 (ifS (b7 0)).1 c7T:=⟨20,by kernel_rfl⟩
theorem cx7:CE ns7 (asS (g7 0)).2 (.var 121):=⟨2,by kernel_rfl⟩
theorem cL7:CE ns7 (sbE t7e).2 (.var 77):=⟨2,by kernel_rfl⟩
theorem cl7:CEs ns7 (argsE (kidS (b7 5) 0)) lo7:=⟨2,by kernel_rfl⟩
theorem ch7:CEs ns7 (argsE (kidS (b7 6) 0)) hi7:=⟨2,by kernel_rfl⟩
theorem t7:InnT n7 ["x","L","R"] ns7:=⟨by kernel_rfl,by kernel_rfl,by kernel_rfl,by kernel_rfl,by kernel_rfl,by decide⟩
theorem en7:(["x","L","R"]:List Str).map enc=[121,77,83]:=by kernel_rfl
theorem fr7:n7.2.2.1.names.lookup ("a_digits":Str)=some .free:=by kernel_rfl
structure LsD (cx:Cx) (Hx:Hid) (fd:FuncData) (D:Addr) (l:List PV) (h:Heap):Prop where
 cell:∃ cd,fd.closure.lookup ("a_digits":Str)=some cd∧h.IsCell cd (some (.ref D))
 ls:∃ vs,IsLs h D vs∧RepAll cx h Hx vs l
section
variable {cx:Cx} {W Hx:Hid} {f:Addr} {fd:FuncData} {ρf:PEnv} {D:Addr}
theorem LsD.ext (Z:Inn cx W Hx f fd n7 ["x","L","R"]) (nG:¬ cx.GA D) {l:List PV} {h h':Heap} (x:LsD cx Hx fd D l h) (e:Ext cx cx.T h h'):LsD cx Hx fd D l h':=by
 obtain ⟨⟨cd,h1,h2⟩,vs,h3,h4⟩:=x
 exact ⟨⟨cd,h1,IsCell_map h2 fun o=>e.keep _ o fun t=>(Z.cl _ _ h1).2 (Z.tW _ t)⟩,vs,h3.map fun o=>e.keep _ o fun t=>nG (cx.bGA _ (cx.tB _ t)),h4.ext e fun a t=>Z.wH _ (Z.tW _ t)⟩
theorem i2_ok (T0:TopOk cx G0) (Z:Inn cx W Hx f fd n7 ["x","L","R"]) (nG:¬ cx.GA D) (wD:W D):∀ (k:Nat) (ps:List PV) (l l':List PV),i2 ρf k ps l=some l'→∀ {A:Around} {E:Value→Shared→Prop} {s:Shared} {Q:Value→Shared→Prop} {vs:List Value},Room A (k+80)→InnS cx Hx f fd ρf s.heap→LsD cx Hx fd D l s.heap→RepAll cx s.heap Hx vs ps →
  (∀ h' tk,ExtL cx W s.heap h'→LsD cx Hx fd D l' h'→Q .none { s with heap:=h',toks:=tk })→wpAny (model cx.prog cx.w) A (call (.ref f) vs) Q E s
 | 0,_,_,_,e,_,_,_,_,_,_,_,_,_,_=>nos e
 | k+1,ps,l,l',e,A,E,s,Q,vs,room,J,L,x,h=>by
  refine ob_e (show ob (zipE [121,77,83] ps) _=some l' from e) fun ρp hz e=>ob_e e fun b hb e=>?_
  obtain ⟨S,AC⟩:=all_ok T0 10
  refine inn_call (n:=10) Z t7 J (room.le (Nat.le_trans (show 71≤81 by decide) (Nat.le_add_left _ k))) x (by rw [en7];exact hz) fun h₀ tk E' es I=>?_
  rw [body7I]
  have hW:=WW_in (cx:=cx) (env:=callEnv fd s.heap.objs.size f) not_live_size rfl
  refine wpAny_execs_cons (wpAny_If (S.ts ct7 (I.ofAll (s:={ s with heap:=h₀,toks:=tk })) hb fun h₁ t₁ e₁=>?_))
  induction b using Bool.casesOn with
  | true =>
   rw [if_pos rfl]
   refine ob_e e fun p hp e=>ob_e e fun w hw e=>ob_e e fun i hi e=>ob_e e fun n hn e=>ob_e e fun j hj e=>?_
   obtain rfl:=Option.some.inj e
   have a:=At.of Z t7 (t₁:=t₁) J (es.trans e₁) (I.ext e₁)
   refine wpAny_execs_cons (wpAny_Assign_Subscript (S.ev cx7 a.I hp fun v h₂ t₂ e₂ r₂ _=>?_) (by kernel_rfl))
   have a:=a.ext Z (tk':=t₂) (.of e₂ Z.tW)
   obtain ⟨⟨cd,h3,h4⟩,_⟩:=L.ext Z nG (es.trans (e₁.trans e₂))
   refine wpAny_Name (wpAny_loadName_free a.I.kind ((congrArg (fun sc:Scope=>sc.names.lookup ("a_digits":Str)) Z.scope).trans fr7) (a.ec ▸ h3) h4 ?_ (by decide)) (by decide)
   refine S.ev cL7 a.I hw fun v₂ h₃ t₃ e₃ r₃ _=>?_
   have a:=a.ext Z (tk':=t₃) (.of e₃ Z.tW)
   have r₂:=(r₂.ext e₃ a.I.cn.tH).open' a.up
   obtain ⟨hc,ws,h5,h6⟩:=L.ext Z nG (es.trans (e₁.trans (e₂.trans e₃)))
   obtain ⟨t,rfl⟩:=r₃.toInt hi
   obtain rfl:=toNat_i hn
   obtain ⟨hp,hl⟩:=seat_i hj
   refine setitem_ok (cx:=cx) (s:={ s with heap:=h₃,toks:=t₃ }) h5 (h6.length ▸ hl) (h6.length ▸ hp) (Int.natCast_nonneg _) fun h₄ k₄ l₄=>?_
   have e₄:Ext cx W h₃ h₄:=.of_but (b:=D) wD (fun _=>nG) (fun _=>l₄.live) k₄.extBut h5.noCd
   have x₄:ExtL cx W h₃ h₄:=⟨e₄.keep,fun a q=>by
    by_cases z:a=D
    ·exact z ▸ l₄.live
    ·obtain ⟨o,g⟩:=q
     exact ⟨o,k₄.extBut a o z g⟩,e₄.gi⟩
   obtain ⟨cd,h7,h8⟩:=hc
   exact wpAny_execs_cons (wpAny_Return_none (h h₄ t₃ (a.e.trans x₄) ⟨⟨cd,h7,IsCell_map h8 fun o=>x₄.keep _ o (Z.cl _ _ h7).2⟩,_,l₄,(h6.set j r₂).ext x₄.ext Z.wH⟩))
  | false =>
   rw [if_neg Bool.false_ne_true]
   refine wpAny_execs_nil (ob_e e fun o ho e=>?_)
   obtain ⟨ρ,fl⟩:=o
   refine execs_app (exs_ok (s:={ s with heap:=h₁,toks:=t₁ }) T0.toGOk S AC cs7 (I.ext e₁) ho ?_)
   induction fl using Fl.casesOn with
   | brk=>exact nos e
   | ret v=>exact nos e
   | next =>
    refine fun h₂ t₂ ow₂ e₂ _ I₂=>ob_e e fun as has e=>ob_e e fun l₁ hl₁ e=>ob_e e fun bs hbs hr=>?_
    have eT:=(es.trans e₁).into e₂ hW
    have a:=At.of Z t7 (t₁:=t₂) J eT I₂
    have nI:=not_interactive (s:={ s with heap:=h₂,toks:=t₂ }) I₂
    refine wpAny_execs_cons (wpAny_Expr (a.call Z S.toSndN cl7 has fun vs h₃ t₃ e₃ a r₃=>i2_ok T0 Z nG wD k _ _ _ hl₁ room.deeper a.J (L.ext Z nG (eT.trans e₃)) r₃ fun h₄ t₄ e₄ L₄=>?_) nI (by kernel_rfl))
    have a:=a.ext Z (tk':=t₄) e₄
    refine wpAny_execs_cons (wpAny_Expr (a.call Z S.toSndN ch7 hbs fun vs h₅ t₅ e₅ a r₅=>i2_ok T0 Z nG wD k _ _ _ hr room.deeper a.J (L₄.ext Z nG e₅) r₅ fun h₆ t₆ e₆ L₆=>?_) nI (by kernel_rfl))
    exact wpAny_execs_nil (h h₆ t₆ (a.e.trans e₆) L₆)
end
end Mine
end
section
set_option maxRecDepth 100000
open PySem PySem.Calls PyProof.Rows PySem.W
set_option genSizeOf false
set_option genInjectivity false
namespace Mine
section
variable {cx:Cx} {m:Nat} {A:Around} {env:Env} {ns:Ns} {Hx:Hid} {own:Own} {ow:Nat→Hid} {ρ:PEnv} {h h':Heap}
theorem InS.unseen (I:InS cx m A env ns Hx own ow ρ h) {x:Str} {b:Addr} (nx:PEnv.get ρ (enc x)=none) (hb:b=env.locals∨own b) (k:Heap.ExtBut b h h') (hn:∃ m,h'.Ns env.locals m) (hc:∀ c,own c→∃ v,h'.IsCell c v)
  (ho:∀ y w,y ≠ x→VarAt h env y w→VarAt h' env y w):InS cx m A env ns Hx own ow ρ h':=by
 obtain ⟨e,c⟩:=I.turned hb k (bound_live hb hn hc)
 have bHA:HA Hx env own ow b:=hb.elim (fun q=>.inr (.inl q)) fun q=>.inr (.inr (.inl q))
 have kr:∀ a o,¬ HA Hx env own ow a→h.get? a=some o→¬ HA Hx env own ow a∧h'.get? a=some o:=fun a o n g=>⟨n,k a o (fun q=>n (q ▸ bHA)) g⟩
 have kw:∀ j a,ow j a→∀ o,h.get? a=some o→h'.get? a=some o:=fun j a oa o=>k a o fun q=>by
  obtain ⟨_,_,n2,n3,_⟩:=I.owL j a oa
  exact hb.elim (fun z=>n2 (q.trans z)) fun z=>n3 (q ▸ z)
 refine { I with cn:=c,nsl:=hn,cells:=hc,owL:=fun j a oa=>?_,vars:=fun y b' p' ok g=>?_ }
 ·obtain ⟨⟨o,h1⟩,h2⟩:=I.owL j a oa
  exact ⟨⟨o,kw j a oa o h1⟩,h2⟩
 ·obtain ⟨w,hw,h1,h2⟩:=I.vars y b' p' ok g
  exact ⟨w,ho y w (fun z=>nos (nx ▸ z ▸ g)) hw,fun z=>(h1 z).map kr,fun z=>(h2 z).map (fun a o oa=>kw _ a oa o) (fun a=>Iff.rfl) kr⟩
end
theorem TabOk.noRec {h:Heap} {P:Addr} {pos:Pos} {q q':Str} (x:TabOk h P pos q) (y:h.CodeRec (.ref P) q'):False:=by
 obtain ⟨c,o,vs,t,e,e1,e2,e3⟩:=y
 obtain rfl:=Value.ref.inj e
 rcases x with x|⟨_,_,_,_,x,_⟩
 ·obtain rfl:=Option.some.inj (x.symm.trans e1)
  cases e2
  exact nomatch e3
 ·obtain rfl:=Option.some.inj (x.symm.trans e1)
  cases e2
  exact nomatch e3
structure TabIn (cx:Cx) (c P:Addr) (pos:Pos) (q:Str):Prop where
 tab:∀ h,cx.GI h→TabOk h P pos q
 ext:∀ h h',cx.GI h→(∀ b o,b ≠ P→h.get? b=some o→h'.get? b=some o)→TabOk h' P pos q→Ext cx cx.T h h'
 code:∀ h,cx.GI h→CodeHd h c P
 ne:mainGlobals ≠ P
 blt:∀ h,cx.GI h→h.BuiltinsAt cx.mg P
 noT:∀ h a,cx.GI h→cx.T a→a ≠ P→∀ q',¬ h.CodeRec (.ref a) q'
section
variable {cx:Cx} {m:Nat} {A:Around} {env:Env} {ns:Ns} {Hx:Hid} {own:Own} {ow:Nat→Hid} {ρ:PEnv} {s:Shared} {E:Value→Shared→Prop} {Q:Flow→Shared→Prop}
theorem def_inner (I:InS cx m A env ns Hx own ow ρ s.heap) {params:Arguments} {body:List Stmt} {scope:Scope} {pos:Pos} {clos:List (Str × Addr)} {ci c P:Addr} {q:Str} (T:TabIn cx c P pos q)
  (hp:(params.defaults,params.kw_defaults,docOf body)=([],[],none)) (ha:annTrees params none env=[]) (hq:qualnameIn env "inner" "inner"=q) (hcl:closureFor scope env=pure clos) (hne:clos ≠ []) (hcode:env.code=.ref c)
  (hx:ns.lookup ("inner":Str)=some .cell) (hci:env.cells.lookup ("inner":Str)=some ci) (nx:PEnv.get ρ (enc "inner")=none)
  (h:∀ f c' pm ctv h₂ tk,¬ Live s.heap f→¬ cx.T f→¬ cx.T c'→Ext cx (WW cx env own ow) s.heap h₂→InS cx m A env ns Hx own ow ρ h₂→h₂.get? f=some (fnMade "inner" q params body scope clos .none pm c' ctv)→h₂.CodeRec (.ref c') q→h₂.IsCell ci (some (.ref f))→Q .next { s with heap:=h₂,toks:=tk }) :
  wpAny (model cx.prog cx.w) A (exec (.FunctionDef "inner" params body [] none [] scope none "inner" pos) env) Q E s:=by
 obtain ⟨hd0,k⟩:=Prod.mk.inj hp
 obtain ⟨hk0,hdoc⟩:=Prod.mk.inj k
 refine nestDef_K hd0 hk0 ha ?_
 rw [hq]
 refine nest_make (mg:=cx.mg) hcl hne I.glob (cx.ns_g _ I.cn.gi) hcode (T.code _ I.cn.gi) (T.tab _ I.cn.gi) hdoc T.ne (T.blt _ I.cn.gi) fun f c' ctv h₁ tk k nl hf hrec htab nfP=>?_
 have e₁:=T.ext _ _ I.cn.gi k htab
 have I₁:=I.ext e₁
 have fT:¬ cx.T f:=fun t=>nl (cx.ga_live _ _ I.cn.gi (cx.bGA _ (cx.tB _ t)))
 have cT:¬ cx.T c':=fun t=>by
  by_cases z:c'=P
  ·exact htab.noRec (z ▸ hrec)
  ·exact T.noT _ _ I₁.cn.gi t z _ hrec
 refine store_name (s:={ s with heap:=h₁,toks:=tk }) I₁ (.inr hx) fun b h₂ t₂ hb k₂ hn hc hv ho=>?_
 have e₂:=(I₁.turned hb k₂ (bound_live hb hn hc)).1
 have nfb:f ≠ b:=fun z=>nl (z ▸ hb.elim (fun z=>z ▸ I.frame_live.1) (I.frame_live.2 b))
 have ncb:c' ≠ b:=fun z=>by
  obtain ⟨c₁,o,vs,t,e,f1,f2,_⟩:=hrec
  obtain rfl:=Value.ref.inj e
  rcases hb with q|q
  ·obtain ⟨mm,o',es,ep,g,d,_⟩:=I₁.nsl
   obtain rfl:=Option.some.inj ((z ▸ q ▸ g).symm.trans f1)
   exact nomatch d.symm.trans f2
  ·obtain ⟨v,o',g,d⟩:=I₁.cells b q
   obtain rfl:=Option.some.inj ((z ▸ g).symm.trans f1)
   exact nomatch d.symm.trans f2
 have hcell:h₂.IsCell ci (some (.ref f)):=by
  rcases hv with ⟨kl,_⟩|⟨_,c₁,h1,h2⟩
  ·exact nomatch (I.cel _ hx).1.symm.trans kl
  ·exact Option.some.inj (hci.symm.trans h1) ▸ h2
 exact h f c' _ ctv h₂ t₂ nl fT cT (WW_trans (WW_of_ext e₁) (fun j a q=>.inl ⟨j,q⟩) e₂) (I₁.unseen nx hb k₂ hn hc ho) (k₂ _ _ nfb hf) (CodeRec_map hrec fun o=>k₂ _ o ncb) hcell
noncomputable def WO (cx:Cx) (O:Hid):Hid:=fun a=>cx.T a∨O a
theorem inn_of (I:InS cx m A env ns Hx own ow ρ s.heap) {f c':Addr} {pm ctv:Value} {ql:Str} {clos:List (Str × Addr)} {q:Nst} {names:List Str} {O:Hid} (bind:∀ vals:List Value,vals.length=names.length→bindArgs (fdOf (fnMade "inner" ql q.1 q.2.1 q.2.2.1 clos .none pm c' ctv)) ⟨vals,[]⟩=pure (names.zip vals))
  (hO:∀ a,O a→∃ k,ow k a) (fT:¬ cx.T f) (cT:¬ cx.T c') (fO:¬ O f) (cO:¬ O c') (hcl:∀ p∈clos,env.cells.lookup p.1=some p.2):Inn cx (WO cx O) (HA Hx env own ow) f (fdOf (fnMade "inner" ql q.1 q.2.1 q.2.2.1 clos .none pm c' ctv)) q names :=
 ⟨rfl,rfl,rfl,rfl,bind,fun _=>.inl,fun a w=>w.elim (fun t=>.inl (I.cn.tH a t)) fun o=>(by obtain ⟨k,q⟩:=hO a o;exact .inr (.inr (.inr ⟨k,id,q⟩))),fun w=>w.elim fT fO,⟨c',rfl,fun w=>w.elim cT cO⟩,fun m c e=>by
  have hc:=hcl _ (mem_of_lookup e)
  by_cases oc:own c
  ·refine ⟨.inr (.inr (.inl oc)),fun w=>w.elim (I.noT.2 _ _ hc) fun o=>?_⟩
   obtain ⟨k,q⟩:=hO c o
   exact (I.owL k c q).2.2.2.1 oc
  ·obtain ⟨h1,h2⟩:=I.outer _ _ hc oc
   refine ⟨.inl h1,fun w=>w.elim h2 fun o=>?_⟩
   obtain ⟨k,q⟩:=hO c o
   exact (I.owL k c q).2.1 h1⟩
noncomputable def FreeAt (env:Env) (ns:Ns) (q:Nst) (clos:List (Str × Addr)) (x:Str):Prop:=(q.2.2.1.names.lookup x=some .free∧(x == ("__classdict__":Str))=false)∧ns.lookup x=some .cell∧clos.lookup x=env.cells.lookup x
theorem cell_of (I:InS cx m A env ns Hx own ow ρ s.heap) {x:Str} {v:Value} (hx:ns.lookup x=some .cell) (hv:VarAt s.heap env x v):∃ c,env.cells.lookup x=some c∧s.heap.IsCell c (some v):=by
 rcases hv with ⟨kl,_⟩|⟨_,c,h1,h2⟩
 ·exact nomatch (I.cel _ hx).1.symm.trans kl
 ·exact ⟨c,h1,h2⟩
theorem inns_of (I:InS cx m A env ns Hx own ow ρ s.heap) {f c' ci:Addr} {pm ctv:Value} {ql:Str} {clos:List (Str × Addr)} {q:Nst} {ρf:PEnv} (hf:s.heap.get? f=some (fnMade "inner" ql q.1 q.2.1 q.2.2.1 clos .none pm c' ctv)) (hrec:s.heap.CodeRec (.ref c') ql) (hci:clos.lookup ("inner":Str)=some ci) (hcell:s.heap.IsCell ci (some (.ref f)))
  (hρ:∀ x b p,okN x=true→PEnv.get ρf (enc x)=some (b,p)→b=false∧PEnv.get ρ (enc x)=some (false,p)∧FreeAt env ns q clos x):InnS cx (HA Hx env own ow) f (fdOf (fnMade "inner" ql q.1 q.2.1 q.2.2.1 clos .none pm c' ctv)) ρf s.heap :=
 ⟨I.cnH _,⟨_,hf,rfl⟩,hrec,⟨ci,hci,hcell⟩,fun x b p ok g=>by
  obtain ⟨hb,h1,⟨h2,h3⟩,h4,h5⟩:=hρ x b p ok g
  obtain ⟨v,hv,h6,_⟩:=I.vars x false p ok h1
  obtain ⟨c,h7,h8⟩:=cell_of I h4 hv
  exact ⟨hb,h2,h3,c,v,h5.trans h7,h8,h6 rfl⟩⟩
end
theorem RepAll.scalars {cx:Cx} {h h':Heap} {H H':Hid}:∀ {ps:List PV} {vs:List Value},RepAll cx h H vs ps→ps.all PV.scalar=true→RepAll cx h' H' vs ps
 | [],_,r,_=>r
 | p :: ps,_,r,k=>by
  obtain ⟨v,ws,rfl,a,r⟩:=r.cons'
  obtain ⟨h1,h2⟩:=band (show (p.scalar && ps.all PV.scalar)=true from k)
  exact .cons (a.scalar h1) (RepAll.scalars r h2)
end Mine
end
section
set_option maxRecDepth 100000
open PySem PySem.Calls PyProof.Rows PySem.W
set_option genSizeOf false
set_option genInjectivity false
namespace Mine
noncomputable def innN:Nat:=31085819882
noncomputable def len0 (x:Nat):List PE:=[.lit (.int 0),.bi .len [.var x]]
noncomputable def dgN:Nat:=4017360614757
noncomputable def d2v (ρ:PEnv) (b:Bool):Option PV:=match b with
 | true=>ob (evL S0 ρ (len0 dgN)) fun as=>ogo (as.all PV.scalar) (d2 ρ 60 as)
 | false=>some (.int 0)
noncomputable def d2V (ps:List PV):Option PV:=ob (zipE [dgN,111] ps) fun ρ=>ogo (PEnv.get ρ innN).isNone (ob (S0.ts ρ (.tv (.var dgN))) (d2v ρ))
noncomputable def z8:Expr:=kidS ((fB 8).getD 1 stD) 0
theorem body8:fB 8=[.FunctionDef "inner" n8.1 n8.2.1 [] none [] n8.2.2.1 none "inner" n8.2.2.2,.Return (some (.IfExp (kid z8 0) (inC (kid z8 1)) (kid z8 2) z8.pos)) ((fB 8).getD 1 stD).pos]:=by kernel_rfl
noncomputable def qual8:Str:="_digits2int.<locals>.inner"
noncomputable def qual7:Str:="_int2digits.<locals>.inner"
section
variable (P:Params) (L f c':Addr) (pm ctv:Value)
noncomputable def env8:Env:=callEnvC (fdOf (objAt P 115)) L 115
noncomputable def env7:Env:=callEnvC (fdOf (objAt P 108)) L 108
noncomputable def clos8:List (Str × Addr):=[("n",L+2),("inner",L+3),("digits",L+1)]
noncomputable def clos7:List (Str × Addr):=[("n",L+1),("inner",L+3),("a_digits",L+2)]
theorem q8_eq:qualnameIn (env8 P L) "inner" "inner"=qual8:=by kernel_rfl
theorem q7_eq:qualnameIn (env7 P L) "inner" "inner"=qual7:=by kernel_rfl
theorem cd8:(env8 P L).code=.ref 114:=by kernel_rfl
theorem cd7:(env7 P L).code=.ref 107:=by kernel_rfl
theorem an8:annTrees n8.1 none (env8 P L)=[]:=by kernel_rfl
theorem an7:annTrees n7.1 none (env7 P L)=[]:=by kernel_rfl
theorem cf8:closureFor n8.2.2.1 (env8 P L)=pure (clos8 L):=by kernel_rfl
theorem cf7:closureFor n7.2.2.1 (env7 P L)=pure (clos7 L):=by kernel_rfl
theorem cs_8:∀ p∈clos8 L,(env8 P L).cells.lookup p.1=some p.2:=List.forall_mem_cons.mpr ⟨by kernel_rfl,List.forall_mem_cons.mpr ⟨by kernel_rfl,List.forall_mem_cons.mpr ⟨by kernel_rfl,fun _ h=>nomatch h⟩⟩⟩
theorem cs_7:∀ p∈clos7 L,(env7 P L).cells.lookup p.1=some p.2:=List.forall_mem_cons.mpr ⟨by kernel_rfl,List.forall_mem_cons.mpr ⟨by kernel_rfl,List.forall_mem_cons.mpr ⟨by kernel_rfl,fun _ h=>nomatch h⟩⟩⟩
theorem pt8:(n8.1.defaults,n8.1.kw_defaults,docOf n8.2.1)=([],[],none):=by kernel_rfl
theorem pt7:(n7.1.defaults,n7.1.kw_defaults,docOf n7.2.1)=([],[],none):=by kernel_rfl
theorem sc8:(fdOf (objAt P 115)).scope=fS 8:=by kernel_rfl
theorem sc7:(fdOf (objAt P 108)).scope=fS 7:=by kernel_rfl
theorem ix8:(fS 8).names.lookup ("inner":Str)=some .cell:=by kernel_rfl
theorem ix7:(fS 7).names.lookup ("inner":Str)=some .cell:=by kernel_rfl
theorem ax7:(fS 7).names.lookup ("a_digits":Str)=some .cell:=by kernel_rfl
theorem ei:enc "inner"=innN:=by kernel_rfl
theorem free8:∀ x∈(["digits","n"]:List Str),FreeAt (env8 P L) (fS 8).names n8 (clos8 L) x:=List.forall_mem_cons.mpr ⟨⟨⟨by kernel_rfl,by decide⟩,by kernel_rfl,by kernel_rfl⟩,List.forall_mem_cons.mpr ⟨⟨⟨by kernel_rfl,by decide⟩,by kernel_rfl,by kernel_rfl⟩,fun _ h=>nomatch h⟩⟩
theorem free7:FreeAt (env7 P L) (fS 7).names n7 (clos7 L) "n":=⟨⟨by kernel_rfl,by decide⟩,by kernel_rfl,by kernel_rfl⟩
theorem bind8:∀ vals:List Value,vals.length=(["L","R"]:List Str).length→bindArgs (fdOf (fnMade "inner" qual8 n8.1 n8.2.1 n8.2.2.1 (clos8 L) .none pm c' ctv)) ⟨vals,[]⟩=pure ((["L","R"]:List Str).zip vals) :=
 bind_2 fun a b=>show bindArgs (fdOf (fnMade "inner" qual8 n8.1 n8.2.1 n8.2.2.1 (clos8 L) .none pm c' ctv)) ⟨[a,b],[]⟩=pure [(("L":Str),a),(("R":Str),b)] by kernel_rfl
theorem bind7:∀ vals:List Value,vals.length=(["x","L","R"]:List Str).length→bindArgs (fdOf (fnMade "inner" qual7 n7.1 n7.2.1 n7.2.2.1 (clos7 L) .none pm c' ctv)) ⟨vals,[]⟩=pure ((["x","L","R"]:List Str).zip vals) :=
 bind_3 fun a b c=>show bindArgs (fdOf (fnMade "inner" qual7 n7.1 n7.2.1 n7.2.2.1 (clos7 L) .none pm c' ctv)) ⟨[a,b,c],[]⟩=pure [(("x":Str),a),(("L":Str),b),(("R":Str),c)] by kernel_rfl
end
theorem ct8:CT (fS 8).names (kid z8 0) (.tv (.var dgN)):=⟨20,by kernel_rfl⟩
theorem c08:CE (fS 8).names (kid z8 2) (.lit (.int 0)):=⟨2,by kernel_rfl⟩
theorem ca8:CEs (fS 8).names (argsE (kid z8 1)) (len0 dgN):=⟨20,by kernel_rfl⟩
theorem en8':(["digits","n"]:List Str).map enc=[dgN,111]:=by kernel_rfl
section
variable {cx:Cx} {P:Params}
theorem sp_d2 (K:C02 cx P) (T:TabIn cx 114 110 n8.2.2.2 qual8) {ps:List PV} {r:PV} (hr:d2V ps=some r):CallOk cx 200 (.ref 115) ps r:=by
 intro A E s H Q vs room cn x h
 refine ob_e hr fun ρ hz hr=>?_
 obtain ⟨hn,hr⟩:=ogo_i hr
 refine ob_e hr fun b hb hr=>?_
 have T0:=t0_ok K
 obtain ⟨S,AC⟩:=all_ok T0 10
 refine fun_enter (n:=10) (fn_digits2int K) (room.le (by decide)) cn x hz fun h₁ t₁ E' es hW I=>?_
 have hget:=(zipE_get (names:=["digits","n"]) (List.forall_mem_cons.mpr ⟨by kernel_rfl,List.forall_mem_cons.mpr ⟨by kernel_rfl,fun _ h=>nomatch h⟩⟩) x (by rw [en8'];exact hz)).2
 rw [sc8] at I
 rw [body8]
 have lk:(env8 P s.heap.objs.size).cells.lookup ("inner":Str)=some (s.heap.objs.size+3):=cs_8 _ _ _ (.tail _ (.head _))
 refine wpAny_execs_cons (def_inner (s:={ s with heap:=h₁,toks:=t₁ }) I T pt8 (an8 _ _) (q8_eq _ _) (cf8 _ _) (List.cons_ne_nil _ _) (cd8 _ _) ix8 lk (by rw [ei];exact Option.isNone_iff_eq_none.mp hn) fun f c' pm ctv h₃ t₃ nl fT cT e₃ I₃ hf hrec hcell=>?_)
 have Z:=inn_of (s:={ s with heap:=h₃,toks:=t₃ }) I₃ (O:=fun _=>False) (bind8 s.heap.objs.size c' pm ctv) (fun _ q=>q.elim) fT cT id id (cs_8 P _)
 have J:=inns_of (s:={ s with heap:=h₃,toks:=t₃ }) I₃ hf hrec (by kernel_rfl) hcell (ρf:=ρ) fun y b p ok g=>(by
  obtain ⟨rfl,v,hv,_⟩:=hget y b p ok g
  exact ⟨rfl,g,free8 _ _ _ (List.of_mem_zip hv).1⟩)
 have I₀:=I₃.ofAll (s:={ s with heap:=h₃,toks:=t₃ })
 have e₃:=es.into e₃ hW
 refine wpAny_execs_cons (wpAny_Return_some (wpAny_IfExp (S.ts ct8 I₀ hb fun h₄ t₄ e₄=>?_)))
 have I₄:=I₀.ext (tk':=t₄) e₄
 induction b using Bool.casesOn with
 | false =>
  rw [if_neg Bool.false_ne_true]
  obtain rfl:=Option.some.inj hr
  exact S.ev c08 I₄ (p:=.int 0) rfl fun v h₅ t₅ e₅ r₅ _=>h.plain (e₃.trans (e₄.trans e₅)) (r₅.scalar rfl)
 | true =>
  rw [if_pos rfl]
  refine ob_e hr fun as has hr=>?_
  obtain ⟨hs,hr⟩:=ogo_i hr
  refine callF (s:={ s with heap:=h₄,toks:=t₄ }) S.toSndN I₄ (fun h' e=>FnAt_of ((e₄.trans e).keep _ _ fT hf) rfl) (fun hq=>wpAny_Name (wpAny_loadName_cell I₄.kind ((I₃.cel _ ix8).1) lk (IsCell_map hcell fun o=>e₄.keep _ o fun t=>(I₃.noT.2 _ _ lk) t) hq) (by decide)) ca8 has fun vs h₅ t₅ e₅ r₅=>?_
  refine d2_ok T0 Z 60 as r hr (s:={ s with heap:=h₅,toks:=t₅ }) (Room.deeper (room.le (by decide))) (J.ext Z (.of (e₄.trans e₅) Z.tW)) (r₅.scalars hs) fun v h₆ t₆ e₆ r₆=>?_
  exact h.plain ((e₃.trans (e₄.trans e₅)).into e₆.ext fun a w=>w.elim .inl False.elim) (r₆.open' fun a q=>.inl q)
end
end Mine
end
section
set_option maxRecDepth 100000
open PySem PySem.Calls PyProof.Rows PySem.W
set_option genSizeOf false
set_option genInjectivity false
namespace Mine
noncomputable def pre70:List PS:=[.assign aN (.bin .mul (.list [.lit (.int 0)]) (.bin .fdiv (.bin .sub (.bin .add (.meth .bitLength (.var 98) []) (.var 111)) (.lit (.int 1))) (.var 111))) [98,111]]
noncomputable def arg7:List PE:=[.var 98,.lit (.int 0),.bi .len [.var aN]]
noncomputable def i2w (ρ:PEnv) (n:PV) (l:List PV) (b:Bool):Option PV:=match b with
 | true=>ob (evL S0 ρ arg7) fun as=>ogo (as.all PV.scalar) (ob (i2 [(111,false,n)] 60 as l) fun l'=>some (.list l'))
 | false=>some (.list l)
noncomputable def i2v (ρ:PEnv) (fl:Fl):Option PV:=match fl with
 | .next=>ogo (PEnv.get ρ innN).isNone (ob (PEnv.get ρ 111) fun bn=>ogo (!bn.1) (ob (ownL ρ aN) fun l=>ob (S0.ts ρ (.tv (.var 98))) (i2w ρ bn.2 l)))
 | _=>none
noncomputable def i2V (ps:List PV):Option PV:=ob (zipE [98,111] ps) fun ρ=>ob (exL S0 pre70 ρ) fun o=>i2v o.1 o.2
noncomputable def f7 (k:Nat):Stmt:=(fB 7).getD k stD
noncomputable def x7:Stmt:=(ifS (f7 2)).2.getD 0 stD
theorem body7:fB 7=(fB 7).take 1++[.FunctionDef "inner" n7.1 n7.2.1 [] none [] n7.2.2.1 none "inner" n7.2.2.2,.If (ifS (f7 2)).1 [exC x7] [] (f7 2).pos,.Return (some (.Name "a_digits" (kidS (f7 3) 0).pos)) (f7 3).pos]:=by kernel_rfl
theorem cs70:CSs (fS 7).names ((fB 7).take 1) pre70:=⟨20,by kernel_rfl⟩
theorem ct70:CT (fS 7).names (ifS (f7 2)).1 (.tv (.var 98)):=⟨20,by kernel_rfl⟩
theorem ca7:CEs (fS 7).names (argsE (kidS x7 0)) arg7:=⟨20,by kernel_rfl⟩
theorem ea:enc "a_digits"=aN:=by kernel_rfl
theorem en:enc "n"=111:=by kernel_rfl
theorem rec_ls {h:Heap} {c:Addr} {q:Str} {vs:List Value} (y:h.CodeRec (.ref c) q) (x:IsLs h c vs):False:=by
 obtain ⟨c,o,ws,t,e,e1,e2,_⟩:=y
 obtain rfl:=Value.ref.inj e
 obtain ⟨n,x⟩:=x
 obtain rfl:=Option.some.inj (x.symm.trans e1)
 exact nomatch e2
section
variable {cx:Cx} {P:Params}
theorem sp_i2 (K:C02 cx P) (T:TabIn cx 107 103 n7.2.2.2 qual7) {ps:List PV} {r:PV} (hr:i2V ps=some r):CallOk cx 200 (.ref 108) ps r:=by
 intro A E s H Q vs room cn x h
 refine ob_e hr fun ρ₀ hz hr=>ob_e hr fun o ho hr=>?_
 obtain ⟨ρ,fl⟩:=o
 induction fl using Fl.casesOn with
 | ret _=>exact nos hr
 | brk=>exact nos hr
 | next =>
 obtain ⟨hn,hr⟩:=ogo_i hr
 refine ob_e hr fun bn hbn hr=>?_
 obtain ⟨bb,nn⟩:=bn
 obtain ⟨hbb,hr⟩:=ogo_i hr
 obtain rfl:bb=false:=(Bool.not_eq_true' _).mp hbb
 refine ob_e hr fun l hl hr=>ob_e hr fun b hb hr=>?_
 have T0:=t0_ok K
 obtain ⟨S,AC⟩:=all_ok T0 10
 refine fun_enter (n:=10) (fn_int2digits K) (room.le (by decide)) cn x hz fun h₁ t₁ E' es hW I=>?_
 rw [sc7] at I
 rw [body7]
 refine execs_app (exs_ok (s:={ s with heap:=h₁,toks:=t₁ }) T0.toGOk S AC cs70 I ho fun h₂ t₂ ow e₂ sub I₂=>?_)
 have lk:(env7 P s.heap.objs.size).cells.lookup ("inner":Str)=some (s.heap.objs.size+3):=cs_7 _ _ _ (.tail _ (.head _))
 refine wpAny_execs_cons (def_inner (s:={ s with heap:=h₂,toks:=t₂ }) I₂ T pt7 (an7 _ _) (q7_eq _ _) (cf7 _ _) (List.cons_ne_nil _ _) (cd7 _ _) ix7 lk (by rw [ei];exact Option.isNone_iff_eq_none.mp hn) fun f c' pm ctv h₃ t₃ nl fT cT e₃ I₃ hf hrec hcell=>?_)
 obtain ⟨v,hv,_,hv2⟩:=I₃.vars "a_digits" true (.list l) (by kernel_rfl) (by rw [ea];exact ownL_i hl)
 obtain ⟨D,vs,rfl,hD,ls,rl⟩:=hv2 rfl
 have owD:=(hD D).mpr rfl
 obtain ⟨_,nHD,_,_,nGD⟩:=I₃.owL _ _ owD
 obtain ⟨ca,hca,hcD⟩:=cell_of (s:={ s with heap:=h₃,toks:=t₃ }) I₃ ax7 hv
 have Z:=inn_of (s:={ s with heap:=h₃,toks:=t₃ }) I₃ (O:=fun a=>a=D) (bind7 s.heap.objs.size c' pm ctv) (fun a q=>⟨_,(hD a).mpr q⟩) fT cT (fun z=>nl (z ▸ (I₂.owL _ _ owD).1)) (fun z=>rec_ls hrec (z ▸ ls)) (cs_7 P _)
 have J:=inns_of (s:={ s with heap:=h₃,toks:=t₃ }) I₃ hf hrec (by kernel_rfl) hcell (ρf:=[(111,false,nn)]) fun y b p ok g=>(by
  have g:(match Nat.beq (enc y) 111 with|true=>some (false,nn)|false=>none)=some (b,p):=g
  cases q:Nat.beq (enc y) 111 with
  | false=>rw [q] at g;exact nos g
  | true =>
   rw [q] at g
   obtain ⟨rfl,rfl⟩:=Prod.mk.inj (Option.some.inj g)
   obtain rfl:=nm_of ok q "n" (by kernel_rfl) en
   exact ⟨rfl,by rw [en];exact hbn,free7 _ _⟩)
 have L:LsD cx (HA H (env7 P s.heap.objs.size) (ownC (env7 P s.heap.objs.size)) ow) (fdOf (fnMade "inner" qual7 n7.1 n7.2.1 n7.2.2.1 (clos7 s.heap.objs.size) .none pm c' ctv)) D l h₃ :=
  ⟨⟨ca,(show (clos7 s.heap.objs.size).lookup ("a_digits":Str)=(env7 P s.heap.objs.size).cells.lookup ("a_digits":Str) by kernel_rfl).trans hca,hcD⟩,vs,ls,rl⟩
 have I₀:=I₃.ofAll (s:={ s with heap:=h₃,toks:=t₃ })
 have e₀:=es.into (WW_trans e₂ sub e₃) hW
 have fin:∀ {Qf:Flow→Shared→Prop} {Ef:Value→Shared→Prop} (hZ:Heap) (tZ:Nat) (l':List PV),(∀ v s',Q v s'→Qf (.ret v) s')→ExtL cx (WO cx fun a=>a=D) h₃ hZ→LsD cx (HA H (env7 P s.heap.objs.size) (ownC (env7 P s.heap.objs.size)) ow) (fdOf (fnMade "inner" qual7 n7.1 n7.2.1 n7.2.2.1 (clos7 s.heap.objs.size) .none pm c' ctv)) D l' hZ→r=.list l' →
   wpAny (model cx.prog cx.w) (A.deeper (env7 P s.heap.objs.size)) (execs [.Return (some (.Name "a_digits" (kidS (f7 3) 0).pos)) (f7 3).pos] (env7 P s.heap.objs.size)) Qf Ef { s with heap:=hZ,toks:=tZ }:=fun hZ tZ l' hQ eZ LZ hrl=>by
  obtain ⟨_,vs,ls,rl⟩:=LZ
  refine wpAny_execs_cons (wpAny_Return_some (wpAny_Name (wpAny_loadName_cell I₃.kind (I₃.cel _ ax7).1 hca (IsCell_map hcD fun o=>eZ.keep _ o (Z.cl _ _ (L.cell.elim fun _ q=>(by kernel_rfl:(clos7 s.heap.objs.size).lookup ("a_digits":Str)=(env7 P s.heap.objs.size).cells.lookup ("a_digits":Str)).trans hca)).2) ?_) (by decide)))
  subst hrl
  refine hQ _ _ (h.plain (e₀.into eZ.ext fun a w=>w.imp id fun z=>?_) (.list nHD ls (rl.open' fun a q=>.inl q)))
  exact fun q=>(sub _ _ (z ▸ owD)).elim (fun ⟨_,z⟩=>z) fun z=>z (es.live _ q)
 refine wpAny_execs_cons (wpAny_If (S.ts ct70 I₀ hb fun h₄ t₄ e₄=>?_))
 induction b using Bool.casesOn with
 | false =>
  rw [if_neg Bool.false_ne_true]
  exact wpAny_execs_nil (fin h₄ t₄ l (fun _ _ z=>z) (.of e₄ Z.tW) (L.ext Z nGD e₄) (Option.some.inj hr).symm)
 | true =>
  rw [if_pos rfl]
  refine ob_e hr fun as has hr=>?_
  obtain ⟨hs,hr⟩:=ogo_i hr
  refine ob_e hr fun l' hl' hr=>?_
  have I₄:=I₀.ext (tk':=t₄) e₄
  refine wpAny_execs_cons (wpAny_Expr (callF (s:={ s with heap:=h₄,toks:=t₄ }) S.toSndN I₄ (fun h' e=>FnAt_of ((e₄.trans e).keep _ _ fT hf) rfl) (fun hq=>wpAny_Name (wpAny_loadName_cell I₄.kind ((I₃.cel _ ix7).1) lk (IsCell_map hcell fun o=>e₄.keep _ o fun t=>(I₃.noT.2 _ _ lk) t) hq) (by decide)) ca7 has fun vs h₅ t₅ e₅ r₅=>?_) (not_interactive (s:={ s with heap:=h₃,toks:=t₃ }) I₃) (by kernel_rfl))
  refine i2_ok T0 Z nGD (.inr rfl) 60 as l l' hl' (s:={ s with heap:=h₅,toks:=t₅ }) (Room.deeper (room.le (by decide))) (J.ext Z (.of (e₄.trans e₅) Z.tW)) (L.ext Z nGD (e₄.trans e₅)) (r₅.scalars hs) fun h₆ t₆ e₆ L₆=>?_
  exact wpAny_execs_nil (fin h₆ t₆ l' (fun _ _ z=>z) ((ExtL.of (e₄.trans e₅) Z.tW).trans e₆) L₆ (Option.some.inj hr).symm)
end
end Mine
end
section
set_option maxRecDepth 100000
open PySem PySem.Calls PyProof.Rows PySem.W
set_option genSizeOf false
set_option genInjectivity false
namespace Mine
noncomputable def sp02 (x:Nat) (ps:List PV):Option PV:=match Nat.beq x i2N with
 | true=>i2V ps
 | false=>ogo (Nat.beq x d2N) (d2V ps)
theorem sp02_ok {cx:Cx} {P:Params} (K:C02 cx P) (T1:TabIn cx 107 103 n7.2.2.2 qual7) (T2:TabIn cx 114 110 n8.2.2.2 qual8):SpOk cx sp02:=by
 have go:∀ {x:Nat} {ps:List PV} {r:PV},sp02 x ps=some r→(x=i2N∧i2V ps=some r)∨(x=d2N∧d2V ps=some r):=fun {x ps r} h=>by
  have h:(match Nat.beq x i2N with|true=>i2V ps|false=>ogo (Nat.beq x d2N) (d2V ps))=some r:=h
  cases q:Nat.beq x i2N with
  | true=>rw [q] at h;exact .inl ⟨Nat.eq_of_beq_eq_true q,h⟩
  | false =>
   rw [q] at h
   obtain ⟨h1,h2⟩:=ogo_i h
   exact .inr ⟨Nat.eq_of_beq_eq_true h1,h2⟩
 refine ⟨fun x ps r h=>(go h).imp And.left And.left,fun f v ps r ok h hv=>?_⟩
 rcases go h with ⟨e,h⟩|⟨e,h⟩
 ·obtain rfl:=Option.some.inj ((call_at K ok (.tail _ (.head _)) e).2.symm.trans hv)
  exact sp_i2 K T1 h
 ·obtain rfl:=Option.some.inj ((call_at K ok (.tail _ (.tail _ (.head _))) e).2.symm.trans hv)
  exact sp_d2 K T2 h
noncomputable def LL:Lay:={ prog:=PP,C:=83,P1:=103,P2:=110,pos1:=n7.2.2.2,pos2:=n8.2.2.2,q1:=qual7,q2:=qual8 }
theorem str3 (P:Params):(match (objAt P 3).data with | .dict es _=>es.all (fun e=>match e.key with | .str _ _=>true|_=>false)|_=>false)=true:=by kernel_rfl
theorem tabA_i {a:Nat} (h:tabA a=false):a ≠ 103∧a ≠ 110:=by
 constructor
 ·rintro rfl;exact Bool.false_ne_true h.symm
 ·rintro rfl;exact Bool.false_ne_true h.symm
theorem ch1 (P:Params):codeHdIn [(107,objAt P 107)] 107 103=true:=by kernel_rfl
theorem ch2 (P:Params):codeHdIn [(114,objAt P 114)] 114 110=true:=by kernel_rfl
theorem one_in {h:Heap} {a:Addr} {o:Obj} (e:h.get? a=some o):Frag.In [(a,o)] h:=fun b ob q=>by
 rw [List.lookup_cons] at q
 cases z:b == a with
 | true =>
  rw [z] at q
  obtain rfl:=beq_iff_eq.mp z
  rw [e,Option.some.inj q]
 | false=>rw [z] at q;exact nos q
section
variable {w:World} {h₁:Heap} {mg mb:Str→Option Value} {X:AtCall LL h₁ mg mb} (hK:∀ b o,(H1 w.params).get? b=some o→h₁.get? b=some o)
include hK
theorem c02:C02 (cxOf LL w h₁ mg mb X) w.params:=by
 have keep:∀ a o,(H1 w.params).get? a=some o→tabA a=false→∀ h,(cxOf LL w h₁ mg mb X).GI h→h.get? a=some o:=fun a o e n h g=>g.1 a o (tabA_i n).1 (tabA_i n).2 (hK a o e)
 have at3:∀ {a:Nat},kAs.elem a=true→(H1 w.params).get? a=some (objAt w.params a):=fun {a} m=>objAt_eq (band (List.all_eq_true.mp (kAs_live w.params) a (List.mem_of_elem_eq_true m))).1
 exact ⟨keep,fun x=>X.g.agree (ns_of_obj (hK _ _ (at3 (a:=3) rfl)) (str3 _)) x,rfl,⟨_,hK _ _ (at3 (a:=83) rfl)⟩⟩
omit hK in
theorem bm_at {P:Addr} (hP:h₁.get? P=some (tabObj #[])):∀ h,(cxOf LL w h₁ mg mb X).GI h→h.BuiltinsAt mg P:=by
 intro h g
 obtain ⟨bm,ob,e1,e2,e3,e4,e5,e6⟩:=X.bm
 have n:ob.cls ≠ .none:=by rw [e4];intro q;cases q
 refine ⟨bm,ob,e1,e2,fun z=>?_,tab_ne e3 hP n,gi_obj (X:=X) e3 n h g,e4,e5,e6⟩
 obtain ⟨o,es,ep,ho,hd,_⟩:=X.g
 obtain rfl:=Option.some.inj ((z ▸ e3).symm.trans ho)
 exact nomatch e6.symm.trans hd
theorem tab1:TabIn (cxOf LL w h₁ mg mb X) 107 103 n7.2.2.2 qual7:=by
 refine ⟨fun h g=>g.2.1,fun h h' g k t=>⟨fun a o n e=>k a o (fun z=>n (.inl z)) e,fun a _ l=>?_,fun _=>⟨fun a o n1 n2 e=>k a o n1 (g.1 a o n1 n2 e),t,g.2.2.mono (fun o e=>k _ o (fun z=>X.t12 z.symm) e) fun a o c e=>k a o (fun z=>g.2.1.noCd o (show h.get? 103=some o from z ▸ e) c) e⟩⟩,fun h g=>codeHd_of_K (one_in ((c02 (X:=X) hK).at (a:=107) rfl h g)) (ch1 _),by decide,bm_at X.t1,fun h a g t n q r=>t.elim n fun t=>g.2.2.noRec (t ▸ r)⟩
 by_cases z:a=103
 ·exact z ▸ t.live
 ·obtain ⟨o,e⟩:=l
  exact ⟨o,k a o z e⟩
theorem tab2:TabIn (cxOf LL w h₁ mg mb X) 114 110 n8.2.2.2 qual8:=by
 refine ⟨fun h g=>g.2.2,fun h h' g k t=>⟨fun a o n e=>k a o (fun z=>n (.inr z)) e,fun a _ l=>?_,fun _=>⟨fun a o n1 n2 e=>k a o n2 (g.1 a o n1 n2 e),g.2.1.mono (fun o e=>k _ o (fun z=>X.t12 z) e) (fun a o c e=>k a o (fun z=>g.2.2.noCd o (show h.get? 110=some o from z ▸ e) c) e),t⟩⟩,fun h g=>codeHd_of_K (one_in ((c02 (X:=X) hK).at (a:=114) rfl h g)) (ch2 _),by decide,bm_at X.t2,fun h a g t n q r=>t.elim (fun t=>g.2.1.noRec (t ▸ r)) n⟩
 by_cases z:a=110
 ·exact z ▸ t.live
 ·obtain ⟨o,e⟩:=l
  exact ⟨o,k a o z e⟩
theorem law_call {n:Nat} {ps:List PV} {r:PV} (he:(sem (G02 sp02) n).fn 1978733 ps=some r):∃ v,mg "law"=some v∧CallOk (cxOf LL w h₁ mg mb X) (n+60) v ps r:=by
 have K:=c02 (X:=X) hK
 have e:enc "law"=1978733:=by kernel_rfl
 obtain ⟨_,hm⟩:=call_at K (f:="law") (by kernel_rfl) (t:=("law",1978733,249,F_law)) (.tail _ (.tail _ (.tail _ (.tail _ (.tail _ (.tail _ (.tail _ (.tail _ (.tail _ (.tail _ (.tail _ (.tail _ (.tail _ (.tail _ (.tail _ (.tail _ (.head _))))))))))))))))) e
 exact ⟨_,hm,(all_ok (top_ok K (sp02_ok K (tab1 (X:=X) hK) (tab2 (X:=X) hK))) n).1.fn "law" _ ps r (by kernel_rfl) hm (by rw [e];exact he)⟩
end
end Mine
end
section
set_option maxRecDepth 100000
open PySem
set_option genSizeOf false
set_option genInjectivity false
namespace Mine
@[reducible] noncomputable def nI (x:Nat):PV:=.int (x:Int)
theorem log2_le {n k:Nat} (h:n<2 ^ k):Nat.log2 n≤k:=by
 by_cases z:n=0
 ·subst z;exact Nat.zero_le _
 ·exact Nat.le_of_lt ((Nat.log2_lt z).mpr h)
theorem fits_int {i:Int} {k:Nat} (h:i.natAbs<2 ^ k) (hk:k<67108864):fits i=true:=Nat.blt_eq.mpr (Nat.lt_of_le_of_lt (log2_le h) hk)
theorem fits_nat {n k:Nat} (h:n<2 ^ k) (hk:k<67108864):fits (n:Int)=true:=fits_int (show (n:Int).natAbs<_ from h) hk
theorem ble_tr {a b:Nat} (h:a≤b):Nat.ble a b=true:=Nat.ble_eq.mpr h
theorem lo_tr {α:Type} {l:List α} (h:l.length≤1000000):lenOk l=true:=ble_tr h
theorem p2 (k:Nat):0<2 ^ k:=Nat.pow_pos (by decide)
theorem p2_le {a b:Nat} (h:a≤b):2 ^ a≤2 ^ b:=Nat.pow_le_pow_right (by decide) h
theorem ogT {α:Type} {b:Bool} {x:α} (h:b=true):og b x=some x:=by rw [h];rfl
theorem ognF {α:Type} {b:Bool} {x:α} (h:b=false):ogn b x=some x:=by rw [h];rfl
theorem pI (s:Nat):(2:Int) ^ s=((2 ^ s:Nat):Int):=(Int.natCast_pow 2 s).symm
theorem b_shr {x s:Nat} (hs:s≤67108864):binV .shr (nI x) (nI s)=some (nI (x / 2 ^ s)) :=
 (show _=og (Nat.ble s 67108864) (PV.int ((x:Int).fdiv (2 ^ s))) from rfl).trans ((ogT (ble_tr hs)).trans (congrArg (fun i=>some (PV.int i)) (by rw [pI,← Int.ofNat_fdiv])))
theorem b_shl {x s:Nat} (h:Nat.log2 x+1+s≤67108864):binV .shl (nI x) (nI s)=some (nI (x*2 ^ s)) :=
 (show _=og (Nat.ble (Nat.log2 x+1+s) 67108864) (PV.int ((x:Int)*2 ^ s)) from rfl).trans ((ogT (ble_tr h)).trans (congrArg (fun i=>some (PV.int i)) (by rw [pI,← Int.natCast_mul])))
theorem b_mul {a b:Nat} (ha:fits (a:Int)=true) (hb:fits (b:Int)=true):binV .mul (nI a) (nI b)=some (nI (a*b)) :=
 (show _=og (fits a && fits b) (PV.int ((a:Int)*b)) from rfl).trans (ogT (by rw [ha,hb];rfl))
theorem nat_or_shift (x s:Nat):x ||| ((x / 2 ^ s)*2 ^ s)=x:=by
 apply Nat.eq_of_testBit_eq
 intro i
 rw [Nat.testBit_or,← Nat.shiftLeft_eq,← Nat.shiftRight_eq_div_pow,Nat.testBit_shiftLeft,Nat.testBit_shiftRight]
 by_cases h:s≤i
 ·rw [Nat.add_sub_cancel' h,decide_eq_true h,Bool.true_and,Bool.or_self]
 ·rw [decide_eq_false h,Bool.false_and,Bool.or_false]
theorem nat_and_shift (x s:Nat):x &&& ((x / 2 ^ s)*2 ^ s)=(x / 2 ^ s)*2 ^ s:=by
 apply Nat.eq_of_testBit_eq
 intro i
 rw [Nat.testBit_and,← Nat.shiftLeft_eq,← Nat.shiftRight_eq_div_pow,Nat.testBit_shiftLeft,Nat.testBit_shiftRight]
 by_cases h:s≤i
 ·rw [Nat.add_sub_cancel' h,decide_eq_true h,Bool.true_and,Bool.and_self]
 ·rw [decide_eq_false h,Bool.false_and,Bool.and_false]
theorem not_neg (x:Nat):Builtin.bitNot (x:Int)=Int.negSucc x:=by unfold Builtin.bitNot;rw [Int.negSucc_eq,Int.neg_add];rfl
theorem neg_not (x:Nat):Builtin.bitNot (Int.negSucc x)=x:=Int.add_sub_cancel (x:Int) 1
theorem bitOr_nat (x y:Nat):Builtin.bitOr x y=((x ||| y:Nat):Int):=by
 unfold Builtin.bitOr
 rw [not_neg,not_neg]
 show Builtin.bitNot (Builtin.bitNot (((Builtin.bitNot (.negSucc x)).toNat ||| (Builtin.bitNot (.negSucc y)).toNat:Nat):Int))=_
 rw [neg_not x,neg_not y,not_neg,neg_not]
 rfl
theorem b_xor {x s:Nat}:binV .bxor (nI x) (nI (x / 2 ^ s*2 ^ s))=some (nI (x % 2 ^ s)):=by
 refine (show _=some (PV.int (Builtin.bitOr x ((x / 2 ^ s*2 ^ s:Nat):Int) - ((x &&& (x / 2 ^ s*2 ^ s):Nat):Int))) from rfl).trans (congrArg (fun i=>some (PV.int i)) ?_)
 rw [bitOr_nat,nat_or_shift,nat_and_shift]
 exact Int.sub_eq_iff_eq_add.mpr (by rw [← Int.natCast_add,Nat.mod_add_div'])
theorem intBeq_dec (a b:Int):intBeq a b=decide (a=b):=rfl
theorem intBeq_nat (a b:Nat):intBeq (a:Int) (b:Int)=decide (a=b):=by
 rw [intBeq_dec];exact decide_eq_decide.mpr Int.ofNat_inj
end Mine
end
section
set_option maxRecDepth 100000
open PySem
set_option genSizeOf false
set_option genInjectivity false
namespace Mine
theorem obs {α β:Type} {o:Option α} {f:α→Option β} {a:α} {x:Option β} (h:o=some a) (h2:f a=x):ob o f=x:=by rw [h];exact h2
section
variable {r:Rc} {ρ ρ':PEnv} {l:List PS} {s:PS} {v:PV} {x:Nat} {e:PE} {oc:List Nat} {q:Option (PEnv × Fl)}
theorem exL_n (h:exS r ρ s=some (ρ',.next)) (h2:exL r l ρ'=q):exL r (s :: l) ρ=q:=obs h h2
theorem exL_r (h:exS r ρ s=some (ρ',.ret v)):exL r (s :: l) ρ=some (ρ',.ret v):=obs h rfl
theorem exL_1 (h:exS r ρ s=some (ρ',.next)):exL r [s] ρ=some (ρ',.next):=obs h rfl
theorem exL_app:∀ {l₁:List PS} {ρ:PEnv},exL r l₁ ρ=some (ρ',.next)→exL r l ρ'=q→exL r (l₁++l) ρ=q
 | [],_,h,h2=>(Prod.mk.inj (Option.some.inj h)).1 ▸ h2
 | s :: l₁,ρ,h,h2=>ob_e h fun o ho h=>by
  refine obs ho ?_
  obtain ⟨ρ₁,fl⟩:=o
  induction fl using Fl.casesOn with
  | next=>exact exL_app h h2
  | brk=>exact nomatch (Prod.mk.inj (Option.some.inj h)).2
  | ret v=>exact nomatch (Prod.mk.inj (Option.some.inj h)).2
theorem s_as (h:r.ev (PEnv.only oc ρ) e=some v):exS r ρ (.assign x e oc)=some (PEnv.set (frz v oc ρ) x (freshE e v) v,.next):=obs h rfl
theorem s_rt (h:r.ev (PEnv.only oc ρ) e=some v):exS r ρ (.ret e oc)=some (ρ,.ret v):=obs h rfl
theorem s_un {xs:List Nat} (h:r.ev (PEnv.only oc ρ) e=some v) (h2:bindT xs false v (PEnv.freeze oc ρ)=some ρ'):exS r ρ (.unpack xs e oc)=some (ρ',.next):=obs h (obs h2 rfl)
theorem s_ap {k:List PV} (h:r.ev (PEnv.only oc ρ) e=some v) (h2:ownL (frz v oc ρ) x=some k) (h3:k.length≤1000000):exS r ρ (.append x e oc)=some (PEnv.set (frz v oc ρ) x true (.list (k++[v])),.next):=obs h (obs h2 (ogT (lo_tr h3)))
theorem s_t {c:PE} {a b:List PS} (h:r.ts ρ c=some true) (h2:r.ex ρ a=q):exS r ρ (.if_ c a b)=q:=(show oif (r.ts ρ c) _ _=q by rw [h];exact h2)
theorem s_f {c:PE} {a b:List PS} (h:r.ts ρ c=some false) (h2:r.ex ρ b=q):exS r ρ (.if_ c a b)=q:=(show oif (r.ts ρ c) _ _=q by rw [h];exact h2)
theorem s_for {xs:List Nat} {si b:Bool} {it:PE} {bd els:List PS} {ps:List PV} (h:iterV r (PEnv.only oc ρ) it=some (ps,b)) (h2:forGo r xs si bd els ps (match b with|true=>PEnv.freeze oc ρ|false=>ρ)=q):exS r ρ (.for_ xs si it oc bd els)=q:=obs h (by cases b <;> exact h2)
theorem evL_c {l:List PE} {vs:List PV} (h1:r.ev ρ e=some v) (h2:evL r ρ l=some vs):evL r ρ (e :: l)=some (v :: vs):=obs h1 (obs h2 rfl)
theorem evL_1 (h1:r.ev ρ e=some v):evL r ρ [e]=some [v]:=evL_c h1 rfl
theorem evL_2 {e₂:PE} {v₂:PV} (h1:r.ev ρ e=some v) (h2:r.ev ρ e₂=some v₂):evL r ρ [e,e₂]=some [v,v₂]:=evL_c h1 (evL_1 h2)
theorem evL_3 {e₂ e₃:PE} {v₂ v₃:PV} (h1:r.ev ρ e=some v) (h2:r.ev ρ e₂=some v₂) (h3:r.ev ρ e₃=some v₃):evL r ρ [e,e₂,e₃]=some [v,v₂,v₃]:=evL_c h1 (evL_2 h2 h3)
end
noncomputable abbrev Sm (n:Nat):Rc:=sem (G02 sp02) n
theorem for_inv {k:Nat} {xs:List Nat} {si:Bool} {bd:List PS} {α β:Type} {I:Nat→α→PEnv→Prop} {ok:β→Prop} {g:β→PV} {st:α→β→α}
  (hs:∀ n a b ρ,I (n+1) a ρ→ok b→∃ ρ₁ ρ',bindT xs si (g b) ρ=some ρ₁∧(Sm (k+1)).ex ρ₁ bd=some (ρ',.next)∧I n (st a b) ρ'):∀ (l:List β) (a:α) (ρ:PEnv),I l.length a ρ→(∀ b∈l,ok b)→∃ ρ',forGo (Sm (k+1)) xs si bd [] (l.map g) ρ=some (ρ',.next)∧I 0 (l.foldl st a) ρ'
 | [],_,ρ,h,_=>⟨ρ,rfl,h⟩
 | b :: l,a,ρ,h,hk=>by
  obtain ⟨ρ₁,ρ',h1,h2,h3⟩:=hs _ a b ρ h (hk b (.head _))
  obtain ⟨ρ₂,h4,h5⟩:=for_inv hs l _ ρ' h3 fun c hc=>hk c (.tail _ hc)
  exact ⟨ρ₂,obs h1 (obs h2 h4),h5⟩
theorem comp_inv {r:Rc} {elt:PE} {xs:List Nat} {si:Bool} {ifs:List PE} {β:Type} {I:PEnv→Prop} {ok:β→Prop} {g f:β→PV} {c:β→Bool}
  (hs:∀ b ρ,I ρ→ok b→∃ ρ₁,bindT xs si (g b) ρ=some ρ₁∧allT r ρ₁ ifs=some (c b)∧(c b=true→r.ev ρ₁ elt=some (f b))∧I ρ₁):∀ (l:List β) (ρ:PEnv),I ρ→(∀ b∈l,ok b)→compGo r elt xs si ifs (l.map g) ρ=some ((l.filter c).map f)
 | [],_,_,_=>rfl
 | b :: l,ρ,h,hk=>by
  obtain ⟨ρ₁,h1,h2,h3,h4⟩:=hs b ρ h (hk b (.head _))
  have ih:=comp_inv hs l ρ₁ h4 fun c hc=>hk c (.tail _ hc)
  refine obs h1 ?_
  rw [h2,List.filter_cons]
  cases hc:c b with
  | true=>exact obs (h3 hc) (obs ih rfl)
  | false=>exact ih
theorem comp_all {r:Rc} {elt:PE} {x:Nat} {β:Type} {ρ₀:PEnv} {ok:β→Prop} {g f:β→PV} (hs:∀ b ρ,(ρ=ρ₀∨∃ y,ρ=PEnv.set ρ₀ x false y)→ok b→r.ev (PEnv.set ρ x false (g b)) elt=some (f b)∧∃ y,PEnv.set ρ x false (g b)=PEnv.set ρ₀ x false y) (l:List β) (hl:∀ b∈l,ok b):compGo r elt [x] true [] (l.map g) ρ₀=some (l.map f):=by
 refine (comp_inv (I:=fun ρ=>ρ=ρ₀∨∃ y,ρ=PEnv.set ρ₀ x false y) (c:=fun _=>true) (fun b ρ h ho=>⟨_,rfl,rfl,fun _=>(hs b ρ h ho).1,.inr (hs b ρ h ho).2⟩) l ρ₀ (.inl rfl) hl).trans ?_
 rw [List.filter_eq_self.mpr fun _ _=>rfl]
section
variable {n f:Nat} {vs:List PV} {fp:FnP} {v:PV}
theorem fn_pl (h1:sp02 f vs=none) (h2:lookF fnL f=some fp):(Sm (n+1)).fn f vs=runF (Sm n) fp vs:=by
 show om (ogo (Nat.ble 140 n) (sp02 f vs)) some (om (lookF fnL f) (fun fp=>runF (Sm n) fp vs) _)=_
 rw [h1,h2]
 cases Nat.ble 140 n <;> rfl
theorem fn_sp (hn:140≤n) (h1:sp02 f vs=some v):(Sm (n+1)).fn f vs=some v:=by
 show om (ogo (Nat.ble 140 n) (sp02 f vs)) some _=_
 rw [ble_tr hn,h1]
 rfl
theorem run_r {ρ ρ':PEnv} (h1:zipE fp.params vs=some ρ) (h2:exL (Sm n) fp.body ρ=some (ρ',.ret v)):runF (Sm (n+1)) fp vs=some v:=obs h1 (obs h2 rfl)
theorem me_run {m:Nat} (h:lookF meL m=some fp):(Sm (n+1)).me m vs=runF (Sm n) fp vs:=obs h rfl
variable {ρ:PEnv} {e:PE} {l:List PE}
theorem ev_call {q:Option PV} (h1:evL (Sm n) ρ l=some vs) (h2:(Sm n).fn f vs=q):(Sm (n+1)).ev ρ (.call f l)=q:=obs h1 h2
theorem ev_im {m:Nat} {ks:List Nat} {ps:List PV} {q:Option PV} (h1:(Sm n).ev ρ e=some (.inst ks ps)) (h2:PEnv.has ks m=false) (h3:evL (Sm n) ρ l=some vs) (h4:(Sm n).me m (.inst ks ps :: vs)=q):(Sm (n+1)).ev ρ (.imeth e m l)=q:=obs h1 (obs (show inst? (.inst ks ps)=some (ks,ps) from rfl) (obs (ognF h2) (obs h3 h4)))
theorem ev_comp {elt iter:PE} {xs:List Nat} {si b:Bool} {ifs:List PE} {caps:List Nat} {ps:List PV} (h1:iterV (Sm n) ρ iter=some (ps,b)) (h2:compGo (Sm n) elt xs si ifs ps (PEnv.cap caps ρ)=some vs) (h3:vs.length≤1000000):(Sm (n+1)).ev ρ (.comp elt xs si iter ifs caps)=some (.list vs):=obs h1 (obs h2 (ogT (lo_tr h3)))
theorem it_tv {ps:List PV} (h:(Sm n).ev ρ e=some (.list ps)) (hl:ps.length≤1000000):iterV (Sm n) ρ (.tv e)=some (ps,true):=obs h (ogT (lo_tr hl))
theorem it_s {x:List Nat} (h:(Sm n).ev ρ e=some (.str x)) (hl:x.length≤1000000):iterV (Sm n) ρ (.tv e)=some (x.map fun c=>.str [c],false):=obs h (ogT (lo_tr hl))
theorem ev_cmp {k:CmpK} {a b:PE} {x y:PV} {z:Bool} (h1:(Sm n).ev ρ a=some x) (h2:(Sm n).ev ρ b=some y) (h3:cmpV k x y=some z):(Sm (n+1)).ev ρ (.cmp k a b)=some (.bool z):=obs h1 (obs h2 (obs h3 rfl))
theorem ts_cmp {k:CmpK} {a b:PE} {x y:PV} {z:Bool} (h1:(Sm n).ev ρ a=some x) (h2:(Sm n).ev ρ b=some y) (h3:cmpV k x y=some z):(Sm (n+1)).ts ρ (.cmp k a b)=some z:=obs h1 (obs h2 h3)
theorem ev_bin {k:BinK} {a b:PE} {x y:PV} {q:Option PV} (h1:(Sm n).ev ρ a=some x) (h2:(Sm n).ev ρ b=some y) (h3:binV k x y=q):(Sm (n+1)).ev ρ (.bin k a b)=q:=obs h1 (obs h2 h3)
theorem ev_bi {k:BI} {q:Option PV} (h1:evL (Sm n) ρ l=some vs) (h2:biV k vs=q):(Sm (n+1)).ev ρ (.bi k l)=q:=obs h1 h2
end
noncomputable abbrev nums (c:List Nat):List PV:=c.map nI
theorem nums_len (c:List Nat):(nums c).length=c.length:=List.length_map ..
theorem place_nat {i n:Nat} (h:i<n):place (i:Int) n=some i:=ogT (Nat.blt_eq.mpr h)
theorem seat_nat {α:Type} {l:List α} {i:Nat} (h:i<l.length) (h2:l.length≤1000000):seat (i:Int) l=some i:=obs (place_nat h) (ogT (lo_tr h2))
theorem idx_nums {c:List Nat} {b:Nat} (h:b<c.length) (h2:c.length≤1000000):idxV (.list (nums c)) (nI b)=some (nI (c.getD b 0)):=by
 refine (obs (seat_nat ((nums_len c).symm ▸ h) ((nums_len c).symm ▸ h2)) ?_)
 rw [List.getElem?_map,List.getD_eq_getElem?_getD,List.getElem?_eq_getElem h]
 rfl
theorem idx_tup {c:List Nat} {b:Nat} (h:b<c.length) (h2:c.length≤1000000):idxV (.tup (nums c)) (nI b)=some (nI (c.getD b 0)):=idx_nums h h2
theorem rangeUp_map:∀ (m i:Nat),rangeUp (i:Nat) m=(List.range' i m).map nI
 | 0,_=>rfl
 | m+1,i=>congrArg (nI i :: ·) (rangeUp_map m (i+1))
theorem len_nums {c:List Nat} (h:c.length≤1000000):lenV (.list (nums c))=some (nI c.length):=(ogT (lo_tr ((nums_len c).symm ▸ h))).trans (congrArg (fun n=>some (nI n)) (nums_len c))
noncomputable def total:List Nat→Nat
 | []=>0
 | a :: r=>a+total r
theorem sumV_nums:∀ (c:List Nat) (a:Nat),sumV (nums c) a=some ((a+total c:Nat):Int)
 | [],_=>rfl
 | x :: c,a=>(sumV_nums c (a+x)).trans (by rw [total,Nat.add_assoc])
theorem sum_nums {c:List Nat} (h:c.length≤1000000):biV .sum [.list (nums c)]=some (nI (total c)) :=
 obs (ogT (lo_tr ((nums_len c).symm ▸ h))) (obs (sumV_nums c 0) (by rw [Nat.zero_add]))
theorem eqvL_nums {n:Nat}:∀ (a b:List Nat),eqvL (eqv (n+1)) (nums a) (nums b)=some (decide (a=b))
 | [],[]=>rfl
 | [],_ :: _=>rfl
 | _ :: _,[]=>rfl
 | x :: a,y :: b=>by
  refine obs (show eqv (n+1) (nI x) (nI y)=some (decide (x=y)) from congrArg some (intBeq_nat x y)) (obs (eqvL_nums a b) (congrArg some ?_))
  by_cases h:x=y
  ·subst h
   rw [decide_eq_true rfl,Bool.true_and]
   exact decide_eq_decide.mpr ⟨fun e=>e ▸ rfl,fun e=>(List.cons.inj e).2⟩
  ·rw [decide_eq_false h,decide_eq_false fun e=>h (List.cons.inj e).1]
   rfl
end Mine
end
section
set_option maxRecDepth 100000
open PySem
set_option genSizeOf false
set_option genInjectivity false
namespace Mine
noncomputable def evN (q:Nat):List Nat→Nat
 | []=>0
 | a :: r=>a+q*evN q r
theorem evN_app (q:Nat) (b:List Nat):∀ a:List Nat,evN q (a++b)=evN q a+q ^ a.length*evN q b
 | []=>by rw [List.nil_append,evN,Nat.zero_add,List.length_nil,Nat.pow_zero,Nat.one_mul]
 | x :: a=>by rw [List.cons_append,evN,evN_app q b a,evN,List.length_cons,Nat.mul_add,Nat.pow_succ',Nat.mul_assoc,Nat.add_assoc]
theorem cons_lt {a q v n:Nat} (h1:a<q) (h2:v<n):a+q*v<q*n:=Nat.lt_of_lt_of_le (Nat.add_lt_add_right h1 _) (by rw [Nat.add_comm,← Nat.mul_succ];exact Nat.mul_le_mul_left q h2)
theorem evN_lt {n:Nat}:∀ {c:List Nat},(∀ x∈c,x<2 ^ n)→evN (2 ^ n) c<2 ^ (n*c.length)
 | [],_=>p2 _
 | a :: c,h=>by
  rw [evN,List.length_cons,Nat.mul_succ,Nat.pow_add,Nat.mul_comm (2 ^ (n*c.length))]
  exact cons_lt (h a (.head _)) (evN_lt fun x hx=>h x (.tail _ hx))
noncomputable def digF (n:Nat):Nat→Nat→List Nat
 | 0,_=>[]
 | m+1,x=>x % 2 ^ n :: digF n m (x / 2 ^ n)
theorem digF_len (n:Nat):∀ m x,(digF n m x).length=m
 | 0,_=>rfl
 | m+1,x=>congrArg Nat.succ (digF_len n m _)
theorem digF_lt {n:Nat}:∀ {m x:Nat},∀ d∈digF n m x,d<2 ^ n
 | m+1,x,d,h=>by
  rcases List.mem_cons.mp h with rfl|h
  ·exact Nat.mod_lt _ (p2 n)
  ·exact digF_lt d h
theorem digF_val {n:Nat}:∀ {m x:Nat},x<2 ^ (n*m)→evN (2 ^ n) (digF n m x)=x
 | 0,x,h=>(Nat.lt_one_iff.mp h).symm
 | m+1,x,h=>by
  rw [digF,evN,digF_val (Nat.div_lt_of_lt_mul (by rw [← Nat.pow_add,Nat.add_comm,← Nat.mul_succ];exact h)),Nat.mod_add_div]
theorem digF_add (n b:Nat):∀ a x,digF n (a+b) x=digF n a (x % 2 ^ (n*a))++digF n b (x / 2 ^ (n*a))
 | 0,x=>by rw [Nat.zero_add,digF,List.nil_append,Nat.mul_zero,Nat.pow_zero,Nat.div_one]
 | a+1,x=>by
  have e:2 ^ (n*(a+1))=2 ^ n*2 ^ (n*a):=by rw [Nat.mul_succ,Nat.add_comm,Nat.pow_add]
  rw [Nat.succ_add,digF,digF_add n b a,digF,List.cons_append,e,Nat.mod_mul_right_mod,Nat.mod_mul_right_div_self,Nat.div_div_eq_div_mul]
noncomputable def ρD (D:PV) (n:Nat):PEnv:=[(dgN,false,D),(111,false,nI n)]
noncomputable def e8 (L R:Nat) (ρf:PEnv):PEnv:=(77,false,nI L) :: (83,false,nI R) :: ρf
theorem half_lt {m:Nat} (h:2≤m):0<m / 2∧m / 2+(m - m / 2)=m∧0<m - m / 2∧m - m / 2<m∧m / 2<m :=
 have h1:m / 2<m:=Nat.div_lt_self (Nat.lt_of_lt_of_le (by decide) h) (by decide)
 have h0:0<m / 2:=Nat.div_pos h (by decide)
 ⟨h0,Nat.add_sub_cancel' (Nat.le_of_lt h1),Nat.sub_pos_of_lt h1,Nat.sub_lt (Nat.lt_of_lt_of_le (by decide) h) h0,h1⟩
theorem mid_eq (L m:Nat):(L+(L+m)) / 2 ^ 1=L+m / 2:=by
 rw [Nat.pow_one,← Nat.add_assoc,← Nat.two_mul,Nat.mul_add_div (by decide)]
theorem b_mid (L m:Nat):binV .shr (nI (L+(L+m))) (nI 1)=some (nI (L+m / 2)):=(b_shr (by decide)).trans (by rw [mid_eq])
theorem b_sh {L h n:Nat} (hn:n≤10000) (hh:h≤60):binV .mul (.int (((L+h:Nat):Int) - (L:Nat))) (nI n)=some (nI (n*h)):=by
 rw [Int.natCast_add,Int.add_comm,Int.add_sub_cancel,Nat.mul_comm]
 exact b_mul (fits_nat (k:=6) (Nat.lt_of_le_of_lt hh (by decide)) (by decide)) (fits_nat (k:=14) (Nat.lt_of_le_of_lt hn (by decide)) (by decide))
theorem sh_le {n h:Nat} (hn:n≤10000) (hh:h≤60):n*h≤600000:=Nat.mul_le_mul hn hh
theorem one_dec {L m:Nat}:intBeq ((L:Int)+1) ((L+m:Nat):Int)=decide (m=1):=(intBeq_nat (L+1) (L+m)).trans (decide_eq_decide.mpr ⟨fun e=>(Nat.add_left_cancel e).symm,fun e=>by rw [e]⟩)
theorem d2k_n {rec:List PV→Option PV} {ρ:PEnv} {as bs:List PV} {hi sh a lo r:PV} (h1:evL S0 ρ hi8=some as) (h2:rec as=some hi) (h3:S0.ev ρ (.var 31624705268)=some sh) (h4:binV .shl hi sh=some a) (h5:evL S0 ρ lo8=some bs) (h6:rec bs=some lo) (h7:binV .add a lo=some r):d2k rec ρ .next=some r:=obs h1 (obs h2 (obs h3 (obs h4 (obs h5 (obs h6 h7)))))
theorem d2_spec {D:PV} {n:Nat} {all:List Nat} (hn:n≤10000) (hD:∀ i,i<all.length→idxV D (nI i)=some (nI (all.getD i 0))) :
  ∀ (k:Nat) (A c C:List Nat),all=A++(c++C)→0<c.length→c.length≤k→c.length≤60→(∀ x∈c,x<2 ^ n)→d2 (ρD D n) k [nI A.length,nI (A.length+c.length)]=some (nI (evN (2 ^ n) c))
 | 0,A,c,C,_,h0,h1,_,_=>absurd (Nat.lt_of_lt_of_le h0 h1) (Nat.lt_irrefl 0)
 | k+1,A,c,C,ha,h0,h1,h2,hc=>by
  have ht:S0.ts (e8 A.length (A.length+c.length) (ρD D n)) c7T=some (intBeq ((A.length:Nat)+1) ((A.length+c.length:Nat):Int)):=by kernel_rfl
  rw [one_dec] at ht
  by_cases e:c.length=1
  ·rw [decide_eq_true e] at ht
   obtain ⟨x,rfl⟩:=List.length_eq_one_iff.mp e
   have hv:(sem G0 9).ev (PEnv.only [4017360614757,77] (e8 A.length (A.length+[x].length) (ρD D n))) (.idx (.var 4017360614757) (.var 77))=some (nI x) :=
    (show _=idxV D (nI A.length) by kernel_rfl).trans ((hD _ (by rw [ha,List.length_append];exact Nat.lt_add_of_pos_right (Nat.succ_pos _))).trans (by rw [ha,List.getD_eq_getElem?_getD,List.getElem?_append_right (Nat.le_refl _),Nat.sub_self];rfl))
   exact obs rfl (obs (exL_r (s_t ht (exL_r (s_rt hv)))) rfl)
  ·rw [decide_eq_false e] at ht
   obtain ⟨p1,p2',p3,p4,p5⟩:=half_lt (Nat.lt_of_le_of_ne h0 (Ne.symm e))
   generalize hh:c.length / 2=h at p1 p2' p3 p4 p5
   have hL:(c.take h).length=h:=List.length_take_of_le (Nat.le_of_lt p5)
   have hR:(c.drop h).length=c.length - h:=List.length_drop ..
   have hcc:c.take h++c.drop h=c:=List.take_append_drop h c
   have i1:=d2_spec hn hD k (A++c.take h) (c.drop h) C (by rw [ha,List.append_assoc,← List.append_assoc (c.take h),hcc]) (hR ▸ p3) (hR ▸ Nat.le_of_lt_succ (Nat.lt_of_lt_of_le p4 h1)) (hR ▸ Nat.le_trans (Nat.le_of_lt p4) h2) fun x hx=>hc x (List.mem_of_mem_drop hx)
   have i2:=d2_spec hn hD k A (c.take h) (c.drop h++C) (by rw [ha,← List.append_assoc (c.take h),hcc]) (by rw [hL];exact p1) (by rw [hL];exact Nat.le_of_lt_succ (Nat.lt_of_lt_of_le p5 h1)) (by rw [hL];exact Nat.le_trans (Nat.le_of_lt p5) h2) fun x hx=>hc x (List.mem_of_mem_take hx)
   rw [List.length_append,hL,hR,Nat.add_assoc,p2'] at i1
   rw [hL] at i2
   have hb:=evN_lt (n:=n) (c:=c.drop h) fun x hx=>hc x (List.mem_of_mem_drop hx)
   have hm:S0.ev (PEnv.only [77,83] (e8 A.length (A.length+c.length) (ρD D n))) (.bin .shr (.bin .add (.var 77) (.var 83)) (.lit (.int 1)))=some (nI (A.length+h)):=(show _=binV .shr (nI (A.length+(A.length+c.length))) (nI 1) by kernel_rfl).trans (hh ▸ b_mid _ _)
   have hs:S0.ev (PEnv.only [1668462,77,111] (e8 A.length (A.length+c.length) (ρD D n++[(1668462,false,nI (A.length+h))]))) (.bin .mul (.bin .sub (.var 1668462) (.var 77)) (.var 111))=some (nI (n*h)) :=
    (show _=binV .mul (.int (((A.length+h:Nat):Int) - (A.length:Nat))) (nI n) by kernel_rfl).trans (b_sh hn (Nat.le_trans (Nat.le_of_lt p5) h2))
   refine obs rfl (obs (exL_n (s_f ht rfl) (exL_n (s_as hm) (exL_1 (s_as hs)))) ?_)
   refine d2k_n (as:=[nI (A.length+h),nI (A.length+c.length)]) (sh:=nI (n*h)) (bs:=[nI A.length,nI (A.length+h)]) (by kernel_rfl) i1 (by kernel_rfl) (b_shl (Nat.le_trans (Nat.add_le_add (Nat.add_le_add_right (log2_le hb) 1) (sh_le hn (Nat.le_trans (Nat.le_of_lt p5) h2))) ?_)) (by kernel_rfl) i2 ?_
   ·rw [hR]
    exact Nat.le_trans (Nat.add_le_add_right (Nat.add_le_add_right (sh_le hn (Nat.le_trans (Nat.le_of_lt p4) h2)) 1) _) (by decide)
   ·have:=evN_app (2 ^ n) (c.drop h) (c.take h)
    rw [hcc,hL,← Nat.pow_mul] at this
    rw [this,Nat.add_comm,Nat.mul_comm]
    rfl
end Mine
end
section
set_option maxRecDepth 100000
open PySem
set_option genSizeOf false
set_option genInjectivity false
namespace Mine
theorem nums_app (a b:List Nat):nums (a++b)=nums a++nums b:=List.map_append
noncomputable def e7 (x L R n:Nat):PEnv:=[(121,false,nI x),(77,false,nI L),(83,false,nI R),(111,false,nI n)]
theorem i2n_n {rec:List PV→List PV→Option (List PV)} {ρ:PEnv} {l l₁:List PV} {as bs:List PV} {q:Option (List PV)} (h1:evL S0 ρ lo7=some as) (h2:rec as l=some l₁) (h3:evL S0 ρ hi7=some bs) (h4:rec bs l₁=q):i2n rec ρ l .next=q:=obs h1 (obs h2 (obs h3 h4))
theorem i2_spec {n:Nat} (hn:n≤10000):∀ (k x:Nat) (A Z C:List PV),0<Z.length→Z.length≤k→Z.length≤60→x<2 ^ (n*Z.length)→(A++(Z++C)).length≤1000000 →
  i2 [(111,false,nI n)] k [nI x,nI A.length,nI (A.length+Z.length)] (A++(Z++C))=some (A++(nums (digF n Z.length x)++C))
 | 0,_,_,_,_,h0,h1,_,_,_=>absurd (Nat.lt_of_lt_of_le h0 h1) (Nat.lt_irrefl 0)
 | k+1,x,A,Z,C,h0,h1,h2,hx,hl=>by
  have ht:S0.ts (e7 x A.length (A.length+Z.length) n) c7T=some (intBeq ((A.length:Nat)+1) ((A.length+Z.length:Nat):Int)):=by kernel_rfl
  rw [one_dec] at ht
  by_cases e:Z.length=1
  ·rw [decide_eq_true e] at ht
   obtain ⟨z,rfl⟩:=List.length_eq_one_iff.mp e
   refine obs rfl (obs ht ?_)
   refine (show i2k _ _ _ true=_ from obs (a:=nI x) (by kernel_rfl) (obs (a:=nI A.length) (by kernel_rfl) (obs (a:=(A.length:Int)) rfl (obs (a:=A.length) rfl (obs (seat_nat (by rw [List.length_append];exact Nat.lt_add_of_pos_right (Nat.succ_pos _)) hl) rfl))))).trans ?_
   rw [List.set_append_right _ _ (Nat.le_refl _),Nat.sub_self,List.length_singleton,digF,Nat.mod_eq_of_lt (by simpa using hx)]
   rfl
  ·rw [decide_eq_false e] at ht
   obtain ⟨p1,p2',p3,p4,p5⟩:=half_lt (Nat.lt_of_le_of_ne h0 (Ne.symm e))
   generalize hh:Z.length / 2=h at p1 p2' p3 p4 p5
   have hL:(Z.take h).length=h:=List.length_take_of_le (Nat.le_of_lt p5)
   have hR:(Z.drop h).length=Z.length - h:=List.length_drop ..
   have hz:Z.take h++Z.drop h=Z:=List.take_append_drop h Z
   have hs60:=sh_le hn (Nat.le_trans (Nat.le_of_lt p5) h2)
   have hlo:x % 2 ^ (n*h)<2 ^ (n*h):=Nat.mod_lt _ (p2 _)
   have hup:x / 2 ^ (n*h)<2 ^ (n*(Z.length - h)):=Nat.div_lt_of_lt_mul (by rw [← Nat.pow_add,← Nat.mul_add,p2'];exact hx)
   have hd:=digF_len n h (x % 2 ^ (n*h))
   have i1:=i2_spec hn k (x % 2 ^ (n*h)) A (Z.take h) (Z.drop h++C) (by rw [hL];exact p1) (by rw [hL];exact Nat.le_of_lt_succ (Nat.lt_of_lt_of_le p5 h1)) (by rw [hL];exact Nat.le_trans (Nat.le_of_lt p5) h2) (by rw [hL];exact hlo) (by rw [← List.append_assoc (Z.take h),hz];exact hl)
   rw [← List.append_assoc (Z.take h),hz,hL] at i1
   have hA:(A++nums (digF n h (x % 2 ^ (n*h)))).length=A.length+h:=by rw [List.length_append,nums_len,hd]
   have i2':=i2_spec hn k (x / 2 ^ (n*h)) (A++nums (digF n h (x % 2 ^ (n*h)))) (Z.drop h) C (by rw [hR];exact p3) (by rw [hR];exact Nat.le_of_lt_succ (Nat.lt_of_lt_of_le p4 h1)) (by rw [hR];exact Nat.le_trans (Nat.le_of_lt p4) h2) (by rw [hR];exact hup)
    (by rw [List.length_append,hA,List.length_append,hR,← Nat.add_assoc,Nat.add_assoc A.length,p2',Nat.add_assoc,← List.length_append,← List.length_append];exact hl)
   rw [hA,hR,Nat.add_assoc,p2',List.append_assoc,List.append_assoc] at i2'
   have hm:S0.ev (PEnv.only [77,83] (e7 x A.length (A.length+Z.length) n)) (.bin .shr (.bin .add (.var 77) (.var 83)) (.lit (.int 1)))=some (nI (A.length+h)):=(show _=binV .shr (nI (A.length+(A.length+Z.length))) (nI 1) by kernel_rfl).trans (hh ▸ b_mid _ _)
   have hs:S0.ev (PEnv.only [1668462,77,111] (e7 x A.length (A.length+Z.length) n++[(1668462,false,nI (A.length+h))])) (.bin .mul (.bin .sub (.var 1668462) (.var 77)) (.var 111))=some (nI (n*h)) :=
    (show _=binV .mul (.int (((A.length+h:Nat):Int) - (A.length:Nat))) (nI n) by kernel_rfl).trans (b_sh hn (Nat.le_trans (Nat.le_of_lt p5) h2))
   have hu:S0.ev (PEnv.only [121,31624705268] (e7 x A.length (A.length+Z.length) n++[(1668462,false,nI (A.length+h)),(31624705268,false,nI (n*h))])) (.bin .shr (.var 121) (.var 31624705268))=some (nI (x / 2 ^ (n*h))) :=
    (show _=binV .shr (nI x) (nI (n*h)) by kernel_rfl).trans (b_shr (Nat.le_trans hs60 (by decide)))
   have hw:S0.ev (PEnv.only [121,31085852918,31624705268] (e7 x A.length (A.length+Z.length) n++[(1668462,false,nI (A.length+h)),(31624705268,false,nI (n*h)),(31085852918,false,nI (x / 2 ^ (n*h)))])) (.bin .bxor (.var 121) (.bin .shl (.var 31085852918) (.var 31624705268)))=some (nI (x % 2 ^ (n*h))):=by
    refine (show _=ob (binV .shl (nI (x / 2 ^ (n*h))) (nI (n*h))) (fun y=>binV .bxor (nI x) y) by kernel_rfl).trans (obs (b_shl (Nat.le_trans (Nat.add_le_add (Nat.add_le_add_right (log2_le hup) 1) hs60) ?_)) b_xor)
    exact Nat.le_trans (Nat.add_le_add_right (Nat.add_le_add_right (sh_le hn (Nat.le_trans (Nat.le_of_lt p4) h2)) 1) _) (by decide)
   refine obs rfl (obs ht ?_)
   refine (show i2k _ _ _ false=_ from obs (exL_n (s_as hm) (exL_n (s_as hs) (exL_n (s_as hu) (exL_1 (s_as hw))))) (i2n_n (as:=[nI (x % 2 ^ (n*h)),nI A.length,nI (A.length+h)]) (bs:=[nI (x / 2 ^ (n*h)),nI (A.length+h),nI (A.length+Z.length)]) (by kernel_rfl) i1 (by kernel_rfl) i2')).trans ?_
   have:=digF_add n (Z.length - h) h x
   rw [p2'] at this
   rw [this,nums_app,List.append_assoc]
noncomputable def bits (a:Nat):Nat:=Builtin.Int.intBits (a:Int)
noncomputable def ndig (a n:Nat):Nat:=(bits a+n - 1) / n
theorem nbits_le {a k:Nat} (h:a<2 ^ k):bits a≤k:=by
 show (if _ then _ else _)≤k
 split
 ·exact Nat.zero_le _
 ·rename_i z
  exact (Nat.log2_lt (n:=a) fun e=>z (by rw [e];rfl)).mpr h
theorem lt_bits (a:Nat):a<2 ^ bits a:=by
 show a<2 ^ (if _ then _ else _)
 split
 ·rename_i z
  rw [show a=0 from Int.ofNat.inj (eq_of_beq z)]
  exact p2 _
 ·exact Nat.lt_log2_self (n:=a)
theorem ndig_le {a n m:Nat} (h:a<2 ^ (n*m)) (hn:0<n):ndig a n≤m:=by
 refine Nat.le_of_lt_succ ((Nat.div_lt_iff_lt_mul hn).mpr ?_)
 rw [Nat.succ_mul,Nat.mul_comm m]
 exact Nat.lt_of_lt_of_le (Nat.sub_lt (Nat.add_pos_right _ hn) (by decide)) (Nat.add_le_add_right (nbits_le h) n)
theorem ndig_ge {a n:Nat} (hn:0<n):bits a≤n*ndig a n:=by
 have h:=Nat.lt_mul_div_succ (bits a+n - 1) hn
 cases n with
 | zero=>exact absurd hn (Nat.lt_irrefl 0)
 | succ n=>exact Nat.le_of_add_le_add_right (Nat.le_of_lt_succ (show bits a+n<(n+1)*ndig a (n+1)+n+1 from Nat.mul_succ (n+1) _ ▸ h))
theorem ndig_lt {a n:Nat} (hn:0<n):a<2 ^ (n*ndig a n):=Nat.lt_of_lt_of_le (lt_bits a) (p2_le (ndig_ge hn))
theorem no_pylong {a b:Int} (h:b.natAbs.log2<9000):Builtin.divisionGoesByPylong a b=false:=by
 unfold Builtin.divisionGoesByPylong
 dsimp only
 rw [Bool.and_eq_false_iff]
 left
 rw [decide_eq_false_iff_not]
 split <;> lia
theorem b_fdivN {a b k:Nat} (h:0<b) (h2:b<2 ^ k) (hk:k<9000):binV .fdiv (nI a) (nI b)=some (nI (a / b)):=by
 refine (show _=ogn (intBeq (b:Int) 0 || Builtin.divisionGoesByPylong (a:Int) (b:Int)) (PV.int ((a:Int).fdiv b)) from rfl).trans ((ognF ?_).trans (by rw [← Int.ofNat_fdiv]))
 rw [no_pylong (a:=(a:Int)) (b:=(b:Int)) (Nat.lt_of_le_of_lt (log2_le h2) hk),show intBeq (b:Int) 0=false from (intBeq_nat b 0).trans (decide_eq_false (Nat.ne_of_gt h))]
 rfl
theorem repL_one {α:Type} (v:α):∀ m,repL [v] m=List.replicate m v
 | 0=>rfl
 | m+1=>congrArg (v :: ·) (repL_one v m)
theorem b_rep {v:PV} {m:Nat} (h:m≤1000000):binV .mul (.list [v]) (nI m)=some (.list (List.replicate m v)) :=
 (show _=og (Nat.ble (1*m) 1000000 && Nat.ble m 1000000 && lenOk [v]) (PV.list (repL [v] m)) from rfl).trans ((ogT (by rw [Nat.one_mul,ble_tr h];rfl)).trans (by rw [repL_one]))
section
variable {ρ:PEnv} {n:PV} {l l' as:List PV} (h1:(PEnv.get ρ innN).isNone=true) (h2:PEnv.get ρ 111=some (false,n)) (h3:ownL ρ aN=some l)
include h1 h2 h3
theorem i2v_f (h4:S0.ts ρ (.tv (.var 98))=some false):i2v ρ .next=some (.list l):=by
 show ogo _ _=_
 rw [h1]
 exact obs h2 (obs h3 (obs h4 rfl))
theorem i2v_t (h4:S0.ts ρ (.tv (.var 98))=some true) (h5:evL S0 ρ arg7=some as) (h6:as.all PV.scalar=true) (h7:i2 [(111,false,n)] 60 as l=some l'):i2v ρ .next=some (.list l'):=by
 show ogo _ _=_
 rw [h1]
 refine obs h2 (obs h3 (obs h4 (obs h5 ?_)))
 rw [h6]
 exact obs h7 rfl
end
theorem i2V_spec {a n:Nat} (hn:0<n) (hn2:n≤10000) (hm:ndig a n≤60):i2V [nI a,nI n]=some (.list (nums (digF n (ndig a n) a))):=by
 have hlt:=ndig_lt (a:=a) hn
 have e1:((bits a:Nat):Int)+(n:Int) - 1=((bits a+n - 1:Nat):Int):=by
  cases n with
  | zero=>exact absurd hn (Nat.lt_irrefl 0)
  | succ n=>exact Int.add_sub_cancel (bits a+n:Int) 1
 have h70:S0.ev (PEnv.only [98,111] [(98,false,nI a),(111,false,nI n)]) (.bin .mul (.list [.lit (.int 0)]) (.bin .fdiv (.bin .sub (.bin .add (.meth .bitLength (.var 98) []) (.var 111)) (.lit (.int 1))) (.var 111)))=some (.list (List.replicate (ndig a n) (nI 0))):=by
  refine (show _=ob (binV .fdiv (.int (((bits a:Nat):Int)+(n:Int) - 1)) (nI n)) (fun m=>binV .mul (.list [nI 0]) m) by kernel_rfl).trans ?_
  rw [e1]
  exact obs (b_fdivN (k:=14) hn (Nat.lt_of_le_of_lt hn2 (by decide)) (by decide)) (b_rep (Nat.le_trans hm (by decide)))
 have hz:S0.ts [(98,false,nI a),(111,false,nI n),(aN,true,.list (List.replicate (ndig a n) (nI 0)))] (.tv (.var 98))=some (!intBeq (a:Int) (0:Nat)):=by kernel_rfl
 rw [intBeq_nat] at hz
 refine obs rfl (obs (exL_1 (s_as h70)) ?_)
 by_cases z:a=0
 ·rw [decide_eq_true z] at hz
  have hd:ndig a n=0:=Nat.le_zero.mp (ndig_le (m:=0) (by rw [z];exact p2 _) hn)
  rw [hd] at hz ⊢
  exact i2v_f (n:=nI n) (by kernel_rfl) (by kernel_rfl) (by kernel_rfl) hz
 ·rw [decide_eq_false z] at hz
  generalize ndig a n=d at *
  have hd:0<d:=Nat.pos_of_ne_zero fun q=>z (Nat.lt_one_iff.mp (by rw [q,Nat.mul_zero] at hlt;exact hlt))
  have hr:(List.replicate d (nI 0)).length=d:=List.length_replicate ..
  have i:=i2_spec hn2 60 a [] (List.replicate d (nI 0)) [] (by rw [hr];exact hd) (by rw [hr];exact hm) (by rw [hr];exact hm) (by rw [hr];exact hlt) (by rw [List.append_nil,List.nil_append,hr];exact Nat.le_trans hm (by decide))
  rw [hr,List.append_nil,List.append_nil,List.nil_append,List.nil_append,List.length_nil,Nat.zero_add] at i
  have hl:lenV (.list (List.replicate d (nI 0)))=some (nI d):=(ogT (lo_tr (by rw [hr];exact Nat.le_trans hm (by decide)))).trans (by rw [hr])
  exact i2v_t (n:=nI n) (as:=[nI a,nI 0,nI d]) (by kernel_rfl) (by kernel_rfl) (by kernel_rfl) hz (evL_3 (by kernel_rfl) (by kernel_rfl) ((show S0.ev _ (.bi .len [.var aN])=lenV (.list (List.replicate d (nI 0))) by kernel_rfl).trans hl)) rfl i
end Mine
end
section
set_option maxRecDepth 100000
open PySem
set_option genSizeOf false
set_option genInjectivity false
namespace Mine
theorem s_rv {r:Rc} {ρ:PEnv} {x:Nat} {k:List PV} (h:ownL ρ x=some k) (h2:k.length≤1000000):exS r ρ (.reverse x)=some (PEnv.set ρ x true (.list k.reverse),.next):=obs h (ogT (lo_tr h2))
theorem ogoT {α:Type} {b:Bool} {x y:Option α} (h:b=true) (h2:x=y):ogo b x=y:=by rw [h];exact h2
noncomputable def Sq (D:PV) (c:List Nat):Prop:=D=.list (nums c)∨D=.tup (nums c)
theorem nums_snoc (c:List Nat) (x:Nat):nums c++[nI x]=nums (c++[x]):=(nums_app c [x]).symm
theorem nums_emp (c:List Nat):(nums c).isEmpty=c.isEmpty:=by cases c <;> rfl
theorem d2V_spec {c:List Nat} {D:PV} {n:Nat} (hD:Sq D c) (hn:n≤10000) (hl:c.length≤60) (hc:∀ x∈c,x<2 ^ n):d2V [D,nI n]=some (nI (evN (2 ^ n) c)):=by
 have hl2:c.length≤1000000:=Nat.le_trans hl (by decide)
 have lo:lenOk (nums c)=true:=lo_tr ((nums_len c).symm ▸ hl2)
 have htr:truthV D=some (!c.isEmpty):=by
  rcases hD with rfl|rfl <;> exact (ogT lo).trans (by rw [nums_emp])
 have hlen:lenV D=some (nI c.length):=by
  rcases hD with rfl|rfl <;> exact len_nums hl2
 have hix:∀ i,i<c.length→idxV D (nI i)=some (nI (c.getD i 0)):=fun i h=>by
  rcases hD with rfl|rfl
  ·exact idx_nums h hl2
  ·exact idx_tup h hl2
 refine obs rfl (ogoT (by kernel_rfl) (obs ((show S0.ts (ρD D n) (.tv (.var dgN))=truthV D by kernel_rfl).trans htr) ?_))
 cases c with
 | nil=>rfl
 | cons a c =>
  have i:=d2_spec hn hix 60 [] (a :: c) [] (by rw [List.append_nil,List.nil_append]) (Nat.succ_pos _) hl hl hc
  rw [List.length_nil,Nat.zero_add] at i
  exact obs (a:=[nI 0,nI (a :: c).length]) (evL_2 rfl ((show S0.ev (ρD D n) (.bi .len [.var dgN])=lenV D by kernel_rfl).trans hlen)) (ogoT rfl i)
noncomputable def tp (q:Nat) (v:Nat) (l:List Nat):Nat:=l.foldl (fun v d=>v*q+d) v
theorem tp_rev (q:Nat):∀ c:List Nat,tp q 0 c.reverse=evN q c
 | []=>rfl
 | a :: c=>by rw [List.reverse_cons,tp,List.foldl_append,evN,← tp_rev q c,Nat.mul_comm,Nat.add_comm];rfl
noncomputable def dst (q b:Nat) (s:Nat × List Nat) (d:Nat):Nat × List Nat:=((s.1*q+d) % b,s.2++[(s.1*q+d) / b])
theorem tp_lin (q b:Nat):∀ (l:List Nat) (s:Nat × List Nat),tp q (b*tp q 0 s.2+s.1) l=b*tp q 0 (l.foldl (dst q b) s).2+(l.foldl (dst q b) s).1
 | [],_=>rfl
 | d :: l,s=>by
  rw [List.foldl_cons,← tp_lin q b l]
  show tp q ((b*tp q 0 s.2+s.1)*q+d) l=tp q (b*tp q 0 (s.2++[(s.1*q+d) / b])+(s.1*q+d) % b) l
  rw [show tp q 0 (s.2++[(s.1*q+d) / b])=tp q 0 s.2*q+(s.1*q+d) / b from List.foldl_append ..]
  congr 1
  rw [Nat.add_mul,Nat.mul_add,Nat.mul_assoc,Nat.add_assoc,Nat.add_assoc,Nat.div_add_mod]
theorem b_divN {a b k:Nat} (h:0<b) (h2:b<2 ^ k) (hk:k<9000):biV .divmod [nI a,nI b]=some (.tup [nI (a / b),nI (a % b)]):=by
 refine (show _=og (!(intBeq (b:Int) 0 || Builtin.divisionGoesByPylong (a:Int) (b:Int))) (PV.tup [.int ((a:Int).fdiv b),.int ((a:Int).fmod b)]) from rfl).trans ((ogT ?_).trans (by rw [← Int.ofNat_fdiv,← Int.ofNat_fmod]))
 rw [no_pylong (a:=(a:Int)) (b:=(b:Int)) (Nat.lt_of_le_of_lt (log2_le h2) hk),show intBeq (b:Int) 0=false from (intBeq_nat b 0).trans (decide_eq_false (Nat.ne_of_gt h))]
 rfl
noncomputable def ρ9 (a b:PV):PEnv:=[(98,false,a),(99,false,b)]
theorem div2n1n_spec {n a b m K:Nat} (hb:0<b) (h2:b<2 ^ K) (hK:K<9000) (ha:bits a≤m+4000):(Sm (n+10)).fn 62711175027798752 [nI a,nI b,nI m]=some (.tup [nI (a / b),nI (a % b)]):=by
 have ht:(Sm (n+8)).ts (ρ9 (nI a) (nI b)++[(111,false,nI m)]) (.cmp .le (.bin .sub (.meth .bitLength (.var 98) []) (.var 111)) (.glob divN))=some (!decide ((4000:Int)<(bits a:Int) - (m:Int))):=by kernel_rfl
 rw [decide_eq_false (Int.not_lt.mpr (Int.sub_left_le_of_le_add (Int.ofNat_le.mpr ha)))] at ht
 rw [fn_pl (fp:=F__div2n1n) (by kernel_rfl) (by kernel_rfl)]
 exact run_r (ρ:=ρ9 (nI a) (nI b)++[(111,false,nI m)]) (by rfl) (exL_r (s_t ht (exL_r (s_rt (ev_bi (vs:=[nI a,nI b]) (by kernel_rfl) (b_divN hb h2 hK))))))
noncomputable def dpB:List PS:=[.unpack [518241715318898,115] (.call 62711175027798752 [(.bin .add (.bin .shl (.var 115) (.var 111)) (.var 518241715318882)),(.var 99),(.var 111)]) [115,111,518241715318882,99],.append 65820436312191090 (.var 518241715318898) [518241715318898]]
noncomputable def envD (a b nb:Nat) (A:PV) (s:Nat × List Nat) (t:PEnv):PEnv:=(98,false,nI a) :: (99,false,nI b) :: (111,false,nI nb) :: (aN,false,A) :: (115,false,nI s.1) :: (65820436312191090,true,.list (nums s.2)) :: t
noncomputable def TT (x y:Nat) (t:PEnv):Prop:=t=[]∨∃ u v:PV,t=[(x,false,u),(y,false,v)]
noncomputable def dpI (a b nb:Nat) (A:PV) (n:Nat) (s:Nat × List Nat) (ρ:PEnv):Prop:=(∃ t,TT 518241715318882 518241715318898 t∧ρ=envD a b nb A s t)∧s.1<b∧s.2.length+n≤60∧∀ x∈s.2,x<2 ^ nb
theorem div_lt_q {b q r d:Nat} (hr:r<b) (hd:d<q):r*q+d<b*q:=Nat.lt_of_lt_of_le (Nat.add_lt_add_left hd _) (by rw [← Nat.succ_mul];exact Nat.mul_le_mul_right q hr)
theorem dp_loop {k a b nb:Nat} {A:PV} (hb:0<b) (hb2:b<2 ^ nb) (hn:nb≤4000) (l:List Nat) (s:Nat × List Nat) (ρ:PEnv) (h:dpI a b nb A l.length s ρ) (hl:∀ d∈l,d<2 ^ nb) :
  ∃ ρ',forGo (Sm (k+16)) [518241715318882] true dpB [] (nums l) ρ=some (ρ',.next)∧dpI a b nb A 0 (l.foldl (dst (2 ^ nb) b) s) ρ':=by
 refine for_inv (I:=dpI a b nb A) (ok:=fun d=>d<2 ^ nb) (fun n s d ρ h hd=>?_) l s ρ h hl
 obtain ⟨⟨t,ht,rfl⟩,hr,hn2,hx⟩:=h
 obtain ⟨r,acc⟩:=s
 have hlt:=div_lt_q hr hd
 have hc:(Sm (k+14)).ev (PEnv.only [115,111,518241715318882,99] (PEnv.set (envD a b nb A (r,acc) t) 518241715318882 false (nI d))) (.bin .add (.bin .shl (.var 115) (.var 111)) (.var 518241715318882))=some (nI (r*2 ^ nb+d)) :=
  ev_bin (x:=nI (r*2 ^ nb)) (y:=nI d) (ev_bin (x:=nI r) (y:=nI nb) (by rcases ht with rfl|⟨u,v,rfl⟩ <;> kernel_rfl) (by rcases ht with rfl|⟨u,v,rfl⟩ <;> kernel_rfl) (b_shl (Nat.le_trans (Nat.add_le_add (Nat.add_le_add_right (log2_le (Nat.lt_trans hr hb2)) 1) hn) (Nat.le_trans (Nat.add_le_add_right (Nat.add_le_add_right hn 1) _) (by decide))))) (by rcases ht with rfl|⟨u,v,rfl⟩ <;> kernel_rfl) rfl
 have hv:(Sm (k+14)).fn 62711175027798752 [nI (r*2 ^ nb+d),nI b,nI nb]=some (.tup [nI ((r*2 ^ nb+d) / b),nI ((r*2 ^ nb+d) % b)]) :=
  div2n1n_spec (n:=k+4) hb hb2 (Nat.lt_of_le_of_lt hn (by decide)) (Nat.le_trans (nbits_le (k:=nb+nb) (Nat.lt_trans hlt (by rw [Nat.pow_add];exact Nat.mul_lt_mul_of_pos_right hb2 (p2 _)))) (Nat.add_le_add_left hn nb))
 refine ⟨_,envD a b nb A (dst (2 ^ nb) b (r,acc) d) [(518241715318882,false,nI d),(518241715318898,false,nI ((r*2 ^ nb+d) / b))],rfl,?_,⟨_,.inr ⟨_,_,rfl⟩,rfl⟩,Nat.mod_lt _ hb,?_,fun x hx'=>?_⟩
 ·refine exL_n (ρ':=envD a b nb A ((r*2 ^ nb+d) % b,acc) [(518241715318882,false,nI d),(518241715318898,false,nI ((r*2 ^ nb+d) / b))]) (s_un (ev_call (evL_3 hc (v₂:=nI b) (v₃:=nI nb) (by rcases ht with rfl|⟨u,v,rfl⟩ <;> kernel_rfl) (by rcases ht with rfl|⟨u,v,rfl⟩ <;> kernel_rfl)) hv) (by rcases ht with rfl|⟨u,v,rfl⟩ <;> kernel_rfl)) ?_
  refine (exL_1 (s_ap (v:=nI ((r*2 ^ nb+d) / b)) (k:=nums acc) (by kernel_rfl) (by kernel_rfl) (by rw [nums_len];exact Nat.le_trans (Nat.le_of_add_right_le hn2) (by decide)))).trans ?_
  rw [nums_snoc]
  kernel_rfl
 ·show (acc++[_]).length+n≤60
  rw [List.length_append,Nat.add_assoc,Nat.add_comm _ n]
  exact hn2
 ·rcases List.mem_append.mp hx' with hx' | hx'
  ·exact hx x hx'
  ·obtain rfl:=List.mem_singleton.mp hx'
   exact Nat.div_lt_of_lt_mul hlt
theorem fn_i2 {n a b:Nat} (h140:140≤n) (hb:0<b) (hb2:b≤10000) (hm:ndig a b≤60):(Sm (n+1)).fn i2N [nI a,nI b]=some (.list (nums (digF b (ndig a b) a))):=fn_sp h140 ((show sp02 i2N _=i2V _ from rfl).trans (i2V_spec hb hb2 hm))
theorem fn_d2 {n b:Nat} {c:List Nat} {D:PV} (h140:140≤n) (hD:Sq D c) (hn:b≤10000) (hl:c.length≤60) (hc:∀ x∈c,x<2 ^ b):(Sm (n+1)).fn d2N [D,nI b]=some (nI (evN (2 ^ b) c)):=fn_sp h140 ((show sp02 d2N _=d2V _ from rfl).trans (d2V_spec hD hn hl hc))
theorem div_mod_of {a b q r:Nat} (h:a=b*q+r) (hr:r<b):a / b=q∧a % b=r :=
 h ▸ ⟨by rw [Nat.mul_add_div (Nat.zero_lt_of_lt hr),Nat.div_eq_of_lt hr,Nat.add_zero],by rw [Nat.mul_add_mod,Nat.mod_eq_of_lt hr]⟩
theorem foldl_dst_len (q b:Nat):∀ (l:List Nat) (s:Nat × List Nat),(l.foldl (dst q b) s).2.length=s.2.length+l.length
 | [],_=>rfl
 | d :: l,s=>(foldl_dst_len q b l _).trans (by rw [dst,List.length_append,Nat.add_assoc,Nat.add_comm _ l.length];rfl)
theorem divmod_pos_spec {n a b:Nat} (h140:140≤n) (hb:0<b) (hb2:bits b≤4000) (hm:ndig a (bits b)≤60):(Sm (n+20)).fn 137989842670750027920096 [nI a,nI b]=some (.tup [nI (a / b),nI (a % b)]):=by
 have hnb:0<bits b:=Nat.pos_of_ne_zero fun e=>Nat.ne_of_gt hb (Nat.lt_one_iff.mp (by have:=lt_bits b;rwa [e] at this))
 have hb3:=lt_bits b
 have h2:=fn_i2 (n:=n+16) (Nat.le_add_right_of_le h140) hnb (Nat.le_trans hb2 (by decide)) hm
 have hv:=digF_val (ndig_lt (a:=a) hnb)
 have hlt:∀ x∈digF (bits b) (ndig a (bits b)) a,x<2 ^ bits b:=digF_lt
 have hlen:=digF_len (bits b) (ndig a (bits b)) a
 have e1:exL (Sm (n+18)) (F__divmod_pos.body.take 1) (ρ9 (nI a) (nI b))=some (ρ9 (nI a) (nI b)++[(111,false,nI (bits b))],.next):=by kernel_rfl
 generalize bits b=nb at *
 generalize digF nb (ndig a nb) a=c at *
 have hc60:c.length≤60:=hlen ▸ hm
 obtain ⟨ρ',h3,⟨t,ht,rfl⟩,hr,_,hx⟩:=dp_loop (k:=n+2) (A:=.list (nums c)) (a:=a) hb hb3 hb2 c.reverse (0,[]) _ ⟨⟨[],.inl rfl,rfl⟩,hb,by rw [List.length_reverse];exact (Nat.zero_add _).symm ▸ hc60,fun _ h=>nomatch h⟩ fun d hd=>hlt d (List.mem_reverse.mp hd)
 have hq:=tp_lin (2 ^ nb) b c.reverse (0,[])
 have hl2:=foldl_dst_len (2 ^ nb) b c.reverse (0,[])
 rw [show b*tp (2 ^ nb) 0 ([]:List Nat)+0=0 from rfl,tp_rev,hv] at hq
 generalize c.reverse.foldl (dst (2 ^ nb) b) (0,[])=s at *
 obtain ⟨r,acc⟩:=s
 obtain ⟨q1,q2⟩:=div_mod_of hq hr
 rw [← List.reverse_reverse acc,tp_rev] at q1
 have hal:acc.length≤60:=Nat.le_trans (Nat.le_of_eq (hl2.trans (by rw [List.length_reverse];exact Nat.zero_add _))) hc60
 have h4:=fn_d2 (n:=n+16) (Nat.le_add_right_of_le h140) (.inl rfl) (Nat.le_trans hb2 (by decide)) (c:=acc.reverse) (by rw [List.length_reverse];exact hal) fun x h=>hx x (List.mem_reverse.mp h)
 rw [← q1] at h4
 rw [q2]
 have lo:∀ {c:List Nat},c.length≤60→(nums c).length≤1000000:=fun h=>(nums_len _).symm ▸ Nat.le_trans h (by decide)
 rw [fn_pl (fp:=F__divmod_pos) (by kernel_rfl) (by kernel_rfl)]
 apply run_r (n:=n+18) (ρ:=ρ9 (nI a) (nI b)) (by rfl)
 refine exL_app (l:=F__divmod_pos.body.drop 1) (l₁:=F__divmod_pos.body.take 1) e1 ?_
 refine exL_n (s_as (v:=.list (nums c)) (ev_call (vs:=[nI a,nI nb]) (by kernel_rfl) h2)) ?_
 refine exL_app (l₁:=[.assign 115 (.lit (.int 0)) [],.assign 65820436312191090 (.list []) []]) (ρ':=envD a b nb (.list (nums c)) (0,[]) []) (by kernel_rfl) ?_
 refine exL_n (s_for (ps:=nums c.reverse) (b:=true) ?_ h3) ?_
 ·refine (show iterV (Sm (n+18)) _ _=og (lenOk (nums c)) ((nums c).reverse,true) by kernel_rfl).trans ((ogT (lo_tr (lo hc60))).trans ?_)
  rw [nums,nums,List.map_reverse]
 refine exL_n ((s_rv (k:=nums acc) (by rcases ht with rfl|⟨u,v,rfl⟩ <;> kernel_rfl) (lo hal)).trans (show _=some (envD a b nb (.list (nums c)) (r,acc.reverse) t,Fl.next) from ?_)) ?_
 ·rw [← List.map_reverse]
  rcases ht with rfl|⟨u,v,rfl⟩ <;> kernel_rfl
 refine exL_n (s_as (v:=nI (a / b)) (ev_call (vs:=[.list (nums acc.reverse),nI nb]) (by rcases ht with rfl|⟨u,v,rfl⟩ <;> kernel_rfl) h4)) ?_
 exact exL_r (s_rt (by rcases ht with rfl|⟨u,v,rfl⟩ <;> kernel_rfl))
end Mine
end
section
set_option maxRecDepth 100000
open PySem
set_option genSizeOf false
set_option genInjectivity false
namespace Mine
noncomputable def idN:Nat:=939693477786438957034
theorem idm_pos {n a b:Nat} (h140:140≤n) (hb:0<b) (hb2:bits b≤4000) (hm:ndig a (bits b)≤60):(Sm (n+30)).fn idN [nI a,nI b]=some (.tup [nI (a / b),nI (a % b)]):=by
 have t1:(Sm (n+28)).ts (ρ9 (nI a) (nI b)) (.cmp .eq (.var 99) (.lit (.int 0)))=some (intBeq (b:Int) (0:Nat)):=by kernel_rfl
 rw [intBeq_nat,decide_eq_false (Nat.ne_of_gt hb)] at t1
 have t2:(Sm (n+27)).ts (ρ9 (nI a) (nI b)) (.cmp .lt (.var 99) (.lit (.int 0)))=some (decide ((b:Int)<0)):=by kernel_rfl
 rw [decide_eq_false (Int.not_lt.mpr (Int.natCast_nonneg b))] at t2
 have t3:(Sm (n+26)).ts (ρ9 (nI a) (nI b)) (.cmp .lt (.var 98) (.lit (.int 0)))=some (decide ((a:Int)<0)):=by kernel_rfl
 rw [decide_eq_false (Int.not_lt.mpr (Int.natCast_nonneg a))] at t3
 rw [fn_pl (fp:=F_int_divmod) (by kernel_rfl) (by kernel_rfl)]
 exact run_r (ρ:=ρ9 (nI a) (nI b)) rfl (exL_r (s_f t1 (exL_r (s_f t2 (exL_r (s_f t3 (exL_r (s_rt (ev_call (vs:=[nI a,nI b]) (by kernel_rfl) (divmod_pos_spec (n:=n+4) (Nat.le_add_right_of_le h140) hb hb2 hm))))))))))
theorem idm_neg {n a b:Nat} (h140:140≤n) (hb:0<b) (hb2:bits b≤4000) (hm:ndig a (bits b)≤60):(Sm (n+40)).fn idN [.int (-(a:Int)),.int (-(b:Int))]=some (.tup [nI (a / b),.int (-((a % b:Nat):Int))]):=by
 have hb':-(b:Int)<0:=Int.neg_neg_of_pos (Int.ofNat_lt.mpr hb)
 have t1:(Sm (n+38)).ts (ρ9 (.int (-(a:Int))) (.int (-(b:Int)))) (.cmp .eq (.var 99) (.lit (.int 0)))=some (decide (-(b:Int)=0)):=by kernel_rfl
 rw [decide_eq_false (Int.ne_of_lt hb')] at t1
 have t2:(Sm (n+37)).ts (ρ9 (.int (-(a:Int))) (.int (-(b:Int)))) (.cmp .lt (.var 99) (.lit (.int 0)))=some (decide (-(b:Int)<0)):=by kernel_rfl
 rw [decide_eq_true hb'] at t2
 have hv:evL (Sm (n+35)) (PEnv.only [98,99] (ρ9 (.int (-(a:Int))) (.int (-(b:Int))))) [.neg (.var 98),.neg (.var 99)]=some [.int (- -(a:Int)),.int (- -(b:Int))]:=by kernel_rfl
 rw [Int.neg_neg,Int.neg_neg] at hv
 rw [fn_pl (fp:=F_int_divmod) (by kernel_rfl) (by kernel_rfl)]
 exact run_r (ρ:=ρ9 (.int (-(a:Int))) (.int (-(b:Int)))) rfl (exL_r (s_f t1 (exL_r (s_t t2 (exL_n (ρ':=ρ9 (.int (-(a:Int))) (.int (-(b:Int)))++[(114,false,nI (a / b)),(115,false,nI (a % b))]) (s_un (ev_call hv (idm_pos (n:=n+5) (Nat.le_add_right_of_le h140) hb hb2 hm)) (by kernel_rfl)) (exL_r (s_rt (by kernel_rfl))))))))
theorem idm_spec {n B Q:Nat} {a b:Int} (h140:140≤n) (hb:b=B∨b = -(B:Int)) (ha:a=b*Q) (hB:0<B) (hb2:bits B≤4000) (hm:ndig (B*Q) (bits B)≤60):(Sm (n+40)).fn idN [.int a,.int b]=some (.tup [nI Q,nI 0]):=by
 have e1:B*Q / B=Q:=Nat.mul_div_cancel_left Q hB
 have e2:B*Q % B=0:=Nat.mul_mod_right B Q
 rw [ha]
 rcases hb with rfl|rfl
 ·rw [← Int.natCast_mul]
  have:=idm_pos (n:=n+10) (Nat.le_add_right_of_le h140) hB hb2 hm
  rwa [e1,e2] at this
 ·rw [Int.neg_mul,← Int.natCast_mul]
  have:=idm_neg h140 hB hb2 hm
  rwa [e1,e2] at this
end Mine
end
section
set_option maxRecDepth 100000
open PySem
set_option genSizeOf false
set_option genInjectivity false
namespace Mine
noncomputable def bump:List Nat→Nat→List Nat
 | [],0=>[1]
 | [],b+1=>0 :: bump [] b
 | a :: c,0=>(a+1) :: c
 | a :: c,b+1=>a :: bump c b
noncomputable def pad (c:List Nat) (b:Nat):List Nat:=if b<c.length then c else c++List.replicate (b - c.length+1) 0
theorem pad_nil (b:Nat):pad [] b=List.replicate (b+1) 0:=rfl
theorem pad_cons (a:Nat) (c:List Nat) (b:Nat):pad (a :: c) (b+1)=a :: pad c b:=by
 unfold pad
 rw [List.length_cons,Nat.add_sub_add_right]
 by_cases h:b<c.length
 ·rw [if_pos h,if_pos (Nat.succ_lt_succ h)]
 ·rw [if_neg h,if_neg fun q=>h (Nat.lt_of_succ_lt_succ q)]
  rfl
theorem pad_bump:∀ (c:List Nat) (b:Nat),b<(pad c b).length∧(pad c b).set b ((pad c b).getD b 0+1)=bump c b
 | [],0=>⟨Nat.one_pos,rfl⟩
 | [],b+1=>by
  obtain ⟨h1,h2⟩:=pad_bump [] b
  rw [pad_nil] at h1 h2
  exact ⟨Nat.succ_lt_succ h1,congrArg (0 :: ·) h2⟩
 | a :: c,0=>⟨Nat.succ_pos _,rfl⟩
 | a :: c,b+1=>by
  obtain ⟨h1,h2⟩:=pad_bump c b
  rw [pad_cons]
  exact ⟨Nat.succ_lt_succ h1,congrArg (a :: ·) h2⟩
theorem bump_len:∀ (c:List Nat) (b:Nat),(bump c b).length=max c.length (b+1)
 | [],0=>rfl
 | [],b+1=>by rw [bump,List.length_cons,bump_len [] b,List.length_nil,Nat.zero_max,Nat.zero_max]
 | a :: c,0=>by rw [bump,List.length_cons,List.length_cons,Nat.max_eq_left (Nat.succ_le_succ (Nat.zero_le _))]
 | a :: c,b+1=>by rw [bump,List.length_cons,List.length_cons,bump_len c b,Nat.succ_max_succ]
theorem pad_len {c:List Nat} {b:Nat}:(pad c b).length≤max c.length (b+1):=by
 have h:=congrArg List.length (pad_bump c b).2
 rw [List.length_set,bump_len] at h
 exact Nat.le_of_eq h
structure Ws where
 c:List Nat
 b:Nat
 n:Nat
 nt:Nat
noncomputable def wst (s:Ws) (ch:Nat):Ws:=match Nat.beq ch 32 with
 | true=>⟨s.c,s.b+1,s.n+1,s.nt⟩
 | false=>⟨bump s.c s.b,0,s.n+1,s.nt+1⟩
noncomputable def ctN:Nat:=31641679972
noncomputable def grow:PS:=.if_ (.cmp .ge (.var 99) (.bi .len [(.var ctN)])) [.assign ctN (.bin .add (.var ctN) (.bin .mul (.list [(.lit (.int 0))]) (.bin .add (.bin .sub (.var 99) (.bi .len [(.var ctN)])) (.lit (.int 1))))) [ctN,99]] []
noncomputable def wsB:List PS:=[.if_ (.cmp .eq (.var 13540) (.var 84)) [.assign 111 (.bin .add (.var 111) (.lit (.int 1))) [111],.assign 99 (.bin .add (.var 99) (.lit (.int 1))) [99]] [.if_ (.cmp .eq (.var 13540) (.var 85)) [.assign 111 (.bin .add (.var 111) (.lit (.int 1))) [111],.assign 15087 (.bin .add (.var 15087) (.lit (.int 1))) [15087],
  grow,.setidx ctN (.var 99) (.bin .add (.idx (.var ctN) (.var 99)) (.lit (.int 1))),.assign 99 (.lit (.int 0)) []] [.brk]]]
noncomputable def envW (x:List Nat) (s:Ws) (t:PEnv):PEnv:=(217805684,true,.inst [1978739] [.str x]) :: (14968,false,.str x) :: (85,false,.str [9]) :: (84,false,.str [32]) :: (ctN,true,.list (nums s.c)) :: (99,false,nI s.b) :: (111,false,nI s.n) :: (15087,false,nI s.nt) :: t
noncomputable def Tl (x:Nat) (t:PEnv):Prop:=t=[]∨∃ y,t=[(x,false,y)]
noncomputable def wsI (x:List Nat) (n:Nat) (s:Ws) (ρ:PEnv):Prop:=(∃ t,Tl 13540 t∧ρ=envW x s t)∧s.b+n≤100000∧s.c.length≤100000
theorem len_at {c:List Nat} (h:c.length≤100000):biV .len [.list (nums c)]=some (nI c.length):=len_nums (Nat.le_trans h (by decide))
theorem ws_grow {k:Nat} {x:List Nat} {s:Ws} (hb:s.b≤100000) (hc:s.c.length≤100000):exS (Sm (k+17)) (envW x s [(13540,false,.str [9])]) grow=some (envW x ⟨pad s.c s.b,s.b,s.n,s.nt⟩ [(13540,false,.str [9])],.next):=by
 have ht:(Sm (k+17)).ts (envW x s [(13540,false,.str [9])]) (.cmp .ge (.var 99) (.bi .len [(.var ctN)]))=some (!decide ((s.b:Int)<(s.c.length:Nat))):=ts_cmp (x:=nI s.b) (y:=nI s.c.length) (by kernel_rfl) (ev_bi (vs:=[.list (nums s.c)]) (by kernel_rfl) (len_at hc)) rfl
 unfold pad
 by_cases h:s.b<s.c.length
 ·rw [decide_eq_true (Int.ofNat_lt.mpr h)] at ht
  rw [if_pos h]
  exact s_f ht (by kernel_rfl)
 ·rw [decide_eq_false fun q=>h (Int.ofNat_lt.mp q)] at ht
  rw [if_neg h]
  have e1:(s.b:Int) - (s.c.length:Nat)+1=((s.b - s.c.length+1:Nat):Int):=by rw [Int.natCast_add,Int.ofNat_sub (Nat.not_lt.mp h)];rfl
  have hl:s.b - s.c.length+1≤1000000:=Nat.le_trans (Nat.succ_le_succ (Nat.le_trans (Nat.sub_le _ _) hb)) (by decide)
  refine s_t ht ((exL_1 (s_as (v:=.list (nums s.c++List.replicate (s.b - s.c.length+1) (nI 0))) ?_)).trans ?_)
  ·refine ev_bin (x:=.list (nums s.c)) (y:=.list (List.replicate (s.b - s.c.length+1) (nI 0))) (by kernel_rfl) (ev_bin (x:=.list [nI 0]) (y:=.int ((s.b:Int) - (s.c.length:Nat)+1)) (by kernel_rfl) (ev_bin (x:=.int ((s.b:Int) - (s.c.length:Nat))) (y:=nI 1) (ev_bin (x:=nI s.b) (y:=nI s.c.length) (by kernel_rfl) (ev_bi (vs:=[.list (nums s.c)]) (by kernel_rfl) (len_at hc)) rfl) (by kernel_rfl) rfl) ?_) (show catS PV.list _ _=_ from ogT ?_)
   ·rw [e1]
    exact b_rep hl
   ·rw [lo_tr ((nums_len _).symm ▸ Nat.le_trans hc (by decide)),lo_tr (by rw [List.length_replicate];exact hl)]
    rfl
  ·rw [show nums s.c++List.replicate (s.b - s.c.length+1) (nI 0)=nums (s.c++List.replicate (s.b - s.c.length+1) 0) by rw [nums_app,nums,nums,List.map_replicate]]
   kernel_rfl
theorem ev_ix {n:Nat} {ρ:PEnv} {a b:PE} {x y:PV} {q:Option PV} (h1:(Sm n).ev ρ a=some x) (h2:(Sm n).ev ρ b=some y) (h3:idxV x y=q):(Sm (n+1)).ev ρ (.idx a b)=q:=obs h1 (obs h2 h3)
theorem s_si {r:Rc} {x k:Nat} {i e:PE} {ρ:PEnv} {v:PV} {l:List PV} (h1:r.ev ρ e=some v) (h2:v.scalar=true) (h3:r.ev ρ i=some (nI k)) (h4:ownL ρ x=some l) (h5:k<l.length) (h6:l.length≤1000000):exS r ρ (.setidx x i e)=some (PEnv.set ρ x true (.list (l.set k v)),.next) :=
 obs h1 (obs (ogT h2) (obs h3 (obs (a:=(k:Int)) rfl (obs (a:=k) rfl (obs h4 (obs (seat_nat h5 h6) rfl))))))
theorem nums_set (c:List Nat) (b x:Nat):(nums c).set b (nI x)=nums (c.set b x):=by rw [nums,nums,List.map_set]
theorem ws_step {k:Nat} {x:List Nat} (n:Nat) (s:Ws) (ch:Nat) (ρ:PEnv) (h:wsI x (n+1) s ρ) (hch:ch=32∨ch=9):∃ ρ₁ ρ',bindT [13540] true (.str [ch]) ρ=some ρ₁∧(Sm (k+20)).ex ρ₁ wsB=some (ρ',.next)∧wsI x n (wst s ch) ρ':=by
 obtain ⟨⟨t,ht,rfl⟩,hb,hc⟩:=h
 refine ⟨_,envW x (wst s ch) [(13540,false,.str [ch])],rfl,?_,⟨_,.inr ⟨_,rfl⟩,rfl⟩,?_,?_⟩
 ·rw [show PEnv.set (envW x s t) 13540 false (.str [ch])=envW x s [(13540,false,.str [ch])] by rcases ht with rfl|⟨y,rfl⟩ <;> kernel_rfl]
  rcases hch with rfl|rfl
  ·kernel_rfl
  ·have hb':s.b≤100000:=Nat.le_of_add_right_le hb
   obtain ⟨p1,p2⟩:=pad_bump s.c s.b
   have hl:(pad s.c s.b).length≤1000000:=Nat.le_trans pad_len (Nat.max_le.mpr ⟨Nat.le_trans hc (by decide),Nat.le_trans (Nat.succ_le_succ hb') (by decide)⟩)
   refine exL_1 (s_f (by kernel_rfl) (exL_1 (s_t (by kernel_rfl) (show exL (Sm (k+17)) _ _=_ from ?_))))
   refine exL_app (l₁:=[.assign 111 (.bin .add (.var 111) (.lit (.int 1))) [111],.assign 15087 (.bin .add (.var 15087) (.lit (.int 1))) [15087]]) (ρ':=envW x ⟨s.c,s.b,s.n+1,s.nt+1⟩ [(13540,false,.str [9])]) (by kernel_rfl) ?_
   refine exL_n (ws_grow (s:=⟨s.c,s.b,s.n+1,s.nt+1⟩) hb' hc) ?_
   refine exL_n (s_si (k:=s.b) (l:=nums (pad s.c s.b)) (v:=nI ((pad s.c s.b).getD s.b 0+1)) (ev_bin (x:=nI ((pad s.c s.b).getD s.b 0)) (y:=nI 1) (ev_ix (x:=.list (nums (pad s.c s.b))) (y:=nI s.b) (by kernel_rfl) (by kernel_rfl) (idx_nums p1 hl)) (by kernel_rfl) rfl) rfl (by kernel_rfl) (by kernel_rfl) ((nums_len _).symm ▸ p1) ((nums_len _).symm ▸ hl)) ?_
   rw [nums_set,p2]
   kernel_rfl
 ·rcases hch with rfl|rfl
  ·exact (Nat.succ_add s.b n).symm ▸ hb
  ·show 0+n≤100000
   rw [Nat.zero_add]
   exact Nat.le_trans (Nat.le_trans (Nat.le_succ n) (Nat.le_add_left _ s.b)) hb
 ·rcases hch with rfl|rfl
  ·exact hc
  ·show (bump s.c s.b).length≤100000
   rw [bump_len]
   exact Nat.max_le.mpr ⟨hc,Nat.le_trans (Nat.add_le_add_left (Nat.succ_le_succ (Nat.zero_le n)) _) hb⟩
end Mine
end
section
set_option maxRecDepth 100000
open PySem
set_option genSizeOf false
set_option genInjectivity false
namespace Mine
noncomputable def wsText:List Nat→List Nat
 | []=>[]
 | t :: ts=>List.replicate t 32++9 :: wsText ts
noncomputable def sumT:List Nat→Nat
 | []=>0
 | t :: ts=>t+(sumT ts+1)
theorem wst_sp:∀ (m:Nat) (s:Ws),(List.replicate m 32).foldl wst s=⟨s.c,s.b+m,s.n+m,s.nt⟩
 | 0,_=>rfl
 | m+1,s=>(wst_sp m (wst s 32)).trans (by show (⟨s.c,s.b+1+m,s.n+1+m,s.nt⟩:Ws)=_;rw [Nat.add_right_comm,Nat.add_right_comm s.n];rfl)
theorem wst_all:∀ (ts c:List Nat) (n nt:Nat),(wsText ts).foldl wst ⟨c,0,n,nt⟩=⟨ts.foldl bump c,0,n+sumT ts,nt+ts.length⟩
 | [],_,_,_=>rfl
 | t :: ts,c,n,nt=>by
  rw [wsText,List.foldl_append,wst_sp,List.foldl_cons]
  show (wsText ts).foldl wst ⟨bump c (0+t),0,n+t+1,nt+1⟩=_
  rw [wst_all ts,Nat.zero_add,sumT,List.length_cons,Nat.add_assoc (n+t),Nat.add_comm 1,Nat.add_assoc n,Nat.add_assoc nt,Nat.add_comm 1]
  rfl
theorem wsText_ok:∀ ts:List Nat,∀ ch∈wsText ts,ch=32∨ch=9
 | t :: ts,ch,h=>by
  rcases List.mem_append.mp h with h|h
  ·exact .inl (List.eq_of_mem_replicate h)
  ·rcases List.mem_cons.mp h with h|h
   ·exact .inr h
   ·exact wsText_ok ts ch h
theorem wsText_len:∀ ts:List Nat,(wsText ts).length=sumT ts
 | []=>rfl
 | t :: ts=>by rw [wsText,sumT,List.length_append,List.length_replicate,List.length_cons,wsText_len ts]
noncomputable def wsV (x:List Nat) (n nt:Nat) (c:List Nat):PV:=.inst [1978739,111,15087,232585327,7411736924317563498] [.str x,nI n,nI nt,.tup [.tup (nums c),nI 0],.bool (!decide ((1:Int)<(c.length:Nat)))]
noncomputable def wsInst (ts:List Nat):PV:=wsV (wsText ts) (sumT ts) ts.length (ts.foldl bump [])
theorem s_sa {r:Rc} {x a:Nat} {e:PE} {oc:List Nat} {ρ:PEnv} {v:PV} {ks:List Nat} {vs:List PV} (h1:r.ev (PEnv.only oc ρ) e=some v) (h2:ownI (frz v oc ρ) x=some (ks,vs)) (h3:ks.length≤1000):exS r ρ (.setattr x a e oc)=some (PEnv.set (frz v oc ρ) x true (.inst (putAttr a v ks vs).1 (putAttr a v ks vs).2),.next):=obs h1 (obs h2 (ogT (ble_tr h3)))
noncomputable def ρI (x:List Nat) (ks:List Nat) (vs:List PV) (s:Ws) (b:Bool) (t:PEnv):PEnv:=(217805684,true,.inst ks vs) :: (14968,false,.str x) :: (85,false,.str [9]) :: (84,false,.str [32]) :: (ctN,b,.list (nums s.c)) :: (99,false,nI s.b) :: (111,false,nI s.n) :: (15087,false,nI s.nt) :: t
theorem ws_tail {k:Nat} {x:List Nat} {c:List Nat} {N NT:Nat} {t:PEnv} (ht:Tl 13540 t) (hc:c.length≤100000):exL (Sm (k+38)) (M___init__.body.drop 5) (envW x ⟨c,0,N,NT⟩ t)=some ((217805684,true,wsV x N NT c) :: (ρI x [] [] ⟨c,0,N,NT⟩ false t).tail,.next):=by
 have hv:(Sm (k+38)).ev (PEnv.only [ctN,99] (ρI x [1978739,111,15087] [.str x,nI N,nI NT] ⟨c,0,N,NT⟩ true t)) (.tup [(.bi .tuple [(.var ctN)]),(.var 99)])=some (.tup [.tup (nums c),nI 0]) :=
  obs (evL_2 (ev_bi (vs:=[.list (nums c)]) (by rcases ht with rfl|⟨y,rfl⟩ <;> kernel_rfl) (show biV .tuple [.list (nums c)]=_ from ogT (lo_tr ((nums_len _).symm ▸ Nat.le_trans hc (by decide))))) (by rcases ht with rfl|⟨y,rfl⟩ <;> kernel_rfl)) rfl
 have hw:(Sm (k+38)).ev (PEnv.only [ctN] (ρI x [1978739,111,15087,232585327] [.str x,nI N,nI NT,.tup [.tup (nums c),nI 0]] ⟨c,0,N,NT⟩ false t)) (.cmp .le (.bi .len [(.var ctN)]) (.lit (.int 1)))=some (.bool (!decide ((1:Int)<(c.length:Nat)))) :=
  ev_cmp (x:=nI c.length) (y:=nI 1) (ev_bi (vs:=[.list (nums c)]) (by rcases ht with rfl|⟨y,rfl⟩ <;> kernel_rfl) (len_at hc)) (by kernel_rfl) rfl
 refine exL_app (l:=M___init__.body.drop 7) (l₁:=(M___init__.body.drop 5).take 2) (ρ':=ρI x [1978739,111,15087] [.str x,nI N,nI NT] ⟨c,0,N,NT⟩ true t) (by rcases ht with rfl|⟨y,rfl⟩ <;> kernel_rfl) ?_
 refine exL_n ((s_sa (ks:=[1978739,111,15087]) (vs:=[.str x,nI N,nI NT]) hv (by rcases ht with rfl|⟨y,rfl⟩ <;> kernel_rfl) (by decide)).trans (show _=some (ρI x [1978739,111,15087,232585327] [.str x,nI N,nI NT,.tup [.tup (nums c),nI 0]] ⟨c,0,N,NT⟩ false t,Fl.next) by rcases ht with rfl|⟨y,rfl⟩ <;> kernel_rfl)) ?_
 exact (exL_1 (s_sa (ks:=[1978739,111,15087,232585327]) (vs:=[.str x,nI N,nI NT,.tup [.tup (nums c),nI 0]]) hw (by rcases ht with rfl|⟨y,rfl⟩ <;> kernel_rfl) (by decide))).trans (by rcases ht with rfl|⟨y,rfl⟩ <;> kernel_rfl)
theorem fn_cl {n f:Nat} {vs:List PV} {fp:FnP} (h1:sp02 f vs=none) (h2:lookF fnL f=none) (h3:ct02 f=some fp):(Sm (n+1)).fn f vs=runC (Sm n) fp vs:=by
 show om (ogo (Nat.ble 140 n) (sp02 f vs)) some (om (lookF fnL f) (fun fp=>runF (Sm n) fp vs) (ob (ct02 f) fun fp=>runC (Sm n) fp vs))=_
 rw [h1,h2,h3]
 cases Nat.ble 140 n <;> rfl
theorem run_c {n me:Nat} {xs:List Nat} {body:List PS} {vs:List PV} {ρ ρ':PEnv} {ks:List Nat} {ps:List PV} (h1:zipE xs vs=some ρ) (h2:exL (Sm n) body ((me,true,.inst [] []) :: ρ)=some (ρ',.next)) (h3:ownI ρ' me=some (ks,ps)):runC (Sm (n+1)) ⟨me :: xs,body⟩ vs=some (.inst ks ps):=obs h1 (obs h2 (obs h3 rfl))
theorem ws_spec {k:Nat} {ts:List Nat} (hs:sumT ts≤100000):(Sm (k+40)).fn wsN [.str (wsText ts)]=some (wsInst ts):=by
 have hx:(wsText ts).length≤100000:=(wsText_len ts).symm ▸ hs
 obtain ⟨ρ',h3,⟨t,ht,rfl⟩,_,hc⟩:=for_inv (k:=k+37) (I:=wsI (wsText ts)) (ws_step (k:=k+18)) (wsText ts) ⟨[],0,0,0⟩ (envW (wsText ts) ⟨[],0,0,0⟩ []) ⟨⟨[],.inl rfl,rfl⟩,(Nat.zero_add _).symm ▸ hx,Nat.zero_le _⟩ (wsText_ok ts)
 rw [wst_all,Nat.zero_add,Nat.zero_add] at h3 hc
 rw [fn_cl (fp:=M___init__) (by kernel_rfl) (by kernel_rfl) (by kernel_rfl)]
 unfold wsInst
 generalize wsText ts=x at *
 generalize ts.foldl bump []=c at *
 refine run_c (n:=k+38) (me:=217805684) (xs:=[14968]) (body:=M___init__.body) (ρ:=[(14968,false,PV.str x)]) (ρ':=(217805684,true,wsV x (sumT ts) ts.length c) :: (ρI x [] [] ⟨c,0,sumT ts,ts.length⟩ false t).tail) rfl ?_ rfl
 refine exL_app (l:=M___init__.body.drop 4) (l₁:=M___init__.body.take 4) (ρ':=envW x ⟨[],0,0,0⟩ []) (by kernel_rfl) ?_
 refine exL_n (s_for (b:=false) (ps:=x.map fun c=>PV.str [c]) (it_s (by kernel_rfl) (Nat.le_trans hx (by decide))) h3) ?_
 exact ws_tail ht hc
end Mine
end
section
set_option maxRecDepth 100000
open PySem
set_option genSizeOf false
set_option genInjectivity false
namespace Mine
noncomputable def ilst (ts:Nat) (c:List Nat) (acc i:Nat):Nat:=acc+i / ts*c.getD i 0
noncomputable def ilF (ts:Nat) (c:List Nat):Nat:=(List.range' ts (c.length - ts)).foldl (ilst ts c) 0
noncomputable def indF (ts:Nat) (c:List Nat) (nt:Nat):Nat:=ts*(ilF ts c+nt)
noncomputable def slN:Nat:=217805684
noncomputable def tsN:Nat:=452855691014517
noncomputable def envI (I:PV) (ts:Nat) (c:List Nat) (il:Nat) (t:PEnv):PEnv:=(slN,false,I) :: (tsN,false,nI ts) :: (ctN,false,.tup (nums c)) :: (59038649934199285,false,nI 0) :: (14058,false,nI il) :: t
noncomputable def ilB:List PS:=[.assign 14058 (.bin .add (.var 14058) (.bin .mul (.bin .fdiv (.var 106) (.var tsN)) (.idx (.var ctN) (.var 106)))) [14058,106,tsN,ctN]]
noncomputable def ilI (I:PV) (ts:Nat) (c:List Nat) (n il:Nat) (ρ:PEnv):Prop:=(∃ t,Tl 106 t∧ρ=envI I ts c il t)∧il+n*1000000≤1000000000
theorem getD_le {c:List Nat} {M:Nat} (h:∀ x∈c,x≤M) (i:Nat):c.getD i 0≤M:=by
 rw [List.getD_eq_getElem?_getD]
 cases q:c[i]? with
 | none=>exact Nat.zero_le _
 | some x=>exact h x (List.mem_of_getElem? q)
theorem b_mulS {a b:Nat} (ha:a<2 ^ 100) (hb:b<2 ^ 100):binV .mul (nI a) (nI b)=some (nI (a*b)):=b_mul (fits_nat ha (by decide)) (fits_nat hb (by decide))
theorem lt100 {a:Nat} (h:a≤2000000000):a<2 ^ 100:=Nat.lt_of_le_of_lt h (by decide)
theorem il_step {k ts:Nat} {I:PV} {c:List Nat} (hts:0<ts) (hts2:ts≤1000) (hc:c.length≤1000) (hx:∀ x∈c,x≤1000) (n il i:Nat) (ρ:PEnv) (h:ilI I ts c (n+1) il ρ) (hi:i<c.length):∃ ρ₁ ρ',bindT [106] true (nI i) ρ=some ρ₁∧(Sm (k+20)).ex ρ₁ ilB=some (ρ',.next)∧ilI I ts c n (ilst ts c il i) ρ':=by
 obtain ⟨⟨t,ht,rfl⟩,hb⟩:=h
 have hd:i / ts≤1000:=Nat.le_trans (Nat.div_le_self _ _) (Nat.le_trans (Nat.le_of_lt hi) hc)
 have hg:=getD_le hx i
 refine ⟨_,envI I ts c (ilst ts c il i) [(106,false,nI i)],rfl,?_,⟨_,.inr ⟨_,rfl⟩,rfl⟩,?_⟩
 ·rw [show PEnv.set (envI I ts c il t) 106 false (nI i)=envI I ts c il [(106,false,nI i)] by rcases ht with rfl|⟨y,rfl⟩ <;> kernel_rfl]
  refine (exL_1 (s_as (v:=nI (ilst ts c il i)) (ev_bin (x:=nI il) (y:=nI (i / ts*c.getD i 0)) (by kernel_rfl) (ev_bin (x:=nI (i / ts)) (y:=nI (c.getD i 0)) (ev_bin (x:=nI i) (y:=nI ts) (by kernel_rfl) (by kernel_rfl) (b_fdivN hts (lt100 (Nat.le_trans hts2 (by decide))) (by decide))) (ev_ix (x:=.tup (nums c)) (y:=nI i) (by kernel_rfl) (by kernel_rfl) (idx_tup hi (Nat.le_trans hc (by decide)))) (b_mulS (lt100 (Nat.le_trans hd (by decide))) (lt100 (Nat.le_trans hg (by decide))))) rfl))).trans (by kernel_rfl)
 ·refine Nat.le_trans (Nat.add_le_add_right (Nat.add_le_add_left (Nat.mul_le_mul hd hg) il) _) ?_
  rw [Nat.add_assoc,Nat.add_comm (1000*1000),← Nat.succ_mul]
  exact hb
theorem b_rng {a b:Nat} (ha:a≤100000) (hb:b≤100000):rangeV [nI a,nI b]=some ((List.range' a (b - a)).map nI):=by
 have s:∀ {m:Nat},m≤100000→small (m:Int)=true:=fun h=>Nat.blt_eq.mpr (show _<1000000 from Nat.lt_of_le_of_lt h (by decide))
 refine (show _=og (small (a:Int) && small (b:Int)) (rangeUp (a:Int) ((b:Int) - a).toNat) from rfl).trans ((ogT (by rw [s ha,s hb];rfl)).trans ?_)
 rw [Int.toNat_sub,rangeUp_map]
theorem it_rng {n a b:Nat} {ρ:PEnv} {e1 e2:PE} (h1:(Sm n).ev ρ e1=some (nI a)) (h2:(Sm n).ev ρ e2=some (nI b)) (ha:a≤100000) (hb:b≤100000):iterV (Sm n) ρ (.bi .range [e1,e2])=some ((List.range' a (b - a)).map nI,false):=obs (evL_2 h1 h2) (obs (b_rng ha hb) rfl)
theorem ind_spec {k ts n nt:Nat} {x c:List Nat} (hts:0<ts) (hts2:ts≤1000) (hc:c.length≤1000) (hx:∀ x∈c,x≤1000) (hnt:nt≤1000):(Sm (k+30)).me 16593139630497283534583786 [wsV x n nt c,nI ts]=some (nI (indF ts c nt)):=by
 obtain ⟨ρ',h3,⟨t,ht,rfl⟩,hil⟩:=for_inv (k:=k+27) (I:=ilI (wsV x n nt c) ts c) (il_step (k:=k+8) hts hts2 hc hx) (List.range' ts (c.length - ts)) 0 (envI (wsV x n nt c) ts c 0 []) ⟨⟨[],.inl rfl,rfl⟩,by rw [List.length_range',Nat.zero_add];exact Nat.mul_le_mul_right 1000000 (Nat.le_trans (Nat.sub_le _ _) hc)⟩ fun i hi=>(by
  obtain ⟨h1,h2⟩:=List.mem_range'_1.mp hi
  by_cases q:ts≤c.length
  ·exact Nat.add_sub_cancel' q ▸ h2
  ·rw [Nat.sub_eq_zero_of_le (Nat.le_of_not_le q),Nat.add_zero] at h2
   exact absurd h2 (Nat.not_lt.mpr h1))
 have hil2:ilF ts c+nt≤1000001000:=Nat.add_le_add (Nat.le_of_add_right_le hil) hnt
 rw [me_run (fp:=M_indent_level) (by kernel_rfl)]
 apply run_r (n:=k+28) (ρ:=[(slN,false,wsV x n nt c),(tsN,false,nI ts)]) (by rfl)
 refine exL_app (l:=M_indent_level.body.drop 2) (l₁:=M_indent_level.body.take 2) (ρ':=envI (wsV x n nt c) ts c 0 []) (by kernel_rfl) ?_
 refine exL_n (s_for (b:=false) (ps:=(List.range' ts (c.length - ts)).map nI) (it_rng (a:=ts) (b:=c.length) (by kernel_rfl) (ev_bi (vs:=[.tup (nums c)]) (by kernel_rfl) (len_at (c:=c) (Nat.le_trans hc (by decide)))) (Nat.le_trans hts2 (by decide)) (Nat.le_trans hc (by decide))) h3) ?_
 exact exL_r (s_rt (ev_bin (x:=nI 0) (y:=nI (ts*(ilF ts c+nt))) (by rcases ht with rfl|⟨y,rfl⟩ <;> kernel_rfl) (ev_bin (x:=nI ts) (y:=nI (ilF ts c+nt)) (by rcases ht with rfl|⟨y,rfl⟩ <;> kernel_rfl) (by rcases ht with rfl|⟨y,rfl⟩ <;> kernel_rfl) (b_mulS (lt100 (Nat.le_trans hts2 (by decide))) (lt100 (Nat.le_trans hil2 (by decide))))) (congrArg (fun n=>some (nI n)) (Nat.zero_add _))))
theorem lr_spec {k n nt:Nat} {x c:List Nat} (hc:c.length≤1000):(Sm (k+12)).me 162799657117787522696913369657140165249595501 [wsV x n nt c]=some (nI (c.length - 1)):=by
 rw [me_run (fp:=M_longest_run_of_spaces) (by kernel_rfl)]
 refine run_r (ρ:=[(slN,false,wsV x n nt c)]) rfl (exL_n (ρ':=[(slN,false,wsV x n nt c),(ctN,false,.tup (nums c)),(59038649934199285,false,nI 0)]) (by kernel_rfl) (exL_r (s_rt ?_)))
 refine ev_bi (vs:=[.int ((c.length:Int) - (1:Nat)),nI 0]) (evL_2 (ev_bin (x:=nI c.length) (y:=nI 1) (ev_bi (vs:=[.tup (nums c)]) (by kernel_rfl) (len_at (c:=c) (Nat.le_trans hc (by decide)))) (by kernel_rfl) rfl) (by kernel_rfl)) ?_
 refine (show _=some (PV.int (match decide ((c.length:Int) - (1:Nat)<(0:Nat)) with|true=>((0:Nat):Int)|false=>(c.length:Int) - (1:Nat))) from rfl).trans (congrArg (fun i=>some (PV.int i)) ?_)
 cases c with
 | nil=>rfl
 | cons a c =>
  rw [show ((a :: c).length:Int) - (1:Nat)=(c.length:Int) from Int.add_sub_cancel (c.length:Int) 1,show decide ((c.length:Int)<(0:Nat))=false from decide_eq_false (Int.not_lt.mpr (Int.natCast_nonneg _))]
  rfl
theorem less_spec {k n nt nt':Nat} {x x' c c':List Nat}:(Sm (k+12)).me 245183341 [wsV x n nt c,wsV x' n nt' c']=some (.bool false):=by
 rw [me_run (fp:=M_less) (by kernel_rfl)]
 have ht:(Sm (k+10)).ts [(slN,false,wsV x n nt c),(31085722352,false,wsV x' n nt' c')] (.cmp .ge (.attr (.var slN) 111) (.attr (.var 31085722352) 111))=some (!decide ((n:Int)<n)):=by kernel_rfl
 rw [decide_eq_false (Int.lt_irrefl _)] at ht
 exact run_r (ρ:=[(slN,false,wsV x n nt c),(31085722352,false,wsV x' n nt' c')]) rfl (exL_r (s_t ht (show exL (Sm (k+9)) _ _=_ from exL_r (s_rt (v:=.bool false) (by kernel_rfl)))))
theorem equal_spec {k n nt n' nt':Nat} {x x' c c':List Nat}:(Sm (k+12)).me 29466933606 [wsV x n nt c,wsV x' n' nt' c']=some (.bool (decide (c=c'))):=by
 rw [me_run (fp:=M_equal) (by kernel_rfl)]
 refine run_r (ρ:=[(slN,false,wsV x n nt c),(31085722352,false,wsV x' n' nt' c')]) rfl (exL_r (s_rt (ev_cmp (x:=.tup [.tup (nums c),nI 0]) (y:=.tup [.tup (nums c'),nI 0]) (by kernel_rfl) (by kernel_rfl) ?_)))
 exact obs (eqvL_nums (n:=3) c c') (congrArg some (Bool.and_true _))
end Mine
end
section
set_option maxRecDepth 100000
open PySem
set_option genSizeOf false
set_option genInjectivity false
namespace Mine
theorem fold_flat {β:Type} (sel:β→List PV):∀ (l:List β) (acc:List PV),l.foldl (fun acc i=>acc++sel i) acc=acc++l.flatMap sel
 | [],acc=>(List.append_nil acc).symm
 | i :: l,acc=>by rw [List.foldl_cons,fold_flat sel l,List.flatMap_cons,List.append_assoc]
noncomputable def trip (i a b:Nat):PV:=.tup [nI i,nI a,nI b]
noncomputable def selN (f g:Nat→Nat) (i:Nat):List PV:=match decide (f i=g i) with
 | true=>[]
 | false=>[trip i (f i) (g i)]
theorem selN_len (f g:Nat→Nat) (i:Nat):(selN f g i).length≤1:=by
 unfold selN
 cases decide (f i=g i)
 ·exact Nat.le_refl _
 ·exact Nat.zero_le _
theorem cmp_ne (a b:Nat):cmpV .ne (nI a) (nI b)=some (!decide (a=b)):=congrArg (fun c=>some (!c)) (intBeq_nat a b)
theorem b_max (a b:Nat):biV .max [nI a,nI b]=some (nI (max a b)):=by
 refine (show _=some (PV.int (match decide ((a:Int)<b) with|true=>(b:Int)|false=>(a:Int))) from rfl).trans (congrArg (fun i=>some (PV.int i)) ?_)
 by_cases h:a<b
 ·rw [decide_eq_true (Int.ofNat_lt.mpr h),Nat.max_eq_right (Nat.le_of_lt h)]
 ·rw [decide_eq_false fun q=>h (Int.ofNat_lt.mp q),Nat.max_eq_left (Nat.le_of_not_lt h)]
structure Cw (c:List Nat) (nt:Nat):Prop where
 l:c.length≤900
 x:∀ x∈c,x≤1000
 n:nt≤1000
noncomputable def otN:Nat:=31085722352
noncomputable def neIm (x:Nat):PE:=.imeth (.var x) 16593139630497283534583786 [(.var 14965)]
noncomputable def neB:List PS:=[.if_ (.cmp .ne (neIm slN) (neIm otN)) [.append 98 (.tup [(.var 14965),neIm slN,neIm otN]) [14965,slN,otN]] []]
noncomputable def envN (A B:PV) (N:Nat) (acc:List PV) (t:PEnv):PEnv:=(slN,false,A) :: (otN,false,B) :: (111,false,nI N) :: (98,true,.list acc) :: t
noncomputable def neI (A B:PV) (N n:Nat) (acc:List PV) (ρ:PEnv):Prop:=(∃ t,Tl 14965 t∧ρ=envN A B N acc t)∧acc.length+n≤1000
theorem ne_m {j n nt i:Nat} {x c:List Nat} {ρ:PEnv} {e:PE} (h:Cw c nt) (hi:0<i) (hi2:i≤1000) (h1:(Sm (j+30)).ev ρ e=some (wsV x n nt c)) (h2:(Sm (j+30)).ev ρ (.var 14965)=some (nI i)):(Sm (j+31)).ev ρ (.imeth e 16593139630497283534583786 [(.var 14965)])=some (nI (indF i c nt)) :=
 ev_im h1 (by decide) (evL_1 h2) (ind_spec hi hi2 (Nat.le_trans h.l (by decide)) h.x h.n)
section
variable {k n nt n' nt':Nat} {x x' c c':List Nat} (h:Cw c nt) (h':Cw c' nt')
include h h'
theorem ne_step {N:Nat} (m:Nat) (acc:List PV) (i:Nat) (ρ:PEnv) (hI:neI (wsV x n nt c) (wsV x' n' nt' c') N (m+1) acc ρ) (hi:0<i∧i≤1000):∃ ρ₁ ρ',bindT [14965] true (nI i) ρ=some ρ₁∧(Sm (k+60)).ex ρ₁ neB=some (ρ',.next)∧neI (wsV x n nt c) (wsV x' n' nt' c') N m (acc++selN (indF · c nt) (indF · c' nt') i) ρ':=by
 obtain ⟨⟨t,hT,rfl⟩,hb⟩:=hI
 have ht:=ts_cmp (n:=k+58) (ne_m (j:=k+27) (ρ:=envN (wsV x n nt c) (wsV x' n' nt' c') N acc [(14965,false,nI i)]) (e:=.var slN) (x:=x) (n:=n) h hi.1 hi.2 (by kernel_rfl) (by kernel_rfl)) (ne_m (j:=k+27) (e:=.var otN) (x:=x') (n:=n') h' hi.1 hi.2 (by kernel_rfl) (by kernel_rfl)) (cmp_ne _ _)
 refine ⟨_,envN (wsV x n nt c) (wsV x' n' nt' c') N (acc++selN (indF · c nt) (indF · c' nt') i) [(14965,false,nI i)],rfl,?_,⟨_,.inr ⟨_,rfl⟩,rfl⟩,?_⟩
 ·rw [show PEnv.set (envN (wsV x n nt c) (wsV x' n' nt' c') N acc t) 14965 false (nI i)=envN (wsV x n nt c) (wsV x' n' nt' c') N acc [(14965,false,nI i)] by rcases hT with rfl|⟨y,rfl⟩ <;> kernel_rfl]
  unfold selN
  cases hq:decide (indF i c nt=indF i c' nt') with
  | true =>
   rw [hq] at ht
   rw [List.append_nil]
   exact exL_1 (s_f ht rfl)
  | false =>
   rw [hq] at ht
   refine exL_1 (s_t ht (show exL (Sm (k+58)) _ _=_ from (exL_1 (s_ap (v:=trip i (indF i c nt) (indF i c' nt')) (k:=acc) (obs (evL_3 (r:=Sm (k+57)) (v:=nI i) (by kernel_rfl) (ne_m (j:=k+26) (x:=x) (n:=n) h hi.1 hi.2 (by kernel_rfl) (by kernel_rfl)) (ne_m (j:=k+26) (x:=x') (n:=n') h' hi.1 hi.2 (by kernel_rfl) (by kernel_rfl))) rfl) (by kernel_rfl) (Nat.le_trans (Nat.le_of_add_right_le hb) (by decide)))).trans (by kernel_rfl)))
 ·rw [List.length_append,Nat.add_assoc,Nat.add_comm _ m]
  exact Nat.le_trans (Nat.add_le_add_left (Nat.add_le_add_left (selN_len _ _ i) m) _) hb
theorem ne_spec:(Sm (k+70)).me 607044556810351699428703568706500719 [wsV x n nt c,wsV x' n' nt' c']=some (.list ((List.range' 1 (max (c.length - 1) (c'.length - 1)+1)).flatMap (selN (indF · c nt) (indF · c' nt')))):=by
 have hN:max (c.length - 1) (c'.length - 1)+1≤901:=Nat.succ_le_succ (Nat.max_le.mpr ⟨Nat.le_trans (Nat.sub_le _ _) h.l,Nat.le_trans (Nat.sub_le _ _) h'.l⟩)
 have hm:(Sm (k+68)).ev (PEnv.only [slN,otN] [(slN,false,wsV x n nt c),(otN,false,wsV x' n' nt' c')]) (.bin .add (.bi .max [(.imeth (.var slN) 162799657117787522696913369657140165249595501 []),(.imeth (.var otN) 162799657117787522696913369657140165249595501 [])]) (.lit (.int 1)))=some (nI (max (c.length - 1) (c'.length - 1)+1)) :=
  ev_bin (x:=nI (max (c.length - 1) (c'.length - 1))) (y:=nI 1) (ev_bi (evL_2 (ev_im (n:=k+65) (by kernel_rfl) (by decide) rfl (lr_spec (k:=k+53) (x:=x) (n:=n) (nt:=nt) (Nat.le_trans h.l (by decide)))) (ev_im (n:=k+65) (by kernel_rfl) (by decide) rfl (lr_spec (k:=k+53) (x:=x') (n:=n') (nt:=nt') (Nat.le_trans h'.l (by decide))))) (b_max _ _)) (by kernel_rfl) rfl
 generalize max (c.length - 1) (c'.length - 1)+1=N at *
 obtain ⟨ρ',h3,⟨t,ht,rfl⟩,_⟩:=for_inv (k:=k+67) (I:=neI (wsV x n nt c) (wsV x' n' nt' c') N) (ne_step (k:=k+8) h h') (List.range' 1 N) [] (envN (wsV x n nt c) (wsV x' n' nt' c') N [] []) ⟨⟨[],.inl rfl,rfl⟩,by rw [List.length_range',List.length_nil,Nat.zero_add];exact Nat.le_trans hN (by decide)⟩ fun i hi=>(by
  obtain ⟨h1,h2⟩:=List.mem_range'_1.mp hi
  exact ⟨h1,Nat.le_trans (Nat.le_of_lt h2) (Nat.le_trans (Nat.add_le_add_left hN 1) (by decide))⟩)
 rw [fold_flat,List.nil_append] at h3
 rw [me_run (fp:=M_not_equal_witness) (by kernel_rfl)]
 apply run_r (n:=k+68) (ρ:=[(slN,false,wsV x n nt c),(otN,false,wsV x' n' nt' c')]) (by rfl)
 refine exL_n (s_as hm) ?_
 refine exL_n (ρ':=envN (wsV x n nt c) (wsV x' n' nt' c') N [] []) (by kernel_rfl) ?_
 refine exL_n (s_for (b:=false) (ps:=(List.range' 1 N).map nI) (it_rng (a:=1) (b:=N+1) (by kernel_rfl) (by kernel_rfl) (by decide) (Nat.le_trans (Nat.succ_le_succ hN) (by decide))) h3) ?_
 exact exL_r (s_rt (by rcases ht with rfl|⟨y,rfl⟩ <;> kernel_rfl))
end
end Mine
end
section
set_option maxRecDepth 100000
open PySem
set_option genSizeOf false
set_option genInjectivity false
namespace Mine
noncomputable def hereF (s:Nat) (E:List Nat):Nat:=total (E.map fun t=>(t / s+1)*s)
noncomputable def divd (W:List Nat) (i:Nat):List Nat:=W.filter fun w=>decide (w % i=0)
noncomputable def selW (E O W:List Nat) (i:Nat):List PV:=match decide (divd W i=[]) with
 | true=>selN (hereF · E) (hereF · O) i
 | false=>[]
noncomputable def woN:Nat:=4014162638968
noncomputable def evsN:Nat:=31372983270
noncomputable def odN:Nat:=244937456
noncomputable def lwC:PE:=.cmp .eq (.comp (.var 28432988280) [28432988280] true (.tv (.var woN)) [(.cmp .eq (.bin .mod (.var 28432988280) (.var 215938420)) (.lit (.int 0)))] [215938420]) (.list [])
noncomputable def lwE:PE:=.bin .mul (.bin .add (.bin .fdiv (.var 29466916981) (.var 215938420)) (.lit (.int 1))) (.var 215938420)
noncomputable def lwS (x:Nat):PE:=.bi .sum [(.comp lwE [29466916981] true (.tv (.var x)) [] [215938420])]
noncomputable def lwB:List PS:=[.if_ lwC [.assign 215806825 (lwS evsN) [evsN,215938420],.assign 27623273717 (lwS odN) [odN,215938420],.if_ (.cmp .ne (.var 215806825) (.var 27623273717)) [.append 1686373 (.tup [(.var 215938420),(.var 215806825),(.var 27623273717)]) [215938420,215806825,27623273717]] []] []]
theorem b_mod {a b:Nat} (h:0<b):binV .mod (nI a) (nI b)=some (nI (a % b)):=by
 refine (show _=ogn (intBeq (b:Int) 0) (PV.int ((a:Int).fmod b)) from rfl).trans ((ognF ((intBeq_nat b 0).trans (decide_eq_false (Nat.ne_of_gt h)))).trans (by rw [← Int.ofNat_fmod]))
theorem all_1 {r:Rc} {ρ:PEnv} {c:PE} {b:Bool} (h:r.ts ρ c=some b):allT r ρ [c]=some b:=by
 show oif (r.ts ρ c) (some true) (some false)=_
 rw [h]
 cases b <;> rfl
theorem cmp_eq (a b:Nat):cmpV .eq (nI a) (nI b)=some (decide (a=b)):=congrArg some (intBeq_nat a b)
theorem lw_c {k i:Nat} {W:List Nat} {ρ:PEnv} (hi:0<i) (hW:W.length≤1000) (h1:(Sm (k+8)).ev ρ (.var woN)=some (.list (nums W))) (h2:PEnv.cap [215938420] ρ=[(215938420,false,nI i)]):(Sm (k+10)).ts ρ lwC=some (decide (divd W i=[])):=by
 have hc:=comp_inv (r:=Sm (k+8)) (elt:=.var 28432988280) (xs:=[28432988280]) (si:=true) (ifs:=[.cmp .eq (.bin .mod (.var 28432988280) (.var 215938420)) (.lit (.int 0))]) (I:=fun ρ=>∃ t,Tl 28432988280 t∧ρ=(215938420,false,nI i) :: t) (ok:=fun _=>True) (g:=nI) (f:=nI) (c:=fun w=>decide (w % i=0)) (fun w ρ h _=>by
  obtain ⟨t,ht,rfl⟩:=h
  refine ⟨(215938420,false,nI i) :: [(28432988280,false,nI w)],by rcases ht with rfl|⟨y,rfl⟩ <;> rfl,all_1 (ts_cmp (n:=k+7) (y:=nI 0) (ev_bin (x:=nI w) (y:=nI i) (by kernel_rfl) (by kernel_rfl) (b_mod hi)) (by kernel_rfl) (cmp_eq _ 0)),fun _=>(by kernel_rfl),_,.inr ⟨_,rfl⟩,rfl⟩) W [(215938420,false,nI i)] ⟨[],.inl rfl,rfl⟩ fun _ _=>trivial
 exact ts_cmp (x:=.list (nums (divd W i))) (y:=.list []) (ev_comp (n:=k+8) (it_tv h1 ((nums_len W).symm ▸ Nat.le_trans hW (by decide))) (by rw [h2];exact hc) ((nums_len _).symm ▸ Nat.le_trans (List.length_filter_le _ _) (Nat.le_trans hW (by decide)))) (by kernel_rfl) (eqvL_nums (n:=4) (divd W i) [])
theorem lw_s {k i x:Nat} {E:List Nat} {ρ:PEnv} (hi:0<i) (hi2:i≤1000) (hE:E.length≤1000) (hx:∀ t∈E,t≤1000) (h1:(Sm (k+9)).ev ρ (.var x)=some (.list (nums E))) (h2:PEnv.cap [215938420] ρ=[(215938420,false,nI i)]):(Sm (k+11)).ev ρ (lwS x)=some (nI (hereF i E)):=by
 have hc:=comp_all (r:=Sm (k+9)) (elt:=lwE) (x:=29466916981) (ρ₀:=[(215938420,false,nI i)]) (ok:=fun t=>t≤1000) (g:=nI) (f:=fun t=>nI ((t / i+1)*i)) (fun t ρ h ht=>by
  have e:PEnv.set ρ 29466916981 false (nI t)=PEnv.set [(215938420,false,nI i)] 29466916981 false (nI t):=by rcases h with rfl|⟨y,rfl⟩ <;> rfl
  rw [e]
  exact ⟨ev_bin (x:=nI (t / i+1)) (y:=nI i) (ev_bin (x:=nI (t / i)) (y:=nI 1) (ev_bin (x:=nI t) (y:=nI i) (by kernel_rfl) (by kernel_rfl) (b_fdivN hi (lt100 (Nat.le_trans hi2 (by decide))) (by decide))) (by kernel_rfl) rfl) (by kernel_rfl) (b_mulS (lt100 (Nat.le_trans (Nat.succ_le_succ (Nat.le_trans (Nat.div_le_self t i) ht)) (by decide))) (lt100 (Nat.le_trans hi2 (by decide)))),_,rfl⟩) E hx
 have hl:(E.map fun t=>(t / i+1)*i).length≤1000000:=by rw [List.length_map];exact Nat.le_trans hE (by decide)
 refine ev_bi (vs:=[.list (nums (E.map fun t=>(t / i+1)*i))]) (evL_1 (ev_comp (n:=k+9) (it_tv h1 ((nums_len E).symm ▸ Nat.le_trans hE (by decide))) (by rw [h2];exact hc.trans (congrArg some (by rw [nums,List.map_map];rfl))) ((nums_len _).symm ▸ hl))) (sum_nums hl)
noncomputable def envL (E O W:List Nat) (acc:List PV) (t:PEnv):PEnv:=(evsN,false,.list (nums E)) :: (odN,false,.list (nums O)) :: (woN,false,.list (nums W)) :: (1686373,true,.list acc) :: t
noncomputable def tZ (y u v:PV):PEnv:=[(215938420,false,y),(215806825,false,u),(27623273717,false,v)]
noncomputable def Tz (t:PEnv):Prop:=Tl 215938420 t∨∃ y u v,t=tZ y u v
noncomputable def Lw (E:List Nat):Prop:=E.length≤1000∧∀ t∈E,t≤1000
noncomputable def lwI (E O W:List Nat) (n:Nat) (acc:List PV) (ρ:PEnv):Prop:=(∃ t,Tz t∧ρ=envL E O W acc t)∧acc.length+n≤1000
section
variable {k:Nat} {E O W:List Nat} (hE:Lw E) (hO:Lw O) (hW:W.length≤1000)
include hE hO hW
theorem lw_step (m:Nat) (acc:List PV) (i:Nat) (ρ:PEnv) (hI:lwI E O W (m+1) acc ρ) (hi:0<i∧i≤1000):∃ ρ₁ ρ',bindT [215938420] true (nI i) ρ=some ρ₁∧(Sm (k+30)).ex ρ₁ lwB=some (ρ',.next)∧lwI E O W m (acc++selW E O W i) ρ':=by
 obtain ⟨⟨t,hT,rfl⟩,hb⟩:=hI
 obtain ⟨t₁,h₁,e₁⟩:∃ t₁,(t₁=[(215938420,false,nI i)]∨∃ u v,t₁=tZ (nI i) u v)∧PEnv.set (envL E O W acc t) 215938420 false (nI i)=envL E O W acc t₁:=by
  rcases hT with (rfl|⟨y,rfl⟩)|⟨y,u,v,rfl⟩
  ·exact ⟨_,.inl rfl,rfl⟩
  ·exact ⟨_,.inl rfl,rfl⟩
  ·exact ⟨_,.inr ⟨u,v,rfl⟩,rfl⟩
 have hl:acc.length+(selW E O W i).length+m≤1000:=by
  have:(selW E O W i).length≤1:=by
   unfold selW
   cases decide (divd W i=[])
   ·exact Nat.zero_le _
   ·exact selN_len _ _ i
  rw [Nat.add_assoc,Nat.add_comm _ m]
  exact Nat.le_trans (Nat.add_le_add_left (Nat.add_le_add_left this m) _) hb
 rw [← List.length_append] at hl
 have hc:=lw_c (k:=k+19) (ρ:=envL E O W acc t₁) (W:=W) hi.1 hW (by kernel_rfl) (by rcases h₁ with rfl|⟨u,v,rfl⟩ <;> kernel_rfl)
 suffices h:∃ t₂,Tz t₂∧exL (Sm (k+29)) lwB (envL E O W acc t₁)=some (envL E O W (acc++selW E O W i) t₂,.next) by
  obtain ⟨t₂,h₂,e₂⟩:=h
  exact ⟨_,_,congrArg some e₁,e₂,⟨t₂,h₂,rfl⟩,hl⟩
 unfold selW at hl ⊢
 cases hq:decide (divd W i=[]) with
 | false =>
  rw [hq] at hc
  refine ⟨t₁,?_,by rw [List.append_nil];exact exL_1 (s_f hc rfl)⟩
  rcases h₁ with rfl|⟨u,v,rfl⟩
  ·exact .inl (.inr ⟨_,rfl⟩)
  ·exact .inr ⟨_,_,_,rfl⟩
 | true =>
  rw [hq] at hc hl
  have s1:=lw_s (k:=k+17) (x:=evsN) (ρ:=PEnv.only [evsN,215938420] (envL E O W acc t₁)) hi.1 hi.2 hE.1 hE.2 (by kernel_rfl) (by rcases h₁ with rfl|⟨u,v,rfl⟩ <;> kernel_rfl)
  have s2:=lw_s (k:=k+17) (x:=odN) (ρ:=PEnv.only [odN,215938420] (PEnv.set (envL E O W acc t₁) 215806825 false (nI (hereF i E)))) hi.1 hi.2 hO.1 hO.2 (by rcases h₁ with rfl|⟨u,v,rfl⟩ <;> kernel_rfl) (by rcases h₁ with rfl|⟨u,v,rfl⟩ <;> kernel_rfl)
  refine ⟨tZ (nI i) (nI (hereF i E)) (nI (hereF i O)),.inr ⟨_,_,_,rfl⟩,exL_1 (s_t hc (show exL (Sm (k+28)) _ _=_ from exL_n (s_as s1) (exL_n (ρ':=envL E O W acc (tZ (nI i) (nI (hereF i E)) (nI (hereF i O)))) ((s_as s2).trans (by rcases h₁ with rfl|⟨u,v,rfl⟩ <;> kernel_rfl)) ?_)))⟩
  have t2:(Sm (k+28)).ts (envL E O W acc (tZ (nI i) (nI (hereF i E)) (nI (hereF i O)))) (.cmp .ne (.var 215806825) (.var 27623273717))=some (!decide (hereF i E=hereF i O)):=ts_cmp (x:=nI (hereF i E)) (y:=nI (hereF i O)) (by kernel_rfl) (by kernel_rfl) (cmp_ne _ _)
  dsimp only
  unfold selN
  cases hq2:decide (hereF i E=hereF i O) with
  | true =>
   rw [hq2] at t2
   rw [List.append_nil]
   exact exL_1 (s_f t2 rfl)
  | false =>
   rw [hq2] at t2
   exact exL_1 (s_t t2 (show exL (Sm (k+27)) _ _=_ from (exL_1 (s_ap (v:=trip i (hereF i E) (hereF i O)) (k:=acc) (by kernel_rfl) (by kernel_rfl) (Nat.le_trans (Nat.le_of_add_right_le hb) (by decide)))).trans (by kernel_rfl)))
theorem lw_spec (hT:total W≤900):(Sm (k+40)).fn 17667321861091526813726432 [.list (nums E),.list (nums O),.list (nums W)]=some (.list ((List.range' 1 (total W)).flatMap (selW E O W))):=by
 obtain ⟨ρ',h3,⟨t,ht,rfl⟩,_⟩:=for_inv (k:=k+37) (I:=lwI E O W) (lw_step (k:=k+8) hE hO hW) (List.range' 1 (total W)) [] (envL E O W [] []) ⟨⟨[],.inl (.inl rfl),rfl⟩,by rw [List.length_range',List.length_nil,Nat.zero_add];exact Nat.le_trans hT (by decide)⟩ fun i hi=>(by
  obtain ⟨h1,h2⟩:=List.mem_range'_1.mp hi
  exact ⟨h1,Nat.le_trans (Nat.le_of_lt h2) (Nat.le_trans (Nat.add_le_add_left hT 1) (by decide))⟩)
 rw [fold_flat,List.nil_append] at h3
 rw [fn_pl (fp:=F__law_witness) (by kernel_rfl) (by kernel_rfl)]
 apply run_r (n:=k+38) (ρ:=[(evsN,false,.list (nums E)),(odN,false,.list (nums O)),(woN,false,.list (nums W))]) (by rfl)
 refine exL_n (ρ':=envL E O W [] []) (by kernel_rfl) ?_
 refine exL_n (s_for (b:=false) (ps:=(List.range' 1 (total W)).map nI) (it_rng (a:=1) (b:=total W+1) (by kernel_rfl) (ev_bin (x:=nI (total W)) (y:=nI 1) (ev_bi (vs:=[.list (nums W)]) (by kernel_rfl) (sum_nums (Nat.le_trans hW (by decide)))) (by kernel_rfl) rfl) (by decide) (Nat.le_trans (Nat.succ_le_succ hT) (by decide))) h3) ?_
 exact exL_r (s_rt (by rcases ht with (rfl|⟨y,rfl⟩)|⟨y,u,v,rfl⟩ <;> kernel_rfl))
end
end Mine
end
section
set_option maxRecDepth 100000
open PySem PyProof.Rows
set_option genSizeOf false
set_option genInjectivity false
namespace Mine
theorem b_powN {a n:Nat} (h:(Nat.log2 a+1)*n≤67108864):binV .pow (nI a) (nI n)=some (nI (a ^ n)) :=
 (show _=og (Nat.ble ((Nat.log2 a+1)*n) 67108864) (PV.int ((a:Int) ^ n)) from rfl).trans ((ogT (ble_tr h)).trans (by rw [← Int.natCast_pow]))
noncomputable def lpst (q acc w:Nat):Nat:=acc*(1+q ^ w)
noncomputable def pwN:Nat:=31085967473
noncomputable def accN:Nat:=518039304681969
noncomputable def lpE:PE:=.bin .mul (.var accN) (.bin .add (.lit (.int 1)) (.bin .pow (.var pwN) (.var 28432988280)))
noncomputable def lpB:List PS:=[.assign accN lpE [accN,pwN,28432988280]]
noncomputable def envQ (q:Nat) (W:List Nat) (acc:Nat) (t:PEnv):PEnv:=(pwN,false,nI q) :: (woN,false,.list (nums W)) :: (accN,false,nI acc) :: t
noncomputable def lpI (q:Nat) (W:List Nat) (n acc:Nat) (ρ:PEnv):Prop:=(∃ t,Tl 28432988280 t∧ρ=envQ q W acc t)∧∃ K,acc<2 ^ K∧K+2001*n≤100000
theorem qw_le {q w:Nat} (hq:q<2 ^ 200) (hw:w≤6):1+q ^ w≤2 ^ 2001:=by
 have h:q ^ w≤2 ^ 2000:=Nat.le_trans (Nat.pow_le_pow_left (Nat.le_of_lt hq) w) (by rw [← Nat.pow_mul];exact p2_le (Nat.le_trans (Nat.mul_le_mul_left 200 hw) (by decide)))
 rw [Nat.pow_succ,Nat.mul_two]
 exact Nat.add_le_add (p2 _) h
theorem lp_step {k q:Nat} {W:List Nat} (hq:q<2 ^ 200) (n acc w:Nat) (ρ:PEnv) (h:lpI q W (n+1) acc ρ) (hw:w≤6):∃ ρ₁ ρ',bindT [28432988280] true (nI w) ρ=some ρ₁∧(Sm (k+12)).ex ρ₁ lpB=some (ρ',.next)∧lpI q W n (lpst q acc w) ρ':=by
 obtain ⟨⟨t,ht,rfl⟩,K,hK,hb⟩:=h
 refine ⟨_,envQ q W (lpst q acc w) [(28432988280,false,nI w)],rfl,?_,⟨_,.inr ⟨_,rfl⟩,rfl⟩,K+2001,?_,by rw [Nat.add_assoc,Nat.add_comm 2001,← Nat.mul_succ];exact hb⟩
 ·rw [show PEnv.set (envQ q W acc t) 28432988280 false (nI w)=envQ q W acc [(28432988280,false,nI w)] by rcases ht with rfl|⟨y,rfl⟩ <;> kernel_rfl]
  refine (exL_1 (s_as (v:=nI (lpst q acc w)) (ev_bin (x:=nI acc) (y:=nI (1+q ^ w)) (by kernel_rfl) (ev_bin (x:=nI 1) (y:=nI (q ^ w)) (by kernel_rfl) (ev_bin (x:=nI q) (y:=nI w) (by kernel_rfl) (by kernel_rfl) (b_powN (Nat.le_trans (Nat.mul_le_mul (Nat.succ_le_succ (log2_le hq)) hw) (by decide)))) rfl) (b_mul (fits_nat hK (Nat.lt_of_le_of_lt (Nat.le_of_add_right_le hb) (by decide))) (fits_nat (Nat.lt_of_le_of_lt (qw_le hq hw) (Nat.pow_lt_pow_succ (by decide))) (by decide)))))).trans (by kernel_rfl)
 ·rw [Nat.pow_add]
  exact Nat.mul_lt_mul_of_lt_of_le hK (qw_le hq hw) (p2 _)
theorem lp_spec {k q:Nat} {W:List Nat} (hq:q<2 ^ 200) (hW:∀ w∈W,w≤6) (hl:W.length≤40):(Sm (k+20)).fn 17799694973213118310168288 [nI q,.list (nums W)]=some (nI (W.foldl (lpst q) 1)):=by
 obtain ⟨ρ',h3,⟨t,ht,rfl⟩,_⟩:=for_inv (k:=k+17) (I:=lpI q W) (lp_step (k:=k+6) hq) W 1 (envQ q W 1 []) ⟨⟨[],.inl rfl,rfl⟩,1,by decide,Nat.le_trans (Nat.add_le_add_left (Nat.mul_le_mul_left 2001 hl) 1) (by decide)⟩ hW
 rw [fn_pl (fp:=F__law_product) (by kernel_rfl) (by kernel_rfl)]
 apply run_r (n:=k+18) (ρ:=[(pwN,false,nI q),(woN,false,.list (nums W))]) (by rfl)
 refine exL_n (ρ':=envQ q W 1 []) (by kernel_rfl) ?_
 refine exL_n (s_for (it_tv (by kernel_rfl) ((nums_len W).symm ▸ Nat.le_trans hl (by decide))) h3) ?_
 exact exL_r (s_rt (by rcases ht with rfl|⟨y,rfl⟩ <;> kernel_rfl))
theorem mx (x n:Nat):max (0:Int) (min (x:Int) (n:Int))=((min x n:Nat):Int):=by
 rcases Nat.le_total x n with h|h
 ·rw [Int.min_eq_left (Int.ofNat_le.mpr h),Nat.min_eq_left h]
  exact Int.max_eq_right (Int.natCast_nonneg x)
 ·rw [Int.min_eq_right (Int.ofNat_le.mpr h),Nat.min_eq_right h]
  exact Int.max_eq_right (Int.natCast_nonneg n)
theorem pick_nat {α:Type} {l:List α} {a b:Nat}:pickL l (some (a:Int)) (some (b:Int)) none=(l.drop a).take (b - a):=by
 have e:sliceBounds (some (a:Int)) (some (b:Int)) none l.length=(((min a l.length:Nat):Int),((min b l.length:Nat):Int),1):=by
  simp only [sliceBounds,Option.getD_none,show (1:Int) > 0 by decide,if_true,if_neg (Int.not_lt.mpr (Int.natCast_nonneg a)),if_neg (Int.not_lt.mpr (Int.natCast_nonneg b))]
  rw [mx,mx]
 have h2:pickL l (some (a:Int)) (some (b:Int)) none=(l.drop (min a l.length)).take (min b l.length - min a l.length):=by
  unfold pickL
  rw [e]
  simp only [sliceRange_one]
  exact (pick_run l.toArray _ _).symm ▸ (by simp)
 rw [h2]
 by_cases h:a≤l.length
 ·rw [Nat.min_eq_left h]
  by_cases h2:b≤l.length
  ·rw [Nat.min_eq_left h2]
  ·have h3:=Nat.le_of_not_le h2
   rw [Nat.min_eq_right h3,List.take_of_length_le (by rw [List.length_drop];exact Nat.le_refl _),List.take_of_length_le (by rw [List.length_drop];exact Nat.sub_le_sub_right h3 a)]
 ·have h3:=Nat.le_of_not_le h
  rw [Nat.min_eq_right h3,List.drop_of_length_le (Nat.le_refl _),List.drop_of_length_le h3,List.take_nil,List.take_nil]
theorem hasInt_nums:∀ W:List Nat,hasInt 0 (nums W)=some (W.any fun w=>decide (w=0))
 | []=>rfl
 | w :: W=>obs (a:=(w:Int)) rfl (obs (hasInt_nums W) (congrArg (fun b=>some (b || _)) (intBeq_nat w 0)))
noncomputable def winAt (D:List Nat) (w t:Nat):Nat:=total ((D.drop (t+1 - w)).take (t+1 - (t+1 - w)))
noncomputable def winN (D:List Nat) (w:Nat):List Nat:=(List.range (D.length+w - 1)).map (winAt D w)
theorem winN_len (D:List Nat) (w:Nat):(winN D w).length=D.length+w - 1:=by rw [winN,List.length_map,List.length_range]
noncomputable def wyN:Nat:=245281144
noncomputable def lyElt:PE:=.bi .sum [.slice (.var wyN) (.bi .max [.lit (.int 0),.bin .add (.bin .sub (.var 29466916981) (.var 28432988280)) (.lit (.int 1))]) (.bin .add (.var 29466916981) (.lit (.int 1))) (.lit .none)]
noncomputable def lyC:PE:=.comp lyElt [29466916981] true (.bi .range [.bin .sub (.bin .add (.bi .len [.var wyN]) (.var 28432988280)) (.lit (.int 1))]) [] [wyN,28432988280]
noncomputable def lyB:List PS:=[.assign wyN lyC [wyN,28432988280]]
noncomputable def envY (W:List Nat) (o:Bool) (D:List Nat) (t:PEnv):PEnv:=(woN,false,.list (nums W)) :: (wyN,o,.list (nums D)) :: t
noncomputable def lyI (W:List Nat) (n:Nat) (D:List Nat) (ρ:PEnv):Prop:=(∃ o t,Tl 28432988280 t∧ρ=envY W o D t)∧D.length+10*n≤900
theorem b_max0 (t w:Nat):biV .max [nI 0,.int ((t:Int) - w+1)]=some (nI (t+1 - w)):=by
 refine (show _=some (PV.int (match decide ((0:Int)<(t:Int) - w+1) with|true=>(t:Int) - w+1|false=>0)) from rfl).trans (congrArg (fun i=>some (PV.int i)) ?_)
 rw [show (t:Int) - w+1=((t+1:Nat):Int) - w from Int.add_right_comm (t:Int) (-(w:Int)) 1]
 by_cases h:w<t+1
 ·rw [decide_eq_true (Int.sub_pos.mpr (Int.ofNat_lt.mpr h)),Int.ofNat_sub (Nat.le_of_lt h)]
 ·rw [decide_eq_false fun q=>h (Int.ofNat_lt.mp (Int.sub_pos.mp q)),Nat.sub_eq_zero_of_le (Nat.le_of_not_lt h)]
  rfl
theorem ev_sl {n:Nat} {ρ:PEnv} {a b c d:PE} {x y z u:PV} {q:Option PV} (h1:(Sm n).ev ρ a=some x) (h2:(Sm n).ev ρ b=some y) (h3:(Sm n).ev ρ c=some z) (h4:(Sm n).ev ρ d=some u) (h5:sliceV x y z u=q):(Sm (n+1)).ev ρ (.slice a b c d)=q:=obs h1 (obs h2 (obs h3 (obs h4 h5)))
theorem sl_nums {D:List Nat} {a b:Nat} (h:D.length≤1000000):sliceV (.list (nums D)) (nI a) (nI b) .none=some (.list (nums ((D.drop a).take (b - a)))) :=
 (show _=og (lenOk (nums D)) (PV.list (pickL (nums D) (some (a:Int)) (some (b:Int)) none)) from rfl).trans ((ogT (lo_tr ((nums_len D).symm ▸ h))).trans (by rw [pick_nat,nums,nums,List.map_take,List.map_drop]))
theorem ly_c {k w:Nat} {o:Bool} {D:List Nat} (hD:D.length≤900) (hw:0<w) (hw2:w≤6):(Sm (k+13)).ev [(wyN,o,.list (nums D)),(28432988280,false,nI w)] lyC=some (.list (nums (winN D w))):=by
 have hn:(D.length:Int)+w - 1=((D.length+w - 1:Nat):Int):=by
  cases w with
  | zero=>exact absurd hw (Nat.lt_irrefl 0)
  | succ w=>exact Int.add_sub_cancel (D.length+w:Int) 1
 have hl:D.length+w - 1≤906:=Nat.le_trans (Nat.sub_le _ _) (Nat.add_le_add hD hw2)
 have hc:=comp_all (r:=Sm (k+12)) (elt:=lyElt) (x:=29466916981) (ρ₀:=[(wyN,false,.list (nums D)),(28432988280,false,nI w)]) (ok:=fun _=>True) (g:=nI) (f:=fun t=>nI (winAt D w t)) (fun t ρ h _=>by
  have e:PEnv.set ρ 29466916981 false (nI t)=PEnv.set [(wyN,false,.list (nums D)),(28432988280,false,nI w)] 29466916981 false (nI t):=by rcases h with rfl|⟨y,rfl⟩ <;> rfl
  rw [e]
  exact ⟨ev_bi (evL_1 (ev_sl (x:=.list (nums D)) (y:=nI (t+1 - w)) (z:=nI (t+1)) (u:=.none) (by kernel_rfl) (ev_bi (vs:=[nI 0,.int ((t:Int) - w+1)]) (by kernel_rfl) (b_max0 t w)) (by kernel_rfl) (by kernel_rfl) (sl_nums (Nat.le_trans hD (by decide))))) (sum_nums (Nat.le_trans (List.length_take_le' _ _) (by rw [List.length_drop];exact Nat.le_trans (Nat.sub_le _ _) (Nat.le_trans hD (by decide))))),_,rfl⟩) (List.range' 0 (D.length+w - 1)) fun _ _=>trivial
 refine ev_comp (n:=k+12) (b:=false) (ps:=(List.range' 0 (D.length+w - 1)).map nI) (obs (a:=[nI (D.length+w - 1)]) (evL_1 (ev_bin (x:=nI (D.length+w)) (y:=nI 1) (ev_bin (x:=nI D.length) (y:=nI w) (ev_bi (vs:=[.list (nums D)]) (by kernel_rfl) (len_at (Nat.le_trans hD (by decide)))) (by kernel_rfl) rfl) (by kernel_rfl) (congrArg (fun i=>some (PV.int i)) hn))) (obs (a:=(List.range' 0 (D.length+w - 1)).map nI) ?_ rfl)) (hc.trans (congrArg some (by rw [nums,winN,List.range_eq_range',List.map_map];rfl))) (by rw [nums_len,winN_len];exact Nat.le_trans hl (by decide))
 exact (show _=og (small ((D.length+w - 1:Nat):Int)) (rangeUp ((0:Nat):Int) (D.length+w - 1)) from rfl).trans ((ogT (Nat.blt_eq.mpr (show _<1000000 from Nat.lt_of_le_of_lt hl (by decide)))).trans (by rw [rangeUp_map]))
theorem ly_step {k:Nat} {W:List Nat} (n:Nat) (D:List Nat) (w:Nat) (ρ:PEnv) (h:lyI W (n+1) D ρ) (hw:0<w∧w≤6):∃ ρ₁ ρ',bindT [28432988280] true (nI w) ρ=some ρ₁∧(Sm (k+14)).ex ρ₁ lyB=some (ρ',.next)∧lyI W n (winN D w) ρ':=by
 obtain ⟨⟨o,t,ht,rfl⟩,hb⟩:=h
 refine ⟨_,envY W false (winN D w) [(28432988280,false,nI w)],rfl,?_,⟨_,_,.inr ⟨_,rfl⟩,rfl⟩,?_⟩
 ·rw [show PEnv.set (envY W o D t) 28432988280 false (nI w)=envY W o D [(28432988280,false,nI w)] by rcases ht with rfl|⟨y,rfl⟩ <;> kernel_rfl]
  exact (exL_1 (s_as (ly_c (k:=k) (o:=o) (Nat.le_of_add_right_le hb) hw.1 hw.2))).trans (by kernel_rfl)
 ·rw [winN_len]
  refine Nat.le_trans (Nat.add_le_add_right (Nat.le_trans (Nat.sub_le _ _) (Nat.add_le_add_left (Nat.le_trans hw.2 (show 6≤10 by decide)) _)) _) ?_
  rw [Nat.add_assoc,Nat.add_comm 10,← Nat.mul_succ]
  exact hb
noncomputable def waysN (W:List Nat):List Nat:=match W.any fun w=>decide (w=0) with
 | true=>[]
 | false=>W.foldl winN [1]
theorem pos_of {W:List Nat} (h:(W.any fun w=>decide (w=0))=false):∀ w∈W,0<w:=fun w hw=>Nat.pos_of_ne_zero fun e=>Bool.false_ne_true (h.symm.trans (List.any_eq_true.mpr ⟨w,hw,decide_eq_true e⟩))
theorem ly_spec {k:Nat} {W:List Nat} (hW:∀ w∈W,w≤6) (hl:W.length≤40):(Sm (k+20)).fn 8427795960466814688 [.list (nums W)]=some (.list (nums (waysN W))):=by
 have ht:(Sm (k+18)).ts [(woN,false,.list (nums W))] (.cmp .in_ (.lit (.int 0)) (.var woN))=some (W.any fun w=>decide (w=0)):=ts_cmp (x:=nI 0) (y:=.list (nums W)) (by kernel_rfl) (by kernel_rfl) (hasInt_nums W)
 rw [fn_pl (fp:=F__law_ways) (by kernel_rfl) (by kernel_rfl)]
 suffices h:∃ ρ',exL (Sm (k+18)) F__law_ways.body [(woN,false,.list (nums W))]=some (ρ',.ret (.list (nums (waysN W)))) by
  obtain ⟨ρ',h⟩:=h
  exact run_r (ρ:=[(woN,false,.list (nums W))]) rfl h
 unfold waysN
 cases hz:W.any fun w=>decide (w=0) with
 | true =>
  rw [hz] at ht
  exact ⟨_,exL_r (s_t ht (show exL (Sm (k+17)) _ _=_ from exL_r (s_rt (v:=.list (nums [])) (by kernel_rfl))))⟩
 | false =>
  rw [hz] at ht
  have hp:=pos_of hz
  obtain ⟨ρ',h3,⟨o,t,ht',rfl⟩,_⟩:=for_inv (k:=k+17) (I:=lyI W) (ly_step (k:=k+4)) W [1] (envY W true [1] []) ⟨⟨_,[],.inl rfl,rfl⟩,Nat.le_trans (Nat.add_le_add_left (Nat.mul_le_mul_left 10 hl) 1) (by decide)⟩ fun w hw=>⟨hp w hw,hW w hw⟩
  apply Exists.intro
  refine exL_n (s_f ht rfl) ?_
  refine exL_n (ρ':=envY W true [1] []) (by kernel_rfl) ?_
  refine exL_n (s_for (it_tv (by kernel_rfl) ((nums_len W).symm ▸ Nat.le_trans hl (by decide))) h3) ?_
  exact exL_r (s_rt (by rcases ht' with rfl|⟨y,rfl⟩ <;> kernel_rfl))
end Mine
end
section
set_option maxRecDepth 100000
open PySem
set_option genSizeOf false
set_option genInjectivity false
namespace Mine
noncomputable def gsum (q:Nat):Nat→Nat
 | 0=>0
 | w+1=>1+q*gsum q w
theorem gsum_int (q:Nat):∀ w:Nat,(1 - (q:Int))*(gsum q w:Int)=1 - (q:Int) ^ w
 | 0=>by rw [Int.pow_zero];exact Int.mul_zero _
 | w+1=>by
  rw [gsum,Int.natCast_add,Int.natCast_mul,Int.mul_add,Int.mul_left_comm,gsum_int q w,Int.mul_sub,Int.mul_one,Int.pow_succ,Int.mul_comm (q:Int)]
  show (1 - (q:Int))*1+_=_
  rw [Int.mul_one,← Int.add_sub_assoc,Int.sub_add_cancel]
theorem gsum_pos {q:Nat}:∀ {w:Nat},0<w→0<gsum q w
 | w+1,_=>Nat.add_pos_left Nat.one_pos (q*gsum q w)
theorem evN_add (q:Nat) (f g:Nat→Nat):∀ l:List Nat,evN q (l.map fun t=>f t+g t)=evN q (l.map f)+evN q (l.map g)
 | []=>rfl
 | t :: l=>by
  rw [List.map_cons,evN,evN_add q f g l,Nat.mul_add,Nat.add_add_add_comm]
  rfl
theorem range_map (q n:Nat) (f:Nat→Nat):evN q ((List.range (n+1)).map f)=f 0+q*evN q ((List.range n).map fun t=>f (t+1)):=by
 rw [List.range_succ_eq_map,List.map_cons,List.map_map]
 rfl
theorem evN_zero (q:Nat) {f:Nat→Nat} (h:∀ t,f t=0):∀ l:List Nat,evN q (l.map f)=0
 | []=>rfl
 | t :: l=>by rw [List.map_cons,evN,h,evN_zero q h l];rfl
theorem evN_step (q a:Nat):∀ (w n:Nat),w≤n→evN q ((List.range n).map fun t=>if t<w then a else 0)=gsum q w*a
 | 0,n,_=>by rw [evN_zero q (fun t=>if_neg (Nat.not_lt_zero t)),gsum,Nat.zero_mul]
 | w+1,n+1,h=>by
  rw [range_map,if_pos (Nat.succ_pos w),gsum,Nat.add_mul,Nat.one_mul,Nat.mul_assoc,← evN_step q a w n (Nat.le_of_succ_le_succ h)]
  congr 3
  refine List.map_congr_left fun t _=>?_
  by_cases h:t<w
  ·rw [if_pos h,if_pos (Nat.succ_lt_succ h)]
  ·rw [if_neg h,if_neg fun q=>h (Nat.lt_of_succ_lt_succ q)]
theorem winAt_cons (a:Nat) (D:List Nat) {w:Nat} (hw:0<w):∀ t,winAt (a :: D) w t=(if t<w then a else 0)+match t with|0=>0|s+1=>winAt D w s
 | 0=>by rw [winAt,Nat.zero_add,Nat.sub_eq_zero_of_le hw,if_pos hw];rfl
 | s+1=>by
  show winAt (a :: D) w (s+1)=(if s+1<w then a else 0)+winAt D w s
  by_cases h:s+1<w
  ·rw [if_pos h,winAt,winAt,Nat.sub_eq_zero_of_le h,Nat.sub_eq_zero_of_le (Nat.le_of_lt h)]
   rfl
  ·have h1:=Nat.le_of_not_lt h
   rw [if_neg h,winAt,winAt,Nat.succ_sub h1,Nat.zero_add,Nat.succ_sub_succ]
   rfl
theorem evN_win (q:Nat) {w:Nat} (hw:0<w):∀ D:List Nat,evN q (winN D w)=gsum q w*evN q D
 | []=>by rw [winN,evN_zero q (fun t=>by rw [winAt,List.drop_nil,List.take_nil,total]),evN,Nat.mul_zero]
 | a :: D=>by
  have e:(a :: D).length+w - 1=(D.length+w - 1)+1:=by
   rw [List.length_cons,Nat.add_right_comm,Nat.add_sub_cancel]
   exact (Nat.sub_add_cancel (Nat.le_trans hw (Nat.le_add_left w _))).symm
  rw [winN,List.map_congr_left (fun t _=>winAt_cons a D hw t),evN_add,e,evN_step q a w _ (e ▸ by rw [List.length_cons,Nat.add_right_comm,Nat.add_sub_cancel];exact Nat.le_add_left ..),range_map,Nat.zero_add,evN,Nat.mul_add,Nat.mul_left_comm,← evN_win q hw D]
  rfl
noncomputable def gprod (q:Nat):List Nat→Nat
 | []=>1
 | w :: W=>gsum q w*gprod q W
theorem evN_ways (q:Nat):∀ (W D:List Nat),(∀ w∈W,0<w)→evN q (W.foldl winN D)=gprod q W*evN q D
 | [],D,_=>(Nat.one_mul _).symm
 | w :: W,D,h=>by rw [List.foldl_cons,evN_ways q W _ fun x hx=>h x (.tail _ hx),evN_win q (h w (.head _)),gprod,Nat.mul_left_comm,Nat.mul_assoc]
theorem gprod_zero (q:Nat):∀ {W:List Nat},(W.any fun w=>decide (w=0))=true→gprod q W=0
 | w :: W,h=>by
  rcases Bool.or_eq_true_iff.mp h with h|h
  ·rw [of_decide_eq_true h,gprod,gsum,Nat.zero_mul]
  ·rw [gprod,gprod_zero q h,Nat.mul_zero]
theorem gprod_pos {q:Nat}:∀ {W:List Nat},(∀ w∈W,0<w)→0<gprod q W
 | [],_=>Nat.one_pos
 | _ :: _,h=>Nat.mul_pos (gsum_pos (h _ (.head _))) (gprod_pos fun x hx=>h x (.tail _ hx))
theorem total_le {M:Nat}:∀ {l:List Nat},(∀ x∈l,x≤M)→total l≤l.length*M
 | [],_=>Nat.zero_le _
 | a :: l,h=>by
  rw [total,List.length_cons,Nat.succ_mul,Nat.add_comm]
  exact Nat.add_le_add (total_le fun x hx=>h x (.tail _ hx)) (h a (.head _))
theorem win_le {D:List Nat} {M w:Nat} (h:∀ x∈D,x≤M):∀ x∈winN D w,x≤w*M:=fun x hx=>by
 obtain ⟨t,_,rfl⟩:=List.mem_map.mp hx
 refine Nat.le_trans (total_le fun y hy=>h y (List.mem_of_mem_drop (List.mem_of_mem_take hy))) (Nat.mul_le_mul_right M (Nat.le_trans (List.length_take_le _ _) ?_))
 refine Nat.sub_le_of_le_add ?_
 rcases Nat.le_total w (t+1) with q|q
 ·exact Nat.le_of_eq (Nat.add_sub_of_le q).symm
 ·exact Nat.le_trans q (Nat.le_add_right _ _)
end Mine
end
section
set_option maxRecDepth 100000
open PySem
set_option genSizeOf false
set_option genInjectivity false
namespace Mine
noncomputable def Lst (c:List Nat):Prop:=∃ d x,c=d++[x]∧0<x
theorem win_lst {D:List Nat} {w:Nat} (hw:0<w) (h:Lst D):Lst (winN D w):=by
 obtain ⟨d,x,rfl,hx⟩:=h
 cases w with
 | zero=>exact absurd hw (Nat.lt_irrefl 0)
 | succ v =>
  refine ⟨(List.range (d.length+v)).map (winAt (d++[x]) (v+1)),x,?_,hx⟩
  have e:(d++[x]).length+(v+1) - 1=(d.length+v)+1:=by rw [List.length_append,List.length_singleton,Nat.add_right_comm];rfl
  rw [winN,e,List.range_succ,List.map_append,List.map_singleton,winAt,Nat.succ_sub_succ,Nat.add_sub_cancel,List.drop_left,Nat.add_assoc,Nat.add_sub_cancel_left,List.take_of_length_le (Nat.le_add_left 1 v)]
  rfl
theorem digF_of {n:Nat}:∀ {c:List Nat},(∀ y∈c,y<2 ^ n)→digF n c.length (evN (2 ^ n) c)=c
 | [],_=>rfl
 | a :: c,h=>by
  have ha:=h a (.head _)
  rw [List.length_cons,digF,evN,Nat.add_mul_mod_self_left,Nat.mod_eq_of_lt ha,Nat.add_mul_div_left _ _ (p2 n),Nat.div_eq_of_lt ha,Nat.zero_add,digF_of fun y hy=>h y (.tail _ hy)]
theorem ndig_of {n:Nat} {c:List Nat} (hn:0<n) (h:∀ y∈c,y<2 ^ n) (hl:Lst c):ndig (evN (2 ^ n) c) n=c.length:=by
 refine Nat.le_antisymm (ndig_le (evN_lt h) hn) (Nat.not_lt.mp fun q=>?_)
 obtain ⟨d,x,rfl,hx⟩:=hl
 rw [List.length_append] at q
 have h1:=Nat.lt_of_lt_of_le (ndig_lt (a:=evN (2 ^ n) (d++[x])) hn) (p2_le (Nat.mul_le_mul_left n (Nat.le_of_lt_succ q)))
 rw [evN_app,Nat.pow_mul] at h1
 exact absurd (Nat.le_trans (Nat.le_mul_of_pos_right _ (Nat.lt_of_lt_of_le hx (Nat.le_add_right _ _))) (Nat.le_add_left _ _)) (Nat.not_le.mpr h1)
theorem one_le:∀ a b:Nat,total (([1].drop a).take b)≤1
 | 0,0=>Nat.zero_le _
 | 0,_+1=>by rw [List.drop_zero,List.take_succ_cons,List.take_nil];exact Nat.le_refl _
 | _+1,_=>by rw [List.drop_succ_cons,List.drop_nil,List.take_nil];exact Nat.zero_le _
theorem ways_le:∀ {W D:List Nat} {M:Nat},(∀ w∈W,w≤6)→(∀ x∈D,x≤M)→∀ x∈W.foldl winN D,x≤6 ^ W.length*M
 | [],_,M,_,h,x,hx=>(Nat.one_mul M).symm ▸ h x hx
 | w :: W,_,M,hW,h,x,hx=>by
  rw [List.length_cons,Nat.pow_succ,Nat.mul_assoc]
  exact ways_le (fun y hy=>hW y (.tail _ hy)) (fun y hy=>Nat.le_trans (win_le h y hy) (Nat.mul_le_mul_right M (hW w (.head _)))) x hx
theorem ways_lst:∀ {W D:List Nat},(∀ w∈W,0<w)→Lst D→Lst (W.foldl winN D)
 | [],_,_,h=>h
 | w :: W,_,hW,h=>ways_lst (W:=W) (fun x hx=>hW x (.tail _ hx)) (win_lst (hW w (.head _)) h)
theorem ways_len:∀ {W D:List Nat},(∀ w∈W,w≤6)→(W.foldl winN D).length≤D.length+6*W.length
 | [],_,_=>Nat.le_refl _
 | w :: W,D,h=>by
  rw [List.foldl_cons,List.length_cons,Nat.mul_succ,Nat.add_comm _ 6,← Nat.add_assoc]
  exact Nat.le_trans (ways_len fun x hx=>h x (.tail _ hx)) (Nat.add_le_add_right (Nat.le_trans (Nat.le_of_eq (winN_len D w)) (Nat.le_trans (Nat.sub_le _ _) (Nat.add_le_add_left (h w (.head _)) _))) _)
theorem ways_dig {W:List Nat} (hW:∀ w∈W,w≤6) (hl:W.length≤4) {n:Nat} (hn:8≤n):ndig (gprod (2 ^ n) W) n≤60∧digF n (ndig (gprod (2 ^ n) W) n) (gprod (2 ^ n) W)=waysN W:=by
 have hn0:0<n:=Nat.lt_of_lt_of_le (by decide) hn
 unfold waysN
 cases h:W.any fun w=>decide (w=0) with
 | true =>
  have h0:ndig 0 n=0:=Nat.le_zero.mp (ndig_le (m:=0) (p2 _) hn0)
  rw [gprod_zero _ h,h0]
  exact ⟨Nat.zero_le _,rfl⟩
 | false =>
  have hp:=pos_of h
  have hv:=evN_ways (2 ^ n) W [1] hp
  rw [show evN (2 ^ n) [1]=1 from rfl,Nat.mul_one] at hv
  have hlen:=ways_len (D:=[1]) hW
  have hd:∀ y∈W.foldl winN [1],y<2 ^ n:=fun y hy=>Nat.lt_of_lt_of_le (m:=2 ^ 8) (by
   cases W with
   | nil=>obtain rfl:=List.mem_singleton.mp hy;decide
   | cons w W =>
    have:=ways_le (M:=1) (fun x hx=>hW x (.tail _ hx)) (fun x hx=>(by obtain ⟨t,_,rfl⟩:=List.mem_map.mp hx;exact one_le _ _)) y hy
    exact Nat.lt_of_le_of_lt this (Nat.lt_of_le_of_lt (Nat.mul_le_mul_right 1 (Nat.pow_le_pow_right (by decide) (Nat.le_of_succ_le_succ hl))) (by decide))) (p2_le hn)
  rw [← hv,ndig_of hn0 hd (ways_lst hp ⟨[],1,rfl,Nat.one_pos⟩)]
  exact ⟨Nat.le_trans hlen (Nat.le_trans (Nat.add_le_add_left (Nat.mul_le_mul_left 6 hl) 1) (by decide)),digF_of hd⟩
noncomputable def stp (p:List Nat × List Nat) (w:Nat):List Nat × List Nat:=(p.1++p.2.map (·+w),p.2++p.1.map (·+w))
noncomputable def evo (W:List Nat):List Nat × List Nat:=W.foldl stp ([0],[])
noncomputable def T (f:Nat→Nat) (l:List Nat):Nat:=total (l.map f)
theorem T_app (f:Nat→Nat) (b:List Nat):∀ a:List Nat,T f (a++b)=T f a+T f b
 | []=>(Nat.zero_add _).symm
 | x :: a=>(congrArg (f x+·) (T_app f b a)).trans (Nat.add_assoc ..).symm
theorem T_map (f g:Nat→Nat):∀ l:List Nat,T f (l.map g)=T (fun t=>f (g t)) l
 | []=>rfl
 | x :: l=>congrArg (f (g x)+·) (T_map f g l)
theorem T_mul (f:Nat→Nat) (c:Nat):∀ l:List Nat,T (fun t=>c*f t) l=c*T f l
 | []=>rfl
 | x :: l=>(congrArg (c*f x+·) (T_mul f c l)).trans (Nat.mul_add ..).symm
theorem T_add (f:Nat→Nat) (c:Nat):∀ l:List Nat,T (fun t=>f t+c) l=T f l+c*l.length
 | []=>rfl
 | x :: l=>(congrArg (f x+c+·) (T_add f c l)).trans (by rw [List.length_cons,Nat.mul_succ,Nat.add_add_add_comm,Nat.add_comm c];rfl)
theorem T_pow (q w:Nat) (l:List Nat):T (q ^ ·) (l.map (·+w))=q ^ w*T (q ^ ·) l:=by
 rw [T_map,← T_mul]
 exact congrArg (T · l) (funext fun t=>by rw [Nat.pow_add,Nat.mul_comm])
theorem sumS (q:Nat):∀ (W:List Nat) (p:List Nat × List Nat),T (q ^ ·) (W.foldl stp p).1+T (q ^ ·) (W.foldl stp p).2=W.foldl (lpst q) (T (q ^ ·) p.1+T (q ^ ·) p.2)
 | [],_=>rfl
 | w :: W,p=>by
  rw [List.foldl_cons,sumS q W,List.foldl_cons]
  congr 1
  rw [stp,T_app,T_app,T_pow,T_pow,lpst,Nat.mul_add,Nat.mul_one,Nat.add_mul,Nat.add_add_add_comm,Nat.mul_comm _ (q ^ w),Nat.mul_comm _ (q ^ w),Nat.add_comm (q ^ w*T (q ^ ·) p.2)]
theorem difS (q:Nat):∀ (W:List Nat) (p:List Nat × List Nat),(T (q ^ ·) (W.foldl stp p).1:Int) - T (q ^ ·) (W.foldl stp p).2=((T (q ^ ·) p.1:Int) - T (q ^ ·) p.2)*((1 - (q:Int)) ^ W.length*(gprod q W:Nat))
 | [],_=>by
  rw [List.length_nil,Int.pow_zero,Int.one_mul]
  exact (Int.mul_one _).symm
 | w :: W,p=>by
  have e:(T (q ^ ·) (stp p w).1:Int) - T (q ^ ·) (stp p w).2=((T (q ^ ·) p.1:Int) - T (q ^ ·) p.2)*(1 - (q:Int) ^ w):=by
   rw [stp,T_app,T_app,T_pow,T_pow,Int.natCast_add,Int.natCast_add,Int.natCast_mul,Int.natCast_mul,Int.natCast_pow,Int.mul_sub,Int.mul_one,Int.sub_mul,Int.mul_comm _ ((q:Int) ^ w),Int.mul_comm _ ((q:Int) ^ w)]
   lia
  rw [List.foldl_cons,difS q W,e,← gsum_int,List.length_cons,gprod,Int.natCast_mul,Int.pow_succ]
  ac_rfl
end Mine
end
section
set_option maxRecDepth 100000
open PySem
set_option genSizeOf false
set_option genInjectivity false
namespace Mine
theorem bump_comm:∀ (c:List Nat) (a b:Nat),bump (bump c a) b=bump (bump c b) a
 | [],0,0=>rfl
 | [],0,_+1=>rfl
 | [],_+1,0=>rfl
 | [],a+1,b+1=>congrArg (0 :: ·) (bump_comm [] a b)
 | _ :: _,0,0=>rfl
 | _ :: _,0,_+1=>rfl
 | _ :: _,_+1,0=>rfl
 | x :: c,a+1,b+1=>congrArg (x :: ·) (bump_comm c a b)
theorem fold_perm {E O:List Nat} (h:E.Perm O):∀ c:List Nat,E.foldl bump c=O.foldl bump c:=by
 induction h with
 | nil=>exact fun _=>rfl
 | cons x _ ih=>exact fun c=>ih _
 | swap x y l=>exact fun c=>congrArg (l.foldl bump) (bump_comm c y x)
 | trans _ _ i1 i2=>exact fun c=>(i1 c).trans (i2 c)
theorem flen_le {N:Nat}:∀ {E c:List Nat},c.length≤N+1→(∀ t∈E,t≤N)→(E.foldl bump c).length≤N+1
 | [],_,h,_=>h
 | t :: E,c,h,hE=>flen_le (E:=E) (by rw [bump_len];exact Nat.max_le.mpr ⟨h,Nat.succ_le_succ (hE t (.head _))⟩) fun x hx=>hE x (.tail _ hx)
theorem flen_mono:∀ (E c:List Nat),c.length≤(E.foldl bump c).length
 | [],_=>Nat.le_refl _
 | t :: E,c=>Nat.le_trans (by rw [bump_len];exact Nat.le_max_left _ _) (flen_mono E (bump c t))
theorem flen_ge {t:Nat}:∀ {E c:List Nat},t∈E→t+1≤(E.foldl bump c).length
 | u :: E,c,h=>by
  rcases List.mem_cons.mp h with rfl|h
  ·exact Nat.le_trans (by rw [bump_len];exact Nat.le_max_right _ _) (flen_mono E (bump c t))
  ·exact flen_ge (E:=E) h
theorem bump_mem {M:Nat}:∀ {c:List Nat} {b:Nat},(∀ x∈c,x≤M)→∀ x∈bump c b,x≤M+1
 | [],0,_,x,hx=>by
  obtain rfl:=List.mem_singleton.mp hx
  exact Nat.le_add_left 1 M
 | [],b+1,h,x,hx=>by
  rcases List.mem_cons.mp hx with rfl|hx
  ·exact Nat.zero_le _
  ·exact bump_mem h x hx
 | a :: c,0,h,x,hx=>by
  rcases List.mem_cons.mp hx with rfl|hx
  ·exact Nat.succ_le_succ (h a (.head _))
  ·exact Nat.le_succ_of_le (h x (.tail _ hx))
 | a :: c,b+1,h,x,hx=>by
  rcases List.mem_cons.mp hx with rfl|hx
  ·exact Nat.le_succ_of_le (h x (.head _))
  ·exact bump_mem (fun y hy=>h y (.tail _ hy)) x hx
theorem fold_mem:∀ {E c:List Nat} {M:Nat},(∀ x∈c,x≤M)→∀ x∈E.foldl bump c,x≤M+E.length
 | [],_,_,h,x,hx=>h x hx
 | t :: E,c,M,h,x,hx=>by
  rw [List.length_cons,Nat.add_comm E.length,← Nat.add_assoc]
  exact fold_mem (E:=E) (bump_mem h) x hx
noncomputable def ws (f:Nat→Nat):Nat→List Nat→Nat
 | _,[]=>0
 | i,a :: r=>f i*a+ws f (i+1) r
theorem ws_bump (f:Nat→Nat):∀ (c:List Nat) (b i:Nat),ws f i (bump c b)=ws f i c+f (i+b)
 | [],0,i=>(Nat.mul_one (f i)).trans (Nat.zero_add (f i)).symm
 | [],b+1,i=>by
  show f i*0+ws f (i+1) (bump [] b)=0+f (i+(b+1))
  rw [Nat.mul_zero,ws_bump f [] b,Nat.zero_add,Nat.add_assoc i,Nat.add_comm 1]
  rfl
 | a :: c,0,i=>by rw [bump,ws,Nat.mul_succ,ws,Nat.add_right_comm];rfl
 | a :: c,b+1,i=>by rw [bump,ws,ws_bump f c b,ws,← Nat.add_assoc,Nat.add_assoc i,Nat.add_comm 1]
theorem ws_fold (f:Nat→Nat):∀ (E c:List Nat),ws f 0 (E.foldl bump c)=ws f 0 c+T f E
 | [],_=>rfl
 | t :: E,c=>by rw [List.foldl_cons,ws_fold f E,ws_bump,Nat.zero_add,Nat.add_assoc];rfl
theorem ws_pow (q:Nat):∀ (c:List Nat) (i:Nat),ws (q ^ ·) i c=q ^ i*evN q c
 | [],_=>rfl
 | a :: c,i=>by rw [ws,evN,ws_pow q c,Nat.mul_add,Nat.pow_succ,Nat.mul_assoc]
theorem evN_fold (q:Nat) (E:List Nat):evN q (E.foldl bump [])=T (q ^ ·) E:=by
 have:=ws_pow q (E.foldl bump []) 0
 rw [ws_fold,Nat.pow_zero,Nat.one_mul] at this
 exact this.symm.trans (Nat.zero_add _)
theorem ws_app (f:Nat→Nat) (b:List Nat):∀ (a:List Nat) (i:Nat),ws f i (a++b)=ws f i a+ws f (i+a.length) b
 | [],_=>(Nat.zero_add _).symm
 | x :: a,i=>by rw [List.cons_append,ws,ws,ws_app f b a,List.length_cons,← Nat.add_assoc (f i*x),Nat.add_assoc i 1,Nat.add_comm 1]
theorem ws_zero (f:Nat→Nat):∀ (c:List Nat) (i:Nat),(∀ j,j<i+c.length→f j=0)→ws f i c=0
 | [],_,_=>rfl
 | a :: c,i,h=>by rw [ws,h i (Nat.lt_add_of_pos_right (Nat.succ_pos _)),Nat.zero_mul,ws_zero f c (i+1) fun j hj=>h j (by rw [List.length_cons,Nat.add_comm c.length,← Nat.add_assoc];exact hj)]
theorem il_ws (ts:Nat) (c:List Nat):∀ (m i acc:Nat),i+m=c.length→(List.range' i m).foldl (ilst ts c) acc=acc+ws (· / ts) i (c.drop i)
 | 0,i,acc,h=>by rw [List.drop_of_length_le (show c.length≤i from Nat.le_of_eq h.symm)];rfl
 | m+1,i,acc,h=>by
  have hi:i<c.length:=h ▸ Nat.lt_add_of_pos_right (Nat.succ_pos m)
  rw [List.range'_succ,List.foldl_cons,il_ws ts c m (i+1) _ (by rw [← h,Nat.add_assoc,Nat.add_comm 1]),List.drop_eq_getElem_cons hi,ws,ilst,List.getD_eq_getElem?_getD,List.getElem?_eq_getElem hi,Nat.add_assoc]
  rfl
theorem here_div (ts:Nat) (E:List Nat):hereF ts E=ts*(T (· / ts) E+E.length):=by
 rw [show T (· / ts) E+E.length=T (fun t=>t / ts+1) E by rw [T_add (· / ts) 1,Nat.one_mul],← T_mul]
 exact congrArg (T · E) (funext fun t=>Nat.mul_comm _ _)
theorem ind_here (ts:Nat) (E:List Nat):indF ts (E.foldl bump []) E.length=hereF ts E:=by
 have e:ws (· / ts) 0 (E.foldl bump [])=T (· / ts) E:=(ws_fold _ E []).trans (Nat.zero_add _)
 rw [here_div,← e,indF]
 generalize E.foldl bump []=c
 congr 2
 by_cases h:ts≤c.length
 ·have h2:=ws_app (· / ts) (c.drop ts) (c.take ts) 0
  rw [List.take_append_drop,Nat.zero_add,List.length_take_of_le h,ws_zero _ (c.take ts) 0 (fun j hj=>Nat.div_eq_of_lt (by rw [List.length_take_of_le h,Nat.zero_add] at hj;exact hj)),Nat.zero_add] at h2
  rw [ilF,il_ws ts c _ ts 0 (Nat.add_sub_cancel' h),Nat.zero_add,h2]
 ·rw [ilF,Nat.sub_eq_zero_of_le (Nat.le_of_not_le h),ws_zero _ _ 0 fun j hj=>Nat.div_eq_of_lt (Nat.lt_trans (Nat.zero_add c.length ▸ hj) (Nat.lt_of_not_le h))]
  rfl
section
variable {G:Nat→Nat→Nat} (hG:∀ s t w,G s (t+w)=G (s+w) t)
noncomputable def Sp (G:Nat→Nat→Nat) (w:Nat):Prop:=∀ s t,G s (t+w)=G s t+w
theorem T_sh (hw:Sp G w) (s:Nat) (l:List Nat):T (G s) (l.map (·+w))=T (G s) l+w*l.length:=by
 rw [T_map,← T_add]
 exact congrArg (T · l) (funext fun t=>hw s t)
theorem stp_len {p:List Nat × List Nat} {w:Nat} (h:p.1.length=p.2.length):(stp p w).1.length=(stp p w).2.length:=by
 rw [stp,List.length_append,List.length_append,List.length_map,List.length_map,Nat.add_comm]
include hG in
theorem bal:∀ (R:List Nat) (p:List Nat × List Nat),p.1.length=p.2.length→((∀ s,T (G s) p.1=T (G s) p.2)∨∃ w∈R,Sp G w)→∀ s,T (G s) (R.foldl stp p).1=T (G s) (R.foldl stp p).2
 | [],_,_,h,s=>h.elim (fun e=>e s) fun ⟨_,h,_⟩=>nomatch h
 | w :: R,p,hl,h,s=>by
  refine bal R (stp p w) (stp_len hl) ?_ s
  rcases h with e|⟨v,hv,hs⟩
  ·refine .inl fun s=>?_
   have g:∀ l:List Nat,T (G s) (l.map (·+w))=T (G (s+w)) l:=fun l=>(T_map ..).trans (congrArg (T · l) (funext fun t=>hG s t w))
   rw [stp,T_app,T_app,g,g,e s,e (s+w)]
  ·rcases List.mem_cons.mp hv with rfl|hv
   ·refine .inl fun s=>?_
    rw [stp,T_app,T_app,T_sh hs,T_sh hs,hl,← Nat.add_assoc,← Nat.add_assoc,Nat.add_comm (T (G s) p.1)]
   ·exact .inr ⟨v,hv,hs⟩
include hG in
theorem bal2 {a b:Nat} {R:List Nat} (h:∃ w∈a :: b :: R,Sp G w) (s:Nat):T (G s) (evo (a :: b :: R)).1=T (G s) (evo (a :: b :: R)).2:=by
 refine bal hG R ([0,0+a+b],[0+a,0+b]) rfl ?_ s
 obtain ⟨w,hw,hs⟩:=h
 rcases List.mem_cons.mp hw with rfl|hw
 ·refine .inl fun s=>?_
  show G s 0+(G s (0+w+b)+0)=G s (0+w)+(G s (0+b)+0)
  rw [Nat.add_right_comm,hs,hs,Nat.add_zero,Nat.add_zero,Nat.add_comm (G s (0+b)),← Nat.add_assoc]
 ·rcases List.mem_cons.mp hw with rfl|hw
  ·refine .inl fun s=>?_
   show G s 0+(G s (0+a+w)+0)=G s (0+a)+(G s (0+w)+0)
   rw [hs,hs,Nat.add_zero,Nat.add_zero,Nat.add_left_comm]
  ·exact .inr ⟨w,hw,hs⟩
end
end Mine
end
section
set_option maxRecDepth 100000
open PySem
set_option genSizeOf false
set_option genInjectivity false
namespace Mine
theorem stp_le:∀ (R:List Nat) (p:List Nat × List Nat) (m:Nat),(∀ t∈p.1,t≤m)→(∀ t∈p.2,t≤m)→(∀ t∈(R.foldl stp p).1,t≤m+total R)∧∀ t∈(R.foldl stp p).2,t≤m+total R
 | [],_,_,h1,h2=>⟨h1,h2⟩
 | w :: R,p,m,h1,h2=>by
  have go:∀ {a b:List Nat},(∀ t∈a,t≤m)→(∀ t∈b,t≤m)→∀ t∈a++b.map (·+w),t≤m+w:=fun ha hb t ht=>by
   rcases List.mem_append.mp ht with ht|ht
   ·exact Nat.le_trans (ha t ht) (Nat.le_add_right m w)
   ·obtain ⟨u,hu,rfl⟩:=List.mem_map.mp ht
    exact Nat.add_le_add_right (hb u hu) w
  rw [total,← Nat.add_assoc]
  exact stp_le R (stp p w) (m+w) (go h1 h2) (go h2 h1)
theorem stp_mem:∀ (R:List Nat) (p:List Nat × List Nat) (m:Nat),(m∈p.1∨m∈p.2)→(m+total R∈(R.foldl stp p).1∨m+total R∈(R.foldl stp p).2)
 | [],_,_,h=>h
 | w :: R,p,m,h=>by
  rw [total,← Nat.add_assoc]
  exact stp_mem R (stp p w) (m+w) (h.symm.imp (fun h=>List.mem_append_right _ (List.mem_map_of_mem h)) fun h=>List.mem_append_right _ (List.mem_map_of_mem h))
theorem stp_perm:∀ (R:List Nat) (p:List Nat × List Nat),(p.1.Perm p.2∨0∈R)→(R.foldl stp p).1.Perm (R.foldl stp p).2
 | [],_,h=>h.elim id fun h=>nomatch h
 | w :: R,p,h=>by
  refine stp_perm R (stp p w) ?_
  rcases h with h|h
  ·exact .inl (h.append (h.symm.map _))
  ·rcases List.mem_cons.mp h with rfl|h
   ·refine .inl ?_
    show (p.1++p.2.map fun x=>x).Perm (p.2++p.1.map fun x=>x)
    rw [List.map_id',List.map_id']
    exact List.perm_append_comm
   ·exact .inr h
theorem T_zero {f:Nat→Nat}:∀ {l:List Nat},(∀ t∈l,f t=0)→T f l=0
 | [],_=>rfl
 | t :: l,h=>by
  show f t+T f l=0
  rw [h t (.head _),T_zero fun x hx=>h x (.tail _ hx)]
theorem sumT_T:∀ l:List Nat,sumT l=T (fun t=>t+0+1) l
 | []=>rfl
 | t :: l=>by rw [sumT,sumT_T l,Nat.add_comm _ 1,← Nat.add_assoc];rfl
theorem here_far {i:Nat} {E:List Nat} (h:∀ t∈E,t<i):hereF i E=i*E.length:=by rw [here_div,T_zero fun t ht=>Nat.div_eq_of_lt (h t ht),Nat.zero_add]
theorem flat_congr {f g:Nat→List PV} {l:List Nat} (h:∀ i∈l,f i=g i):l.flatMap f=l.flatMap g:=by rw [List.flatMap_def,List.flatMap_def,List.map_congr_left h]
section
variable (a b:Nat) (R:List Nat)
noncomputable def wE:List Nat:=(evo (a :: b :: R)).1
noncomputable def wO:List Nat:=(evo (a :: b :: R)).2
theorem w_le:(∀ t∈wE a b R,t≤total (a :: b :: R))∧∀ t∈wO a b R,t≤total (a :: b :: R):=by
 have:=stp_le (a :: b :: R) ([0],[]) 0 (fun t h=>Nat.le_of_eq (List.mem_singleton.mp h)) fun _ h=>nomatch h
 rwa [Nat.zero_add] at this
theorem w_len:(wE a b R).length=(wO a b R).length:=by
 have:∀ (R:List Nat) (p:List Nat × List Nat),p.1.length=p.2.length→(R.foldl stp p).1.length=(R.foldl stp p).2.length:=fun R=>by
  induction R with
  | nil=>exact fun _ h=>h
  | cons w R ih=>exact fun p h=>ih _ (stp_len h)
 exact this R ([0,0+a+b],[0+a,0+b]) rfl
theorem w_prod (q:Nat):evN q ((wE a b R).foldl bump [])+evN q ((wO a b R).foldl bump [])=(a :: b :: R).foldl (lpst q) 1:=by
 rw [evN_fold,evN_fold]
 exact sumS q (a :: b :: R) ([0],[])
theorem w_quot (q:Nat):(evN q ((wE a b R).foldl bump []):Int) - evN q ((wO a b R).foldl bump [])=(1 - (q:Int)) ^ (a :: b :: R).length*(gprod q (a :: b :: R):Nat):=by
 rw [evN_fold,evN_fold]
 exact (difS q (a :: b :: R) ([0],[])).trans (Int.one_mul _)
theorem w_sum:sumT (wE a b R)=sumT (wO a b R):=by
 rw [sumT_T,sumT_T]
 exact bal2 (G:=fun s t=>t+s+1) (fun s t w=>by rw [Nat.add_assoc t,Nat.add_comm w]) ⟨a,.head _,fun s t=>by show t+a+s+1=t+s+1+a;rw [Nat.add_right_comm t,Nat.add_right_comm _ a]⟩ 0
theorem w_eqv:decide ((wE a b R).foldl bump []=(wO a b R).foldl bump [])=(a :: b :: R).any fun w=>decide (w=0):=by
 cases h:(a :: b :: R).any fun w=>decide (w=0) with
 | true =>
  obtain ⟨w,hw,h⟩:=List.any_eq_true.mp h
  obtain rfl:=of_decide_eq_true h
  exact decide_eq_true (fold_perm (stp_perm (a :: b :: R) ([0],[]) (.inr hw)) [])
 | false =>
  refine decide_eq_false fun e=>?_
  have h1:=w_quot a b R 2
  rw [e,Int.sub_self] at h1
  exact Int.mul_ne_zero (Int.pow_ne_zero (by decide)) (Int.ofNat_ne_zero.mpr (Nat.ne_of_gt (gprod_pos (pos_of h)))) h1.symm
theorem w_here {i w:Nat} (hi:0<i) (hw:w∈a :: b :: R) (hd:w % i=0):hereF i (wE a b R)=hereF i (wO a b R):=by
 refine bal2 (G:=fun s t=>((t+s) / i+1)*i) (fun s t w=>by rw [Nat.add_assoc t,Nat.add_comm w]) ⟨w,hw,fun s t=>?_⟩ 0
 have e:w=i*(w / i):=(Nat.mul_div_cancel' (Nat.dvd_of_mod_eq_zero hd)).symm
 show ((t+w+s) / i+1)*i=((t+s) / i+1)*i+w
 rw [Nat.add_right_comm,e,Nat.add_mul_div_left _ _ hi,Nat.add_right_comm,Nat.add_mul,Nat.mul_comm (_ / i) i,← e]
theorem w_longest:max (((wE a b R).foldl bump []).length - 1) (((wO a b R).foldl bump []).length - 1)=total (a :: b :: R):=by
 obtain ⟨h1,h2⟩:=w_le a b R
 have l1:∀ {E:List Nat},(∀ t∈E,t≤total (a :: b :: R))→(E.foldl bump []).length - 1≤total (a :: b :: R):=fun h=>Nat.sub_le_of_le_add (flen_le (Nat.zero_le _) h)
 have hm:=stp_mem (a :: b :: R) ([0],[]) 0 (.inl (.head _))
 rw [Nat.zero_add] at hm
 refine Nat.le_antisymm (Nat.max_le.mpr ⟨l1 h1,l1 h2⟩) ?_
 rcases hm with h|h
 ·exact Nat.le_trans (Nat.le_sub_of_add_le (flen_ge h)) (Nat.le_max_left _ _)
 ·exact Nat.le_trans (Nat.le_sub_of_add_le (flen_ge h)) (Nat.le_max_right _ _)
theorem w_wit:(List.range' 1 (max (((wE a b R).foldl bump []).length - 1) (((wO a b R).foldl bump []).length - 1)+1)).flatMap (selN (indF · ((wE a b R).foldl bump []) (wE a b R).length) (indF · ((wO a b R).foldl bump []) (wO a b R).length))=(List.range' 1 (total (a :: b :: R))).flatMap (selW (wE a b R) (wO a b R) (a :: b :: R)):=by
 obtain ⟨h1,h2⟩:=w_le a b R
 have hf:hereF (1+total (a :: b :: R)) (wE a b R)=hereF (1+total (a :: b :: R)) (wO a b R):=by
  rw [here_far fun t ht=>Nat.add_comm 1 _ ▸ Nat.lt_succ_of_le (h1 t ht),here_far fun t ht=>Nat.add_comm 1 _ ▸ Nat.lt_succ_of_le (h2 t ht),w_len]
 have z:∀ {i},hereF i (wE a b R)=hereF i (wO a b R)→selN (hereF · (wE a b R)) (hereF · (wO a b R)) i=[]:=fun h=>by
  unfold selN
  rw [decide_eq_true h]
 rw [show (indF · ((wE a b R).foldl bump []) (wE a b R).length)=(hereF · (wE a b R)) from funext fun i=>ind_here i _,show (indF · ((wO a b R).foldl bump []) (wO a b R).length)=(hereF · (wO a b R)) from funext fun i=>ind_here i _,w_longest,List.range'_1_concat,List.flatMap_append,List.flatMap_singleton,z hf,List.append_nil]
 refine flat_congr fun i hi=>?_
 rw [selW]
 cases hd:decide (divd (a :: b :: R) i=[]) with
 | true=>rfl
 | false =>
  obtain ⟨w,hw⟩:=List.exists_mem_of_ne_nil _ (of_decide_eq_false hd)
  obtain ⟨h3,h4⟩:=List.mem_filter.mp hw
  exact z (w_here a b R (List.mem_range'_1.mp hi).1 h3 (of_decide_eq_true h4))
end
end Mine
end
section
set_option maxRecDepth 100000
set_option exponentiation.threshold 100000
open PySem
set_option genSizeOf false
set_option genInjectivity false
namespace Mine
theorem andGo_true {r:Rc} {ρ:PEnv}:∀ {l:List PE},l ≠ []→(∀ e∈l,r.ev ρ e=some (.bool true))→andGo r ρ l=some (.bool true)
 | [],h,_=>absurd rfl h
 | [e],_,h=>h e (.head _)
 | e :: f :: l,_,h=>obs (h e (.head _)) (andGo_true (List.cons_ne_nil f l) fun x hx=>h x (.tail _ hx))
theorem cap_nil:∀ ρ:PEnv,PEnv.cap [] ρ=[]
 | []=>rfl
 | _ :: r=>cap_nil r
theorem strs_map {α:Type} {f:α→List Nat}:∀ l:List α,strs? (l.map fun a=>.str (f a))=some (l.map f)
 | []=>rfl
 | a :: l=>obs (a:=f a) rfl (obs (strs_map l) rfl)
noncomputable def wsP (t:Nat):List Nat:=List.replicate t 32++[9]
theorem join_ws:∀ E:List Nat,joinV [] (E.map wsP)=wsText E
 | []=>rfl
 | [t]=>rfl
 | t :: u :: E=>by
  show wsP t++[]++joinV [] ((u :: E).map wsP)=_
  rw [join_ws (u :: E),List.append_nil,wsP,List.append_assoc]
  rfl
theorem sumLen_ws:∀ E:List Nat,sumLen (E.map wsP)=sumT E
 | []=>rfl
 | t :: E=>by
  show (wsP t).length+sumLen (E.map wsP)=_
  rw [sumLen_ws E,sumT,wsP,List.length_append,List.length_replicate,Nat.add_assoc,Nat.add_comm _ (sumT E)]
  rfl
noncomputable def wsElt:PE:=.bin .add (.bin .mul (.lit (.str [32])) (.var 29466916981)) (.lit (.str [9]))
noncomputable def wsArg (x:Nat):PE:=.meth .join (.lit (.str [])) [.comp wsElt [29466916981] true (.tv (.var x)) [] []]
theorem j_nil {xs:List (List Nat)} {x:List PV} (h:strs? x=some xs) (hs:sumLen xs≤1000000):methV .join (.str []) [.list x]=some (.str (joinV [] xs)) :=
 obs h (ogT (ble_tr (by rw [List.length_nil,Nat.mul_zero];exact hs)))
theorem ev_me {n:Nat} {ρ:PEnv} {m:MK} {o:PE} {l:List PE} {x:PV} {vs:List PV} {q:Option PV} (h1:(Sm n).ev ρ o=some x) (h2:evL (Sm n) ρ l=some vs) (h3:methV m x vs=q):(Sm (n+1)).ev ρ (.meth m o l)=q:=obs h1 (obs h2 h3)
theorem b_sp {t:Nat} (h:t≤1000):binV .mul (.str [32]) (nI t)=some (.str (List.replicate t 32)) :=
 (show _=og (Nat.ble (1*t) 1000000 && Nat.ble t 1000000 && true) (PV.str (repL [32] t)) from rfl).trans ((ogT (by rw [Nat.one_mul,ble_tr (Nat.le_trans h (by decide))];rfl)).trans (by rw [repL_one]))
theorem ws_arg {k x:Nat} {E:List Nat} {ρ:PEnv} (hE:E.length≤8) (hEx:∀ t∈E,t≤1000) (hs:sumT E≤100000) (h1:(Sm (k+10)).ev ρ (.var x)=some (.list (nums E))):(Sm (k+12)).ev ρ (wsArg x)=some (.str (wsText E)):=by
 have hc:=comp_all (r:=Sm (k+10)) (elt:=wsElt) (x:=29466916981) (ρ₀:=[]) (ok:=fun t=>t≤1000) (g:=nI) (f:=fun t=>.str (wsP t)) (fun t ρ h ht=>by
  have e:PEnv.set ρ 29466916981 false (nI t)=[(29466916981,false,nI t)]:=by rcases h with rfl|⟨y,rfl⟩ <;> rfl
  rw [e]
  exact ⟨ev_bin (x:=.str (List.replicate t 32)) (y:=.str [9]) (ev_bin (x:=.str [32]) (y:=nI t) (by kernel_rfl) (by kernel_rfl) (b_sp ht)) (by kernel_rfl) (show catS PV.str _ _=_ from ogT (by rw [lo_tr (by rw [List.length_replicate];exact Nat.le_trans ht (by decide))];rfl)),_,rfl⟩) E hEx
 refine ev_me (x:=.str []) (by kernel_rfl) (evL_1 (ev_comp (n:=k+10) (it_tv h1 ((nums_len E).symm ▸ Nat.le_trans hE (by decide))) (by rw [cap_nil];exact hc) (by rw [List.length_map];exact Nat.le_trans hE (by decide)))) ?_
 rw [j_nil (strs_map E) (sumLen_ws E ▸ Nat.le_trans hs (by decide)),join_ws]
noncomputable def envB (v:Nat→PV) (W:List Nat) (wd:Nat) (E O:List Nat) (t:PEnv):PEnv :=
 (4050646790772,false,v 0) :: (4015196567669,false,v 1) :: (247362421,false,v 2) :: (234501492,false,v 3) :: (514152392913773,false,v 4) :: (57310523954936305,false,v 5) :: (woN,false,.list (nums W)) :: (ctN,false,nI W.length) ::
 (215822691,false,v 6) :: (28432758136,false,nI wd) :: (31358236391,false,v 7) :: (245250163,false,v 8) :: (213612661,false,v 9) :: (513705156293860,false,v 10) :: (evsN,false,.list (nums E)) :: (odN,false,.list (nums O)) :: t
structure Word (a b:Nat) (R:List Nat):Prop where
 le:∀ w∈a :: b :: R,w≤6
 len:(a :: b :: R).length=3∨(a :: b :: R).length=4
theorem Word.l4 {a b:Nat} {R:List Nat} (h:Word a b R):(a :: b :: R).length≤4:=h.len.elim (fun e=>e ▸ by decide) Nat.le_of_eq
theorem Word.tot {a b:Nat} {R:List Nat} (h:Word a b R):total (a :: b :: R)≤24:=Nat.le_trans (total_le h.le) (Nat.mul_le_mul_right 6 h.l4)
theorem Word.e8 {a b:Nat} {R:List Nat} (h:Word a b R):(wE a b R).length≤8:=by
 rcases h.len with e|e
 ·obtain ⟨c,rfl⟩:=List.length_eq_one_iff.mp (Nat.succ.inj (Nat.succ.inj e))
  exact (by decide:4≤8)
 ·match R,Nat.succ.inj (Nat.succ.inj e) with
  | [c,d],_=>exact Nat.le_refl 8
theorem lt_bits_of {m B:Nat} (h:2 ^ m≤B):m<bits B:=(Nat.pow_lt_pow_iff_right (a:=2) (by decide)).mp (Nat.lt_of_le_of_lt h (lt_bits B))
section
variable {a b:Nat} {R:List Nat} {wd:Nat} (h:Word a b R) (hw8:8≤wd) (hw:wd≤140)
noncomputable def cE (a b:Nat) (R:List Nat):List Nat:=(wE a b R).foldl bump []
noncomputable def cO (a b:Nat) (R:List Nat):List Nat:=(wO a b R).foldl bump []
structure Ct (c:List Nat) (n:Nat):Prop where
 x:∀ x∈c,x≤8
 l:c.length≤25
 n:n≤8
theorem ct_of {E:List Nat} {N:Nat} (h8:E.length≤8) (ht:∀ t∈E,t≤N) (hN:N≤24):Ct (E.foldl bump []) E.length :=
 ⟨fun x hx=>Nat.le_trans (fold_mem (c:=[]) (M:=0) (fun _ h=>nomatch h) x hx) (by rw [Nat.zero_add];exact h8),Nat.le_trans (flen_le (Nat.zero_le _) ht) (Nat.succ_le_succ hN),h8⟩
include h in
theorem cts:Ct (cE a b R) (wE a b R).length∧Ct (cO a b R) (wO a b R).length:=⟨ct_of h.e8 (w_le a b R).1 h.tot,ct_of (w_len a b R ▸ h.e8) (w_le a b R).2 h.tot⟩
include hw8 in
theorem Ct.dig {c:List Nat} {n:Nat} (k:Ct c n):(∀ x∈c,x<2 ^ wd)∧evN (2 ^ wd) c<2 ^ (wd*25) :=
 have d:∀ x∈c,x<2 ^ wd:=fun x hx=>Nat.lt_of_le_of_lt (k.x x hx) (Nat.lt_of_lt_of_le (show 8<2 ^ 8 by decide) (p2_le hw8))
 ⟨d,Nat.lt_of_lt_of_le (evN_lt d) (p2_le (Nat.mul_le_mul_left wd k.l))⟩
include h hw8 hw in
theorem idm_at {n:Nat} (h140:140≤n):(Sm (n+40)).fn idN [.int ((evN (2 ^ wd) (cE a b R):Int) - evN (2 ^ wd) (cO a b R)),.int ((1 - ((2 ^ wd:Nat):Int)) ^ (a :: b :: R).length)]=some (.tup [nI (gprod (2 ^ wd) (a :: b :: R)),nI 0]):=by
 have hq:=w_quot a b R (2 ^ wd)
 have l4:=h.l4
 have l0:0<(a :: b :: R).length:=Nat.succ_pos _
 have hpq:2 ^ wd - 1+1=2 ^ wd:=Nat.sub_add_cancel (p2 wd)
 have hneg:(1 - ((2 ^ wd:Nat):Int)) = -((2 ^ wd - 1:Nat):Int):=by rw [Int.ofNat_sub (p2 wd),Int.neg_sub];rfl
 have hp1:2 ^ (wd - 1)≤2 ^ wd - 1:=Nat.le_sub_of_add_le (by
  have:2 ^ wd=2 ^ (wd - 1)+2 ^ (wd - 1):=by rw [← Nat.mul_two,← Nat.pow_succ,Nat.succ_eq_add_one,Nat.sub_add_cancel (Nat.le_trans (by decide) hw8)]
  rw [this]
  exact Nat.add_le_add_left (p2 _) _)
 have hpl:2 ^ wd - 1<2 ^ 140:=Nat.lt_of_lt_of_le (Nat.sub_lt (p2 wd) (by decide)) (p2_le hw)
 have hb:(1 - ((2 ^ wd:Nat):Int)) ^ (a :: b :: R).length=((2 ^ wd - 1) ^ (a :: b :: R).length:Nat)∨(1 - ((2 ^ wd:Nat):Int)) ^ (a :: b :: R).length = -(((2 ^ wd - 1) ^ (a :: b :: R).length:Nat):Int):=by
  rw [hneg,Int.neg_pow,Int.natCast_pow]
  rcases h.len with e|e
  ·exact .inr (by rw [e];exact Int.neg_one_mul _)
  ·exact .inl (by rw [e];exact Int.one_mul _)
 change (evN (2 ^ wd) (cE a b R):Int) - evN (2 ^ wd) (cO a b R)=_ at hq
 have h1:=((cts h).1.dig hw8).2
 have h2:=((cts h).2.dig hw8).2
 have hp0:0<2 ^ wd - 1:=Nat.lt_of_lt_of_le (p2 _) hp1
 generalize 2 ^ wd - 1=p at *
 have hBl:p ^ (a :: b :: R).length<2 ^ 560:=Nat.lt_of_le_of_lt (Nat.pow_le_pow_right hp0 l4) (Nat.lt_of_lt_of_le (Nat.pow_lt_pow_left hpl (by decide)) (by rw [← Nat.pow_mul];exact Nat.le_refl _))
 have hBg:wd≤bits (p ^ (a :: b :: R).length):=Nat.le_of_pred_lt (lt_bits_of (Nat.le_trans hp1 (Nat.le_self_pow (Nat.ne_of_gt l0) p)))
 have hB0:0<p ^ (a :: b :: R).length:=Nat.pow_pos hp0
 generalize p ^ (a :: b :: R).length=B at *
 refine idm_spec h140 hb hq hB0 (Nat.le_trans (nbits_le hBl) (by decide)) (ndig_le (Nat.lt_of_lt_of_le (m:=2 ^ (wd*25)) ?_ (p2_le (Nat.mul_le_mul hBg (by decide)))) (Nat.lt_of_lt_of_le (by decide) (Nat.le_trans hw8 hBg)))
 rcases hb with e|e
 ·rw [e,← Int.natCast_mul] at hq
  have:=Int.ofNat.inj ((Int.sub_eq_iff_eq_add.mp hq).trans (Int.natCast_add ..).symm)
  exact Nat.lt_of_le_of_lt (Nat.le_trans (Nat.le_add_right _ _) (Nat.le_of_eq this.symm)) h1
 ·rw [e,Int.neg_mul,← Int.natCast_mul,← Int.neg_sub,Int.neg_inj] at hq
  have:=Int.ofNat.inj ((Int.sub_eq_iff_eq_add.mp hq).trans (Int.natCast_add ..).symm)
  exact Nat.lt_of_le_of_lt (Nat.le_trans (Nat.le_add_right _ _) (Nat.le_of_eq this.symm)) h2
end
end Mine
end
section
set_option maxRecDepth 100000
set_option exponentiation.threshold 100000
open PySem
set_option genSizeOf false
set_option genInjectivity false
namespace Mine
theorem eqvL_self {f:PV→PV→Option Bool}:∀ {l:List PV},(∀ x∈l,f x x=some true)→eqvL f l l=some true
 | [],_=>rfl
 | x :: l,h=>obs (h x (.head _)) (obs (eqvL_self fun y hy=>h y (.tail _ hy)) rfl)
theorem trip_self {n:Nat} (i a b:Nat):eqv (n+2) (trip i a b) (trip i a b)=some true:=(eqvL_nums (n:=n) [i,a,b] [i,a,b]).trans (congrArg some (decide_eq_true rfl))
theorem selW_self {E O W:List Nat} {l:List Nat}:∀ x∈l.flatMap (selW E O W),eqv 5 x x=some true:=fun x hx=>by
 obtain ⟨i,_,h⟩:=List.mem_flatMap.mp hx
 unfold selW at h
 generalize decide (divd W i=[])=b at h
 cases b with
 | false=>exact nomatch h
 | true =>
  have h:x∈selN (hereF · E) (hereF · O) i:=h
  unfold selN at h
  generalize decide (hereF i E=hereF i O)=b at h
  cases b with
  | true=>exact nomatch h
  | false =>
   obtain rfl:=List.mem_singleton.mp h
   exact trip_self i _ _
noncomputable def ldE:Nat:=31652115815
noncomputable def ldO:Nat:=3500366443380
section
variable {a b:Nat} {R:List Nat} {wd:Nat} (h:Word a b R) (hw8:8≤wd) (hw:wd≤140) (v:Nat→PV)
noncomputable def envZ (v:Nat→PV) (a b:Nat) (R:List Nat) (wd:Nat):PEnv:=envB v (a :: b :: R) wd (wE a b R) (wO a b R) [(ldE,false,wsInst (wE a b R)),(ldO,false,wsInst (wO a b R)),(pwN,false,nI (2 ^ wd)),(31085852918,false,nI (evN (2 ^ wd) (cE a b R))),(31085967469,false,nI (evN (2 ^ wd) (cO a b R))),(66356861107714930,false,nI (gprod (2 ^ wd) (a :: b :: R))),(461239444404335,false,nI 0)]
noncomputable def ocZ:List Nat:=[31085852918,31085967469,31085967473,4014162638968,461239444404335,66356861107714930,28432758136,31652115815,3500366443380,31372983270,244937456]
include h in
theorem lead_ok:(∀ t∈wE a b R,t≤1000)∧(∀ t∈wO a b R,t≤1000)∧(wO a b R).length≤8∧sumT (wE a b R)≤100000∧sumT (wO a b R)≤100000:=by
 obtain ⟨h1,h2⟩:=w_le a b R
 have g:∀ {l:List Nat},(∀ t∈l,t≤total (a :: b :: R))→∀ t∈l,t≤24:=fun h3 t ht=>Nat.le_trans (h3 t ht) h.tot
 have s:sumT (wE a b R)≤100000:=by
  rw [sumT_T]
  refine Nat.le_trans (total_le (M:=25) fun x hx=>?_) (by rw [List.length_map];exact Nat.le_trans (Nat.mul_le_mul_right 25 h.e8) (by decide))
  obtain ⟨t,ht,rfl⟩:=List.mem_map.mp hx
  exact Nat.succ_le_succ (g h1 t ht)
 exact ⟨fun t ht=>Nat.le_trans (g h1 t ht) (by decide),fun t ht=>Nat.le_trans (g h2 t ht) (by decide),w_len a b R ▸ h.e8,s,w_sum a b R ▸ s⟩
include h hw8 hw
theorem asked:∀ e∈[(.cmp .eq (.bin .add (.var 31085852918) (.var 31085967469)) (.call 17799694973213118310168288 [(.var 31085967473),(.var 4014162638968)])),(.cmp .eq (.var 461239444404335) (.lit (.int 0))),(.cmp .eq (.call 138035459652972097303904 [(.var 66356861107714930),(.var 28432758136)]) (.call 8427795960466814688 [(.var 4014162638968)])),(.cmp .is_ (.imeth (.var 31652115815) 245183341 [(.var 3500366443380)]) (.lit (.bool false))),(.cmp .is_ (.imeth (.var 3500366443380) 245183341 [(.var 31652115815)]) (.lit (.bool false))),(.cmp .is_ (.imeth (.var 31652115815) 29466933606 [(.var 3500366443380)]) (.cmp .in_ (.lit (.int 0)) (.var 4014162638968))),(PE.cmp .eq (.imeth (.var 31652115815) 607044556810351699428703568706500719 [(.var 3500366443380)]) (.call 17667321861091526813726432 [(.var 31372983270),(.var 244937456),(.var 4014162638968)]))],(Sm 277).ev (PEnv.only ocZ (envZ v a b R wd)) e=some (.bool true):=by
 obtain ⟨l1,l2,l3,_,_⟩:=lead_ok h
 obtain ⟨k1,k2⟩:=cts h
 have l4:=h.l4
 have q200:2 ^ wd<2 ^ 200:=Nat.lt_of_le_of_lt (p2_le hw) (by decide)
 have wdg:=ways_dig h.le l4 hw8
 have hwl:Cw (cE a b R) (wE a b R).length∧Cw (cO a b R) (wO a b R).length:=⟨⟨Nat.le_trans k1.l (by decide),fun x hx=>Nat.le_trans (k1.x x hx) (by decide),Nat.le_trans k1.n (by decide)⟩,⟨Nat.le_trans k2.l (by decide),fun x hx=>Nat.le_trans (k2.x x hx) (by decide),Nat.le_trans k2.n (by decide)⟩⟩
 have hO:wsInst (wO a b R)=wsV (wsText (wO a b R)) (sumT (wE a b R)) (wO a b R).length (cO a b R):=by rw [w_sum];rfl
 have z:decide ((a :: b :: R).foldl (lpst (2 ^ wd)) 1=(a :: b :: R).foldl (lpst (2 ^ wd)) 1)=true:=decide_eq_true rfl
 have hlw:=lw_spec (k:=235) (E:=wE a b R) (O:=wO a b R) (W:=a :: b :: R) ⟨Nat.le_trans h.e8 (by decide),l1⟩ ⟨Nat.le_trans l3 (by decide),l2⟩ (Nat.le_trans l4 (by decide)) (Nat.le_trans h.tot (by decide))
 rw [← w_wit] at hlw
 have hne:=ne_spec (k:=205) (n:=sumT (wE a b R)) (n':=sumT (wO a b R)) (x:=wsText (wE a b R)) (x':=wsText (wO a b R)) hwl.1 hwl.2
 refine List.forall_mem_cons.mpr ⟨?_,List.forall_mem_cons.mpr ⟨?_,List.forall_mem_cons.mpr ⟨?_,List.forall_mem_cons.mpr ⟨?_,List.forall_mem_cons.mpr ⟨?_,List.forall_mem_cons.mpr ⟨?_,List.forall_mem_cons.mpr ⟨?_,fun _ h=>nomatch h⟩⟩⟩⟩⟩⟩⟩
 ·refine ev_cmp (n:=276) (x:=nI (evN (2 ^ wd) (cE a b R)+evN (2 ^ wd) (cO a b R))) (by kernel_rfl) (ev_call (n:=275) (vs:=[nI (2 ^ wd),.list (nums (a :: b :: R))]) (by kernel_rfl) (lp_spec (k:=255) q200 h.le (Nat.le_trans l4 (by decide)))) ?_
  rw [show evN (2 ^ wd) (cE a b R)+evN (2 ^ wd) (cO a b R)=_ from w_prod a b R (2 ^ wd),cmp_eq,z]
 ·exact ev_cmp (n:=276) (x:=nI 0) (y:=nI 0) (by kernel_rfl) (by kernel_rfl) rfl
 ·refine ev_cmp (n:=276) (ev_call (n:=275) (vs:=[nI (gprod (2 ^ wd) (a :: b :: R)),nI wd]) (by kernel_rfl) (fn_i2 (n:=274) (by decide) (Nat.lt_of_lt_of_le (by decide) hw8) (Nat.le_trans hw (by decide)) wdg.1)) (ev_call (n:=275) (vs:=[.list (nums (a :: b :: R))]) (by kernel_rfl) (ly_spec (k:=255) h.le (Nat.le_trans l4 (by decide)))) ?_
  rw [wdg.2]
  exact (eqvL_nums (n:=4) _ _).trans (congrArg some (decide_eq_true rfl))
 ·exact ev_cmp (n:=276) (x:=.bool false) (y:=.bool false) (ev_im (n:=275) (vs:=[wsInst (wO a b R)]) (ks:=[1978739,111,15087,232585327,7411736924317563498]) (show _=some (wsInst (wE a b R)) by kernel_rfl) (by decide) (by kernel_rfl) (by rw [hO];exact less_spec (k:=263))) (by kernel_rfl) rfl
 ·exact ev_cmp (n:=276) (x:=.bool false) (y:=.bool false) (ev_im (n:=275) (vs:=[wsInst (wE a b R)]) (ks:=[1978739,111,15087,232585327,7411736924317563498]) (show _=some (wsV (wsText (wO a b R)) (sumT (wE a b R)) (wO a b R).length (cO a b R)) by rw [← hO];kernel_rfl) (by decide) (by kernel_rfl) (less_spec (k:=263))) (by kernel_rfl) rfl
 ·refine ev_cmp (n:=276) (x:=.bool (decide (cE a b R=cO a b R))) (y:=.bool ((a :: b :: R).any fun w=>decide (w=0))) (ev_im (n:=275) (vs:=[wsInst (wO a b R)]) (ks:=[1978739,111,15087,232585327,7411736924317563498]) (show _=some (wsInst (wE a b R)) by kernel_rfl) (by decide) (by kernel_rfl) (equal_spec (k:=263))) (ev_cmp (n:=275) (x:=nI 0) (y:=.list (nums (a :: b :: R))) (by kernel_rfl) (by kernel_rfl) (hasInt_nums _)) ?_
  rw [show decide (cE a b R=cO a b R)=_ from w_eqv a b R]
  show some (_ == _)=_
  rw [beq_self_eq_true]
 ·refine ev_cmp (n:=276) (ev_im (n:=275) (vs:=[wsInst (wO a b R)]) (ks:=[1978739,111,15087,232585327,7411736924317563498]) (show _=some (wsInst (wE a b R)) by kernel_rfl) (by decide) (by kernel_rfl) hne) (ev_call (n:=275) (vs:=[.list (nums (wE a b R)),.list (nums (wO a b R)),.list (nums (a :: b :: R))]) (by kernel_rfl) hlw) ?_
  refine eqvL_self ?_
  rw [show (List.range' 1 (max ((cE a b R).length - 1) ((cO a b R).length - 1)+1)).flatMap (selN (indF · (cE a b R) (wE a b R).length) (indF · (cO a b R) (wO a b R).length))=_ from w_wit a b R]
  exact selW_self
end
end Mine
end
section
set_option maxRecDepth 100000
set_option exponentiation.threshold 100000
open PySem
set_option genSizeOf false
set_option genInjectivity false
namespace Mine
section
variable {a b:Nat} {R:List Nat} {wd:Nat} (h:Word a b R) (hw8:8≤wd) (hw:wd≤140) (v:Nat→PV)
include h hw8 hw
theorem part_c:∃ ρ',exL (Sm 278) (F_law.body.drop 16) (envB v (a :: b :: R) wd (wE a b R) (wO a b R) [])=some (ρ',.ret (.bool true)):=by
 obtain ⟨l1,l2,l3,s1,s2⟩:=lead_ok h
 obtain ⟨k1,k2⟩:=cts h
 have hd:∀ {c:List Nat} {n:Nat},Ct c n→(Sm 277).fn d2N [.tup (nums c),nI wd]=some (nI (evN (2 ^ wd) c)):=fun k=>fn_d2 (n:=276) (by decide) (.inr rfl) (Nat.le_trans hw (by decide)) (Nat.le_trans k.l (by decide)) (k.dig hw8).1
 have hp:binV .pow (.int (1 - ((2 ^ wd:Nat):Int))) (nI (a :: b :: R).length)=some (.int ((1 - ((2 ^ wd:Nat):Int)) ^ (a :: b :: R).length)):=by
  refine (show _=og (Nat.ble ((Nat.log2 (1 - ((2 ^ wd:Nat):Int)).natAbs+1)*(a :: b :: R).length) 67108864) (PV.int ((1 - ((2 ^ wd:Nat):Int)) ^ (a :: b :: R).length)) from rfl).trans (ogT (ble_tr (Nat.le_trans (Nat.mul_le_mul (Nat.succ_le_succ (log2_le (k:=141) ?_)) h.l4) (by decide))))
  refine Nat.lt_of_le_of_lt (Int.natAbs_sub_le 1 ((2 ^ wd:Nat):Int)) ?_
  exact Nat.lt_of_le_of_lt (Nat.add_le_add_left (p2_le hw) 1) (by decide)
 apply Exists.intro
 refine exL_n (s_as (v:=wsInst (wE a b R)) (ev_call (n:=277) (evL_1 (ws_arg (k:=265) (x:=evsN) h.e8 l1 s1 (by kernel_rfl))) (ws_spec (k:=237) s1))) ?_
 refine exL_n (s_as (v:=wsInst (wO a b R)) (ev_call (n:=277) (evL_1 (ws_arg (k:=265) (x:=odN) l3 l2 s2 (by kernel_rfl))) (ws_spec (k:=237) s2))) ?_
 refine exL_n (s_as (v:=nI (2 ^ wd)) (ev_bin (n:=277) (x:=nI 2) (y:=nI wd) (by kernel_rfl) (by kernel_rfl) (b_powN (Nat.le_trans (Nat.mul_le_mul_left 2 hw) (by decide))))) ?_
 refine exL_n (s_as (v:=nI (evN (2 ^ wd) (cE a b R))) (ev_call (n:=277) (vs:=[.tup (nums (cE a b R)),nI wd]) (by kernel_rfl) (hd k1))) ?_
 refine exL_n (s_as (v:=nI (evN (2 ^ wd) (cO a b R))) (ev_call (n:=277) (vs:=[.tup (nums (cO a b R)),nI wd]) (by kernel_rfl) (hd k2))) ?_
 refine exL_n (ρ':=envZ v a b R wd) ((s_un (v:=.tup [nI (gprod (2 ^ wd) (a :: b :: R)),nI 0]) (ev_call (n:=277) (evL_2 (v:=.int ((evN (2 ^ wd) (cE a b R):Int) - evN (2 ^ wd) (cO a b R))) (by kernel_rfl) (ev_bin (n:=276) (x:=.int (1 - ((2 ^ wd:Nat):Int))) (y:=nI (a :: b :: R).length) (by kernel_rfl) (by kernel_rfl) hp)) (idm_at h hw8 hw (n:=237) (by decide))) (by kernel_rfl))) ?_
 exact exL_r (s_rt (andGo_true (List.cons_ne_nil _ _) (asked h hw8 hw v)))
end
noncomputable def lawNames:List (List Nat):=[[79,80,84,73,77,73,90,69,68],[78,69,87,76,79,67,65,76,83],[86,65,82,65,82,71,83],[86,65,82,75,69,89,87,79,82,68,83],[78,69,83,84,69,68],[71,69,78,69,82,65,84,79,82],[78,79,70,82,69,69],[67,79,82,79,85,84,73,78,69],[73,84,69,82,65,66,76,69,95,67,79,82,79,85,84,73,78,69],[65,83,89,78,67,95,71,69,78,69,82,65,84,79,82],[48,120,52,48,48]]
noncomputable def flS (b c:Nat):List (List Nat):=(lawNames.drop b).take c
noncomputable def chs {α:Type}:List α→List (List α)→List (List α)
 | [],acc=>acc
 | w :: ws,acc=>chs ws (acc++acc.map (·++[w]))
noncomputable def rowOf (l:List (List Nat)):List Nat:=match l.isEmpty with
 | true=>[48,120,48]
 | false=>joinV [44,32] l
noncomputable def vB (v:Nat→PV) (bs:Nat) (W:List Nat) (i:Nat):PV:=([v 0,v 1,v 2,v 3,v 4,v 5,nI bs,.list ((flS bs W.length).map .str),.list ((chs (flS bs W.length) [[]]).map fun l=>.str (rowOf l)),.dict (flS bs W.length) (nums W),.list ((chs (nums W) [[]]).map .list)]:List PV).getD i .none
noncomputable def envA (v:Nat→PV) (W:List Nat) (t:PEnv):PEnv :=
 (4050646790772,false,v 0) :: (4015196567669,false,v 1) :: (247362421,false,v 2) :: (234501492,false,v 3) :: (514152392913773,false,v 4) :: (57310523954936305,false,v 5) :: (woN,false,.list (nums W)) :: t
noncomputable def Mid (W:List Nat) (bs:Nat):Prop:=∀ (v:Nat→PV) (wd:Nat),exL (Sm 278) ((F_law.body.drop 9).take 7) (envA v W [(ctN,false,nI W.length),(215822691,false,nI bs),(28432758136,false,nI wd)])=some (envB (vB v bs W) W wd (evo W).1 (evo W).2 [],.next)
theorem mid3 (a b c:Nat):∀ bs∈List.range 8,Mid [a,b,c] bs:=List.forall_mem_cons.mpr ⟨fun _ _=>by kernel_rfl,List.forall_mem_cons.mpr ⟨fun _ _=>by kernel_rfl,List.forall_mem_cons.mpr ⟨fun _ _=>by kernel_rfl,List.forall_mem_cons.mpr ⟨fun _ _=>by kernel_rfl,List.forall_mem_cons.mpr ⟨fun _ _=>by kernel_rfl,List.forall_mem_cons.mpr ⟨fun _ _=>by kernel_rfl,List.forall_mem_cons.mpr ⟨fun _ _=>by kernel_rfl,List.forall_mem_cons.mpr ⟨fun _ _=>by kernel_rfl,fun _ h=>nomatch h⟩⟩⟩⟩⟩⟩⟩⟩
theorem mid4 (a b c d:Nat):∀ bs∈List.range 8,Mid [a,b,c,d] bs:=List.forall_mem_cons.mpr ⟨fun _ _=>by kernel_rfl,List.forall_mem_cons.mpr ⟨fun _ _=>by kernel_rfl,List.forall_mem_cons.mpr ⟨fun _ _=>by kernel_rfl,List.forall_mem_cons.mpr ⟨fun _ _=>by kernel_rfl,List.forall_mem_cons.mpr ⟨fun _ _=>by kernel_rfl,List.forall_mem_cons.mpr ⟨fun _ _=>by kernel_rfl,List.forall_mem_cons.mpr ⟨fun _ _=>by kernel_rfl,List.forall_mem_cons.mpr ⟨fun _ _=>by kernel_rfl,fun _ h=>nomatch h⟩⟩⟩⟩⟩⟩⟩⟩
theorem part_b {a b:Nat} {R:List Nat} (h:Word a b R) (v:Nat→PV) {ts:List Nat} (hv:v 1=.list (nums ts)) (hl:ts.length≤100):∃ ρ',exL (Sm 278) (F_law.body.drop 6) (envA v (a :: b :: R) [])=some (ρ',.ret (.bool true)):=by
 have hs:=sum_nums (c:=ts) (Nat.le_trans hl (by decide))
 rw [← hv] at hs
 have l4:=h.l4
 have hm:Mid (a :: b :: R) (total ts % 8):=by
  have hb:=List.mem_range.mpr (Nat.mod_lt (total ts) (show 0<8 by decide))
  rcases h.len with e|e
  ·obtain ⟨c,rfl⟩:=List.length_eq_one_iff.mp (Nat.succ.inj (Nat.succ.inj e))
   exact mid3 a b c _ hb
  ·match R,Nat.succ.inj (Nat.succ.inj e) with
   | [c,d],_=>exact mid4 a b c d _ hb
 obtain ⟨ρ',hc⟩:=part_c h (Nat.le_add_right 8 (total ts % 133)) (Nat.add_le_add_left (Nat.le_of_lt_succ (Nat.mod_lt (total ts) (show 0<133 by decide))) 8) (vB v (total ts % 8) (a :: b :: R))
 refine ⟨ρ',?_⟩
 refine exL_n (s_as (v:=nI (a :: b :: R).length) (ev_bi (n:=277) (vs:=[.list (nums (a :: b :: R))]) (by kernel_rfl) (len_at (Nat.le_trans l4 (by decide))))) ?_
 refine exL_n (s_as (v:=nI (total ts % 8)) (ev_bin (n:=277) (x:=nI (total ts)) (y:=nI 8) (ev_bi (n:=276) (vs:=[v 1]) (by kernel_rfl) hs) (by kernel_rfl) (b_mod (by decide)))) ?_
 refine exL_n (s_as (v:=nI (8+total ts % 133)) (ev_bin (n:=277) (x:=nI 8) (y:=nI (total ts % 133)) (by kernel_rfl) (ev_bin (n:=276) (x:=nI (total ts)) (y:=nI 133) (ev_bi (n:=275) (vs:=[v 1]) (by kernel_rfl) hs) (by kernel_rfl) (b_mod (by decide))) rfl)) ?_
 exact exL_app (l₁:=(F_law.body.drop 9).take 7) (l:=F_law.body.drop 16) (hm v _) hc
end Mine
end
section
set_option maxRecDepth 100000
open PySem
set_option genSizeOf false
set_option genInjectivity false
namespace Mine
theorem of_maps {α β:Type} {f g:α→β} {l:List α} (h:l.map f=l.map g):∀ a∈l,f a=g a:=List.map_inj_left.mp h
noncomputable def hands:List Nat:=[97,65,119808,119860,119912,120016,120172,120224,120276,120328,120380,120432]
noncomputable def leW (k:Nat):List Nat:=match Nat.blt k 7 with
 | true=>[k]
 | false=>[[3,1],[6,1],[5,5]].getD (k - 7) []
noncomputable def leF (k:Nat):List Nat:=(leW k).map (97+·)
noncomputable def sgF (k h:Nat):List Nat:=match Nat.blt k 7 with
 | true=>[hands.getD h 0+k]
 | false=>[[13256,13191,64256].getD (k - 7) 0]
noncomputable def unseenL:List Nat:=[173,847,6150,6155,6156,6157,8203,8204,8205,8288,65279,65024,65025,65026,65027,65028,65029,65030,65031,65032,65033,65034,65035,65036,65037,65038,65039]
noncomputable def mkF (m:Nat):List (List Nat × List Nat):=match Nat.blt m 27 with
 | true=>[([unseenL.getD m 0],[])]
 | false=>[]
noncomputable def piece (t:Nat):List (List Nat × List Nat):=(sgF (t % 10) (t / 10 % 12),leF (t % 10)) :: mkF (t / 120)
noncomputable def tup2 (p:List Nat × List Nat):PV:=.tup [.str p.1,.str p.2]
noncomputable def txst (s:List (List Nat × List Nat) × Nat) (t:Nat):List (List Nat × List Nat) × Nat:=match Nat.blt s.2 3 with
 | true=>(s.1++piece t,s.2+(leF (t % 10)).length)
 | false=>s
theorem mkF_len (m:Nat):(mkF m).length≤1:=by
 unfold mkF
 cases Nat.blt m 27
 ·exact Nat.zero_le _
 ·exact Nat.le_refl _
theorem ltB (a b:Nat):decide ((a:Int)<(b:Int))=Nat.blt a b:=by
 cases h:Nat.blt a b with
 | true=>exact decide_eq_true (Int.ofNat_lt.mpr (Nat.blt_eq.mp h))
 | false=>exact decide_eq_false fun q=>Bool.false_ne_true (h.symm.trans (Nat.blt_eq.mpr (Int.ofNat_lt.mp q)))
theorem cmp_lt (a b:Nat):cmpV .lt (nI a) (nI b)=some (Nat.blt a b):=congrArg some (ltB a b)
noncomputable def chB' (c:Nat):Bool:=Nat.blt c 1114112 && !(Nat.ble 55296 c && Nat.blt c 57344)
theorem chr_k {c:Nat} (h:chB' c=true):biV .chr [nI c]=some (.str [c]):=(show _=og (chB' c) (PV.str [c]) from rfl).trans (ogT h)
noncomputable def spN:Nat:=15384122077699522845783776
noncomputable def allKH (m:Nat):List (Nat × Nat):=(List.range m).flatMap fun k=>(List.range 12).map fun h=>(k,h)
theorem mem_KH {m k h:Nat} (hk:k<m) (hh:h<12):(k,h)∈allKH m:=List.mem_flatMap.mpr ⟨k,List.mem_range.mpr hk,List.mem_map.mpr ⟨h,List.mem_range.mpr hh,rfl⟩⟩
theorem spell_all (n:Nat):(allKH 7).map (fun p=>runF (Sm (n+11)) F__law_spelled [.str [97+p.1],nI p.2])=(allKH 7).map fun p=>some (.str [hands.getD p.2 0+p.1]):=by kernel_rfl
noncomputable def txN:Nat:=247362421
noncomputable def knN:Nat:=213644652
noncomputable def mkN:Nat:=228389230
noncomputable def unN:Nat:=3841527199734
noncomputable def prN:Nat:=31381434737
noncomputable def pairsV:PV:=.list [.tup [.str [13256],.str [100,98]],.tup [.str [13191],.str [103,98]],.tup [.str [64256],.str [102,102]]]
noncomputable def txA:PS:=.if_ (.cmp .lt (.var knN) (.lit (.int 7))) [.append txN (.tup [(.call spN [(.bi .chr [(.bin .add (.lit (.int 97)) (.var knN))]),(.bin .mod (.bin .fdiv (.var 29466916981) (.lit (.int 10))) (.lit (.int 12)))]),(.bi .chr [(.bin .add (.lit (.int 97)) (.var knN))])]) [knN,29466916981]] [.append txN (.idx (.var prN) (.bin .sub (.var knN) (.lit (.int 7)))) [prN,knN]]
noncomputable def txC:PS:=.assign 213561709 (.bin .add (.var 213561709) (.bi .len [(.idx (.idx (.var txN) (.neg (.lit (.int 1)))) (.lit (.int 1)))])) [213561709,txN]
noncomputable def txD:PS:=.if_ (.cmp .lt (.var mkN) (.lit (.int 27))) [.append txN (.tup [(.bi .chr [(.idx (.var unN) (.var mkN))]),(.lit (.str []))]) [unN,mkN]] []
noncomputable def txB:List PS:=[.if_ (.cmp .lt (.var 213561709) (.lit (.int 3))) [.assign knN (.bin .mod (.var 29466916981) (.lit (.int 10))) [29466916981],.assign mkN (.bin .fdiv (.var 29466916981) (.lit (.int 120))) [29466916981],txA,txC,txD] []]
noncomputable def envT (to:PV) (o1 o2:Bool) (s:List (List Nat × List Nat) × Nat) (t:PEnv):PEnv:=(4015196567669,false,to) :: (unN,o1,.list (nums unseenL)) :: (prN,o2,pairsV) :: (txN,true,.list (s.1.map tup2)) :: (213561709,false,nI s.2) :: t
noncomputable def t3 (t k m:PV):PEnv:=[(29466916981,false,t),(knN,false,k),(mkN,false,m)]
noncomputable def Tx (t:PEnv):Prop:=Tl 29466916981 t∨∃ y k m,t=t3 y k m
theorem map_snoc (L:List (List Nat × List Nat)) (p:List Nat × List Nat):L.map tup2++[tup2 p]=(L++[p]).map tup2:=(List.map_append (f:=tup2) (l₁:=L) (l₂:=[p])).symm
section
variable {k t n:Nat} {to:PV} {o1 o2:Bool} {L:List (List Nat × List Nat)}
theorem tx_a (hL:L.length≤900) (m:PV):∃ o2',exS (Sm (k+28)) (envT to o1 o2 (L,n) (t3 (nI t) (nI (t % 10)) m)) txA=some (envT to o1 o2' (L++[(sgF (t % 10) (t / 10 % 12),leF (t % 10))],n) (t3 (nI t) (nI (t % 10)) m),.next):=by
 have hl:(L.map tup2).length≤1000000:=by rw [List.length_map];exact Nat.le_trans hL (by decide)
 have h10:t % 10<10:=Nat.mod_lt _ (by decide)
 have hh:t / 10 % 12<12:=Nat.mod_lt _ (by decide)
 have ht:(Sm (k+28)).ts (envT to o1 o2 (L,n) (t3 (nI t) (nI (t % 10)) m)) (.cmp .lt (.var knN) (.lit (.int 7)))=some (Nat.blt (t % 10) 7):=ts_cmp (x:=nI (t % 10)) (y:=nI 7) (by kernel_rfl) (by kernel_rfl) (cmp_lt _ 7)
 unfold leF leW sgF
 cases hb:Nat.blt (t % 10) 7 with
 | true =>
  rw [hb] at ht
  have h7:=Nat.blt_eq.mp hb
  have hc:biV .chr [nI (97+t % 10)]=some (.str [97+t % 10]):=chr_k (List.all_eq_true.mp (show (List.range 7).all (fun k=>chB' (97+k))=true from rfl) _ (List.mem_range.mpr h7))
  have hs:=(fn_pl (n:=k+24) (f:=spN) (by kernel_rfl) (by kernel_rfl)).trans (of_maps (spell_all (k+13)) _ (mem_KH h7 hh))
  refine ⟨o2,s_t ht (show exL (Sm (k+27)) _ _=_ from (exL_1 (s_ap (v:=tup2 ([hands.getD (t / 10 % 12) 0+t % 10],[97+t % 10])) (k:=L.map tup2) (obs (evL_2 (r:=Sm (k+26)) (v:=.str [hands.getD (t / 10 % 12) 0+t % 10]) (v₂:=.str [97+t % 10]) (ev_call (evL_2 (ev_bi (vs:=[nI (97+t % 10)]) (by kernel_rfl) hc) (ev_bin (x:=nI (t / 10)) (y:=nI 12) (ev_bin (x:=nI t) (y:=nI 10) (by kernel_rfl) (by kernel_rfl) (b_fdivN (k:=5) (by decide) (by decide) (by decide))) (by kernel_rfl) (b_mod (by decide)))) hs) (ev_bi (vs:=[nI (97+t % 10)]) (by kernel_rfl) hc)) rfl) (by kernel_rfl) hl)).trans ?_)⟩
  rw [map_snoc]
  kernel_rfl
 | false =>
  rw [hb] at ht
  have hi:∀ k∈List.range 10,Nat.blt k 7=false→idxV pairsV (.int ((k:Int) - (7:Nat)))=some (tup2 ([[13256,13191,64256].getD (k - 7) 0],([[3,1],[6,1],[5,5]].getD (k - 7) []).map (97+·))) :=
   fun k hk hb=>(of_maps (f:=fun k=>ogn (Nat.blt k 7) (idxV pairsV (.int ((k:Int) - (7:Nat))))) (g:=fun k=>ogn (Nat.blt k 7) (some (tup2 ([[13256,13191,64256].getD (k - 7) 0],([[3,1],[6,1],[5,5]].getD (k - 7) []).map (97+·))))) (by kernel_rfl) k hk) |> fun e=>(by rw [hb] at e;exact Option.some.inj e)
  refine ⟨false,s_f ht (show exL (Sm (k+27)) _ _=_ from (exL_1 (s_ap (k:=L.map tup2) (ev_ix (x:=pairsV) (y:=.int (((t % 10:Nat):Int) - (7:Nat))) (by kernel_rfl) (by kernel_rfl) (hi _ (List.mem_range.mpr h10) hb)) (by kernel_rfl) hl)).trans ?_)⟩
  rw [map_snoc]
  kernel_rfl
theorem idx_last {l:List PV} {v:PV} (h:l.length≤1000):idxV (.list (l++[v])) (.int (-1))=some v:=by
 have e:(l++[v]).length=l.length+1:=List.length_append ..
 have hs:seat (-1) (l++[v])=some l.length:=obs (show place (-1) (l++[v]).length=some l.length from e ▸ rfl) (ogT (lo_tr (e ▸ Nat.le_trans (Nat.succ_le_succ h) (by decide))))
 refine (obs hs ?_:ob (seat (-1) (l++[v])) _=_)
 rw [List.getElem?_append_right (Nat.le_refl _),Nat.sub_self]
 rfl
theorem tx_c (hL:L.length≤900) {p:List Nat × List Nat} (hp:p.2.length≤1000000) (y q m:PV):exS (Sm (k+28)) (envT to o1 o2 (L++[p],n) (t3 y q m)) txC=some (envT to o1 o2 (L++[p],n+p.2.length) (t3 y q m),.next):=by
 have e:(L++[p]).map tup2=L.map tup2++[tup2 p]:=List.map_append
 refine (s_as (v:=nI (n+p.2.length)) (ev_bin (x:=nI n) (y:=nI p.2.length) (by kernel_rfl) (ev_bi (vs:=[.str p.2]) (evL_1 (ev_ix (x:=tup2 p) (y:=nI 1) (ev_ix (x:=.list ((L++[p]).map tup2)) (y:=.int (-1)) (by kernel_rfl) (by kernel_rfl) (by rw [e];exact idx_last (by rw [List.length_map];exact Nat.le_trans hL (by decide)))) (by kernel_rfl) (by kernel_rfl))) (show biV .len [.str p.2]=some (nI p.2.length) from ogT (lo_tr hp))) rfl)).trans (by kernel_rfl)
theorem tx_d (hL:L.length≤900) (y q:PV) (m:Nat):∃ o1',exS (Sm (k+28)) (envT to o1 o2 (L,n) (t3 y q (nI m))) txD=some (envT to o1' o2 (L++mkF m,n) (t3 y q (nI m)),.next):=by
 have ht:(Sm (k+28)).ts (envT to o1 o2 (L,n) (t3 y q (nI m))) (.cmp .lt (.var mkN) (.lit (.int 27)))=some (Nat.blt m 27):=ts_cmp (x:=nI m) (y:=nI 27) (by kernel_rfl) (by kernel_rfl) (cmp_lt _ 27)
 unfold mkF
 cases hb:Nat.blt m 27 with
 | false =>
  rw [hb] at ht
  exact ⟨o1,s_f ht (by rw [List.append_nil];rfl)⟩
 | true =>
  rw [hb] at ht
  have hm:m<unseenL.length:=Nat.blt_eq.mp hb
  have hc:biV .chr [nI (unseenL.getD m 0)]=some (.str [unseenL.getD m 0]):=chr_k (List.all_eq_true.mp (show unseenL.all chB'=true from rfl) (unseenL.getD m 0) (by rw [List.getD_eq_getElem?_getD,List.getElem?_eq_getElem hm];exact List.getElem_mem _))
  refine ⟨false,s_t ht (show exL (Sm (k+27)) _ _=_ from (exL_1 (s_ap (v:=tup2 ([unseenL.getD m 0],[])) (k:=L.map tup2) (obs (evL_2 (r:=Sm (k+26)) (v:=.str [unseenL.getD m 0]) (v₂:=.str []) (ev_bi (evL_1 (ev_ix (x:=.list (nums unseenL)) (y:=nI m) (by kernel_rfl) (by kernel_rfl) (idx_nums hm (by decide)))) hc) (by kernel_rfl)) rfl) (by kernel_rfl) (by rw [List.length_map];exact Nat.le_trans hL (by decide)))).trans ?_)⟩
  rw [map_snoc]
  kernel_rfl
end
end Mine
end
section
set_option maxRecDepth 100000
open PySem
set_option genSizeOf false
set_option genInjectivity false
namespace Mine
noncomputable def b1F:Nat:=59949670300257315469290
noncomputable def b3F:Nat:=7975789253336593673777518
noncomputable def Gd (p:List Nat × List Nat):Prop:=∀ n,(Sm (n+20)).fn b1F [.str p.1]=some (.bool p.2.isEmpty)∧(p.2.isEmpty=false→(Sm (n+20)).fn b3F [.str p.1]=some (.str p.2))
theorem sign_all (n:Nat):(allKH 10).map (fun p=>(runF (Sm (n+19)) F_in_table_b1 [.str (sgF p.1 p.2)],runF (Sm (n+19)) F_map_table_b3 [.str (sgF p.1 p.2)]))=(allKH 10).map fun p=>(some (PV.bool (leF p.1).isEmpty),some (PV.str (leF p.1))):=by kernel_rfl
theorem mark_all (n:Nat):unseenL.map (fun c=>runF (Sm (n+19)) F_in_table_b1 [.str [c]])=unseenL.map fun _=>some (PV.bool true):=by kernel_rfl
theorem fn_b1 {n:Nat} (x:List Nat):(Sm (n+20)).fn b1F [.str x]=runF (Sm (n+19)) F_in_table_b1 [.str x]:=fn_pl (by kernel_rfl) (by kernel_rfl)
theorem fn_b3 {n:Nat} (x:List Nat):(Sm (n+20)).fn b3F [.str x]=runF (Sm (n+19)) F_map_table_b3 [.str x]:=fn_pl (by kernel_rfl) (by kernel_rfl)
theorem gd_sign {k h:Nat} (hk:k<10) (hh:h<12):Gd (sgF k h,leF k):=fun n=>by
 have q:=of_maps (sign_all n) _ (mem_KH hk hh)
 exact ⟨(fn_b1 _).trans (congrArg Prod.fst q),fun _=>(fn_b3 _).trans (congrArg Prod.snd q)⟩
theorem gd_mark (m:Nat):∀ p∈mkF m,Gd p:=fun p hp n=>by
 unfold mkF at hp
 cases hb:Nat.blt m 27 with
 | false=>rw [hb] at hp;exact nomatch hp
 | true =>
  rw [hb] at hp
  obtain rfl:=List.mem_singleton.mp hp
  have hm:m<unseenL.length:=Nat.blt_eq.mp hb
  exact ⟨(fn_b1 _).trans (of_maps (mark_all n) (unseenL.getD m 0) (by rw [List.getD_eq_getElem?_getD,List.getElem?_eq_getElem hm];exact List.getElem_mem _)),fun h=>(Bool.false_ne_true h.symm).elim⟩
noncomputable def sndF (L:List (List Nat × List Nat)):List Nat:=(L.map Prod.snd).flatten
theorem sndF_app (a b:List (List Nat × List Nat)):sndF (a++b)=sndF a++sndF b:=by rw [sndF,List.map_append,List.flatten_append];rfl
theorem sndF_piece (t:Nat):sndF (piece t)=leF (t % 10):=by
 unfold piece mkF
 cases Nat.blt (t / 120) 27 <;> exact List.append_nil _
theorem leW_all:∀ k∈List.range 10,0<(leW k).length∧(leW k).length≤2∧∀ w∈leW k,w≤6:=by decide
theorem leF_len (k:Nat):(leF k).length=(leW k).length:=List.length_map ..
noncomputable def txJ (n:Nat) (s:List (List Nat × List Nat) × Nat):Prop:=(s.1.length+2*n≤6∧∀ p∈s.1,Gd p)∧∃ W:List Nat,(sndF s.1=W.map (97+·)∧W.length=s.2)∧(3≤s.2+n∧s.2≤4)∧∀ w∈W,w≤6
theorem txJ_step {n:Nat} {s:List (List Nat × List Nat) × Nat} (t:Nat) (h:txJ (n+1) s):txJ n (txst s t):=by
 obtain ⟨⟨h1,h2⟩,W,⟨h3,h4⟩,⟨h5,h6⟩,h7⟩:=h
 have h10:t % 10<10:=Nat.mod_lt _ (by decide)
 obtain ⟨l1,l2,l3⟩:=leW_all _ (List.mem_range.mpr h10)
 unfold txst
 cases hb:Nat.blt s.2 3 with
 | false =>
  have h8:¬ s.2<3:=fun q=>Bool.false_ne_true (hb.symm.trans (Nat.blt_eq.mpr q))
  exact ⟨⟨Nat.le_trans (Nat.add_le_add_left (Nat.mul_le_mul_left 2 (Nat.le_succ n)) _) h1,h2⟩,W,⟨h3,h4⟩,⟨Nat.le_trans (Nat.le_of_not_lt h8) (Nat.le_add_right _ _),h6⟩,h7⟩
 | true =>
  have h8:s.2<3:=Nat.blt_eq.mp hb
  refine ⟨⟨?_,fun p hp=>?_⟩,W++leW (t % 10),⟨?_,?_⟩,⟨?_,?_⟩,fun w hw=>(List.mem_append.mp hw).elim (h7 w) (l3 w)⟩
  ·rw [List.length_append,Nat.add_assoc]
   refine Nat.le_trans (Nat.add_le_add_left ?_ _) h1
   rw [Nat.mul_succ,Nat.add_comm]
   exact Nat.add_le_add_left (Nat.succ_le_succ (mkF_len _)) _
  ·rcases List.mem_append.mp hp with hp|hp
   ·exact h2 p hp
   ·rcases List.mem_cons.mp hp with rfl|hp
    ·exact gd_sign h10 (Nat.mod_lt _ (by decide))
    ·exact gd_mark _ p hp
  ·rw [List.map_append,← h3]
   exact (sndF_app _ _).trans (congrArg _ (sndF_piece t))
  ·rw [List.length_append,h4,← leF_len]
  ·refine Nat.le_trans h5 ?_
   rw [Nat.add_comm n 1,← Nat.add_assoc]
   exact Nat.add_le_add_right (Nat.add_le_add_left (leF_len _ ▸ l1) _) n
  ·exact Nat.add_le_add (Nat.le_of_lt_succ h8) (leF_len _ ▸ l2)
noncomputable def txI (to:PV) (n:Nat) (s:List (List Nat × List Nat) × Nat) (ρ:PEnv):Prop:=(∃ o1 o2 t,Tx t∧ρ=envT to o1 o2 s t)∧txJ n s
theorem tx_step {k:Nat} {to:PV} (n:Nat) (s:List (List Nat × List Nat) × Nat) (t:Nat) (ρ:PEnv) (hI:txI to (n+1) s ρ) (_:True):∃ ρ₁ ρ',bindT [29466916981] true (nI t) ρ=some ρ₁∧(Sm (k+30)).ex ρ₁ txB=some (ρ',.next)∧txI to n (txst s t) ρ':=by
 obtain ⟨⟨o1,o2,tl,hT,rfl⟩,hJ⟩:=hI
 have hJ':=txJ_step t hJ
 obtain ⟨t₁,h₁,e₁⟩:∃ t₁,(t₁=[(29466916981,false,nI t)]∨∃ q m,t₁=t3 (nI t) q m)∧PEnv.set (envT to o1 o2 s tl) 29466916981 false (nI t)=envT to o1 o2 s t₁:=by
  rcases hT with (rfl|⟨y,rfl⟩)|⟨y,u,v,rfl⟩
  ·exact ⟨_,.inl rfl,rfl⟩
  ·exact ⟨_,.inl rfl,rfl⟩
  ·exact ⟨_,.inr ⟨u,v,rfl⟩,rfl⟩
 have hc:(Sm (k+29)).ts (envT to o1 o2 s t₁) (.cmp .lt (.var 213561709) (.lit (.int 3)))=some (Nat.blt s.2 3):=ts_cmp (x:=nI s.2) (y:=nI 3) (by kernel_rfl) (by kernel_rfl) (cmp_lt _ 3)
 suffices h:∃ o1' o2' t₂,Tx t₂∧exL (Sm (k+29)) txB (envT to o1 o2 s t₁)=some (envT to o1' o2' (txst s t) t₂,.next) by
  obtain ⟨o1',o2',t₂,h₂,e₂⟩:=h
  exact ⟨_,_,congrArg some e₁,e₂,⟨_,_,t₂,h₂,rfl⟩,hJ'⟩
 obtain ⟨L,m⟩:=s
 have hL:L.length+1≤900:=Nat.le_trans (Nat.succ_le_succ (Nat.le_trans (Nat.le_add_right _ _) hJ.1.1)) (by decide)
 unfold txst
 cases hb:Nat.blt m 3 with
 | false =>
  refine ⟨o1,o2,t₁,?_,exL_1 (s_f (hc.trans (congrArg some hb)) rfl)⟩
  rcases h₁ with rfl|⟨u,v,rfl⟩
  ·exact .inl (.inr ⟨_,rfl⟩)
  ·exact .inr ⟨_,_,_,rfl⟩
 | true =>
  obtain ⟨o2',e3⟩:=tx_a (k:=k) (t:=t) (n:=m) (to:=to) (o1:=o1) (o2:=o2) (L:=L) (Nat.le_of_succ_le hL) (nI (t / 120))
  have e4:=tx_c (k:=k) (n:=m) (to:=to) (o1:=o1) (o2:=o2') (L:=L) (p:=(sgF (t % 10) (t / 10 % 12),leF (t % 10))) (Nat.le_of_succ_le hL) (leF_len _ ▸ Nat.le_trans (leW_all _ (List.mem_range.mpr (Nat.mod_lt _ (by decide)))).2.1 (by decide)) (nI t) (nI (t % 10)) (nI (t / 120))
  obtain ⟨o1',e5⟩:=tx_d (k:=k) (n:=m+(leF (t % 10)).length) (to:=to) (o1:=o1) (o2:=o2') (L:=L++[(sgF (t % 10) (t / 10 % 12),leF (t % 10))]) (by rw [List.length_append];exact hL) (nI t) (nI (t % 10)) (t / 120)
  refine ⟨o1',o2',_,.inr ⟨nI t,nI (t % 10),nI (t / 120),rfl⟩,exL_1 (s_t (hc.trans (congrArg some hb)) (show exL (Sm (k+28)) _ _=_ from ?_))⟩
  have e6:=exL_n e3 (exL_n e4 (exL_1 e5))
  rw [List.append_assoc] at e6
  rcases h₁ with rfl|⟨u,v,rfl⟩
  ·exact exL_n (s_as (v:=nI (t % 10)) (ev_bin (x:=nI t) (y:=nI 10) (by kernel_rfl) (by kernel_rfl) (b_mod (by decide)))) (exL_n (ρ':=envT to o1 o2 (L,m) (t3 (nI t) (nI (t % 10)) (nI (t / 120)))) ((s_as (v:=nI (t / 120)) (ev_bin (x:=nI t) (y:=nI 120) (by kernel_rfl) (by kernel_rfl) (b_fdivN (k:=8) (by decide) (by decide) (by decide)))).trans (by kernel_rfl)) e6)
  ·exact exL_n (s_as (v:=nI (t % 10)) (ev_bin (x:=nI t) (y:=nI 10) (by kernel_rfl) (by kernel_rfl) (b_mod (by decide)))) (exL_n (ρ':=envT to o1 o2 (L,m) (t3 (nI t) (nI (t % 10)) (nI (t / 120)))) ((s_as (v:=nI (t / 120)) (ev_bin (x:=nI t) (y:=nI 120) (by kernel_rfl) (by kernel_rfl) (b_fdivN (k:=8) (by decide) (by decide) (by decide)))).trans (by kernel_rfl)) e6)
theorem tx_spec {k:Nat} {ts:List Nat} (hl:ts.length=3):∃ s,txJ 0 s∧(Sm (k+40)).fn 8499308093658150624 [.list (nums ts)]=some (.list (s.1.map tup2)):=by
 obtain ⟨ρ',h3,⟨o1,o2,t,ht,rfl⟩,hJ⟩:=for_inv (k:=k+37) (I:=txI (.list (nums ts))) (tx_step (k:=k+8)) ts ([],0) (envT (.list (nums ts)) true true ([],0) []) ⟨⟨_,_,[],.inl (.inl rfl),rfl⟩,⟨by rw [hl];decide,fun p hp=>nomatch hp⟩,[],⟨rfl,rfl⟩,⟨by rw [hl];decide,by decide⟩,fun w hw=>nomatch hw⟩ fun _ _=>trivial
 refine ⟨_,hJ,?_⟩
 rw [fn_pl (fp:=F__law_text) (by kernel_rfl) (by kernel_rfl)]
 apply run_r (n:=k+38) (ρ:=[(4015196567669,false,.list (nums ts))]) (by rfl)
 refine exL_app (l₁:=F__law_text.body.take 4) (l:=F__law_text.body.drop 4) (ρ':=envT (.list (nums ts)) true true ([],0) []) (by kernel_rfl) ?_
 refine exL_n (s_for (it_tv (by kernel_rfl) (by rw [nums_len,hl];decide)) h3) ?_
 exact exL_r (s_rt (by rcases ht with (rfl|⟨y,rfl⟩)|⟨y,u,v,rfl⟩ <;> kernel_rfl))
end Mine
end
section
set_option maxRecDepth 100000
open PySem
set_option genSizeOf false
set_option genInjectivity false
namespace Mine
noncomputable def sgN:Nat:=234501492
noncomputable def ltN:Nat:=514152392913773
noncomputable def ppN:Nat:=57310523954936305
noncomputable def env2 (s l:PV):PEnv:=[(sgN,false,s),(ltN,false,l)]
noncomputable def Tt (t:PEnv):Prop:=t=[]∨∃ x y,t=env2 x y
noncomputable def ckB:List PS:=[.if_ (.cmp .isNot (.call b1F [(.var sgN)]) (.cmp .eq (.var ltN) (.lit (.str [])))) [.ret (.lit (.bool false)) []] []]
noncomputable def envS (sc to te:PV) (t:PEnv):PEnv:=(4050646790772,false,sc) :: (4015196567669,false,to) :: (txN,false,te) :: t
theorem eq_nil (x:List Nat):cmpV .eq (.str x) (.str [])=some x.isEmpty:=by cases x <;> rfl
theorem ne_nil (x:List Nat):cmpV .ne (.str x) (.str [])=some (!x.isEmpty):=by cases x <;> rfl
theorem isnt_self (b:Bool):cmpV .isNot (.bool b) (.bool b)=some false:=by cases b <;> rfl
noncomputable def ckI (sc to te:PV) (N:Nat) (n:Nat) (_:Unit) (ρ:PEnv):Prop:=∃ t,(n=N∧t=[]∨∃ x y,t=env2 x y)∧ρ=envS sc to te t
theorem ck_step {k N:Nat} {sc to te:PV} (n:Nat) (u:Unit) (p:List Nat × List Nat) (ρ:PEnv) (h:ckI sc to te N (n+1) u ρ) (hp:Gd p):∃ ρ₁ ρ',bindT [sgN,ltN] false (tup2 p) ρ=some ρ₁∧(Sm (k+30)).ex ρ₁ ckB=some (ρ',.next)∧ckI sc to te N n () ρ':=by
 obtain ⟨t,ht,rfl⟩:=h
 refine ⟨envS sc to te (env2 (.str p.1) (.str p.2)),envS sc to te (env2 (.str p.1) (.str p.2)),by rcases ht with ⟨_,rfl⟩|⟨x,y,rfl⟩ <;> rfl,?_,env2 (.str p.1) (.str p.2),.inr ⟨_,_,rfl⟩,rfl⟩
 exact exL_1 (s_f (ts_cmp (n:=k+28) (x:=.bool p.2.isEmpty) (y:=.bool p.2.isEmpty) (ev_call (n:=k+27) (vs:=[.str p.1]) (by kernel_rfl) (hp (k+7)).1) (ev_cmp (n:=k+27) (x:=.str p.2) (y:=.str []) (by kernel_rfl) (by kernel_rfl) (eq_nil _)) (isnt_self _)) rfl)
theorem join_fl:∀ l:List (List Nat),joinV [] l=l.flatten
 | []=>rfl
 | [x]=>(List.append_nil x).symm
 | x :: y :: l=>by
  show x++[]++joinV [] (y :: l)=_
  rw [join_fl (y :: l),List.append_nil]
  rfl
theorem sumLen_flat:∀ l:List (List Nat),sumLen l=l.flatten.length
 | []=>rfl
 | x :: l=>by rw [sumLen,sumLen_flat l,List.flatten_cons,List.length_append]
theorem sndF_filter:∀ L:List (List Nat × List Nat),sndF (L.filter fun p=>!p.2.isEmpty)=sndF L
 | []=>rfl
 | p :: L=>by
  have ih:=sndF_filter L
  rw [List.filter_cons]
  cases h:p.2.isEmpty with
  | true=>exact ih.trans (show _=p.2++sndF L by rw [List.isEmpty_iff.mp h];rfl)
  | false=>exact congrArg (p.2++·) ih
noncomputable def jnE (e:PE) (ifs:List PE):PE:=.meth .join (.lit (.str [])) [(.comp e [sgN,ltN] false (.tv (.var txN)) ifs [])]
theorem jn_at {k:Nat} {ρ:PEnv} {e:PE} {ifs:List PE} {L:List (List Nat × List Nat)} {c:List Nat × List Nat→Bool} (hl:L.length≤6) (hs:(sndF L).length≤4) (h1:(Sm (k+20)).ev ρ (.var txN)=some (.list (L.map tup2)))
  (h2:∀ p∈L,allT (Sm (k+20)) (env2 (.str p.1) (.str p.2)) ifs=some (c p)∧(c p=true→(Sm (k+20)).ev (env2 (.str p.1) (.str p.2)) e=some (.str p.2))) (h3:sndF (L.filter c)=sndF L):(Sm (k+22)).ev ρ (jnE e ifs)=some (.str (sndF L)):=by
 have hc:=comp_inv (r:=Sm (k+20)) (elt:=e) (xs:=[sgN,ltN]) (si:=false) (ifs:=ifs) (I:=Tt) (ok:=(·∈L)) (g:=tup2) (f:=fun p=>.str p.2) (c:=c) (fun p ρ h hp=>⟨env2 (.str p.1) (.str p.2),by rcases h with rfl|⟨x,y,rfl⟩ <;> rfl,(h2 p hp).1,(h2 p hp).2,.inr ⟨_,_,rfl⟩⟩) L [] (.inl rfl) fun p hp=>hp
 have hf:((L.filter c).map fun p:List Nat × List Nat=>p.2).flatten=sndF L:=h3
 refine ev_me (x:=.str []) (by kernel_rfl) (evL_1 (ev_comp (n:=k+20) (it_tv h1 (by rw [List.length_map];exact Nat.le_trans hl (by decide))) (by rw [cap_nil];exact hc) (by rw [List.length_map];exact Nat.le_trans (List.length_filter_le _ _) (Nat.le_trans hl (by decide))))) ?_
 rw [j_nil (strs_map (f:=fun p:List Nat × List Nat=>p.2) (L.filter c)) (by rw [sumLen_flat,hf];exact Nat.le_trans hs (by decide)),join_fl,hf]
noncomputable def woE:PE:=.comp (.bin .sub (.bi .ord [(.var 3978997625709)]) (.lit (.int 97))) [3978997625709] true (.tv (.var ppN)) [] []
theorem wo_at {k:Nat} {W:List Nat} {ρ:PEnv} (hl:W.length≤4) (h1:(Sm (k+20)).ev ρ (.var ppN)=some (.str (W.map (97+·)))):(Sm (k+21)).ev ρ woE=some (.list (nums W)):=by
 have hc:=comp_all (r:=Sm (k+20)) (elt:=.bin .sub (.bi .ord [(.var 3978997625709)]) (.lit (.int 97))) (x:=3978997625709) (ρ₀:=[]) (ok:=fun _=>True) (g:=fun w=>.str [97+w]) (f:=nI) (fun w ρ h _=>by
  have e:PEnv.set ρ 3978997625709 false (.str [97+w])=[(3978997625709,false,.str [97+w])]:=by rcases h with rfl|⟨y,rfl⟩ <;> rfl
  rw [e]
  refine ⟨ev_bin (x:=nI (97+w)) (y:=nI 97) (by kernel_rfl) (by kernel_rfl) (congrArg (fun i=>some (PV.int i)) ?_),_,rfl⟩
  rw [Nat.add_comm]
  exact Int.add_sub_cancel (w:Int) 97) W fun _ _=>trivial
 have hm:(W.map (97+·)).map (fun c=>PV.str [c])=W.map fun w=>.str [97+w]:=List.map_map
 exact ev_comp (n:=k+20) (it_s h1 (by rw [List.length_map];exact Nat.le_trans hl (by decide))) (by rw [cap_nil,hm];exact hc) (by rw [nums_len];exact Nat.le_trans hl (by decide))
theorem pickL_map {α β:Type} (f:α→β) (l:List α) (lo hi st:Option Int):pickL (l.map f) lo hi st=(pickL l lo hi st).map f:=by
 unfold pickL
 rw [List.length_map,List.map_filterMap]
 refine congrArg (List.filterMap · _) (funext fun i=>?_)
 rw [List.getElem?_map]
theorem pickL_len (l:List Int) (lo hi st:Option Int):(pickL l lo hi st).length≤l.length:=by
 have e:=slicePick_size_le (l.map fun _=>Value.none).toArray lo hi st
 simp only [slicePick,List.size_toArray,List.getElem?_toArray] at e
 have e:(pickL (l.map fun _=>Value.none) lo hi st).length≤(l.map fun _=>Value.none).length:=e
 rw [pickL_map,List.length_map,List.length_map] at e
 exact e
theorem sumV_ints:∀ (l:List Int) (a:Int),∃ s,sumV (l.map .int) a=some s
 | [],a=>⟨a,rfl⟩
 | x :: l,a=>sumV_ints l (a+x)
noncomputable def scN:Nat:=4050646790772
noncomputable def toN:Nat:=4015196567669
noncomputable def totE:PE:=.bin .mod (.bin .add (.bi .sum [(.slice (.var scN) (.var 108) (.lit (.int 30)) (.lit (.int 3)))]) (.idx (.list [(.lit (.int 12)),(.lit (.int 3283)),(.lit (.int 961))]) (.var 108))) (.lit (.int 3360))
noncomputable def totC:PE:=.comp totE [108] true (.bi .range [(.lit (.int 3))]) [] [scN]
theorem tot_at {n k:Nat} {is:List Int} (hl:is.length≤63) (hk:k<3):∃ t:Nat,(Sm (n+12)).ev [(scN,false,.list (is.map .int)),(108,false,nI k)] totE=some (nI t):=by
 obtain ⟨s,hs⟩:=sumV_ints (pickL is (some (k:Int)) (some 30) (some 3)) 0
 have hc:idxV (.list (nums [12,3283,961])) (nI k)=some (nI ([12,3283,961].getD k 0)):=idx_nums hk (by decide)
 have hp:=Int.toNat_of_nonneg (Int.fmod_nonneg_of_pos (s+([12,3283,961].getD k 0:Nat)) (show (0:Int)<3360 by decide))
 have l1:(is.map PV.int).length≤1000000:=by rw [List.length_map];exact Nat.le_trans hl (by decide)
 have l2:((pickL is (some (k:Int)) (some 30) (some 3)).map PV.int).length≤1000000:=by rw [List.length_map];exact Nat.le_trans (pickL_len _ _ _ _) (Nat.le_trans hl (by decide))
 refine ⟨((s+([12,3283,961].getD k 0:Nat)).fmod 3360).toNat,?_⟩
 refine ev_bin (x:=.int (s+([12,3283,961].getD k 0:Nat))) (y:=nI 3360) (ev_bin (x:=.int s) (y:=nI ([12,3283,961].getD k 0)) (ev_bi (evL_1 (ev_sl (x:=.list (is.map .int)) (y:=nI k) (z:=nI 30) (u:=nI 3) (by kernel_rfl) (by kernel_rfl) (by kernel_rfl) (by kernel_rfl) (ogT (lo_tr l1)))) ?_) (ev_ix (x:=.list (nums [12,3283,961])) (y:=nI k) (by kernel_rfl) (by kernel_rfl) hc) rfl) (by kernel_rfl) (congrArg (fun i=>some (PV.int i)) hp.symm)
 rw [pickL_map]
 exact obs (ogT (lo_tr l2)) (obs hs rfl)
theorem totals {n:Nat} {is:List Int} (hl:is.length≤63):∃ ts:List Nat,ts.length=3∧(Sm (n+13)).ev [(scN,false,.list (is.map .int))] totC=some (.list (nums ts)):=by
 have h:∀ k:Nat,∃ t:Nat,k<3→(Sm (n+12)).ev [(scN,false,.list (is.map .int)),(108,false,nI k)] totE=some (nI t):=fun k=>by
  by_cases hk:k<3
  ·obtain ⟨t,e⟩:=tot_at (n:=n) hl hk
   exact ⟨t,fun _=>e⟩
  ·exact ⟨0,fun q=>absurd q hk⟩
 have hc:=comp_all (r:=Sm (n+12)) (elt:=totE) (x:=108) (ρ₀:=[(scN,false,.list (is.map .int))]) (ok:=(·<3)) (g:=nI) (f:=fun k=>nI (Classical.choose (h k))) (fun k ρ hρ hk=>by
  have e:PEnv.set ρ 108 false (nI k)=[(scN,false,.list (is.map .int)),(108,false,nI k)]:=by rcases hρ with rfl|⟨y,rfl⟩ <;> rfl
  rw [e]
  exact ⟨Classical.choose_spec (h k) hk,_,rfl⟩) [0,1,2] (by decide)
 exact ⟨[0,1,2].map fun k=>Classical.choose (h k),rfl,ev_comp (n:=n+12) (ps:=nums [0,1,2]) (b:=false) (by kernel_rfl) hc (show 3≤1000000 by decide)⟩
end Mine
end
section
set_option maxRecDepth 100000
open PySem PySem.Calls PyProof.Rows PySem.W
set_option genSizeOf false
set_option genInjectivity false
namespace Mine
noncomputable abbrev PureLaw:Prop:=∀ is:List Int,is.length≤63→(sem (G02 sp02) 280).fn 1978733 [.list (is.map .int)]=some (.bool true)
theorem h1_tab1 (P:Params):(H1 P).get? 103=some (tabObj #[]):=by kernel_rfl
theorem h1_tab2 (P:Params):(H1 P).get? 110=some (tabObj #[]):=by kernel_rfl
theorem h1_sys (P:Params):((H1 P).get? 1).isSome=true:=by kernel_rfl
section
variable {w:World} {h₁:Heap} {mg mb:Str→Option Value}
theorem atCall {q:Program} {loose:List Str} {mean:ExcName→Option Value} (T:Top q loose mean mg mb h₁) (hK:∀ b o,(H1 w.params).get? b=some o→h₁.get? b=some o):AtCall LL h₁ mg mb where
 g:=T.g
 b:=T.b
 lim:=T.nolimit
 boot:=T.builtins
 bm:=T.bmain
 sys:=by
  obtain ⟨o,e⟩:=Option.isSome_iff_exists.mp (h1_sys w.params)
  exact ⟨o,hK _ _ e⟩
 t1:=hK _ _ (h1_tab1 _)
 t2:=hK _ _ (h1_tab2 _)
 nT:=fun a h=>by
  constructor
  ·intro q;rw [q] at h;exact absurd h (by decide)
  ·intro q;rw [q] at h;exact absurd h (by decide)
 t12:=by decide
theorem tab_was {h h':Heap} {P:Addr} {pos:Pos} {q:Str} (e:h.get? P=some (tabObj #[])) (c:isCodeTable h P) (t:TabOk h' P pos q):asItWas h h' P (tabObj #[]):=by
 rcases t with t|⟨c',oc,vs,tk,t,_⟩
 ·exact .inl t
 ·exact .inr (.inl ⟨c,rfl,#[],#[rawInt pos.line,rawInt pos.col,.ref c'],rfl,by rw [t];simp [tabObj]⟩)
theorem ints_of:∀ {xs:List WData},WShape.hasItems [] xs .int=true→∃ is:List Int,xs=is.map .int
 | [],_=>⟨[],rfl⟩
 | x :: xs,h=>by
  have h:(WShape.has [] x .int && WShape.hasItems [] xs .int)=true:=by simpa [WShape.hasItems] using h
  obtain ⟨h1,h2⟩:=Bool.and_eq_true_iff.mp h
  obtain ⟨i,rfl⟩:=hasW_int h1
  obtain ⟨is,rfl⟩:=ints_of h2
  exact ⟨i :: is,rfl⟩
theorem well_ints {cx:Cx} {h:Heap} {H:Hid} {P:Params}:∀ {is:List Int} {vs:List Value},WellAll P h vs (is.map .int)→RepAll cx h H vs (is.map .int)
 | [],_,w=>by cases w;exact .nil
 | i :: is,_,w=>by
  cases w with
  | cons a r =>
   cases a
   exact .cons (.int _ _) (well_ints r)
end
noncomputable def lawD:DefRec:=⟨"law",(partsOf (stAt 27)).1,fB 27,fS 27,(stAt 27).pos⟩
theorem law_def:defOf lawQ "law"=some (lawD,[]):=by kernel_rfl
theorem law_the:PP.theDef "law"=some (lawD.params,lawD.body,lawD.scope):=by kernel_rfl
theorem law_said:OpenLaw.wellSaid PySem.Challenge.rw_us0027_02=true:=by kernel_rfl
theorem law_holds (hP:PureLaw):PySem.Challenge.rw_us0027_02.Holds:=by
 w_on
 refine holds_law law_said fun said=>?_
 refine holds_open (q:=lawQ) (loose:=lawLoose) (Xt:=fun _=>true) (XP:=fun _ _=>True) (Yf:=fun s=>s.heap) (Ya:=fun w=>H1 w.params) (YP:=fun w h=>∀ b o,(H1 w.params).get? b=some o→h.get? b=some o) (N:=300000)
  (left_law _ _ fun w os=>rfl) (fun w s e b o q=>by rw [e];exact q) (fun w h h' x k b o q=>k b o (x b o q)) (fun _ _=>trivial) (fun _ _ _ _ _=>trivial) (d:=lawD) (kwd:=[]) law_def law_the (by kernel_rfl) (fun s _=>?_) (by rfl) (by assumption) (by decide +kernel) ⟨rfl,rfl,rfl,rfl,rfl,by decide +kernel⟩ ?hw ?_
 case hw=>w_witness2
 ·exact recFacts_of (by rfl)
 ·intro w s₀ s₁ mg mb G hK a o pm cd doc dV kV ho hd hcd hD hmg hg args vals as hpre hlay hrd hwl hlo
  have X:AtCall LL s₁.heap mg mb:=atCall G.T hK
  obtain ⟨p1,p2⟩:=pre_splitW hpre
  obtain ⟨d,rr,rfl,hd',hrr⟩:=hasAllW_cons p1
  obtain rfl:=hasAllW_nil hrr
  obtain ⟨xs,rfl,hx⟩:=hasW_list hd'
  obtain ⟨is,rfl⟩:=ints_of hx
  have hlen:is.length≤63:=by
   have p3:(WTm.and (.not (.lt (.lit (.int 63)) (.len (.arg 0)))) (.lit (.bool true))).holds [] { args:=[.list (is.map .int)] }=true:=p2
   have q:WTm.value [] (.lt (.lit (.int 63)) (.len (.arg 0))) { args:=[.list (is.map .int)] }=some (.bool (decide ((63:Int)<is.length))):=by
    simp only [WTm.value,List.getElem?_cons_zero,less?,List.length_map]
    rfl
   unfold WTm.holds at p3
   simp only [WTm.value] at p3 q
   rw [q] at p3
   by_cases z:(63:Int)<is.length
   ·rw [decide_eq_true z] at p3
    cases p3
   ·omega
  obtain ⟨v,vs',as1,as2,rfl,rfl,r1,r2⟩:=readsAllW_cons_inv hrd
  obtain ⟨b,ws,as',rfl,_,_,rfl⟩:=readsW_list_inv r1
  have hb:(b == sysModules)=false:=hlo b (by simp)
  cases hwl with
  | cons w1 w2 =>
  cases w2
  cases w1 with
  | list eb wl =>
  rename_i vs
  have g0:=gi_start (L:=LL) (w:=w) (X:=X)
  obtain ⟨f,hf,hc⟩:=law_call (X:=X) hK (hP is hlen)
  obtain rfl:f=.ref a:=Option.some.inj (hf.symm.trans hmg)
  have nB:¬ (cxOf LL w s₁.heap mg mb X).B b:=fun q=>by
   rcases q with q|q|q
   ·rw [q] at hb;exact absurd hb (by decide)
   ·exact tab_ne eb X.t1 (by intro z;cases z) q
   ·exact tab_ne eb X.t2 (by intro z;cases z) q
  refine hc (A:=callerA) (H:=(cxOf LL w s₁.heap mg mb X).B) (vs:=[.ref b]) ⟨rfl,by decide +kernel,by decide +kernel⟩ ⟨g0,fun a q=>(cxOf LL w s₁.heap mg mb X).ga_live _ _ g0 ((cxOf LL w s₁.heap mg mb X).bGA a q),fun a q=>q,fun a q _=>q⟩ (.cons (.list nB ⟨0,eb⟩ (well_ints wl)) .nil) fun v h' tk e r _=>?_
  obtain rfl:=r.bool'
  have t1:isCodeTable s₁.heap 103:=by
   obtain ⟨o,vs,_,_,_,_,_,_,_,e1,e2,e3,e4,_⟩:=(tab1 (X:=X) hK).code _ g0
   exact ⟨107,o,vs,e1,e2,e3,e4⟩
  have t2:isCodeTable s₁.heap 110:=by
   obtain ⟨o,vs,_,_,_,_,_,_,_,e1,e2,e3,e4,_⟩:=(tab2 (X:=X) hK).code _ g0
   exact ⟨114,o,vs,e1,e2,e3,e4⟩
  refine ⟨.inl ⟨.bool true,.bool true,[],rfl,fun cls=>rfl,.bool true,by kernel_rfl,fun _=>⟨List.nodup_nil,fun a q=>by cases q⟩⟩,⟨fun b o q=>?_,fun b o q=>e.live b ⟨o,q⟩⟩,rfl,.of_eq hg⟩
  by_cases z1:b=103
  ·subst z1
   rw [show s₁.heap.get? 103=some (tabObj #[]) from X.t1] at q
   cases q
   exact tab_was X.t1 t1 (e.gi g0).2.1
  ·by_cases z2:b=110
   ·subst z2
    rw [show s₁.heap.get? 110=some (tabObj #[]) from X.t2] at q
    cases q
    exact tab_was X.t2 t2 (e.gi g0).2.2
   ·exact .inl (e.keep b o (fun t=>t.elim z1 z2) q)
end Mine
end
section
set_option maxRecDepth 100000
open PySem
set_option genSizeOf false
set_option genInjectivity false
namespace Mine
theorem ne_self (x:List Nat):cmpV .ne (.str x) (.str x)=some false:=by
 show some (!(beqL x x))=_
 rw [show beqL x x=true from decide_eq_true rfl]
 rfl
theorem pure_law:PureLaw:=by
 intro is hl
 obtain ⟨ts,h3,et⟩:=totals (n:=265) hl
 obtain ⟨⟨L,m⟩,⟨⟨hl6,hG⟩,W,⟨hW,hm⟩,⟨hm3,hm4⟩,hw⟩,ex⟩:=tx_spec (k:=237) h3
 have hs4:(sndF L).length≤4:=by rw [show sndF L=W.map (97+·) from hW,List.length_map,hm];exact hm4
 have hW4:W.length≤4:=hm ▸ hm4
 obtain ⟨a,b,R,rfl,hWd⟩:∃ a b R,W=a :: b :: R∧Word a b R:=by
  match W,hm with
  | a :: b :: R,hm =>
   refine ⟨a,b,R,rfl,hw,?_⟩
   rw [hm]
   exact (Nat.lt_or_eq_of_le hm4).imp (fun q=>Nat.le_antisymm (Nat.le_of_lt_succ q) hm3) id
  | [a],hm=>exact absurd (show 3≤1 from Nat.le_trans hm3 (Nat.le_of_eq hm.symm)) (by decide)
  | [],hm=>exact absurd (show 3≤0 from Nat.le_trans hm3 (Nat.le_of_eq hm.symm)) (by decide)
 have hN:L ≠ []:=fun e=>by
  have hW:sndF L=(a :: b :: R).map (97+·):=hW
  rw [e] at hW
  exact nomatch hW
 obtain ⟨ρ',hf,t,ht,rfl⟩:=for_inv (k:=277) (I:=ckI (.list (is.map .int)) (.list (nums ts)) (.list (L.map tup2)) L.length) (ck_step (k:=248)) L () (envS (.list (is.map .int)) (.list (nums ts)) (.list (L.map tup2)) []) ⟨[],.inl ⟨rfl,rfl⟩,rfl⟩ hG
 obtain ⟨x,y,rfl⟩:∃ x y,t=env2 x y:=ht.elim (fun q=>absurd (List.length_eq_zero_iff.mp q.1.symm) hN) id
 have hlen:(L.map tup2).length≤1000000:=by rw [List.length_map];exact Nat.le_trans hl6 (by decide)
 have hW:sndF L=(a :: b :: R).map (97+·):=hW
 have j1:=jn_at (k:=256) (ρ:=PEnv.only [txN] (envS (.list (is.map .int)) (.list (nums ts)) (.list (L.map tup2)) (env2 x y))) (e:=.call b3F [(.var sgN)]) (ifs:=[(.cmp .ne (.var ltN) (.lit (.str [])))]) (L:=L) (c:=fun p=>!p.2.isEmpty) hl6 hs4 (by kernel_rfl) (fun p hp=>⟨all_1 (ts_cmp (n:=275) (x:=.str p.2) (y:=.str []) (by kernel_rfl) (by kernel_rfl) (ne_nil _)),fun h=>ev_call (n:=275) (vs:=[.str p.1]) (by kernel_rfl) ((hG p hp 255).2 ((Bool.not_eq_true' _).mp h))⟩) (sndF_filter L)
 rw [hW] at j1
 have j2:=jn_at (k:=255) (ρ:=envS (.list (is.map .int)) (.list (nums ts)) (.list (L.map tup2)) (env2 x y++[(ppN,false,.str ((a :: b :: R).map (97+·)))])) (e:=.var ltN) (ifs:=[]) (L:=L) (c:=fun _=>true) hl6 hs4 (by kernel_rfl) (fun p hp=>⟨rfl,fun _=>by kernel_rfl⟩) (by rw [List.filter_eq_self.mpr fun _ _=>rfl])
 rw [hW] at j2
 obtain ⟨ρ₂,eb⟩:=part_b hWd (fun i=>([.list (is.map .int),.list (nums ts),.list (L.map tup2),x,y,.str ((a :: b :: R).map (97+·))]:List PV).getD i .none) (ts:=ts) rfl (h3 ▸ by decide)
 have hfor:exS (Sm 278) (envS (.list (is.map .int)) (.list (nums ts)) (.list (L.map tup2)) []) (.for_ [sgN,ltN] false (.tv (.var txN)) [txN] ckB [])=some (envS (.list (is.map .int)) (.list (nums ts)) (.list (L.map tup2)) (env2 x y),.next):=s_for (b:=true) (ps:=L.map tup2) (it_tv (n:=278) (by kernel_rfl) hlen) hf
 have hif:exS (Sm 278) (envS (.list (is.map .int)) (.list (nums ts)) (.list (L.map tup2)) (env2 x y++[(ppN,false,.str ((a :: b :: R).map (97+·)))])) (.if_ (.cmp .ne (.var ppN) (jnE (.var ltN) [])) [.ret (.lit (.bool false)) []] [])=some (envS (.list (is.map .int)) (.list (nums ts)) (.list (L.map tup2)) (env2 x y++[(ppN,false,.str ((a :: b :: R).map (97+·)))]),.next):=s_f (ts_cmp (n:=277) (x:=.str ((a :: b :: R).map (97+·))) (y:=.str ((a :: b :: R).map (97+·))) (by kernel_rfl) j2 (ne_self _)) (by kernel_rfl)
 rw [fn_pl (n:=279) (fp:=F_law) (by kernel_rfl) (by kernel_rfl)]
 apply run_r (n:=278) (ρ:=[(scN,false,.list (is.map .int))]) (ρ':=ρ₂) (by rfl)
 refine exL_app (l₁:=F_law.body.take 6) (l:=F_law.body.drop 6) ?_ eb
 refine exL_n (ρ':=[(scN,false,.list (is.map .int)),(toN,false,.list (nums ts))]) (s_as (r:=Sm 278) (v:=.list (nums ts)) et) ?_
 refine exL_n (ρ':=envS (.list (is.map .int)) (.list (nums ts)) (.list (L.map tup2)) []) ((s_as (v:=.list (L.map tup2)) (ev_call (n:=277) (vs:=[.list (nums ts)]) (by kernel_rfl) ex)).trans (by kernel_rfl)) ?_
 refine exL_n hfor ?_
 refine exL_n (ρ':=envS (.list (is.map .int)) (.list (nums ts)) (.list (L.map tup2)) (env2 x y++[(ppN,false,.str ((a :: b :: R).map (97+·)))])) ((s_as j1).trans (by kernel_rfl)) ?_
 refine exL_n hif ?_
 exact exL_1 ((s_as (wo_at (k:=257) (W:=a :: b :: R) hW4 (by kernel_rfl))).trans (by kernel_rfl))
end Mine
end
theorem PySem.Challenge.cw_us0027_02_holds : PySem.Challenge.rw_us0027_02.Holds :=
 Mine.law_holds Mine.pure_law
