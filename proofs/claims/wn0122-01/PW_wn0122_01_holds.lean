import PyProof.Rows.All
import Wide.All
import OpenK.AllK
import Wide.FinOn
import KE.KSortTup
import KE.KTabLook
import PySem.Challenge.RW_wn0122_01
set_option Elab.async false
set_option linter.all false
set_option tactic.hygienic false
set_option bootstrap.genMatcherCode false
set_option genInjectivity false
set_option genSizeOf false
set_option compiler.extract_closed false
set_option maxRecDepth 100000
set_option autoImplicit true
set_option relaxedAutoImplicit true
noncomputable section
open PySem PySem.W PyProof.Rows PySem.Calls
namespace Mine
section
def Qa:=@Nat.le_of_ble_eq_true
def Qb:=@Nat.zero_le
def Qc:=@Heap.get?_push_of_some
def Qd:=@Nat.ble_eq_true_of_le
def Qe{c:Type u}{a b:c}{l:List c}(h:a∈b::l):=List.mem_cons.mp h
def Qf{c:Type u}{a b:c}(h:a∈[b]):=List.mem_singleton.mp h
def Qg:=@wpAny_bind
def Qh:=@wpAny_pure
def Qi:=@Nat.le_trans
def Qj:=@List.not_mem_nil
def Qk:=@Heap.get?_push_size
def Ql:=@Nat.beq_refl
def Qm:=@Nat.le_refl
def Qn:=@Nat.succ_pos
def Qo{b:Type u}{a:b}{s t:List b}(h:a∈s++t):=List.mem_append.mp h
def Qp:=@Nat.lt_of_lt_of_le
def Qq:=@Nat.lt_of_le_of_lt
def Qr:=@Nat.lt_irrefl
def Qs:=@Nat.succ_le_succ
def Qt:=@Nat.le_succ
def Qu{a:Type u}{x:a}{l:List a}{n:Nat}(h:l[n]? =some x):=List.getElem?_eq_some_iff.mp h
def Qv:=@wpAny_mono
def Qw:=@Heap.lt_size
def Qx:=@Nat.lt_succ_of_le
def Qy:=@Nat.le_succ_of_le
def Qz:=@Nat.sub_add_cancel
def Wa:=@Nat.le_of_lt_succ
def Wb:=@Heap.SameBut.update
def Wc{a b:Bool}(h:(a&&b)=true):=Bool.and_eq_true_iff.mp h
def We{b:Type u}{a:b}{l:List b}(h:a∉l/\l.Nodup):=List.nodup_cons.mpr h
def Wf:=@Nat.le_of_lt
abbrev LN:=List Nat

inductive Bi where
 |len|range|max|min|sum|sorted|hex|divmod|abs|tuple|type|list|str|enumerate

inductive V where
 |none
 |bool (b:Bool)
 |int (i:Int)
 |str (s:LN)
 |tup (xs:List V)
 |ref (n:Nat)
 |top (a:Nat)
 |bi (b:Bi)
 |rng (a b c:Int)

inductive O where
 |list (xs:List V)
 |inst (c:Nat) (d:List (Nat×V))
 |dict (es:List (List Nat×V))

inductive RV where
 |v (x:V)
 |l (xs:List V)
 |g (xs:List V)

inductive FE where
 |none (p:Nat)
 |tru (p:Nat)
 |fls (p:Nat)
 |int (i:Nat) (p:Nat)
 |str (s:String) (l:LN) (p:Nat)
 |var (x:Nat) (p:Nat)
 |glo (x:Nat) (p:Nat)
 |dbg (p:Nat)
 |bin (o:Operator) (a b:FE) (p:Nat)
 |neg (a:Nat) (q p:Nat)
 |not (a:FE) (p:Nat)
 |and (es:List FE) (p:Nat)
 |or (es:List FE) (p:Nat)
 |cmp (o:CmpOp) (a b:FE) (p:Nat)
 |ife (t a b:FE) (p:Nat)
 |list (es:List FE) (p:Nat)
 |tup (es:List FE) (p:Nat)
 |sub (a i:FE) (p:Nat)
 |sli (a:FE) (lo hi st:Option FE) (q p:Nat)
 |att (a:FE) (x:Nat) (p:Nat)
 |call (f:FE) (as:List FE) (kn:LN) (ks:List FE) (kp:LN) (p:Nat)
 |mcall (o:FE) (x:Nat) (as:List FE) (kn:LN) (ks:List FE) (kp:LN) (ap p:Nat)
 |fmt (e:FE) (c p:Nat)
 |jst (es:List FE) (p:Nat)
 |comp (e:FE) (ts:LN) (tps:LN) (tp:Nat) (it:FE) (ifs:List FE) (sc:List (Nat×Nat)) (p:Nat)
 |repl (o:FE) (s:String) (l:LN) (q:Nat) (s':String) (l':LN) (q' ap p:Nat)

inductive Tg where
 |name (x:Nat) (p:Nat)
 |tup (xs:LN) (ps:LN) (p:Nat)
 |att (o:FE) (x:Nat) (p:Nat)
 |sub (o i:FE) (p:Nat)
 |all (o:FE) (q p:Nat)

inductive FS where
 |asg (ts:List Tg) (e:FE) (p:Nat)
 |ex (e:FE) (p:Nat)
 |aug (x:Nat) (q:Nat) (o:Operator) (e:FE) (p:Nat)
 |ife (t:FE) (a b:List FS) (p:Nat)
 |whl (t:FE) (b:List FS) (p:Nat)
 |for_ (t:Tg) (it:FE) (b o:List FS) (p:Nat)
 |ret (e:FE) (p:Nat)
 |ret0 (p:Nat)
 |brk (p:Nat)
 |pass (p:Nat)
 |del (o i:FE) (q p:Nat)
 |dead (s:Stmt)

inductive Fl where
 |next|brk|cont
 |ret (r:RV)

noncomputable abbrev L:=List (Nat×V)
noncomputable abbrev Hp:=List O

structure Cx where
 glo:List (Nat×V)
 meth:List (Nat×List (Nat×Nat))
 cattr:List (Nat×List (Nat×V))
 pat:List (Nat×(Nat->Bool))
 dct:List (Nat×List (Int×LN))
 S:Nat->List RV->List (Nat×RV)->Hp->Option (RV×Hp)
 nSet:Nat
 nDel:Nat
 frz:List (Nat×List Int):=[]


noncomputable def look{a:Type}(l:List (Nat×a))(x:Nat):Option a:=List.rec (motive:=λU=>Option a) none (λp U d=>Bool.rec (motive:=λU=>Option a) d (some p.2) (Nat.beq p.1 x)) l
noncomputable def put{a:Type}(l:List (Nat×a))(x:Nat)(v:a):List (Nat×a):=List.rec (motive:=λU=>List (Nat×a)) [(x,v)] (λp r d=>Bool.rec (motive:=λU=>List (Nat×a)) (p::d) ((x,v)::r) (Nat.beq p.1 x)) l
noncomputable def nth{a:Type}(l:List a):Nat->Option a:=List.rec (motive:=λU=>Nat->Option a) (λU=>none) (λx U d n=>Nat.rec (motive:=λU=>Option a) (some x) (λk U=>d k) n) l
noncomputable def upd{a:Type}(l:List a):Nat->a->List a:=List.rec (motive:=λU=>Nat->a->List a) (λU U=>[]) (λx r d n v=>Nat.rec (motive:=λU=>List a) (v::r) (λk U=>x::d k v) n) l
noncomputable def leq(l:LN):LN->Bool:=List.rec (motive:=λU=>LN->Bool) (λt=>List.rec (motive:=λU=>Bool) true (λU U U=>false) t) (λa U d t=>List.rec (motive:=λU=>Bool) false (λb r U=>Bool.rec (motive:=λU=>Bool) false (d r) (Nat.beq a b)) t) l
noncomputable def len{a:Type}(l:List a):Nat:=List.rec (motive:=λU=>Nat) 0 (λU U d=>d+1) l

noncomputable def bd{b a:Type}(o:Option b)(f:b->Option a):Option a:=Option.rec (motive:=λU=>Option a) none f o
noncomputable def ifb{a:Type}(b:Bool)(o:Option a):Option a:=Bool.rec (motive:=λU=>Option a) none o b
noncomputable def orl{c:Type}(a b:Option c):Option c:=Option.rec (motive:=λU=>Option c) b some a
noncomputable def cs{a:Type}(b:Bool)(x y:a):a:=Bool.rec (motive:=λU=>a) y x b
noncomputable def byO{b a:Type}(o:Option b)(f:b->a)(g:a):a:=Option.rec (motive:=λU=>a) g f o
theorem nn{b:Type}{a:b}{G:Prop}(h:none=some a):G:=nomatch h
theorem ff{G:Prop}(h:false=true):G:=nomatch h
theorem prf{c:Type}{a b:c}(h:some a=some b):a=b:=Option.some.inj h
theorem ybw{c b:Type}{o:Option c}{f:c->Option b}{r:b}(h:bd o f=some r):∃a,o=some a/\f a=some r:=by
 cases o with
 |some a=>exact⟨a,rfl,h⟩
 |none=>exact nn h
theorem aS{a:Type}{b:Bool}{o:Option a}{r:a}(h:ifb b o=some r):b=true/\o=some r:=by
 cases b with
 |true=>exact⟨rfl,h⟩
 |false=>exact nn h
theorem aB{c b:Type}{o:Option c}{f:c->Option b}{r:b}{G:Prop}(h:bd o f=some r)(k:∀a,o=some a->f a=some r->G):G:=(ybw h).elim λa h=>k a h.1 h.2
theorem aJ{a:Type}{b:Bool}{o:Option a}{r:a}{G:Prop}(h:ifb b o=some r)(k:b=true->o=some r->G):G:=(aS h).elim k
theorem dQ{c:Type}{a b:Option c}{r:c}(h:orl a b=some r):a=some r∨b=some r:=by
 cases a with
 |some a=>exact .inl h
 |none=>exact .inr h
noncomputable def rV(r:RV):Option V:=match r with| .v x=>some x| .l _=>none| .g _=>none
noncomputable def vI(v:V):Option Int:=match v with| .int i=>some i|_=>none
noncomputable def vS(v:V):Option LN:=match v with| .str i=>some i|_=>none
noncomputable def vR(v:V):Option Nat:=match v with| .ref i=>some i|_=>none
noncomputable def vT(v:V):Option (List V):=match v with| .tup i=>some i|_=>none
noncomputable def yc7(v:V):Option Nat:=match v with| .top i=>some i|_=>none
noncomputable def vB(v:V):Option Bool:=match v with| .bool i=>some i|_=>none
noncomputable def vBi(v:V):Option Bi:=match v with| .bi i=>some i|_=>none
noncomputable def vN(v:V):Bool:=match v with| .none=>true|_=>false
noncomputable def oL(o:O):Option (List V):=match o with| .list T=>some T| .inst _ _=>none| .dict _=>none
noncomputable def oI(o:O):Option (Nat×List (Nat×V)):=match o with| .inst c d=>some (c,d)| .list _=>none| .dict _=>none
noncomputable def rL(r:RV):Option (List V):=match r with| .l T=>some T| .v _=>none| .g _=>none
noncomputable def iN(i:Int):Option Nat:=match i with| .ofNat n=>some n| .negSucc _=>none
noncomputable def eI(e:FE):Option Nat:=match e with| .int i _=>some i|_=>none
noncomputable def unc{a:Type}(l:List a):Option (a×List a):=match l with|x::r=>some (x,r)|[]=>none
noncomputable def emp{a:Type}(l:List a):Bool:=match l with|[]=>true|_::_=>false
noncomputable def jR{a:Type}(o:Option a):Bool:=match o with|none=>true|some _=>false
def a1{a:Type}(l:List a):Option a:=bd (unc l) λp=>ifb (emp p.2) (some p.1)
def a2{a:Type}(l:List a):Option (a×a):=bd (unc l) λp=>bd (a1 p.2) λy=>some (p.1,y)
def a3{a:Type}(l:List a):Option (a×a×a):=bd (unc l) λp=>bd (a2 p.2) λy=>some (p.1,y)
def rI(r:RV):Option Int:=bd (rV r) vI
def rS(r:RV):Option LN:=bd (rV r) vS
def rR(r:RV):Option Nat:=bd (rV r) vR
def yeq(r:RV):Option Nat:=bd (rV r) yc7
def rN(r:RV):Bool:=byO (rV r) vN false
theorem zg2{r:RV}{x:V}(h:rV r=some x):r= .v x:=by cases r<;>first|exact nn h|exact congrArg _ (prf h)
theorem yjm{r:RV}{x:List V}(h:rL r=some x):r= .l x:=by cases r<;>first|exact nn h|exact congrArg _ (prf h)
theorem zT{r:V}{x:Int}(h:vI r=some x):r= .int x:=by cases r<;>first|exact nn h|exact congrArg _ (prf h)
theorem zir{r:V}{x:LN}(h:vS r=some x):r= .str x:=by cases r<;>first|exact nn h|exact congrArg _ (prf h)
theorem zpu{r:V}{x:Nat}(h:vR r=some x):r= .ref x:=by cases r<;>first|exact nn h|exact congrArg _ (prf h)
theorem zck{r:V}{x:List V}(h:vT r=some x):r= .tup x:=by cases r<;>first|exact nn h|exact congrArg _ (prf h)
theorem zwz{r:V}{x:Nat}(h:yc7 r=some x):r= .top x:=by cases r<;>first|exact nn h|exact congrArg _ (prf h)
theorem yil{r:V}{x:Bool}(h:vB r=some x):r= .bool x:=by cases r<;>first|exact nn h|exact congrArg _ (prf h)
theorem yc8{r:V}{x:Bi}(h:vBi r=some x):r= .bi x:=by cases r<;>first|exact nn h|exact congrArg _ (prf h)
theorem zw3{r:V}(h:vN r=true):r= .none:=by cases r<;>first|exact ff h|rfl
theorem zyu{r:O}{x:List V}(h:oL r=some x):r= .list x:=by cases r<;>first|exact nn h|exact congrArg _ (prf h)
theorem ye9{r:O}{x:Nat×List (Nat×V)}(h:oI r=some x):r= .inst x.1 x.2:=by cases r<;>first|exact nn h|exact prf h▸rfl
theorem zhh{r:Int}{x:Nat}(h:iN r=some x):r= .ofNat x:=by cases r<;>first|exact nn h|exact congrArg _ (prf h)
theorem yla{r:FE}{x:Nat}(h:eI r=some x):∃p,r= .int x p:=by cases r<;>first|exact nn h|exact⟨_,congrArg (λi=>FE.int i _) (prf h)⟩
theorem pS{a:Type}{l:List a}{x:a×List a}(h:unc l=some x):l=x.1::x.2:=by cases l<;>first|exact nn h|exact prf h▸rfl
theorem kY{a:Type}{l:List a}(h:emp l=true):l=[]:=by cases l with|nil=>rfl|cons _ _=>exact ff h
theorem nL{a:Type}{l:Option a}(h:jR l=true):l=none:=by cases l with|none=>rfl|some _=>exact ff h
theorem vF{a:Type}{l:List a}{x:a}(h:a1 l=some x):l=[x]:=by refine aB h λp M h=>?_;refine aJ h λB h=>?_;rw[pS M,kY B,prf h]
theorem zca{a:Type}{l:List a}{x:a×a}(h:a2 l=some x):l=[x.1,x.2]:=by refine aB h λp M h=>?_;refine aB h λy B h=>?_;rw[pS M,vF B,←prf h]
theorem yca{a:Type}{l:List a}{x:a×a×a}(h:a3 l=some x):l=[x.1,x.2.1,x.2.2]:=by refine aB h λp M h=>?_;refine aB h λy B h=>?_;rw[pS M,zca B,←prf h]
theorem r_t{a:Type}{f:V->Option a}{r:RV}{x:a}(h:bd (rV r) f=some x):∃v,r= .v v/\f v=some x:=by refine aB h λv M B=>?_;exact⟨v,zg2 M,B⟩
theorem zyg{r:RV}{x:Int}(h:rI r=some x):r= .v (.int x):=by obtain⟨v,rfl,h⟩:=r_t h;exact congrArg _ (zT h)
theorem sQ{r:RV}{x:LN}(h:rS r=some x):r= .v (.str x):=by obtain⟨v,rfl,h⟩:=r_t h;exact congrArg _ (zir h)
theorem zc7{r:RV}{x:Nat}(h:rR r=some x):r= .v (.ref x):=by obtain⟨v,rfl,h⟩:=r_t h;exact congrArg _ (zpu h)
theorem zye{r:RV}{x:Nat}(h:yeq r=some x):r= .v (.top x):=by obtain⟨v,rfl,h⟩:=r_t h;exact congrArg _ (zwz h)
theorem zyf(h:rN r=true):r= .v .none:=by cases r with|v x=>exact congrArg _ (zw3 h)|_=>exact ff h

noncomputable def iZ(r:RV)(J:Hp):Option (V×Hp):=match r with
 | .v x=>some (x,J)
 | .l T=>some (.ref (len J),J++[.list T])
 | .g _=>none
def dT(l:List RV):Hp->Option (List V×Hp):=List.rec (motive:=λU=>Hp->Option (List V×Hp)) (λJ=>some ([],J)) (λr U d J=>bd (iZ r J) λx=>bd (d x.2) λy=>some (x.1::y.1,y.2)) l
def dH(n:Nat)(J:Hp):Option (List V):=bd (nth J n) oL
def nO(n:Nat)(J:Hp):Option (Nat×List (Nat×V)):=bd (nth J n) oI
def zwd(x:V)(J:Hp):Option (List V):=bd (vR x) λn=>dH n J
def cont(r:RV)(J:Hp):Option (List V):=match r with
 | .l T=>some T
 | .v x=>zwd x J
 | .g _=>none
def gL(r:RV)(J:Hp):Option (List V):=match r with
 | .l T=>some T
 | .v x=>orl (vT x) (zwd x J)
 | .g _=>none
def eS(l:List V):Option (List Int):=List.rec (motive:=λU=>Option (List Int)) (some []) (λx U d=>bd (vI x) λi=>bd d λl=>some (i::l)) l
def iP(l:List V):Option (List LN):=List.rec (motive:=λU=>Option (List LN)) (some []) (λx U d=>bd (vS x) λi=>bd d λl=>some (i::l)) l
noncomputable def bH(b:Bool):Bool:=match b with|true=>false|false=>true
noncomputable def LIM:Nat:=65536
def aM(n:Nat):Bool:=Nat.ble n LIM
noncomputable def small(i:Int):Bool:=Nat.blt i.natAbs 4611686018427387904

noncomputable def pla:V->Bool
 | .none=>true
 | .bool _=>true
 | .int _=>true
 | .str _=>true
 |_=>false
def mM(l:List V):Bool:=List.rec (motive:=λU=>Bool) true (λx U d=>cs (pla x) d false) l
def pl:V->Bool
 | .tup T=>mM T
 |x=>pla x
def pls(l:List V):Bool:=List.rec (motive:=λU=>Bool) true (λx U d=>cs (pl x) d false) l
def zh1(a b:Bool):Bool:=match a with|true=>b|false=>bH b
def aE(x y:V):Bool:=match x with
 | .none=>vN y
 | .bool a=>byO (vB y) (zh1 a) (byO (vI y) (Z.eqB (cs a 1 0)) false)
 | .int a=>byO (vI y) (Z.eqB a) (byO (vB y) (λb=>Z.eqB a (cs b 1 0)) false)
 | .str a=>byO (vS y) (leq a) false
 |_=>false
def aEs(l:List V):List V->Bool:=List.rec (motive:=λU=>List V->Bool) emp (λa U d b=>byO (unc b) (λp=>cs (aE a p.1) (d p.2) false) false) l
def vE(x y:V):Bool:=match x with
 | .tup a=>byO (vT y) (aEs a) false
 |x=>aE x y
def vEs(l:List V):List V->Bool:=List.rec (motive:=λU=>List V->Bool) emp (λa U d b=>byO (unc b) (λp=>cs (vE a p.1) (d p.2) false) false) l
def vin(x:V)(l:List V):Bool:=List.rec (motive:=λU=>Bool) false (λy U d=>cs (vE y x) true d) l
noncomputable def pA(c:Nat)(l:LN):Bool:=List.rec (motive:=λU=>Bool) false (λx U d=>cs (Nat.beq x c) true d) l
noncomputable def qO(c:Nat):Nat:=cs (Nat.ble 65 c) (cs (Nat.ble c 90) (c+32) c) c
noncomputable def zgh(c:Nat):Nat:=cs (Nat.ble 97 c) (cs (Nat.ble c 122) (c-32) c) c
noncomputable def aT(a:LN):List LN->LN
 |[]=>[]
 |[x]=>x
 |x::r=>x++a++aT a r
noncomputable def cU(c:Nat)(t l:LN):LN:=List.rec (motive:=λU=>LN) [] (λx U d=>cs (Nat.beq x c) (t++d) (x::d)) l
noncomputable def repN{a:Type}(T:List a)(n:Nat):List a:=Nat.rec (motive:=λU=>List a) [] (λU d=>T++d) n
noncomputable def bG(a b:Nat):LN->LN->List LN
 |e,[]=>[e]
 |e,[c]=>[e++[c]]
 |e,c::d::r=>match Nat.beq c a with
  |true=>(match Nat.beq d b with|true=>e::bG a b [] r|false=>bG a b (e++[c]) (d::r))
  |false=>bG a b (e++[c]) (d::r)
noncomputable def zbl(n:Nat):Nat:=cs (Nat.blt n 10) (n+48) (n+87)
def lY(k:Nat):Nat->LN->LN:=Nat.rec (motive:=λU=>Nat->LN->LN) (λU a=>a) (λU d n a=>cs (Nat.beq n 0) a (d (n/16) (zbl (n%16)::a))) k
noncomputable def zbk(n:Nat):LN:=cs (Nat.beq n 0) [48,120,48] (48::120::lY 64 n [])

noncomputable def idx(i:Int)(n:Nat):Option Nat:=match i with
 | .ofNat k=>ifb (Nat.blt k n) (some k)
 | .negSucc k=>ifb (Nat.blt k n) (some (n-(k+1)))
noncomputable def bnd(i:Int)(n:Nat):Nat:=match i with
 | .ofNat k=>cs (Nat.ble k n) k n
 | .negSucc k=>n-(k+1)
noncomputable def cut{a:Type}(T:List a)(b c:Nat):List a:=(T.drop b).take (c-b)
def jY(r:Option RV)(n:Nat):Option Nat:=byO r (λr=>bd (rI r) λi=>ifb (small i) (some (bnd i n))) (some 0)
def lC(r:Option RV)(n:Nat):Option Nat:=byO r (λr=>bd (rI r) λi=>ifb (small i) (some (bnd i n))) (some n)
def hZ(r:RV)(c e:Option RV)(J:Hp):Option RV:=
 orl (bd (rS r) λs=>bd (jY c (len s)) λa=>bd (lC e (len s)) λb=>some (.v (.str (cut s a b))))
  (bd (cont r J) λT=>bd (jY c (len T)) λa=>bd (lC e (len T)) λb=>some (.l (cut T a b)))
def nB(r:RV)(i:RV)(J:Hp):Option RV:=bd (rI i) λk=>
 orl (bd (rS r) λs=>bd (idx k (len s)) λj=>bd (nth s j) λc=>some (.v (.str [c])))
  (bd (gL r J) λT=>bd (idx k (len T)) λj=>bd (nth T j) λv=>some (.v v))

def yer(a b:Int):Option Int:=bd (iN a) λm=>bd (iN b) λn=>ifb (Nat.beq m 2) (ifb (Nat.blt n 64) (some (.ofNat (Nat.pow 2 n))))
def yfg(a b:Int):Option Int:=bd (iN a) λm=>bd (iN b) λn=>ifb (Nat.blt m 18446744073709551616) (ifb (Nat.blt n 64) (some (.ofNat (m*Nat.pow 2 n))))
def zb5(o:Operator)(a b:Int):Option Int:=match o with
 | .Add=>some (a+b)
 | .Sub=>some (a-b)
 | .Mult=>ifb (small a) (ifb (small b) (some (a*b)))
 | .FloorDiv=>ifb (bH (Z.eqB b 0)) (ifb (small b) (some (Int.fdiv a b)))
 | .Mod=>ifb (bH (Z.eqB b 0)) (ifb (small b) (some (Int.fmod a b)))
 | .Pow=>yer a b
 | .LShift=>yfg a b
 | .BitAnd=>some (Builtin.bitAnd a b)
 | .BitXor=>some (Builtin.bitXor a b)
 |_=>none
noncomputable def xM(i:Int):Option Nat:=match i with
 | .ofNat n=>ifb (aM n) (some n)
 | .negSucc k=>ifb (aM k) (some 0)
noncomputable def opk{a:Type}(o:Operator)(x y:Option a):Option a:=match o with| .Add=>x| .Mult=>y|_=>none
theorem ye2{a:Type}{o:Operator}{x y:Option a}{r:a}(h:opk o x y=some r):(o= .Add/\x=some r)∨(o= .Mult/\y=some r):=by cases o<;>first|exact nn h|exact .inl ⟨rfl,h⟩|exact .inr ⟨rfl,h⟩
def yb8(a b:RV)(J:Hp):Option RV:=
 orl (bd (rS a) λx=>bd (rS b) λy=>ifb (aM (len x+len y)) (some (.v (.str (x++y)))))
  (bd (cont a J) λT=>bd (cont b J) λc=>ifb (aM (len T+len c)) (some (.l (T++c))))
def zy4(a b:RV)(J:Hp):Option RV:=bd (rI b) λn=>bd (xM n) λk=>
 orl (bd (rS a) λx=>ifb (aM (len x*k)) (some (.v (.str (repN x k)))))
  (bd (cont a J) λT=>ifb (aM (len T*k)) (some (.l (repN T k))))
def qG(o:Operator)(a b:RV)(J:Hp):Option RV:=
 orl (bd (rI a) λx=>bd (rI b) λy=>bd (zb5 o x y) λz=>some (.v (.int z))) (opk o (yb8 a b J) (zy4 a b J))

noncomputable def isN(x:V):Option Bool:=match x with
 | .none=>some true
 | .str _=>some false
 | .int _=>some false
 | .ref _=>some false
 | .bool _=>some false
 |_=>none
def isB(x:V)(y:Bool):Option Bool:=orl (bd (vB x) λb=>some (zh1 b y)) (ifb (vN x) (some false))
noncomputable def isT(x y:Bi):Option Bool:=match x with
 | .list=>(match y with| .list=>some true|_=>none)
 | .str=>(match y with| .str=>some true|_=>none)
 |_=>none
def isV(x y:V):Option Bool:=match y with
 | .none=>isN x
 | .bool b=>isB x b
 | .bi b=>bd (vBi x) λa=>isT a b
 |_=>none
def zdr(a b:RV):Option Bool:=bd (rV b) λy=>match a with
 | .v x=>isV x y
 | .l _=>ifb (vN y) (some false)
 | .g _=>none
def eqR(a b:RV)(J:Hp):Option Bool:=
 orl (bd (cont a J) λT=>bd (cont b J) λc=>ifb (pls T) (ifb (pls c) (some (vEs T c))))
  (bd (rV a) λx=>bd (rV b) λy=>ifb (pl x) (ifb (pl y) (some (vE x y))))
def inR(a b:RV)(J:Hp):Option Bool:=bd (rV a) λx=>
 orl (bd (rS b) λy=>bd (vS x) λt=>bd (a1 t) λc=>some (pA c y))
  (orl (bd (bd (rV b) vT) λe=>ifb (pl x) (ifb (mM e) (some (vin x e))))
   (bd (cont b J) λe=>ifb (pl x) (ifb (pls e) (some (vin x e)))))
def nb(o:Option Bool):Option Bool:=bd o λb=>some (bH b)
def zbe(f:Int->Int->Bool)(a b:RV):Option Bool:=bd (rI a) λx=>bd (rI b) λy=>some (f x y)
def cY(o:CmpOp)(a b:RV)(J:Hp):Option Bool:=match o with
 | .Eq=>eqR a b J
 | .NotEq=>nb (eqR a b J)
 | .Is=>zdr a b
 | .IsNot=>nb (zdr a b)
 | .In=>inR a b J
 | .NotIn=>nb (inR a b J)
 | .Lt=>zbe Z.ltB a b
 | .LtE=>zbe Z.leB a b
 | .Gt=>zbe (λx y=>Z.ltB y x) a b
 | .GtE=>zbe (λx y=>Z.leB y x) a b
def yin(x:V)(J:Hp):Option Bool:=match x with
 | .none=>some false
 | .bool b=>some b
 | .int i=>some (bH (Z.eqB i 0))
 | .str s=>some (bH (emp s))
 | .ref n=>bd (dH n J) λT=>some (bH (emp T))
 |_=>none
def zp2(r:RV)(J:Hp):Option Bool:=bd (rV r) λx=>yin x J

noncomputable def fE(l:List Int):Int->Int:=List.rec (motive:=λU=>Int->Int) (λa=>a) (λx U d a=>d (a+x)) l
noncomputable def zzd(m:Int)(l:List Int):Int:=List.rec (motive:=λU=>Int->Int) (λm=>m) (λx U d m=>d (cs (Z.ltB m x) x m)) l m
noncomputable def uT(m:Int)(l:List Int):Int:=List.rec (motive:=λU=>Int->Int) (λm=>m) (λx U d m=>d (cs (Z.ltB x m) x m)) l m
def zl8(r:RV)(J:Hp):Option Nat:=orl (bd (rS r) λs=>some (len s)) (orl (bd (bd (rV r) vT) λT=>some (len T)) (bd (cont r J) λT=>some (len T)))
def zub(a:List RV)(J:Hp):Option RV:=bd (a1 a) λr=>bd (zl8 r J) λn=>some (.v (.int (.ofNat n)))
noncomputable def ran(a b c:Int):Option RV:=ifb (small a) (ifb (small b) (some (.v (.rng a b c))))
def zd6(e:List RV):Option RV:=
 orl (bd (a1 e) λr=>bd (rI r) λn=>ran 0 n 1)
  (orl (bd (a2 e) λp=>bd (rI p.1) λa=>bd (rI p.2) λb=>ran a b 1)
   (bd (a3 e) λp=>bd (rI p.1) λa=>bd (rI p.2.1) λb=>bd (rI p.2.2) λc=>ifb (Z.eqB c 1||Z.eqB c (-1)) (ran a b c)))
def qC(r:RV)(J:Hp):Option (List Int):=bd (cont r J) eS
def zt9(c:List RV)(J:Hp):Option RV:=
 orl (bd (a2 c) λp=>bd (rI p.1) λa=>bd (rI p.2) λb=>some (.v (.int (cs (Z.ltB a b) b a))))
  (bd (a1 c) λr=>bd (qC r J) λl=>bd (unc l) λp=>some (.v (.int (zzd p.1 p.2))))
def yg3(a:List RV)(J:Hp):Option RV:=bd (a1 a) λr=>bd (qC r J) λl=>bd (unc l) λp=>some (.v (.int (uT p.1 p.2)))
def zt5(a:List RV)(J:Hp):Option RV:=bd (a1 a) λr=>bd (qC r J) λl=>some (.v (.int (fE l 0)))
def yg4(a:List RV):Option RV:=bd (a1 a) λr=>bd (rI r) λi=>bd (iN i) λn=>ifb (Nat.blt n 340282366920938463463374607431768211456) (some (.v (.str (zbk n))))
def yg5(c:List RV):Option RV:=bd (a2 c) λp=>bd (rI p.1) λa=>bd (rI p.2) λb=>ifb (bH (Z.eqB b 0)) (ifb (small b) (some (.v (.tup [.int (Int.fdiv a b),.int (Int.fmod a b)]))))
def yg7(a:List RV):Option RV:=bd (a1 a) λr=>bd (rI r) λi=>some (.v (.int (.ofNat i.natAbs)))
def yg2(a:List RV)(J:Hp):Option RV:=bd (a1 a) λr=>bd (cont r J) λT=>ifb (aM (len T)) (some (.v (.tup T)))
def zf2(a:List RV)(J:Hp):Option RV:=bd (a1 a) λr=>orl (bd (rS r) λU=>some (.v (.bi .str))) (bd (cont r J) λU=>some (.v (.bi .list)))
noncomputable def iC{b:Type}(c:Nat->Nat->Bool)(t:KasT b):b:=KasT.rec (motive:=λU=>b) (λa=>a) (λi j U d=>d (c i j)) t
noncomputable def zex(T:List V)(p:LN):List V:=List.rec (motive:=λU=>List V) [] (λi U d=>byO (nth T i) (λv=>v::d) d) p
def zf4(l:List V):Option (List (Int×Int)):=List.rec (motive:=λU=>Option (List (Int×Int))) (some []) (λx U d=>bd (vT x) λt=>bd (eS t) λq=>bd (a2 q) λp=>bd d λl=>some (p::l)) l
noncomputable def ltI(l:List Int)(i j:Nat):Bool:=byO (nth l i) (λx=>byO (nth l j) (Z.ltB x) false) false
noncomputable def ltP(l:List (Int×Int))(i j:Nat):Bool:=byO (nth l i) (λx=>byO (nth l j) (λy=>cs (Z.eqB x.1 y.1) (Z.ltB x.2 y.2) (Z.ltB x.1 y.1)) false) false
def zxs(a:Nat->Nat->Bool)(T:List V):RV:= .l (zex T (iC a (kas_sort (len T))).toList)
def zwg(a:List RV)(J:Hp):Option RV:=bd (a1 a) λr=>bd (gL r J) λT=>ifb (cs (Nat.beq (len T) 2) true (Nat.beq (len T) 4)) (orl (bd (eS T) λl=>some (zxs (ltI l) T)) (bd (zf4 T) λl=>some (zxs (ltP l) T)))
def bic(b:Bi)(a:List RV)(J:Hp):Option RV:=match b with
 | .len=>zub a J
 | .range=>zd6 a
 | .max=>zt9 a J
 | .min=>yg3 a J
 | .sum=>zt5 a J
 | .hex=>yg4 a
 | .divmod=>yg5 a
 | .abs=>yg7 a
 | .tuple=>yg2 a J
 | .type=>zf2 a J
 | .sorted=>zwg a J
 |_=>none

inductive MK where
 |fn (f:Nat) (self:V)
 |lst (n:Nat)
 |str (s:LN)
 |top (a:Nat)
 |dict (n:Nat)
def mkO(E:Cx)(n:Nat)(x:Nat)(o:O):Option MK:=match o with
 | .inst c d=>ifb (jR (look d x)) (bd (look E.meth c) λt=>bd (look t x) λf=>some (.fn f (.ref n)))
 | .list _=>ifb (Nat.ble x 2) (some (.lst n))
 | .dict _=>some (.dict n)
noncomputable def zk1(E:Cx)(a:Nat)(x:Nat):Option MK:=orl (ifb (Nat.beq x 8) (bd (look E.pat a) λU=>some (.top a))) (ifb (Nat.beq x 9) (bd (look E.dct a) λU=>some (.top a)))
def fT(E:Cx)(r:RV)(x:Nat)(J:Hp):Option MK:=bd (rV r) λy=>match y with
 | .ref n=>bd (nth J n) (mkO E n x)
 | .str s=>ifb (Nat.ble 2 x) (ifb (Nat.ble x 6) (some (.str s)))
 | .top a=>zk1 E a x
 |_=>none

noncomputable def wA(l:List (Int×LN))(x:Int):Option LN:=List.rec (motive:=λU=>Option LN) none (λp U d=>cs (Z.eqB p.1 x) (some p.2) d) l
noncomputable def rem{a:Type}(l:List a):Nat->List a:=List.rec (motive:=λU=>Nat->List a) (λU=>[]) (λx r d n=>Nat.rec (motive:=λU=>List a) r (λk U=>x::d k) n) l
noncomputable def okc(p:Nat->Bool)(l:LN):Bool:=List.rec (motive:=λU=>Bool) true (λc U d=>cs (p c) d false) l

def zel(r:RV)(J:Hp):Option (List LN):=bd (cont r J) iP
noncomputable def zso(c:Nat)(l:LN):Option Nat:=List.rec (motive:=λU=>Option Nat) none (λx U d=>cs (Nat.beq x c) (some 0) (bd d λk=>some (k+1))) l
def zha(s:LN)(x:Nat)(a:List RV)(J:Hp):Option RV:=match x with
 |2=>bd (a1 a) λr=>bd (rS r) λt=>bd (a1 t) λc=>bd (zso c s) λk=>some (.v (.int (.ofNat k)))
 |3=>ifb (emp a) (some (.v (.str (s.map qO))))
 |4=>ifb (emp a) (some (.v (.str (s.map zgh))))
 |5=>bd (a1 a) λr=>bd (rS r) λt=>bd (a2 t) λp=>some (.l ((bG p.1 p.2 [] s).map V.str))
 |6=>bd (a1 a) λr=>bd (zel r J) λl=>ifb (aM (len (aT s l))) (ifb (aM (len l)) (some (.v (.str (aT s l)))))
 |_=>none
def zr5(E:Cx)(a x:Nat)(b:List RV):Option RV:=
 orl (ifb (Nat.beq x 8) (bd (a1 b) λr=>bd (rS r) λs=>bd (look E.pat a) λp=>ifb (okc p s) (some (.v .none))))
  (ifb (Nat.beq x 9) (bd (a2 b) λp=>bd (rI p.1) λi=>bd (rS p.2) λd=>bd (look E.dct a) λt=>some (.v (.str (byO (wA t i) id d)))))
noncomputable def same(J:Hp)(o:Option RV):Option (RV×Hp):=bd o λr=>some (r,J)
def yet(n:Nat)(T:List V)(a:List RV)(J:Hp):Option (RV×Hp):=bd (cs (emp a) (some (.negSucc 0)) (bd (a1 a) rI)) λi=>bd (idx i (len T)) λk=>bd (nth T k) λv=>ifb (aM (len T)) (some (.v v,upd J n (.list (rem T k))))
noncomputable def zbh(i:Int)(l:List Int):Option Nat:=List.rec (motive:=λU=>Option Nat) none (λx U d=>cs (Z.eqB x i) (some 0) (bd d λk=>some (k+1))) l
def yfu(T:List V)(a:List RV):Option RV:=bd (a1 a) λr=>bd (rI r) λi=>bd (eS T) λl=>bd (zbh i l) λk=>ifb (aM (len T)) (some (.v (.int (.ofNat k))))
def zzi(n x:Nat)(a:List RV)(J:Hp):Option (RV×Hp):=bd (dH n J) λT=>orl (ifb (Nat.beq x 0) (bd (a1 a) λr=>ifb (aM (len T)) (bd (iZ r J) λp=>some (.v .none,upd p.2 n (.list (T++[p.1]))))))
 (orl (ifb (Nat.beq x 1) (yet n T a J)) (ifb (Nat.beq x 2) (same J (yfu T a))))
def kC(E:Cx)(k:MK)(x:Nat)(c:List RV)(b:List (Nat×RV))(J:Hp):Option (RV×Hp):=match k with
 | .fn f self=>E.S f (.v self::c) b J
 | .lst n=>ifb (emp b) (zzi n x c J)
 | .str s=>ifb (emp b) (same J (zha s x c J))
 | .top a=>ifb (emp b) (same J (zr5 E a x c))
 | .dict _=>none

def zf3(E:Cx)(r:RV)(x:Nat)(J:Hp):Option RV:=bd (rV r) λy=>match y with
 | .ref n=>bd (nO n J) λa=>bd (look E.meth a.1) λU=>bd (look a.2 x) λv=>some (.v v)
 | .top c=>bd (look E.cattr c) λt=>bd (look t x) λv=>some (.v v)
 |_=>none
def zb3(E:Cx)(f:RV)(e:List RV)(c:List (Nat×RV))(J:Hp):Option (RV×Hp):=bd (rV f) λy=>match y with
 | .top a=>E.S a e c J
 | .bi b=>ifb (emp c) (same J (bic b e J))
 |_=>none

noncomputable def pX(n:Nat):Int->List V:=Nat.rec (motive:=λU=>Int->List V) (λU=>[]) (λU d a=> .int a::d (a+1)) n
noncomputable def zj1(n:Nat):Int->List V:=Nat.rec (motive:=λU=>Int->List V) (λU=>[]) (λU d a=> .int a::d (a-1)) n
inductive Src where
 |items (xs:List V)
 |live (n i:Nat)
 |gen (xs:List V)
noncomputable def ydl(a b c:Int):Option Src:=cs (Z.eqB c 1) (some (.items (pX (b-a).toNat a))) (ifb (Z.eqB c (-1)) (some (.items (zj1 (a-b).toNat a))))
def yiz(x:V)(J:Hp):Option Src:=match x with
 | .tup T=>some (.items T)
 | .str s=>some (.items (s.map λc=>V.str [c]))
 | .rng a b c=>ydl a b c
 | .ref n=>bd (dH n J) λU=>some (.live n 0)
 |_=>none
def vK(r:RV)(J:Hp):Option Src:=match r with
 | .l T=>some (.items T)
 | .g T=>some (.gen T)
 | .v x=>yiz x J
noncomputable def zay(s:Src):Option Src:=match s with
 | .items T=>some (.items T)
 | .live n i=>some (.live n i)
 | .gen _=>none
def zqs(r:RV)(J:Hp):Option Src:=bd (vK r J) zay
def bO(T:LN):List V->L->Option L:=List.rec (motive:=λU=>List V->L->Option L) (λG I=>cs (emp G) (some I) none) (λx U d G I=>bd (unc G) λp=>d p.2 (put I x p.1)) T
def bindC(a:LN)(v:V)(I:L)(J:Hp):Option L:=byO (a1 a) (λx=>some (put I x v)) (bd (gL (.v v) J) λT=>bO a T I)

def ztw(l:List RV):Option LN:=List.rec (motive:=λU=>Option LN) (some []) (λx U d=>bd (rS x) λs=>bd d λt=>some (s++t)) l
noncomputable def hdS(a:List V->Src)(T:List V):Option (V×Src):=match T with
 |[]=>none
 |x::r=>some (x,a r)
def pZ(s:Src)(J:Hp):Option (Option (V×Src)):=match s with
 | .items T=>some (hdS .items T)
 | .gen T=>some (hdS .gen T)
 | .live n i=>bd (dH n J) λT=>some (bd (nth T i) λv=>some (v,.live n (i+1)))
def mA(s:Src)(J:Hp):Nat:=match s with
 | .items T=>len T+1
 | .gen T=>len T+1
 | .live n _=>byO (dH n J) (λT=>len T+1) 0
noncomputable def lA(o:Option V)(l:List V):List V:=match o with|some y=>y::l|none=>l
def cJ(f:V->Hp->Option (Option V×Hp))(k:Nat):Src->Hp->Option (List V×Hp):=Nat.rec (motive:=λU=>Src->Hp->Option (List V×Hp)) (λU U=>none) (λU d s J=>bd (pZ s J) λo=>byO o (λp=>bd (f p.1 J) λq=>bd (d p.2 q.2) λl=>some (lA q.1 l.1,l.2)) (some ([],J))) k

noncomputable abbrev EvT:=Hp->Option (RV×Hp)
noncomputable abbrev EsT:=Hp->Option (List RV×Hp)
noncomputable abbrev TrT:=Hp->Option (Bool×Hp)
noncomputable def dY(I:L)(x:Nat)(J:Hp):Option (RV×Hp):=bd (look I x) λv=>some (.v v,J)
noncomputable def qP(E:Cx)(x:Nat)(J:Hp):Option (RV×Hp):=bd (look E.glo x) λv=>some (.v v,J)
noncomputable def h2{c:Type}(a b:EvT)(k:RV->RV->Hp->Option c)(J:Hp):Option c:=bd (a J) λx=>bd (b x.2) λy=>k x.1 y.1 y.2
def za9(o:Operator)(x y:RV)(J:Hp):Option (RV×Hp):=same J (qG o x y J)
def jM(o:CmpOp)(x y:RV)(J:Hp):Option (Bool×Hp):=bd (cY o x y J) λr=>some (r,J)
def zz5(x y:RV)(J:Hp):Option (RV×Hp):=same J (nB x y J)
def uY(o:Operator)(a b:EvT)(J:Hp):Option (RV×Hp):=h2 a b (za9 o) J
def hS(o:CmpOp)(a b:EvT)(J:Hp):Option (Bool×Hp):=h2 a b (jM o) J
def yas(o:CmpOp)(a b:EvT)(J:Hp):Option (RV×Hp):=bd (hS o a b J) λr=>some (.v (.bool r.1),r.2)
noncomputable def zsr(t:TrT)(a b:EvT)(J:Hp):Option (RV×Hp):=bd (t J) λx=>cs x.1 (a x.2) (b x.2)
noncomputable def zhl(D:EsT)(J:Hp):Option (RV×Hp):=bd (D J) λx=>bd (dT x.1 x.2) λy=>some (.l y.1,y.2)
noncomputable def zbm(D:EsT)(J:Hp):Option (RV×Hp):=bd (D J) λx=>bd (dT x.1 x.2) λy=>some (.v (.tup y.1),y.2)
def yar(a i:EvT)(J:Hp):Option (RV×Hp):=h2 a i zz5 J
noncomputable def vW(T:List Int)(k:Int)(a:Nat):List V:=
 ((sliceRange (sliceBounds (some k) none (some (Int.ofNat a)) T.length).1 (sliceBounds (some k) none (some (Int.ofNat a)) T.length).2.1 (sliceBounds (some k) none (some (Int.ofNat a)) T.length).2.2).filterMap (T[·]?)).map V.int
def xF(E:Cx)(x:RV)(y z:Option RV)(e:FE):Option RV:=bd (yeq x) λa=>bd (bd y rI) λk=>ifb (jR z) (bd (eI e) λb=>bd (look E.frz a) λT=>ifb (Nat.blt 0 b) (some (.l (vW T k b))))
def uU(E:Cx)(a:Option FE)(x:RV)(y z:Option RV)(J:Hp):Option RV:=byO a (xF E x y z) (hZ x y z J)
def uX(E:Cx)(a:EvT)(c e:Hp->Option (Option RV×Hp))(b:Option FE)(J:Hp):Option (RV×Hp):=bd (a J) λx=>bd (c x.2) λy=>bd (e y.2) λz=>same z.2 (uU E b x.1 y.1 z.1 z.2)
def yO(E:Cx)(a:EvT)(x:Nat)(J:Hp):Option (RV×Hp):=bd (a J) λr=>same r.2 (zf3 E r.1 x r.2)
noncomputable def fH(c b:EsT)(k:List RV->List RV->Hp->Option (RV×Hp))(J:Hp):Option (RV×Hp):=bd (c J) λT=>bd (b T.2) λa=>k T.1 a.1 a.2
def jT(E:Cx)(f:EvT)(e:EsT)(c:LN)(b:EsT)(J:Hp):Option (RV×Hp):=bd (f J) λg=>fH e b (λT a h=>zb3 E g.1 T (c.zip a) h) g.2
def bP(E:Cx)(o:EvT)(x:Nat)(e:EsT)(c:LN)(b:EsT)(J:Hp):Option (RV×Hp):=bd (o J) λr=>bd (fT E r.1 x r.2) λk=>fH e b (λT a h=>kC E k x T (c.zip a) h) r.2
def yk1(e:EvT)(J:Hp):Option (RV×Hp):=bd (e J) λx=>bd (rS x.1) λs=>some (.v (.str s),x.2)
noncomputable def yk0(D:EsT)(J:Hp):Option (RV×Hp):=bd (D J) λx=>bd (ztw x.1) λs=>ifb (aM (len s)) (some (.v (.str s),x.2))
noncomputable def is0(o:Option Nat):Bool:=byO o (Nat.beq 0) false
def flr(a:List (Nat×Nat))(l:L):L:=List.rec (motive:=λU=>L) [] (λp U d=>cs (is0 (look a p.1)) d (p::d)) l
def eE(e:L->EvT)(f:LN)(c:L->TrT)(I:L)(v:V)(J:Hp):Option (Option V×Hp):=bd (bindC f v I J) λa=>bd (c a J) λb=>cs b.1 (bd (e a b.2) λy=>bd (rV y.1) λv=>some (some v,y.2)) (some (none,b.2))
def zm2(e:L->EvT)(b:LN)(c:EvT)(a:L->TrT)(I:L)(J:Hp):Option (RV×Hp):=bd (c J) λr=>bd (zqs r.1 r.2) λs=>bd (cJ (eE e b a I) (mA s r.2) s r.2) λx=>ifb (aM (len x.1)) (some (.l x.1,x.2))
noncomputable def cF(e:EvT)(r:EsT)(J:Hp):Option (List RV×Hp):=bd (e J) λx=>bd (r x.2) λT=>some (x.1::T.1,T.2)
noncomputable def lZ(e:EvT)(J:Hp):Option (Option RV×Hp):=bd (e J) λx=>some (some x.1,x.2)
def yit(a:TrT)(J:Hp):Option (Bool×Hp):=bd (a J) λx=>some (bH x.1,x.2)
def uW(a:EvT)(J:Hp):Option (Bool×Hp):=bd (a J) λx=>bd (zp2 x.1 x.2) λt=>some (t,x.2)
noncomputable def zxi(e r:TrT)(J:Hp):Option (Bool×Hp):=bd (e J) λx=>cs x.1 (r x.2) (some (false,x.2))
noncomputable def tOr(e r:TrT)(J:Hp):Option (Bool×Hp):=bd (e J) λx=>cs x.1 (some (true,x.2)) (r x.2)
def zfh(l a:LN)(o:EvT)(J:Hp):Option (RV×Hp):=bd (o J) λr=>bd (rS r.1) λs=>bd (a1 l) λc=>ifb (aM (len (cU c a s))) (some (.v (.str (cU c a s)),r.2))
abbrev M1:=(L->EvT)×(L->TrT)
abbrev M2:=(L->EsT)×(L->TrT)×(L->TrT)
noncomputable abbrev M3:=L->Hp->Option (Option RV×Hp)
noncomputable def tN(_:L)(_:Hp):Option (Bool×Hp):=none
noncomputable def eN(_:L)(_:Hp):Option (RV×Hp):=none
def zde:Nat->M1:=λU=>(λU J=>some (.v .none,J),tN)
noncomputable def zlh:Nat->M1:=λU=>(λU J=>some (.v (.bool true),J),λU J=>some (true,J))
def zlt:Nat->M1:=λU=>(λU J=>some (.v (.bool false),J),tN)
def zlp:Nat->Nat->M1:=λi U=>(λU J=>some (.v (.int (.ofNat i)),J),tN)
def zlj:String->LN->Nat->M1:=λU l U=>(λU J=>some (.v (.str l),J),tN)
def zlf:Nat->Nat->M1:=λx U=>(λI J=>dY I x J,λI J=>uW (dY I x) J)
def zlr(E:Cx):Nat->Nat->M1:=λx U=>(λU J=>qP E x J,tN)
noncomputable def zlu:Nat->M1:=λU=>(λU J=>some (.v (.bool true),J),λU J=>some (true,J))
def zlw:Operator->FE->FE->Nat->M1->M1->M1:=λo U U U a b=>(λI J=>uY o (a.1 I) (b.1 I) J,λI J=>uW (uY o (a.1 I) (b.1 I)) J)
def zln:Nat->Nat->Nat->M1:=λa U U=>(λU J=>some (.v (.int (Int.neg (.ofNat a))),J),tN)
def zll:FE->Nat->M1->M1:=λU U a=>(eN,λI J=>yit (a.2 I) J)
def zly:List FE->Nat->M2->M1:=λU U D=>(eN,λI J=>D.2.1 I J)
def zzg:List FE->Nat->M2->M1:=λU U D=>(eN,λI J=>D.2.2 I J)
def zlv:CmpOp->FE->FE->Nat->M1->M1->M1:=λo U U U a b=>(λI J=>yas o (a.1 I) (b.1 I) J,λI J=>hS o (a.1 I) (b.1 I) J)
def zlq:FE->FE->FE->Nat->M1->M1->M1->M1:=λU U U U t a b=>(λI J=>zsr (t.2 I) (a.1 I) (b.1 I) J,tN)
def zdf:List FE->Nat->M2->M1:=λU U D=>(λI J=>zhl (D.1 I) J,tN)
def zlg:List FE->Nat->M2->M1:=λU U D=>(λI J=>zbm (D.1 I) J,tN)
def zli:FE->FE->Nat->M1->M1->M1:=λU U U a i=>(λI J=>yar (a.1 I) (i.1 I) J,tN)
def zlk(E:Cx):FE->Option FE->Option FE->Option FE->Nat->Nat->M1->M3->M3->M3->M1:=λU U U b U U a c e U=>(λI J=>uX E (a.1 I) (c I) (e I) b J,tN)
def zlx(E:Cx):FE->Nat->Nat->M1->M1:=λU x U a=>(λI J=>yO E (a.1 I) x J,λI J=>uW (yO E (a.1 I) x) J)
def zdi(E:Cx):FE->List FE->LN->List FE->LN->Nat->M1->M2->M2->M1:=λU U b U U U f c a=>(λI J=>jT E (f.1 I) (c.1 I) b (a.1 I) J,tN)
def yA(E:Cx):FE->Nat->List FE->LN->List FE->LN->Nat->Nat->M1->M2->M2->M1:=λU x U b U U U U o c a=>(λI J=>bP E (o.1 I) x (c.1 I) b (a.1 I) J,λI J=>uW (bP E (o.1 I) x (c.1 I) b (a.1 I)) J)
def zls:FE->Nat->Nat->M1->M1:=λU U U e=>(λI J=>yk1 (e.1 I) J,tN)
def zlo:List FE->Nat->M2->M1:=λU U D=>(λI J=>yk0 (D.1 I) J,tN)
def zdh:FE->LN->LN->Nat->FE->List FE->List (Nat×Nat)->Nat->M1->M1->M2->M1:=λU b U U U U c U e f a=>(λI J=>zm2 e.1 b (f.1 I) a.2.1 (flr c I) J,tN)
def zdd:FE->String->LN->Nat->String->LN->Nat->Nat->Nat->M1->M1:=λU U l U U a U U U o=>(λI J=>zfh l a (o.1 I) J,tN)
noncomputable def zlm:M2:=(λU J=>some ([],J),λU J=>some (true,J),λU J=>some (false,J))
def zdg:FE->List FE->M1->M2->M2:=λU U e r=>(λI J=>cF (e.1 I) (r.1 I) J,λI J=>zxi (e.2 I) (r.2.1 I) J,λI J=>tOr (e.2 I) (r.2.2 I) J)
noncomputable def xZ:M3:=λU J=>some (none,J)
def xY:FE->M1->M3:=λU e I J=>lZ (e.1 I) J
def evM(E:Cx):FE->M1:=@FE.rec (λU=>M1) (λU=>M2) (λU=>M3) zde zlh zlt zlp zlj zlf (zlr E) zlu zlw zln zll zly zzg zlv zlq zdf zlg zli (zlk E) (zlx E) (zdi E) (yA E) zls zlo zdh zdd zlm zdg xZ xY
def qQ(E:Cx):List FE->M2:=@FE.rec_1 (λU=>M1) (λU=>M2) (λU=>M3) zde zlh zlt zlp zlj zlf (zlr E) zlu zlw zln zll zly zzg zlv zlq zdf zlg zli (zlk E) (zlx E) (zdi E) (yA E) zls zlo zdh zdd zlm zdg xZ xY
def yk7(E:Cx):Option FE->M3:=@FE.rec_2 (λU=>M1) (λU=>M2) (λU=>M3) zde zlh zlt zlp zlj zlf (zlr E) zlu zlw zln zll zly zzg zlv zlq zdf zlg zli (zlk E) (zlx E) (zdi E) (yA E) zls zlo zdh zdd zlm zdg xZ xY
def ev(E:Cx)(I:L)(e:FE)(J:Hp):Option (RV×Hp):=(evM E e).1 I J
def evs(E:Cx)(I:L)(e:List FE)(J:Hp):Option (List RV×Hp):=(qQ E e).1 I J
def evo(E:Cx)(I:L)(e:Option FE)(J:Hp):Option (Option RV×Hp):=yk7 E e I J
def tr(E:Cx)(I:L)(e:FE)(J:Hp):Option (Bool×Hp):=(evM E e).2 I J
def trA(E:Cx)(I:L)(e:List FE)(J:Hp):Option (Bool×Hp):=(qQ E e).2.1 I J
def trO(E:Cx)(I:L)(e:List FE)(J:Hp):Option (Bool×Hp):=(qQ E e).2.2 I J

def dP(x:Nat)(r:RV)(I:L)(J:Hp):Option (L×Hp):=bd (iZ r J) λv=>some (put I x v.1,v.2)
def hY(T:LN)(r:RV)(I:L)(J:Hp):Option (L×Hp):=bd (gL r J) λG=>bd (bO T G I) λa=>some (a,J)
def yg6(E:Cx)(o:EvT)(x:Nat)(r:RV)(I:L)(J:Hp):Option (L×Hp):=bd (o J) λq=>bd (rR q.1) λn=>bd (iZ r q.2) λv=>bd (nO n v.2) λa=>bd (look E.meth a.1) λU=>
 ifb (Nat.ble (len (put a.2 x v.1)) 100) (some (I,upd v.2 n (.inst a.1 (put a.2 x v.1))))
def zt6(E:Cx)(n:Nat)(k v:V)(I:L)(J:Hp):Option (L×Hp):=
 orl (bd (dH n J) λT=>bd (bd (vI k) iN) λj=>ifb (Nat.blt j (len T)) (some (I,upd J n (.list (upd T j v)))))
  (bd (nO n J) λa=>bd (look E.meth a.1) λt=>bd (look t E.nSet) λf=>bd (E.S f [.v (.ref n),.v k,.v v] [] J) λw=>ifb (rN w.1) (some (I,w.2)))
def zon(E:Cx)(o i:EvT)(r:RV)(I:L)(J:Hp):Option (L×Hp):=bd (rV r) λv=>bd (o J) λq=>bd (rR q.1) λn=>bd (i q.2) λj=>bd (rV j.1) λk=>zt6 E n k v I j.2
def zh3(o:EvT)(r:RV)(I:L)(J:Hp):Option (L×Hp):=bd (rL r) λa=>bd (o J) λq=>bd (rR q.1) λn=>bd (dH n q.2) λU=>some (I,upd q.2 n (.list a))
def bW(E:Cx)(t:Tg)(r:RV)(I:L)(J:Hp):Option (L×Hp):=match t with
 | .name x _=>dP x r I J
 | .tup T _ _=>hY T r I J
 | .att o x _=>yg6 E (ev E I o) x r I J
 | .sub o i _=>zon E (ev E I o) (ev E I i) r I J
 | .all o _ _=>zh3 (ev E I o) r I J
def mT(E:Cx)(l:List Tg)(v:V):L->Hp->Option (L×Hp):=List.rec (motive:=λU=>L->Hp->Option (L×Hp)) (λI J=>some (I,J)) (λt U d I J=>bd (bW E t (.v v) I J) λx=>d x.1 x.2) l
inductive LE where
 |dry|brk
 |ret (r:RV)
noncomputable def nxt(w:Fl×L×Hp)(more:Option (LE×L×Hp)):Option (LE×L×Hp):=match w.1 with
 | .next=>more
 | .cont=>more
 | .brk=>some (.brk,w.2)
 | .ret x=>some (.ret x,w.2)
def bR(f:V->L->Hp->Option (Fl×L×Hp))(k:Nat):Src->L->Hp->Option (LE×L×Hp):=Nat.rec (motive:=λU=>Src->L->Hp->Option (LE×L×Hp)) (λU U U=>none) (λU d s I J=>bd (pZ s J) λo=>byO o (λp=>bd (f p.1 I J) λw=>nxt w (d p.2 w.2.1 w.2.2)) (some (.dry,I,J))) k
def sG(t:L->Hp->Option (Bool×Hp))(f:L->Hp->Option (Fl×L×Hp))(k:Nat):L->Hp->Option (LE×L×Hp):=Nat.rec (motive:=λU=>L->Hp->Option (LE×L×Hp)) (λU U=>none) (λU d I J=>bd (t I J) λb=>cs b.1 (bd (f I b.2) λw=>nxt w (d w.2.1 w.2.2)) (some (.dry,I,b.2))) k
noncomputable def zo7:Nat:=1000
noncomputable abbrev ExT:=L->Hp->Option (Fl×L×Hp)
noncomputable def goN(o:Option (L×Hp)):Option (Fl×L×Hp):=bd o λx=>some (.next,x)
def jC(E:Cx)(a:List Tg)(e:L->EvT)(I:L)(J:Hp):Option (Fl×L×Hp):=bd (e I J) λr=>goN (byO (a1 a) (λt=>bW E t r.1 I r.2) (bd (iZ r.1 r.2) λv=>mT E a v.1 I v.2))
noncomputable def xEx(e:L->EvT)(I:L)(J:Hp):Option (Fl×L×Hp):=bd (e I J) λr=>some (.next,I,r.2)
def zwt(x:Nat)(o:Operator)(e:L->EvT)(I:L)(J:Hp):Option (Fl×L×Hp):=bd (look I x) λu=>bd (e I J) λr=>bd (vI u) λa=>bd (rI r.1) λb=>bd (zb5 o a b) λc=>some (.next,put I x (.int c),r.2)
noncomputable def kH(t:L->TrT)(a b:ExT)(I:L)(J:Hp):Option (Fl×L×Hp):=bd (t I J) λx=>cs x.1 (a I x.2) (b I x.2)
noncomputable def iQ(o:ExT)(w:LE×L×Hp):Option (Fl×L×Hp):=match w.1 with
 | .dry=>o w.2.1 w.2.2
 | .brk=>some (.next,w.2)
 | .ret r=>some (.ret r,w.2)
def yii(t:L->TrT)(b:ExT)(I:L)(J:Hp):Option (Fl×L×Hp):=bd (sG t b zo7 I J) (iQ λI J=>some (.next,I,J))
def aX(E:Cx)(t:Tg)(b:ExT)(v:V)(I:L)(J:Hp):Option (Fl×L×Hp):=bd (bW E t (.v v) I J) λx=>b x.1 x.2
def zci(E:Cx)(t:Tg)(a:L->EvT)(b o:ExT)(I:L)(J:Hp):Option (Fl×L×Hp):=bd (a I J) λr=>bd (vK r.1 r.2) λs=>bd (bR (aX E t b) (mA s r.2) s I r.2) (iQ o)
noncomputable def qL(e:L->EvT)(I:L)(J:Hp):Option (Fl×L×Hp):=bd (e I J) λr=>some (.ret r.1,I,r.2)
def zws(E:Cx)(o i:L->EvT)(I:L)(J:Hp):Option (Fl×L×Hp):=bd (o I J) λq=>bd (rR q.1) λn=>bd (i I q.2) λj=>bd (rV j.1) λk=>bd (nO n j.2) λa=>bd (look E.meth a.1) λt=>bd (look t E.nDel) λf=>
 bd (E.S f [.v (.ref n),.v k] [] j.2) λw=>ifb (rN w.1) (some (.next,I,w.2))
noncomputable def nx(w:Fl×L×Hp)(r:Option (Fl×L×Hp)):Option (Fl×L×Hp):=match w.1 with
 | .next=>r
 | .brk=>some (.brk,w.2)
 | .cont=>some (.cont,w.2)
 | .ret x=>some (.ret x,w.2)
def dF(s r:ExT)(I:L)(J:Hp):Option (Fl×L×Hp):=bd (s I J) λw=>nx w (r w.2.1 w.2.2)
def zu5(E:Cx):List Tg->FE->Nat->ExT:=λa e U I J=>jC E a (λI=>ev E I e) I J
def yc0(E:Cx):FE->Nat->ExT:=λe U I J=>xEx (λI=>ev E I e) I J
def zu3(E:Cx):Nat->Nat->Operator->FE->Nat->ExT:=λx U o e U I J=>zwt x o (λI=>ev E I e) I J
def zuz(E:Cx):FE->List FS->List FS->Nat->ExT->ExT->ExT:=λt U U U a b I J=>kH (λI=>tr E I t) a b I J
def zux(E:Cx):FE->List FS->Nat->ExT->ExT:=λt U U b I J=>yii (λI h=>tr E I t h) b I J
def zu0(E:Cx):Tg->FE->List FS->List FS->Nat->ExT->ExT->ExT:=λt a U U U b o I J=>zci E t (λI=>ev E I a) b o I J
def zuy(E:Cx):FE->Nat->ExT:=λe U I J=>qL (λI=>ev E I e) I J
noncomputable def zic:Nat->ExT:=λU I J=>some (.ret (.v .none),I,J)
noncomputable def zu2:Nat->ExT:=λU I J=>some (.brk,I,J)
noncomputable def zid:Nat->ExT:=λU I J=>some (.next,I,J)
def zu1(E:Cx):FE->FE->Nat->Nat->ExT:=λo i U U I J=>zws E (λI=>ev E I o) (λI=>ev E I i) I J
noncomputable def zif:Stmt->ExT:=λU U U=>none
noncomputable def zib:ExT:=λI J=>some (.next,I,J)
def zee:FS->List FS->ExT->ExT->ExT:=λU U s r I J=>dF s r I J
def ex(E:Cx):FS->ExT:=@FS.rec (λU=>ExT) (λU=>ExT) (zu5 E) (yc0 E) (zu3 E) (zuz E) (zux E) (zu0 E) (zuy E) zic zu2 zid (zu1 E) zif zib zee
def exs(E:Cx):List FS->ExT:=@FS.rec_1 (λU=>ExT) (λU=>ExT) (zu5 E) (yc0 E) (zu3 E) (zuz E) (zux E) (zu0 E) (zuy E) zic zu2 zid (zu1 E) zif zib zee
noncomputable def xT(w:Fl×L×Hp):Option (RV×Hp):=match w.1 with
 | .next=>some (.v .none,w.2.2)
 | .ret r=>some (r,w.2.2)
 | .brk=>none
 | .cont=>none
def body(E:Cx)(b:List FS)(I:L)(J:Hp):Option (RV×Hp):=bd (exs E b I J) xT

noncomputable def pos(p:Nat):Pos:=cs (Nat.ble 1000000000 p) ⟨p/1000000000,p/1000000%1000,p/1000%1000,p%1000⟩ ⟨p/16384,p/128%128,p/16384,p%128⟩
noncomputable def gS(k:Nat):NameKind:=match k with
 |0=> .local|1=> .cell|2=> .free|3=> .globalExplicit|_=> .globalImplicit
def scN(b:Nat->Str)(a:List (Nat×Nat)):List (Str×NameKind):=a.map λp=>(b p.1,gS p.2)
def scF(b:Nat->Str)(a:List (Nat×Nat)):Scope:={kind:= .function,names:=scN b a,isGenerator:=false,isCoroutine:=false}
def names(a:Nat->Str):LN->LN->List Expr
 |[],_=>[]
 |x::r,[]=> .Name (a x) (pos 0)::names a r []
 |x::r,p::t=> .Name (a x) (pos p)::names a r t
def yG(a:Nat->Str):LN->List Expr->LN->List Keyword
 |x::r,e::t,p::q=>⟨some (a x),e,pos p⟩::yG a r t q
 |_,_,_=>[]
def tgC(e:Nat->Str)(a b:LN)(c:Nat):Expr:=match a with
 |[x]=> .Name (e x) (pos c)
 |a=> .Tuple (names e a b) 0 (pos c)
mutual
def tE(h:Nat->Str):FE->Expr
 | .none p=> .Constant .none 0 (pos p)
 | .tru p=> .Constant (.bool true) 0 (pos p)
 | .fls p=> .Constant (.bool false) 0 (pos p)
 | .int i p=> .Constant (.int (.ofNat i)) 0 (pos p)
 | .str s _ p=> .Constant (.str (Str.ofString s)) 0 (pos p)
 | .var x p=> .Name (h x) (pos p)
 | .glo x p=> .Name (h x) (pos p)
 | .dbg p=> .Name (Str.ofString "__debug__") (pos p)
 | .bin o a b p=> .BinOp (tE h a) o (tE h b) (pos p)
 | .neg a q p=> .UnaryOp .USub (.Constant (.int (.ofNat a)) 0 (pos q)) (pos p)
 | .not a p=> .UnaryOp .Not (tE h a) (pos p)
 | .and D p=> .BoolOp .And (tEs h D) (pos p)
 | .or D p=> .BoolOp .Or (tEs h D) (pos p)
 | .cmp o a b p=> .Compare (tE h a) [o] [tE h b] (pos p)
 | .ife t a b p=> .IfExp (tE h t) (tE h a) (tE h b) (pos p)
 | .list D p=> .List (tEs h D) (pos p)
 | .tup D p=> .Tuple (tEs h D) 0 (pos p)
 | .sub a i p=> .Subscript (tE h a) (tE h i) (pos p)
 | .sli a Q g y q p=> .Subscript (tE h a) (.Slice (tO h Q) (tO h g) (tO h y) (pos q)) (pos p)
 | .att a x p=> .Attribute (tE h a) (h x) (pos p)
 | .call f r m k l p=> .Call (tE h f) (tEs h r) (yG h m (tEs h k) l) (pos p)
 | .mcall o x r m k l u p=> .Call (.Attribute (tE h o) (h x) (pos u)) (tEs h r) (yG h m (tEs h k) l) (pos p)
 | .fmt e c p=> .FormattedValue (tE h e) (.ofNat c) none (pos p)
 | .jst D p=> .JoinedStr (tEs h D) (pos p)
 | .repl o s _ q A _ H u p=> .Call (.Attribute (tE h o) (Str.ofString "replace") (pos u)) [.Constant (.str (Str.ofString s)) 0 (pos q),.Constant (.str (Str.ofString A)) 0 (pos H)] [] (pos p)
 | .comp e v j w d n z p=> .ListComp (tE h e) [⟨tgC h v j w,tE h d,tEs h n,0⟩] (scF h z) (pos p)
def tEs(a:Nat->Str):List FE->List Expr
 |[]=>[]
 |e::r=>tE a e::tEs a r
def tO(a:Nat->Str):Option FE->Option Expr
 |none=>none
 |some e=>some (tE a e)
end
def tT(a:Nat->Str):Tg->Expr
 | .name x p=> .Name (a x) (pos p)
 | .tup T b p=> .Tuple (names a T b) 0 (pos p)
 | .att o x p=> .Attribute (tE a o) (a x) (pos p)
 | .sub o i p=> .Subscript (tE a o) (tE a i) (pos p)
 | .all o q p=> .Subscript (tE a o) (.Slice none none none (pos q)) (pos p)
def tTs(a:Nat->Str):List Tg->List Expr
 |[]=>[]
 |t::r=>tT a t::tTs a r
mutual
def tS(c:Nat->Str):FS->Stmt
 | .asg f e p=> .Assign (tTs c f) (tE c e) (pos p)
 | .ex e p=> .Expr (tE c e) (pos p)
 | .aug x q o e p=> .AugAssign (.Name (c x) (pos q)) o (tE c e) (pos p)
 | .ife t a b p=> .If (tE c t) (tSs c a) (tSs c b) (pos p)
 | .whl t b p=> .While (tE c t) (tSs c b) [] (pos p)
 | .for_ t h b o p=> .For (tT c t) (tE c h) (tSs c b) (tSs c o) (pos p)
 | .ret e p=> .Return (some (tE c e)) (pos p)
 | .ret0 p=> .Return none (pos p)
 | .brk p=> .Break (pos p)
 | .pass p=> .Pass (pos p)
 | .del o i q p=> .Delete [.Subscript (tE c o) (tE c i) (pos q)] (pos p)
 | .dead s=>s
def tSs(a:Nat->Str):List FS->List Stmt
 |[]=>[]
 |s::r=>tS a s::tSs a r
end
section

noncomputable def Bi.val:Bi->Value
 | .len=> .builtin "len"
 | .range=> .type "range"
 | .max=> .builtin "max"
 | .min=> .builtin "min"
 | .sum=> .builtin "sum"
 | .sorted=> .builtin "sorted"
 | .hex=> .builtin "hex"
 | .divmod=> .builtin "divmod"
 | .abs=> .builtin "abs"
 | .tuple=> .type "tuple"
 | .type=> .type "type"
 | .list=> .type "list"
 | .str=> .type "str"
 | .enumerate=> .type "enumerate"

noncomputable def asc:LN->Bool
 |[]=>true
 |c::r=>match Nat.blt c 128 with|true=>asc r|false=>false
noncomputable def sOk(s:LN):Prop:=asc s=true/\s.length≤65536
noncomputable abbrev St(s:LN):Str:=⟨s.toArray⟩

noncomputable abbrev oK(G:List Value)(n:Nat):Obj:={cls:= .type "tuple",data:= .seq G.toArray n}
noncomputable abbrev bZ(G:List Value)(n:Nat):Obj:={cls:= .type "list",data:= .seq G.toArray n}
noncomputable abbrev yek(a b c:Int)(t u v:Tok):Obj:={cls:= .type "range",data:= .fields #[.int a t,.int b u,.int c v]}

noncomputable def Imm(o:Obj):Prop:=(o.cls= .type "tuple"/\∃xs n,o.data= .seq xs n)∨(o.cls= .type "range"/\∃vs,o.data= .fields vs)

noncomputable abbrev Rho:=List (List Addr)

mutual
def VR(e:Rho)(h:Heap):V->Value->Prop
 | .none,v=>v= .none
 | .bool b,v=>v= .bool b
 | .int i,v=>∃t,v= .int i t
 | .str s,v=>(∃t,v= .str (St s) t)/\sOk s
 | .tup T,v=>∃a G n,v= .ref a/\h.get? a=some (oK G n)/\VRs e h T G/\G.length≤65536
 | .ref n,v=>∃a r,nth e n=some (a::r)/\v= .ref a
 | .top a,v=>v= .ref a
 | .bi b,v=>v=b.val
 | .rng a b c,v=>∃x t u w,v= .ref x/\h.get? x=some (yek a b c t u w)/\Builtin.Range.small a b c=true
def VRs(a:Rho)(h:Heap):List V->List Value->Prop
 |[],G=>G=[]
 |x::r,G=>∃v t,G=v::t/\VR a h x v/\VRs a h r t
end

theorem nJ{a:Type}:∀(l:List a) (x:a),nth (l++[x]) (len l)=some x
 |[],_=>rfl
 |_::r,x=>nJ r x
theorem aK{a:Type}:∀l:List a,len l=l.length
 |[]=>rfl
 |_::r=>congrArg (· +1) (aK r)
theorem bX{a:Type}:∀(l:List a) (n:Nat),nth l n=l[n]?
 |[],_=>rfl
 |_::_,0=>rfl
 |_::r,n+1=>bX r n
theorem fB{a:Type}{l:List a}{n:Nat}{x:a}(r:List a)(h:nth l n=some x):nth (l++r) n=some x:=by
 rw[bX] at*
 rw[List.getElem?_append_left (List.getElem?_eq_some_iff.mp h).1];exact h
theorem oX{a:Type}{l:List a}{n:Nat}{x:a}(h:nth l n=some x):n<l.length:=by rw[bX] at h;exact(Qu h).1
theorem xU{a:Type}{l:List a}{n:Nat}{x:a}(h:nth l n=some x):x∈l:=by rw[bX] at h;exact List.mem_of_getElem? h
theorem wX{a:Type}:∀(l:List a) (n:Nat) (v:a),upd l n v=l.set n v
 |[],_,_=>rfl
 |_::_,0,_=>rfl
 |x::r,n+1,v=>congrArg (x:: ·) (wX r n v)
theorem rH{a:Type}(l:List a)(n:Nat)(v:a):(upd l n v).length=l.length:=by rw[wX,List.length_set]
theorem fY{a:Type}{l:List a}{n:Nat}{x:a}(v:a)(h:nth l n=some x):nth (upd l n v) n=some v:=by rw[bX,wX,List.getElem?_set_self (oX h)]
theorem gN{a:Type}{l:List a}{n m:Nat}(v:a)(h:n≠m):nth (upd l n v) m=nth l m:=by rw[bX,bX,wX,List.getElem?_set_ne h]
theorem aN(h:Nat.beq a b=true):a=b:=Nat.eq_of_beq_eq_true h
theorem lD(h:Nat.beq a b=false):a≠b:=Nat.ne_of_beq_eq_false h
theorem pC{a:Type}(p:Nat×a)(r:List (Nat×a))(x:Nat):look (p::r) x=cs (Nat.beq p.1 x) (some p.2) (look r x):=rfl
theorem zj4{a:Type}(p:Nat×a)(r:List (Nat×a))(x:Nat)(v:a):put (p::r) x v=cs (Nat.beq p.1 x) ((x,v)::r) (p::put r x v):=rfl
theorem bB{b:Type}:∀(l:List (Nat×b)) (x:Nat) (v:b) (y:Nat),look (put l x v) y=if y=x then some v else look l y
 |[],x,v,y=>by
  show cs (Nat.beq x y) (some v) none=_;cases h:Nat.beq x y with
  |true=>rw[if_pos (aN h).symm];rfl
  |false=>rw[if_neg (Ne.symm (lD h))];rfl
 |p::r,x,v,y=>by
  rw[zj4];cases h:Nat.beq p.1 x with
  |true=>
   show cs (Nat.beq x y) (some v) (look r y)=_;rw[pC,aN h];cases a:Nat.beq x y with
   |true=>rw[if_pos (aN a).symm];rfl
   |false=>rw[if_neg (Ne.symm (lD a))];rfl
  |false=>
   show look (p::put r x v) y=_;rw[pC,pC,bB r x v y];cases a:Nat.beq p.1 y with
   |true=>have:y≠x:=λe=>lD h ((aN a).trans e);rw[if_neg this,if_neg this]
   |false=>rfl
theorem zkl{a:Type}{l:List a}{n:Nat}(h:nth l n=none):l.length≤n:=by rw[bX] at h;exact List.getElem?_eq_none_iff.mp h

noncomputable def Ext(ρ m:Rho):Prop:=∀n e,nth ρ n=some e->nth m n=some e
theorem Ext.refl(a:Rho):Ext a a:=λU U h=>h
theorem Ext.trans(x:Ext a b)(y:Ext b c):Ext a c:=λn e h=>y n e (x n e h)
theorem Ext.append(a b:Rho):Ext a (a++b):=λU U h=>fB b h
noncomputable def hJ(h h':Heap):Prop:=∀b o,h.get? b=some o->Imm o->h'.get? b=some o
section
theorem VR.both(e:Ext b m)(k:hJ h f)(x:V):(∀v,VR b h x v->VR m f x v):=
 V.rec (motive_1:=λx=>∀v,VR b h x v->VR m f x v) (motive_2:=λT=>∀vs,VRs b h T vs->VRs m f T vs)
  (λU H=>H) (λU U H=>H) (λU U H=>H) (λU U H=>H)
  (λ_ d _ ⟨a,vs,n,q,c,j,y⟩=>⟨a,vs,n,q,k _ _ c (.inl ⟨rfl,_,_,rfl⟩),d vs j,y⟩)
  (λ_ _ ⟨a,r,s,o⟩=>⟨a,r,e _ _ s,o⟩) (λU U H=>H) (λU U H=>H)
  (λ_ _ _ _ ⟨x,t,u,w,q,c,hs⟩=>⟨x,t,u,w,q,k _ _ c (.inr ⟨rfl,_,rfl⟩),hs⟩)
  (λU H=>H) (λ_ _ l i _ ⟨v,t,q,j,p⟩=>⟨v,t,q,l v j,i t p⟩) x
theorem VR.mono(e:Ext ρ m)(k:hJ h a)(x:V)(v:Value):VR ρ h x v->VR m a x v:=VR.both e k x v
theorem VRs.mono(e:Ext ρ m)(k:hJ h b)(T:List V):∀(vs:List Value),VRs ρ h T vs->VRs m b T vs:=by
 induction T with
 |nil=>exact λU H=>H
 |cons x r d=>exact λ_ ⟨v,t,q,j,a⟩=>⟨v,t,q,VR.mono e k x v j,d t a⟩
theorem VRs.len:∀{vs:List Value},VRs b h T vs->vs.length=T.length:=by
 induction T with
 |nil=>exact λH=>congrArg List.length (show _=[] from H)
 |cons x r d=>exact λ⟨v,t,q,j,a⟩=>(congrArg List.length q).trans (congrArg (· +1) (d a))
theorem VRs.nil:VRs a h [] []:=rfl
theorem VRs.cons(a:VR c h x v)(b:VRs c h T G):VRs c h (x::T) (v::G):=⟨v,G,rfl,a,b⟩
theorem VRs.app(b:VRs e h f c):∀{vs:List Value},VRs e h T vs->VRs e h (T++f) (vs++c):=by
 induction T with
 |nil=>exact λa=>by rw[show _=[] from a];exact b
 |cons x r d=>exact λ⟨v,t,q,j,i⟩=>⟨v,t++c,congrArg (· ++c) q,j,d i⟩
theorem VRs.append(a:VRs c h T G)(b:VRs c h e f):VRs c h (T++e) (G++f):=b.app a
theorem VRs.nth:∀{vs:List Value} {n:Nat},VRs a h T vs->Mine.nth T n=some x->∃v,vs[n]? =some v/\VR a h x v:=by
 induction T with
 |nil=>exact λ{_ n} _ e=>nn (show none=some x from e)
 |cons y r d=>
  intro vs n ⟨v,t,q,j,b⟩ e;cases n with
  |zero=>exact⟨v,q▸rfl,prf e▸j⟩
  |succ n=>obtain⟨u,M,B⟩:=d b e;exact⟨u,q▸M,B⟩
end

theorem xL(h:Runs M a p t b s e u):s.toks≤u.toks:=by induction h<;>first|exact Qm _|assumption|exact Nat.le_of_succ_le ‹_›|exact Qi ‹_› ‹_›
theorem zil(h:Wakes M f p g r s x u):s.toks≤u.toks:=by
 unfold Wakes at h;split at h
 · exact h.elim
 · split at h
   · obtain⟨e,c,b,_,_,a⟩:=h;subst a;have q:=xL b;exact q
   · exact h.2▸Qm _
   · exact h.2▸Qm _
 · obtain⟨e,c,b,_,_,a⟩:=h;subst a;have q:=xL b;exact q
 · exact h.2▸Qm _
 · exact h.2▸Qm _
set_option tactic.hygienic true in
theorem yc2{j:Type}{M:Model}{q:Ctx}{n:Nat}(m:Sem j):∀{Q:j->Pos->Shared->Prop} {E:Value->Pos->Shared->Prop} {p:Pos} {s:Shared},n≤s.toks->Sem.wp M q m (λa p u=>n≤u.toks->Q a p u) (λe p u=>n≤u.toks->E e p u) p s->Sem.wp M q m Q E p s:=by
 induction m with
 |pure a=>exact λh w=>w h
 |raise e=>exact λh w=>w h
 |fresh k i=>exact λh w=>i _ (Qy h) w
 |load a b k i=>exact λh w=>w.elim λo w=>⟨o,w.1,i _ h w.2⟩
 |update a b f k i=>exact λh w=>⟨w.1,i _ h w.2⟩
 |choose a n k i=>exact λh w=>⟨w.1,i _ h w.2⟩
 |genState g k i=>exact λh w=>w.elim λo w=>⟨o,w.1,i _ h w.2⟩
 |call c h g l k i=>exact λh w=>w.elim λr w=>w.elim λu w=>⟨r,u,w.1,i _ (Qi h (xL w.1)) w.2⟩
 |resume g r l k i=>exact λh w=>w.elim λr w=>w.elim λu w=>⟨r,u,w.1,i _ (Qi h (zil w.1)) w.2⟩
 |unsupported a=>exact λh w=>w
 |finish a=>exact λh w=>w
 |register a k=>exact λh w=>w
 |yield a b c d=>exact λh w=>w
 |fork=>exact λh w=>w
 |await=>exact λh w=>w
 |_=>rename_i i;exact λh w=>i _ h w
theorem yb3{c:Type}{M:Model}{A:Around}{m:Sem c}{Q:c->Shared->Prop}{E:Value->Shared->Prop}{s:Shared}{n:Nat}(h:n≤s.toks)(w:wpAny M A m (λa u=>n≤u.toks->Q a u) (λe u=>n≤u.toks->E e u) s):wpAny M A m Q E s:=
 λf p b=>yc2 m h (w f p b)
theorem cM{b:Type}{M:Model}{A:Around}{m:Sem b}{Q:b->Shared->Prop}{E:Value->Shared->Prop}{s:Shared}(h:0<s.toks)(w:wpAny M A m (λa u=>0<u.toks->Q a u) E s):wpAny M A m Q E s:=
 yb3 h (Qv w (λU U q=>q) λU U q U=>q)
noncomputable abbrev WkT:=List V->Addr->List (Addr×Obj)->Nat->GenState->Prop
structure Bx where
 prog:Program
 w:World
 nms:List Str
 h₀:Heap
 Wk:WkT
@[reducible] noncomputable def Bx.wk (Ω:Bx) (W:WkT):Bx:=⟨Ω.prog,Ω.w,Ω.nms,Ω.h₀,W⟩
@[reducible] noncomputable def Bx.M (Ω:Bx):Model:=model Ω.prog Ω.w

section
variable(Ω:Bx)
noncomputable def aA(i:Nat):Str:=Ω.nms.getD i (Str.ofString "__debug__")
def DE(a:Rho)(h:Heap):List (Nat×V)->List DictEntry->Prop
 |[],D=>D=[]
 |p::d,D=>∃e r,D=e::r/\p.1<Ω.nms.length/\(∃t,e.key= .str (aA Ω p.1) t)/\VR a h p.2 e.val/\DE a h d r
def OR(f:Rho)(h:Heap):O->List Addr->Prop
 | .list T,e=>∃a G n,e=[a]/\h.get? a=some (bZ G n)/\VRs f h T G/\G.length≤65537
 | .inst c d,e=>∃a b D n,e=[a,b]/\h.get? a=some (instObj c b)/\h.get? b=some (dictOf D n)/\DE Ω f h d D/\len d≤100
 | .dict _,_=>False

structure HS(ρ:Rho)(hp:Hp)(s:Shared):Prop where
 base:∀b o,Ω.h₀.get? b=some o->s.heap.get? b=some o
 fresh:∀a∈ρ.flatten,Ω.h₀.get? a=none
 nodup:ρ.flatten.Nodup
 len:hp.length=ρ.length
 obj:∀n o e,nth hp n=some o->nth ρ n=some e->OR Ω ρ s.heap o e
 gens:AllBare s.gens
 tk:0<s.toks

structure Go(fa:List Addr)(ρ:Rho)(s:Shared)(ρ':Rho)(s':Shared):Prop where
 ext:∃nw,ρ'=ρ++nw/\∀a∈nw.flatten,s.heap.get? a=none
 keep:∀b o,s.heap.get? b=some o->b∉ρ.flatten->b∉fa->s'.heap.get? b=some o
 imm:hJ s.heap s'.heap
 grow:∀b o,s.heap.get? b=some o->∃o',s'.heap.get? b=some o'
 gens:∀(g:Nat) (st:GenState),s.gens[g]? =some st->s'.gens[g]? =some st
 os:s'.os=s.os
end
theorem Go.refl(b:List Addr)(a:Rho)(s:Shared):Go b a s a s:=
 ⟨⟨[],by simp,by simp⟩,λU U e U U=>e,λU U e U=>e,λU o e=>⟨o,e⟩,λU U e=>e,rfl⟩
theorem Go.Ext(g:Go c a s m u):Ext a m:=by obtain⟨b,rfl,_⟩:=g.ext;exact Ext.append a b
theorem Go.trans(x:Go w A s f z)(y:Go d f z c k)(H:∀a∈d,a∈w∨s.heap.get? a=none):Go w A s c k:=by
 obtain⟨D,rfl,v⟩:=x.ext;obtain⟨m,rfl,n⟩:=y.ext;refine⟨⟨D++m,by rw[List.append_assoc],λa j=>?_⟩,λb o e u t=>?_,λb o e i=>y.imm b o (x.imm b o e i) i,λb o e=>?_,λg p e=>y.gens g p (x.gens g p e),y.os.trans x.os⟩
 · rw[List.flatten_append,List.mem_append] at j
   rcases j with j|j
   · exact v a j
   · cases q:s.heap.get? a with
     |none=>rfl
     |some o=>obtain⟨r,l⟩:=x.grow a o q;rw[n a j] at l;cases l
 · refine y.keep b o (x.keep b o e u t) ?_ λQ=>?_
   · rw[List.flatten_append,List.mem_append]
     rintro(h|h)
     · exact u h
     · rw[v b h] at e;cases e
   · rcases H b Q with h|h
     · exact t h
     · rw[h] at e;cases e
 · obtain⟨r,l⟩:=x.grow b o e
   exact y.grow b r l
theorem Go.trans0(x:Go f e s b z)(y:Go [] b z a c):Go f e s a c:=x.trans y (by simp)
theorem Go.transS(x:Go e f s b z)(y:Go e b z a c):Go e f s a c:=x.trans y λU h=> .inl h
theorem Go.wide(x:Go k c s m u)(h:∀a∈k,a∈j):Go j c s m u:=
 ⟨x.ext,λb o e i f=>x.keep b o e i λq=>f (h b q),x.imm,x.grow,x.gens,x.os⟩
theorem Go.any(x:Go [] a s m u):Go b a s m u:=x.wide (by simp)
theorem Go.vr(g:Go b a s m u)(h:VR a s.heap x v):VR m u.heap x v:=VR.mono g.Ext g.imm x v h
theorem Go.vrs(g:Go b a s m u)(h:VRs a s.heap x v):VRs m u.heap x v:=VRs.mono g.Ext g.imm x v h
theorem Go.tok(b:List Addr)(a:Rho)(s:Shared)(t:Nat):Go b a s a {s with toks:=t}:=
 ⟨⟨[],by simp,by simp⟩,λU U e U U=>e,λU U e U=>e,λU o e=>⟨o,e⟩,λU U e=>e,rfl⟩
theorem Go.keeps(f:List Addr)(a:Rho)(s:Shared)(k:∀b o,s.heap.get? b=some o->c.get? b=some o):Go f a s a {s with heap:=c,toks:=t}:=
 ⟨⟨[],by simp,by simp⟩,λb o e U U=>k b o e,λb o e U=>k b o e,λb o e=>⟨o,k b o e⟩,λU U e=>e,rfl⟩
theorem Go.push(b:List Addr)(a:Rho)(s:Shared)(o:Obj)(t:Nat):Go b a s a {s with heap:=s.heap.push o,toks:=t}:=
 Go.keeps b a s λU U e=>Qc o e

theorem DE.mono(e:Ext ρ m)(k:hJ h f):∀{D:List DictEntry},DE N ρ h d D->DE N m f d D:=by
 induction d with
 |nil=>exact λx=>x
 |cons p d b=>exact λ⟨a,r,q,M,h2,A,c⟩=>⟨a,r,q,M,h2,VR.mono e k _ _ A,b c⟩
theorem OR.mono(x:Ext ρ m)(i:hJ h p)(k:∀a∈e,∀l,h.get? a=some l->p.get? a=some l)(H:OR N ρ h o e):OR N m p o e:=by
 cases o with
 |list T=>obtain⟨a,G,n,q,f,r,j⟩:=H;exact⟨a,G,n,q,k a (q▸.head _) _ f,VRs.mono x i _ _ r,j⟩
 |inst c d=>obtain⟨a,b,D,n,q,f,t,s,j⟩:=H;exact⟨a,b,D,n,q,k a (q▸.head _) _ f,k b (q▸.tail _ (.head _)) _ t,s.mono x i,j⟩
 |dict D=>exact H
theorem dO{c:Type}{a:c}{p:c->Prop}(h:p a):∀b∈[a],p b:=λU e=>Qf e▸h
theorem kR{f:Type}{a b:f}{p:f->Prop}(h:p a)(j:p b):∀c∈[a,b],p c:=λU i=>(Qe i).elim (λe=>e▸h) (dO j _)
theorem zvr(M:o.cls≠.type "tuple")(B:o.cls≠.type "range"):¬Imm o:=λh=>h.elim (λh=>M h.1) λh=>B h.1
theorem jJ:¬Imm (bZ G n):=zvr (λh=>absurd (Value.type.inj h) (by decide)) (λh=>absurd (Value.type.inj h) (by decide))
theorem OR.live(H:OR N l h o e):∀a∈e,∃i,h.get? a=some i/\¬Imm i:=by
 cases o with
 |list T=>obtain⟨a,G,n,q,f,m,j⟩:=H;rw[q];exact dO ⟨_,f,jJ⟩
 |inst c d=>obtain⟨a,b,D,n,q,f,k,p,j⟩:=H;rw[q];exact kR ⟨_,f,by simp[Imm]⟩ ⟨_,k,by simp[Imm]⟩
 |dict D=>exact H.elim
end

section

theorem sn{a:Type}{o:Option a}{b:a}{G:Prop}(h:o=none)(c:o=some b):G:=nn (h.symm.trans c)
theorem iA{b a:Type}{o:Option b}{p:Option a}(k:∀x,p=some x->∃y,o=some y)(h:o=none):p=none:=by
 cases p with
 |none=>rfl
 |some x=>exact(k x rfl).elim λU e=>sn h e
theorem dG{b:Rho}(h:nth b n=some e)(c:a∈e):a∈b.flatten:=List.mem_flatten.mpr ⟨e,xU h,c⟩
theorem mP{f:List Addr}{c:Rho}:∀{n m:Nat},c.flatten.Nodup->nth c n=some e->nth c m=some f->a∈e->a∈f->n=m:=by
 induction c with
 |nil=>exact λ{n _} _ h _ _ _=>nn (show none=some e from h)
 |cons y r d=>
  intro n m b M B j i;have b:=List.nodup_append.mp (List.flatten_cons▸b);cases n with
  |zero=>cases m with
   |zero=>rfl
   |succ m=>exact absurd rfl (b.2.2 a (prf M▸j) a (dG B i))
  |succ n=>cases m with
   |zero=>exact absurd rfl (b.2.2 a (prf B▸i) a (dG M j))
   |succ m=>exact congrArg (· +1) (d b.2.1 M B j i)
theorem kP{a:Type}{l:List a}{n:Nat}(h:n<l.length):nth l n=some l[n]:=(bX l n).trans (List.getElem?_eq_getElem h)
theorem HS.at(H:HS N a J s)(h:nth J n=some o):∃e,nth a n=some e/\OR N a s.heap o e:=
 have this:=kP (H.len▸oX h)
 ⟨_,this,H.obj n o _ h this⟩
theorem HS.live(H:HS N h J s)(j:a∈h.flatten):∃c,s.heap.get? a=some c/\¬Imm c:=by obtain⟨e,i,b⟩:=List.mem_flatten.mp j;obtain⟨n,f,q⟩:=List.getElem_of_mem i;exact(H.obj n _ e (kP (H.len.symm▸f)) (q▸kP f)).live a b
theorem HS.notIn(H:HS N b J s)(h:s.heap.get? a=none):a∉b.flatten:=λq=>(H.live q).elim λU e=>sn h e.1
theorem HS.base_none(H:HS N b J s)(h:s.heap.get? a=none):N.h₀.get? a=none:=iA (λo e=>⟨o,H.base a o e⟩) h
theorem HS.out(H:HS N b J s){o:Obj}(e:a∈b.flatten)(c:N.h₀.get? a=some o){G:Prop}:G:=sn (H.fresh a e) c

theorem HS.keeps(H:HS N c J s)(k:∀b o,s.heap.get? b=some o->u.heap.get? b=some o)(i:AllBare u.gens)(h:0<u.toks):HS N c J u:=
 ⟨λb o e=>k _ _ (H.base b o e),H.fresh,H.nodup,H.len,λn o e M B=>(H.obj n o e M B).mono (Ext.refl c) (λb o e U=>k b o e) λa U f e=>k a f e,i,h⟩
theorem HS.heap(H:HS N a J s)(k:∀b o,s.heap.get? b=some o->e.get? b=some o)(c:0<t):HS N a J {s with heap:=e,toks:=t}:=H.keeps k H.gens c
theorem HS.tok(H:HS N a J s)(t:Nat)(b:0<t):HS N a J {s with toks:=t}:=H.keeps (λU U e=>e) H.gens b
theorem HS.push(H:HS N a J s)(o:Obj)(t:Nat)(b:0<t):HS N a J {s with heap:=s.heap.push o,toks:=t}:=H.heap (λU U e=>Qc o e) b

theorem cS(a:Rho)(e:List Addr):(a++[e]).flatten=a.flatten++e:=by rw[List.flatten_append];exact congrArg (a.flatten++ ·) (List.append_nil e)
theorem gO{a:Type}{l:List a}{x y:a}:∀{n:Nat},nth (l++[x]) n=some y->nth l n=some y∨(n=l.length/\y=x):=by
 induction l with
 |nil=>exact λ{n} h=>match n,h with
  |0,h=> .inr ⟨rfl,(prf h).symm⟩
  |_+1,h=>nn h
 |cons z r d=>exact λ{n} h=>match n,h with
  |0,h=> .inl h
  |_+1,h=>(d h).imp id λh=>⟨congrArg (· +1) h.1,h.2⟩
theorem HS.take(H:HS N c J s)(m:OR N (c++[e]) s.heap o e)(p:e.Nodup)(t:∀a∈e,a∉c.flatten)(f:∀a∈e,N.h₀.get? a=none):HS N (c++[e]) (J++[o]) s:=by
 refine⟨H.base,λa h=>?_,?_,?_,λn j i M B=>?_,H.gens,H.tk⟩
 · exact(Qo (cS c e▸h)).elim (H.fresh a) (f a)
 · rw[cS]
   exact List.nodup_append.mpr ⟨H.nodup,p,λa h b f q=>t b f (q▸h)⟩
 · rw[List.length_append,List.length_append,H.len];rfl
 · rcases gO (x:=o) (y:=j) M with q|⟨q,l⟩
   · rcases gO (x:=e) (y:=i) B with r|⟨r,_⟩
     · exact(H.obj n j i q r).mono (Ext.append _ _) (λU U e U=>e) λU U U e=>e
     · exact absurd (Nat.lt_of_lt_of_eq (oX q) (H.len.trans r.symm)) (Qr _)
   · rcases gO (x:=e) (y:=i) B with r|⟨_,k⟩
     · exact absurd (Nat.lt_of_lt_of_eq (oX r) (H.len.symm.trans q.symm)) (Qr _)
     · subst l;subst k;exact m
theorem HS.set(H:HS N f J s)(l:nth f n=some e)(v:x∈e)(k:∀b c,b≠x->s.heap.get? b=some c->s'.heap.get? b=some c)
 (A:OR N f s'.heap o e) (D:AllBare s'.gens) (z:0<s'.toks):HS N f (upd J n o) s':=by
 have h:=dG l v;obtain⟨y,r,t⟩:=H.live h;refine⟨λb c j=>k b c (λq=>H.out h (q▸j)) (H.base b c j),H.fresh,H.nodup,(rH J n o).trans H.len,λm u w M B=>?_,D,z⟩;by_cases p:n=m
 · have M:nth (upd J n o) n=some u:=p▸M
   rw[fY _ (kP (H.len.symm▸oX l))] at M;have B:nth f n=some w:=p▸B;exact prf M▸prf (l.symm.trans B)▸A
 · rw[gN _ p] at M
   exact(H.obj m u w M B).mono (Ext.refl f) (λb c j i=>k b c (λq=>t (prf (r.symm.trans (q▸j))▸i)) j) λa Q c d=>k a c (λq=>p (mP H.nodup l B v (q▸Q))) d
theorem zfj(c:List Addr)(k:∀b o,s.heap.get? b=some o->b∉a.flatten->b∉c->u.heap.get? b=some o)(i:hJ s.heap u.heap)(g:∀b o,s.heap.get? b=some o->∃f,u.heap.get? b=some f)
 (j:u.gens=s.gens) (h:u.os=s.os):Go c a s a u:=⟨⟨[],(List.append_nil a).symm,nofun⟩,k,i,g,λU U e=>j▸e,h⟩
theorem zb4(f:Heap.SameBut x h a)(i:∃o,a.get? x=some o)(b:Addr)(o:Obj)(e:h.get? b=some o):∃c,a.get? b=some c:=by
 by_cases q:b=x
 · rw[q];exact i
 · exact⟨o,(f.2 b q).trans e⟩
theorem jO(c:Heap.SameBut x h k)(f:h.get? x=some a)(j:¬Imm a):hJ h k:=λb o e i=>(c.2 b λq=>j (prf (f.symm.trans (q▸e))▸i)).trans e
theorem HS.goSet(H:HS N c J s)(m:nth c n=some e)(l:x∈e)(f:Heap.SameBut x s.heap i)(j:List Addr)(p:∃o,i.get? x=some o):Go j c s c {s with heap:=i,toks:=t}:=
 have a:=dG m l
 (H.live a).elim λU h=>zfj j (λb U e k U=>(f.2 b λq=>k (q▸a)).trans e) (jO f h.1 h.2) (zb4 f p) rfl rfl

noncomputable def yhh(Ω:Bx)(ρ:Rho)(s₀ s:Shared)(xs:List V)(a:Addr):Prop:=
 ∃os g st,(∀p∈os,s.heap.get? p.1=some p.2/\p.1∉ρ.flatten/\s₀.heap.get? p.1=none)/\s.gens[g]? =some st/\s₀.gens.size≤g/\Ω.Wk xs a os g st
noncomputable def RVR(Ω:Bx)(ρ:Rho)(s₀ s:Shared)(r:RV)(v:Value):Prop:=match r with
 | .v x=>VR ρ s.heap x v
 | .l xs=>∃a vs n,v= .ref a/\s.heap.get? a=some (bZ vs n)/\VRs ρ s.heap xs vs/\vs.length≤65537/\s₀.heap.get? a=none/\a∉ρ.flatten
 | .g xs=>∃a,v= .ref a/\yhh Ω ρ s₀ s xs a
theorem Go.none{b:List Addr}(g:Go b c s m u)(h:u.heap.get? a=none):s.heap.get? a=none:=iA (g.grow a) h
theorem Go.notIn{f:List Addr}(g:Go f b s m u){o:Obj}(h:s.heap.get? a=some o)(e:a∉b.flatten):a∉m.flatten:=by obtain⟨i,q,c⟩:=g.ext;rw[q,List.flatten_append];exact λq=>(Qo q).elim e λq=>sn (c a q) h
theorem Go.gsize(g:Go b a s m u):s.gens.size≤u.gens.size:=
 Nat.le_of_not_lt λq=>sn (Array.getElem?_eq_none (Qm _)) (g.gens _ _ (Array.getElem?_eq_getElem q))
theorem RVR.go(H:RVR N e Y s r v)(g:Go [] e s m u):RVR N m Y u r v:=by
 cases r with
 |v x=>exact g.vr H
 |l T=>obtain⟨a,G,n,q,b,j,t,o,c⟩:=H;exact⟨a,G,n,q,g.keep _ _ b c nofun,g.vrs j,t,o,g.notIn b c⟩
 |g T=>obtain⟨a,q,i,k,f,M,B,h⟩:=H;exact⟨a,q,i,k,f,λp J=>⟨g.keep _ _ (M p J).1 (M p J).2.1 nofun,g.notIn (M p J).1 (M p J).2.1,(M p J).2.2⟩,g.gens _ _ B,h⟩
theorem RVR.wk(H:RVR N b z s r v)(n:∀a,z.heap.get? a=none->Y.heap.get? a=none)(g:Y.gens.size≤z.gens.size):RVR N b Y s r v:=by
 cases r with
 |v x=>exact H
 |l T=>obtain⟨a,G,k,q,h,f,j,i,m⟩:=H;exact⟨a,G,k,q,h,f,j,n _ i,m⟩
 |g T=>obtain⟨a,q,e,k,c,M,B,A,o⟩:=H;exact⟨a,q,e,k,c,λp J=>⟨(M p J).1,(M p J).2.1,n _ (M p J).2.2⟩,B,Qi g A,o⟩
theorem RVR.weak(H:RVR N b z s r v)(g:Go c a Y b z):RVR N b Y s r v:=H.wk (λU h=>g.none h) g.gsize
noncomputable def fP(N:Bx)(a:Rho)(Y s:Shared):List RV->List Value->Prop
 |[],G=>G=[]
 |r::b,G=>∃v t,G=v::t/\RVR N a Y s r v/\fP N a Y s b t
theorem fP.go(g:Go [] b s m u):∀{vs:List Value},fP N b Y s a vs->fP N m Y u a vs:=by
 induction a with
 |nil=>exact λH=>H
 |cons r a d=>exact λ⟨v,t,q,M,h2⟩=>⟨v,t,q,M.go g,d h2⟩
end

structure FR(Ω:Bx)(env:Env)(fa:List Addr)(fl:L)(ρ:Rho)(s:Shared):Prop where
 kind:env.scope.kind= .function
 glob:env.globals=mainGlobals
 blt:env.builtins=builtinsNs
 ids:∀x v,look fl x=some v->x<Ω.nms.length
 ns:∃m,s.heap.Ns env.locals m/\∀x v,look fl x=some v->env.kindOf (aA Ω x)=some .local->∃v',m (aA Ω x)=some v'/\VR ρ s.heap v v'
 cel:∀x v,look fl x=some v->env.kindOf (aA Ω x)=some .cell∨env.kindOf (aA Ω x)=some .free->
  ∃c v',env.cells.lookup (aA Ω x)=some c/\s.heap.IsCell c (some v')/\c∈fa/\c≠env.locals/\VR ρ s.heap v v'
 loc:env.locals∈fa
 disj:∀a∈fa,a∉ρ.flatten
 live:∀a∈fa,∃o,s.heap.get? a=some o/\¬Imm o
structure FC(Ω:Bx)(env:Env)(fa:List Addr)(s:Shared):Prop where
 own:∀x c,x<Ω.nms.length->env.cells.lookup (aA Ω x)=some c->c∈fa/\c≠env.locals/\∃v,s.heap.IsCell c v
 apart:∀x y c,x<Ω.nms.length->y<Ω.nms.length->env.cells.lookup (aA Ω x)=some c->env.cells.lookup (aA Ω y)=some c->x=y
 has:∀x,x<Ω.nms.length->env.kindOf (aA Ω x)=some .cell->∃c,env.cells.lookup (aA Ω x)=some c
 base:∀a∈fa,Ω.h₀.get? a=none
section
theorem FR.kept(F:FR N C f I n s)(k:∀a∈f,∀o,s.heap.get? a=some o->u.heap.get? a=some o)(x:Ext n b)(i:hJ s.heap u.heap)(d:∀a∈f,a∉b.flatten):FR N C f I b u:=by
 obtain⟨m,⟨o,Q,g,r,q⟩,t⟩:=F.ns;refine⟨F.kind,F.glob,F.blt,F.ids,⟨m,⟨o,Q,g,k _ F.loc _ r,q⟩,λx v M B=>?_⟩,λx v M B=>?_,F.loc,d,λa j=>(F.live a j).elim λo h=>⟨o,k a j o h.1,h.2⟩⟩
 · obtain⟨e,A,H⟩:=t x v M B
   exact⟨e,A,VR.mono ‹_› i _ _ H⟩
 · obtain⟨c,e,A,⟨p,y,w⟩,l,z,D⟩:=F.cel x v M B
   exact⟨c,e,A,⟨p,k _ l _ y,w⟩,l,z,VR.mono ‹_› i _ _ D⟩
theorem FC.kept(F:FC N C b s)(k:∀a∈b,∀o,s.heap.get? a=some o->u.heap.get? a=some o):FC N C b u:=
 ⟨λx c M B=>have⟨h3,h4,v,o,ho,hv⟩:=F.own x c M B;⟨h3,h4,v,o,k c h3 o ho,hv⟩,F.apart,F.has,F.base⟩
theorem FR.go(F:FR N C f I c s)(g:Go [] c s m u):FR N C f I m u:=
 F.kept (λa b o e=>g.keep a o e (F.disj a b) nofun) g.Ext g.imm λa b=>(F.live a b).elim λU h=>g.notIn h.1 (F.disj a b)
theorem FC.go(F:FC N C b s)(f:∀a∈b,a∉c.flatten)(g:Go [] c s m u):FC N C b u:=F.kept λa h o e=>g.keep a o e (f a h) nofun
end

noncomputable abbrev Kq(Ω:Bx)(ρ:Rho)(s₀ s:Shared)(r:RV)(Q:Value->Shared->Prop):Prop:=
 ∀v h' t,(∀b o,s.heap.get? b=some o->h'.get? b=some o)->RVR Ω ρ s₀ {s with heap:=h',toks:=t} r v->Q v {s with heap:=h',toks:=t}

theorem cG(h:aM n=true):n≤65536:=Qa h
theorem zA(b:Bool):bH b= !b:=by cases b<;>rfl
theorem bJ:∀{l:LN},asc l=true->∀c∈l,c<128:=by
 intro l;induction l with
 |nil=>intro _ c h;cases h
 |cons c r d=>
  intro h x j;have h:(match Nat.blt c 128 with|true=>asc r|false=>false)=true:=h;cases q:Nat.blt c 128 with
  |false=>rw[q] at h;exact ff h
  |true=>
   rw[q] at h;rcases Qe j with rfl|j
   · exact Qa q
   · exact d h x j
theorem fS:∀{l:LN},(∀c∈l,c<128)->asc l=true
 |[],_=>rfl
 |c::r,h=>by unfold asc;have:Nat.blt c 128=true:=Qd (h c (by simp));rw[this];exact fS λx j=>h x (by simp[j])
theorem jP(x:asc a=true)(y:asc b=true):asc (a++b)=true:=
 fS λc e=>(Qo e).elim (bJ x c) (bJ y c)
theorem zal{a:Type}{T:List a}:∀{n:Nat} {x:a},x∈repN T n->x∈T
 |0,_,h=>by cases h
 |n+1,x,h=>by rw[repN,List.mem_append] at h;exact h.elim id zal
theorem sO{a:Type}(T:List a):∀n:Nat,(repN T n).length=T.length*n
 |0=>rfl
 |n+1=>by show(T++repN T n).length=_;rw[List.length_append,sO T n,Nat.mul_succ];lia
theorem pK{b:Type}(T:List b):∀(n:Nat) (a:Array b),(List.replicate n T.toArray).foldl (λx y=>x++y) a=a++(repN T n).toArray
 |0,a=>by show a=a++([]:List b).toArray;simp
 |n+1,a=>by rw[List.replicate_succ,List.foldl_cons,pK T n,show repN T (n+1)=T++repN T n from rfl];simp
theorem VRs.repN(a:VRs b h T G):∀n,VRs b h (Mine.repN T n) (Mine.repN G n)
 |0=>VRs.nil
 |n+1=>VRs.append a (VRs.repN a n)

section
variable{s₀ s:Shared}

theorem zmj(g:Kq N a s₀ s (.v (.int i)) Q)(t k:Nat)(e:v= .int i t):Q v {s with toks:=k}:=by subst e;have:=g (.int i t) s.heap k (λU U e=>e) (by simp[RVR,VR]);exact this
theorem jL(j:sOk x)(g:Kq N a s₀ s (.v (.str x)) Q)(t k:Nat):Q (.str (St x) t) {s with toks:=k}:=
 g (.str (St x) t) s.heap k (λU U e=>e) (by simp only[RVR,VR];exact⟨⟨t,rfl⟩,j⟩)
theorem rK(H:HS Ω c J s)(i:∀a,s.heap.get? a=none->s₀.heap.get? a=none)(h:VRs c s.heap T G)(j:G.length≤65537)(g:Kq Ω c s₀ s (.l T) Q)(t:Nat):
 Q (.ref s.heap.objs.size) {s with heap:=s.heap.push (bZ G 0),toks:=t}:=by
 have f:s.heap.get? s.heap.objs.size=none:=by
  cases q:s.heap.get? s.heap.objs.size with
  |none=>rfl
  |some o=>exact absurd (Qw q) (Qr _)
 exact g _ _ t (λU U e=>Qc _ e) ⟨_,G,0,rfl,Qk _ rfl,VRs.mono (Ext.refl c) (λb o e U=>Qc _ e) _ _ h,j,i _ f,H.notIn f⟩

theorem oP(h:small i=true):i.natAbs<4611686018427387904:=Qa h
theorem zgr(h:small a=true):IntMulOk a b:=by have M:=oP h;exact .of_left (intBits_le_64 (by lia) (by lia))
theorem zdz(h:bH (Z.eqB b 0)=true):b≠0:=by rintro rfl;cases h
theorem oQ(h:small b=true):Builtin.divisionGoesByPylong a b=false:=by
 refine PyProof.noPylong_of_log2 ?_;have M:=oP h;by_cases c:b.natAbs=0
 · rw[c];decide+kernel
 · have:b.natAbs.log2<64:=(Nat.log2_lt c).mpr (by lia)
   lia
theorem pE(g:Kq N b s₀ s (.v (.int c)) Q)(e:a=c):Q (.int a t) {s with toks:=k}:=zmj g t k (congrArg (Value.int · t) e)
theorem zyi{a b c:Int}(e:yer a b=some c){G:Prop}(k:∀n:Nat,a=2->b= .ofNat n->n<64->(2:Int)^n=c->G):G:=by refine aB e λm M e=>?_;refine aB e λn B e=>?_;refine aJ e λA e=>?_;refine aJ e λf e=>?_;exact k n ((zhh M).trans (congrArg _ (aN A))) (zhh B) (Qa f) ((Int.natCast_pow 2 n).symm.trans (prf e))
theorem zzj{a b c:Int}(e:yfg a b=some c){G:Prop}(k:∀n:Nat,a.natAbs<2^64->b= .ofNat n->n<64->a*2^n=c->G):G:=by refine aB e λm M e=>?_;refine aB e λn B e=>?_;refine aJ e λA e=>?_;refine aJ e λf e=>?_;have M:=zhh M;have e:Int.ofNat (m*2^n)=c:=prf e;refine k n (by rw[M];exact Qa A) (zhh B) (Qa f) (M▸Eq.trans ?_ e);exact((congrArg (Int.ofNat m* ·) (Int.natCast_pow 2 n).symm).trans (Int.natCast_mul m (2^n)).symm)
theorem zg9{b:Int}{n:Nat}(a:b= .ofNat n)(c:n<64):0≤b/\b≤1000000/\b.toNat=n:=by subst a;exact⟨Int.natCast_nonneg n,by show(n:Int)≤_;lia,rfl⟩
theorem ztz{o:Operator}{a b c:Int}{t u:Tok}(e:zb5 o a b=some c)(g:Kq N j s₀ s (.v (.int c)) Q):wpAny N.M A (binaryOp o (.int a t) (.int b u)) Q E s:=by
 cases o with
 |Add=>exact PyProof.Rows.add_int (pE g (prf e))
 |Sub=>exact PyProof.Rows.sub_int (pE g (prf e))
 |Mult=>exact PyProof.Rows.mul_int (pE g (prf (aS (aS e).2).2)) (zgr (aS e).1)
 |Mod=>exact PyProof.Rows.mod_int' (zdz (aS e).1) (pE g (prf (aS (aS e).2).2))
 |FloorDiv=>exact PyProof.Rows.floordiv_int (zdz (aS e).1) (pE g (prf (aS (aS e).2).2)) (.inl (oQ (aS (aS e).2).1))
 |Pow=>exact zyi e λn h B f i=>pow_int_small (zg9 B f).1 (zg9 B f).2.1 (by rw[h];decide) (pE g (by rw[(zg9 B f).2.2,h];exact i))
 |LShift=>exact zzj e λn h B f i=>lshift_int_small (zg9 B f).1 (zg9 B f).2.1 h (pE g (by rw[(zg9 B f).2.2];exact i))
 |BitXor=>exact PyProof.Rows.xor_int (pE g (prf e))
 |BitAnd=>exact PyProof.Rows.and_int (pE g (prf e))
 |_=>exact nn e
noncomputable def yg8(o:Operator):Bool:=match o with| .Add=>true| .Sub=>true| .BitXor=>true|_=>false
theorem zuf(f:yg8 o=true)(e:zb5 o a b=some c)(g:Kq Ω ρ s₀ s (.v (.int c)) Q):wpAny Ω.M A (inplaceOp o (.int a t) (.int b u)) Q E s:=by
 cases o with
 |Add=>exact PyProof.Rows.iadd_int (pE g (prf e))
 |Sub=>exact PyProof.Rows.isub_int (pE g (prf e))
 |BitXor=>exact PyProof.Rows.ixor_int (pE g (prf e))
 |_=>exact ff f

theorem gE(x y:LN):St x++St y=St (x++y):=by show Str.mk (x.toArray++y.toArray)=_;simp
theorem aQ(x:LN):(St x).length=x.length:=by show x.toArray.size=_;simp
theorem Kq.here(g:Kq N a s₀ s r Q)(h:RVR N a s₀ s r v):Q v s:=g v s.heap s.toks (λU U e=>e) h

theorem nF(h:xM i=some k):i.toNat=k/\(i<1->k=0)/\k≤65536/\i<65537/\-65538<i:=by
 cases i with
 |ofNat n=>refine aJ h λM h=>?_;have:=cG M;cases prf h;refine⟨rfl,λh=>?_,this,?_,?_⟩<;>simp only[Int.ofNat_eq_natCast] at* <;>lia
 |negSucc n=>refine aJ h λM h=>?_;have:=cG M;cases prf h;exact⟨rfl,λU=>rfl,by lia,by lia,by lia⟩
theorem zak{a:Type}(k:Nat):repN ([]:List a) k=[]:=by
 induction k with
 |zero=>rfl
 |succ k d=>exact d
set_option tactic.hygienic true in
theorem zpz(b:xM n=some k):Txt.mul (St x) n=St (repN x k):=by
 obtain⟨M,B,A,e,c⟩:=nF b;unfold Txt.mul;split
 · rename_i q;rw[B q];rfl
 · split
   · rename_i a
     rcases(Bool.or_eq_true _ _).mp a with a|a
     · have:n=1:=eq_of_beq a
       subst this;cases M;exact congrArg (λl=>St l) (List.append_nil x).symm
     · have:x=[]:=List.eq_nil_of_length_eq_zero ((aQ x).symm.trans (eq_of_beq a))
       subst this;rw[zak]
   · rw[M]
     show Str.mk ((List.replicate k x.toArray).foldl (λx y=>x++y) #[])=_;rw[pK];simp
theorem zky(j:x.length≤65536)(a:xM n=some k)(b:x.length*k≤65536):MulOk (St x) n:=by
 obtain⟨M,B,A,f,c⟩:=nF a;refine⟨?_,?_,?_⟩
 · rw[Bool.or_eq_false_iff];exact⟨decide_eq_false (by lia),decide_eq_false (by lia)⟩
 · intro q _ z
   rw[aQ] at z;have:(9223372036854775807:Int)/n≥65537:=by
    apply Int.le_ediv_of_mul_le (by lia)
    lia
   have e:((2:Int)^63-1)=9223372036854775807:=by decide
   rw[e] at z
   lia
 · intro _ _
   rw[M,aQ];unfold Builtin.Str.tooLong;exact decide_eq_false (by rw[sizeLine_eq];lia)
theorem zrm(j:sOk x)(a:x.length*k≤65536):sOk (repN x k):=⟨fS λc b=>bJ j.1 c (zal b),by rw[sO];exact a⟩
theorem zgn(j:sOk x)(a:xM n=some k)(b:x.length*k≤65536)(g:Kq N f s₀ s (.v (.str (repN x k))) Q):
 wpAny N.M A (binaryOp .Mult (.str (St x) t) (.int n u)) Q E s:=
 SB.mul (zky j.2 a b) λc e=>(zpz a).symm▸jL (zrm j b) g c e
theorem zqn(j:sOk x)(b:sOk y)(a:x.length+y.length≤65536)(g:Kq N c s₀ s (.v (.str (x++y))) Q):wpAny N.M A (binaryOp .Add (.str (St x) t) (.str (St y) u)) Q E s:=by refine PyProof.Rows.add_str (λe k=>?_) (by rw[aQ,aQ,sizeLine_eq];exact Qi a (by decide));rw[gE];exact jL ⟨jP j.1 b.1,by rw[List.length_append];exact a⟩ g _ _

theorem tyL(h:s.heap.get? a=some (bZ G n)):s.TypeIs (.ref a) "list":=⟨_,h,rfl⟩
theorem tyT(h:s.heap.get? a=some (oK G n)):s.TypeIs (.ref a) "tuple":=⟨_,h,rfl⟩
theorem zdl(H:HS N f J s)(p:∀a,s.heap.get? a=none->s₀.heap.get? a=none)(i:s.heap.get? a=some (bZ G n))(h:s.heap.get? b=some (bZ c m))
 (o:VRs f s.heap T G) (k:VRs f s.heap j c) (q:G.length+c.length≤65536) (g:Kq N f s₀ s (.l (T++j)) Q):wpAny N.M A (binaryOp .Add (.ref a) (.ref b)) Q E s:=by
 have e:G.toArray++c.toArray=(G++c).toArray:=by simp
 refine concat_meets (tyL i) (tyL h) noFill_list_add seq_list_add PySem.F.slot_list_add PySem.F.entry_list_add (PySem.F.args_list_add_2 _ _)
  (list_addW a b G.toArray c.toArray n m none none #[] #[] (by rw[sizeLine_eq];simp only[List.size_toArray];lia)) ⟨i,h,?_⟩
 rw[e];exact rK H p (o.append k) (by rw[List.length_append];lia) g _
set_option tactic.hygienic true in
theorem zgz{G:List Value}{i:Int}{k:Nat}(M:i.toNat=k):List.foldl (λb a=>b++a) #[] (List.replicate (if G.toArray.isEmpty=true then 0 else i.toNat) G.toArray)=(repN G k).toArray:=by
 split
 · rename_i q
   have:G=[]:=by simpa using q
   subst this;rw[zak];rfl
 · rw[M,pK];simp
theorem zg0(a:xM i=some k):¬(!Builtin.List.listFitsIndex i)=true:=by obtain⟨M,B,A,c,b⟩:=nF a;simp[Builtin.List.listFitsIndex];lia
theorem vQ{n k:Nat}{i:Int}(a:i.toNat=k)(b:n*k≤65536):¬n*i.toNat>(2^63-1)/8/\¬Builtin.List.listTooLong (n*i.toNat)=true:=by rw[a];exact⟨by lia,by simp[Builtin.List.listTooLong,sizeLine];lia⟩
theorem zdk(H:HS N f J s)(p:∀a,s.heap.get? a=none->s₀.heap.get? a=none)(b:s.heap.get? a=some (bZ G n))
 (o:VRs f s.heap j G) (h:xM i=some k) (c:G.length*k≤65536) (g:Kq N f s₀ s (.l (repN j k)) Q):wpAny N.M A (binaryOp .Mult (.ref a) (.int i u)) Q E s:=
 have e:=(nF h).1
 wpAny_binaryOp_repeat_ref (T:="list") (U:="int") (by decide) (tyL b) (λm=>typeIs_int m i u) noFill_list_mul PySem.F.fills_int_mul PySem.F.slot_int_rmul repeat_list PySem.F.slot_int_index.lookup
  (call_meets PySem.F.slot_int_rmul (typeIs_int s i u) PySem.F.entry_int_rmul (PySem.F.args_int_rmul_2 _ _) (int___rmul___int_list i u a G.toArray n)
   ⟨b,rfl,⟨_,b,rfl⟩,call_meets PySem.F.slot_list_mul (tyL b) PySem.F.entry_list_mul (PySem.F.args_list_mul_2 _ _)
    (AutoListH.list___mul___list_int_3 a G.toArray n i u (zg0 h) (vQ e c).1 (vQ e c).2)
    ⟨b,(zgz e).symm▸rK H p (o.repN k) (sO G k▸Qy c) g _⟩⟩)
theorem rvI(e:rI r=some i)(R:RVR N a s₀ s r v):∃t,v= .int i t:=by rw[zyg e] at R;exact R
theorem rvS(e:rS r=some x)(R:RVR N a s₀ s r v):(∃t,v= .str (St x) t)/\sOk x:=by rw[sQ e] at R;exact R
theorem rvV(e:rV r=some x)(R:RVR N a s₀ s r v):VR a s.heap x v:=by rw[zg2 e] at R;exact R
theorem jK(H:HS N b J s)(e:dH n J=some T)(R:VR b s.heap (.ref n) v):∃a G k,v= .ref a/\nth b n=some [a]/\s.heap.get? a=some (bZ G k)/\VRs b s.heap T G/\G.length≤65537:=by refine aB e λo h l=>?_;rw[zyu l] at h;obtain⟨a,r,c,i⟩:=R;obtain⟨m,G,k,f,B,A,j⟩:=H.obj _ _ _ h c;rw[f] at c;cases f;exact⟨a,G,k,i,c,B,A,j⟩
theorem ztq(H:HS N b J s)(e:cont r J=some T)(R:RVR N b s₀ s r v):∃a G n,v= .ref a/\s.heap.get? a=some (bZ G n)/\VRs b s.heap T G/\G.length≤65537:=by
 cases r with
 |l c=>obtain⟨a,G,n,M,B,A,f,_⟩:=R;exact⟨a,G,n,M,B,prf e▸A,f⟩
 |v x=>refine aB e λn i h=>?_;rw[zpu i] at R;obtain⟨a,G,k,M,_,B⟩:=jK H h R;exact⟨a,G,k,M,B⟩
 |g c=>exact nn e
theorem yb7{a b r:RV}(e:yb8 a b J=some r){G:Prop}(j:∀x y,rS a=some x->rS b=some y->x.length+y.length≤65536-> .v (.str (x++y))=r->G)
 (i:∀T c,cont a J=some T->cont b J=some c->T.length+c.length≤65536-> .l (T++c)=r->G):G:=by
 rcases dQ e with e|e
 · refine aB e λx h e=>?_
   refine aB e λy f e=>?_;exact j x y h f (aK x▸aK y▸cG (aS e).1) (prf (aS e).2)
 · refine aB e λx h e=>?_
   refine aB e λy f e=>?_;exact i x y h f (aK x▸aK y▸cG (aS e).1) (prf (aS e).2)
theorem zy0{a b r:RV}(e:zy4 a b J=some r){G:Prop}(j:∀x n k,rI b=some n->xM n=some k->rS a=some x->x.length*k≤65536-> .v (.str (repN x k))=r->G)
 (i:∀T n k,rI b=some n->xM n=some k->cont a J=some T->T.length*k≤65536-> .l (repN T k)=r->G):G:=by
 refine aB e λn h e=>?_;refine aB e λk f e=>?_;rcases dQ e with e|e
 · refine aB e λx c e=>?_
   exact j x n k h f c (aK x▸cG (aS e).1) (prf (aS e).2)
 · refine aB e λx c e=>?_
   exact i x n k h f c (aK x▸cG (aS e).1) (prf (aS e).2)
@[elab_as_elim] theorem rvI_e {r:RV} {v:Value} {i:Int} (e:rI r=some i) (R:RVR Ω ρ s₀ s r v) {P:Value->Prop} (k:∀t,P (.int i t)):P v:=by obtain⟨t,rfl⟩:=rvI e R;exact k t
@[elab_as_elim] theorem rvS_e {r:RV} {v:Value} {x:LN} (e:rS r=some x) (R:RVR Ω ρ s₀ s r v) {P:Value->Prop} (k:∀t,sOk x->P (.str (St x) t)):P v:=by obtain⟨⟨t,rfl⟩,h⟩:=rvS e R;exact k t h
@[elab_as_elim] theorem cont_e (H:HS Ω ρ hp s) {r:RV} {v:Value} {xs:List V} (e:cont r hp=some xs) (R:RVR Ω ρ s₀ s r v) {P:Value->Prop} (k:∀a vs n,s.heap.get? a=some (bZ vs n)->VRs ρ s.heap xs vs->vs.length≤65537->P (.ref a)):P v:=by obtain⟨a,vs,n,rfl,h1,h2,h3⟩:=ztq H e R;exact k a vs n h1 h2 h3
theorem zur(H:HS N c J s)(u:∀a,s.heap.get? a=none->s₀.heap.get? a=none){a b r:RV}{l k:Value}(e:yb8 a b J=some r)(n:RVR N c s₀ s a l)(m:RVR N c s₀ s b k)
 (g:Kq N c s₀ s r Q):wpAny N.M A (binaryOp .Add l k) Q E s:=
 yb7 e (λU U j i h f=>rvS_e j n λU t=>rvS_e i m λU q=>zqn t q h (f▸g))
  (λU U j i h f=>cont_e H j n λU U U w p U=>cont_e H i m λU U U v o U=>zdl H u w v p o (p.len▸o.len▸h) (f▸g))
theorem zrz(H:HS N c J s)(t:∀a,s.heap.get? a=none->s₀.heap.get? a=none){a b r:RV}{m l:Value}(e:zy4 a b J=some r)(o:RVR N c s₀ s a m)(n:RVR N c s₀ s b l)
 (g:Kq N c s₀ s r Q):wpAny N.M A (binaryOp .Mult m l) Q E s:=
 zy0 e (λU U U j i k h f=>rvI_e j n λU=>rvS_e k o λU q=>zgn q i h (f▸g))
  (λU U U j i k h f=>rvI_e j n λU=>cont_e H k o λU U U u p U=>zdk H t u p i (p.len▸h) (f▸g))
theorem yak{o:Operator}{a b r:RV}(e:(bd (rI a) λx=>bd (rI b) λy=>bd (zb5 o x y) λz=>some (RV.v (.int z)))=some r){G:Prop}(k:∀x y z,rI a=some x->rI b=some y->zb5 o x y=some z-> .v (.int z)=r->G):G:=by refine aB e λx h e=>?_;refine aB e λy f e=>?_;refine aB e λz c e=>?_;exact k x y z h f c (prf e)
theorem zoa(H:HS N c J s)(k:∀a,s.heap.get? a=none->s₀.heap.get? a=none){o:Operator}{a b r:RV}{j i:Value}(e:qG o a b J=some r)(h:RVR N c s₀ s a j)(f:RVR N c s₀ s b i)
 (g:Kq N c s₀ s r Q):wpAny N.M A (binaryOp o j i) Q E s:=by
 rcases dQ e with e|e
 · exact yak e λU U U p n m l=>rvI_e p h λU=>rvI_e n f λU=>ztz m (l▸g)
 · rcases ye2 e with⟨rfl,e⟩|⟨rfl,e⟩
   · exact zur H k e h f g
   · exact zrz H k e h f g
end

def aD(x:V):PyData:=match x with
 | .none=> .none
 | .bool b=> .bool b
 | .int i=> .int i
 | .str s=> .str (St s)
 |_=> .none
def vD(x:V):PyData:=match x with
 | .tup T=> .tuple (T.map aD)
 |x=>aD x
theorem qE(h:cs a b false=true):a=true/\b=true:=by
 cases a with
 |true=>exact⟨rfl,h⟩
 |false=>exact ff h
theorem eB(h:mM (x::r)=true):pla x=true/\mM r=true:=qE h
theorem fG(h:pls (x::r)=true):pl x=true/\pls r=true:=qE h
@[elab_as_elim] theorem pla_e {P:V->Prop} {x:V} (h:pla x=true) (h1:P .none) (h2:∀b,P (.bool b)) (h3:∀i,P (.int i)) (h4:∀s,P (.str s)):P x:=by cases x<;>first|exact ff h|exact h1|exact h2 _|exact h3 _|exact h4 _
@[elab_as_elim] theorem pl_e {P:V->Prop} {x:V} (h:pl x=true) (h0:∀xs,mM xs=true->P (.tup xs)) (h1:P .none) (h2:∀b,P (.bool b)) (h3:∀i,P (.int i)) (h4:∀s,P (.str s)):P x:=by cases x<;>first|exact ff h|exact h1|exact h2 _|exact h3 _|exact h4 _|exact h0 _ h
theorem zl6:∀a:LN,leq a a=true:=by
 intro a;induction a with
 |nil=>rfl
 |cons x r d=>show cs (Nat.beq x x) (leq r r) false=true;rw[Nat.beq_refl];exact d
theorem cN:leq a b=true->a=b:=by
 induction a generalizing b with
 |nil=>intro h;cases b with|nil=>rfl|cons _ _=>exact ff h
 |cons x r d=>
  intro h;cases b with
  |nil=>exact ff h
  |cons y t=>obtain⟨M,B⟩:=qE (a:=Nat.beq x y) (b:=leq r t) h;rw[aN M,d B]
theorem zsb(a b:LN):leq a b=true↔a=b:=⟨cN,λh=>h▸zl6 a⟩
theorem eqB_iff'(a b:Int):Z.eqB a b=(a==b):=by rw[Bool.eq_iff_iff,Z.eqB_iff,beq_iff_eq]
theorem yE(a b:LN):leq a b=(St a==St b):=by rw[Bool.eq_iff_iff,zsb,beq_iff_eq];exact⟨λh=>h▸rfl,λh=>congrArg (λx:Str=>x.cps.toList) h⟩
theorem zD(j:pla x=true)(c:pla y=true):aE x y=PyData.eqv (aD x) (aD y):=
 pla_e j (pla_e c rfl (λU=>rfl) (λU=>rfl) (λU=>rfl))
  (λa=>pla_e c rfl (λb=>by cases a<;>cases b<;>rfl) (λb=>(eqB_iff' _ _).trans (by cases a<;>rfl)) (λU=>rfl))
  (λa=>pla_e c rfl (λb=>(eqB_iff' _ _).trans (by cases b<;>rfl)) (λb=>eqB_iff' a b) (λU=>rfl))
  (λa=>pla_e c rfl (λU=>rfl) (λU=>rfl) (λb=>yE a b))
theorem zny(a b:Bool):cs a b false=(a&&b):=by cases a<;>rfl
theorem zus:mM x=true->mM y=true->aEs x y=PyData.eqvAll (x.map aD) (y.map aD):=by
 induction x generalizing y with
 |nil=>intro _ _;cases y<;>rfl
 |cons a r d=>
  intro j c;cases y with
  |nil=>rfl
  |cons b t=>exact((zny _ _).trans (congr (congrArg _ (zD (eB j).1 (eB c).1)) (d (eB j).2 (eB c).2)))
theorem zcl{x y:V}(j:pl x=true)(c:pl y=true):vE x y=PyData.eqv (vD x) (vD y):=
 pl_e j (λa f=>pl_e c (λb e=>zus f e) rfl (λU=>rfl) (λU=>rfl) (λU=>rfl))
  (pl_e c (λU U=>rfl) rfl (λU=>rfl) (λU=>rfl) (λU=>rfl))
  (λa=>pl_e c (λU U=>rfl) rfl (λb=>zD (x:= .bool a) (y:= .bool b) rfl rfl) (λb=>zD (x:= .bool a) (y:= .int b) rfl rfl) (λU=>rfl))
  (λa=>pl_e c (λU U=>rfl) rfl (λb=>zD (x:= .int a) (y:= .bool b) rfl rfl) (λb=>eqB_iff' a b) (λU=>rfl))
  (λa=>pl_e c (λU U=>rfl) rfl (λU=>rfl) (λU=>rfl) (λb=>yE a b))
theorem zpv{x y:List V}:pls x=true->pls y=true->vEs x y=PyData.eqvAll (x.map vD) (y.map vD):=by
 induction x generalizing y with
 |nil=>intro _ _;cases y<;>rfl
 |cons a r d=>
  intro j c;cases y with
  |nil=>rfl
  |cons b t=>exact((zny _ _).trans (congr (congrArg _ (zcl (fG j).1 (fG c).1)) (d (fG j).2 (fG c).2)))
theorem qW(j:pl x=true):pls a=true->vin x a=(a.map vD).any λy=>PyData.eqv y (vD x):=by
 induction a with
 |nil=>intro _;rfl
 |cons y r d=>intro h;show cs (vE y x) true (vin x r)=(PyData.eqv (vD y) (vD x)||(r.map vD).any λy=>PyData.eqv y (vD x));rw[←d (fG h).2,←zcl (fG h).1 j];cases vE y x<;>rfl
theorem zyk(h:pla x=true):pl x=true:=pla_e h rfl (λU=>rfl) (λU=>rfl) (λU=>rfl)
theorem zaq{T:List V}:mM T=true->pls T=true:=by
 induction T with
 |nil=>intro _;rfl
 |cons x r d=>intro h;show cs (pl x) (pls r) false=true;rw[zyk (eB h).1];exact d (eB h).2

section
@[elab_as_elim] theorem vrs_e {P:List Value->Prop} {x:V} {r:List V} {vs:List Value} (R:VRs ρ h (x::r) vs) (k:∀v t,VR ρ h x v->VRs ρ h r t->P (v::t)):P vs:=by obtain⟨v,t,rfl,h1,h2⟩:=R;exact k v t h1 h2
@[elab_as_elim] theorem vrs_n {P:List Value->Prop} {vs:List Value} (R:VRs ρ h [] vs) (k:P []):P vs:=by cases(show vs=[] from R);exact k
theorem uH(j:pla x=true):VR a h x v->Reads h v (aD x) []:=
 pla_e j (λR=>(show v= .none from R)▸.none) (λb R=>(show v= .bool b from R)▸.bool _) (λi R=>by obtain⟨t,rfl⟩:=R;exact .int _ _) (λi R=>by obtain⟨⟨t,rfl⟩,_⟩:=R;exact .str _ _)
theorem zh5:mM T=true->VRs a h T G->ReadsAll h G (T.map aD) []:=by
 induction T generalizing G with
 |nil=>exact λU R=>vrs_n R .nil
 |cons x r d=>exact λj R=>vrs_e R λv t M B=> .cons (as:=[]) (bs:=[]) (uH (eB j).1 M) (d (eB j).2 B)
theorem oD(j:pl x=true):VR i h x v->Reads h v (vD x) []:=
 pl_e j (λT c R=>by obtain⟨a,G,n,rfl,f,e,_⟩:=R;exact .tuple f rfl rfl (zh5 c e))
  (uH (x:= .none) rfl) (λb=>uH (x:= .bool b) rfl) (λb=>uH (x:= .int b) rfl) (λb=>uH (x:= .str b) rfl)
theorem vG:pls T=true->VRs a h T G->ReadsAll h G (T.map vD) []:=by
 induction T generalizing G with
 |nil=>exact λU R=>vrs_n R .nil
 |cons x r d=>exact λj R=>vrs_e R λv t M B=> .cons (as:=[]) (bs:=[]) (oD (fG j).1 M) (d (fG j).2 B)
theorem zjg(q:sOk l):(PyData.str (St l)).canLay0=true:=by rw[PyData.canLay0];unfold PyData.strOk;rw[Array.all_eq_true_iff_forall_mem];intro c a;have:=bJ q.1 c (by simpa using a);exact decide_eq_true (by lia)
theorem yhc(R:VR a h x v):(aD x).canLay0=true/\(aD x).depth=0:=by
 cases x with
 |str l=>exact⟨zjg R.2,rfl⟩
 |_=>exact⟨rfl,rfl⟩
theorem zf9:VRs a h T G->PyData.canLayAll0 (T.map aD)=true/\PyData.depthAll (T.map aD)=0:=by
 induction T generalizing G with
 |nil=>exact λU=>⟨rfl,rfl⟩
 |cons x r d=>
  intro R;refine vrs_e R λv t M B=>⟨?_,?_⟩
  · show(PyData.canLay0 (aD x)&&PyData.canLayAll0 (r.map aD))=true
    rw[(yhc M).1,(d B).1];rfl
  · show max (aD x).depth (PyData.depthAll (r.map aD))=0
    rw[(yhc M).2,(d B).2];rfl
theorem qM(R:VR c h x v):(vD x).canLay0=true/\(vD x).depth≤1:=by
 cases x with
 |str l=>exact⟨zjg R.2,Qb _⟩
 |tup T=>obtain⟨a,G,n,rfl,e,b,_⟩:=R;refine⟨(zf9 b).1,?_⟩;show PyData.depthAll (T.map aD)+1≤1;rw[(zf9 b).2];exact Qm _
 |_=>exact⟨rfl,Qb _⟩
theorem qX:VRs a h T G->PyData.canLayAll0 (T.map vD)=true/\PyData.depthAll (T.map vD)≤1:=by
 induction T generalizing G with
 |nil=>exact λU=>⟨rfl,Qb _⟩
 |cons x r d=>intro R;refine vrs_e R λv t M B=>⟨?_,Nat.max_le.mpr ⟨(qM M).2,(d B).2⟩⟩;show(PyData.canLay0 (vD x)&&PyData.canLayAll0 (r.map vD))=true;rw[(qM M).1,(d B).1];rfl
end

section
variable{Ω:Bx}{s₀ s:Shared}

structure Rd(h:Heap)(v:Value)(d:PyData):Prop where
 rd:∃as,Reads h v d as
 lay:d.canLay0=true
 dep:d.depth≤2
theorem xN{v:Value}{T:List V}{a:Addr}{G:List Value}{n:Nat}(c:s.heap.get? a=some (bZ G n))(b:VRs e s.heap T G)(J:pls T=true):Rd s.heap (.ref a) (.list (T.map vD)):=
 ⟨⟨_,.list c rfl rfl (vG J b)⟩,(qX b).1,Qs (qX b).2⟩
theorem zyd{T:List V}{a:Addr}{G:List Value}{n:Nat}(c:s.heap.get? a=some (oK G n))(b:VRs e s.heap T G)(J:mM T=true):Rd s.heap (.ref a) (.tuple (T.map vD)):=
 ⟨⟨_,.tuple c rfl rfl (vG (zaq J) b)⟩,(qX b).1,Qs (qX b).2⟩
theorem yep{v:Value}{x:V}(j:pl x=true)(R:VR a s.heap x v):Rd s.heap v (vD x):=⟨⟨_,oD j R⟩,(qM R).1,Qy (qM R).2⟩
theorem znv{a b:PyData}(h:b.depth≤2){n:Nat}(c:n+70<cLine):n+min a.depth b.depth<cLine:=
 Qq (Nat.add_le_add_left (Qi (Nat.min_le_right _ _) (Qi h (by decide))) n) c
theorem ygi{a b:RV}{r:Bool}(e:eqR a b J=some r){G:Prop}(h:∀T c,cont a J=some T->cont b J=some c->pls T=true->pls c=true->vEs T c=r->G)
 (f:∀x y,rV a=some x->rV b=some y->pl x=true->pl y=true->vE x y=r->G):G:=by
 rcases dQ e with e|e
 · refine aB e λT M e=>?_
   refine aB e λc B e=>?_;exact h T c M B (aS e).1 (aS (aS e).2).1 (prf (aS (aS e).2).2)
 · refine aB e λT M e=>?_
   refine aB e λc B e=>?_;exact f T c M B (aS e).1 (aS (aS e).2).1 (prf (aS (aS e).2).2)
theorem zns(H:HS Ω n J s){a b:RV}{r:Bool}{l h:Value}(e:eqR a b J=some r)(p:RVR Ω n s₀ s a l)(o:RVR Ω n s₀ s b h){G:Prop}
 (k:∀f c,Rd s.heap l f->Rd s.heap h c->PyData.eqv f c=r->G):G:=
 ygi e (λU U M B j i m=>cont_e H M p (P:=λl=>(∀f c,Rd s.heap l f->Rd s.heap h c->PyData.eqv f c=r->G)->G) (λU U U w u U k=>cont_e H B o (P:=λh=>(∀f c,Rd s.heap _ f->Rd s.heap h c->PyData.eqv f c=r->G)->G)
  (λU U U t q U k=>k _ _ (xN (v:= .none) w u j) (xN (v:= .none) t q i) ((zpv j i).symm.trans m)) k) k)
  (λU U M B j i m=>k _ _ (yep j (rvV M p)) (yep i (rvV B o)) ((zcl j i).symm.trans m))
theorem zwa(i:A.units+70<cLine)(a:Rd s.heap c k)(B:Rd s.heap b j):
 (Q (.bool (PyData.eqv k j)) s->wpAny Ω.M A (compareOp .Eq c b) Q E s)/\(Q (.bool (!PyData.eqv k j)) s->wpAny Ω.M A (compareOp .NotEq c b) Q E s):=
 a.rd.elim λU f=>B.rd.elim λU e=>⟨λh=>PySem.SeqAt.compareEq_reads f e a.lay B.lay (znv B.dep i) h,λh=>PySem.SeqAt.compareNe_reads f e a.lay B.lay (znv B.dep i) h⟩

theorem zk4(c:Nat)(l:LN):pA c l=decide (c∈l):=by
 induction l with
 |nil=>rfl
 |cons x r d=>
  show cs (Nat.beq x c) true (pA c r)=_;cases q:Nat.beq x c with
  |true=>rw[aN q];simp[cs]
  |false=>have:=lD q;rw[d];simp[cs,Ne.symm this]
theorem qF(c:Nat)(l:LN):Txt.contains (St l) (St [c])=pA c l:=by unfold Txt.contains;have:=StrLaws.found_one (St l) c;rw[show(⟨#[c]⟩:Str)=St [c] from rfl] at this;rw[this,zk4]
theorem yfv{a b:RV}{r:Bool}(e:inR a b J=some r){G:Prop}(k:∀c y,rS a=some [c]->rS b=some y->pA c y=r->G)
 (j:∀x f,rV a=some x->rV b=some (.tup f)->pl x=true->mM f=true->vin x f=r->G)
 (i:∀x f,rV a=some x->cont b J=some f->pl x=true->pls f=true->vin x f=r->G):G:=by
 refine aB e λx M e=>?_;rcases dQ e with e|e
 · refine aB e λy B e=>?_
   refine aB e λt A e=>?_;refine aB e λc h e=>?_;rw[vF h] at A;exact k c y (by rw[zg2 M,zir A];rfl) B (prf e)
 · rcases dQ e with e|e
   · refine aB e λy B e=>?_
     refine aB B λt A h=>?_;rw[zck h] at A;exact j x y M A (aS e).1 (aS (aS e).2).1 (prf (aS (aS e).2).2)
   · refine aB e λy B e=>?_
     exact i x y M B (aS e).1 (aS (aS e).2).1 (prf (aS (aS e).2).2)
noncomputable abbrev Two(Ω:Bx)(A:Around)(E Q:Value->Shared->Prop)(s:Shared)(o p:CmpOp)(b a:Value)(r:Bool):Prop:=
 (Q (.bool r) s->wpAny Ω.M A (compareOp o b a) Q E s)/\(Q (.bool (!r)) s->wpAny Ω.M A (compareOp p b a) Q E s)
theorem ztl{a b:PyData}(h:b.depth≤1){d:Nat}{n:Nat}(c:n+70<cLine):n+1+min d b.depth<cLine:=by
 have:=Nat.min_le_right d b.depth
 lia
theorem yal(f:A.units+70<cLine){c v:Value}{T:List V}(M:Rd s.heap c (.tuple (T.map vD))){x:V}{r:Bool}(j:pl x=true)(R:VR k s.heap x v)(i:pls T=true)(e:vin x T=r):Two Ω A E Q s .In .NotIn v c r:=
 M.rd.elim λU b=>⟨λh=>PySem.SeqAt.in_tuple_reads b (oD j R) M.lay (qM R).1 (ztl (a:= .none) (qM R).2 f) (qW j i▸e▸h),λh=>PySem.SeqAt.notIn_tuple_reads b (oD j R) M.lay (qM R).1 (ztl (a:= .none) (qM R).2 f) (qW j i▸e▸h)⟩
theorem yam(f:A.units+70<cLine){c v:Value}{T:List V}(M:Rd s.heap c (.list (T.map vD))){x:V}{r:Bool}(j:pl x=true)(R:VR k s.heap x v)(i:pls T=true)(e:vin x T=r):Two Ω A E Q s .In .NotIn v c r:=
 M.rd.elim λU b=>⟨λh=>PySem.SeqAt.in_list_reads b (oD j R) M.lay (qM R).1 (ztl (a:= .none) (qM R).2 f) (qW j i▸e▸h),λh=>PySem.SeqAt.notIn_list_reads b (oD j R) M.lay (qM R).1 (ztl (a:= .none) (qM R).2 f) (qW j i▸e▸h)⟩
@[elab_as_elim] theorem rvT_e {b:RV} {v:Value} {ys:List V} (e:rV b=some (.tup ys)) (R:RVR Ω ρ s₀ s b v) {P:Value->Prop} (k:∀a vs n,s.heap.get? a=some (oK vs n)->VRs ρ s.heap ys vs->vs.length≤65536->P (.ref a)):P v:=by have R:VR ρ s.heap (.tup ys) v:=rvV e R;obtain⟨a,vs,n,rfl,h1,h2,h3⟩:=R;exact k a vs n h1 h2 h3
theorem zmv(H:HS Ω o J s)(t:A.units+70<cLine){a b:RV}{r:Bool}{q p:Value}(e:inR a b J=some r)(k:RVR Ω o s₀ s a q)(j:RVR Ω o s₀ s b p):Two Ω A E Q s .In .NotIn q p r:=
 yfv e (λc y M B f=>rvS_e M k λU U=>rvS_e B j λU U=>⟨λh=>SB.contains (by rw[qF,f];exact h),λh=>SB.notContains (by rw[qF,f];exact h)⟩)
  (λx u M B l i f=>rvT_e B j λU U U n m U=>yal t (zyd n m i) l (rvV M k) (zaq i) f)
  (λx u M B l i f=>cont_e H B j λU U U n m U=>yam t (xN (v:= .none) n m i) l (rvV M k) i f)
theorem gU{b a:Value}(M:plainIs b a=true)(B:b≠a):Two Ω A E Q s .Is .IsNot b a false:=⟨λh=>wpAny_is_other M B h,λh=>wpAny_isNot_other M B h⟩
theorem rO{a:Value}(M:plainIs a a=true):Two Ω A E Q s .Is .IsNot a a true:=⟨λh=>wpAny_is_self M h,λh=>wpAny_isNot_self M h⟩
theorem yah(e:isN x=some r)(c:VR h s.heap x f):Two Ω A E Q s .Is .IsNot f .none r:=by
 cases x with
 |none=>cases(show f= .none from c);exact prf e▸rO rfl
 |bool b=>exact prf e▸(show f= .bool b from c)▸gU rfl nofun
 |int i=>obtain⟨t,rfl⟩:=c;exact prf e▸gU rfl nofun
 |str i=>obtain⟨⟨t,rfl⟩,_⟩:=c;exact prf e▸gU rfl nofun
 |ref i=>obtain⟨a,_,_,rfl⟩:=c;exact prf e▸gU rfl nofun
 |_=>exact nn e
theorem yai{x:V}{y r:Bool}{a:Value}(e:isB x y=some r)(c:VR f s.heap x a):Two Ω A E Q s .Is .IsNot a (.bool y) r:=by
 rcases dQ e with e|e
 · refine aB e λb M e=>?_
   rw[yil M] at c;cases(show a= .bool b from c);cases prf e;cases b<;>cases y<;>first|exact rO rfl|exact gU rfl nofun
 · refine aJ e λM e=>?_
   rw[zw3 M] at c;exact prf e▸(show a= .none from c)▸gU rfl nofun
theorem yae(e:isT x y=some r):Two Ω A E Q s .Is .IsNot x.val y.val r:=by
 cases x with
 |list=>cases y with|list=>exact prf e▸rO rfl|_=>exact nn e
 |str=>cases y with|str=>exact prf e▸rO rfl|_=>exact nn e
 |_=>exact nn e
theorem yad(e:isV x y=some r)(f:VR j s.heap x i)(h:VR j s.heap y c):Two Ω A E Q s .Is .IsNot i c r:=by
 cases y with
 |none=>exact(show c= .none from h)▸yah e f
 |bool b=>exact(show c= .bool b from h)▸yai e f
 |bi b=>refine aB e λa M e=>?_;rw[yc8 M] at f;exact(show i=a.val from f)▸(show c=b.val from h)▸yae e
 |_=>exact nn e
theorem wB(e:zdr a b=some r)(h:RVR Ω i s₀ s a j)(c:RVR Ω i s₀ s b f):Two Ω A E Q s .Is .IsNot j f r:=by
 refine aB e λy M e=>?_;have c:=rvV M c;cases a with
 |v x=>exact yad e h c
 |l T=>refine aJ e λB e=>?_;rw[zw3 B] at c;obtain⟨a,_,_,rfl,_⟩:=h;exact prf e▸(show f= .none from c)▸gU rfl nofun
 |g T=>exact nn e
theorem rQ{f:Int->Int->Bool}{a b:RV}{r:Bool}{h c:Value}(e:zbe f a b=some r)(l:RVR Ω i s₀ s a h)(j:RVR Ω i s₀ s b c){P:Value->Value->Bool->Prop}(k:∀x y t u,P (.int x t) (.int y u) (f x y)):P h c r:=by refine aB e λx M e=>?_;refine aB e λy B e=>?_;exact rvI_e M l λt=>rvI_e B j λu=>prf e▸k x y t u
theorem ltZ(x y:Int):Z.ltB x y=decide (x<y):=by rw[Bool.eq_iff_iff,Z.ltB_iff,decide_eq_true_eq]
theorem leZ(x y:Int):Z.leB x y=decide (x≤y):=by rw[Bool.eq_iff_iff,Z.leB_iff,decide_eq_true_eq]
@[elab_as_elim] theorem nb_e {o:Option Bool} {r:Bool} (e:nb o=some r) {P:Bool->Prop} (k:∀b,o=some b->P (!b)):P r:=by refine aB e λb h1 e=>?_;exact prf e▸zA b▸k b h1
theorem zb1(H:HS Ω p J s)(k:A.units+70<cLine){o:CmpOp}{a b:RV}{r:Bool}{f c:Value}(e:cY o a b J=some r)(j:RVR Ω p s₀ s a f)(i:RVR Ω p s₀ s b c):Q (.bool r) s->wpAny Ω.M A (compareOp o f c) Q E s:=by
 cases o with
 |Eq=>exact zns (Ω:=Ω) H e j i λU U n m l=>l▸(zwa k n m).1
 |NotEq=>exact nb_e e λb e=>zns (Ω:=Ω) H e j i λU U n m l=>l▸(zwa k n m).2
 |Lt=>exact rQ (P:=λf c r=>Q (.bool r) s->wpAny Ω.M A (compareOp .Lt f c) Q E s) e j i λx y U U h=>PyProof.Rows.lt_int (ltZ x y▸h)
 |LtE=>exact rQ (P:=λf c r=>Q (.bool r) s->wpAny Ω.M A (compareOp .LtE f c) Q E s) e j i λx y U U h=>PyProof.Rows.le_int (leZ x y▸h)
 |Gt=>exact rQ (P:=λf c r=>Q (.bool r) s->wpAny Ω.M A (compareOp .Gt f c) Q E s) e j i λx y U U h=>PyProof.Rows.gt_int (ltZ y x▸h)
 |GtE=>exact rQ (P:=λf c r=>Q (.bool r) s->wpAny Ω.M A (compareOp .GtE f c) Q E s) e j i λx y U U h=>PyProof.Rows.ge_int (leZ y x▸h)
 |Is=>exact(wB e j i).1
 |IsNot=>exact nb_e e λb e=>(wB e j i).2
 |In=>exact(zmv H k e j i).1
 |NotIn=>exact nb_e e λb e=>(zmv H k e j i).2
end

section
variable{Ω:Bx}

theorem yfa(i:Int):bH (Z.eqB i 0)=(i !=0):=by rw[zA,eqB_iff'];rfl
theorem ztj{a:Type}(x:List a):bH (emp x)=((x.length:Int) !=0):=by cases x<;>rfl
theorem ziz(j:sOk x)(g:∀t,a (bH (emp x)) {s with toks:=t}):wpAny Ω.M A (truthy (.str (St x) t)) a E s:=by
 refine P.truthy_str ?_ ?_
 · rw[aQ];have:=j.2;lia
 · rw[aQ,←ztj];exact g _
theorem zi0(g:s.heap.get? a=some (bZ G n))(e:G.length≤65537)(b:∀t,c (bH (emp G)) {s with toks:=t}):wpAny Ω.M A (truthy (.ref a)) c E s:=by
 refine wpAny_truthy_list (items:=G.toArray) ⟨_,g,rfl,_,rfl⟩ ?_ ?_
 · simp only[List.size_toArray];lia
 · cases G<;>exact b _
theorem zti(R:VRs a h T G):emp G=emp T:=by
 cases T with
 |nil=>exact vrs_n R rfl
 |cons x r=>exact vrs_e R λU U U U=>rfl
theorem zp1(H:HS Ω f J s)(e:zp2 r J=some b)(R:RVR Ω f Y s r v)(g:∀t,p b {s with toks:=t}):wpAny Ω.M A (truthy v) p E s:=by
 refine aB e λx m e=>?_;have R:=rvV m R;cases x with
 |none=>cases(show v= .none from R);exact truthy_none (prf e▸g s.toks)
 |bool c=>cases(show v= .bool c from R);exact wpAny_truthy_bool (prf e▸g s.toks)
 |int i=>obtain⟨t,rfl⟩:=R;exact PyProof.Rows.truthy_int (yfa i▸prf e▸g s.toks)
 |str x=>obtain⟨⟨t,rfl⟩,j⟩:=R;exact ziz j (prf e▸g)
 |ref n=>refine aB e λT o e=>?_;obtain⟨a,G,k,rfl,_,B,l,h⟩:=jK H o R;exact zi0 B h (zti l▸prf e▸g)
 |_=>exact nn e

theorem zcz(h:k<n):seqIndex? (Int.ofNat k) n=some k:=by unfold seqIndex?;rw[if_neg (show¬Int.ofNat k<0 from Int.not_lt.mpr (Int.natCast_nonneg k))];exact if_pos (by simp;exact h)
theorem sL(h:k<n):seqIndex? (Int.negSucc k) n=some (n-(k+1)):=by unfold seqIndex?;rw[if_pos (Int.negSucc_lt_zero k),show Int.negSucc k+(n:Int)=((n-(k+1):Nat):Int) by lia];exact if_pos (by simp;lia)
theorem rU(h:idx i n=some j):seqIndex? i n=some j/\j<n/\i.natAbs≤n:=by
 cases i with
 |ofNat k=>have h:ifb (Nat.blt k n) (some k)=some j:=h;refine aJ h λM h=>?_;cases prf h;exact⟨zcz (Qa M),Qa M,Wf (Qa M)⟩
 |negSucc k=>have h:ifb (Nat.blt k n) (some (n-(k+1)))=some j:=h;refine aJ h λM h=>?_;have M:k<n:=Qa M;cases prf h;exact⟨sL M,Nat.sub_lt (Qq (Qb k) M) (Qn k),M⟩
theorem VRs.nth'(R:VRs a h T G)(e:Mine.nth T j=some x):∃v,G.toArray[j]? =some v/\VR a h x v:=by obtain⟨v,M,B⟩:=R.nth e;exact⟨v,by simpa using M,B⟩

theorem xP(H:HS Ω b J s){r:RV}{v:Value}{T:List V}(e:gL r J=some T)(R:RVR Ω b Y s r v){P:Value->Prop}
 (f:∀a vs n,s.heap.get? a=some (bZ vs n)->VRs b s.heap T vs->vs.length≤65537->P (.ref a)) (h:∀a vs n,s.heap.get? a=some (oK vs n)->VRs b s.heap T vs->vs.length≤65537->P (.ref a)):P v:=by
 cases r with
 |l c=>exact cont_e (P:=P) (r:= .l c) H e R f
 |v x=>
  rcases dQ e with e|e
  · rw[zck e] at R
    obtain⟨a,vs,n,rfl,B,A,i⟩:=R;exact h a vs n B A (Qy i)
  · exact cont_e (P:=P) (r:= .v x) H e R f
 |g c=>exact nn e
theorem zkb(H:HS Ω b J s){r:RV}{v:Value}{T:List V}(e:gL r J=some T)(R:RVR Ω b Y s r v):
 ∃a G n,v= .ref a/\(s.heap.get? a=some (bZ G n)∨s.heap.get? a=some (oK G n))/\VRs b s.heap T G/\G.length≤65537:=
 xP H e R (P:=λv=>∃a G n,v= .ref a/\(s.heap.get? a=some (bZ G n)∨s.heap.get? a=some (oK G n))/\VRs b s.heap T G/\G.length≤65537) (λa G n M B A=>⟨a,G,n,rfl,.inl M,B,A⟩) (λa G n M B A=>⟨a,G,n,rfl,.inr M,B,A⟩)

inductive Subs(Ω:Bx)(A:Around)(E Q:Value->Shared->Prop)(s:Shared)(va vi:Value):Prop
 |mk {T id:String} (hT:s.TypeIs va T) (hl:typeLookup (.type T) "__getitem__"=pure (some (.builtin id))) (hg:wpAny Ω.M A (getItem va vi) Q E s):Subs Ω A E Q s va vi
theorem zqf(M:idx k (len x)=some j)(B:nth x j=some c)(a:sOk x)(g:Kq Ω h Y s (.v (.str [c])) Q):Subs Ω A E Q s (.str (St x) t) (.int k u):=by
 rw[aK] at M;obtain⟨b,l,i⟩:=rU M;have e:=a.2;rw[bX] at B;refine .mk (typeIs_str _ _ _) PySem.F.slot_str_getitem.lookup (P.getItem_str (c:=c) ?_ ?_ ?_)
 · rw[Bool.or_eq_false_iff];exact⟨decide_eq_false (by lia),decide_eq_false (by lia)⟩
 · rw[aQ,b]
   show x.toArray[j]? =some c;simpa using B
 · exact jL (x:=[c]) ⟨fS λd f=>Qf f▸bJ a.1 _ (List.mem_of_getElem? B),by simp⟩ g _ _
theorem yb0(z:¬k<0)(a:seqIndex? k n=some j):k.toNat=j:=by
 unfold seqIndex? at a;simp only[z,if_false] at a;split at a
 · exact prf a
 · exact nn a
theorem yb1(z:k<0)(a:seqIndex? k n=some j):(k+n).toNat=j:=by
 unfold seqIndex? at a;simp only[z,if_true] at a;split at a
 · exact prf a
 · exact nn a
theorem zja(g:s.heap.get? a=some (bZ G n))(h:G.length≤65537)(M:idx k G.length=some j)(B:G.toArray[j]? =some v)(c:Q v s):Subs Ω A E Q s (.ref a) (.int k u):=by
 obtain⟨b,f,e⟩:=rU M;refine .mk (tyL g) PySem.F.slot_list_getitem.lookup ?_;by_cases z:k<0
 · exact wpAny_getItem_list_neg (items:=G.toArray) ⟨_,g,rfl,_,rfl⟩ z (by simp;lia) (by lia) (x:=v) (yb1 z b▸B) c
 · exact wpAny_getItem_list (items:=G.toArray) ⟨_,g,rfl,_,rfl⟩ (by lia) (by lia) (x:=v) (yb0 z b▸B) c
theorem zqe(g:s.heap.get? a=some (oK G n))(h:G.length≤65537)(M:idx k G.length=some j)(B:G.toArray[j]? =some v)(c:Q v s):Subs Ω A E Q s (.ref a) (.int k u):=by obtain⟨b,f,e⟩:=rU M;exact .mk (tyT g) slot_tuple_getitem.lookup (P.getItem_tuple (items:=G.toArray) g (by lia) (by lia) (by simpa using b) B c)
theorem zqj{a i r:RV}(e:nB a i J=some r){G:Prop}(h:∀k x j c,rI i=some k->rS a=some x->idx k (len x)=some j->nth x j=some c-> .v (.str [c])=r->G)
 (f:∀k T j v,rI i=some k->gL a J=some T->idx k (len T)=some j->nth T j=some v-> .v v=r->G):G:=by
 refine aB e λk M e=>?_;rcases dQ e with e|e
 · refine aB e λx B e=>?_
   refine aB e λj A e=>?_;refine aB e λc b e=>?_;exact h k x j c M B A b (prf e)
 · refine aB e λx B e=>?_
   refine aB e λj A e=>?_;refine aB e λc b e=>?_;exact f k x j c M B A b (prf e)
theorem zjd(H:HS Ω b J s){a i r:RV}{h o:Value}(e:nB a i J=some r)(q:RVR Ω b Y s a h)(p:RVR Ω b Y s i o)(g:Kq Ω b Y s r Q):Subs Ω A E Q s h o:=
 zqj e (λU U U U M B l k j=>rvI_e M p λU=>rvS_e B q λU t=>zqf l k t (j▸g))
  (λU U U U M B l k j=>rvI_e M p λU=>xP H B q (P:=λh=>Subs Ω A E Q s h _)
   (λU U U n f m=>(f.nth' k).elim λU c=>zja n m (f.len▸aK _▸l) c.1 ((show Kq Ω b Y s (.v _) Q from j▸g).here c.2))
   (λU U U n f m=>(f.nth' k).elim λU c=>zqe n m (f.len▸aK _▸l) c.1 ((show Kq Ω b Y s (.v _) Q from j▸g).here c.2)))

theorem zhf(v:Option Int)(n:Nat):kms_hi v n≤n:=by
 cases v with
 |none=>exact Qm n
 |some y=>
  show(if y<0 then n-(-y).toNat else min y.toNat n)≤n;by_cases h:y<0
  · rw[if_pos h];exact Nat.sub_le _ _
  · rw[if_neg h];exact Nat.min_le_right _ _
theorem zn9(i:Int)(n:Nat):bnd i n=(if i<0 then n-(-i).toNat else min i.toNat n):=by
 cases i with
 |ofNat k=>
  rw[if_neg (show¬Int.ofNat k<0 from Int.not_lt.mpr (Int.natCast_nonneg k))];show cs (Nat.ble k n) k n=min k n;cases q:Nat.ble k n with
  |true=>exact(Nat.min_eq_left (Qa q)).symm
  |false=>exact(Nat.min_eq_right (Wf (Nat.lt_of_not_le λ(h:k≤n)=>by rw[Nat.ble_eq_true_of_le h] at q;cases q))).symm
 |negSucc k=>exact(if_pos (Int.negSucc_lt_zero k)).symm
noncomputable def kO(Ω:Bx)(ρ:Rho)(s₀ s:Shared)(o:Option RV)(v:Value):Prop:=match o with
 |none=>v= .none
 |some r=>RVR Ω ρ s₀ s r v
@[elab_as_elim] theorem bndLo_e {r:Option RV} {n a:Nat} (h:jY r n=some a) {v:Value} (R:kO Ω ρ s₀ s r v) {P:Value->Prop} (k:∀q:Option (Int×Tok),IsPart (partValue q) (q.map (·.1))->a=kms_lo (q.map (·.1)) n->P (partValue q)):P v:=by
 cases r with
 |none=>cases(show v= .none from R);exact k none .none (prf h).symm
 |some r=>refine aB h λi h1 h=>?_;obtain⟨t,rfl⟩:=rvI h1 R;exact k (some (i,t)) (.int i t) ((prf (aS h).2).symm.trans (zn9 i n))
@[elab_as_elim] theorem bndHi_e {r:Option RV} {n a:Nat} (h:lC r n=some a) {v:Value} (R:kO Ω ρ s₀ s r v) {P:Value->Prop} (k:∀q:Option (Int×Tok),IsPart (partValue q) (q.map (·.1))->a=kms_hi (q.map (·.1)) n->P (partValue q)):P v:=by
 cases r with
 |none=>cases(show v= .none from R);exact k none .none (prf h).symm
 |some r=>refine aB h λi h1 h=>?_;obtain⟨t,rfl⟩:=rvI h1 R;exact k (some (i,t)) (.int i t) ((prf (aS h).2).symm.trans (zn9 i n))
theorem uZ{c:Type}{T:List c}{a b:Nat}{x:c}(h:x∈(T.drop a).take b):x∈T:=List.mem_of_mem_drop (List.mem_of_mem_take h)
theorem VRs.drop(n:Nat)(R:VRs a h T G):VRs a h (T.drop n) (G.drop n):=by
 induction n generalizing T G with
 |zero=>exact R
 |succ n d=>
  cases T with
  |nil=>exact vrs_n R VRs.nil
  |cons x r=>exact vrs_e R λv t U b=>d b
theorem VRs.take(n:Nat)(R:VRs a h T G):VRs a h (T.take n) (G.take n):=by
 induction n generalizing T G with
 |zero=>exact VRs.nil
 |succ n d=>
  cases T with
  |nil=>exact vrs_n R VRs.nil
  |cons x r=>exact vrs_e R λv t j b=>VRs.cons j (d b)
theorem zg5(x:Str)(l u:Option Int):(Builtin.Str.strSliceIndices l u 1 x.length).filterMap (x.cps[·]?)=(x.cps.toList.drop (kms_lo l x.length)).take (kms_hi u x.length-kms_lo l x.length)∧
 (Builtin.Str.strSliceIndices l u 1 x.length).length=kms_hi u x.length-kms_lo l x.length:=by
 have e:Builtin.Str.strSliceIndices l u 1 x.length=(List.range (kms_hi u x.length-kms_lo l x.length)).map (kms_lo l x.length+ ·):=by show sliceRange (sliceBounds l u none x.length).1 (sliceBounds l u none x.length).2.1 1=_;rw[kms_bounds];exact sliceRange_one _ _
 rw[e];exact⟨pick_run _ _ _,by rw[List.length_map,List.length_range]⟩
theorem zfr{a:Type}(T:List a)(p q:Nat){n:Nat}(h:T.length≤n):(cut T p q).length≤n:=
 Qi (List.length_take_le' _ _) (Qi (List.length_drop▸Nat.sub_le _ _) h)
theorem ztp(h:q-p=x.length)(a:q≤x.length):cut x p q=x:=by
 cases p with
 |zero=>exact List.take_of_length_le (Nat.le_of_eq h.symm)
 |succ p=>have M:x=[]:=List.eq_nil_of_length_eq_zero (by lia);subst M;exact(congrArg _ List.drop_nil).trans List.take_nil
theorem znx{x:LN}(j:sOk x)(p q:Nat):sOk (cut x p q):=⟨fS λc a=>bJ j.1 c (uZ a),zfr x p q j.2⟩
theorem zr4{x:LN}{ql qu:Option (Int×Tok)}{c:Prop}[Decidable c](a:c->(Builtin.Str.strSliceIndices (ql.map (·.1)) (qu.map (·.1)) 1 (St x).length).length=(St x).length):
 (if c then St x else Str.mk ((Builtin.Str.strSliceIndices (ql.map (·.1)) (qu.map (·.1)) 1 (St x).length).filterMap ((St x).cps[·]?)).toArray)=St (cut x (kms_lo (ql.map (·.1)) x.length) (kms_hi (qu.map (·.1)) x.length)):=by
 obtain⟨e,b⟩:=zg5 (St x) (ql.map (·.1)) (qu.map (·.1));rw[aQ] at*
 by_cases z:c
 · rw[if_pos z,ztp (b.symm.trans (a z)) (zhf _ _)]
 · rw[if_neg z,e];rfl
theorem zr3{x:LN}{t:Tok}{b a:Option (Int×Tok)}(j:sOk x)(k:∀i k,Q (.str (St (cut x (kms_lo (b.map (·.1)) x.length) (kms_hi (a.map (·.1)) x.length))) i) {s with toks:=k}):(sliceMade (St x) t b a none).post Q s:=by
 unfold sliceMade slicePicked;refine post_val_or_str ?_;have e:=zr4 (x:=x) (ql:=b) (qu:=a) (c:=(((1:Int)==1)&&(Builtin.Str.strSliceIndices (b.map (·.1)) (a.map (·.1)) 1 (St x).length).length==(St x).length)=true) λh=>by simpa using h
 have f:=(znx j (kms_lo (b.map (·.1)) x.length) (kms_hi (a.map (·.1)) x.length)).2;rw[←e] at k;rw[←aQ,←e] at f;exact⟨Qi f (by decide),k⟩
noncomputable abbrev zxx(s:Shared)(b a:Value):Shared:={s with heap:=s.heap.push {cls:= .type "slice",data:= .fields #[b,a,.none]}}
theorem zgs(j:sOk x)(g:Kq Ω f Y s (.v (.str (cut x (kms_lo (b.map (·.1)) x.length) (kms_hi (a.map (·.1)) x.length)))) Q):Subs Ω A E Q (zxx s (partValue b) (partValue a)) (.str (St x) t) (.ref s.heap.objs.size):=
 .mk (typeIs_str _ _ _) PySem.F.slot_str_getitem.lookup (wpAny_getItem_str_slice (l:=b) (u:=a) (st:=none) ⟨_,Qk _ rfl,rfl,rfl⟩ rfl
  (zr3 j λc k=>g _ _ k (λU U e=>Qc _ e) ⟨⟨c,rfl⟩,znx j _ _⟩))
theorem lI{h:Heap}{o:Obj}{a:Addr}(z:(h.push o).get? a=none):h.get? a=none:=by
 cases y:h.get? a with
 |none=>rfl
 |some b=>rw[Heap.get?_push_of_some _ y] at z;cases z
theorem dZ(h:Heap):h.get? h.objs.size=none:=by
 cases z:h.get? h.objs.size with
 |none=>rfl
 |some o=>exact absurd (Qw z) (Qr _)
theorem zmi(H:HS Ω c J s)(h:∀a,s.heap.get? a=none->Y.heap.get? a=none){o:Obj}{T:List V}{G:List Value}(f:VRs c s.heap T G)(i:G.length≤65537)(g:Kq Ω c Y s (.l T) Q)(t:Nat):
 Q (.ref (s.heap.push o).objs.size) {s with heap:=(s.heap.push o).push (bZ G 0),toks:=t}:=
 g _ _ t (λU U e=>Qc _ (Qc _ e)) ⟨_,G,0,rfl,Qk _ rfl,
  VRs.mono (Ext.refl c) (λb o e U=>Qc _ (Qc _ e)) _ _ f,i,h _ (lI (dZ _)),H.notIn (lI (dZ _))⟩
theorem zcw(H:HS Ω e J s)(j:∀a,s.heap.get? a=none->Y.heap.get? a=none)(f:s.heap.get? a=some (bZ G n))(m:VRs e s.heap T G)(k:G.length≤65537)
 (i:IsPart (partValue c) (c.map (·.1))) (h:IsPart (partValue b) (b.map (·.1))) (g:Kq Ω e Y s (.l (cut T (kms_lo (c.map (·.1)) G.length) (kms_hi (b.map (·.1)) G.length))) Q):Subs Ω A E Q (zxx s (partValue c) (partValue b)) (.ref a) (.ref s.heap.objs.size):=by
 refine .mk (tyL (Qc _ f)) PySem.F.slot_list_getitem.lookup (wpAny_getItem_list_slice (items:=G.toArray) (vs:= .none) (st:=none) ⟨_,Qc _ f,rfl,_,rfl⟩ ⟨_,Qk _ rfl,rfl,rfl⟩ i h .none nofun ?_ (by rw[sizeLine_eq,List.size_toArray];lia));rw[kms_pick_eq];exact zmi H j ((m.drop _).take _) (zfr G _ _ k) g _
theorem zgt{a r:RV}{b f:Option RV}(e:hZ a b f J=some r){G:Prop}(k:∀x p q,rS a=some x->jY b (len x)=some p->lC f (len x)=some q-> .v (.str (cut x p q))=r->G)
 (i:∀T p q,cont a J=some T->jY b (len T)=some p->lC f (len T)=some q-> .l (cut T p q)=r->G):G:=by
 rcases dQ e with e|e
 · refine aB e λx B e=>?_
   refine aB e λj A e=>?_;refine aB e λc h e=>?_;exact k x j c B A h (prf e)
 · refine aB e λx B e=>?_
   refine aB e λj A e=>?_;refine aB e λc h e=>?_;exact i x j c B A h (prf e)
theorem zcx(H:HS Ω b J s)(x:∀a,s.heap.get? a=none->s₀.heap.get? a=none){a r:RV}{p q:Option RV}{l k j:Value}(e:hZ a p q J=some r)(o:RVR Ω b s₀ s a l)(n:kO Ω b s₀ s p k)(m:kO Ω b s₀ s q j)(g:Kq Ω b s₀ s r Q):
 Subs Ω A E Q (zxx s k j) l (.ref s.heap.objs.size):=
 zgt e (λU U U M B f c=>rvS_e M o λU w=>bndLo_e B n λU U i=>bndHi_e f m λU U h=>zgs w (aK _▸i▸h▸c▸g))
  (λU U U M B f c=>cont_e H M o λU U U z t y=>bndLo_e B n λU v i=>bndHi_e f m λU u h=>zcw H x z t y v u (t.len▸aK _▸i▸h▸c▸g))
end
noncomputable def okT{a:Type}(n:Nat)(P:a->Bool)(t:KasT a):Bool:=KasT.rec (motive:=λU=>Bool) P (λi j U d=>cs (Nat.blt i n) (cs (Nat.blt j n) (cs (d true) (d false) false) false) false) t
theorem zz4{b:Type}{cmp:Nat->Nat->(Bool->Shared->Prop)->Shared->Prop}{lt:Nat->Nat->Bool}{n:Nat}{I:Shared->Prop}{P:b->Bool}(l:∀i j C s,i<n->j<n->I s->(∀u,I u->C (lt i j) u)->cmp i j C s){G:b->Shared->Prop}(t:KasT b):
 okT n P t=true->∀s,I s->(∀u,I u->P (iC lt t)=true->G (iC lt t) u)->t.kasWp cmp G s:=by
 induction t with
 |ret a=>exact λh s i k=>k s i h
 |ask i j k d=>intro h s e f;obtain⟨M,h⟩:=qE h;obtain⟨B,h⟩:=qE h;obtain⟨A,m⟩:=qE h;refine l i j _ s (Qa M) (Qa B) e λu c=>d (lt i j) ?_ u c f;cases lt i j<;>assumption
noncomputable def ze6(n:Nat)(l:LN):Bool:=List.rec (motive:=λU=>Bool) true (λx U d=>cs (Nat.blt x n) d false) l
theorem zzk(h:ze6 n l=true):∀x∈l,x<n:=by
 induction l with
 |nil=>exact λU h=>nomatch h
 |cons y r d=>exact λx j=>(Qe j).elim (λq=>q▸Qa (qE h).1) (d (qE h).2 x)
noncomputable def jF(n:Nat)(p:Array Nat):Bool:=ze6 n p.toList
theorem zxa:okT 2 (jF 2) (kas_sort 2)=true:=by decide+kernel
theorem zw8:okT 4 (jF 4) (kas_sort 4)=true:=by decide+kernel
section
theorem zbz(i:s.heap.get? l=some o)(k:o.cls= .type "list"∨o.cls= .type "tuple")(j:o.data= .seq G.toArray n)
 (h:Q G {s with heap:=(s.heap.push (seqObj "list" #[] 0)).update s.heap.objs.size (Obj.mapSeq (· ++G.toArray))}) (f:G.length≤65537):wpAny (model a w) A (collect (.ref l)) Q E s:=by
 unfold collect;refine Qg (wpAny_runValue (codeAny_builtin entry_proto_collect' ?_));show wpAny _ _ (do again (.builtin "list.__iadd__" ⟨[←newList [],.ref l],[]⟩)) _ _ s;refine Qg (wpAny_newList (Qh ⟨Code.quiet_builtin _ (by decide+kernel),codeAny_builtin entry_list_iadd' ?_⟩));show wpAny _ _ (Builtin.List.listExtendWith (.ref s.heap.objs.size) (.ref l) (.ref s.heap.objs.size)) _ _ {s with heap:=s.heap.push (seqObj "list" #[] 0)};unfold Builtin.List.listExtendWith;have b:(s.heap.push (seqObj "list" #[] 0)).get? l=some o:=Qc _ i;obtain⟨T,m,c⟩:∃T,o.cls= .type T/\((Value.type T== .type "list")||(Value.type T== .type "tuple"))=true:=k.elim (λh=>⟨_,h,by decide⟩) λh=>⟨_,h,by decide⟩;refine Qg (wpAny_typeOf (T:=T) ⟨o,b,m⟩ ?_);rw[if_pos (by rw[Bool.or_assoc,c,Bool.or_true])];refine Qg (listItems_at b j ?_);refine Qg (listItems_at (xs:=#[]) (n:=0) (Qk _ rfl) rfl ?_);rw[if_neg (by simp[Builtin.List.listTooLong,sizeLine])];refine Qg (listUpdate_at (xs:=#[]) (n:=0) (Qk _ rfl) rfl ?_ (Qb _) (by show(#[]++G.toArray).size≤sizeLine+1;rw[sizeLine_eq];simp only[Array.size_append,List.size_toArray,List.length_nil];lia));refine Qh ?_;show wpAny (model a w) A (do
  let o←load s.heap.objs.size
  match o.data with
  | .seq e _=>pure e.toList
  |_=>unsupported "internal:collect") Q E {s with heap:=(s.heap.push (seqObj "list" #[] 0)).update s.heap.objs.size (Obj.mapSeq (· ++G.toArray))}
 refine Qg (wpAny_load (get?_update_seq (Qk _ rfl) _) ?_);show wpAny _ _ (pure ((#[]:Array Value)++G.toArray).toList) Q E _;rw[show((#[]:Array Value)++G.toArray).toList=G by simp];exact Qh h
theorem zqu{a n:Nat}{c:List Value}{d:SortKind}{r:Nat->Nat->Bool}{P:PySem.Fin->Shared->Prop}(H:s.heap.get? a=some (seqObj "list" c.toArray n))(hn:c.length=2∨c.length=4)
 (B:∀u,(∀b o,b≠a->s.heap.get? b=some o->u.heap.get? b=some o)->∀{Q':SortKind->Shared->Prop},Q' d u->wpAny (model f w) A (keyKind' c.toArray) Q' (λU U=>False) u)
 (ask:∀i j C u,i<c.length->j<c.length->(∀b o,b≠a->s.heap.get? b=some o->u.heap.get? b=some o)->(∀t,C (r i j) {u with toks:=t})->kas_ask f w A d c i j C u)
 (h:∀h' t k,(∀b o,b≠a->s.heap.get? b=some o->h'.get? b=some o)->h'.get? a=some (seqObj "list" (List.toArray ((iC r (kas_sort c.length)).toList.map λi=>c.getD i Value.none)) k)->jF c.length (iC r (kas_sort c.length))=true->(iC r (kas_sort c.length)).size=c.length->P (.done (.ret .none)) {s with heap:=h',toks:=t}):
 wpAny (model f w) A (Builtin.«list.sort» ⟨[.ref a],[]⟩) P E s:=by
 have ha:a<s.heap.objs.size:=Qw H;have h2:2≤c.length:=by lia
 have h64:c.length<64:=by lia
 have s1:=Wb s.heap a (Obj.mapSeq λU=>(#[]:Array Value));obtain⟨e1,y⟩:∃e1,(s.heap.update a (Obj.mapSeq λU=>(#[]:Array Value))).get? a=some (seqObj "list" #[] e1):=⟨_,get?_update_seq H λU=>#[]⟩;have m:(((s.heap.update a (Obj.mapSeq λU=>#[])).push (seqObj "tuple" c.toArray 0)).push (seqObj "list" #[] 0)).get? a=some (seqObj "list" #[] e1):=Qc _ (Qc _ y);have D:∀b o,b≠a->s.heap.get? b=some o->(((s.heap.update a (Obj.mapSeq λU=>#[])).push (seqObj "tuple" c.toArray 0)).push (seqObj "list" #[] 0)).get? b=some o:=λb o n e=>Qc _ (Qc _ ((s1.2 b n).trans e));rw[list_sort_plain];refine Qg (listItems_at H rfl ?_);refine Qg (listUpdate_at H rfl ?_ (by rw[List.size_toArray,sizeLine_eq];lia) (Qb _));refine Qg (seqEpoch_at y rfl ?_);refine Qg (wpAny_newTuple ?_ (by show c.length≤_;rw[sizeLine_eq];lia));refine Qg (wpAny_newList ?_ (Qb _));refine wpAny_holding ?_;show wpAny (model f w) A _ P E {s with heap:=((s.heap.update a (Obj.mapSeq λU=>(#[]:Array Value))).push (seqObj "tuple" c.toArray 0)).push (seqObj "list" #[] 0)};dsimp only;have z:¬c.toArray.size<2:=by rw[List.size_toArray];lia
 rw[if_neg z,if_neg z];generalize((s.heap.update a (Obj.mapSeq λU=>#[])).push (seqObj "tuple" c.toArray 0)).push (seqObj "list" #[] 0)=M at m D⊢;have tree:okT c.length (jF c.length) (kas_sort c.length)=true:=by
  rcases hn with q|q<;>rw[q]
  · exact zxa
  · exact zw8
 refine Qg (Qv (B {s with heap:=M} D (Q':=λk u=>k=d/\u={s with heap:=M}) ⟨rfl,rfl⟩) (λk s0 hk=>?_) λU U x=>x.elim);obtain⟨hk1,hk2⟩:=hk;subst hk1;subst hk2;have g:=zz4 (cmp:=kas_ask f w A k c) (lt:=r) (n:=c.length) (I:=λu=>∃t,u={s with heap:=M,toks:=t}) (P:=jF c.length) (λi j C u hi hj ⟨t,e⟩ hC=>by subst e;exact ask i j C _ hi hj D λt'=>hC _ ⟨t',rfl⟩) (G:=λp u=>p=iC r (kas_sort c.length)/\jF c.length p=true/\∃t,u={s with heap:=M,toks:=t}) (kas_sort c.length) tree {s with heap:=M} ⟨s.toks,rfl⟩ λu i J=>⟨rfl,J,i⟩
 refine Qg (Qv (kat_run (Q:=λl u=>∃p:Array Nat,p.size=c.length/\arrOf l=p.map (kas_item (c.toArray.zip c.toArray))/\failedOf l=none/\p=iC r (kas_sort c.length)/\jF c.length p=true/\∃t,u={s with heap:=M,toks:=t})
  rfl h2 h64 (λp' l u a1 a2 a3 a4=>⟨p',a1,a2,a3,a4⟩) g) ?_ λU U e=>e)
 rintro⟨⟨⟩,l⟩ u ⟨p,J,har,hf,hpe,Y,t,T⟩;subst T;dsimp only;have v:=kat_snds rfl har;have N:(List.toArray (p.toList.map λi=>c.getD i Value.none)).size=c.length:=by rw[List.size_toArray,List.length_map,Array.length_toList,J]
 rw[v];have s2:=Wb M a (Obj.mapSeq λU=>List.toArray (p.toList.map λi=>c.getD i Value.none));obtain⟨c2,hc2⟩:∃c2,(M.update a (Obj.mapSeq λU=>List.toArray (p.toList.map λi=>c.getD i Value.none))).get? a=some (seqObj "list" (List.toArray (p.toList.map λi=>c.getD i Value.none)) c2):=⟨_,get?_update_seq m λU=>List.toArray (p.toList.map λi=>c.getD i Value.none)⟩;refine Qg (seqEpoch_at (s:={s with heap:=M,toks:=t}) m rfl ?_);refine Qg (listUpdate_at (s:={s with heap:=M,toks:=t}) m rfl ?_ (Qb _) (Qi (Nat.le_of_eq N) (by rw[sizeLine_eq];lia)));rw[hf];simp only[bne_self_eq_false,Bool.false_eq_true,if_false];subst hpe;exact Qh (h _ t c2 (λb o n e=>(s2.2 b n).trans (D b o n e)) hc2 Y J)
theorem sJ{l:Addr}{o:Obj}{G:List Value}{n:Nat}{H:SortKind}{lt:Nat->Nat->Bool}{Q:Value->Shared->Prop}(B:s.heap.get? l=some o)(Y:o.cls= .type "list"∨o.cls= .type "tuple")(T:o.data= .seq G.toArray n)(I:G.length=2∨G.length=4)
 (v:∀(A:Around) u,(∀b o,s.heap.get? b=some o->u.heap.get? b=some o)->∀{Q':SortKind->Shared->Prop},Q' H u->wpAny (model a w) A (keyKind' G.toArray) Q' (λU U=>False) u)
 (y:∀(A:Around) i j C u,i<G.length->j<G.length->(∀b o,s.heap.get? b=some o->u.heap.get? b=some o)->(∀t,C (lt i j) {u with toks:=t})->kas_ask a w A H G i j C u)
 (h:∀r t k D,(∀b o,s.heap.get? b=some o->r.get? b=some o)->s.heap.get? D=none->r.get? D=some (seqObj "list" (List.toArray ((iC lt (kas_sort G.length)).toList.map λi=>G.getD i Value.none)) k)->jF G.length (iC lt (kas_sort G.length))=true->(iC lt (kas_sort G.length)).size=G.length->Q (.ref D) {s with heap:=r,toks:=t}):
 wpAny (model a w) A (call (.builtin "sorted") [.ref l]) Q E s:=by
 refine Calls.call_function_entry kind_sorted plain_sorted entry_sorted (args_sorted1 _) ?_;unfold Builtin.«sorted»;refine Qg (m:=checkCount "sorted" 1 1 _) (Qh ?_);refine Qg (zbz B Y T ?_ (by lia));refine Qg (wpAny_newList ?_ (by rw[sizeLine_eq];lia));have f:((s.heap.push (seqObj "list" #[] 0)).update s.heap.objs.size (Obj.mapSeq (· ++G.toArray))).objs.size=s.heap.objs.size+1:=by rw[Heap.size_update,size_push']
 have p:(((s.heap.push (seqObj "list" #[] 0)).update s.heap.objs.size (Obj.mapSeq (· ++G.toArray))).push (seqObj "list" G.toArray 0)).get? (s.heap.objs.size+1)=some (seqObj "list" G.toArray 0):=by rw[←f];exact Qk _ rfl
 have keep:∀b o,s.heap.get? b=some o->(((s.heap.push (seqObj "list" #[] 0)).update s.heap.objs.size (Obj.mapSeq (· ++G.toArray))).push (seqObj "list" G.toArray 0)).get? b=some o:=λb o q=>by have x:b<s.heap.objs.size:=Qw q;exact Qc _ (((Wb ..).2 b (Nat.ne_of_lt x)).trans (Qc _ q))
 have c:∀b o,s.heap.get? b=some o->b≠s.heap.objs.size+1:=λb o q=>Nat.ne_of_lt (Nat.lt_succ_of_lt (Qw q));show wpAny _ _ _ _ _ {s with heap:=((s.heap.push (seqObj "list" #[] 0)).update s.heap.objs.size (Obj.mapSeq (· ++G.toArray))).push (seqObj "list" G.toArray 0)};rw[f];refine Qg (wpAny_holding (wpAny_call_entry slot_list_sort ⟨_,p,rfl⟩ entry_list_sort ?body (args_list_sort _)))
 case body=>
  refine zqu (s:={s with heap:=((s.heap.push (seqObj "list" #[] 0)).update s.heap.objs.size (Obj.mapSeq (· ++G.toArray))).push (seqObj "list" G.toArray 0)}) p I (λu k {Q'} q=>v _ u (λb o e=>k b o (c b o e) (keep b o e)) q)
   (λi j C u N M k q=>y _ i j C u N M (λb o e=>k b o (c b o e) (keep b o e)) q) λr t k d hD J g=>⟨_,rfl,Qh ⟨_,rfl,?_⟩⟩
  exact h r t k _ (λb o e=>d b o (c b o e) (keep b o e)) (by
   cases z:s.heap.get? (s.heap.objs.size+1) with
   |none=>rfl
   |some o=>exact absurd (Qw z) (Nat.not_lt.mpr (Qt _))) hD J g
end

theorem zff:∀d:Fin 16,zbl d.1=(Nat.digitChar d.1).toNat:=by decide
theorem zoj(h:a≠b):Nat.beq a b=false:=by cases q:Nat.beq a b with|true=>exact absurd (aN q) h|false=>rfl
theorem zdt(k:Nat)(a:LN):lY k 0 a=a:=by cases k<;>rfl
theorem wC(k n:Nat)(a:LN)(h:n≠0):lY (k+1) n a=lY k (n/16) (zbl (n%16)::a):=by show cs (Nat.beq n 0) a (lY k (n/16) (zbl (n%16)::a))=_;rw[zoj h];rfl
theorem zmz(k:Nat):∀(a n:Nat) (c:List Char),n<16^k->0<n->n<a->(Nat.toDigitsCore 16 a n c).map Char.toNat=lY k n (c.map Char.toNat):=by
 induction k with
 |zero=>exact λU n U h b U=>absurd b (Nat.not_lt.mpr (Wa h))
 |succ k d=>
  intro a n c h b e;cases a with
  |zero=>exact absurd e (Nat.not_lt_zero n)
  |succ a=>
   have i:=zff ⟨n%16,Nat.mod_lt _ (by decide)⟩;rw[Nat.toDigitsCore,wC k n _ (Nat.ne_of_gt b),show zbl (n%16)=_ from i];have f:n/16<16^k:=Nat.div_lt_of_lt_mul (by rw[Nat.pow_succ,Nat.mul_comm] at h;exact h);by_cases z:n/16=0
   · rw[if_pos z,z,zdt];rfl
   · rw[if_neg z]
     exact d a (n/16) (Nat.digitChar (n%16)::c) f (Nat.pos_of_ne_zero z) (Qp (Nat.div_lt_self b (by decide)) (Wa e))
theorem zav(l:List Char):Str.ofString (String.ofList l)=St (l.map Char.toNat):=by rw[Str.ofString_eq_toList];simp
theorem zbi(h:n≠0):zbk n=48::120::lY 64 n []:=by show cs (Nat.beq n 0) [48,120,48] (48::120::lY 64 n [])=_;rw[zoj h];rfl
theorem zbj(h:n<340282366920938463463374607431768211456):zbk n=[48,120]++(Nat.toDigits 16 n).map Char.toNat:=by
 by_cases z:n=0
 · subst z;rfl
 · rw[zbi z]
   unfold Nat.toDigits;rw[zmz 64 (n+1) n [] (Nat.lt_trans h (by decide)) (Nat.pos_of_ne_zero z) (Nat.lt_succ_self n)];rfl
theorem zmx(h:n<340282366920938463463374607431768211456):baseText "0x" 16 (Int.ofNat n)=St (zbk n):=by unfold baseText;rw[if_neg (show¬Int.ofNat n<0 from Int.not_lt.mpr (Int.natCast_nonneg n)),zav (Nat.toDigits _ _),show Str.ofString ""=St [] from rfl,show Str.ofString "0x"=St [48,120] from rfl,gE,gE,zbj h];rfl
theorem zmy(k:Nat):∀(n:Nat) (a:LN),(∀c∈a,c<128)->(lY k n a).length≤a.length+k/\∀c∈lY k n a,c<128:=by
 induction k with
 |zero=>exact λU U h=>⟨Qm _,h⟩
 |succ k e=>
  intro n a h;by_cases z:n=0
  · subst z;exact⟨Nat.le_add_right _ _,h⟩
  · rw[wC k n a z]
    have b:=zff ⟨n%16,Nat.mod_lt _ (by decide)⟩;have b:zbl (n%16)<128:=(by decide:∀d:Fin 16,zbl d.1<128) ⟨n%16,Nat.mod_lt _ (by decide)⟩;obtain⟨M,B⟩:=e (n/16) (zbl (n%16)::a) λc f=>(Qe f).elim (λq=>q▸b) (h c);exact⟨Qi M (by rw[List.length_cons];lia),B⟩
theorem zfe(n:Nat):sOk (zbk n):=by
 by_cases z:n=0
 · subst z;exact⟨rfl,by decide⟩
 · rw[zbi z]
   obtain⟨M,B⟩:=zmy 64 n [] nofun;refine⟨fS λc a=>?_,Qi (Qs (Qs M)) (by decide)⟩;rcases Qe a with rfl|a
   · decide
   · rcases Qe a with rfl|a
     · decide
     · exact B c a

noncomputable abbrev psV(a:List (Int×Tok)):List Value:=a.map λp=>Value.int p.1 p.2
theorem rP:∀{vs:List Value} {l:List Int},eS T=some l->VRs c h T vs->∃a:List (Int×Tok),vs=psV a/\a.map (·.1)=l:=by
 induction T with
 |nil=>exact λe R=>vrs_n R ⟨[],rfl,prf e⟩
 |cons x r d=>intro vs l e R;refine aB e λi M e=>?_;refine aB e λf B e=>?_;rw[zT M] at R;refine vrs_e R λv t j b=>?_;obtain⟨a,rfl,A⟩:=d B b;obtain⟨u,rfl⟩:=j;exact⟨(i,u)::a,rfl,(congrArg (i:: ·) A).trans (prf e)⟩
theorem pH(a:List (Int×Tok)):(psV a).toArray=intItems a.toArray:=by simp[intItems]
theorem zg3(f:Nat->Int)(n:Nat):preSum f n=((List.range n).map f).sum:=by
 induction n with
 |zero=>rfl
 |succ n d=>rw[preSum,d,List.range_succ];simp
theorem zqc(l:List Int):∀a:Int,fE l a=a+l.sum:=by
 induction l with
 |nil=>intro a;exact(Int.add_zero a).symm
 |cons x r d=>intro a;rw[List.sum_cons,←Int.add_assoc];exact d _
theorem zxk(a:List (Int×Tok)):preSum (numAt a.toArray) a.toArray.size=fE (a.map (·.1)) 0:=by
 rw[zg3,zqc,Int.zero_add];congr 1;apply List.ext_getElem
 · simp
 · intro i M B
   simp[numAt];have:i<a.length:=by simpa using B
   simp[List.getElem?_eq_getElem this]
noncomputable def jZ(c:Int->Int->Bool):Int->List Int->Int
 |m,[]=>m
 |m,x::r=>jZ c (cs (c x m) x m) r
theorem zh0(c:Int->Int->Bool)(x:Int)(l:List Int):∀m,jZ c m (l++[x])=cs (c x (jZ c m l)) x (jZ c m l):=by
 induction l with
 |nil=>exact λU=>rfl
 |cons a r d=>exact λm=>d _
theorem zr1(l:List Int):∀m,zzd m l=jZ (λx m=>decide (x>m)) m l:=by
 induction l with
 |nil=>exact λU=>rfl
 |cons x r d=>exact λm=>(d _).trans (by show jZ _ (cs (Z.ltB m x) x m) r=_;rw[ltZ];rfl)
theorem zr0(l:List Int):∀m,uT m l=jZ (λx m=>decide (x<m)) m l:=by
 induction l with
 |nil=>exact λU=>rfl
 |cons x r d=>exact λm=>(d _).trans (by show jZ _ (cs (Z.ltB x m) x m) r=_;rw[ltZ];rfl)
theorem zrr(a:List (Int×Tok))(m:Int×Tok)(h:k<a.length):numAt (m::a).toArray (k+1)=a[k].1:=by simp[numAt,List.getElem?_eq_getElem h]
theorem ylp(c:Int->Int->Bool)(a:List (Int×Tok))(m:Int×Tok)(k:Nat):k≤a.length->numAt (m::a).toArray (argBest (λi j=>c (numAt (m::a).toArray i) (numAt (m::a).toArray j)) k)=jZ c m.1 ((a.take k).map (·.1)):=by
 induction k with
 |zero=>intro _;simp[argBest,jZ,numAt]
 |succ k d=>intro h;have d:=d (Nat.le_of_succ_le h);rw[List.take_succ_eq_append_getElem h,List.map_append,List.map_singleton,zh0,←d,←zrr a m h,argBest];cases c (numAt (m::a).toArray (k+1)) (numAt (m::a).toArray (argBest (λi j=>c (numAt (m::a).toArray i) (numAt (m::a).toArray j)) k))<;>rfl
theorem zt0(c:Int->Int->Bool)(h:(intItems (m::a).toArray)[argBest (λi j=>c (numAt (m::a).toArray i) (numAt (m::a).toArray j)) ((m::a).toArray.size-1)]? =some v):∃t,v= .int (jZ c m.1 (a.map (·.1))) t:=by have e:=ylp c a m a.length (Qm _);rw[List.take_length] at e;rw[←e];exact intItems_at h
theorem fF(h:small a=true):-(2^62)≤a/\a<2^62:=by
 have M:=oP h
 lia
theorem zag(f:small a=true)(e:small b=true)(h:c=1∨c= -1):Builtin.Range.small a b c=true:=by
 rcases h with rfl|rfl
 · exact small_one (fF f).1 (fF f).2 (fF e).1 (fF e).2
 · exact PySem.W.small_down (fF f).1 (fF f).2 (fF e).1 (fF e).2

section
variable{Ω:Bx}{vs:List Value}

@[elab_as_elim] theorem as1_e {q:RV} (e:a1 as=some q) (R:fP Ω ρ s₀ s as vs) {P:List Value->Prop} (k:∀v,RVR Ω ρ s₀ s q v->P [v]):P vs:=by rw[vF e] at R;obtain⟨v,t,rfl,h1,h2⟩:=R;cases(show t=[] from h2);exact k v h1
@[elab_as_elim] theorem as2_e {q:RV×RV} (e:a2 as=some q) (R:fP Ω ρ s₀ s as vs) {P:List Value->Prop} (k:∀v u,RVR Ω ρ s₀ s q.1 v->RVR Ω ρ s₀ s q.2 u->P [v,u]):P vs:=by rw[zca e] at R;obtain⟨v,t,rfl,h1,h2⟩:=R;exact as1_e (P:=λt=>P (v::t)) rfl h2 λu h2=>k v u h1 h2
@[elab_as_elim] theorem as3_e {q:RV×RV×RV} (e:a3 as=some q) (R:fP Ω ρ s₀ s as vs) {P:List Value->Prop} (k:∀v u y,RVR Ω ρ s₀ s q.1 v->RVR Ω ρ s₀ s q.2.1 u->RVR Ω ρ s₀ s q.2.2 y->P [v,u,y]):P vs:=by rw[yca e] at R;obtain⟨v,t,rfl,h1,h2⟩:=R;exact as2_e (q:=q.2) (P:=λt=>P (v::t)) rfl h2 λu y h2 h3=>k v u y h1 h2 h3
theorem zdp(g:Kq Ω a Y s (.v (.int (.ofNat n))) Q)(e:m=n):Q (.int (m:Int) t) {s with toks:=k}:=zmj g t k (congrArg (λn:Nat=>Value.int (n:Int) t) e)
theorem zzp{n:Nat}(e:zl8 r J=some n){G:Prop}(c:∀x,rS r=some x->len x=n->G)(b:∀T,rV r=some (.tup T)->len T=n->G)(a:∀T,cont r J=some T->len T=n->G):G:=by
 rcases dQ e with e|e
 · refine aB e λx h e=>?_;exact c x h (prf e)
 · rcases dQ e with e|e
   · refine aB e λx h e=>?_
     refine aB h λy M h=>?_;exact b x (zck h▸M) (prf e)
   · refine aB e λx h e=>?_;exact a x h (prf e)
theorem zzm(H:HS Ω i J s){n:Nat}{v:Value}(e:zl8 r J=some n)(R:RVR Ω i Y s r v)(g:Kq Ω i Y s (.v (.int (.ofNat n))) Q):wpAny Ω.M A (call (.builtin "len") [v]) Q E s:=
 zzp e (λx h b=>rvS_e h R λt j=>P.len_str (by rw[aQ];have:=j.2;lia) (zdp g ((aQ x).trans ((aK x).symm.trans b))))
  (λT h b=>rvT_e h R λa vs k f c l=>len_tuple (items:=vs.toArray) ⟨_,f,rfl,_,rfl⟩ (by simp only[List.size_toArray];lia) (zdp g (c.len.trans ((aK T).symm.trans b))))
  (λT h b=>cont_e H h R λa vs k f c l=>PySem.Calls.call_len_list (items:=vs.toArray) ⟨_,f,rfl,_,rfl⟩ (by simp only[List.size_toArray];lia) (zdp g (c.len.trans ((aK T).symm.trans b))))
theorem zua(H:HS Ω a J s)(e:zub as J=some r)(R:fP Ω a Y s as vs)(g:Kq Ω a Y s r Q):wpAny Ω.M A (call (.builtin "len") vs) Q E s:=by refine aB e λq c e=>?_;refine aB e λn B e=>?_;exact as1_e c R λv b=>zzm H B b (prf e▸g)
theorem zdo(f:Builtin.Range.small a b c=true)(g:Kq Ω h Y s (.v (.rng a b c)) Q):Q (.ref s.heap.objs.size) {s with heap:=s.heap.push {cls:= .type "range",data:= .fields #[.int a t,.int b u,.int c w]},toks:=k}:=
 g _ _ k (λU U e=>Qc _ e) ⟨_,t,u,w,rfl,Qk _ rfl,f⟩
theorem vU(e:ran a b c=some r)(f:c=1∨c= -1):Builtin.Range.small a b c=true/\RV.v (.rng a b c)=r:=⟨zag (aS e).1 (aS (aS e).2).1 f,prf (aS (aS e).2).2⟩
theorem ye3(h:(Z.eqB c 1||Z.eqB c (-1))=true):c=1∨c= -1:=((Bool.or_eq_true _ _).mp h).imp (Z.eqB_iff c 1).mp (Z.eqB_iff c (-1)).mp
theorem zop(e:zd6 as=some r){G:Prop}(j:∀q n,a1 as=some q->rI q=some n->ran 0 n 1=some r->G)(i:∀q a b,a2 as=some q->rI q.1=some a->rI q.2=some b->ran a b 1=some r->G)
 (f:∀q a b c,a3 as=some q->rI q.1=some a->rI q.2.1=some b->rI q.2.2=some c->(c=1∨c= -1)->ran a b c=some r->G):G:=by
 rcases dQ e with e|e
 · refine aB e λq h e=>?_
   refine aB e λn M e=>?_;exact j q n h M e
 · rcases dQ e with e|e
   · refine aB e λq h e=>?_
     refine aB e λn M e=>?_;refine aB e λm B e=>?_;exact i q n m h M B e
   · refine aB e λq h e=>?_
     refine aB e λn M e=>?_;refine aB e λm B e=>?_;refine aB e λk A e=>?_;exact f q n m k h M B A (ye3 (aS e).1) (aS e).2
theorem zh2(e:zd6 as=some r)(R:fP Ω l Y s as vs)(g:Kq Ω l Y s r Q):wpAny Ω.M A (call (.type "range") vs) Q E s:=
 zop e (λq n h i e=>as1_e h R λv f=>rvI_e i f λt=>call_range_1 (zdo (vU e (.inl rfl)).1 ((vU e (.inl rfl)).2▸g)))
  (λq a b h i B e=>as2_e h R λv u f k=>rvI_e i f λt=>rvI_e B k λo=>call_range_2 (zdo (vU e (.inl rfl)).1 ((vU e (.inl rfl)).2▸g)))
  (λq a b c h i B w j e=>as3_e h R λv u y f k p=>rvI_e i f λt=>rvI_e B k λo=>rvI_e w p λm=>
   call_range_3 (by rcases j with rfl|rfl<;>decide) (zdo (vU e j).1 ((vU e j).2▸g)) (.inl (oQ (by rcases j with rfl|rfl<;>rfl))))
theorem yN(H:HS Ω c J s){q:RV}{v:Value}{l:List Int}(e:qC q J=some l)(R:RVR Ω c Y s q v){P:Value->Prop}(k:∀a (ps:List (Int×Tok)),ps.map (·.1)=l->s.heap.IsList a (intItems ps.toArray)->P (.ref a)):P v:=by
 refine aB e λT M e=>?_;exact cont_e (P:=P) H M R λa vs n h f i=>by obtain⟨ps,rfl,b⟩:=rP e f;exact k a ps b ⟨_,h,rfl,n,by rw[←pH]⟩
theorem yfr(h:(intItems (m::a).toArray)[argBest (λi j=>c (numAt (m::a).toArray i) (numAt (m::a).toArray j)) ((m::a).toArray.size-1)]? =some v)(f:∀b o,s.heap.get? b=some o->e.get? b=some o)
 (g:Kq Ω k Y s (.v (.int (jZ c m.1 (a.map (·.1))))) Q):Q v {s with heap:=e,toks:=tk}:=g v e tk f (zt0 c h)
theorem zzc(H:HS Ω h J s)(n:A.handled=none)(e:qC q J=some l)(r:unc l=some p)(R:RVR Ω h Y s q v)(i:Kq Ω h Y s (.v (.int (zzd p.1 p.2))) Q):wpAny Ω.M A (call (.builtin "max") [v]) Q E s:=
 yN H e R (P:=λv=>wpAny Ω.M A (call (.builtin "max") [v]) Q E s) λa f b g=>by
  rw[pS r] at b;cases f with
  |nil=>cases b
  |cons m f=>have o:m.1=p.1:=(List.cons.inj b).1;have B:f.map (·.1)=p.2:=(List.cons.inj b).2;rw[zr1,←o,←B] at i;exact max_intList (xs:=(m::f).toArray) n g (Qn _) λv u t j k=>yfr (c:=λx m=>decide (x>m)) j k i
theorem zzb(H:HS Ω h J s)(n:A.handled=none)(e:qC q J=some l)(r:unc l=some p)(R:RVR Ω h Y s q v)(i:Kq Ω h Y s (.v (.int (uT p.1 p.2))) Q):wpAny Ω.M A (call (.builtin "min") [v]) Q E s:=
 yN H e R (P:=λv=>wpAny Ω.M A (call (.builtin "min") [v]) Q E s) λa f b g=>by
  rw[pS r] at b;cases f with
  |nil=>cases b
  |cons m f=>have o:m.1=p.1:=(List.cons.inj b).1;have B:f.map (·.1)=p.2:=(List.cons.inj b).2;rw[zr0,←o,←B] at i;exact min_intList (xs:=(m::f).toArray) n g (Qn _) λv u t j k=>yfr (c:=λx m=>decide (x<m)) j k i
theorem zr2(f:A.handled=none)(g:Kq Ω i Y s (.v (.int (cs (Z.ltB a b) b a))) Q):wpAny Ω.M A (call (.builtin "max") [.int a t,.int b u]) Q E s:=by
 refine max_two_ints f λh c e=>g _ h c e ?_;rw[ltZ];by_cases z:a<b
 · rw[if_pos z,decide_eq_true z];exact⟨_,rfl⟩
 · rw[if_neg z,decide_eq_false z];exact⟨_,rfl⟩
theorem zt8(H:HS Ω i J s)(j:A.handled=none)(e:zt9 as J=some r)(R:fP Ω i Y s as vs)(g:Kq Ω i Y s r Q):wpAny Ω.M A (call (.builtin "max") vs) Q E s:=by
 rcases dQ e with e|e
 · refine aB e λq h e=>?_
   refine aB e λa f e=>?_;refine aB e λb B e=>?_;exact as2_e h R λv u c k=>rvI_e f c λt=>rvI_e B k λm=>zr2 j (prf e▸g)
 · refine aB e λq h e=>?_
   refine aB e λl f e=>?_;refine aB e λp B e=>?_;exact as1_e h R λv c=>zzc H j f B c (prf e▸g)
theorem zt7(H:HS Ω a J s)(c:A.handled=none)(e:yg3 as J=some r)(R:fP Ω a Y s as vs)(g:Kq Ω a Y s r Q):wpAny Ω.M A (call (.builtin "min") vs) Q E s:=by refine aB e λq h e=>?_;refine aB e λl f e=>?_;refine aB e λp B e=>?_;exact as1_e h R λv b=>zzb H c f B b (prf e▸g)
theorem zt4(H:HS Ω b J s)(k:A.handled=none)(e:zt5 as J=some r)(R:fP Ω b Y s as vs)(m:Kq Ω b Y s r Q):wpAny Ω.M A (call (.builtin "sum") vs) Q E s:=by refine aB e λq h e=>?_;refine aB e λl n e=>?_;refine as1_e h R λv i=>yN H n i (P:=λv=>wpAny Ω.M A (call (.builtin "sum") [v]) Q E s) λa t c g=>sum_intListG k g λo f p j=>?_;rw[zxk,c];exact(show Kq Ω b Y s (.v (.int (fE l 0))) Q from prf e▸m) _ o f j ⟨_,rfl⟩
theorem yaq(q:n<340282366920938463463374607431768211456)(g:Kq Ω a Y s (.v (.str (zbk n))) Q):wpAny Ω.M A (call (.builtin "hex") [.int (.ofNat n) t]) Q E s:=
 P.hex_of_int (i:= .ofNat n) (by rw[zmx q];exact jL (zfe n) g _ _) (by rw[zmx q,aQ];exact Qi (zfe n).2 (by decide))
theorem zuc(e:yg4 as=some r)(R:fP Ω b Y s as vs)(g:Kq Ω b Y s r Q):wpAny Ω.M A (call (.builtin "hex") vs) Q E s:=by refine aB e λq h e=>?_;refine aB e λi a e=>?_;refine aB e λn B e=>?_;rw[zhh B] at a;exact as1_e h R λv c=>rvI_e a c λt=>yaq (Qa (aS e).1) (prf (aS e).2▸g)
theorem ybi(c:bH (Z.eqB b 0)=true)(B:small b=true)(g:Kq Ω f Y s (.v (.tup [.int (Int.fdiv a b),.int (Int.fmod a b)])) Q):wpAny Ω.M A (call (.builtin "divmod") [.int a t,.int b u]) Q E s:=
 divmod_int (zdz c) (g _ _ _ (λU U e=>Qc _ e) ⟨_,[.int (a.fdiv b) s.toks,.int (a.fmod b) (s.toks+1)],0,rfl,Qk _ rfl,VRs.cons ⟨_,rfl⟩ (VRs.cons ⟨_,rfl⟩ VRs.nil),(by decide:2≤65536)⟩) (.inl (oQ B))
theorem zud(e:yg5 as=some r)(R:fP Ω c Y s as vs)(g:Kq Ω c Y s r Q):wpAny Ω.M A (call (.builtin "divmod") vs) Q E s:=by refine aB e λq h e=>?_;refine aB e λa j e=>?_;refine aB e λb B e=>?_;exact as2_e h R λv u f i=>rvI_e j f λt=>rvI_e B i λk=>ybi (aS e).1 (aS (aS e).2).1 (prf (aS (aS e).2).2▸g)
theorem yb9(i:Int):(if i<0 then-i else i)= .ofNat i.natAbs:=by
 cases i with
 |ofNat n=>exact if_neg (Int.not_lt.mpr (Int.natCast_nonneg n))
 |negSucc n=>exact if_pos (Int.negSucc_lt_zero n)
theorem zue(e:yg7 as=some r)(R:fP Ω a Y s as vs)(g:Kq Ω a Y s r Q):wpAny Ω.M A (call (.builtin "abs") vs) Q E s:=by refine aB e λq h e=>?_;refine aB e λi c e=>?_;exact as1_e h R λv b=>rvI_e c b λt=>call_abs_int λu f=>pE (prf e▸g) (yb9 i)
theorem zw7(j:s.heap.get? a=some (bZ vs n))(i:VRs c s.heap T vs)(h:aM (len T)=true)(g:Kq Ω c Y s (.v (.tup T)) Q):wpAny Ω.M A (call (.type "tuple") [.ref a]) Q E s:=by
 have h:vs.length≤65536:=i.len▸aK T▸cG h;exact call_tuple_list (items:=vs.toArray) ⟨_,j,rfl,n,rfl⟩ (λk f=>g _ _ s.toks (λb o e=>Qc _ (f b o e)) ⟨_,vs,0,rfl,Qk _ rfl,VRs.mono (Ext.refl c) (λb o e U=>Qc _ (f b o e)) _ _ i,h⟩)
  (by rw[sizeLine_eq,List.size_toArray];lia)
theorem zt3(H:HS Ω b J s)(e:yg2 as J=some r)(R:fP Ω b Y s as vs)(g:Kq Ω b Y s r Q):wpAny Ω.M A (call (.type "tuple") vs) Q E s:=by refine aB e λq h e=>?_;refine aB e λT f e=>?_;exact as1_e h R λv c=>cont_e H f c λa vs n j i k=>zw7 j i (aS e).1 (prf (aS e).2▸g)
theorem zom(H:HS Ω f J s)(e:zf2 as J=some r)(R:fP Ω f Y s as vs)(g:Kq Ω f Y s r Q):wpAny Ω.M A (call (.type "type") vs) Q E s:=by
 refine aB e λq h e=>?_;rcases dQ e with e|e
 · refine aB e λx c e=>?_
   exact as1_e h R λv b=>rvS_e c b λt U=>call_type_of (typeIs_str _ _ _) (by decide) (Kq.here (r:= .v (.bi .str)) (prf e▸g) rfl)
 · refine aB e λx c e=>?_
   exact as1_e h R λv b=>cont_e H c b λa vs n i k j=>call_type_of (tyL i) (by decide) (Kq.here (r:= .v (.bi .list)) (prf e▸g) rfl)
theorem zat(R:VRs a h T vs):∀{p:LN},(∀i∈p,i<vs.length)->VRs a h (zex T p) (p.map λi=>vs.getD i Value.none)
 |[],_=>VRs.nil
 |i::r,J=>by have e:=J i (.head _);obtain⟨x,b⟩:∃x,nth T i=some x:=⟨_,kP (R.len▸e)⟩;obtain⟨u,k,f⟩:=R.nth b;show VRs a h (byO (nth T i) (λv=>v::zex T r) (zex T r)) (vs.getD i Value.none::_);rw[b,show vs.getD i Value.none=u by rw[List.getD_eq_getElem?_getD,k];rfl];exact VRs.cons f (zat R λj c=>J j (.tail _ c))
theorem zae(H:HS Ω h J s)(n:∀a,s.heap.get? a=none->Y.heap.get? a=none)(R:VRs h s.heap T vs)(m:vs.length≤4)(g:Kq Ω h Y s (zxs lt T) Q)(j:∀b o,s.heap.get? b=some o->f.get? b=some o)(l:s.heap.get? D=none)
 (p:f.get? D=some (seqObj "list" (List.toArray ((iC lt (kas_sort vs.length)).toList.map λi=>vs.getD i Value.none)) k)) (c:jF vs.length (iC lt (kas_sort vs.length))=true) (q:(iC lt (kas_sort vs.length)).size=vs.length):Q (.ref D) {s with heap:=f,toks:=t}:=by
 refine g _ f t j ⟨D,_,k,rfl,p,?_,?_,n D l,H.notIn l⟩
 · have m:len T=vs.length:=(aK T).trans R.len.symm
   rw[m];exact VRs.mono (Ext.refl _) (λb o e U=>j b o e) _ _ (zat R (zzk c))
 · rw[List.length_map,Array.length_toList];lia
theorem tF:∀ps:List (Int×Tok),IntsAre (psV ps) (ps.map (·.1))
 |[]=> .nil
 |p::r=> .cons p.1 p.2 (tF r)
theorem rW(h:vs[i]? =some u):vs.getD i Value.none=u:=by rw[List.getD_eq_getElem?_getD,h];rfl
theorem zkj(h:i<a.length):∃x t,(psV a)[i]? =some (.int x t)/\nth (a.map (·.1)) i=some x:=
 ⟨a[i].1,a[i].2,by simp[psV,h],by rw[bX];simp[h]⟩
theorem zug(m:i<a.length)(l:j<a.length)(n:∀t,C (ltI (a.map (·.1)) i j) {b with toks:=t}):kas_ask Ω.prog Ω.w A oneType' (psV a) i j C b:=by obtain⟨x,t,k,f⟩:=zkj m;obtain⟨y,u,e,c⟩:=zkj l;unfold kas_ask;rw[rW k,rW e];have h:=n b.toks;unfold ltI at h;rw[f,c] at h;exact kat_lt_int (ltZ x y▸h)
noncomputable abbrev Pr:=Addr×Nat×(Int×Tok)×(Int×Tok)
noncomputable abbrev prV(T:List Pr):List Value:=T.map λe=> .ref e.1
noncomputable abbrev prL(T:List Pr):List (Int×Int):=T.map λe=>(e.2.2.1.1,e.2.2.2.1)
noncomputable abbrev zuu(h:Heap)(T:List Pr):Prop:=∀e∈T,h.get? e.1=some (oK [.int e.2.2.1.1 e.2.2.1.2,.int e.2.2.2.1 e.2.2.2.2] e.2.1)
theorem zkc:∀{vs:List Value} {l:List (Int×Int)},zf4 m=some l->VRs C h m vs->∃T:List Pr,vs=prV T/\prL T=l/\zuu h T:=by
 induction m with
 |nil=>exact λe R=>⟨[],show _=[] from R,prf e,nofun⟩
 |cons x r d=>
  intro vs l e ⟨v,t,q,M,h2⟩;refine aB e λG D e=>?_;refine aB e λN A e=>?_;refine aB e λp y e=>?_;refine aB e λI w e=>?_;rw[zck D] at M;obtain⟨a,E,n,H,g,Q,_⟩:=M;obtain⟨c,J,b⟩:=rP A Q;rw[zca y] at b;have i:∃p1 p2,c=[p1,p2]:=by
   cases c with
   |nil=>simp at b
   |cons p1 c=>cases c with
    |nil=>simp at b
    |cons p2 c=>cases c with
     |nil=>exact⟨p1,p2,rfl⟩
     |cons _ _=>simp at b
  obtain⟨p1,p2,j⟩:=i;rw[j] at b J;obtain⟨B,k⟩:=List.cons.inj b;have k:=(List.cons.inj k).1;obtain⟨T,u,s,o⟩:=d w h2;refine⟨(a,n,p1,p2)::T,by rw[q,H,u];rfl,by rw[←prf e,←s];exact congrArg (· ::prL T) (Prod.ext B k),λz f=>?_⟩;rcases Qe f with f|f
  · rw[f,g,J];rfl
  · exact o z f
theorem zkk(P:zuu h T)(b:i<T.length):∃a n x t y u,(prV T)[i]? =some (.ref a)/\nth (prL T) i=some (x,y)/\h.get? a=some (oK [.int x t,.int y u] n):=
 ⟨T[i].1,T[i].2.1,T[i].2.2.1.1,T[i].2.2.1.2,T[i].2.2.2.1,T[i].2.2.2.2,by simp[b],by rw[bX];simp[b],P _ (List.getElem_mem b)⟩
theorem zou(P:zuu c.heap T)(D:i<T.length)(v:j<T.length)(H:∀t,C (ltP (prL T) i j) {c with toks:=t}):kas_ask Ω.prog Ω.w A (tuples' true) (prV T) i j C c:=by
 obtain⟨a,n,x,t,y,u,p,o,l⟩:=zkk P D;obtain⟨b,m,z,r,w,Q,k,f,e⟩:=zkk P v;unfold kas_ask;rw[rW p,rW k];have h:=H c.toks;unfold ltP at h;rw[o,f] at h;have h:C (cs (Z.eqB x z) (Z.ltB y w) (Z.ltB x z)) c:=h;refine kat_lt l rfl e rfl (kat_cons (wpAny_eqBool_int ?_));rw[eqB_iff'] at h;cases q:(x==z) with
 |true=>
  rw[q] at h;refine kat_yes (kat_cons (wpAny_eqBool_int ?_));cases s:(y==w) with
  |true=>refine kat_yes (kat_nil ?_);rw[show Z.ltB y w=false by rw[ltZ,decide_eq_false_iff_not,beq_iff_eq.mp s];exact Int.lt_irrefl _] at h;exact h
  |false=>exact kat_no (kat_one _ _ (PyProof.Rows.lt_int (ltZ y w▸h)))
 |false=>rw[q] at h;exact kat_no (show wpAny _ _ (keyLt' oneType' (.int x t) (.int z r)) _ _ _ from kat_lt_int (ltZ x z▸h))
theorem zeu:∀{T:List Pr},zuu h T->KatTups h (prV T) (T.map λe=> .int e.2.2.1.1 e.2.2.1.2)
 |[],_=> .nil
 |e::T,P=> .cons (P e (.head _)) rfl rfl rfl (zeu λz a=>P z (.tail _ a))
theorem zoo(H:HS Ω B J s)(hs:∀a,s.heap.get? a=none->Y.heap.get? a=none)(e:zwg as J=some r)(R:fP Ω B Y s as vs)(y:Kq Ω B Y s r Q):wpAny Ω.M A (call (.builtin "sorted") vs) Q E s:=by
 refine aB e λq h1 e=>?_;refine aB e λG h2 e=>?_;refine aJ e λh3 e=>?_;refine as1_e (P:=λvs=>wpAny Ω.M A (call (.builtin "sorted") vs) Q E s) h1 R λv R1=>?_;have go:∀{a:Addr} {c:List Value} {o:Obj} {n:Nat},s.heap.get? a=some o->(o.cls= .type "list"∨o.cls= .type "tuple")->o.data= .seq c.toArray n->VRs B s.heap G c->wpAny Ω.M A (call (.builtin "sorted") [.ref a]) Q E s:=λ{a c o n} x hc hd g=>by
  have hl:len G=c.length:=(aK G).trans g.len.symm;have hn:c.length=2∨c.length=4:=by
   rw[hl] at h3;cases z:Nat.beq c.length 2 with
   |true=>exact .inl (aN z)
   |false=>rw[z] at h3;exact .inr (aN h3)
  rcases dQ e with e|e
  · refine aB e λl h4 e=>?_
    rw[←prf e] at y;obtain⟨d,J,f⟩:=rP h4 g;rw[←f] at y;subst J;have b:(psV d).length=d.length:=List.length_map _;refine sJ (lt:=ltI (d.map (·.1))) x hc hd hn (λA' N k {Q'} hq=>?_) (λA' i j C N hi hj k hC=>zug (b▸hi) (b▸hj) hC) λh' t k D I w u p m=>zae H hs g (by lia) y I w u p m
    match d,b▸hn with
    |p1::p2::pr,_=>exact wpAny_of_eq (keyKind_ints (tF (p1::p2::pr))) hq
    |[_],h=>simp at h
    |[],h=>simp at h
  · refine aB e λl h4 e=>?_
    rw[←prf e] at y;obtain⟨T,J,f,P⟩:=zkc h4 g;rw[←f] at y;subst J;have b:(prV T).length=T.length:=List.length_map _;refine sJ (lt:=ltP (prL T)) x hc hd hn (λA' N k {Q'} hq=>?_) (λA' i j C N hi hj k hC=>zou (λe he=>k _ _ (P e he)) (b▸hi) (b▸hj) hC) λh' t k D I w u p m=>zae H hs g (by lia) y I w u p m;refine kat_kind (T:= .type "int") (zeu λe he=>k _ _ (P e he)) (by rw[List.length_map];lia) (λv hv=>?_) (by decide) hq;obtain⟨e,_,hv⟩:=List.mem_map.mp hv;rw[←hv];exact .now
 exact xP (P:=λv=>wpAny Ω.M A (call (.builtin "sorted") [v]) Q E s) H h2 R1 (λa c n x g U=>go x (.inl rfl) rfl g) λa c n x g U=>go x (.inr rfl) rfl g
theorem ybv(H:HS Ω f J s)(c:A.handled=none)(h:∀a,s.heap.get? a=none->Y.heap.get? a=none)(e:bic b as J=some r)(R:fP Ω f Y s as vs)(g:Kq Ω f Y s r Q):wpAny Ω.M A (call b.val vs) Q E s:=by
 cases b with
 |len=>exact zua H e R g
 |range=>exact zh2 e R g
 |max=>exact zt8 H c e R g
 |min=>exact zt7 H c e R g
 |sum=>exact zt4 H c e R g
 |hex=>exact zuc e R g
 |divmod=>exact zud e R g
 |abs=>exact zue e R g
 |tuple=>exact zt3 H e R g
 |type=>exact zom H e R g
 |sorted=>exact zoo H h e R g
 |_=>exact nn e
end

structure Ch(ads:List Addr)(gi:LN)(s s':Shared):Prop where
 keep:∀b o,s.heap.get? b=some o->b∉ads->s'.heap.get? b=some o
 imm:hJ s.heap s'.heap
 gens:∀(g:Nat) (st:GenState),g∉gi->s.gens[g]? =some st->s'.gens[g]? =some st
 bare:AllBare s'.gens
 os:s'.os=s.os
 tk:0<s.toks->0<s'.toks
noncomputable def zg6(n:String):Bool:=["enumerate","zip","dict_itemiterator","dict_reverseitemiterator","odict_iterator","itertools.zip_longest","itertools.pairwise"].contains n
structure Al(it:Addr)(ads:List Addr)(s:Shared):Prop where
 al:∀a∈ads,∃o,s.heap.get? a=some o/\¬Imm o
 own:∃o n,s.heap.get? it=some o/\o.cls= .type n/\zg6 n=false
 mem:it∈ads
structure Kp(Ω:Bx)(ads:List Addr)(gi:LN)(ρ:Rho)(s:Shared)(ρ':Rho)(s':Shared):Prop where
 ext:Ext ρ ρ'
 imm:hJ s.heap s'.heap
 keep:∀a∈ads,∀o,s.heap.get? a=some o->s'.heap.get? a=some o
 gens:∀g∈gi,∀(st:GenState),s.gens[g]? =some st->s'.gens[g]? =some st
 bare:AllBare s'.gens
 tk:0<s.toks->0<s'.toks
 base:∀b o,Ω.h₀.get? b=some o->s'.heap.get? b=some o

section
theorem Kp.trans(x:Kp N k m n s f z)(y:Kp N k m f z c j):Kp N k m n s c j:=
 ⟨x.ext.trans y.ext,λb o e i=>y.imm b o (x.imm b o e i) i,λa h o e=>y.keep a h o (x.keep a h o e),λg h l e=>y.gens g h l (x.gens g h l e),y.bare,λh=>y.tk (x.tk h),y.base⟩
noncomputable def Dry(Ω:Bx)(A:Around)(it:Addr)(b:List Addr)(c:LN)(s:Shared):Prop:=∀(Q:Option Value->Shared->Prop) (E:Value->Shared->Prop),(∀a,Ch b c s a->Q none a)->wpAny Ω.M A (pyNext (.ref it)) Q E s
def zd8(N:Bx)(A:Around)(e:Addr)(a:List Addr)(c:LN):List V->Rho->Shared->Prop
 |[],f,s=>∀(m:Rho) (u:Shared),Kp N a c f s m u->Dry N A e a c u
 |x::r,f,s=>∀(m:Rho) (u:Shared),Kp N a c f s m u->∀(Q:Option Value->Shared->Prop) (E:Value->Shared->Prop),
  (∀v b,Ch a c u b->Al e a b->VR m b.heap x v->zd8 N A e a c r m b->Q (some v) b)->wpAny N.M A (pyNext (.ref e)) Q E u
theorem zd8.kp(H:zd8 N A i e f T h s)(k:Kp N e f h s m u):zd8 N A i e f T m u:=by
 cases T with
 |nil=>exact λa b c=>H a b (k.trans c)
 |cons x r=>exact λa b c=>H a b (k.trans c)
def qU(N:Bx)(A:Around)(h:Addr)(f:LN):List V->List Addr->Rho->Shared->Prop
 |[],b,i,s=>∀(m:Rho) (u:Shared),Kp N b f i s m u->Dry N A h b f u
 |x::r,b,i,s=>∀(m:Rho) (u:Shared),Kp N b f i s m u->∀(Q:Option Value->Shared->Prop) (E:Value->Shared->Prop),
  (∀v c e,(∀a∈e,a∈b∨u.heap.get? a=none)->Ch b f u c->Al h e c->VR m c.heap x v->qU N A h f r e m c->Q (some v) c)->wpAny N.M A (pyNext (.ref h)) Q E u
theorem qU.kp(H:qU N A i f T e h s)(k:Kp N e f h s m u):qU N A i f T e m u:=by
 cases T with
 |nil=>exact λa b c=>H a b (k.trans c)
 |cons x r=>exact λa b c=>H a b (k.trans c)

theorem nX(l:it∈a)(j:s.heap.get? it=some o)(m:¬Imm o)(c:∀b o,b≠it->s.heap.get? b=some o->p.get? b=some o)
 (n:AllBare s.gens) (h:0<s.toks->0<t:=by first|exact id|exact λU=>Qn _):Ch a r s {s with heap:=p,toks:=t}:=
 ⟨λb o e k=>c b o (λq=>k (q▸l)) e,λb f e i=>c b f (λq=>m (prf (j.symm.trans (q▸e))▸i)) e,λU U U e=>e,n,rfl,h⟩
theorem dJ(c:o.cls= .type T)(b:o.data= .fields G)(h:T≠"range"):¬Imm o:=
 λi=>i.elim (λi=>i.2.elim λa i=>i.elim λn i=>nomatch (b.symm.trans i:Data.fields G= .seq a n)) λi=>h (Value.type.inj (c.symm.trans i.1))
def itn(n:String):Bool:= !zg6 n&&n !="tuple"&&n !="range"
noncomputable def Itb(h:Heap)(it:Addr):Prop:=∃o n,h.get? it=some o/\o.cls= .type n/\itn n=true
theorem Itb.ni(x:Itb h a):∃o,h.get? a=some o/\¬Imm o:=by obtain⟨o,n,M,B,A⟩:=x;have A:=(Bool.and_eq_true _ _).mp A;exact⟨o,M,zvr (λe=>bne_iff_ne.mp ((Bool.and_eq_true _ _).mp A.1).2 (Value.type.inj (B.symm.trans e))) λe=>bne_iff_ne.mp A.2 (Value.type.inj (B.symm.trans e))⟩
theorem Itb.own(x:Itb h a):∃o n,h.get? a=some o/\o.cls= .type n/\zg6 n=false:=by obtain⟨o,n,M,B,A⟩:=x;exact⟨o,n,M,B,(Bool.not_eq_true' _).mp ((Bool.and_eq_true _ _).mp ((Bool.and_eq_true _ _).mp A).1).1⟩
theorem mE(x:Itb s.heap c)(j:c∈a)(i:Heap.ExtBut c s.heap l)(k:AllBare s.gens)(f:0<s.toks->0<t:=by first|exact id|exact λU=>Qn _):Ch a m s {s with heap:=l,toks:=t}:=
 x.ni.elim λU h=>nX j h.1 h.2 (λb o q e=>i b o q e) k f
theorem zow(x:Itb s.heap c)(h:∀a∈b,a≠c->∃o,s.heap.get? a=some o/\¬Imm o)(e:c∈b):Al c b s:=
 ⟨λa f=>(Decidable.em (a=c)).elim (λq=>q▸x.ni) (h a f),x.own,e⟩
theorem zox(x:Itb s.heap b):Al b [b] s:=zow x (λa c q=>absurd (Qf c) q) (.head _)
section
variable{h:Heap}
theorem yC(x:h.IsListIter a l i):Itb h a:=x.elim λo h=>⟨o,_,h.1,h.2.1,by decide+kernel⟩
theorem zp4(x:h.IsTupleIter a l i):Itb h a:=x.elim λo h=>⟨o,_,h.1,h.2.1,by decide+kernel⟩
theorem zju(y:h.IsStrIter a "str_ascii_iterator" x t i):Itb h a:=y.elim λo h=>⟨o,_,h.1,h.2.1,by decide+kernel⟩
theorem zri(y:IsRangeIter h a x l c):Itb h a:=⟨_,_,y,rfl,by decide+kernel⟩
theorem zl4(x:h.IsListIter a l i):∃o,h.get? a=some o/\¬Imm o:=(yC x).ni
theorem zeo(y:h.IsStrIter a "str_ascii_iterator" x t i):∃o,h.get? a=some o/\¬Imm o:=(zju y).ni
end

structure Stp(Ω:Bx)(A:Around)(it:Addr)(ads:List Addr)(I:List V->Rho->Shared->Prop):Prop where
 kp:∀{xs ρ s ρ' s'},I xs ρ s->Kp Ω ads [] ρ s ρ' s'->I xs ρ' s'
 nil:∀{ρ s},I [] ρ s->AllBare s.gens->Dry Ω A it ads [] s
 cons:∀{x r ρ s} {Q:Option Value->Shared->Prop} {E:Value->Shared->Prop},I (x::r) ρ s->AllBare s.gens->(∀v s'',Ch ads [] s s''->Al it ads s''->VR ρ s''.heap x v->I r ρ s''->Q (some v) s'')->wpAny Ω.M A (pyNext (.ref it)) Q E s
theorem Stp.itr(S:Stp N A f e I):∀{ρ s},I T ρ s->zd8 N A f e [] T ρ s:=by
 induction T with
 |nil=>exact λh m u k=>S.nil (S.kp h k) k.bare
 |cons x r d=>exact λh m u k Q E g=>S.cons (S.kp h k) k.bare λv b c a R i=>g v b c a R (d i)
theorem cQ{a:Type}{G:List a}{i:Nat}{v:a}{r:List a}(h:G.drop i=v::r):G[i]? =some v/\G.drop (i+1)=r:=by have M:(G.drop i)[0]? =some v:=congrArg (·[0]?) h;rw[List.getElem?_drop] at M;exact⟨M,(List.drop_drop (i:=1) (j:=i) (l:=G)).symm.trans (congrArg (List.drop 1) h)⟩
theorem rD{a:Type}{G:List a}{i:Nat}(h:G.drop i=[]):G.toArray[i]? =none:=Array.getElem?_eq_none (List.drop_eq_nil_iff.mp h)
theorem qZ{a:Type}{G:List a}{i:Nat}{v:a}{r:List a}(h:G.drop i=v::r):G.toArray[i]? =some v:=(List.getElem?_toArray ..).trans (cQ h).1
theorem zdq{l:Addr}(k:Kp N a [] b s m u)(h:l∈a){p:Obj->Prop}(x:∃o,s.heap.get? l=some o/\p o):∃o,u.heap.get? l=some o/\p o:=x.elim λo x=>⟨o,k.keep l h o x.1,x.2⟩
theorem zjh(u:A.handled=none){l:Addr}(e:l≠c){G:List Value}{n:Nat}:Stp N A c [c,l] λT r s=>∃i,s.heap.IsListIter c l i/\s.heap.get? l=some (bZ G n)/\VRs r s.heap T (G.drop i):=by
 refine⟨λ{_ _ _ _ x} h k=>?_,λ{_ s} h f Q E g=>?_,λ{_ _ _ s _ _} h f g=>?_⟩
 · obtain⟨i,M,B,b⟩:=h
   exact⟨i,zdq k (.head _) M,k.keep l (.tail _ (.head _)) _ B,VRs.mono k.ext k.imm _ _ b⟩
 · obtain⟨i,M,B,b⟩:=h
   exact wpAny_pyNext_list_end (items:=G.toArray) u M ⟨_,B,rfl,_,rfl⟩ (rD b) λp H=>g _ (mE (yC M) (.head _) H f)
 · obtain⟨i,M,B,v,t,q,b,w⟩:=h
   refine wpAny_pyNext_list_item (items:=G.toArray) M ⟨_,B,rfl,_,rfl⟩ (qZ q) λp a m=>?_;have j:Ch [c,l] [] s {s with heap:=p}:=mE (yC M) (.head _) m.extBut f;have o:=(m.2 l e).trans B;exact g v _ j (zow (yC a) (kR (λq=>absurd rfl q) λU=>⟨_,o,jJ⟩) (.head _)) (VR.mono (Ext.refl _) j.imm _ _ b) ⟨i+1,a,o,(cQ q).2▸VRs.mono (Ext.refl _) j.imm _ _ w⟩
theorem zgo(r:A.handled=none){l:Addr}(e:l≠c){G:List Value}{n:Nat}:Stp N A c [c] λT p s=>∃i,s.heap.IsTupleIter c l i/\s.heap.get? l=some (oK G n)/\VRs p s.heap T (G.drop i):=by
 refine⟨λ{_ _ _ _ w} h k=>?_,λ{_ s} h f Q E g=>?_,λ{_ _ _ s _ _} h f g=>?_⟩
 · obtain⟨i,M,B,b⟩:=h
   exact⟨i,zdq k (.head _) M,k.imm l _ B (.inl ⟨rfl,_,_,rfl⟩),VRs.mono k.ext k.imm _ _ b⟩
 · obtain⟨i,M,B,b⟩:=h
   exact wpAny_pyNext_tuple_end (items:=G.toArray) r M ⟨_,B,rfl,_,rfl⟩ (rD b) λo H=>g _ (mE (zp4 M) (.head _) H f)
 · obtain⟨i,M,B,v,t,q,b,u⟩:=h
   refine wpAny_pyNext_tuple_item (items:=G.toArray) M ⟨_,B,rfl,_,rfl⟩ (qZ q) λo a m=>?_;have j:Ch [c] [] s {s with heap:=o}:=mE (zp4 M) (.head _) m.extBut f;exact g v _ j (zox (zp4 a)) (VR.mono (Ext.refl _) j.imm _ _ b) ⟨i+1,a,(m.2 l e).trans B,(cQ q).2▸VRs.mono (Ext.refl _) j.imm _ _ u⟩
noncomputable def chV(c:Nat):V:= .str [c]
theorem zqo(n:A.handled=none){x:LN}{t:Tok}(j:sOk x):Stp N A f [f] λT p s=>∃i,s.heap.IsStrIter f "str_ascii_iterator" (St x) t i/\T=(x.drop i).map chV:=by
 refine⟨λ{_ _ _ _ u} h k=>?_,λ{_ s} h b Q E g=>?_,λ{_ _ _ s _ _} h b g=>?_⟩
 · obtain⟨i,M,B⟩:=h
   exact⟨i,zdq k (.head _) M,B⟩
 · obtain⟨i,M,B⟩:=h
   exact wpAny_pyNext_ascii_end n M (rD (List.map_eq_nil_iff.mp B.symm)) λo H=>g _ (mE (zju M) (.head _) H b)
 · obtain⟨i,M,B⟩:=h
   cases q:x.drop i with
   |nil=>rw[q] at B;cases B
   |cons c l=>rw[q] at B;have e:=List.cons.inj B;rw[e.1] at g;refine wpAny_pyNext_ascii_item M (c:=c) (qZ q) λo a m=>?_;exact g _ _ (mE (zju M) (.head _) m.extBut b) (zox (zju a)) ⟨⟨_,rfl⟩,fS (dO (bJ j.1 _ (List.mem_of_getElem? (cQ q).1))),(by decide:1≤65536)⟩ ⟨i+1,a,e.2.trans (congrArg (List.map chV) (cQ q).2.symm)⟩
theorem zj0(n:Nat):(((n+1:Nat):Int)-1)=(n:Int):=show(n:Int)+1-1=n from Int.add_sub_cancel _ _
theorem zqp(o:A.handled=none){c:Int}{f:Nat->Int->List V}(q:∀a,f 0 a=[])(l:∀n a,f (n+1) a= .int a::f n (a+c)):Stp N A i [i] λT r s=>∃n a,IsRangeIter s.heap i a ((n:Nat):Int) c/\T=f n a:=by
 refine⟨λ{_ _ _ _ u} h k=>?_,λ{_ s} h j Q E g=>?_,λ{_ _ _ s _ _} h j g=>?_⟩
 · obtain⟨n,a,M,B⟩:=h
   exact⟨n,a,k.keep i (.head _) _ M,B⟩
 · obtain⟨n,a,M,B⟩:=h
   cases n with
   |zero=>exact wpAny_pyNext_range_end o M (Int.le_refl _) λp H=>g _ (mE (zri M) (.head _) H j)
   |succ n=>rw[l] at B;cases B
 · obtain⟨n,a,M,B⟩:=h
   cases n with
   |zero=>rw[q] at B;cases B
   |succ n=>rw[l] at B;have e:=List.cons.inj B;rw[e.1] at g;refine wpAny_pyNext_range_item M (Int.natCast_pos.mpr (Qn n)) λp b m=>?_;rw[zj0] at b;exact g _ _ (mE (zri M) (.head _) m.extBut j) (zox (zri b)) ⟨_,rfl⟩ ⟨n,_,b,e.2⟩
end

section
variable{Ω:Bx}

noncomputable def kA(Ω:Bx)(A:Around)(it:Addr)(a:List Addr)(b:LN)(src:Src)(ρ:Rho)(s:Shared):Prop:=match src with
 | .items xs=>zd8 Ω A it a b xs ρ s
 | .live n i=>∃l,nth ρ n=some [l]/\s.heap.IsListIter it l i/\a=[it]/\b=[]
 | .gen xs=>b≠[]/\qU Ω A it b xs a ρ s
structure AdOk(Ω:Bx)(it:Addr)(ads:List Addr)(gi:LN)(ρ:Rho)(s₀ s:Shared):Prop where
 al:Al it ads s
 out:∀a∈ads,a∉ρ.flatten
 fresh:∀a∈ads,s₀.heap.get? a=none
 gen:∀g∈gi,s₀.gens.size≤g
noncomputable def uI(Ω:Bx)(A:Around)(it:Addr)(b:List Addr)(s:Shared):Prop:=
 ∀s':Shared,(∀a∈b,∀o,s.heap.get? a=some o->s'.heap.get? a=some o)->∀(Q E:Value->Shared->Prop),Q (.ref it) s'->wpAny Ω.M A (pyIter (.ref it)) Q E s'
noncomputable def Wk0(Ω:Bx)(Rm:Around->Prop):Prop:=∀{A:Around} {xs:List V} {a:Addr} {c:List (Addr×Obj)} {g:Nat} {st:GenState} {ρ:Rho} {s:Shared} {E:Value->Shared->Prop} {Q:Value->Shared->Prop},
 Rm A->Ω.Wk xs a c g st->(∀p∈c,s.heap.get? p.1=some p.2)->s.gens[g]? =some st->AllBare s.gens->(∀b o,Ω.h₀.get? b=some o->s.heap.get? b=some o)->0<s.toks->
 ((∀p∈c,¬Imm p.2)->a∈c.map Prod.fst->(∃o n,s.heap.get? a=some o/\o.cls= .type n/\zg6 n=false)->uI Ω A a (c.map Prod.fst) s->qU Ω A a [g] xs (c.map Prod.fst) ρ s->Q (.ref a) s)->wpAny Ω.M A (pyIter (.ref a)) Q E s

theorem dK(s:Shared):s.heap.get? s.heap.objs.size=none:=dZ s.heap
structure Made(Ω:Bx)(A:Around)(s₀ s:Shared)(src:Src)(ρ:Rho)(it:Addr)(ads:List Addr)(gi:LN)(s':Shared):Prop where
 self:uI Ω A it ads s'
 at_:kA Ω A it ads gi src ρ s'
 ad:AdOk Ω it ads gi ρ s₀ s'
 ng:(∀xs,src≠.gen xs)->gi=[]
noncomputable abbrev Up(s:Shared)(h':Heap):Prop:=∀b o,s.heap.get? b=some o->h'.get? b=some o
noncomputable abbrev qJ(Ω:Bx)(A:Around)(s₀ s:Shared)(src:Src)(ρ:Rho)(Q:Value->Shared->Prop):Prop:=∀it a b h',Up s h'->Made Ω A s₀ s src ρ it a b {s with heap:=h'}->Q (.ref it) {s with heap:=h'}
theorem zyt(H:HS Ω b J s)(c:∀a,s.heap.get? a=none->Y.heap.get? a=none)(e:Itb (s.heap.push o) s.heap.objs.size):AdOk Ω s.heap.objs.size [s.heap.objs.size] [] b Y {s with heap:=s.heap.push o}:=
 ⟨zox e,dO (H.notIn (dK s)),dO (c _ (dK s)),nofun⟩
theorem xX(H:HS Ω i J s)(j:∀a,s.heap.get? a=none->Y.heap.get? a=none)(l:∀T,c≠.gen T)(g:qJ Ω A Y s c i Q)(m:o.isFreed=false)(n:(s.heap.push o).get? s.heap.objs.size=some o->Itb (s.heap.push o) s.heap.objs.size)
 (b:∀u:Shared,u.heap.get? s.heap.objs.size=some o->∀(Q E:Value->Shared->Prop),Q (.ref s.heap.objs.size) u->wpAny Ω.M A (pyIter (.ref s.heap.objs.size)) Q E u)
 (f:(s.heap.push o).get? s.heap.objs.size=some o->kA Ω A s.heap.objs.size [s.heap.objs.size] [] c i {s with heap:=s.heap.push o}):Q (.ref s.heap.objs.size) {s with heap:=s.heap.push o}:=
 have h:=Qk s.heap m
 g _ [_] [] _ (λU U e=>Qc _ e) ⟨λu k=>b u (k _ (.head _) _ h),f h,zyt H j (n h),λU=>rfl⟩
theorem vM(u:Shared)(h:u.heap.get? a=some {cls:= .type "list_iterator",data:= .fields #[.ref l,.int 0 0]})(Q E:Value->Shared->Prop)(q:Q (.ref a) u):wpAny Ω.M A (pyIter (.ref a)) Q E u:=wpAny_pyIter_listiter (l:=l) (i:=0) ⟨_,h,rfl,rfl⟩ q
theorem yab(t:A.handled=none)(H:HS Ω c J s)(p:∀a,s.heap.get? a=none->Y.heap.get? a=none)(h:s.heap.get? a=some (bZ G n))(m:VRs c s.heap T G)(v:Y.heap.get? a=none)(r:a∉c.flatten)
 (g:qJ Ω A Y s (.items T) c Q):wpAny Ω.M A (pyIter (.ref a)) Q E s:=by
 have i:=dK s;have f:Up s (s.heap.push {cls:= .type "list_iterator",data:= .fields #[.ref a,.int 0 0]}):=λU U e=>Qc _ e;have l:=Qk s.heap (o:={cls:= .type "list_iterator",data:= .fields #[.ref a,.int 0 0]}) rfl;have j:(s.heap.push _).IsListIter s.heap.objs.size a 0:=⟨_,l,rfl,rfl⟩;exact wpAny_pyIter_list (items:=G.toArray) ⟨_,h,rfl,_,rfl⟩ (g _ [_,a] [] _ f ⟨λu k=>vM u (k _ (.head _) _ l),(zjh t (λq=>sn i (q▸h))).itr ⟨0,j,f _ _ h,VRs.mono (Ext.refl c) (λb o e U=>f b o e) _ _ m⟩,
  ⟨zow (yC j) (kR (λq=>absurd rfl q) λU=>⟨_,f _ _ h,jJ⟩) (.head _),kR (H.notIn i) r,kR (p _ i) v,nofun⟩,λU=>rfl⟩)
theorem nN(a:List V):Src.items T≠.gen a:=λh=>nomatch h
theorem ze5(a:List V):Src.live n i≠.gen a:=λh=>nomatch h
theorem zz9(m:A.handled=none)(H:HS Ω c J s)(k:∀a,s.heap.get? a=none->Y.heap.get? a=none)(f:s.heap.get? a=some (oK G n))(j:VRs c s.heap T G)
 (g:qJ Ω A Y s (.items T) c Q):wpAny Ω.M A (pyIter (.ref a)) Q E s:=
 wpAny_pyIter_tuple (items:=G.toArray) ⟨_,f,rfl,_,rfl⟩ (xX H k nN g rfl (λh=>zp4 (l:=a) (i:=0) ⟨_,h,rfl,rfl⟩) (λu h Q E q=>wpAny_pyIter_tupleiter (t:=a) (i:=0) ⟨_,h,rfl,rfl⟩ q)
  λh=>(zgo m (λq=>sn (dK s) (q▸f))).itr ⟨0,⟨_,h,rfl,rfl⟩,Qc _ f,VRs.mono (Ext.refl c) (λb o e U=>Qc _ e) _ _ j⟩)
theorem yaa(f:A.handled=none)(H:HS Ω b J s)(e:∀a,s.heap.get? a=none->Y.heap.get? a=none)(j:sOk x)(g:qJ Ω A Y s (.items (x.map chV)) b Q):wpAny Ω.M A (pyIter (.str (St x) t)) Q E s:=
 wpAny_pyIter_ascii ((Array.all_eq_true_iff_forall_mem).mpr λc k=>decide_eq_true (bJ j.1 c (List.mem_toArray.mp k))) (xX H e nN g rfl (λh=>zju (x:=St x) (t:=t) (i:=0) ⟨_,h,rfl,rfl⟩)
  (λu h Q E q=>wpAny_pyIter_striter_ascii (x:=St x) (t:=t) (i:=0) ⟨_,h,rfl,rfl⟩ q) λh=>(zqo f j).itr ⟨0,⟨_,h,rfl,rfl⟩,rfl⟩)
theorem zml(m:A.handled=none)(H:HS Ω i J s)(j:∀a,s.heap.get? a=none->Y.heap.get? a=none){a b c:Int}{t u v:Tok}{r:Addr}{n:Nat}{f:Nat->Int->List V}(p:∀a,f 0 a=[])(o:∀n a,f (n+1) a= .int a::f n (a+c))(k:s.heap.get? r=some (yek a b c t u v))(e:Builtin.Range.small a b c=true)(l:Builtin.Range.rangeSize a b c=(n:Int))
 (g:qJ Ω A Y s (.items (f n a)) i Q):wpAny Ω.M A (pyIter (.ref r)) Q E s:=
 wpAny_pyIter_range k e (by rw[l];exact xX H j nN g rfl (λh=>zri h) (λw h Q E q=>wpAny_pyIter_rangeiter h q) λh=>(zqp m p o).itr ⟨n,a,h,rfl⟩)
theorem zhg(H:HS Ω b J s)(c:∀a,s.heap.get? a=none->Y.heap.get? a=none)(f:nth b n=some [a])(e:s.heap.get? a=some (bZ G k))(g:qJ Ω A Y s (.live n 0) b Q):wpAny Ω.M A (pyIter (.ref a)) Q E s:=
 wpAny_pyIter_list (items:=G.toArray) ⟨_,e,rfl,_,rfl⟩ (xX H c ze5 g rfl (λh=>yC (l:=a) (i:=0) ⟨_,h,rfl,rfl⟩) (λu h=>vM u h) λh=>⟨a,f,⟨_,h,rfl,rfl⟩,rfl,rfl⟩)
theorem zpy(a b:Int):Builtin.Range.rangeSize a b 1=(((b-a).toNat:Nat):Int):=by rw[rangeSize_one];split<;>lia
theorem yac(i:Wk0 Ω Rm)(t:Rm A)(H:HS Ω ρ J s)(G:yhh Ω ρ Y s T a)(m:qJ Ω A Y s (.gen T) ρ Q):wpAny Ω.M A (pyIter (.ref a)) Q E s:=by
 obtain⟨f,g,w,c,B,v,u⟩:=G;have b:∀{p:Addr->Prop},(∀x∈f,p x.1)->∀a∈f.map Prod.fst,p a:=λh a k=>(List.mem_map.mp k).elim λx q=>q.2▸h x q.1
 exact i (ρ:=ρ) t u (λp J=>(c p J).1) B H.gens H.base H.tk λj o n l r=>
  m a (f.map Prod.fst) [g] s.heap (λU U e=>e) ⟨l,⟨nofun,r⟩,⟨⟨b λp J=>⟨_,(c p J).1,j p J⟩,n,o⟩,b λp J=>(c p J).2.1,b λp J=>(c p J).2.2,dO v⟩,λz=>absurd rfl (z _)⟩
theorem zfd{Rm:Around->Prop}(d:∀A,Rm A->A.handled=none)(D:Wk0 Ω Rm)(I:Rm A)(H:HS Ω B hp s)(i:∀a,s.heap.get? a=none->Y.heap.get? a=none){r:RV}{v:Value}(e:vK r hp=some m)(R:RVR Ω B Y s r v)
 (h:qJ Ω A Y s m B Q):wpAny Ω.M A (pyIter v) Q E s:=by
 have p:=d A I;cases r with
 |l T=>rw[←prf e] at h;obtain⟨a,C,n,q,j,w,hl,hf,y⟩:=R;exact q▸yab p H i j w hf y h
 |g T=>rw[←prf e] at h;obtain⟨a,q,G⟩:=R;exact q▸yac D I H G h
 |v x=>
  cases x with
  |tup T=>rw[←prf e] at h;obtain⟨a,C,n,q,j,w,_⟩:=R;exact q▸zz9 p H i j w h
  |str x=>rw[←prf e] at h;obtain⟨⟨t,q⟩,N⟩:=R;exact q▸yaa p H i N h
  |rng a b c=>
   have e:cs (Z.eqB c 1) (some (Src.items (pX (b-a).toNat a))) (ifb (Z.eqB c (-1)) (some (.items (zj1 (a-b).toNat a))))=some m:=e;obtain⟨x,t,u,v,q,j,o⟩:=R;rw[q];cases z:Z.eqB c 1 with
   |true=>rw[z] at e;rw[←prf e] at h;have z:=(Z.eqB_iff c 1).mp z;exact zml p H i (f:=pX) (λU=>rfl) (λU U=>z▸rfl) j o (z▸zpy a b) h
   |false=>rw[z] at e;refine aJ e λz e=>?_;rw[←prf e] at h;have z:=(Z.eqB_iff c (-1)).mp z;exact zml p H i (f:=zj1) (λU=>rfl) (λU U=>z▸rfl) j o (z▸(PySem.W.rangeSize_downNat ..)) h
  |ref n=>refine aB e λT q e=>?_;rw[←prf e] at h;obtain⟨a,C,k,J,y,h2,_⟩:=jK H q R;exact J▸zhg H i y h2 h
  |_=>exact nn e

theorem vY(d:A.handled=none)(H:HS Ω h J s)(e:pZ (.live n i) J=some o)(r:nth h n=some [l])(m:s.heap.IsListIter c l i)
 (C:o=none->∀b,Ch [c] [] s b->z none b)
 (g:∀x a,o=some (x,a)->∀v b,Ch [c] [] s b->Al c [c] b->VR h b.heap x v->kA Ω A c [c] [] a h b->z (some v) b):wpAny Ω.M A (pyNext (.ref c)) z E s:=by
 refine aB e λT q e=>?_;obtain⟨a',G,k,p,Q,B,t,Y⟩:=jK H q ⟨l,[],r,rfl⟩;rw[←Value.ref.inj p] at B;cases j:nth T i with
 |none=>rw[j] at e;exact wpAny_pyNext_list_end (items:=G.toArray) d m ⟨_,B,rfl,_,rfl⟩ (Array.getElem?_eq_none (show G.length≤i from t.len▸zkl j)) λw p=>C (prf e).symm _ (mE (yC m) (.head _) p H.gens)
 |some v=>rw[j] at e;obtain⟨u,N,I⟩:=t.nth' j;refine wpAny_pyNext_list_item (items:=G.toArray) m ⟨_,B,rfl,_,rfl⟩ N λw f D=>?_;have y:Ch [c] [] s {s with heap:=w}:=mE (yC m) (.head _) D.extBut H.gens;exact g _ _ (prf e).symm u _ y (zox (yC f)) (VR.mono (Ext.refl h) y.imm _ _ I) ⟨l,r,f,rfl,rfl⟩
theorem lL(H:HS Ω a J s):Kp Ω b c a s a s:=⟨Ext.refl a,λU U e U=>e,λU U U e=>e,λU U U e=>e,H.gens,id,H.base⟩
theorem ze3(Q:A.handled=none)(H:HS Ω k J s)(e:pZ p J=some o)(S:kA Ω A q j y p k s)
 (w:o=none->∀u,Ch j y s u->m none u)
 (t:∀x f,o=some (x,f)->∀v u b,(∀a∈b,a∈j∨s.heap.get? a=none)->Ch j y s u->Al q b u->VR k u.heap x v->kA Ω A q b y f k u->m (some v) u):wpAny Ω.M A (pyNext (.ref q)) m E s:=by
 cases p with
 |items T=>
  cases T with
  |nil=>exact S k s (lL H) m E (w (prf e).symm)
  |cons x r=>exact S k s (lL H) m E λv u=>t _ _ (prf e).symm v u j λU h=> .inl h
 |gen T=>
  cases T with
  |nil=>exact S.2 k s (lL H) m E (w (prf e).symm)
  |cons x r=>exact S.2 k s (lL H) m E λv u b g c d r i=>t _ _ (prf e).symm v u b g c d r ⟨S.1,i⟩
 |live n i=>obtain⟨l,z,D,rfl,rfl⟩:=S;exact vY Q H e z D w λx f h v u=>t x f h v u _ λU h=> .inl h
theorem zks(q:A.handled=none)(H:HS Ω c J s)(e:pZ f J=some o)(S:kA Ω A j a [] f c s)
 (k:o=none->∀u,Ch a [] s u->h none u)
 (g:∀x b,o=some (x,b)->∀v u,Ch a [] s u->Al j a u->VR c u.heap x v->kA Ω A j a [] b c u->h (some v) u):wpAny Ω.M A (pyNext (.ref j)) h E s:=by
 cases f with
 |items T=>
  cases T with
  |nil=>exact S c s (lL H) h E (k (prf e).symm)
  |cons x r=>exact S c s (lL H) h E (g _ _ (prf e).symm)
 |gen T=>exact absurd rfl S.1
 |live n i=>obtain⟨l,m,p,rfl,_⟩:=S;exact vY q H e m p k g

theorem wD(g:Go w Q Y m s)(c:Ch h v s u)(t:∀a∈h,Y.heap.get? a=none)(r:∀i∈v,Y.gens.size≤i):Go w Q Y m u:=
 have f:∀b o,Y.heap.get? b=some o->b∉h:=λb o e q=>sn (t b q) e
 ⟨g.ext,λb o e p n=>c.keep b o (g.keep b o e p n) (f b o e),λb o e i=>c.imm b o (g.imm b o e i) i,λb o e=>(g.grow b o e).elim λl x=>⟨l,c.keep b l x (f b o e)⟩,
  λk j e=>c.gens k j (λq=>sn (Array.getElem?_eq_none (r k q)) e) (g.gens k j e),c.os.trans g.os⟩
theorem nP(H:HS Ω h J s)(c:Ch f m s u)(j:∀a∈f,a∉h.flatten)(k:∀a∈f,Ω.h₀.get? a=none):HS Ω h J u:=
 ⟨λb o e=>c.keep b o (H.base b o e) (λq=>sn (k b q) e),H.fresh,H.nodup,H.len,λn o e M B=>(H.obj n o e M B).mono (Ext.refl h) c.imm λa l i e=>c.keep a i e λq=>j a q (dG B l),c.bare,c.tk H.tk⟩
theorem znc(F:FR Ω C h I f s)(c:Ch b k s u)(i:∀a∈b,a∉h):FR Ω C h I f u:=
 F.kept (λa j o e=>c.keep a o e λq=>i a q j) (Ext.refl f) c.imm F.disj
theorem znn(F:FC Ω C f s)(c:Ch b j s u)(h:∀a∈b,a∉f):FC Ω C f u:=F.kept λa i o e=>c.keep a o e λq=>h a q i
end

structure Lt(s s₁:Shared):Prop where
 n:∀a,s₁.heap.get? a=none->s.heap.get? a=none
 g:s.gens.size≤s₁.gens.size
theorem Lt.refl(s:Shared):Lt s s:=⟨λU h=>h,Qm _⟩
theorem Lt.trans(x:Lt s z)(y:Lt z b):Lt s b:=⟨λa h=>x.n a (y.n a h),Qi x.g y.g⟩
theorem dA(g:Go b a s m u):Lt s u:=⟨λU h=>g.none h,g.gsize⟩
theorem pV(l:Lt Y z)(H:RVR N a z s r v):RVR N a Y s r v:=H.wk l.n l.g

noncomputable def cD(N:Bx)(b:Rho)(s:Shared):Shared->List RV->List Value->Prop
 |_,[],G=>G=[]
 |Y,r::c,G=>∃v t z,G=v::t/\RVR N b Y s r v/\Lt Y z/\Lt z s/\(∀T,r= .l T->∀a,v= .ref a->z.heap.get? a≠none)/\cD N b s z c t
section
theorem cD.weak(l:Lt Y z)(H:cD N c s z b G):cD N c s Y b G:=by
 cases b with
 |nil=>exact H
 |cons r b=>obtain⟨v,t,a,e,M,B,h⟩:=H;exact⟨v,t,a,e,pV l M,l.trans B,h⟩
theorem cD.go(g:Go [] c s m u):∀{s₀:Shared} {vs:List Value},cD N c s s₀ b vs->cD N m u s₀ b vs:=by
 induction b with
 |nil=>exact λH=>H
 |cons r b d=>intro _ _ H;obtain⟨v,t,a,e,M,B,A,h,f⟩:=H;exact⟨v,t,a,e,M.go g,B,A.trans (dA g),h,d f⟩
theorem cD.toRs:∀{s₀:Shared} {vs:List Value},cD N c s s₀ a vs->fP N c s₀ s a vs:=by
 induction a with
 |nil=>exact λH=>H
 |cons r a d=>intro _ _ H;obtain⟨v,t,b,e,M,B,A,h,f⟩:=H;exact⟨v,t,e,M,d (f.weak B)⟩
theorem cD.append(g:Go [] f s m u)(h:cD N m u s i c):∀{s₀:Shared} {vs:List Value},cD N f s s₀ b vs->Lt s₀ s->cD N m u s₀ (b++i) (vs++c):=by
 induction b with
 |nil=>intro _ vs H l;cases(show vs=[] from H);exact h.weak l
 |cons r b d=>intro _ _ H l;obtain⟨v,t,a,e,M,B,A,k,j⟩:=H;exact⟨v,_,a,congrArg (· ++c) e,M.go g,B,A.trans (dA g),k,d j A⟩
theorem cD.len:∀{s₀:Shared} {vs:List Value},cD N f s s₀ a vs->vs.length=a.length:=by
 induction a with
 |nil=>exact λH=>congrArg List.length (show _=[] from H)
 |cons r a d=>intro _ _ H;obtain⟨v,t,b,e,M,B,A,h,c⟩:=H;exact(congrArg List.length e).trans (congrArg (· +1) (d c))
end

section

theorem uF(H:HS N c J s)(G:Go A Q f c s)(i:∀a,Y.heap.get? a=none->N.h₀.get? a=none)(l:Lt f Y)(e:iZ r J=some y)(R:RVR N c Y s r v):
 ∃m,HS N m y.2 s/\Go A Q f m s/\VR m s.heap y.1 v/\(m=c∨∃T a,r= .l T/\v= .ref a/\m=c++[[a]]):=by
 cases r with
 |v x=>rw[←prf e];exact⟨c,H,G,R,.inl rfl⟩
 |g T=>exact nn e
 |l T=>
  rw[←prf e];obtain⟨a,o,n,e,u,t,w,k,z⟩:=R;have ext:Ext c (c++[[a]]):=Ext.append c _;refine⟨c++[[a]],H.take ⟨a,o,n,rfl,u,VRs.mono ext (λU U e U=>e) _ _ t,w⟩ (We ⟨Qj,List.nodup_nil⟩) (dO z) (dO (i _ k)),⟨?_,G.keep,G.imm,G.grow,G.gens,G.os⟩,⟨a,[],?_,e⟩,.inr ⟨T,a,rfl,e,rfl⟩⟩
  · obtain⟨j,q,h⟩:=G.ext
    exact⟨j++[[a]],q▸List.append_assoc _ _ _,λb i=>(Qo (cS j [a]▸i)).elim (h b) (dO (p:=λb=>f.heap.get? b=none) (l.n _ k) b)⟩
  · rw[aK,H.len,←aK]
    exact nJ c [a]
theorem RVR.took(y:Y.heap.get? a≠none)(H:RVR N c Y s r v):RVR N (c++[[a]]) Y s r v:=by
 have ext:Ext c (c++[[a]]):=Ext.append c _;have f:∀{b:Addr},b∉c.flatten->Y.heap.get? b=none->b∉(c++[[a]]).flatten:=λ{b} M h2 q=>(Qo (show b∈c.flatten++[a] from cS c [a]▸q)).elim M λq=>y ((Qf q)▸h2);cases r with
 |v x=>exact VR.mono ext (λU U e U=>e) _ _ H
 |l T=>obtain⟨b,G,n,e,t,o,u,i,w⟩:=H;exact⟨b,G,n,e,t,VRs.mono ext (λU U e U=>e) _ _ o,u,i,f w i⟩
 |g T=>obtain⟨b,e,m,k,j,h,g⟩:=H;exact⟨b,e,m,k,j,λp J=>⟨(h p J).1,f (h p J).2.1 (h p J).2.2,(h p J).2.2⟩,g⟩
theorem cD.took(h:z.heap.get? a≠none):∀{s₀:Shared} {vs:List Value},Lt z s₀->cD N f s s₀ c vs->cD N (f++[[a]]) s s₀ c vs:=by
 induction c with
 |nil=>exact λU H=>H
 |cons r c d=>intro _ _ l H;obtain⟨v,t,b,e,M,B,A,j,i⟩:=H;exact⟨v,t,b,e,M.took λq=>h (l.n _ q),B,A,j,d (l.trans B) i⟩
theorem wL:∀{vs:List Value} {y:List V×Hp} {ρ:Rho} {J:Hp} {s₀:Shared},HS N ρ J s->Go B Q o ρ s->(∀a,s₀.heap.get? a=none->N.h₀.get? a=none)->Lt o s₀->dT i J=some y->cD N ρ s s₀ i vs->
 ∃m,HS N m y.2 s/\Go B Q o m s/\VRs m s.heap y.1 vs/\Ext ρ m:=by
 induction i with
 |nil=>intro vs y ρ J s₀ H G k l e R;rw[show vs=[] from R,←prf e];exact⟨ρ,H,G,VRs.nil,Ext.refl ρ⟩
 |cons r i d=>
  intro vs y ρ J s₀ H G k l e R;refine aB e λx A e=>?_;refine aB e λxs w e=>?_;obtain⟨v,t,z,C,g,q,g3,D,p⟩:=R;obtain⟨b,T,G1,I,j⟩:=uF H G k l A g;have f:cD N b s z i t/\Ext ρ b:=by
   rcases j with h|⟨ys,a,M,h2,h⟩
   · rw[h];exact⟨p,Ext.refl _⟩
   · rw[h];exact⟨p.took (D _ M a h2) (Lt.refl z),Ext.append _ _⟩
  obtain⟨c,H2,Y,E,u⟩:=d T G1 (λa h=>k a (q.n a h)) (l.trans q) w f.1;rw[←prf e,C];exact⟨c,H2,Y,VRs.cons (VR.mono u (λU U e U=>e) _ _ I) E,f.2.trans u⟩
end

structure KN(Ω:Bx)(env:Env)(sc:List (Nat×Nat)):Prop where
 loc:∀x,look sc x=some 0->env.kindOf (aA Ω x)=some .local
 one:∀x,look sc x=some 1->env.kindOf (aA Ω x)=some .cell
 cel:∀x,(look sc x=some 1∨look sc x=some 2)->(env.kindOf (aA Ω x)=some .cell∨env.kindOf (aA Ω x)=some .free)/\∃c,env.cells.lookup (aA Ω x)=some c
 glo:∀x,x<Ω.nms.length->look sc x=some 4->env.kindOf (aA Ω x)=some .globalImplicit
 no:∀x,x<Ω.nms.length->look sc x=none->env.kindOf (aA Ω x)=none

noncomputable def bL(M:Model)(h:Heap)(f:Value):Prop:=∃k,(k=Keeper.frame∨k=Keeper.machine∨k=Keeper.boundFrame)/\Looks M h (keeperOf f) k
noncomputable abbrev gB(Ω:Bx)(ρ₀:Rho)(s₀:Shared)(r:RV)(a:Hp)(Q:Value->Shared->Prop):Prop:=
 ∀m s' v,HS Ω m a s'->Go [] ρ₀ s₀ m s'->RVR Ω m s₀ s' r v->Q v s'
noncomputable def zvw:Nat->String
 |0=>"list.append"|1=>"list.pop"|_=>"list.index"
noncomputable def vL:Nat->String
 |3=>"str.lower"|4=>"str.upper"|5=>"str.split"|6=>"str.join"|_=>"str.index"
noncomputable def zej:Nat->String
 |8=>"re.Pattern.search"|_=>"dict.get"
noncomputable def MR(ρ:Rho)(h:Heap)(k:MK)(x:Nat)(f:Value)(first:List Value):Prop:=match k with
 | .fn g self=>f= .ref g/\∃v,first=[v]/\VR ρ h self v
 | .lst n=>f= .builtin (zvw x)/\∃a,nth ρ n=some [a]/\first=[.ref a]
 | .str s=>f= .builtin (vL x)/\sOk s/\∃t,first=[.str (St s) t]
 | .top a=>f= .builtin (zej x)/\first=[.ref a]
 | .dict _=>False
theorem MR.go(g:Go [] b s m u)(H:MR b s.heap k x f first):MR m u.heap k x f first:=by
 cases k with
 |fn a self=>obtain⟨M,v,B,A⟩:=H;exact⟨M,v,B,g.vr A⟩
 |lst n=>obtain⟨M,a,B,A⟩:=H;exact⟨M,a,g.Ext _ _ B,A⟩
 |str s=>exact H
 |top a=>exact H
 |dict n=>exact H

noncomputable def zga(Ω:Bx)(a:Addr)(xs:List Int):Prop:=∃vs:List Value,Ω.h₀.IsList a vs.toArray/\(∀ρ h,VRs ρ h (xs.map V.int) vs)/\vs.length≤65536
structure CT(Ω:Bx)(cx:Cx)(Rm:Around->Prop):Prop where
 rm:∀A,Rm A->A.handled=none/\A.units+70<cLine
 wk:Wk0 Ω Rm
 frz:∀a xs,look cx.frz a=some xs->zga Ω a xs
 inj:∀x y,x<Ω.nms.length->y<Ω.nms.length->aA Ω x=aA Ω y->x=y
 dbg:∀x,x<Ω.nms.length->(aA Ω x==("__debug__":Str))=false/\(aA Ω x==("__classdict__":Str))=false
 glo:∀x v,look cx.glo x=some v->x<Ω.nms.length/\∃v',(∀ρ h,VR ρ h v v')/\∀{A:Around} {E Q:Value->Shared->Prop} {env:Env} {s:Shared},env.globals=mainGlobals->env.builtins=builtinsNs->(∀b o,Ω.h₀.get? b=some o->s.heap.get? b=some o)->
  Q v' s->wpAny Ω.M A (loadGlobal env (aA Ω x)) Q E s
 att:∀{ρ:Rho} {hp:Hp} {s₀ s:Shared} {A:Around} {E Q:Value->Shared->Prop} {r q:RV} {v:Value} {x:Nat},x<Ω.nms.length->zf3 cx r x hp=some q->HS Ω ρ hp s->RVR Ω ρ s₀ s r v->(∀u t,RVR Ω ρ s₀ s q u->Q u {s with toks:=t})->
  wpAny Ω.M A (getAttr v (aA Ω x) true) Q E s
 cal:∀{ρ₀ ρ:Rho} {hp hp':Hp} {s₀ s:Shared} {A:Around} {E Q:Value->Shared->Prop} {g r:RV} {vg:Value} {as:List RV} {ks:List (Nat×RV)} {vs kvs:List Value},Rm A->HS Ω ρ hp s->Go [] ρ₀ s₀ ρ s->(∀a,s₀.heap.get? a=none->Ω.h₀.get? a=none)->
  (∀p∈ks,p.1<Ω.nms.length)->zb3 cx g as ks hp=some (r,hp')->RVR Ω ρ s₀ s g vg->cD Ω ρ s s₀ (as++ks.map (·.2)) (vs++kvs)->vs.length=as.length->gB Ω ρ₀ s₀ r hp' Q->
  bL Ω.M s.heap vg/\wpAny Ω.M A (call vg vs ((ks.map λp=>aA Ω p.1).zip kvs)) Q E s
 seta:∀{ρ:Rho} {hp:Hp} {s:Shared} {A:Around} {E:Value->Shared->Prop} {Q:Unit->Shared->Prop} {n x c:Nat} {d:List (Nat×V)} {a:Addr} {e:List Addr} {v:V} {u:Value} {t:List (Nat×Nat)},Rm A->x<Ω.nms.length->nth hp n=some (.inst c d)->look cx.meth c=some t->nth ρ n=some (a::e)->
  len (put d x v)≤100->HS Ω ρ hp s->VR ρ s.heap v u->(∀s',HS Ω ρ (upd hp n (.inst c (put d x v))) s'->Go [] ρ s ρ s'->Q () s')->wpAny Ω.M A (setAttr (.ref a) (aA Ω x) u) Q E s
 seti:∀{ρ₀ ρ:Rho} {hp hp':Hp} {s₀ s:Shared} {A:Around} {E:Value->Shared->Prop} {Q:Unit->Shared->Prop} {n c f:Nat} {d:List (Nat×V)} {k v:V} {vo ki u:Value} {t:List (Nat×Nat)},Rm A->nth hp n=some (.inst c d)->look cx.meth c=some t->look t cx.nSet=some f->cx.S f [.v (.ref n),.v k,.v v] [] hp=some (.v .none,hp')->
  HS Ω ρ hp s->Go [] ρ₀ s₀ ρ s->(∀a,s₀.heap.get? a=none->Ω.h₀.get? a=none)->VR ρ s.heap (.ref n) vo->VR ρ s.heap k ki->VR ρ s.heap v u->(∀ρ' s',HS Ω ρ' hp' s'->Go [] ρ₀ s₀ ρ' s'->Q () s')->wpAny Ω.M A (setItem vo ki u) Q E s
 deli:∀{ρ₀ ρ:Rho} {hp hp':Hp} {s₀ s:Shared} {A:Around} {E:Value->Shared->Prop} {Q:Unit->Shared->Prop} {n c f:Nat} {d:List (Nat×V)} {k:V} {vo ki:Value} {t:List (Nat×Nat)},Rm A->nth hp n=some (.inst c d)->look cx.meth c=some t->look t cx.nDel=some f->cx.S f [.v (.ref n),.v k] [] hp=some (.v .none,hp')->
  HS Ω ρ hp s->Go [] ρ₀ s₀ ρ s->(∀a,s₀.heap.get? a=none->Ω.h₀.get? a=none)->VR ρ s.heap (.ref n) vo->VR ρ s.heap k ki->(∀ρ' s',HS Ω ρ' hp' s'->Go [] ρ₀ s₀ ρ' s'->Q () s')->wpAny Ω.M A (delItem vo ki) Q E s
 meth:∀{ρ:Rho} {hp:Hp} {s₀ s:Shared} {r:RV} {v:Value} {x:Nat} {k:MK},x<Ω.nms.length->fT cx r x hp=some k->HS Ω ρ hp s->RVR Ω ρ s₀ s r v->
  ∃f first,MR ρ s.heap k x f first/\∀{A:Around} {E:Value->Shared->Prop} {Q:Value×List Value->Shared->Prop} {pl:Sem Bool},Q (f,first) s->wpAny Ω.M A (getMethod v (aA Ω x) pl) Q E s
 mcall:∀{ρ₀ ρ:Rho} {hp hp':Hp} {s₀ s:Shared} {A:Around} {E Q:Value->Shared->Prop} {k:MK} {x:Nat} {r:RV} {f:Value} {first:List Value} {as:List RV} {ks:List (Nat×RV)} {vs kvs:List Value},Rm A->HS Ω ρ hp s->Go [] ρ₀ s₀ ρ s->(∀a,s₀.heap.get? a=none->Ω.h₀.get? a=none)->
  (∀p∈ks,p.1<Ω.nms.length)->kC cx k x as ks hp=some (r,hp')->MR ρ s.heap k x f first->cD Ω ρ s s₀ (as++ks.map (·.2)) (vs++kvs)->vs.length=as.length->gB Ω ρ₀ s₀ r hp' Q->
  bL Ω.M s.heap f/\wpAny Ω.M A (call f (first++vs) ((ks.map λp=>aA Ω p.1).zip kvs)) Q E s

noncomputable def tD(x:Nat):LN->Bool
 |[]=>false
 |y::r=>cs (Nat.beq y x) true (tD x r)
noncomputable def aH(a b:Bool):Bool:=cs a b false
noncomputable def or2(a b:Bool):Bool:=cs a true b
noncomputable def lv(a:List (Nat×Nat))(x:Nat):Bool:=byO (look a x) (λk=>Nat.ble k 2) false
noncomputable def ltB(a b:Nat):Bool:=Nat.blt a b
def lE{a:Type}(f:a->Bool):List a->Bool
 |[]=>true
 |x::r=>aH (f x) (lE f r)
noncomputable def is_(k:Nat)(o:Option Nat):Bool:=byO o (Nat.beq k) false
def iR(n:Nat)(a:List (Nat×Nat))(b:LN):List (Nat×Nat)->LN->Bool
 |[],_=>true
 |p::r,seen=>aH (ltB p.1 n) (aH (bH (tD p.1 seen)) (aH (or2 (Nat.beq p.2 0) (or2 (aH (Nat.beq p.2 2) (or2 (is_ 1 (look a p.1)) (is_ 2 (look a p.1)))) (Nat.beq p.2 4))) (iR n a b r (p.1::seen))))
def zct(s:String)(l:LN):Bool:=aH (leq (s.toList.map Char.toNat) l) (aH (asc l) (aM (len l)))
noncomputable def sX:FE->Bool
 | .call _ a _ _ _ _=>(match a with|[]=>false|_=>true)
 |_=>true
noncomputable def zmn:FE->Bool
 | .var _ _=>true
 | .glo _ _=>true
 |_=>false
mutual
def wE(n:Nat)(h:List (Nat×Nat)):FE->Bool
 | .none _=>true
 | .tru _=>true
 | .fls _=>true
 | .int _ _=>true
 | .str s l _=>zct s l
 | .var x _=>aH (ltB x n) (lv h x)
 | .glo x _=>aH (ltB x n) (is_ 4 (look h x))
 | .dbg _=>true
 | .bin _ a b _=>aH (wE n h a) (wE n h b)
 | .neg _ _ _=>true
 | .not a _=>wE n h a
 | .and D _=>wEs n h D
 | .or D _=>wEs n h D
 | .cmp _ a b _=>aH (wE n h a) (wE n h b)
 | .ife t a b _=>aH (wE n h t) (aH (wE n h a) (wE n h b))
 | .list D _=>aH (aM (len D)) (wEs n h D)
 | .tup D _=>aH (aM (len D)) (wEs n h D)
 | .sub a i _=>aH (wE n h a) (wE n h i)
 | .sli a Q g A _ _=>aH (wE n h a) (aH (wO n h Q) (aH (wO n h g) (wO n h A)))
 | .att a x _=>aH (ltB x n) (aH (sX a) (wE n h a))
 | .call f r m k w _=>aH (zmn f) (aH (wE n h f) (aH (wEs n h r) (aH (wEs n h k) (aH (Nat.beq (len m) (len k)) (aH (Nat.beq (len w) (len k)) (lE (λx=>ltB x n) m))))))
 | .mcall o x r m k w z p=>aH (ltB x n) (aH (sX o) (aH (wE n h o) (aH (wEs n h r) (aH (wEs n h k) (aH (Nat.beq (len m) (len k)) (aH (Nat.beq (len w) (len k)) (aH (lE (λx=>ltB x n) m) (aH (ltB (len r+len k+1) 30) (Nat.beq (pos z).endLine (pos p).line)))))))))
 | .fmt e c _=>aH (Nat.beq c 115) (wE n h e)
 | .jst D _=>aH (aM (len D)) (wEs n h D)
 | .repl o s l _ H v _ z p=>aH (sX o) (aH (wE n h o) (aH (zct s l) (aH (zct H v) (aH (Nat.beq (len l) 1) (aH (bH (leq l v)) (aH (Nat.ble (len v) 2) (Nat.beq (pos z).endLine (pos p).line)))))))
 | .comp e q u _ d y j _=>aH (wE n h d) (aH (iR n h q j []) (aH (lE (λt=>is_ 0 (look j t)) q) (aH (Nat.beq (len u) (len q)) (aH (bH (Nat.beq (len q) 0)) (aH (wE n j e) (wEs n j y))))))
def wEs(n:Nat)(a:List (Nat×Nat)):List FE->Bool
 |[]=>true
 |e::r=>aH (wE n a e) (wEs n a r)
def wO(n:Nat)(a:List (Nat×Nat)):Option FE->Bool
 |none=>true
 |some e=>wE n a e
end
theorem aF(h:aH a b=true):a=true/\b=true:=by cases a<;>cases b<;>first|exact⟨rfl,rfl⟩|cases h
theorem aI{G:Prop}(h:aH a b=true)(k:a=true->b=true->G):G:=(aF h).elim k
theorem sV(h:or2 a b=true):a=true∨b=true:=by cases a with|true=>exact .inl rfl|false=>exact .inr h
theorem zmm(h:is_ k o=true):o=some k:=by cases o with|none=>exact ff h|some j=>exact congrArg some (aN h).symm
theorem jS(h:ltB a b=true):a<b:=Qa h
theorem zpp(h:wEs n a D=true):∀e∈D,wE n a e=true:=by
 induction D with
 |nil=>exact nofun
 |cons e r d=>exact λx j=>(Qe j).elim (λq=>q▸(aF h).1) (d (aF h).2 x)
theorem uE{a:Type}{f:a->Bool}{l:List a}(h:lE f l=true):∀x∈l,f x=true:=by
 induction l with
 |nil=>exact nofun
 |cons e r d=>have h:aH (f e) (lE f r)=true:=h;exact λx j=>(Qe j).elim (λq=>q▸(aF h).1) (d (aF h).2 x)
theorem zcs(h:zct s l=true):Str.ofString s=St l/\sOk l:=by refine aI h λM B=>?_;refine aI B λB A=>?_;have:=cG A;rw[aK] at this;exact⟨by rw[Str.ofString_eq_toList,cN M],B,this⟩

theorem xG(b:Nat->Str)(e:FE)(a:List Expr)(C:Env):starEach (tE b e::a) C=(false,eval (tE b e) C)::starEach a C:=by cases e<;>rfl
theorem zac(a:Nat->Str)(C:Env):∀D:List FE,starEach (tEs a D) C=D.map λe=>(false,eval (tE a e) C)
 |[]=>rfl
 |e::r=>by rw[tEs,xG,zac a C r];rfl
theorem mU(a:Pos)(b:Nat->Str)(C:Env)(D:List FE):(backTo a (starEach (tEs b D) C)).any (·.1)=false:=by
 rw[zac];unfold backTo;induction D with
 |nil=>rfl
 |cons e r d=>simpa using d
theorem ze7(a:Nat->Str):∀D:List FE,(tEs a D).length=D.length
 |[]=>rfl
 |e::r=>by rw[tEs,List.length_cons,ze7 a r];rfl

structure Dx where
 env:Env
 sc:List (Nat×Nat)
 fa:List Addr
 A:Around
 E:Value->Shared->Prop
structure Here(Ω:Bx)(Rm:Around->Prop)(D:Dx)(fl:L)(hp:Hp)(ρ:Rho)(s:Shared):Prop where
 K:KN Ω D.env D.sc
 A:Rm D.A
 H:HS Ω ρ hp s
 F:FR Ω D.env D.fa fl ρ s
noncomputable abbrev WP{a:Type}(Ω:Bx)(D:Dx)(m:Sem a)(Q:a->Shared->Prop)(s:Shared):Prop:=wpAny Ω.M D.A m Q D.E s
noncomputable abbrev EV(Ω:Bx)(D:Dx)(e:FE)(Q:Value->Shared->Prop)(s:Shared):Prop:=wpAny Ω.M D.A (eval (tE (aA Ω) e) D.env) Q D.E s
noncomputable abbrev uJ(Ω:Bx)(Rm:Around->Prop)(D:Dx)(fl:L)(ρ₀:Rho)(s₀:Shared)(r:RV×Hp)(Q:Value->Shared->Prop):Prop:=
 ∀m s' v,Here Ω Rm D fl r.2 m s'->Go [] ρ₀ s₀ m s'->RVR Ω m s₀ s' r.1 v->Q v s'
noncomputable def EOk(Ω:Bx)(cx:Cx)(Rm:Around->Prop)(e:FE):Prop:=
 ∀{D:Dx} {fl:L} {hp:Hp} {r:RV×Hp} {ρ:Rho} {s:Shared} {Q:Value->Shared->Prop},wE Ω.nms.length D.sc e=true->Here Ω Rm D fl hp ρ s->ev cx fl e hp=some r->uJ Ω Rm D fl ρ s r Q->EV Ω D e Q s
noncomputable abbrev zcb(Ω:Bx)(Rm:Around->Prop)(D:Dx)(fl:L)(ρ₀:Rho)(s₀:Shared)(b:Bool×Hp)(Q:Bool->Shared->Prop):Prop:=
 ∀m s',Here Ω Rm D fl b.2 m s'->Go [] ρ₀ s₀ m s'->Q b.1 s'
noncomputable def TOk(Ω:Bx)(cx:Cx)(Rm:Around->Prop)(e:FE):Prop:=
 ∀{D:Dx} {fl:L} {hp:Hp} {b:Bool×Hp} {ρ:Rho} {s:Shared} {Q:Bool->Shared->Prop},wE Ω.nms.length D.sc e=true->Here Ω Rm D fl hp ρ s->tr cx fl e hp=some b->zcb Ω Rm D fl ρ s b Q->WP Ω D (isTrue (tE (aA Ω) e) D.env (eval (tE (aA Ω) e) D.env)) Q s
noncomputable abbrev zuw(Ω:Bx)(cx:Cx)(Rm:Around->Prop)(e:FE):Prop:=EOk Ω cx Rm e/\TOk Ω cx Rm e
noncomputable abbrev zwj(Ω:Bx)(Rm:Around->Prop)(D:Dx)(fl:L)(ρ₀:Rho)(s₀:Shared)(rs:List RV×Hp)(Q:List Value->Shared->Prop):Prop:=
 ∀m s' vs,Here Ω Rm D fl rs.2 m s'->Go [] ρ₀ s₀ m s'->cD Ω m s' s₀ rs.1 vs->Q vs s'

section
variable{Ω:Bx}{s s₀ s':Shared}

theorem Here.go(h:Here Ω Rm D I J b s)(g:Go [] b s m s')(H:HS Ω m a s'):Here Ω Rm D I a m s':=⟨h.K,h.A,H,h.F.go g⟩
theorem Here.tok(h:Here Ω Rm D I J a s)(t:Nat)(b:0<t):Here Ω Rm D I J a {s with toks:=t}:=h.go (Go.tok _ _ _ _) (h.H.tok t b)
theorem ykf(R:RVR Ω h s₀ s r v):∀T,r= .l T->∀a,v= .ref a->s.heap.get? a≠none:=λT q a c z=>by rw[q] at R;obtain⟨b,G,n,e,f,_⟩:=R;exact sn z (Value.ref.inj (c.symm.trans e)▸f)
theorem zet(R:RVR Ω a s b r v)(h:Go [] i s a b)(c:Go [] a b m s')(f:cD Ω m s' b e G):cD Ω m s' s (r::e) (v::G):=
 ⟨v,G,b,rfl,R.go c,dA h,dA c,ykf R,f⟩
theorem zby{e:FE}{D:List FE}{r:List RV×Hp}(h:evs E I (e::D) J=some r){G:Prop}(k:∀x T,ev E I e J=some x->evs E I D x.2=some T->(x.1::T.1,T.2)=r->G):G:=by refine aB h λx M h=>?_;refine aB h λT B h=>?_;exact k x T M B (prf h)
theorem zjo{c:Pos}{a:List FE}:∀{J:Hp} {f:List RV×Hp} {ρ:Rho} {s:Shared} {Q:List Value->Shared->Prop},(∀e∈a,EOk Ω E Rm e)->wEs Ω.nms.length D.sc a=true->Here Ω Rm D i J ρ s->evs E i a J=some f->
 zwj Ω Rm D i ρ s f Q->WP Ω D (spliced (backTo c (starEach (tEs (aA Ω) a) D.env))) Q s:=by
 induction a with
 |nil=>exact λU U h e g=>wpAny_items_nil (g _ _ [] (prf e▸h) (Go.refl _ _ _) (prf e▸rfl))
 |cons e a d=>
  exact λI W h H g=>zby H λx T o n q=>wpAny_items_cons (I e (.head _) (aF W).1 h o λl u v M k t=>d (λp h=>I p (.tail _ h)) (aF W).2 M n λb m G B j r=>
   g b m (v::G) (q▸B) (k.trans0 j) (q▸zet t k j r)) (xG _ e _ D.env)
theorem ze8{b a:Type}{l:List b}{e:a}{D:List a}(h:Nat.beq (len l) (len (e::D))=true){G:List b->Prop}(k:∀x t,Nat.beq (len t) (len D)=true->G (x::t)):G l:=by
 cases l with
 |nil=>exact ff h
 |cons x t=>exact k x t h
theorem zvx{a b:Type}{l:List a}(h:Nat.beq (len l) (len ([]:List b))=true){G:List a->Prop}(k:G []):G l:=by
 cases l with
 |nil=>exact k
 |cons x t=>exact ff h
abbrev KW(Ω:Bx)(a:Pos)(C:Env)(c:LN)(D:List FE)(b:LN):List (Option Str×Sem Value):=backToKw a (keywordEach (yG (aA Ω) c (tEs (aA Ω) D) b) C)
theorem zzy{c:Pos}{b:List FE}:∀{a f:LN} {J:Hp} {k:List RV×Hp} {ρ:Rho} {s:Shared} {Q:List Value->Shared->Prop},Nat.beq (len a) (len b)=true->Nat.beq (len f) (len b)=true->(∀e∈b,EOk Ω E Rm e)->wEs Ω.nms.length D.sc b=true->Here Ω Rm D l J ρ s->evs E l b J=some k->
 zwj Ω Rm D l ρ s k Q->WP Ω D (evalAll ((KW Ω c D.env a b f).map (·.2))) Q s:=by
 induction b with
 |nil=>exact λ{a f} _ _ _ _ Q l1 i _ _ h e g=>zvx (G:=λa=>WP Ω D (evalAll ((KW Ω c D.env a [] f).map (·.2))) Q _) l1 (kwAll_nil (g _ _ [] (prf e▸h) (Go.refl _ _ _) (prf e▸rfl)))
 |cons e b d=>
  exact λ{a f} _ _ _ _ Q l1 i I W h H g=>zby H λx T w u q=>ze8 (G:=λa=>WP Ω D (evalAll ((KW Ω c D.env a (e::b) f).map (·.2))) Q _) l1 λy a l1=>ze8 (G:=λf=>WP Ω D (evalAll ((KW Ω c D.env (y::a) (e::b) f).map (·.2))) Q _) i λp f i=>
   kwAll_cons (I e (.head _) (aF W).1 h w λo N v M n C=>d l1 i (λz h=>I z (.tail _ h)) (aF W).2 M u λj t r B m A=>
    g j t (v::r) (q▸B) (n.trans0 m) (q▸zet C n m A))
theorem eZ{a b:Type}{l:List (Option a×b)}:∀{m:List a},l.map (·.1)=m.map some->l.filterMap (·.1)=m/\l.all (·.1.isSome)=true/\l.any (·.1.isNone)=false/\l.length=m.length:=by
 induction l with
 |nil=>intro m h;cases m with|nil=>exact⟨rfl,rfl,rfl,rfl⟩|cons _ _=>cases h
 |cons x l d=>
  intro m h;cases m with
  |nil=>cases h
  |cons y m=>
   obtain⟨M,B,A,c⟩:=d (List.cons.inj h).2;have e:=(List.cons.inj h).1;refine⟨?_,?_,?_,congrArg (· +1) c⟩
   · rw[List.filterMap_cons,show x.1=some y from e,M]
   · rw[List.all_cons,show x.1=some y from e,B];rfl
   · rw[List.any_cons,show x.1=some y from e,A];rfl
theorem pD{b:Pos}{C:Env}{D:List FE}:∀{a c:LN},Nat.beq (len a) (len D)=true->Nat.beq (len c) (len D)=true->(KW Ω b C a D c).map (·.1)=(a.map (aA Ω)).map some:=by
 induction D with
 |nil=>exact λ{a c} l1 f=>zvx (G:=λa=>(KW Ω b C a [] c).map (·.1)=(a.map (aA Ω)).map some) l1 rfl
 |cons e D d=>exact λ{a c} l1 f=>ze8 (G:=λa=>(KW Ω b C a (e::D) c).map (·.1)=(a.map (aA Ω)).map some) l1 λy a l1=>ze8 (G:=λc=>(KW Ω b C (y::a) (e::D) c).map (·.1)=((y::a).map (aA Ω)).map some) f λp c f=>congrArg (some (aA Ω y):: ·) (d l1 f)
theorem zz0{pos:Pos}{env:Env}{D:List FE}{c b:LN}(a:Nat.beq (len c) (len D)=true)(e:Nat.beq (len b) (len D)=true):(KW Ω pos env c D b).length=D.length:=by rw[(eZ (pD a e)).2.2.2,List.length_map,←aK,←aK];exact aN a
theorem zf5{b:Pos}{f:Value}{es ks:List FE}{kn kp:LN}{xs ys:List RV×Hp}{Q:Args->Shared->Prop}(l:Nat.beq (len kn) (len ks)=true)(k:Nat.beq (len kp) (len ks)=true)
 (I:∀e∈es,EOk Ω E Rm e) (z:∀e∈ks,EOk Ω E Rm e) (W:wEs Ω.nms.length D.sc es=true) (x:wEs Ω.nms.length D.sc ks=true) (h:Here Ω Rm D n J u s)
 (t:evs E n es J=some xs) (w:evs E n ks xs.2=some ys)
 (g:∀m s' vs i,Here Ω Rm D n ys.2 m s'->Go [] u s m s'->cD Ω m s' s (xs.1++ys.1) (vs++i)->vs.length=xs.1.length->Q ⟨vs,(kn.map (aA Ω)).zip i⟩ s'):
 WP Ω D (evalArgs f true (backTo b (starEach (tEs (aA Ω) es) D.env)) (KW Ω b D.env kn ks kp)) Q s:=by
 have c:∀{a:Rho} {j:Shared} {vs:List Value},Here Ω Rm D n xs.2 a j->Go [] u s a j->cD Ω a j s xs.1 vs->WP Ω D (evalAll ((KW Ω b D.env kn ks kp).map (·.2))) (λi r=>Q ⟨vs,((KW Ω b D.env kn ks kp).filterMap (·.1)).zip i⟩ r) j:=λM p o=>
  zzy l k z x M w λq r i B v y=>(eZ (pD l k)).1▸g q r _ i B (p.trans0 v) (cD.append v y o (dA p)) o.len
 cases es with
 |nil=>exact evalArgs_kw2_nil (eZ (pD l k)).2.1 (c (prf t▸h) (Go.refl _ _ _) (prf t▸rfl))
 |cons e es=>exact evalArgs_kw2 (eZ (pD l k)).2.1 (zjo I W h t λa j vs M p o=>c M p o) (xG _ e _ D.env)

theorem ykx(h:byO o (λk=>Nat.ble k 2) false=true):o=some 0∨o=some 1∨o=some 2:=by
 cases o with
 |none=>exact ff h
 |some k=>match k,h with
  |0,_=>exact .inl rfl
  |1,_=>exact .inr (.inl rfl)
  |2,_=>exact .inr (.inr rfl)
theorem yko(h:lv a x=true):look a x=some 0∨look a x=some 1∨look a x=some 2:=ykx h
theorem zty(w:zmn f=true)
 (h:wpAny M A (eval (tE nm f) C) (λv b=>wpAny M A (callWith p v [] (backTo p (starEach args C)) (backToKw p (keywordEach a C))) Q E b) E s):wpAny M A (eval (.Call (tE nm f) args a p) C) Q E s:=by
 cases f with
 |var x q=>exact wpAny_Call_Name_kw h
 |glo x q=>exact wpAny_Call_Name_kw h
 |_=>exact ff w
section
theorem ze4(C:CT Ω r Rm)(h:look I x=some v)(f:lv k x=true)(K:KN Ω a k)(F:FR Ω a p I j s)(g:∀u,VR j s.heap v u->Q u s):
 wpAny Ω.M A (loadName a (aA Ω x)) Q E s:=by
 have l:=F.ids x v h;have cell:(a.kindOf (aA Ω x)=some .cell∨a.kindOf (aA Ω x)=some .free)->wpAny Ω.M A (loadName a (aA Ω x)) Q E s:=by intro b;obtain⟨c,u,e,B,_,_,i⟩:=F.cel x v h b;exact b.elim (λb=>wpAny_loadName_cell F.kind b e B (g u i)) λb=>wpAny_loadName_free F.kind b e B (g u i) (C.dbg x l).2
 rcases yko f with q|q
 · obtain⟨m,n,o⟩:=F.ns
   obtain⟨u,e,B⟩:=o x v h (K.loc x q);exact wpAny_loadName_local F.kind (K.loc x q) n e (g u B)
 · exact cell (K.cel x q).1
theorem zE(C:CT Ω i Rm)(c:look I x=some v)(b:lv f x=true)(K:KN Ω a f)(F:FR Ω a h I e s)(g:∀u,VR e s.heap v u->Q u s):
 wpAny Ω.M A (eval (.Name (aA Ω x) (pos p)) a) Q E s:=
 wpAny_Name (ze4 C c b K F g) (C.dbg x (F.ids x v c)).1
theorem zea(C:CT Ω k Rm)(h:look k.glo x=some v)(i:look e x=some 4)(K:KN Ω a e)(H:HS Ω c J s)(F:FR Ω a l I c s)(g:∀u,VR c s.heap v u->Q u s):
 wpAny Ω.M A (eval (.Name (aA Ω x) (pos p)) a) Q E s:=by
 obtain⟨j,u,f,b⟩:=C.glo x v h;exact wpAny_Name ((loadName_read F.kind (K.glo x j i)).symm▸b F.glob F.blt H.base (g u (f _ _))) (C.dbg x j).1
theorem mO(G:Go e Q s₀ a s)(k:∀b o,s.heap.get? b=some o->c.get? b=some o):Go e Q s₀ a {s with heap:=c,toks:=t}:=G.trans0 (Go.keeps [] a s k)
theorem lK(h:Here Ω Rm D I r.2 b s)(G:Go [] a s₀ b s)(g:uJ Ω Rm D I a s₀ r Q):Kq Ω b s₀ s r.1 λv s'=>0<s'.toks->Q v s':=
 λv e t k R c=>g b _ v (h.go (Go.keeps [] b s k) (h.H.heap k c)) (mO G k) R
theorem base_none(H:HS Ω b J s):∀a,s.heap.get? a=none->Ω.h₀.get? a=none:=λa h=>H.base_none h
theorem iB(h:sX o=true)(x:Str)(C:Env)(m:Sem Value):attributeBase (tE (aA Ω) o) x C m=m:=by
 cases o with
 |call f b i c e p=>cases b with
  |cons a b=>cases f<;>rfl
  |nil=>exact ff h
 |_=>rfl
theorem xB{value slice:Expr}{o i:Value}{T j:String}(f:s.TypeIs o T)(k:typeLookup (.type T) "__getitem__"=pure (some (.builtin j)))(h:wpAny Ω.M A (getItem o i) Q E s)
 (e:subscripted slice false o i=operate [o,i] (getItem o i)∨subscripted slice false o i=operate [i,o] (getItem o i)):wpAny Ω.M A (subscriptTail value slice o i) Q E s:=by
 unfold subscriptTail;refine Qg ?_;rw[getitemInPython_of_ne f.not_modules];refine Qg (wpAny_specialOf f k ?_);have b:wpAny Ω.M A (subscripted slice false o i) (λr a=>wpAny Ω.M A (letTemporaryGo value o r>>=λU=>pure r) Q E a) E s:=by rcases e with e|e<;>rw[e]<;>exact wpAny_operating (Qv h (λr a c=>Qg (wpAny_letTemporaryGo (Qh c))) λU U x=>x)
 first
  |exact Qh (Qg b)
  |exact Qg (Qh (Qg b))
  |exact Qg b
theorem zgl(a:Nat->Str)(i:FE)(o v:Value):subscripted (tE a i) false o v=operate [o,v] (getItem o v):=by cases i<;>rfl
end
theorem wG(a:Nat->Str)(e:FE)(C:Env)(x:Value):foldedSetIterable (tE a e) C x=pure x:=by cases e<;>rfl
theorem ybc{a:Pos}{C:Env}{D b:List FE}{e c:LN}(j:Nat.beq (len e) (len b)=true)(i:Nat.beq (len c) (len b)=true)(h:ltB (len D+len b+1) 30=true):
 methodCallForm (D.length+b.length) (backTo a (starEach (tEs (aA Ω) D) C)) (KW Ω a C e b c)=true:=by
 have h:D.length+b.length+1<30:=by rw[←aK,←aK];exact jS h
 unfold methodCallForm;rw[(eZ (pD j i)).2.1,List.all_eq_not_any_not,show(backTo a (starEach (tEs (aA Ω) D) C)).any (λx=> !!x.1)=false from(congrArg (λf=>List.any _ f) (funext λx=>Bool.not_not _)).trans (mU a (aA Ω) C D)];refine decide_eq_true (Qq (Nat.add_le_add_left ?_ _) h);split
 · exact Qb 1
 · exact Qm 1
theorem za1:∀{ys:List RV},Nat.beq (len kn) (len ys)=true->(kn.zip ys).map (λp=>aA Ω p.1)=kn.map (aA Ω)/\(kn.zip ys).map (·.2)=ys:=by
 induction kn with
 |nil=>intro ys h;cases ys with|nil=>exact⟨rfl,rfl⟩|cons _ _=>exact ff h
 |cons x kn d=>
  intro ys h;cases ys with
  |nil=>exact ff h
  |cons y ys=>exact⟨congrArg (aA Ω x:: ·) (d h).1,congrArg (y:: ·) (d h).2⟩
theorem zfq{D:List FE}:∀{J:Hp} {a:List RV×Hp},evs E I D J=some a->len a.1=len D:=by
 induction D with
 |nil=>exact λh=>prf h▸rfl
 |cons e D d=>exact λh=>zby h λx T c b q=>q▸congrArg (· +1) (d b)
theorem zwi{c b:EsT}{k:List RV->List RV->Hp->Option (RV×Hp)}{r:RV×Hp}(h:fH c b k J=some r){G:Prop}(f:∀T a,c J=some T->b T.2=some a->k T.1 a.1 a.2=some r->G):G:=by refine aB h λT M h=>?_;refine aB h λa B h=>?_;exact f T a M B h
theorem zg4{C:Env}{a:Pos}{i b:List FE}{e c:LN}(h:Nat.beq (len e) (len b)=true)(f:Nat.beq (len c) (len b)=true):((backTo a (starEach (tEs (aA Ω) i) C)).any (·.1)||(KW Ω a C e b c).any (·.1.isNone))=false:=by rw[mU,(eZ (pD h f)).2.2.1];rfl
theorem zwc{b:Pos}{f:Value}{first:List Value}{as ks:List FE}{c r:LN}{T i:List RV×Hp}{Q:Value->Shared->Prop}(n:Nat.beq (len c) (len ks)=true)(q:Nat.beq (len r) (len ks)=true)(I:∀e∈as,EOk Ω E Rm e)(H:∀e∈ks,EOk Ω E Rm e)
 (W:wEs Ω.nms.length D.sc as=true) (z:wEs Ω.nms.length D.sc ks=true) (w:lE (λx=>ltB x Ω.nms.length) c=true) (h:Here Ω Rm D o J u s) (y:evs E o as J=some T) (t:evs E o ks T.2=some i)
 (k:∀{a j vs l},Here Ω Rm D o i.2 a j->Go [] u s a j->(∀p∈c.zip i.1,p.1<Ω.nms.length)->cD Ω a j s (T.1++(c.zip i.1).map (·.2)) (vs++l)->vs.length=T.1.length->bL Ω.M j.heap f/\WP Ω D (call f (first++vs) (((c.zip i.1).map λp=>aA Ω p.1).zip l)) Q j):
 WP Ω D (callWith b f first (backTo b (starEach (tEs (aA Ω) as) D.env)) (KW Ω b D.env c ks r)) Q s:=
 have m:=za1 (Ω:=Ω) (kn:=c) (ys:=i.1) (by rw[zfq t];exact n)
 callWith_of (P:=λh=>bL Ω.M h f) (zg4 n q) (λh x=>x) (zf5 n q I H W z h y t λa j vs l B d A v=>
  m.1▸k B d (λp J=>jS (uE w _ (List.of_mem_zip J).1)) (m.2.symm▸A) v)
theorem zev(h:Here Ω Rm D I J a s)(g:uJ Ω Rm D I a s r Q):gB Ω a s r.1 r.2 Q:=λm s' v H G R=>g m s' v (h.go G H) G R
theorem ztx(C:CT Ω E Rm){f:FE}{as ks:List FE}{z y:LN}{p:Nat}(If:EOk Ω E Rm f)(I:∀e∈as,EOk Ω E Rm e)(T:∀e∈ks,EOk Ω E Rm e):EOk Ω E Rm (.call f as z ks y p):=by
 intro D fl hp r Y s Q W h b d;refine aI W λt W=>?_;refine aI W λq W=>?_;refine aI W λo W=>?_;refine aI W λn W=>?_;refine aI W λm W=>?_;refine aI W λl k=>?_;refine aB b λg x b=>?_;exact zty t (If q h x λj s1 v M i N=>zwi b λxs ys w u b=>zwc m l I T o n k M w u λB c a J G=>
  C.cal h.A B.H (i.trans0 c) (base_none h.H) a b (N.go c) (J.weak (dA i)) G (zev h d))
theorem zla{o:FE}{x:Nat}{h b:List FE}{e c:LN}{i p:Nat}{C:Env}(r:sX o=true)(m:Nat.beq (len e) (len b)=true)(k:Nat.beq (len c) (len b)=true)(q:ltB (len h+len b+1) 30=true)(n:Nat.beq (pos i).endLine (pos p).line=true):
 eval (tE (aA Ω) (.mcall o x h e b c i p)) C=(do
  let j←eval (tE (aA Ω) o) C
  standAt (pos i).atName
  let(f,first)←holding [j] (getMethod j (aA Ω x) (do return(←importBound (tE (aA Ω) o) C).getD true))
  callWith (pos p) f first (backTo (pos p) (starEach (tEs (aA Ω) h) C)) (KW Ω (pos p) C e b c)):=by
 have u:(tEs (aA Ω) h).length+(yG (aA Ω) e (tEs (aA Ω) b) c).length=h.length+b.length:=by
  have:(keywordEach (yG (aA Ω) e (tEs (aA Ω) b) c) C).length=(yG (aA Ω) e (tEs (aA Ω) b) c).length:=by
   generalize yG (aA Ω) e (tEs (aA Ω) b) c=l;induction l with
   |nil=>rfl
   |cons a l d=>cases a;exact congrArg (· +1) d
  rw[ze7,←this,←zz0 (Ω:=Ω) (pos:=pos p) (env:=C) m k];exact congrArg (h.length+ ·) (List.length_map _).symm
 have t:methodCallPos true (tE (aA Ω) o) C (pos i) (pos p)=pure (pos p):=by unfold methodCallPos;rw[aN n];exact if_pos ((Bool.or_eq_true _ _).mpr (.inr (beq_self_eq_true _)))
 show(do
  let j←attributeBase (tE (aA Ω) o) (aA Ω x) C (eval (tE (aA Ω) o) C)
  standAt (pos i).atName
  methodCall (tE (aA Ω) o) (aA Ω x) (pos i) (pos p) C j ((tEs (aA Ω) h).length+(yG (aA Ω) e (tEs (aA Ω) b) c).length) (backTo (pos p) (starEach (tEs (aA Ω) h) C)) (KW Ω (pos p) C e b c))=_
 rw[iB r,u];unfold methodCall;rw[ybc m k q,t];rfl
theorem zk9(C:CT Ω E Rm){o:FE}{x:Nat}{as ks:List FE}{kn Y:LN}{ap p:Nat}(If:EOk Ω E Rm o)(I:∀e∈as,EOk Ω E Rm e)(I':∀e∈ks,EOk Ω E Rm e):EOk Ω E Rm (.mcall o x as kn ks Y ap p):=by
 intro D fl hp r ρ s Q W h b hQ;refine aI W λB W=>?_;refine aI W λd W=>?_;refine aI W λz W=>?_;refine aI W λy W=>?_;refine aI W λw W=>?_;refine aI W λj W=>?_;refine aI W λi W=>?_;refine aI W λu W=>?_;refine aI W λt q=>?_;refine aB b λg T b=>?_;refine aB b λk G b=>?_;show WP Ω D (eval _ D.env) Q s;rw[zla d j i t q];refine Qg (If z h T λn s1 v M m R1=>?_);obtain⟨f,first,hm,c⟩:=C.meth (jS B) G M.H R1;exact Qg (wpAny_standAt (Qg (wpAny_holding (c (zwi b λxs ys N J b=>zwc j i I I' y w u M N J λh2 l a R2 e1=>
  C.mcall h.A h2.H (m.trans0 l) (base_none h.H) a b (hm.go l) (R2.weak (dA m)) e1 (zev h hQ))))))
theorem gJ(c:Nat)(z:LN)(x:Nat)(r:LN):cU c z (x::r)=cs (Nat.beq x c) (z++cU c z r) (x::cU c z r):=rfl
theorem oU(c:Nat)(z:LN):∀a b:LN,cU c z (a++b)=cU c z a++cU c z b
 |[],_=>rfl
 |x::r,b=>by
  show cU c z (x::(r++b))=_;rw[gJ,gJ,oU c z r b];cases Nat.beq x c with
  |true=>exact(List.append_assoc z _ _).symm
  |false=>rfl
theorem mK:∀{l:LN},c∉l->cU c z l=l
 |[],_=>rfl
 |x::r,h=>by
  rw[gJ,mK λm=>h (List.mem_cons_of_mem _ m)];cases q:Nat.beq x c with
  |true=>exact absurd (aN q▸List.mem_cons_self ..) h
  |false=>rfl
theorem vP(c:Nat)(z:LN):∀gL:List Str,(∀p∈gL,c∉p.cps.toList)->cU c z (Str.join ⟨#[c]⟩ gL).cps.toList=(Str.join (St z) gL).cps.toList
 |[],_=>rfl
 |[p],h=>mK (h p (List.mem_singleton.mpr rfl))
 |p::q::r,h=>by have d:=vP c z (q::r) λa b=>h a (List.mem_cons_of_mem _ b);show cU c z (p++⟨#[c]⟩++Str.join ⟨#[c]⟩ (q::r)).cps.toList=(p++St z++Str.join (St z) (q::r)).cps.toList;simp only[Str.cps_append,Array.toList_append];rw[oU,oU,d,mK (h p (List.mem_cons_self ..)),gJ,Nat.beq_refl];show p.cps.toList++(z++[])++_=_;rw[List.append_nil]
theorem zrk(x z:LN)(c:Nat):Txt.replace (St x) (St [c]) (St z)=St (cU c z x):=by have h:=vP c z _ (StrLaws.split_free (St x) c);rw[StrLaws.join_split] at h;have B:cU c z x=(Str.join (St z) (Txt.split (St x) ⟨#[c]⟩)).cps.toList:=h;show Txt.replace (St x) ⟨#[c]⟩ (St z)=_;rw[StrLaws.replace_one,B,St,Array.toArray_toList]
theorem zaj(f:asc z=true):∀{x:LN},asc x=true->asc (cU c z x)=true
 |[],_=>rfl
 |y::r,h=>fS λd a=>by
  have b:=bJ (zaj (c:=c) (z:=z) f (x:=r) (fS λd a=>bJ h d (.tail _ a)));rw[gJ] at a;cases q:Nat.beq y c with
  |true=>rw[q] at a;exact(Qo a).elim (bJ f d) (b d)
  |false=>rw[q] at a;exact(Qe a).elim (λe=>e▸bJ h y (.head _)) (b d)
theorem zgy(f:y=[c])(j:x.length≤65536)(e:z.length≤2)(b:leq y z=false)(h:0<s.toks)(g:∀a k,Q (.str (St (cU c z x)) a) {s with toks:=k}):
 wpAny Ω.M A (call (.builtin "str.replace") [.str (St x) t,.str (St y) s.toks,.str (St z) (s.toks+1)]) Q E {s with toks:=s.toks+1+1}:=by
 refine SC.replace (Nat.ne_of_gt h) (Nat.succ_ne_zero _) (Nat.ne_of_lt (Nat.lt_succ_self _)) (by rw[←yE];exact b) ?_ λa k=>?_
 · rw[aQ,aQ]
   have i:(x.length+1)*z.length≤(x.length+1)*2:=Nat.mul_le_mul_left _ e
   lia
 · rw[f,zrk];exact g a k
theorem zrj(Io:EOk Ω cx Rm o):EOk Ω cx Rm (.repl o n l q m i w ap p):=by
 intro D fl hp r ρ s Q W h a hQ;refine aI W λN W=>?_;refine aI W λJ W=>?_;refine aI W λI W=>?_;refine aI W λG W=>?_;refine aI W λw5 W=>?_;refine aI W λj W=>?_;refine aI W λC B=>?_;refine aB a λv q1 a=>?_;refine aB a λx q2 a=>?_;refine aB a λc q3 a=>?_;refine aJ a λY a=>?_;have e3:methodCallPos true (tE (aA Ω) o) D.env (pos ap) (pos p)=pure (pos p):=by unfold methodCallPos;rw[aN B];exact if_pos ((Bool.or_eq_true _ _).mpr (.inr (beq_self_eq_true _)))
 obtain⟨g1,g2⟩:=zcs I;obtain⟨g3,g4⟩:=zcs G;show wpAny Ω.M D.A (do
  let ov←attributeBase (tE (aA Ω) o) (Str.ofString "replace") D.env (eval (tE (aA Ω) o) D.env)
  standAt (pos ap).atName
  methodCall (tE (aA Ω) o) (Str.ofString "replace") (pos ap) (pos p) D.env ov 2 (backTo (pos p) (starEach [.Constant (.str (Str.ofString n)) 0 (pos q),.Constant (.str (Str.ofString m)) 0 (pos w)] D.env)) (KW Ω (pos p) D.env [] [] [])) Q D.E s
 rw[iB N];refine Qg (Io J h q1 λf b u d G1 g=>Qg (wpAny_standAt ?_));rw[sQ q2] at g;obtain⟨⟨t,e⟩,y⟩:=g;rw[e];unfold methodCall;rw[show methodCallForm 2 (backTo (pos p) (starEach [.Constant (.str (Str.ofString n)) 0 (pos q),.Constant (.str (Str.ofString m)) 0 (pos w)] D.env)) (KW Ω (pos p) D.env [] [] [])=true from rfl,e3];refine Qg (wpAny_holding (GM.replace ?_));refine callWith_of (P:=λh=>bL Ω.M h (.builtin "str.replace")) rfl (λh x=>x) (evalArgs_kw2 rfl (wpAny_items_cons (wpAny_Constant_str (wpAny_items_cons (wpAny_Constant_str (wpAny_items_nil (kwAll_nil ?_))) rfl)) rfl));rw[g1,g3];refine⟨⟨.machine,.inr (.inl rfl),Looks.of_pure rfl⟩,?_⟩;refine cM (s:={b with toks:=b.toks+1+1}) (Qn _) (zgy (Ω:=Ω) (s:=b) (vF q3) y.2 (aK i▸Qa C) (by cases z:leq l i with|true=>rw[z] at j;exact ff j|false=>rfl) d.H.tk λT k hk=>?_);exact hQ f _ _ (prf a▸d.tok k hk) (G1.trans0 (Go.tok _ _ _ _)) (prf a▸⟨⟨T,rfl⟩,zaj g4.1 y.1,aK (cU c i x)▸cG Y⟩)
end

section
variable{Ω:Bx}

theorem zc8(h:look (put I x v) y=some a):(y=x/\v=a)∨(y≠x/\look I y=some a):=by
 rw[bB] at h;by_cases q:y=x
 · rw[if_pos q] at h;exact .inl ⟨q,prf h⟩
 · rw[if_neg q] at h;exact .inr ⟨q,h⟩
theorem oV(f:s.heap.get? x=some o)(h:¬Imm o)(c:Heap.SameBut x s.heap j)(i:AllBare s.gens)(a:0<s.toks->0<t:=by first|exact id|exact λU=>Qn _):Ch [x] [] s {s with heap:=j,toks:=t}:=
 nX (.head _) f h (λb o q e=>(c.2 b q).trans e) i a
theorem zkg(k:s.heap.get? x=some o)(m:¬Imm o)(a:Heap.SameBut x s.heap c)(j:x∈f)(l:∃o,c.get? x=some o):Go f h s h {s with heap:=c,toks:=t}:=
 zfj f (λb o e U i=>(a.2 b λq=>i (q▸j)).trans e) (jO a k m) (zb4 a l) rfl rfl
theorem za5(F:FR Ω C f I i s)(c:Heap.SameBut x s.heap b)(j:∃o,b.get? x=some o/\¬Imm o):∀a∈f,∃o,b.get? a=some o/\¬Imm o:=λa e=>by
 by_cases q:a=x
 · rw[q];exact j
 · exact(F.live a e).elim λo h=>⟨o,(c.2 a q).trans h.1,h.2⟩
noncomputable def yhg(Ω:Bx)(ρ:Rho)(h:Heap)(m:Str->Option Value)(x:Nat)(v:V):Prop:=∃a,m (aA Ω x)=some a/\VR ρ h v a
noncomputable def yhi(Ω:Bx)(env:Env)(b:List Addr)(ρ:Rho)(h:Heap)(x:Nat)(v:V):Prop:=∃c a,env.cells.lookup (aA Ω x)=some c/\h.IsCell c (some a)/\c∈b/\c≠env.locals/\VR ρ h v a
theorem zna(F:FR Ω C f I b s)(j:x<Ω.nms.length)(live:∀a∈f,∃o,u.heap.get? a=some o/\¬Imm o)(i:u.heap.Ns C.locals m)
 (M:C.kindOf (aA Ω x)=some .local->yhg Ω b u.heap m x v) (B:∀y v,y≠x->look I y=some v->C.kindOf (aA Ω y)=some .local->yhg Ω b u.heap m y v)
 (A:C.kindOf (aA Ω x)=some .cell∨C.kindOf (aA Ω x)=some .free->yhi Ω C f b u.heap x v) (k:∀y v,y≠x->look I y=some v->C.kindOf (aA Ω y)=some .cell∨C.kindOf (aA Ω y)=some .free->yhi Ω C f b u.heap y v):FR Ω C f (put I x v) b u:=
 ⟨F.kind,F.glob,F.blt,λy c h=>(zc8 h).elim (λq=>q.1▸j) λq=>F.ids y c q.2,
  ⟨m,i,λy c h e=>(zc8 h).elim (λq=>by rw[←q.2,q.1];exact M (q.1▸e)) λq=>B y c q.1 q.2 e⟩,
  λy c h e=>(zc8 h).elim (λq=>by rw[←q.2,q.1];exact A (q.1▸e)) λq=>k y c q.1 q.2 e,F.loc,F.disj,live⟩
theorem lJ{h:Heap}{a:Addr}{m:Str->Option Value}(e:h.Ns a m):∃o,h.get? a=some o/\¬Imm o:=by obtain⟨o,D,f,c,b⟩:=e;exact⟨o,c,by simp[Imm,b.1]⟩
theorem wJ{h:Heap}{a:Addr}{v:Option Value}(c:h.IsCell a v):∃o,h.get? a=some o/\¬Imm o:=by obtain⟨o,b,e⟩:=c;exact⟨o,b,by simp[Imm,e]⟩
theorem oM(C:CT Ω cx Rm)(hb:Ω.h₀.get? a.locals=none)(K:KN Ω a N)(G:x<Ω.nms.length)(hk:look N x=some 0)(H:HS Ω b Y s)(F:FR Ω a J fl b s)(R:VR b s.heap v u)
 (hQ:∀f t,Heap.SameBut a.locals s.heap f->HS Ω b Y {s with heap:=f,toks:=t}->Go J b s b {s with heap:=f,toks:=t}->FR Ω a J (put fl x v) b {s with heap:=f,toks:=t}->Q () {s with heap:=f,toks:=t}):
 wpAny Ω.M A (storeName a (aA Ω x) u) Q E s:=by
 obtain⟨m,hn,hm⟩:=F.ns;obtain⟨ol,k,n⟩:=F.live _ F.loc;have g:=K.loc x hk;refine wpAny_storeName_local g hn (λf l j=>?_) (by rw[F.kind];rfl);have r:=oV (t:=s.toks+1) k n j H.gens;have d:=lJ l;refine hQ f _ j (nP H r (dO (F.disj _ F.loc)) (dO hb)) (zkg k n j F.loc (d.elim λo h=>⟨o,h.1⟩)) (zna F G (za5 F j d) l (λU=>⟨u,if_pos rfl,VR.mono (Ext.refl b) r.imm _ _ R⟩) (λy p q h i=>?_) (λi=>?_) λy p q h i=>?_)
 · obtain⟨w,D,B⟩:=hm y p h i
   exact⟨w,(if_neg λe=>q (C.inj y x (F.ids y p h) G e)).trans D,VR.mono (Ext.refl b) r.imm _ _ B⟩
 · rw[g] at i;exact i.elim nofun nofun
 · obtain⟨c,w,D,⟨T,B,z⟩,h3,I,h5⟩:=F.cel y p h i
   exact⟨c,w,D,⟨T,(j.2 c I).trans B,z⟩,h3,I,VR.mono (Ext.refl b) r.imm _ _ h5⟩
theorem zji(C:CT Ω cx Rm)(K:KN Ω f sc)(D:x<Ω.nms.length)(G:look sc x=some 0∨look sc x=some 1)(H:HS Ω i hp s)(F:FR Ω f T fl i s)(b:FC Ω f T s)(R:VR i s.heap v u)
 (hQ:∀z,HS Ω i hp z->Go T i s i z->FR Ω f T (put fl x v) i z->FC Ω f T z->Q () z):
 wpAny Ω.M A (storeName f (aA Ω x) u) Q E s:=by
 rcases G with G|G
 · refine oM C (b.base _ F.loc) K D G H F R λh' t j H' G' F'=>hQ _ H' G' F' ⟨λy c l B=>?_,b.apart,b.has,b.base⟩
   obtain⟨k,r,v,o,h5,h6⟩:=b.own y c l B;exact⟨k,r,v,o,(j.2 c r).trans h5,h6⟩
 · have n:=K.one x G
   obtain⟨c,N⟩:=b.has x D n;obtain⟨k,r,v0,hv0⟩:=b.own x c D N;obtain⟨oc,g,I⟩:=F.live c k;refine wpAny_storeName_cell F.kind n N hv0 λh' a j=>?_
   have Y:=oV (t:=s.toks) g I j H.gens;have lv:=wJ a;obtain⟨m,hn,hm⟩:=F.ns;refine hQ {s with heap:=h'} (nP H Y (dO (F.disj _ k)) (dO (b.base _ k))) (zkg (t:=s.toks) g I j k (lv.elim λo h=>⟨o,h.1⟩))
    (zna F D (za5 F j lv) (hn.sameBut j (Ne.symm r)) (λp=>?_) (λy J q h p=>?_) (λU=>⟨c,u,N,a,k,r,VR.mono (Ext.refl i) Y.imm _ _ R⟩) λy J q h p=>?_) ⟨λy d l B=>?_,b.apart,b.has,b.base⟩
   · rw[n] at p;exact absurd p nofun
   · obtain⟨w,l,B⟩:=hm y J h p
     exact⟨w,l,VR.mono (Ext.refl i) Y.imm _ _ B⟩
   · obtain⟨d,w,l,⟨od,B,h2'⟩,h3',h4',h5⟩:=F.cel y J h p
     exact⟨d,w,l,⟨od,(j.2 d λe=>q (b.apart y x d (F.ids y J h) D l (e▸N))).trans B,h2'⟩,h3',h4',VR.mono (Ext.refl i) Y.imm _ _ h5⟩
   · obtain⟨g1,g2,w,o,g3,g4⟩:=b.own y d l B
     by_cases q:d=c
     · rw[q];exact⟨k,r,_,a⟩
     · exact⟨g1,g2,w,o,(j.2 d q).trans g3,g4⟩

theorem zhx(q:l≠j)(k:Nat):∀(i:Nat) (s:Shared) (Q:List Value->Shared->Prop),s.heap.IsListIter j l i->s.heap.get? l=some (bZ G n)->i+k≤G.length->
 (∀r,r.IsListIter j l (i+k)->Heap.SameBut j s.heap r->Q ((G.drop i).take k) {s with heap:=r})->wpAny Ω.M A (draw (.ref j) k) Q E s:=by
 induction k with
 |zero=>exact λi s Q h U U g=>Qh (g s.heap h (Heap.SameBut.refl ..))
 |succ k d=>intro i s Q h u p g;have o:i<G.length:=Qp (Nat.lt_add_of_pos_right (Qn k)) p;have e:i+(k+1)=i+1+k:=(Nat.add_assoc i k 1).symm.trans (Nat.add_right_comm i k 1);show wpAny _ _ (pyNext (.ref j)>>=_) Q E s;refine Qg (wpAny_pyNext_list_item (items:=G.toArray) h ⟨_,u,rfl,_,rfl⟩ (x:=G[i]) ((List.getElem?_toArray ..).trans (List.getElem?_eq_getElem o)) λt c a=>?_);refine Qg (wpAny_holding (d (i+1) _ _ c ((a.2 l q).trans u) (e▸p) λm b f=>Qh ?_));rw[List.drop_eq_getElem_cons o,List.take_succ_cons,e] at g;exact g m b (a.trans f)
theorem zW(t:A.handled=none)(j:s.heap.get? a=some (bZ G n))(g:∀r,(∀b o,s.heap.get? b=some o->r.get? b=some o)->Q G {s with heap:=r}):
 wpAny Ω.M A (unpackItems (.ref a) G.length none) Q E s:=by
 have l:=dK s;have k:a≠s.heap.objs.size:=λq=>sn l (q▸j);unfold unpackItems;refine Qg ?_;unfold notIterableAtAll;refine Qg (wpAny_specialOf (tyL j) PySem.F.slot_list_iter.lookup (Qh ?_));simp only[Bool.false_eq_true,if_false];refine Qg (wpAny_holding (wpAny_pyIter_list (items:=G.toArray) ⟨_,j,rfl,_,rfl⟩ ?_));refine Qg (wpAny_holding (zhx k G.length 0 _ _ ⟨_,Qk _ rfl,rfl,rfl⟩ (Qc _ j) (Nat.le_of_eq (Nat.zero_add _)) λm f c=>?_));rw[List.drop_zero,List.take_length,if_neg (Nat.lt_irrefl _)];refine Qg (wpAny_holding (wpAny_pyNext_list_end (items:=G.toArray) t f ⟨_,(c.2 a k).trans (Qc _ j),rfl,_,rfl⟩ (Array.getElem?_eq_none (Nat.le_of_eq (Nat.zero_add _).symm)) λi h=>?_));simp only[Option.isSome_none,Bool.false_eq_true,if_false];exact Qh (g i λb o e=>have p:b≠s.heap.objs.size:=λq=>sn l (q▸e);h b o p (c.extBut b o p (Qc _ e)))
theorem oH(j:A.handled=none)(H:HS Ω i J s)(e:gL r J=some T)(R:RVR Ω i s₀ s r u)
 (g:∀vs c,(∀b o,s.heap.get? b=some o->c.get? b=some o)->VRs i s.heap T vs->Q vs {s with heap:=c}):
 wpAny Ω.M A (unpackItems u T.length none) Q E s:=by
 obtain⟨a,vs,n,rfl,f,h,_⟩:=zkb H e R;rw[←h.len];rcases f with f|f
 · exact zW j f λc k=>g vs c k h
 · exact wpAny_unpackItems_tuple (t:=a) (items:=vs.toArray) j ⟨_,f,rfl,_,rfl⟩ λc l=>g vs c (λb o e=>l b o (λq=>sn (dK s) (q▸e)) e) h

def Sto(Ω:Bx)(C:Env):List (Value->Sem Unit)->LN->Prop
 |a,[]=>a=[]
 |a,x::T=>∃f r,a=f::r/\(∀v,f v=bindName C (aA Ω x) v∨∃p,f v=(do standAt p;bindName C (aA Ω x) v))/\Sto Ω C r T
theorem zaa:∀{ps:LN},Sto Ω env ((assignEach (names (aA Ω) xs ps) env).map (·.2)) xs/\(assignEach (names (aA Ω) xs ps) env).length=xs.length/\(assignEach (names (aA Ω) xs ps) env).findIdx? (·.1)=none:=by
 induction xs with
 |nil=>exact⟨rfl,rfl,rfl⟩
 |cons x r d=>
  intro ps;have a:∀{p:Pos} {ps:LN},Sto Ω env ((assignEach (.Name (aA Ω x) p::names (aA Ω) r ps) env).map (·.2)) (x::r)/\(assignEach (.Name (aA Ω x) p::names (aA Ω) r ps) env).length=(x::r).length/\(assignEach (.Name (aA Ω x) p::names (aA Ω) r ps) env).findIdx? (·.1)=none:=
   ⟨⟨_,_,rfl,λv=> .inr ⟨_,rfl⟩,(d (ps:=_)).1⟩,congrArg (· +1) d.2.1,(List.findIdx?_cons ..).trans (congrArg (Option.map (· +1)) d.2.2)⟩
  cases ps with
  |nil=>exact a
  |cons p t=>exact a
theorem zgp:Sto Ω C ((T.map (aA Ω)).map λn=>bindName C n) T:=by
 induction T with
 |nil=>exact rfl
 |cons x r d=>exact⟨_,_,rfl,λv=> .inl rfl,d⟩
theorem vV{T:LN}{a:List V}(h:bO (x::T) a I=some b){G:List V->Prop}(k:∀v t,bO T t (put I x v)=some b->G (v::t)):G a:=by
 cases a with
 |nil=>exact nn h
 |cons v t=>exact k v t h
theorem mL{T:LN}:∀{vs:List V} {fl:L},bO T vs fl=some a->vs.length=T.length:=by
 induction T with
 |nil=>intro vs fl h;cases vs with|nil=>rfl|cons _ _=>exact nn h
 |cons x r d=>exact λ{vs _} h=>vV (G:=λvs=>vs.length=(x::r).length) h λv t h=>congrArg (· +1) (d h)
theorem oW{I:L->Shared->Prop}{P:Nat->Prop}(step:∀{x fl s v u} {Q:Unit->Shared->Prop},P x->I fl s->VR k s.heap v u->(∀b,I (put fl x v) b->hJ s.heap b.heap->Q () b)->wpAny Ω.M A (storeName C (aA Ω x) u) Q E s)
 {T:LN}:∀{j:List (Value->Sem Unit)} {vs:List V} {a:List Value} {fl:L} {s:Shared} {Q:Unit->Shared->Prop},Sto Ω C j T->(∀x∈T,P x)->bO T vs fl=some m->I fl s->VRs k s.heap vs a->(∀b,I m b->Q () b)->wpAny Ω.M A (assignInOrder j a) Q E s:=by
 induction T with
 |nil=>
  intro j vs a fl s Q c l h i R g;cases vs with
  |cons _ _=>exact nn h
  |nil=>rw[show j=[] from c,show a=[] from R];exact wpAny_assignInOrder_none (g s (prf h▸i))
 |cons x r d=>
  intro j vs a fl s Q c l h i R g;obtain⟨f,e,rfl,H,c⟩:=c;refine vV (G:=λvs=>VRs k s.heap vs a->wpAny Ω.M A (assignInOrder (f::e) a) Q E s) h (λv t h R=>vrs_e R λu a J B=>wpAny_assignInOrder_more ?_) R;have n:wpAny Ω.M A (bindName C (aA Ω x) u) (λU z=>wpAny Ω.M A (assignInOrder e a) Q E z) E s:=
   wpAny_bindName (step (l x (.head _)) i J λN w o=>d c (λy D=>l y (.tail _ D)) h w (VRs.mono (Ext.refl k) o _ _ B) g)
  rcases H u with q|⟨p,q⟩
  · exact q▸n
  · exact q▸Qg (wpAny_standAt n)
end

section
variable{Ω:Bx}

noncomputable def zwl(M:Model)(A:Around)(target:Expr)(env:Env)(b:Sem Bool)(i:Sem Value)(it acc:Value)(N:Shared->Prop)(Z:Shared->Prop)(E':Value->Shared->Prop)(s:Shared):Prop:=
 wpAny M A (pyNext it) (λr z=>byO r (λv=>wpAny M A (letOwnedTupleGo target it v) (λU c=>wpAny M A (assign target env v) (λU h=>wpAny M A b (λj a=>
  if j=true then wpAny M A i (λx f=>wpAny M A (call (.builtin "list.append") [acc,x]) (λU e=>Z e) E' f) E' a else Z a) E' h) E' c) E' z) (N z)) E' s
noncomputable abbrev zi2(a:List Expr)(C:Env):Sem Bool:=forIn a true λc r=>if r=true then do let b←isTrue c C (eval c C);pure (ForInStep.yield b) else pure (ForInStep.yield r)
theorem yW{l target iter:Expr}{j:List Expr}{a:Scope}{p:Pos}{y o:Value}{R:Result->Shared->Prop}(I:Nat->Shared->Prop)
 (turn:∀n s,I n s->zwl Ω.M A target C (zi2 j C) (eval l C) y o (R (.ok .next)) (λc=>∃m,m<n/\I m c) (notedBy Ω.M A C λe d=>R (.error e) d) s)
 (n:Nat) (h:I n s):codeAny Ω.M A (.compLoop (.ListComp l [⟨target,iter,j,0⟩] a p) 0 y o C) R s:=by
 refine codeAny_loop rfl I (λn s B=>?_) n h;have turn:=turn n s B;show wpAny _ A ((compTurn (.ListComp l [⟨target,iter,j,0⟩] a p) 0 y o C).onRaise (λx=>do noteFrame x C;theTreesLotGoes x)) _ _ s;refine wpAny_noted ?_;rw[compTurn_list];refine Qg (wpAny_standAt (Qg (Qv turn (λr Q i=>?_) λU U b=>b)));cases r with
 |none=>exact Qh i
 |some v=>
  refine Qg (Qv i (λU w k=>?_) λU U b=>b);refine Qg (Qv k (λU H u=>Qg (Qv u (λg D f=>?_) λU U b=>b)) λU U b=>b);cases g with
  |false=>exact Qh ⟨rfl,f⟩
  |true=>exact Qg (Qg (Qv f (λx z t=>Qg (Qv t (λU c q=>Qh (Qh ⟨rfl,q⟩)) λU U b=>b)) λU U b=>b))

theorem qA(e:s.heap.get? c=some o)(h:o.cls= .type n)(f:zg6 n=false)(g:Q () s):wpAny Ω.M A (letOwnedTupleGo target (.ref c) v) Q E s:=by
 have b:wpAny Ω.M A (letOwnedTupleGo (.Tuple [] 0 default) (.ref c) v) Q E s:=by
  cases v with
  |ref a=>
   refine Qg (wpAny_load e ?_);rw[h];cases o.data with
   |fields G=>show wpAny _ _ (if(zg6 n&&_)=true then _ else _) _ _ _;rw[f];exact Qh g
   |_=>exact Qh g
  |_=>exact Qh g
 cases target with
 |Tuple _ _ _=>exact b
 |List _ _=>exact b
 |_=>exact Qh g

noncomputable def kN(C:Env)(a:Str)(k:NameKind):NameKind:=if(k== .free&&C.scope.kind== .function&&C.kindOf a==some .cell) then .cell else k
theorem zmo(x:Nat)(l:LN):tD x l=true↔x∈l:=by
 induction l with
 |nil=>exact⟨λh=>ff h,nofun⟩
 |cons y r d=>
  show cs (Nat.beq y x) true (tD x r)=true↔_;cases h:Nat.beq y x with
  |true=>exact⟨λU=>aN h▸.head _,λU=>rfl⟩
  |false=>exact⟨λq=> .tail _ (d.mp q),λq=>(Qe q).elim (λe=>absurd e.symm (lD h)) d.mpr⟩
theorem rC(h:bH (tD x l)=true):x∉l:=λa=>by rw[(zmo x l).mpr a] at h;exact ff h
theorem zjx{n:Nat}{b:LN}{p:Nat×Nat}{r:List (Nat×Nat)}{seen:LN}(h:iR n a b (p::r) seen=true):
 p.1<n/\p.1∉seen/\(p.2=0∨(p.2=2/\(look a p.1=some 1∨look a p.1=some 2))∨p.2=4)/\iR n a b r (p.1::seen)=true:=
 have M:=aF h;have B:=aF M.2;have A:=aF B.2
 ⟨jS M.1,rC B.1,(sV A.1).imp aN λq=>(sV q).imp (λq=>⟨aN (aF q).1,(sV (aF q).2).imp zmm zmm⟩) aN,A.2⟩
theorem fZ{a:Type}{p:Nat×a}{r:List (Nat×a)}{x:Nat}{v:a}(h:look (p::r) x=some v):(p.1=x/\p.2=v)∨look r x=some v:=by
 have h:cs (Nat.beq p.1 x) (some p.2) (look r x)=some v:=h;cases q:Nat.beq p.1 x with
 |true=>rw[q] at h;exact .inl ⟨aN q,prf h⟩
 |false=>rw[q] at h;exact .inr h
theorem cE{n:Nat}{j:LN}{x k:Nat}{e:List (Nat×Nat)}:∀{seen:LN},iR n i j e seen=true->look e x=some k->x<n/\x∉seen/\(k=0∨(k=2/\(look i x=some 1∨look i x=some 2))∨k=4):=by
 induction e with
 |nil=>exact λU h=>nn h
 |cons p r d=>
  intro seen h f;obtain⟨M,B,A,o⟩:=zjx h;rcases fZ f with⟨q,l⟩|f
  · exact q▸l▸⟨M,B,A⟩
  · obtain⟨a,b,c⟩:=d o f
    exact⟨a,λm=>b (.tail _ m),c⟩
theorem za4(b:∀x y,x<Ω.nms.length->y<Ω.nms.length->aA Ω x=aA Ω y->x=y)(g:Str->NameKind->NameKind)(j:x<Ω.nms.length):∀{seen:LN},iR Ω.nms.length i f a seen=true->
 List.lookup (aA Ω x) ((scN (aA Ω) a).map λp=>(p.1,g p.1 p.2))=(look a x).map λk=>g (aA Ω x) (gS k):=by
 induction a with
 |nil=>exact λU=>rfl
 |cons p r d=>
  intro seen h;obtain⟨M,B,A,c⟩:=zjx h;show List.lookup _ ((aA Ω p.1,g (aA Ω p.1) (gS p.2))::_)=Option.map _ (cs (Nat.beq p.1 x) (some p.2) (look r x));rw[List.lookup_cons];cases q:Nat.beq p.1 x with
  |true=>rw[aN q,beq_self_eq_true];rfl
  |false=>rw[beq_eq_false_iff_ne.mpr λe=>lD q (b x p.1 j M e).symm];exact d c
theorem zhc(b:∀x y,x<Ω.nms.length->y<Ω.nms.length->aA Ω x=aA Ω y->x=y){c:LN}{a:List (Nat×Nat)}{seen:LN}(h:iR Ω.nms.length e c a seen=true)(x:Nat)(j:x<Ω.nms.length):
 List.lookup (aA Ω x) ((scN (aA Ω) a).map λ(n,k)=>if(k== .free&&C.scope.kind== .function&&C.kindOf n==some .cell) then(n,.cell) else(n,k))=(look a x).map (λk=>kN C (aA Ω x) (gS k)):=
 Eq.trans (congrArg (λf=>List.lookup (aA Ω x) ((scN (aA Ω) a).map f)) (funext λp=>(apply_ite (Prod.mk p.1) _ _ _).symm)) (za4 b (kN C) j h)
theorem zhd(b:∀x y,x<Ω.nms.length->y<Ω.nms.length->aA Ω x=aA Ω y->x=y){c:LN}{a:List (Nat×Nat)}{seen:LN}(h:iR Ω.nms.length e c a seen=true){x:Nat}(j:x<Ω.nms.length):
 List.lookup (aA Ω x) (scN (aA Ω) a)=(look a x).map gS:=Eq.trans (congrArg (List.lookup (aA Ω x)) (List.map_id' _).symm) (za4 b (λU k=>k) j h)
def clo(Ω:Bx)(C:Env):List (Nat×Nat)->List (Str×Addr)->List (Str×Addr)
 |[],a=>a
 |p::r,a=>clo Ω C r (cs (Nat.beq p.2 2) (byO (C.cells.lookup (aA Ω p.1)) (λc=>(aA Ω p.1,c)::a) a) a)
theorem ybo(K:KN Ω C i):∀{seen:LN} {acc:List (Str×Addr)},iR n i k a seen=true->
 (forIn (scN (aA Ω) a) acc λ(x:Str×NameKind) cs=>(if(x.2== .free)=true then do let c←cellOf C x.1;pure (ForInStep.yield ((x.1,c)::cs)) else pure (ForInStep.yield cs):Sem (ForInStep (List (Str×Addr)))))=pure (clo Ω C a acc):=by
 induction a with
 |nil=>exact λU=>rfl
 |cons p r d=>
  intro seen acc h;obtain⟨M,B,A,j⟩:=zjx h;show(forIn ((aA Ω p.1,gS p.2)::scN (aA Ω) r) acc _)=pure (clo Ω C r (cs (Nat.beq p.2 2) _ acc));rw[List.forIn_cons,←d j];rcases A with e|⟨e,A⟩|e
  · rw[e];rfl
  · obtain⟨c,f⟩:=(K.cel _ A).2
    have b:cellOf C (aA Ω p.1)=pure c:=by unfold cellOf;rw[f]
    rw[e,f];show((if(NameKind.free==NameKind.free)=true then _ else _)>>=_)=_;rw[if_pos (by decide),b];rfl
  · rw[e];rfl
theorem zra{n:Nat}{a:LN}{r:List (Nat×Nat)}{x:Nat}{seen:LN}(h:iR n b a r (x::seen)=true):look r x=none:=by
 cases q:look r x with
 |none=>rfl
 |some k=>exact absurd (.head _) (cE h q).2.1
theorem zn3(f:∀x y,x<Ω.nms.length->y<Ω.nms.length->aA Ω x=aA Ω y->x=y)(j:x<Ω.nms.length):∀{seen:LN} {a:List (Str×Addr)},iR Ω.nms.length l k b seen=true->
 (clo Ω C b a).lookup (aA Ω x)=orl (ifb (is_ 2 (look b x)) (C.cells.lookup (aA Ω x))) (a.lookup (aA Ω x)):=by
 induction b with
 |nil=>exact λU=>rfl
 |cons p r d=>
  intro seen a h;obtain⟨M,B,A,i⟩:=zjx h;refine(d i).trans ?_;show _=orl (ifb (is_ 2 (cs (Nat.beq p.1 x) (some p.2) (look r x))) _) _;cases q:Nat.beq p.1 x with
  |true=>
   rw[←aN q,zra i];show List.lookup _ (cs (Nat.beq p.2 2) _ a)=orl (ifb (Nat.beq 2 p.2) _) _;rcases A with e|⟨e,_⟩|e
   · rw[e];rfl
   · rw[e]
     cases z:C.cells.lookup (aA Ω p.1) with
     |none=>rfl
     |some c=>exact List.lookup_cons_self
   · rw[e];rfl
  |false=>
   refine congrArg (orl _) ?_;cases Nat.beq p.2 2 with
   |false=>rfl
   |true=>cases C.cells.lookup (aA Ω p.1) with
    |none=>rfl
    |some c=>exact(List.lookup_cons ..).trans (by rw[beq_eq_false_iff_ne.mpr λe=>lD q (f x p.1 j M e).symm])
theorem zn4(b:∀x y,x<Ω.nms.length->y<Ω.nms.length->aA Ω x=aA Ω y->x=y){e:LN}{x:Nat}(j:x<Ω.nms.length){a:List (Nat×Nat)}{seen:LN}{c:Addr}(h:iR Ω.nms.length i e a seen=true)(B:look a x=some 2)(f:C.cells.lookup (aA Ω x)=some c):(clo Ω C a []).lookup (aA Ω x)=some c:=
 (zn3 b j h).trans (by rw[B,f];rfl)
end

section
variable{Ω:Bx}

theorem sC(x:Ch c j s z)(y:Ch c j z a):Ch c j s a:=
 ⟨λb o e n=>y.keep b o (x.keep b o e n) n,λb o e i=>y.imm b o (x.imm b o e i) i,λg f n e=>y.gens g f n (x.gens g f n e),y.bare,y.os.trans x.os,λh=>y.tk (x.tk h)⟩
theorem zwe(c:AllBare s.gens)(k:Up s f)(a:0<s.toks->0<t:=by first|exact id|exact λU=>Qn _):Ch h i s {s with heap:=f,toks:=t}:=⟨λb o e U=>k b o e,λb o e U=>k b o e,λU U U e=>e,c,rfl,a⟩
theorem zfx(a:AllBare s.gens):Ch b c s s:=zwe a λU U e=>e
abbrev inE(Ω:Bx)(C:Env)(a:List (Nat×Nat))(b:Addr):Env:=compEnvC (scF (aA Ω) a) (clo Ω C a []) b C
section
variable(C:CT Ω cx Rm)(K:KN Ω env sc)(h:iR Ω.nms.length sc ts sc' []=true)
include C h in
theorem kd(j:x<Ω.nms.length):(inE Ω env sc' a).kindOf (aA Ω x)=(look sc' x).map λk=>kN env (aA Ω x) (gS k):=zhc C.inj h x j
include C h in
theorem rM(a:look sc' x=some k):(inE Ω env sc' b).kindOf (aA Ω x)=some (kN env (aA Ω x) (gS k)):=by rw[kd C h (cE h a).1,a];rfl
theorem zfc(a:Str):kN env a .free= .cell∨kN env a .free= .free:=by
 unfold kN;split
 · exact .inl rfl
 · exact .inr rfl
include h in
theorem zix(a:look sc' x=some 2):look sc x=some 1∨look sc x=some 2:=(cE h a).2.2.elim nofun λq=>q.elim (λq=>q.2) nofun
include C K h in
theorem zsj(i:Addr):KN Ω (inE Ω env sc' i) sc':=by
 refine⟨λx b=>rM C h b,λx b=>?_,λx b=>?_,λx U b=>rM C h b,λx j b=>(kd C h j).trans (by rw[b];rfl)⟩
 · exact(cE h b).2.2.elim nofun λq=>q.elim (λq=>nomatch q.1) nofun
 · have a:look sc' x=some 2:=b.elim (λb=>(cE h b).2.2.elim nofun λq=>q.elim (λq=>nomatch q.1) nofun) id
   obtain⟨c,f⟩:=(K.cel x (zix h a)).2;exact⟨(zfc (aA Ω x)).imp (λe=>(rM C h a).trans (congrArg some e)) λe=>(rM C h a).trans (congrArg some e),c,zn4 C.inj (cE h a).1 h a f⟩
theorem tB(sc':List (Nat×Nat))(y:Nat)(a:look (flr sc' I) y=some v):look sc' y≠some 0/\look I y=some v:=by
 induction I with
 |nil=>exact nn a
 |cons p r d=>
  have a:look (cs (is0 (look sc' p.1)) (flr sc' r) (p::flr sc' r)) y=some v:=a;show look sc' y≠some 0/\cs (Nat.beq p.1 y) (some p.2) (look r y)=some v;cases q:Nat.beq p.1 y with
  |true=>
   have e:=aN q;cases z:is0 (look sc' p.1) with
   |true=>rw[z] at a;exact absurd (e▸zmm z) (d a).1
   |false=>rw[z] at a;have a:cs (Nat.beq p.1 y) (some p.2) (look (flr sc' r) y)=some v:=a;rw[q] at a;exact⟨λw=>by rw[e,w] at z;exact ff z.symm,a⟩
  |false=>
   cases z:is0 (look sc' p.1) with
   |true=>rw[z] at a;exact d a
   |false=>rw[z] at a;have a:cs (Nat.beq p.1 y) (some p.2) (look (flr sc' r) y)=some v:=a;rw[q] at a;exact d a
theorem zs1(F:FR Ω env i I f s)(h:∀y,look c y=look I y):FR Ω env i c f s:=
 ⟨F.kind,F.glob,F.blt,λx v a=>F.ids x v ((h x).symm.trans a),F.ns.elim λm e=>⟨m,e.1,λx v a b=>e.2 x v ((h x).symm.trans a) b⟩,λx v a b=>F.cel x v ((h x).symm.trans a) b,F.loc,F.disj,F.live⟩
include C K h in
theorem znb(F:FR Ω env w I o s)(t:s.heap.Ns i m)(M:i∉w)(B:i∉o.flatten):FR Ω (inE Ω env sc' i) (i::w) (flr sc' I) o s:=by
 refine⟨rfl,F.glob,F.blt,λx v f=>F.ids x v (tB sc' x f).2,⟨m,t,λx v f b=>?_⟩,λx v f b=>?_,.head _,λa n=>(Qe n).elim (λq=>q▸B) (F.disj a),λa n=>(Qe n).elim (λq=>q▸lJ t) (F.live a)⟩
 · obtain⟨l,j⟩:=tB sc' x f
   rw[kd C h (F.ids x v j)] at b;cases q:look sc' x with
   |none=>rw[q] at b;exact nn b
   |some k=>
    rw[q] at b;have b:=prf b;rcases(cE h q).2.2 with A|⟨A,_⟩|A
    · exact absurd (A▸q) l
    · rw[A] at b
      rcases zfc (env:=env) (aA Ω x) with z|z
      · exact nomatch (z.symm.trans b)
      · exact nomatch (z.symm.trans b)
    · rw[A] at b;exact nomatch b
 · obtain⟨l,j⟩:=tB sc' x f
   have r:=F.ids x v j;rw[kd C h r] at b;have p:look sc' x=some 2:=by
    cases q:look sc' x with
    |none=>rw[q] at b;exact b.elim (λh=>nn h) λh=>nn h
    |some k=>
     rcases(cE h q).2.2 with A|⟨A,_⟩|A
     · exact absurd (A▸q) l
     · rw[A]
     · rw[q,A] at b;exact b.elim (λh=>nomatch (prf h)) λh=>nomatch (prf h)
   obtain⟨c,y,Q,H,u,d,D⟩:=F.cel x v j (K.cel x (zix h p)).1;exact⟨c,y,zn4 C.inj r h p Q,H,.tail _ u,λe=>M ((show c=i from e)▸u),D⟩
end
structure HereC(Ω:Bx)(Rm:Around->Prop)(D:Dx)(s0:Shared)(fl:L)(hp:Hp)(ρ:Rho)(s:Shared):Prop where
 h:Here Ω Rm D fl hp ρ s
 c:Ch [D.env.locals] [] s0 s
theorem zve(C:CT Ω q Rm)(m:Ω.h₀.get? D.env.locals=none)(j:x<Ω.nms.length/\look D.sc x=some 0)(h:HereC Ω Rm D k I J f s)(R:VR f s.heap v u)
 (g:∀a,HereC Ω Rm D k (put I x v) J f a->hJ s.heap a.heap->Q () a):wpAny Ω.M D.A (storeName D.env (aA Ω x) u) Q D.E s:=by
 obtain⟨o,b,e⟩:=h.h.F.live _ h.h.F.loc;exact oM C m h.h.K j.1 j.2 h.h.H h.h.F R λp t l i n F1=>g _ ⟨⟨h.h.K,h.h.A,i,F1⟩,sC h.c (oV b e l h.h.H.gens λU=>i.tk)⟩ n.imm
theorem zog(C:CT Ω E Rm)(w:Ω.h₀.get? D.env.locals=none)(j:∀x∈c,x<Ω.nms.length/\look D.sc x=some 0)(e:bindC c v n J=some m)(h:Here Ω Rm D n J i s)(R:VR i s.heap v u)
 (g:∀f,HereC Ω Rm D s m J i f->Q () f):WP Ω D (assign (tgC (aA Ω) c a B) D.env u) Q s:=by
 have many:∀{a:LN} {p:Pos},(bd (gL (.v v) J) λT=>bO c T n)=some m->WP Ω D (assign (.Tuple (names (aA Ω) c a) 0 p) D.env u) Q s:=by intro a p e;refine aB e λT q e=>?_;rw[arm_assign_Tuple];refine Qg (wpAny_standAt ?_);unfold unpack;have l:=zaa (Ω:=Ω) (env:=D.env) (xs:=c) (ps:=a);rw[l.2.1,l.2.2,←mL e];refine Qg (wpAny_holding (oH (C.rm D.A h.A).1 (Ω:=Ω) (s₀:=s) (r:= .v v) h.H q R λG z k d=>?_));exact oW (I:=λn f=>HereC Ω Rm D s n J i f) (zve C w) l.1 j e ⟨h.go (Go.keeps [] i s (t:=s.toks) k) (h.H.heap (t:=s.toks) k h.H.tk),zwe (t:=s.toks) h.H.gens k⟩ (VRs.mono (Ext.refl i) (λb o e U=>k b o e) _ _ d) g
 cases c with
 |nil=>exact many e
 |cons x r=>
  cases r with
  |cons y r=>exact many e
  |nil=>exact wpAny_assign_Name (zve C w (j x (.head _)) ⟨h,zfx h.H.gens⟩ R λf z U=>g f (prf e▸z))
theorem zg7(l:List Expr):(forIn l false λc r=>if r=true then do let a←isTrue c C (eval c C);pure (ForInStep.yield a) else pure (ForInStep.yield r):Sem Bool)=pure false:=by
 induction l with
 |nil=>rfl
 |cons c l d=>rw[List.forIn_cons,if_neg Bool.false_ne_true];exact d
abbrev zco(Ω:Bx)(C:Env)(a:List FE):Sem Bool:=zi2 (tEs (aA Ω) a) C
theorem zi1:∀{J:Hp} {b:Bool×Hp} {ρ:Rho} {s:Shared} {Q:Bool->Shared->Prop},(∀c∈a,TOk Ω E Rm c)->wEs Ω.nms.length D.sc a=true->Here Ω Rm D j J ρ s->trA E j a J=some b->zcb Ω Rm D j ρ s b Q->WP Ω D (zco Ω D.env a) Q s:=by
 induction a with
 |nil=>exact λU U h e g=>by cases prf e;exact wpAny_tests_nil (g _ _ h (Go.refl _ _ _))
 |cons c r d=>
  intro J b ρ s Q I W h e g;refine aB e λx q e=>?_;show wpAny _ _ (forIn (tE (aA Ω) c::tEs (aA Ω) r) true _) _ _ _;rw[List.forIn_cons,if_pos rfl];refine Qg (Qg (I c (.head _) (aF W).1 h q λi m M k=>Qh ?_));cases z:x.1 with
  |true=>rw[z] at e;exact d (λc h=>I c (.tail _ h)) (aF W).2 M e λf l B n=>g f l B (k.trans0 n)
  |false=>rw[z] at e;show wpAny _ _ (forIn (tEs (aA Ω) r) false _) _ _ _;rw[zg7];cases prf e;exact Qh (g i m M k)
theorem zd4(K:KN Ω C f){n:Nat}{e:LN}{seen:LN}(h:iR n f e c seen=true):closureFor (scF (aA Ω) c) C=pure (clo Ω C c []):=by
 have:=ybo (acc:=[]) K h;unfold closureFor;show(forIn (scN (aA Ω) c) [] _>>=_)=_;refine Eq.trans (congrArg (· >>=_) (Eq.trans ?_ this)) ?_
 · congr 1
   try (funext x cs;obtain⟨a,b⟩:=x;dsimp only;split<;>rfl)
 · rfl
theorem zk6:∀{seen:LN},iR Ω.nms.length i f l seen=true->q∈l->look l q.1=some q.2:=by
 induction l with
 |nil=>exact λU h=>nomatch h
 |cons a l d=>
  intro seen b c;have b:=(zjx b).2.2.2;show cs (Nat.beq a.1 q.1) (some a.2) (look l q.1)=_;rcases Qe c with e|c
  · rw[e,Nat.beq_refl];rfl
  · cases z:Nat.beq a.1 q.1 with
    |true=>exact absurd (aN z▸.head _) (cE b (d b c)).2.1
    |false=>exact d b c
theorem zvh(S:kA Ω A c b f a h s)(k:Kp Ω b f h s m u):kA Ω A c b f a m u:=by
 cases a with
 |items T=>exact zd8.kp S k
 |gen T=>exact⟨S.1,qU.kp S.2 k⟩
 |live n i=>obtain⟨l,M,B,rfl,rfl⟩:=S;exact⟨l,k.ext _ _ M,B.at λo e=>k.keep c (.head _) o e,rfl,rfl⟩

structure CIt(Ω:Bx)(A:Around)(T:Expr)(P:Addr->List Addr->Src->Rho->Shared->Prop):Prop where
 step:∀{ea ads src ρ hp s o} {Q:Option Value->Shared->Prop} {E:Value->Shared->Prop},P ea ads src ρ s->HS Ω ρ hp s->pZ src hp=some o->(o=none->∀s',Ch ads [] s s'->Q none s')->
  (∀x src',o=some (x,src')->∀v s1,(∀(Q':Unit->Shared->Prop) (E':Value->Shared->Prop),(∀s',Ch ads [] s s'->VR ρ s'.heap x v->P ea ads src' ρ s'->Q' () s')->wpAny Ω.M A (letOwnedTupleGo T (.ref ea) v) Q' E' s1)->Q (some v) s1)->wpAny Ω.M A (pyNext (.ref ea)) Q E s
 kp:∀{ea ads src ρ s ρ' s'},P ea ads src ρ s->Kp Ω ads [] ρ s ρ' s'->P ea ads src ρ' s'
 live:∀{ea ads src ρ s},P ea ads src ρ s->∀a∈ads,∃o,s.heap.get? a=some o/\¬Imm o
noncomputable def yhf(Ω:Bx)(A:Around)(it:Addr)(a:List Addr)(src:Src)(ρ:Rho)(s:Shared):Prop:=kA Ω A it a [] src ρ s/\Al it a s
theorem zfv(p:A.handled=none)(T:Expr):CIt Ω A T (yhf Ω A):=by
 refine⟨λS H e s g=>zks p H e S.1 s λx b z v u c m R t=>g x b z v u λw E' q=>?_,λS k=>⟨zvh S.1 k,λa l=>(S.2.al a l).elim λo h=>⟨o,k.keep a l o h.1,h.2⟩,?_,S.2.mem⟩,λS=>S.2.al⟩
 · obtain⟨f,j,i,r,n⟩:=m.own
   exact qA i r n (q u c R ⟨t,m⟩)
 · obtain⟨f,j,i,h⟩:=S.2.own
   exact⟨f,j,k.keep _ S.2.mem f i,h⟩
noncomputable def zuv(ρ:Rho)(h:Heap)(a:Addr)(xs:List V):Prop:=∃ys k,h.get? a=some (bZ ys k)/\VRs ρ h xs ys
structure CB where
 P:Addr->List Addr->Src->Rho->Shared->Prop
 ia:Addr
 ads:List Addr
 dd:Addr
 cc:Addr
structure CF(Ω:Bx)(D:Dx)(s:Shared)(B:CB):Prop where
 fr:∀a∈B.ads,s.heap.get? a=none
 d0:s.heap.get? B.dd=none
 c0:s.heap.get? B.cc=none
 da:B.dd∉B.ads
 ca:B.cc∉B.ads
 cd:B.cc≠B.dd
structure CI(Ω:Bx)(B:CB)(ρ:Rho)(s:Shared)(ρ5:Rho)(hp5:Hp)(src:Src)(acc:List V)(s5:Shared):Prop where
 H:HS Ω ρ5 hp5 s5
 G:Go [] ρ s ρ5 s5
 S:B.P B.ia B.ads src ρ5 s5
 out:∀a∈B.ads,a∉ρ5.flatten
 ls:zuv ρ5 s5.heap B.dd acc
 dn:B.dd∉ρ5.flatten
 N:∃m,s5.heap.Ns B.cc m
 cn:B.cc∉ρ5.flatten
section
variable{B:CB}{s5 s8:Shared}
theorem rF(x:zuv c s5.heap a f)(k:∀o,s5.heap.get? a=some o->s8.heap.get? a=some o)(e:Ext c b)(i:hJ s5.heap s8.heap):zuv b s8.heap a f:=by obtain⟨h,n,M,j⟩:=x;exact⟨h,n,k _ M,VRs.mono e i _ _ j⟩
theorem nK(x:∃m,s5.heap.Ns a m)(k:∀o,s5.heap.get? a=some o->s8.heap.get? a=some o):∃m,s8.heap.Ns a m:=by obtain⟨m,o,D,e,c,b⟩:=x;exact⟨m,o,D,e,k o c,b⟩
theorem CI.go(I:CIt Ω A T B.P)(c:CI Ω B l s i m j k s5)(G:Go [] i s5 b s8)(H:HS Ω b hp8 s8):CI Ω B l s b hp8 j k s8:=
 ⟨H,c.G.trans0 G,I.kp c.S ⟨G.Ext,G.imm,λa f o e=>G.keep a o e (c.out a f) nofun,nofun,H.gens,λU=>H.tk,H.base⟩,λa f=>(I.live c.S a f).elim λU h=>G.notIn h.1 (c.out a f),rF c.ls (λo e=>G.keep _ o e c.dn nofun) G.Ext G.imm,
  c.ls.elim λU h=>h.elim λU h=>G.notIn h.1 c.dn,nK c.N λo e=>G.keep _ o e c.cn nofun,c.N.elim λU h=>(lJ h).elim λU h=>G.notIn h.1 c.cn⟩
theorem CI.ch(c:CI Ω B j s b f k n s5)(h:Ch X [] s5 s8)(H:HS Ω b f s8)(l:∀a∈X,s.heap.get? a=none)(S:B.P B.ia B.ads e b s8)(L:zuv b s8.heap B.dd i)(N:∃m,s8.heap.Ns B.cc m):CI Ω B j s b f e i s8:=
 ⟨H,wD c.G h l nofun,S,c.out,L,c.dn,N,c.cn⟩
theorem zvz(h:Ch X [] s5 s8)(H:HS Ω b c s8)(j:∀a∈B.ads,a∉X):Kp Ω B.ads [] b s5 b s8:=⟨Ext.refl _,h.imm,λa f o e=>h.keep a o e (j a f),nofun,H.gens,λU=>H.tk,H.base⟩
theorem zS(a:VRs e h c f)(b:VR e h x u):VRs e h (c++[x]) (f++[u]):=VRs.append a (VRs.cons b VRs.nil)
theorem CI.add(I:CIt Ω A T B.P)(f:CF Ω D s B)(c:CI Ω B z s i n m l s5)(J:Ω.h₀.get? B.dd=none)(R:VR i s5.heap x u)(C:l.length≤65536)
 (hQ:∀v r,CI Ω B z s i n m (l++[x]) r->Q v r):wpAny Ω.M A (call (.builtin "list.append") [.ref B.dd,u]) Q E s5:=by
 obtain⟨d,k,y,w⟩:=c.ls;refine wpAny_list_append_plain ⟨k,y⟩ (λp b j=>?_) (by rw[sizeLine_eq,List.size_toArray,w.len];exact Qi C (show 65536≤16777216 by decide));obtain⟨g,b⟩:=b;have h:Ch [B.dd] [] s5 {s5 with heap:=p}:=oV (t:=s5.toks) y jJ j c.H.gens;have H:=nP c.H h (dO c.dn) (dO J);exact hQ _ _ (c.ch h H (dO f.d0) (I.kp c.S (zvz h H λa Y q=>f.da (Qf q▸Y))) ⟨d++[u],g,by simpa using b,zS (VRs.mono (Ext.refl _) h.imm _ _ w) (VR.mono (Ext.refl _) h.imm _ _ R)⟩ (nK c.N λo e=>h.keep _ o e λq=>f.cd (Qf q)))
theorem zp0(C:CT Ω G Rm)(I:CIt Ω D.A T B.P)(f:CF Ω D s B)(hB:∀a,s.heap.get? a=none->Ω.h₀.get? a=none)(hF:∀a∈D.fa,s.heap.get? a≠none)(Ie:EOk Ω G Rm e)(It:∀c∈p,TOk Ω G Rm c)
 (w2:iR Ω.nms.length D.sc ts i []=true) (hts:∀x∈ts,x<Ω.nms.length/\look i x=some 0) (w6:wE Ω.nms.length i e=true) (w7:wEs Ω.nms.length i p=true) (K:KN Ω D.env D.sc) (hA:Rm D.A) {x:V} {v:Value} {o:Option V×Hp}
 (j:eE (λE=>ev G E e) ts (λE=>trA G E p) (flr i E) x hp5=some o) (c:CI Ω B ρ s r hp5 src k s5) (F:FR Ω D.env D.fa E r s5) (R:VR r s5.heap x v) (hl:k.length≤65536) {Z:Shared->Prop} {E':Value->Shared->Prop}
 (hQ:∀n s9,CI Ω B ρ s n o.2 src (k++lA o.1 []) s9->Z s9):
 wpAny Ω.M D.A (assign (tgC (aA Ω) ts tps tp) (inE Ω D.env i B.cc) v) (λU d=>wpAny Ω.M D.A (zco Ω (inE Ω D.env i B.cc) p) (λok l=>
  if ok=true then wpAny Ω.M D.A (eval (tE (aA Ω) e) (inE Ω D.env i B.cc)) (λx Q=>wpAny Ω.M D.A (call (.builtin "list.append") [.ref B.dd,x]) (λU t=>Z t) E' Q) E' l else Z l) E' d) E' s5:=by
 refine aB j λfl1 qb j=>?_;refine aB j λb qt j=>?_;obtain⟨m,hm⟩:=c.N;have hc0:B.cc∉D.fa:=λq=>hF _ q f.c0;refine zog (D:=⟨inE Ω D.env i B.cc,i,B.cc::D.fa,D.A,E'⟩) C (hB _ f.c0) hts qb ⟨zsj C K w2 B.cc,hA,c.H,znb C K w2 F hm hc0 c.cn⟩ R λs7 g=>?_;have J:Ch [B.cc] [] s5 s7:=g.c;have i7:=c.ch J g.h.H (dO f.c0) (I.kp c.S (zvz J g.h.H λa ha q=>f.ca (Qf q▸ha))) (rF c.ls (λo e=>J.keep _ o e λq=>f.cd (Qf q).symm) (Ext.refl _) J.imm) (g.h.F.ns.elim λm h=>⟨m,h.1⟩);refine zi1 It w7 g.h qt λn s8 h8 G8=>?_;have i8:=i7.go I G8 h8.H;cases z:b.1 with
 |false=>rw[z] at j;rw[if_neg Bool.false_ne_true];have q:=prf j;exact hQ n s8 (by rw[←q,show k++lA none []=k from List.append_nil k];exact i8)
 |true=>rw[z] at j;rw[if_pos rfl];refine aB j λy qe j=>?_;refine aB j λw qw j=>?_;exact Ie w6 h8 qe λY s9 u h9 G9 R9=>(i8.go I G9 h9.H).add I f (hB _ f.d0) (rvV qw R9) hl λU s10 i10=>hQ Y s10 (by rw[←prf j];exact i10)
noncomputable def ycf(Ω:Bx)(B:CB)(ρ:Rho)(s:Shared)(f:V->Hp->Option (Option V×Hp))(vs:List V)(h2:Hp)(n:Nat)(s5:Shared):Prop:=
 ∃e c a acc b,cJ f n a c=some (b,h2)/\vs=acc++b/\CI Ω B ρ s e c a acc s5
noncomputable def zh6(Ω:Bx)(B:CB)(ρ:Rho)(s:Shared)(vs:List V)(h2:Hp)(s':Shared):Prop:=∃a,HS Ω a h2 s'/\Go [] ρ s a s'/\RVR Ω a s s' (.l vs) (.ref B.dd)/\(∃m,s'.heap.Ns B.cc m)/\B.cc∉a.flatten
theorem ybs(f:CF Ω D s B)(t:∀a,s.heap.get? a=none->Ω.h₀.get? a=none)(b:i.length≤65536)(c:CI Ω B n s j l q i s5)(h:Ch B.ads [] s5 s8):zh6 Ω B n s i l s8:=by obtain⟨p,k,u,m⟩:=rF c.ls (λo e=>h.keep _ o e f.da) (Ext.refl _) h.imm;exact⟨j,nP c.H h c.out λa r=>t _ (f.fr a r),wD c.G h f.fr nofun,⟨B.dd,p,k,rfl,u,m,m.len▸Qy b,f.d0,c.dn⟩,nK c.N λo e=>h.keep _ o e f.ca,c.cn⟩
theorem zgq(a:List V)(o:Option V)(l:List V):a++lA o l=a++lA o []++l:=by rw[List.append_assoc];cases o<;>rfl
theorem zjz(C:CT Ω E Rm)(I:CIt Ω D.A (tgC (aA Ω) Q tps tp) B.P)(f:CF Ω D s B)(Ie:EOk Ω E Rm e)(It:∀c∈p,TOk Ω E Rm c)
 (w2:iR Ω.nms.length D.sc Q b []=true) (hts:∀x∈Q,x<Ω.nms.length/\look b x=some 0) (w6:wE Ω.nms.length b e=true) (w7:wEs Ω.nms.length b p=true) (h:Here Ω Rm D j hp T s) {h2:Hp} (t:Y.length≤65536) {n:Nat} {E':Value->Shared->Prop}
 (i:ycf Ω B T s (eE (λj=>ev E j e) Q (λj=>trA E j p) (flr b j)) Y h2 n s5) {N:Shared->Prop} (hN:∀s',zh6 Ω B T s Y h2 s'->N s'):
 zwl Ω.M D.A (tgC (aA Ω) Q tps tp) (inE Ω D.env b B.cc) (zco Ω (inE Ω D.env b B.cc) p) (eval (tE (aA Ω) e) (inE Ω D.env b B.cc)) (.ref B.ia) (.ref B.dd) N
  (λd=>∃m,m<n/\ycf Ω B T s (eE (λj=>ev E j e) Q (λj=>trA E j p) (flr b j)) Y h2 m d) E' s5:=by
 obtain⟨ρ5,hp5,src5,g,rest,k,y,c⟩:=i;cases n with
 |zero=>exact nn k
 |succ n=>
  refine aB k λo qn k=>?_;cases o with
  |none=>have q:=Prod.mk.inj (prf k);rw[←q.1,List.append_nil] at y;exact I.step c.S c.H qn (λU s6 u=>hN s6 (q.2▸y▸ybs f (base_none h.H) (y▸t) c u)) λx r z=>nn z
  |some w=>
   refine aB k λo qf k=>?_;refine aB k λl ql k=>?_;have q:=Prod.mk.inj (prf k);rw[←q.1] at y;refine I.step c.S c.H qn (λz=>nn z.symm) λx r z v s1 hl=>hl _ _ λs6 u R6 S6=>?_;have zz:=Prod.mk.inj (prf z);have i6:=c.ch u (nP c.H u c.out λa ha=>h.H.base_none (f.fr a ha)) f.fr S6 (rF c.ls (λo e=>u.keep _ o e f.da) (Ext.refl _) u.imm) (nK c.N λo e=>u.keep _ o e f.ca);exact zp0 C I f (base_none h.H) (λa ha z=>(h.F.live a ha).elim λU h=>sn z h.1) Ie It w2 hts w6 w7 h.K h.A (zz.1▸qf) i6 (h.F.go i6.G) R6 (Qi (by rw[y,List.length_append];exact Nat.le_add_right _ _) t)
    λJ s9 i9=>⟨n,Nat.lt_succ_self n,J,o.2,r,g++lA o.1 [],l.1,q.2▸zz.2▸ql,y.trans (zgq g o.1 l.1),i9⟩
end
theorem zep(C:CT Ω E Rm)(c:iR Ω.nms.length f e a []=true)(j:(n,k)∈scN (aA Ω) a):∃q:Nat×Nat,look a q.1=some q.2/\aA Ω q.1=n/\gS q.2=k:=
 (List.mem_map.mp j).elim λq b=>⟨q,zk6 c b.1,(Prod.mk.inj b.2).1,(Prod.mk.inj b.2).2⟩
theorem zx4(C:CT Ω E Rm)(b:iR Ω.nms.length h f a []=true)(j:(n,k)∈scN (aA Ω) a)(e:k= .local):List.lookup n (scN (aA Ω) a)=some .local:=by obtain⟨q,c,M,B⟩:=zep C b j;rw[←M,zhd C.inj b (cE b c).1,c];exact congrArg some (B.trans e)
theorem zrb(C:CT Ω E Rm)(b:iR Ω.nms.length h f a []=true)(j:(n,k)∈scN (aA Ω) a)(c:k= .cell):False:=by obtain⟨q,e,M,B⟩:=zep C b j;rw[c] at B;rcases(cE b e).2.2 with z|⟨z,_⟩|z<;>(rw[z] at B;exact nomatch B)
theorem zle(B:HS Ω x J s)(I:CIt Ω A T P)(d:P g j y x s)(l:u=bZ [] 0)(c:s.heap.objs.size=a)(r:(s.heap.push u).objs.size=i)
 (D:t.Ns i m) {z:Obj} (k:Heap.SameBut i ((s.heap.push u).push z) t):Up s t/\t.get? a=some (bZ [] 0)/\s.heap.get? a=none/\s.heap.get? i=none/\a∉j/\i∉j/\i≠a:=by
 have n:i=a+1:=by rw[←r,Heap.size_push,c]
 have v:s.heap.get? a=none:=c▸dK s;have w:i≠a:=λq=>Nat.succ_ne_self a (n.symm.trans q);have p:s.heap.get? i=none:=iA (o:=(none:Option Obj)) (λo e=>absurd (Nat.lt_of_lt_of_eq (Qw e) c) (Nat.not_lt.mpr (n▸Qt a))) rfl;have f:∀b,s.heap.get? b=none->b∉j:=λb Q H=>(I.live d b H).elim λU h=>sn Q h.1;exact⟨λb o e=>(k.2 b λq=>sn p (q▸e)).trans (Qc _ (Qc _ e)),l▸(k.2 a (Ne.symm w)).trans (Qc _ (c▸Qk _ (l▸rfl))),v,p,f _ v,f _ p,w⟩
theorem pM(C:CT Ω J Rm){e H:FE}{z y:LN}{tp:Nat}{r:List FE}{p:Nat}{src:Src}{h1 h2:Hp}{N:List V}{P:Addr->List Addr->Src->Rho->Shared->Prop}(Ie:EOk Ω J Rm e)(It:∀c∈r,TOk Ω J Rm c)
 (W:wE Ω.nms.length D.sc (.comp e z y tp H r j p)=true) (I:CIt Ω D.A (tgC (aA Ω) z y tp) P)
 (hIt:∀{Q:Value->Shared->Prop} {E':Value->Shared->Prop},(∀l u ea k,HS Ω l h1 u->Go [] ρ s l u->P ea k src l u->(∀a∈k,a∉l.flatten)->(∀a∈k,s.heap.get? a=none)->uI Ω D.A ea k u->Q (.ref ea) u)->wpAny Ω.M D.A (eval (tE (aA Ω) H) D.env) (λv u=>wpAny Ω.M D.A (pyIter v) Q E' u) D.E s)
 (e3:cJ (eE (λw=>ev J w e) z (λw=>trA J w r) (flr j w)) (mA src h1) src h1=some (N,h2)) (hfit:N.length≤65536) (h:Here Ω Rm D w hp ρ s) {use:Option (Value->Sem Unit)} {Q:Value->Shared->Prop}
 (hQ:∀s' B,CF Ω D s B->zh6 Ω B ρ s N h2 s'->compPost Ω.M D.A D.E use Q (.ref B.dd) B.cc (.ok .next) s'):
 WP Ω D (comprehension (tE (aA Ω) (.comp e z y tp H r j p)) (scF (aA Ω) j) D.env (tE (aA Ω) H).pos (newList []) false (eval (tE (aA Ω) H) D.env) use) Q s:=by
 have g:=aF (aF W).2;have W4:=aF (aF (aF g.2).2).2;have w6:=aF W4.2;have hts:∀x∈z,x<Ω.nms.length/\look j x=some 0:=λx T=>have q:=zmm (uE (aF g.2).1 x T);⟨(cE g.1 q).1,q⟩;refine wpAny_comprehension_free (cl:=clo Ω D.env j []) (use:=use) rfl (wG _ H _) (zd4 h.K g.1) rfl (λp T hk=>zx4 C g.1 T hk) ?_;refine hIt λl u ia k G G1 hP hOut hFr d=>?_;refine wpAny_newObj_type (hd:=by size_fits) (wpAny_newFunctionEnv (λp T hk=>zrb C g.1 T hk) nofun (λh3 Y hsb=>?_) rfl);have m:=zle G I hP rfl rfl rfl Y hsb;have f:CF Ω D s ⟨P,ia,k,_,_⟩:=⟨hFr,G1.none m.2.2.1,G1.none m.2.2.2.1,m.2.2.2.2.1,m.2.2.2.2.2.1,m.2.2.2.2.2.2⟩;have start:codeAny Ω.M D.A (.compLoop (tE (aA Ω) (.comp e z y tp H r j p)) 0 (.ref ia) (.ref _) (inE Ω D.env j _)) (compPost Ω.M D.A D.E use Q (.ref _) _) {u with heap:=h3}:=
  yW (ycf Ω ⟨P,ia,k,_,_⟩ ρ s (eE (λw=>ev J w e) z (λw=>trA J w r) (flr j w)) N h2) (λn s5 i=>zjz C I f Ie It g.1 hts w6.1 w6.2 h hfit i λs' c=>hQ s' _ f c) (mA src h1)
   ⟨l,h1,src,[],N,e3,rfl,G.heap (t:=u.toks) m.1 G.tk,mO G1 (t:=u.toks) m.1,I.kp hP ⟨Ext.refl _,λb o e U=>m.1 b o e,λa U o e=>m.1 a o e,nofun,G.gens,id,λb o e=>m.1 b o (G.base b o e)⟩,hOut,⟨[],0,m.2.1,VRs.nil⟩,G.notIn m.2.2.1,⟨_,Y⟩,G.notIn m.2.2.2.1⟩
 exact codeAny_compStart_list start (d _ (λa ha o e=>m.1 a o e) _ _ start)
end

section

theorem zx6(R:RVR N f Y s r v)(c:Ch e m s u)(i:∀T,r= .l T->∀a,v= .ref a->a∉e)(k:∀T,r≠.g T):RVR N f Y u r v:=by
 cases r with
 |v x=>exact VR.mono (Ext.refl _) c.imm _ _ R
 |l T=>obtain⟨a,G,n,q,j,b,h⟩:=R;exact⟨a,G,n,q,c.keep _ _ j (i T rfl a q),VRs.mono (Ext.refl _) c.imm _ _ b,h⟩
 |g T=>exact absurd rfl (k T)
theorem zru{s a:Src}(h:zay s=some a):s=a/\∀T,a≠.gen T:=by
 cases s with
 |items T=>exact prf h▸⟨rfl,nN⟩
 |live n i=>exact prf h▸⟨rfl,ze5⟩
 |gen T=>exact nn h
theorem zn0{e m:FE}{j i:LN}{n:Nat}{f:List FE}{c:List (Nat×Nat)}{p:Nat}{r:RV×Hp}(h:ev E I (.comp e j i n m f c p) J=some r){G:Prop}
 (k:∀(b:RV×Hp) (a:Src) (x:List V×Hp),ev E I m J=some b->zqs b.1 b.2=some a->cJ (eE (λI=>ev E I e) j (λI=>trA E I f) (flr c I)) (mA a b.2) a b.2=some (x.1,x.2)->x.1.length≤65536->(.l x.1,x.2)=r->G):G:=by
 refine aB h λb M h=>?_;refine aB h λa B h=>?_;refine aB h λx A h=>?_;refine aJ h λo h=>?_;exact k b a x M B A (aK x.1▸cG o) (prf h)
theorem zjn(C:CT N o Rm)(G:EOk N o Rm i)(W:wE N.nms.length D.sc i=true)(h:Here N Rm D I J u s)(d:ev o I i J=some r)(m:zqs r.1 r.2=some f)
 (g:∀b e l c,HS N b r.2 e->Go [] u s b e->yhf N D.A l c f b e->(∀a∈c,a∉b.flatten)->(∀a∈c,s.heap.get? a=none)->uI N D.A l c e->Q (.ref l) e):wpAny N.M D.A (eval (tE (aA N) i) D.env) (λv e=>wpAny N.M D.A (pyIter v) Q E' e) D.E s:=by
 refine aB m λT m y=>?_;obtain⟨q,w⟩:=zru y;exact G W h d λb e v j p B=>zfd (λA h=>(C.rm A h).1) C.wk h.A j.H (dA p).n (q▸m) B λx c gi Y k M=>have z:=M.ng w;g b _ x c (j.H.heap (t:=e.toks) k j.H.tk) (mO p (t:=e.toks) k) ⟨z▸M.at_,M.ad.al⟩ M.ad.out M.ad.fresh M.self
theorem zfy{B:CB}{k:List V}{p:Hp}(f:CF N D s B)(h:Here N Rm D I J j s)(c:zh6 N B j s k p u):∃m,u.heap.Ns B.cc m/\∀e,Heap.SameBut B.cc u.heap e->∃b,Here N Rm D I p b {u with heap:=e}/\Go [] j s b {u with heap:=e}/\RVR N b s {u with heap:=e} (.l k) (.ref B.dd):=by obtain⟨b,H,G,R,⟨m,n⟩,y⟩:=c;obtain⟨o,w,x⟩:=lJ n;refine⟨m,n,λe v=>?_⟩;have i:Ch [B.cc] [] u {u with heap:=e}:=oV (t:=u.toks) w x v H.gens;have r:=wD G i (dO f.c0) nofun;exact⟨b,h.go r (nP H i (dO y) (dO (h.H.base_none f.c0))),r,zx6 R i (λT U a z q=>f.cd ((Qf q).symm.trans (Value.ref.inj z).symm)) λT h=>nomatch h⟩
theorem zts(C:CT N E Rm){e l:FE}{n i:LN}{o:Nat}{a:List FE}{j:List (Nat×Nat)}{p:Nat}(Q:EOk N E Rm l)(d:EOk N E Rm e)(D:∀c∈a,TOk N E Rm c):EOk N E Rm (.comp e n i o l a j p):=
 λW h H g=>zn0 H λI r x z y w v q=>pM C d D W (zfv (C.rm _ h.A).1 _) (zjn C Q (aF W).1 h z y) w v h (use:=none) λG B f c=>by obtain⟨m,t,k⟩:=zfy f h c;exact⟨m,t,λu s=>(k u s).elim λb k=>g b _ _ (q▸k.1) k.2.1 (q▸k.2.2)⟩

theorem yb5:∀{J:Hp} {b:Bool×Hp} {ρ:Rho} {s:Shared} {p:Pos} {whole:Sem Value} {Q:Bool->Shared->Prop},(∀c∈a,TOk N E Rm c)->wEs N.nms.length D.sc a=true->Here N Rm D j J ρ s->trA E j a J=some b->
 zcb N Rm D j ρ s b Q->WP N D (isTrue (.BoolOp .And (tEs (aA N) a) p) D.env whole) Q s:=by
 induction a with
 |nil=>exact λU U h e g=>by cases prf e;exact isTrue_and_nil (g _ _ h (Go.refl _ _ _))
 |cons c r d=>
  intro J b ρ s p whole Q I W h e g;refine aB e λx q e=>?_;refine isTrue_and (I c (.head _) (aF W).1 h q λi m M k=>?_);cases z:x.1 with
  |true=>rw[z] at e;exact(if_pos rfl).symm▸d (λc h=>I c (.tail _ h)) (aF W).2 M e λf l B n=>g f l B (k.trans0 n)
  |false=>rw[z] at e;cases prf e;exact(if_neg Bool.false_ne_true).symm▸g i m M k
theorem ye0:∀{J:Hp} {b:Bool×Hp} {ρ:Rho} {s:Shared} {p:Pos} {whole:Sem Value} {Q:Bool->Shared->Prop},(∀c∈a,TOk N E Rm c)->wEs N.nms.length D.sc a=true->Here N Rm D j J ρ s->trO E j a J=some b->
 zcb N Rm D j ρ s b Q->WP N D (isTrue (.BoolOp .Or (tEs (aA N) a) p) D.env whole) Q s:=by
 induction a with
 |nil=>exact λU U h e g=>by cases prf e;exact isTrue_or_nil (g _ _ h (Go.refl _ _ _))
 |cons c r d=>
  intro J b ρ s p whole Q I W h e g;refine aB e λx q e=>?_;refine isTrue_or (I c (.head _) (aF W).1 h q λi m M k=>?_);cases z:x.1 with
  |true=>rw[z] at e;cases prf e;exact(if_pos rfl).symm▸g i m M k
  |false=>rw[z] at e;exact(if_neg Bool.false_ne_true).symm▸d (λc h=>I c (.tail _ h)) (aF W).2 M e λf l B n=>g f l B (k.trans0 n)
theorem oC(a:Nat->Str)(o:CmpOp)(e:FE):behindInMarks o (tE a e)=false:=by cases e<;>rfl
theorem oJ{a b:FE}{x y:RV×Hp}(v:EOk N E Rm a)(u:EOk N E Rm b)(W:aH (wE N.nms.length D.sc a) (wE N.nms.length D.sc b)=true)(h:Here N Rm D I J o s)(q:ev E I a J=some x)(p:ev E I b x.2=some y){P:Value->Value->Shared->Prop}
 (k:∀c e i f,Here N Rm D I y.2 c e->Go [] o s c e->RVR N c s e x.1 i->RVR N c s e y.1 f->P i f e):EV N D a (λi j=>EV N D b (λf e=>P i f e) j) s:=
 v (aF W).1 h q λn j i M m t=>u (aF W).2 M p λc e f B l r=>k c e i f B (m.trans0 l) (t.go l) (pV (dA m) r)
theorem yat{c:Type}{a b:EvT}{k:RV->RV->Hp->Option c}{r:c}(h:h2 a b k J=some r){G:Prop}(f:∀x y,a J=some x->b x.2=some y->k x.1 y.1 y.2=some r->G):G:=by refine aB h λx M h=>?_;refine aB h λy h2 h=>?_;exact f x y M h2 h
theorem zc3{o:Option RV}{r:RV×Hp}(h:same J o=some r){G:RV×Hp->Prop}(f:∀x,o=some x->G (x,J)):G r:=by refine aB h λx M h=>?_;exact prf h▸f x M
theorem zoi(u:EOk N E Rm a)(t:EOk N E Rm b):EOk N E Rm (.bin o a b p):=
 λ{D I J r i s Q} W h l g=>yat (show h2 _ _ (za9 o) J=some r from l) λx y k j c=>wpAny_BinOp (oJ u t W h k j λf A w v h2 e q m=>zc3 (G:=λr=>uJ N Rm D I i s r Q->wpAny _ _ _ _ _ _) c (λz c g=>cM h2.H.tk (zoa h2.H (dA e).n c q m (lK (r:=(z,_)) h2 e g))) g)
theorem zi3{o:CmpOp}{a b:FE}{r:Bool×Hp}(h:hS o (ev E I a) (ev E I b) J=some r){G:Bool×Hp->Prop}(f:∀x y z,ev E I a J=some x->ev E I b x.2=some y->cY o x.1 y.1 y.2=some z->G (z,y.2)):G r:=
 yat (show h2 _ _ (jM o) J=some r from h) λx y i e c=>by refine aB c λz c q=>?_;exact prf q▸f x y z i e c
theorem ybm(C:CT N E Rm){o:CmpOp}{a b:FE}{p:Nat}(u:EOk N E Rm a)(t:EOk N E Rm b):EOk N E Rm (.cmp o a b p):=λ{D T M r d s Q} W h f g=>by refine aB f λe f q=>?_;refine zi3 (G:=λe=>(RV.v (.bool e.1),e.2)=r->EV N D _ Q s) f (λx y z l k j q=>wpAny_Compare1 (oJ u t W h l k λc i J I B w n m=>zb1 B.H (C.rm _ h.A).2 j n m (g c i _ (q▸B) w (q▸rfl))) (oC _ _ _)) (prf q)
theorem zp5(C:CT N E Rm){o:CmpOp}{a b:FE}{p:Nat}(t:EOk N E Rm a)(q:EOk N E Rm b):TOk N E Rm (.cmp o a b p):=λ{D I J r e s Q} W h l g=>
 zi3 (G:=λr=>zcb N Rm D I e s r Q->WP N D _ Q s) l (λx y z k j i g=>wpAny_isTrue_Compare1 (oJ t q W h k j λc f w v B u n m=>zb1 B.H (C.rm _ h.A).2 i n m (wpAny_truthy_bool (g c f B u))) (oC _ _ _)) g
theorem yan(m:TOk N E Rm t)(o:EOk N E Rm a)(n:EOk N E Rm b):EOk N E Rm (.ife t a b p):=λ{D I J r q s Q} W h H g=>by
 refine aB H λx l H=>?_;have w:=aF (aF W).2;refine IfExp_ (m (aF W).1 h l λk u M e=>?_);cases z:x.1 with
 |true=>rw[z] at H;exact(if_pos rfl).symm▸o w.1 M H λc f v B j i=>g c f v B (e.trans0 j) (pV (dA e) i)
 |false=>rw[z] at H;exact(if_neg Bool.false_ne_true).symm▸n w.2 M H λc f v B j i=>g c f v B (e.trans0 j) (pV (dA e) i)
theorem zvt{D:List FE}{k:List V->RV}{r:RV×Hp}(h:(bd (evs E I D J) λx=>bd (dT x.1 x.2) λy=>some (k y.1,y.2))=some r){G:Prop}(f:∀x y,evs E I D J=some x->dT x.1 x.2=some y->(k y.1,y.2)=r->G):G:=by refine aB h λx M h=>?_;refine aB h λy B h=>?_;exact f x y M B (prf h)
theorem zau{e:List FE}{x:List RV×Hp}{y:List V×Hp}(I:∀c∈e,EOk N E Rm c)(W:aH (aM (len e)) (wEs N.nms.length D.sc e)=true)(h:Here N Rm D k J o s)(j:evs E k e J=some x)(q:dT x.1 x.2=some y){i:Pos}{Q:List Value->Shared->Prop}
 (g:∀a f b,Here N Rm D k y.2 a f->Go [] o s a f->VRs a f.heap y.1 b->b.length≤65536->b.length≤sizeLine/\Q b f):WP N D (spliced (backTo i (starEach (tEs (aA N) e) D.env))) (λG s=>G.length≤sizeLine/\Q G s) s:=
 zjo I (aF W).2 h j λn p b M t l=>by obtain⟨a,H2,m,r,_⟩:=wL M.H t (base_none h.H) (Lt.refl s) q l;exact g a p b (h.go m H2) m r (by rw[l.len,←aK,zfq j];exact cG (aF W).1)
theorem sK(h:n≤65536):n≤sizeLine:=by rw[sizeLine_eq];exact Qi h (show 65536≤16777216 by decide)
theorem zr9{b:List FE}{p:Nat}(I:∀c∈b,EOk N E Rm c):EOk N E Rm (.list b p):=λ{D w J r u s Q} W h o g=>
 zvt (k:=RV.l) o λx y m j q=>wpAny_List (zau I W h m j λf i v B e t a=>⟨sK a,(show Q _ _ from rK (Ω:=N) B.H (dA e).n t (Qy a) (lK (r:=(.l y.1,y.2)) B e (q▸g)) i.toks B.H.tk)⟩)
theorem tup_ok'{f:List FE}{p:Nat}(I:∀c∈f,EOk N E Rm c):EOk N E Rm (.tup f p):=λ{D A J r z s Q} W h t g=>
 zvt (k:=λy=> .v (.tup y)) t λx y n m q=>wpAny_Tuple (zau I W h n m λi l j B w u a=>⟨sK a,(show Q _ _ from lK (r:=(.v (.tup y.1),y.2)) B w (q▸g) _ _ l.toks (λU U e=>Qc _ e)
  ⟨_,j,0,rfl,Qk _ rfl,VRs.mono (Ext.refl _) (λb o e U=>Qc _ e) _ _ u,a⟩ B.H.tk)⟩)
theorem zxm{a i:FE}{p:Nat}(v:EOk N c Rm a)(u:EOk N c Rm i):EOk N c Rm (.sub a i p):=λ{D I J r f s Q} W h n g=>
 yat (show h2 _ _ zz5 J=some r from n) λx y k j b=>Subscript_ (oJ v u W h k j λe C B d h2 w t q=>zc3 (G:=λr=>uJ N Rm D I f s r Q->wpAny _ _ _ _ _ _) b (λz b g=>by obtain⟨o,l,m⟩:=zjd (Ω:=N) (A:=D.A) (E:=D.E) h2.H b t q (lK (r:=(z,_)) h2 w g);exact xB o l (cM h2.H.tk m) (.inl (zgl _ _ _ _))) g)

theorem zj9{b:Rho}{h:Heap}{T:List Int}{G:List Value}(g:VRs b h (T.map V.int) G)(a:LN):VRs b h ((a.filterMap (T[·]?)).map V.int) ((a.filterMap (G.toArray[·]?)).toArray).toList:=by
 induction a with
 |nil=>exact VRs.nil
 |cons i a d=>
  simp only[List.filterMap_cons,List.getElem?_toArray] at d⊢;cases z:T[i]? with
  |none=>have l:G.length=T.length:=g.len.trans (List.length_map _);rw[List.getElem?_eq_none (l▸List.getElem?_eq_none_iff.mp z)];exact d
  |some x=>obtain⟨v,B,A⟩:=VRs.nth g (show nth (T.map V.int) i=some (.int x) by rw[bX,List.getElem?_map,z];rfl);rw[B];exact VRs.cons A d
theorem zab{x:RV}{y z:Option RV}{e:FE}{r:RV}(h:xF E x y z e=some r){G:Prop}(f:∀k st p a T,x= .v (.top a)->y=some (.v (.int k))->z=none->e= .int st p->look E.frz a=some T->0<st-> .l (vW T k st)=r->G):G:=by refine aB h λa M h=>?_;refine aB h λk B h=>?_;refine aJ h λA h=>?_;refine aB h λst b h=>?_;refine aB h λT j h=>?_;refine aJ h λi h=>?_;refine aB B λm B c=>?_;obtain⟨p,b⟩:=yla b;exact f k st p a T (zye M) (B.trans (congrArg some (zyg c))) (nL A) b j (Qa i) (prf h)
theorem xQ(I:∀x,o=some x->EOk N E Rm x)(W:wO N.nms.length D.sc o=true)(h:Here N Rm D b J a s)(e:evo E b o J=some y)
 (g:∀m u v,Here N Rm D b y.2 m u->Go [] a s m u->kO N m s u y.1 v->Q v u):WP N D (evalPart (tO (aA N) o) D.env) Q s:=by
 cases o with
 |none=>cases prf e;exact Qh (g a s _ h (Go.refl _ _ _) rfl)
 |some x=>refine aB e λr q e=>?_;cases prf e;exact I x rfl W h q g
theorem xS(R:kO N a Y s o v)(g:Go [] a s m u):kO N m Y u o v:=by
 cases o with
 |none=>exact R
 |some r=>exact RVR.go R g
theorem xR(l:Lt Y z)(R:kO N a z s o v):kO N a Y s o v:=by
 cases o with
 |none=>exact R
 |some r=>exact pV l R
theorem zqq(C:CT N cx Rm){x:RV}{y z:Option RV}{e:FE}{value:Expr}{lo hi:Option FE}{sp:Pos}{p w m:Value}{t:RV×Hp}{r:Tok}{Q:Value->Shared->Prop}{a:Nat}{p2:Nat}(q4:xF cx x y z e=some t.1)(he:e= .int a p2)(h:Here N Rm D fl t.2 i s)(G:Go [] c Y i s)(M:RVR N i Y s x p)(J:kO N i Y s y w)(I:kO N i Y s z m)(hQ:uJ N Rm D fl c Y t Q):
 WP N D (subscriptTail value (.Slice (tO (aA N) lo) (tO (aA N) hi) (tO (aA N) (some e)) sp) p (.ref s.heap.objs.size)) Q {s with heap:=s.heap.push {cls:= .type "slice",data:= .fields #[w,m,.int (.ofNat a) r]}}:=by
 refine zab q4 λk j p3 aa T ex ey ez ee hf l q=>?_;have es:a=j:=prf (congrArg eI (he.symm.trans ee));rw[←es] at l q;rw[ex] at M;rw[ey] at J;rw[ez] at I;obtain⟨f,⟨A,g0,g,nl,gd⟩,B,g3⟩:=C.frz _ _ hf;obtain⟨tl,e2⟩:=J;rw[show p= .ref aa from M,e2,show m= .none from I];have E:=h.H.base _ _ g0;refine xB ⟨A,Qc _ E,g⟩ PySem.F.slot_list_getitem.lookup ?_ (.inl rfl);have u:f.toArray.size=T.length:=by rw[List.size_toArray,(B [] N.h₀).len,List.length_map]
 refine wpAny_getItem_list_slice (items:=f.toArray) (vs:= .int (.ofNat a) r) (st:=some (.ofNat a)) ⟨A,Qc _ E,g,nl,gd⟩ ⟨_,Qk _ rfl,rfl,rfl⟩ (.int _ _) .none (.int _ _)
  (λz=>absurd (Int.ofNat.inj (Option.some.inj z)) (Nat.ne_of_gt l)) ?_ (by rw[sizeLine_eq];simp only[List.size_toArray];lia)
 have hx:VRs i s.heap (vW T k a) (slicePick f.toArray (some k) none (some (.ofNat a))).toList:=by unfold vW slicePick;rw[u];exact zj9 (B _ _) _
 have v:(slicePick f.toArray (some k) none (some (.ofNat a))).toList.length≤65537:=by rw[Array.length_toList];exact Qy (Qi (slicePick_size_le f.toArray (some k) none (some (.ofNat a))) (show f.toArray.size≤65536 from g3))
 have d:=lI (dZ (s.heap.push {cls:= .type "slice",data:= .fields #[.int k tl,.none,.int (.ofNat a) r]}));refine lK h G hQ _ _ s.toks (λU U e=>Qc _ (Qc _ e)) (q▸⟨_,(slicePick f.toArray (some k) none (some (.ofNat a))).toList,0,rfl,?_,
  VRs.mono (Ext.refl i) (λb o e U=>Qc _ (Qc _ e)) _ _ hx,v,(dA G).n _ d,h.H.notIn d⟩) h.H.tk
 exact Qk _ rfl
theorem ydm{a:FE}{c e b:Option FE}{q p:Nat}{r:RV×Hp}(h:ev E I (.sli a c e b q p) J=some r){G:Prop}(f:∀x y z,ev E I a J=some x->evo E I c x.2=some y->evo E I e y.2=some z->uU E b x.1 y.1 z.1 z.2=some r.1->z.2=r.2->G):G:=by refine aB h λx M h=>?_;refine aB h λy B h=>?_;refine aB h λz A h=>?_;refine aB h λw i h=>?_;cases prf h;exact f x y z M B A i rfl
theorem zxw(C:CT N f Rm){a:FE}{I J l:Option FE}{q p:Nat}(Ia:EOk N f Rm a)(Il:∀x,I=some x->EOk N f Rm x)(Ih:∀x,J=some x->EOk N f Rm x)(Is:∀x,l=some x->EOk N f Rm x):EOk N f Rm (.sli a I J l q p):=λ{D fl hp r ρ s Q} W h he M=>
 ydm he λx y z q1 q2 q3 m B=>by
  have w:=aF (aF W).2;have d:=aF w.2;refine Subscript_ (Ia (aF W).1 h q1 λρ1 s1 va h1 u R1=>wpAny_Slice (xQ Il w.1 h1 q2 λρ2 s2 vl h2 o R2=>xQ Ih d.1 h2 q3 λρ3 s3 vu e i Y=>?_));rw[B] at e;have b:=u.trans0 o;have G:=b.trans0 i;cases l with
  |none=>obtain⟨hT,hl,hg⟩:=zcx (Ω:=N) (A:=D.A) (E:=D.E) (Q:=λv g=>0<g.toks->Q v g) (s₀:=s) e.H (dA G).n (B▸m) ((R1.go o).go i) (xR (dA u) (xS R2 i)) (xR (dA b) Y) (lK e G M);exact Qh (xB hT hl (cM e.H.tk hg) (.inr rfl))
  |some e2=>refine zab m λk c p2 aa xs U U U T U U U=>?_;refine xQ Is d.2 (y:=(some (.v (.int (.ofNat c))),r.2)) e (by rw[T];rfl) λρ4 s4 vt h4 j R4=>?_;obtain⟨tt,e4⟩:=(show∃t,vt= .int (.ofNat c) t from R4);rw[e4];exact zqq C m T h4 (G.trans0 j) (((R1.go o).go i).go j) (xR (dA u) (xS (xS R2 i) j)) (xR (dA b) (xS Y j)) M
theorem zor(C:CT N E Rm){a:FE}{x p:Nat}(l:EOk N E Rm a):EOk N E Rm (.att a x p):=λ{D I J r e s Q} W h c g=>by
 refine aB c λy i c=>?_;have w:=aF (aF W).2;refine Attribute_any_ (l w.2 h i λb n v M m k=>zc3 (G:=λr=>uJ N Rm D I e s r Q->wpAny _ _ _ _ _ _) c (λz f g=>cM M.H.tk (C.att (jS (aF W).1) f M.H k λu t R j=>g b _ u (M.tok t j) (m.trans0 (Go.tok _ _ _ t)) (R.go (Go.tok _ _ _ t)))) g) ?_;show(do
  let o←attributeBase (tE (aA N) a) (aA N x) D.env (eval (tE (aA N) a) D.env)
  standAt (pos p).atName
  let r←holding [o] (getAttr o (aA N x) true)
  letTemporaryGo (tE (aA N) a) o r
  pure r)=_
 rw[iB w.1]
theorem kJ(j:sOk x):(St x).length≤sizeLine:=by rw[aQ];exact sK j.2
theorem yba(u:EOk N E Rm e):EOk N E Rm (.fmt e c p):=λ{D I J r z s Q} W h a g=>by
 refine aB a λx n a=>?_;refine aB a λt m a=>?_;cases prf a;have w:=aN (aF W).1;subst w;exact wpAny_FormattedValue_s (u (aF W).2 h n λb l v M y q=>rvS_e m q λA j=>
  cM M.H.tk (habitSame_str (λB f i=>cM (s:={l with toks:=f}) i (formatField_str (λd k o=>g b _ _ ((M.tok f i).tok k o) ((y.trans0 (Go.tok _ _ _ f)).trans0 (Go.tok _ _ _ k)) ⟨⟨_,rfl⟩,j⟩) (kJ j))) (kJ j)))
theorem zwf{r:RV}{c:List RV}{t:LN}(h:ztw (r::c)=some t){G:Prop}(f:∀a b,rS r=some a->ztw c=some b->a++b=t->G):G:=by refine aB h λa M h=>?_;refine aB h λb B h=>?_;exact f a b M B (prf h)
theorem zsk{c:List FE}:∀{J:Hp} {f:List RV×Hp} {t u:LN} {ρ:Rho} {s:Shared} {Q:Value->Shared->Prop},(∀e∈c,EOk N cx Rm e)->wEs N.nms.length D.sc c=true->Here N Rm D w J ρ s->evs cx w c J=some f->ztw f.1=some t->sOk u->(u++t).length≤65536->
 (∀m j v,Here N Rm D w f.2 m j->Go [] ρ s m j->VR m j.heap (.str (u++t)) v->Q v j)->WP N D (joinParts (St u) (evalEach (tEs (aA N) c) D.env)) Q s:=by
 induction c with
 |nil=>intro J f t u ρ s Q _ _ h e p k l g;cases prf e;cases prf p;rw[List.append_nil] at g;exact joinParts_nil (g ρ _ _ (h.tok _ (Qn _)) (Go.tok _ _ _ _) ⟨⟨_,rfl⟩,k⟩) (kJ k)
 |cons e c E=>intro J f t u ρ s Q I W h M p k l g;refine zby M λx xs C B q=>zwf (q▸p) λa b d H r=>joinParts_cons (I e (.head _) (aF W).1 h C λy A v Y G1 R1=>rvS_e d R1 λtk G=>?_);rw[←r,←List.append_assoc] at l;have o:(u++a).length≤65536:=Qi (by rw[List.length_append (as:=u++a)];exact Nat.le_add_right _ _) l;have i:sOk (u++a):=⟨jP k.1 G.1,o⟩;show(St u++St a).length≤sizeLine/\WP N D (joinParts (St u++St a) _) Q A;rw[gE];exact⟨kJ i,E (λe' h=>I e' (.tail _ h)) (aF W).2 Y B H i l λn z v T G2 R2=>g n z v (q▸T) (G1.trans0 G2) (by rw[←r,←List.append_assoc];exact R2)⟩
theorem zz6{f:List FE}{p:Nat}(I:∀c∈f,EOk N E Rm c):EOk N E Rm (.jst f p):=λ{D C J r Y s Q} W h H g=>by
 refine aB H λw m H=>?_;refine aB H λt l H=>?_;refine aJ H λd H=>?_;cases prf H;have B:=aK t▸cG d;have many:WP N D (joinParts (St []) (evalEach (tEs (aA N) f) D.env)) Q s:=zsk (u:=[]) I (aF W).2 h m l ⟨rfl,Qb _⟩ B g;cases f with
 |nil=>exact many
 |cons e f=>
  cases f with
  |nil=>refine zby (show evs E C [e] J=some w from m) λx xs A i q=>zwf (q▸l) λa b z k y=>?_;have i:=prf i;rw[←i] at k;have G:a=t:=(List.append_nil a).symm.trans (by rw[prf k];exact y);exact I e (.head _) (aF (aF W).2).1 h A λj o v M T n=>g j o v (by rw[←q,←i];exact M) T (by rw[sQ z,G] at n;exact n)
  |cons e' f=>exact many
theorem iS(I:EOk N E Rm e)(f:∀{fl J b},tr E fl e J=some b->uW (ev E fl e) J=some b)(J:∀C,isTrue (tE (aA N) e) C (eval (tE (aA N) e) C)=(do let v←eval (tE (aA N) e) C;standAt (tE (aA N) e).pos;holding [v] (truthy v))):TOk N E Rm e:=λ{D fl l b o s Q} W h c g=>by refine aB (f c) λr k c=>?_;refine aB c λt j c=>?_;cases prf c;exact isTrue_plain (I W h k λa i v M n m=>cM M.H.tk (zp1 M.H j m λt f=>g a _ (M.tok t f) (n.trans0 (Go.tok [] a i t)))) (J _)
theorem nZ(h:∀{C:Env} {s:Shared} {A:Around} {E Q:Value->Shared->Prop},Q (.bool b) s->wpAny N.M A (eval (tE (aA N) e) C) Q E s)(H:∀{fl J},ev f fl e J=some (.v (.bool b),J)):EOk N f Rm e:=λ{D fl J r a s Q} W c e g=>by cases prf (H.symm.trans e);exact h (g a s _ c (Go.refl _ _ _) rfl)
theorem znw(g:Q (.bool true) s):wpAny N.M A (eval (tE (aA N) (.dbg p)) C) Q E s:=by show wpAny _ _ (do standAt (pos p);if(Str.ofString "__debug__"==("__debug__":Str))=true then debugConstant else loadName C (Str.ofString "__debug__")) _ _ _;rw[if_pos (by decide)];exact Qg (wpAny_standAt (Qg (wpAny_rule (Qh g))))
theorem ziq(C:CT N E Rm):EOk N E Rm (.var x p):=λ{D I J r a s Q} W h H g=>by refine aB H λv q H=>?_;cases prf H;exact zE C q (aF W).2 h.K h.F λu R=>g a s u h (Go.refl _ _ _) R
theorem yav(C:CT N E Rm):EOk N E Rm (.glo x p):=λ{D I J r b s Q} W h a g=>by refine aB a λv q a=>?_;cases prf a;exact zea C q (zmm (aF W).2) h.K h.H h.F λu R=>g b s u h (Go.refl _ _ _) R
theorem yaj:EOk N E Rm (.int i p):=λ{D I J r a s Q} W h H g=>by cases prf H;exact wpAny_Constant_int (g a _ _ (h.tok _ (Qn _)) (Go.tok _ _ _ _) ⟨_,rfl⟩)
theorem zyy:EOk N E Rm (.neg a q p):=λ{D I J r b s Q} W h H g=>by cases prf H;exact UnaryOp_ (wpAny_Constant_int (neg_int (g b _ _ ((h.tok _ (Qn _)).tok _ (Qn _)) ((Go.tok _ _ _ _).trans0 (Go.tok _ _ _ _)) ⟨_,rfl⟩)))
theorem zxo:EOk N E Rm (.str t l p):=λ{D I J r a s Q} W h H g=>by cases prf H;obtain⟨c,b⟩:=zcs W;exact wpAny_Constant_str (g a _ _ (h.tok _ (Qn _)) (Go.tok _ _ _ _) ⟨⟨_,by rw[c]⟩,b⟩)
theorem zrt:EOk N E Rm (.none p):=λ{D I J r a s Q} W h H g=>by cases prf H;exact wpAny_Constant_none (g a s _ h (Go.refl _ _ _) rfl)
theorem zyv(e:TOk N E Rm a):TOk N E Rm (.not a p):=λ{D I J r i s Q} W h H g=>by refine aB H λx q H=>?_;cases prf H;exact isTrue_not (e W h q λb c M f=>zA x.1▸g b c M f)
theorem both(C:CT N E Rm)(e:FE):zuw N E Rm e:=
 FE.rec (motive_1:=λe=>zuw N E Rm e) (motive_2:=λD=>∀e∈D,zuw N E Rm e) (motive_3:=λo=>∀e,o=some e->zuw N E Rm e)
  (λp=>⟨zrt,λU U H U=>nn H⟩)
  (λp=>⟨nZ wpAny_Constant_bool rfl,iS (e:= .tru p) (nZ wpAny_Constant_bool rfl) (λh=>h) λU=>rfl⟩)
  (λp=>⟨nZ wpAny_Constant_bool rfl,λU U H U=>nn H⟩)
  (λi p=>⟨yaj,λU U H U=>nn H⟩)
  (λt l p=>⟨zxo,λU U H U=>nn H⟩)
  (λx p=>⟨ziq C,iS (e:= .var x p) (ziq C) (λh=>h) λU=>rfl⟩)
  (λx p=>⟨yav C,λU U H U=>nn H⟩)
  (λp=>⟨nZ znw rfl,iS (e:= .dbg p) (nZ znw rfl) (λh=>h) λU=>rfl⟩)
  (λo a b p m s=>⟨zoi m.1 s.1,iS (e:= .bin o a b p) (zoi m.1 s.1) (λh=>h) λU=>rfl⟩)
  (λa q p=>⟨zyy,λU U H U=>nn H⟩)
  (λa p m=>⟨λU U H U=>nn H,zyv m.2⟩)
  (λD p i=>⟨λU U H U=>nn H,λW h H g=>yb5 (λc k=>(i c k).2) W h H g⟩)
  (λD p i=>⟨λU U H U=>nn H,λW h H g=>ye0 (λc k=>(i c k).2) W h H g⟩)
  (λo a b p m s=>⟨ybm C m.1 s.1,zp5 C m.1 s.1⟩)
  (λt a b p d m s=>⟨yan d.2 m.1 s.1,λU U H U=>nn H⟩)
  (λD p i=>⟨zr9 λc k=>(i c k).1,λU U H U=>nn H⟩)
  (λD p i=>⟨tup_ok' λc k=>(i c k).1,λU U H U=>nn H⟩)
  (λa i p m z=>⟨zxm m.1 z.1,λU U H U=>nn H⟩)
  (λa lo hi st q p m il ih T=>⟨zxw C m.1 (λx n=>(il x n).1) (λx n=>(ih x n).1) λx n=>(T x n).1,λU U H U=>nn H⟩)
  (λa x p m=>⟨zor C m.1,iS (e:= .att a x p) (zor C m.1) (λh=>h) λU=>rfl⟩)
  (λf A y v w p M i j=>⟨ztx C M.1 (λc k=>(i c k).1) λc k=>(j c k).1,λU U H U=>nn H⟩)
  (λo x A y v w Q p J i j=>have I:EOk N E Rm (.mcall o x A y v w Q p):=zk9 C J.1 (λc k=>(i c k).1) λc k=>(j c k).1;⟨I,iS (e:= .mcall o x A y v w Q p) I (λh=>h) λU=>rfl⟩)
  (λe c p i=>⟨yba i.1,λU U H U=>nn H⟩)
  (λD p i=>⟨zz6 λc k=>(i c k).1,λU U H U=>nn H⟩)
  (λe ts B tp d ifs G p u z j=>⟨zts C z.1 u.1 λc k=>(j c k).2,λU U H U=>nn H⟩)
  (λo s1 l q s2 l' q' Q p io=>⟨zrj io.1,λU U H U=>nn H⟩)
  nofun (λe r u Y x n=>(Qe n).elim (λq=>q▸u) (Y x)) (λe h=>nn h) (λe u x n=>prf n▸u) e
end

def jE(n:Nat)(a:List (Nat×Nat))(x:Nat):Bool:=aH (ltB x n) (byO (look a x) (λk=>Nat.ble k 1) false)
def gP:LN->Bool
 |[]=>true
 |x::r=>aH (bH (tD x r)) (gP r)
noncomputable def lit:FE->Bool
 | .none _| .tru _| .fls _| .int _ _| .str _ _ _| .neg _ _ _=>true
 |_=>false
noncomputable def zv0:FE->Bool
 | .var _ _=>true
 |_=>false
def yiw:FE->Bool
 | .sub a _ _=>zv0 a
 |_=>false
def zen:FE->Bool
 | .var _ _| .glo _ _| .list _ _| .call _ _ _ _ _ _| .mcall _ _ _ _ _ _ _ _| .att _ _ _| .comp _ _ _ _ _ _ _ _| .ife _ _ _ _| .cmp _ _ _ _| .sli _ _ _ _ _ _=>true
 | .bin _ a _ _=>or2 (zv0 a) (yiw a)
 |_=>false
def zuj{a:Type}(f:a->Bool):List a->Bool
 |[]=>false
 |x::r=>or2 (f x) (zuj f r)
noncomputable def yL:FE->Bool
 | .comp _ _ _ _ _ _ _ _=>true
 |_=>false
noncomputable def zgj:FE->Option (List FE)
 | .tup D _=>some D
 |_=>none
def wT(n:Nat)(a:List (Nat×Nat))(t:Tg):Bool:=match t with
 | .name x _=>jE n a x
 | .tup T b _=>aH (lE (jE n a) T) (gP T)
 | .att o x _=>aH (ltB x n) (wE n a o)
 | .sub o i _=>aH (wE n a o) (wE n a i)
 | .all o _ _=>wE n a o
noncomputable def yag(t:Tg):Bool:=match t with
 | .name _ _=>true
 |_=>false
noncomputable def zvc(t:Tg):Bool:=match t with
 | .tup _ _ _=>true
 |_=>false
def zrw(n:Nat)(a:List (Nat×Nat))(t:Tg):Bool:=match t with
 | .name x _=>jE n a x
 |_=>false
def zqb(t:Tg)(e:FE):Bool:=or2 (bH (zvc t)) (byO (zgj e) (λD=>or2 (lE lit D) (zuj zen D)) true)
mutual
def wS(n:Nat)(c:List (Nat×Nat)):FS->Bool
 | .asg f e _=>aH (wE n c e) (byO (a1 f) (λt=>aH (wT n c t) (zqb t e)) (lE (zrw n c) f))
 | .ex e _=>aH (bH (yL e)) (wE n c e)
 | .aug x _ o e _=>aH (jE n c x) (aH (yg8 o) (wE n c e))
 | .ife t a b _=>aH (wE n c t) (aH (wSs n c a) (wSs n c b))
 | .whl t b _=>aH (wE n c t) (wSs n c b)
 | .for_ t h b o _=>aH (wT n c t) (aH (wE n c h) (aH (wSs n c b) (wSs n c o)))
 | .ret e _=>wE n c e
 | .ret0 _=>true
 | .brk _=>true
 | .pass _=>true
 | .del o i _ _=>aH (wE n c o) (wE n c i)
 | .dead _=>true
def wSs(n:Nat)(a:List (Nat×Nat)):List FS->Bool
 |[]=>true
 |s::r=>aH (wS n a s) (wSs n a r)
end
theorem zcv(h:jE n a x=true):x<n/\(look a x=some 0∨look a x=some 1):=by
 refine aI h λM B=>?_;refine⟨jS M,?_⟩;cases q:look a x with
 |none=>rw[q] at B;exact ff B
 |some k=>
  rw[q] at B
  match k,B with
  |0,_=>exact .inl rfl
  |1,_=>exact .inr rfl
theorem ze2(h:gP l=true):l.Nodup:=by
 induction l with
 |nil=>exact List.nodup_nil
 |cons x r d=>exact We ⟨rC (aF h).1,d (aF h).2⟩
theorem yb4{a:Type}{f:a->Bool}{l:List a}(h:zuj f l=true):∃x∈l,f x=true:=by
 induction l with
 |nil=>exact ff h
 |cons y r d=>exact(sV h).elim (λq=>⟨y,.head _,q⟩) λq=>(d q).elim λx h=>⟨x,.tail _ h.1,h.2⟩

section
noncomputable def kB(a b:L):Prop:=∀y,look a y=look b y
theorem kB.put(h:kB I a)(x:Nat)(v:V):kB (put I x v) (put a x v):=λy=>by rw[bB,bB,h y]
theorem zj5(I:L)(h:x≠y)(v w:V):kB (put (put I x v) y w) (put (put I y w) x v):=λz=>by
 rw[bB,bB,bB,bB];by_cases q:z=y
 · rw[if_pos q,if_neg (λe=>h (e.symm.trans q)),if_pos q]
 · rw[if_neg q,if_neg q]
theorem xO:∀{vs:List V} {fl a c:L},kB fl a->bO T vs fl=some c->∃b,bO T vs a=some b/\kB c b:=by
 induction T with
 |nil=>intro vs fl a c h e;cases vs with|nil=>exact⟨a,rfl,prf e▸h⟩|cons _ _=>exact nn e
 |cons x r d=>exact λ{vs _ a c} h e=>vV (G:=λvs=>∃b,bO (x::r) vs a=some b/\kB c b) e λv t e=>d (h.put x v) e
theorem zda:∀{vs:List V} {fl a:L},x∉T->bO T vs (put fl x v)=some a->∃b,bO T vs fl=some b/\kB a (put b x v):=by
 induction T with
 |nil=>intro vs fl a h e;cases vs with|nil=>exact⟨fl,rfl,prf e▸λU=>rfl⟩|cons _ _=>exact nn e
 |cons y r d=>
  exact λ{vs fl a} h e=>vV (G:=λvs=>∃b,bO (y::r) vs fl=some b/\kB a (put b x v)) e λw t e=>by obtain⟨b,M,B⟩:=xO (zj5 fl (λq=>h (List.mem_cons.mpr (.inl q))) v w) e;obtain⟨c,A,f⟩:=d (λq=>h (.tail _ q)) M;exact⟨c,A,λz=>(B z).trans (f z)⟩
theorem zao:∀{vs:List V} {fl a:L},bO T vs fl=some a->bO (T++[x]) (vs++[v]) fl=some (put a x v):=by
 induction T with
 |nil=>intro vs fl a e;cases vs with|nil=>exact prf e▸rfl|cons _ _=>exact nn e
 |cons y r d=>exact λ{vs fl a} e=>vV (G:=λvs=>bO (y::r++[x]) (vs++[v]) fl=some (put a x v)) e λw t e=>d e
theorem zc9:∀{vs:List V} {f:L},T.Nodup->bO T vs I=some f->∃a,bO T.reverse vs.reverse I=some a/\kB f a:=by
 induction T with
 |nil=>intro vs f _ e;cases vs with|nil=>exact⟨I,rfl,prf e▸λU=>rfl⟩|cons _ _=>exact nn e
 |cons x r d=>
  exact λ{vs f} h e=>vV (G:=λvs=>∃a,bO (x::r).reverse vs.reverse I=some a/\kB f a) e λv t e=>by obtain⟨M,B⟩:=List.nodup_cons.mp h;obtain⟨b,A,k⟩:=zda M e;obtain⟨c,j,i⟩:=d B A;rw[List.reverse_cons,List.reverse_cons];exact⟨put c x v,zao j,λz=>(k z).trans (i.put x v z)⟩

theorem zdj(a:Nat->Str)(h:lit e=true):foldedForSure 8 (tE a e)=true:=by
 cases e with
 |none _=>rfl
 |tru _=>rfl
 |fls _=>rfl
 |int _ _=>rfl
 |str _ _ _=>rfl
 |neg _ _ _=>rfl
 |_=>exact ff h
theorem zul(a:Nat->Str){D:List FE}(h:lE lit D=true):(tEs a D).all (foldedForSure 8)=true:=by
 induction D with
 |nil=>rfl
 |cons e D d=>exact(Bool.and_eq_true _ _).mpr ⟨zdj a (aF h).1,d (aF h).2⟩
theorem zuk(a:Nat->Str){f:Expr->Bool}{D:List FE}{x:FE}(j:x∈D)(b:f (tE a x)=false):(tEs a D).all f=false:=by
 induction D with
 |nil=>cases j
 |cons e D d=>exact(Bool.and_eq_false_iff).mpr ((Qe j).imp (λq:x=e=>(congrArg (λe=>f (tE a e)) q.symm).trans b) d)
theorem zzn{b c:Type}(f:b->Option c)(x:b)(r:List b)(a:((x::r).filterMap f).length=(x::r).length):∃y,f x=some y/\(x::r).filterMap f=y::r.filterMap f/\(r.filterMap f).length=r.length:=by
 cases z:f x with
 |none=>rw[List.filterMap_cons_none z] at a;exact absurd (a▸List.length_filterMap_le f r) (Nat.not_succ_le_self _)
 |some y=>rw[List.filterMap_cons_some z] at a⊢;exact⟨y,rfl,rfl,Nat.succ.inj a⟩
theorem zkt{f:Expr->Option Str}(c:∀x p id,f (.Name x p)=some id->id=x){T:LN}:∀{ps:LN},((names (aA N) T ps).filterMap f).length=(names (aA N) T ps).length->(names (aA N) T ps).filterMap f=T.map (aA N):=by
 induction T with
 |nil=>exact λU=>rfl
 |cons x r d=>
  intro ps b;have a:∀{p:Pos} {ps:LN},((Expr.Name (aA N x) p::names (aA N) r ps).filterMap f).length=(Expr.Name (aA N x) p::names (aA N) r ps).length->(Expr.Name (aA N x) p::names (aA N) r ps).filterMap f=(x::r).map (aA N):=λb=>by obtain⟨y,M,B,A⟩:=zzn f _ _ b;rw[B,c _ _ _ M,d A];rfl
  cases ps with
  |nil=>exact a b
  |cons p ps=>exact a b
noncomputable abbrev zkv(C:Env)(c:List Expr):Expr->Option Str:=fun
 | .Name b a=>if C.kindOf b==some .local&&a.line==(c.head?.map (·.pos.line)).getD 0 then some b else none
 |_=>none
set_option tactic.hygienic true in
theorem zi6{ts G:List Expr}{k k':Nat}{p p':Pos}(h:G.all (foldedForSure 8)=true∨G.all (constantsAlone 8)=false):swappedStores [.Tuple ts k p] (.Tuple G k' p') env=pure none∨
 (((ts.filterMap (zkv env ts)).length !=ts.length)=false/\swappedStores [.Tuple ts k p] (.Tuple G k' p') env=pure (some (ts.filterMap (zkv env ts)))):=by
 unfold swappedStores;dsimp only;split
 · exact .inl rfl
 split
 · exact .inl rfl
 split
 · exact .inl rfl
 rename_i a;split
 · exact .inl rfl
 rename_i M;split
 · rename_i h2
   exact h.elim (λh=>absurd h M) λh=>ff (h.symm.trans h2)
 · exact .inr ⟨((Bool.or_eq_false_iff).mp (Bool.not_eq_true _▸a)).1,rfl⟩
theorem zku{b:List Expr}(x:Str)(p:Pos)(a:Str)(h:zkv C b (.Name x p)=some a):a=x:=by
 have h:(if(C.kindOf x==some .local&&p.line==(b.head?.map (·.pos.line)).getD 0)=true then some x else none)=some a:=h;split at h
 · exact(prf h).symm
 · exact nn h
theorem zi7{a:List Expr}{k:Nat}{p:Pos}{b:Nat->Str}{e:FE}(h:zgj e=none):swappedStores [.Tuple a k p] (tE b e) C=pure none:=by
 cases e with
 |tup D p=>exact nn h.symm
 |_=>rfl
theorem ziy{e:FE}{D:List FE}(h:zgj e=some D):∃p,e= .tup D p:=by
 cases e with
 |tup D p=>exact⟨p,congrArg (λD=>FE.tup D p) (prf h)⟩
 |_=>exact nn h
theorem zcq{T b:LN}{q:Nat}{e:FE}(c:zqb (.tup T b q) e=true)(f:∀D,zgj e=some D->∀e∈D,zen e=true->constantsAlone 8 (tE (aA N) e)=false):
 swappedStores [tT (aA N) (.tup T b q)] (tE (aA N) e) env=pure none∨swappedStores [tT (aA N) (.tup T b q)] (tE (aA N) e) env=pure (some (T.map (aA N))):=by
 have c:byO (zgj e) (λD=>or2 (lE lit D) (zuj zen D)) true=true:=c;cases z:zgj e with
 |none=>exact .inl (zi7 z)
 |some D=>rw[z] at c;obtain⟨p,q⟩:=ziy z;rw[q];have a:(tEs (aA N) D).all (foldedForSure 8)=true∨(tEs (aA N) D).all (constantsAlone 8)=false:=(sV c).imp (zul _) λh=>(yb4 h).elim λx j=>zuk _ j.1 (f D z x j.1 j.2);refine(zi6 (env:=env) (ts:=names (aA N) T b) (k:=0) (p:=pos _) (k':=0) (p':=pos p) a).imp id λh=>h.2.trans ?_;rw[zkt zku (bne_eq_false_iff_eq.mp h.1)]
end

structure HereS(Ω:Bx)(Rm:Around->Prop)(D:Dx)(fl:L)(hp:Hp)(ρ:Rho)(s:Shared):Prop where
 h:Here Ω Rm D fl hp ρ s
 C:FC Ω D.env D.fa s
structure Since(Ω:Bx)(D:Dx)(ρ₀:Rho)(s₀:Shared)(ρ:Rho)(s:Shared):Prop where
 G:Go D.fa ρ₀ s₀ ρ s
 fa:∀b∈D.fa,s₀.heap.get? b≠none
 b:∀a,s₀.heap.get? a=none->Ω.h₀.get? a=none

section
variable{Ω:Bx}

theorem zcy{l:Addr}{G:List Value}{n j:Nat}{k:Int}(h:k=(j:Int)){t:Tok}{v:Value}{Q:Unit->Shared->Prop}(c:s.heap.get? l=some (bZ G n))(o:j<G.length)(p:G.length≤65537)
 (g:∀i m,i.get? l=some (bZ (G.set j v) m)->Heap.SameBut l s.heap i->Q () {s with heap:=i}):wpAny Ω.M A (setItem (.ref l) (.int k t) v) Q E s:=by
 have a:=fitsIndex_of (k:=k) (h▸Int.natCast_nonneg j) (h▸Int.ofNat_lt.mpr (Nat.lt_trans (Qp o p) (show 65537<9223372036854775808 by decide)));unfold setItem
 try with_reducible refine wpAny_holding ?_
 first|refine Qg (Qh ?_)|skip
 refine Qg (wpAny_sequenceKey (tyL c) (by decide) ?_);refine Qg (wpAny_callSpecial?_slot (name:=Str.ofString "__setitem__") (tyL c) slot_list_setitem
  (wpAny_call_entry slot_list_setitem (tyL c) entry_list_setitem ?_ (args_list_setitem _ _ _)))
 show wpAny _ _ (Builtin.List.listSubscript? (.int k t)>>=_) _ _ s;refine Qg (wpAny_listSubscript_int a ?_);clear a;subst h;have f:G.toArray[j]? =some G.toArray[j]:=Array.getElem?_eq_getElem o;show wpAny _ _ ((seqItemAt l j>>=λr=>pure (r.map (j, ·)))>>=_) _ _ s;refine Qg (Qg (wpAny_seqItemAt c rfl (Qh ?_)));rw[f];show wpAny _ _ (setSeqItemAt l j v>>=_) _ _ s;have e:∃m,Obj.mapSeq (·.setIfInBounds j v) (bZ G n)=bZ (G.set j v) m:=⟨_,by unfold Obj.mapSeq;dsimp only;rw[List.setIfInBounds_toArray]⟩
 obtain⟨m,e⟩:=e;have b:(s.heap.update l (Obj.mapSeq (·.setIfInBounds j v))).get? l=some (bZ (G.set j v) m):=by rw[Heap.get?_update_self _ c (by rw[e];rfl),e]
 refine Qg (wpAny_setSeqItemAt c rfl ?_)
 first
  |exact Qg (Qh (Qh ⟨.none,rfl,Qh (g _ m b (Wb ..))⟩))
  |exact Qh ⟨.none,rfl,Qh (g _ m b (Wb ..))⟩
theorem zgu(i:s.heap.get? l=some (bZ G n))(t:s.heap.get? b=some (bZ a m))(p:l≠b)(y:s.heap.IsSliceOf o .none .none .none)(d:G.length≤65537)(B:a.length≤65537)
 (g:∀r k,r.get? l=some (bZ a k)->Heap.SameBut l s.heap r->Q () {s with heap:=r}):wpAny Ω.M A (setItem (.ref l) (.ref o) (.ref b)) Q E s:=by
 obtain⟨v,c,q,h⟩:=id y;have j:s.TypeIs (.ref o) "slice":=⟨v,c,q⟩;unfold setItem
 try with_reducible refine wpAny_holding ?_
 first|refine Qg (Qh ?_)|skip
 refine Qg (wpAny_sequenceKey (tyL i) (by decide) ?_);refine Qg (wpAny_callSpecial?_slot (name:=Str.ofString "__setitem__") (tyL i) slot_list_setitem
  (wpAny_call_entry slot_list_setitem (tyL i) entry_list_setitem ?_ (args_list_setitem _ _ _)))
 show wpAny _ _ (Builtin.List.listSubscript? (.ref o)>>=_) _ _ s;refine Qg ?_;unfold Builtin.List.listSubscript?;refine Qg (wpAny_specialOf j slice_no_index ?_);simp only[Option.isNone_none,if_true];refine Qh ?_;show wpAny _ _ (typeOf (.ref o)>>=_) _ _ s;refine Qg (wpAny_typeOf j ?_);rw[if_neg (by decide)];rw[listSliceParts_eq];refine Qg (Qg (wpAny_field c h (x:= .none) rfl (Qg (wpAny_listPart .none ?_))));rw[if_neg (show¬((rawPart none==rawInt 0)=true) from Bool.false_ne_true)];refine Qg (wpAny_field c h (x:= .none) rfl (Qg (wpAny_listPart .none ?_)));refine Qg (wpAny_field c h (x:= .none) rfl (Qg (wpAny_listPart .none (Qh ?_))));have f:Builtin.List.listSameRef (.ref l) (.ref b)=false:=beq_eq_false_iff_ne.mpr p;dsimp only;rw[f];simp only[Bool.false_eq_true,if_false];refine Qg ?_;unfold Builtin.List.listAllItems;refine Qg (wpAny_typeOf (tyL t) ?_);rw[if_pos (by decide)];refine listItems_at t rfl ?_;refine Qg (listItems_at i rfl ?_);refine Qg (wpAny_of_eq (sliceIndices_raw none none none G.toArray.size nofun) ?_);have w:Builtin.List.listTooLong (G.toArray.size+a.toArray.size)=false:=by unfold Builtin.List.listTooLong;refine decide_eq_false ?_;rw[sizeLine_eq,List.size_toArray,List.size_toArray];lia
 show wpAny _ _ (do
  rule "list.__setitem__.slice"
  if Builtin.List.listTooLong (G.toArray.size+a.toArray.size)=true then _ else _) _ _ s
 rw[w];refine Qg (wpAny_rule ?_);have e:∀T:Array Value,True:=λU=>trivial;have u:G.toArray.extract 0 (Int.toNat 0)++a.toArray++G.toArray.extract (max (0:Int) (G.toArray.size:Int)).toNat G.toArray.size=a.toArray:=by simp
 have D:∃k,(s.heap.update l (Obj.mapSeq λT=>T.extract 0 (Int.toNat 0)++a.toArray++T.extract (max (0:Int) (G.toArray.size:Int)).toNat T.size)).get? l=some (bZ a k):=⟨_,by have z:=IsL.update (show IsL s.heap l G.toArray n from i) λT=>T.extract 0 (Int.toNat 0)++a.toArray++T.extract (max (0:Int) (G.toArray.size:Int)).toNat T.size;rw[u] at z;exact z⟩
 obtain⟨k,H⟩:=D;refine Qg (listUpdate_at i rfl ?_ ?_ ?_)
 · exact Qg (wpAny_letGo (Qh ⟨.none,rfl,Qh (g _ k H (Wb ..))⟩))
 · rw[sizeLine_eq,List.size_toArray];lia
 · show(G.toArray.extract 0 (Int.toNat 0)++a.toArray++G.toArray.extract (max (0:Int) (G.toArray.size:Int)).toNat G.toArray.size).size≤_
   rw[u,sizeLine_eq,List.size_toArray];lia
theorem HereS.go(h:HereS Ω Rm D I J b s)(g:Go [] b s m u)(H:HS Ω m a u):HereS Ω Rm D I a m u:=⟨h.h.go g H,h.C.go h.h.F.disj g⟩
theorem HereS.of(h:HereS Ω Rm D I J b s)(g:Go [] b s m u)(c:Here Ω Rm D I a m u):HereS Ω Rm D I a m u:=⟨c,h.C.go h.h.F.disj g⟩
theorem HereS.live(h:HereS Ω Rm D I J c s):∀b∈D.fa,s.heap.get? b≠none:=λb a z=>(h.h.F.live b a).elim λU h=>sn z h.1
theorem HereS.since(h:HereS Ω Rm D I J a s):Since Ω D a s a s:=⟨Go.refl _ _ _,h.live,base_none h.h.H⟩
theorem Since.go(S:Since Ω D Q Y c s)(g:Go [] c s a z):Since Ω D Q Y a z:=⟨S.G.trans0 g,S.fa,S.b⟩
theorem lN(h:HereS Ω Rm D I J f s)(S:Since Ω D Q Y f s)(e:iZ r J=some y)(R:RVR Ω f Y s r v):
 ∃m,HereS Ω Rm D I y.2 m s/\Since Ω D Q Y m s/\VR m s.heap y.1 v/\Ext f m/\(m=f∨∃T a,r= .l T/\v= .ref a/\m=f++[[a]]):=by
 obtain⟨m,x,d,w,i⟩:=uF h.h.H S.G S.b (Lt.refl Y) e R;have k:Ext f m/\∀b∈D.fa,b∉m.flatten:=by
  rcases i with q|⟨T,a,t,p,q⟩
  · rw[q];exact⟨Ext.refl _,h.h.F.disj⟩
  · rw[t] at R
    obtain⟨b,g,n,j,_,_,_,u,_⟩:=R;rw[q];exact⟨Ext.append _ _,λc o z=>(Qo (cS f [a]▸z)).elim (h.h.F.disj c o) λz=>S.fa c o (by rw[List.mem_singleton.mp z,Value.ref.inj (p.symm.trans j)];exact u)⟩
 exact⟨m,⟨⟨h.h.K,h.h.A,x,h.h.F.kept (λU U U e=>e) k.1 (λU U e U=>e) k.2⟩,h.C⟩,⟨d,S.fa,S.b⟩,w,k.1,i⟩
theorem stS(C:CT Ω E Rm)(w:jE Ω.nms.length D.sc x=true)(h:HereS Ω Rm D I J a s)(R:VR a s.heap v u)(g:∀b,HereS Ω Rm D (put I x v) J a b->Go D.fa a s a b->Q () b):
 WP Ω D (storeName D.env (aA Ω x) u) Q s:=zji C h.h.K (zcv w).1 (zcv w).2 h.h.H h.h.F h.C R λe f i F1 c=>g e ⟨⟨h.h.K,h.h.A,f,F1⟩,c⟩ i
theorem zvd(C:CT Ω E Rm)(w:jE Ω.nms.length D.sc x=true)(h:HereS Ω Rm D I J a s/\Go D.fa a f a s)(R:VR a s.heap v u)
 (g:∀b,(HereS Ω Rm D (put I x v) J a b/\Go D.fa a f a b)->hJ s.heap b.heap->Q () b):WP Ω D (storeName D.env (aA Ω x) u) Q s:=stS C w h.1 R λe M c=>g e ⟨M,h.2.transS c⟩ c.imm
noncomputable abbrev qH(Ω:Bx)(Rm:Around->Prop)(D:Dx)(ρ₀:Rho)(s₀:Shared)(o:L×Hp)(Q:Unit->Shared->Prop):Prop:=∀m s',HereS Ω Rm D o.1 o.2 m s'->Go D.fa ρ₀ s₀ m s'->Q () s'
theorem zhy(C:CT Ω E Rm)(W:jE Ω.nms.length D.sc x=true)(e:dP x r I J=some o)(h:HereS Ω Rm D I J c s)(S:Since Ω D a Y c s)(R:RVR Ω c Y s r v)(g:qH Ω Rm D a Y o Q):
 WP Ω D (assign (.Name (aA Ω x) (pos p)) D.env v) Q s:=by
 refine aB e λy i e=>?_;obtain⟨b,M,j,k,_⟩:=lN h S i R;exact wpAny_assign_Name (stS C W M k λf B l=>g b f (prf e▸B) (j.G.transS l))
theorem zob(C:CT Ω E Rm)(W:lE (jE Ω.nms.length D.sc) T=true)(e:hY T r c J=some o)(h:HereS Ω Rm D c J b s)(S:Since Ω D a Y b s)(R:RVR Ω b Y s r v)(g:qH Ω Rm D a Y o Q):
 WP Ω D (assign (.Tuple (names (aA Ω) T n) 0 (pos p)) D.env v) Q s:=by
 refine aB e λy m e=>?_;refine aB e λx i e=>?_;rw[arm_assign_Tuple];refine Qg (wpAny_standAt ?_);unfold unpack;have l:=zaa (Ω:=Ω) (env:=D.env) (xs:=T) (ps:=n);rw[l.2.1,l.2.2,←mL i];refine Qg (wpAny_holding (oH (C.rm D.A h.h.A).1 h.h.H m R λz w k q=>?_));have f:=Go.keeps [] b s (t:=s.toks) k;exact oW (I:=λc u=>HereS Ω Rm D c J b u/\Go D.fa b {s with heap:=w} b u) (zvd C) l.1 (uE W) i ⟨h.go f (h.h.H.heap (t:=s.toks) k h.h.H.tk),Go.refl _ _ _⟩ (f.vrs q) λj B=>g b j (prf e▸B.1) ((S.go f).G.transS B.2)
theorem pI(h:nO n J=some a):nth J n=some (.inst a.1 a.2):=by refine aB h λo M B=>?_;exact M.trans (congrArg some (ye9 B))
theorem zjy(e:rR r=some n)(R:RVR Ω a Y s r v):VR a s.heap (.ref n) v:=by rw[zc7 e] at R;exact R
theorem zod(C:CT Ω E Rm)(W:aH (ltB x Ω.nms.length) (wE Ω.nms.length D.sc f)=true)(e:yg6 E (ev E I f) x r I hp=some o)(h:HereS Ω Rm D I hp l s)(S:Since Ω D b Y l s)(R:RVR Ω l Y s r v)(g:qH Ω Rm D b Y o Q):
 WP Ω D (assign (.Attribute (tE (aA Ω) f) (aA Ω x) (pos p)) D.env v) Q s:=by
 refine aB e λq T e=>?_;refine aB e λn z e=>?_;refine aB e λy N e=>?_;refine aB e λcd M e=>?_;refine aB e λtb J e=>?_;refine aJ e λd e=>?_;rw[←prf e] at g;show wpAny _ _ (do
  let c←holding [v] (eval (tE (aA Ω) f) D.env)
  standAt (pos p).atName
  holding [v,c] (setAttr c (aA Ω x) v)
  release [v,c] []) _ _ _
 refine Qg (wpAny_holding ((both C f).1 (aF W).2 h.h T λu s1 c h1 k m=>Qg (wpAny_standAt ?_)));obtain⟨i,B,S2,R2,j,_⟩:=lN (h.of k h1) (S.go k) N (R.go k);rw[zc7 z] at m;obtain⟨a,ad,hn,eo⟩:=m;rw[eo];exact Qg (wpAny_holding (C.seta h.h.A (jS (aF W).1) (pI M) J (j _ _ hn) (Qa d) B.h.H R2 λw H3 t=>wpAny_release (g i w (B.go t H3) (S2.go t).G)))
theorem zpq(e:VR a h y v):∀{vs:List Value} {j:Nat},VRs a h T vs->VRs a h (upd T j y) (vs.set j v):=by
 induction T with
 |nil=>exact λ{vs j} R=>vrs_n (P:=λvs=>VRs a h [] (vs.set j v)) R rfl
 |cons x r d=>
  exact λ{vs j} R=>vrs_e (P:=λvs=>VRs a h (upd (x::r) j y) (vs.set j v)) R λu t c b=>by
   cases j with
   |zero=>exact VRs.cons e b
   |succ j=>exact VRs.cons c (d b)
theorem zjv(C:CT Ω cx Rm){n j:Nat}{T:List V}{y:V}{l o v:Value}(g:dH n J=some T)(d:j<T.length)(h:HereS Ω Rm D I J c s)(R1:VR c s.heap (.ref n) l)(R2:VR c s.heap (.int (.ofNat j)) o)(Y:VR c s.heap y v){Q:Unit->Shared->Prop}
 (G:∀u,HereS Ω Rm D I (upd J n (.list (upd T j y))) c u->Go [] c s c u->Q () u):WP Ω D (setItem l o v) Q s:=by
 obtain⟨a,vs,m,N,r,B,A,w⟩:=jK h.h.H g R1;obtain⟨t,M⟩:=R2;rw[N,M];refine zcy (k:=Int.ofNat j) rfl B (A.len.symm▸d) w λx E i f=>?_
 have p:hJ s.heap x:=jO f B jJ;have z:Go [] c s c {s with heap:=x}:=h.h.H.goSet (t:=s.toks) r (.head _) f [] ⟨_,i⟩;exact G _ (h.go z (h.h.H.set r (.head _) (λb ob q e=>(f.2 b q).trans e) ⟨a,_,E,rfl,i,zpq (VR.mono (Ext.refl _) p _ _ Y) (VRs.mono (Ext.refl _) p _ _ A),(List.length_set ..).symm▸w⟩ h.h.H.gens h.h.H.tk)) z
theorem zxy(C:CT Ω Y Rm)(e:zt6 Y n k y N J=some o)(h:HereS Ω Rm D N J a s)(S:Since Ω D ρ₀ s₀ a s)(r:VR a s.heap (.ref n) ov)(p:VR a s.heap k I)(q:VR a s.heap y v)(g:qH Ω Rm D ρ₀ s₀ o Q):WP Ω D (setItem ov I v) Q s:=by
 rcases dQ e with e|e
 · refine aB e λT m e=>?_
   refine aB e λj c e=>?_;refine aJ e λl e=>?_;refine aB c λi z c=>?_;rw[zT z,zhh c] at p;exact zjv C m (aK T▸Qa l) h r p q λx M G'=>g a x (prf e▸M) (S.go G').G
 · refine aB e λcd m e=>?_
   refine aB e λtb l e=>?_;refine aB e λf E e=>?_;refine aB e λw B e=>?_;refine aJ e λd e=>?_;exact C.seti (ρ₀:=a) (s₀:=s) h.h.A (pI m) l E (B.trans (congrArg some (Prod.ext (zyf d) rfl))) h.h.H (Go.refl [] a s) (base_none h.h.H) r p q λb u H3 t=>g b u (prf e▸h.go t H3) (S.go t).G
theorem zoc(C:CT Ω E Rm)(W:aH (wE Ω.nms.length D.sc f) (wE Ω.nms.length D.sc i)=true)(e:zon E (ev E I f) (ev E I i) r I J=some o)(h:HereS Ω Rm D I J t s)(S:Since Ω D b Y t s)(R:RVR Ω t Y s r v)(G:qH Ω Rm D b Y o Q):
 WP Ω D (assign (.Subscript (tE (aA Ω) f) (tE (aA Ω) i) (pos p)) D.env v) Q s:=by
 refine aB e λy z e=>?_;refine aB e λq g e=>?_;refine aB e λn A e=>?_;refine aB e λj d e=>?_;refine aB e λk H e=>?_;have base:EV Ω D f (λa u=>EV Ω D i (λc l=>WP Ω D (setItem a c v) Q l) u) s:=
  oJ (both C f).1 (both C i).1 W h.h g d λw l va vb M m R1 T=>zxy C e (h.of m M) (S.go m) (zjy A R1) (rvV H T) (m.vr (rvV z R)) G
 show wpAny _ _ (do
  let a←holding [v] (eval (tE (aA Ω) f) D.env)
  let c←holding [v,a] (eval (tE (aA Ω) i) D.env)
  standAt (pos p)
  holding [v,a,c] (setItem a c v)
  release (match tE (aA Ω) i with| .Slice _ _ none _=>[c,v,a]|_=>[v,a,c]) []) _ _ _
 exact Qg (wpAny_holding (Qv base (λa u N=>Qg (wpAny_holding (Qv N (λc l B=>Qg (wpAny_standAt (Qg (wpAny_holding (Qv B (λU U x=>wpAny_release x) λU U x=>x))))) λU U x=>x))) λU U x=>x))
theorem zoe(C:CT Ω cx Rm)(W:wE Ω.nms.length D.sc x=true)(e:zh3 (ev cx N x) r N hp=some o)(h:HereS Ω Rm D N hp g s)(S:Since Ω D c Y g s)(R:RVR Ω g Y s r v)(E:qH Ω Rm D c Y o Q):
 WP Ω D (assign (.Subscript (tE (aA Ω) x) (.Slice none none none (pos q)) (pos p)) D.env v) Q s:=by
 refine aB e λys q0 e=>?_;refine aB e λqq q1 e=>?_;refine aB e λn qn e=>?_;refine aB e λxs q2 e=>?_;rw[yjm q0] at R;rw[←prf e] at E;show wpAny _ _ (do
  let u←holding [v] (eval (tE (aA Ω) x) D.env)
  let y←holding [v,u] (eval (.Slice none none none (pos q)) D.env)
  standAt (pos p)
  holding [v,u,y] (setItem u y v)
  release [y,v,u] []) _ _ _
 refine Qg (wpAny_holding ((both C x).1 W h.h q1 λl f u M T R1=>Qg (wpAny_holding (wpAny_Slice (Qh (Qh (Qh ?_)))))));obtain⟨b,ws,k,hb,hv,hw,B,_,hi⟩:=R.go T;obtain⟨a,vs,m,e1,d,I,h3,h4⟩:=jK M.H q2 (zjy qn R1);rw[e1,hb];have j:∀b o,f.heap.get? b=some o->(f.heap.push {cls:= .type "slice",data:= .fields #[.none,.none,.none]}).get? b=some o:=λb o e=>Qc _ e;have A:a≠b:=λz=>hi (z▸dG d (.head _));refine Qg (wpAny_standAt (Qg (wpAny_holding (zgu (j _ _ I) (j _ _ hv) A ⟨_,Qk _ rfl,rfl,rfl⟩ h4 B λJ k' w i=>wpAny_release ?_))));have G2:=Go.keeps [] l f (t:=f.toks) j;have H2:=M.H.heap (t:=f.toks) j M.H.tk;have im:hJ _ J:=jO i (j _ _ I) jJ;have G3:=H2.goSet (t:=f.toks) d (.head _) i [] ⟨_,w⟩;have H3:=H2.set (s':={f with heap:=J}) d (.head _) (λb ob q e=>(i.2 b q).trans e) (o:= .list ys) ⟨a,ws,k',rfl,w,VRs.mono (Ext.refl _) im _ _ (VRs.mono (Ext.refl _) (λb o e U=>j b o e) _ _ hw),B⟩ H2.gens H2.tk;have G:=(T.trans0 G2).trans0 G3;exact E l _ (h.go G H3) (S.go G).G
theorem sD(C:CT Ω E Rm)(W:wT Ω.nms.length D.sc t=true)(e:bW E t r I J=some o)(h:HereS Ω Rm D I J b s)(S:Since Ω D a Y b s)(R:RVR Ω b Y s r v)(g:qH Ω Rm D a Y o Q):WP Ω D (assign (tT (aA Ω) t) D.env v) Q s:=by
 cases t with
 |name x p=>exact zhy C W e h S R g
 |tup T c p=>exact zob C (aF W).1 e h S R g
 |att o x p=>exact zod C W e h S R g
 |sub o i p=>exact zoc C W e h S R g
 |all o q p=>exact zoe C W e h S R g
end

noncomputable def FlR(Ω:Bx)(ρ:Rho)(s₀ s:Shared)(o:Fl)(f:Flow):Prop:=match o with
 | .next=>f= .next
 | .brk=>f= .brk
 | .cont=>f= .cont
 | .ret r=>∃v,f= .ret v/\RVR Ω ρ s₀ s r v
noncomputable abbrev qI(Ω:Bx)(Rm:Around->Prop)(D:Dx)(ρ₀:Rho)(s₀:Shared)(o:Fl×L×Hp)(Q:Flow->Shared->Prop):Prop:=
 ∀m s' f,HereS Ω Rm D o.2.1 o.2.2 m s'->Go D.fa ρ₀ s₀ m s'->FlR Ω m s₀ s' o.1 f->Q f s'
noncomputable def XOk(Ω:Bx)(cx:Cx)(Rm:Around->Prop)(st:FS):Prop:=
 ∀{D:Dx} {fl:L} {hp:Hp} {o:Fl×L×Hp} {ρ:Rho} {s:Shared} {Q:Flow->Shared->Prop},wS Ω.nms.length D.sc st=true->HereS Ω Rm D fl hp ρ s->ex cx st fl hp=some o->qI Ω Rm D ρ s o Q->WP Ω D (exec (tS (aA Ω) st) D.env) Q s
noncomputable def pQ(Ω:Bx)(cx:Cx)(Rm:Around->Prop)(b:List FS):Prop:=
 ∀{D:Dx} {fl:L} {hp:Hp} {o:Fl×L×Hp} {ρ:Rho} {s:Shared} {Q:Flow->Shared->Prop},wSs Ω.nms.length D.sc b=true->HereS Ω Rm D fl hp ρ s->exs cx b fl hp=some o->qI Ω Rm D ρ s o Q->WP Ω D (execs (tSs (aA Ω) b) D.env) Q s

section

theorem zhq(l:Lt Y z)(r:FlR N a z s o f):FlR N a Y s o f:=by
 cases o with
 |ret v=>exact r.elim λu h=>⟨u,h.1,pV l h.2⟩
 |_=>exact r
theorem zed{k:FS}{b:List FS}(Is:XOk N E Rm k)(p:pQ N E Rm b):pQ N E Rm (k::b):=λW h e g=>by
 obtain⟨⟨n,w⟩,q,e⟩:=ybw e;refine wpAny_execs_cons (Is (aF W).1 h q λa j f M c r=>?_);cases n with
 |next=>cases(show f= .next from r);exact p (aF W).2 M e λi l o B s m=>g i l o B (c.transS s) (zhq (dA c) m)
 |brk=>cases(show f= .brk from r);cases prf e;exact g a j .brk M c rfl
 |cont=>cases(show f= .cont from r);cases prf e;exact g a j .cont M c rfl
 |ret v=>cases prf e;obtain⟨u,q,r⟩:=r;cases q;exact g a j (.ret u) M c ⟨u,rfl,r⟩
theorem zia:pQ N E Rm []:=λW h e g=>by cases prf e;exact wpAny_execs_nil (g _ _ _ h (Go.refl _ _ _) rfl)

theorem zi5(line:Nat)(h:(yL e&&yag t)=false):swapsWithSole [tT (aA N) t] (tE (aA N) e) line C=pure false:=by
 cases e with
 |comp _ _ _ _ _ _ _ _=>cases t with
  |name x p=>exact ff h.symm
  |_=>rfl
 |_=>rfl
theorem zyw(z:a1 c=none)(line:Nat):swapsWithSole (tTs (aA Ω) c) (tE (aA Ω) e) line env=pure false/\swappedStores (tTs (aA Ω) c) (tE (aA Ω) e) env=pure none:=by
 cases c with
 |nil=>exact⟨rfl,rfl⟩
 |cons a r=>cases r with
  |nil=>exact nn z.symm
  |cons b r=>exact⟨rfl,by cases a<;>rfl⟩
theorem zcp(line:Nat):∃b,swapsWithSole [tT (aA Ω) (.name x px)] (tE (aA Ω) (.comp e ts tps tp it ifs sc' pc)) line env=pure b:=⟨_,rfl⟩
theorem zxj(e:FE)(h:zvc t=false):swappedStores [tT (aA N) t] (tE (aA N) e) C=pure none:=by
 cases t with
 |tup T a q=>exact ff h.symm
 |_=>rfl
theorem znu(t:Tg):(assignEach [tT (aA N) t] C).map (·.2)=[assign (tT (aA N) t) C]:=by cases t<;>rfl
theorem zd0:(assignEach (tTs (aA N) a) C).map (·.2)=a.map λt=>assign (tT (aA N) t) C:=by
 induction a with
 |nil=>rfl
 |cons t r d=>exact(by cases t<;>rfl:_=assign (tT (aA N) t) C::(assignEach (tTs (aA N) r) C).map (·.2)).trans (congrArg _ d)
theorem zjp(C:CT N E Rm)(W:wE N.nms.length m e=true)(f:zen e=true):constantsAlone 8 (tE (aA N) e)=false:=by
 have j:∀{x:Nat},x<N.nms.length->(aA N x==("__debug__":Str))=false:=λh=>(C.dbg _ h).1;cases e with
 |var x q=>exact j (jS (aF W).1)
 |glo x q=>exact j (jS (aF W).1)
 |bin o a b q=>cases a with
  |var x k=>exact(congrArg (· &&constantsAlone 7 (tE (aA N) b)) (j (jS (aF (aF W).1).1):constantsAlone 7 (tE (aA N) (.var x k))=false)).trans (Bool.false_and _)
  |sub c i k=>cases c with
   |var x l=>exact(congrArg (· &&constantsAlone 7 (tE (aA N) b)) ((congrArg (· &&constantsAlone 6 (tE (aA N) i)) (j (jS (aF (aF (aF W).1).1).1):constantsAlone 6 (tE (aA N) (.var x l))=false)).trans (Bool.false_and _))).trans (Bool.false_and _)
   |_=>exact ff f
  |_=>exact ff f
 |none _=>exact ff f
 |tru _=>exact ff f
 |fls _=>exact ff f
 |int _ _=>exact ff f
 |str _ _ _=>exact ff f
 |dbg _=>exact ff f
 |neg _ _ _=>exact ff f
 |not _ _=>exact ff f
 |and _ _=>exact ff f
 |or _ _=>exact ff f
 |tup _ _=>exact ff f
 |sub _ _ _=>exact ff f
 |fmt _ _ _=>exact ff f
 |jst _ _=>exact ff f
 |sli _ _ _ _ _ _=>exact Bool.and_false _
 |_=>rfl
theorem HereS.look(h:HereS N Rm D I J b s)(k:kB a I):HereS N Rm D a J b s:=⟨⟨h.h.K,h.h.A,h.h.H,zs1 h.h.F k⟩,h.C⟩
theorem zpr:∀{a:List Value},VRs b h T a->VRs b h T.reverse a.reverse:=by
 induction T with
 |nil=>exact λ{a} R=>vrs_n (P:=λa=>VRs b h [] a.reverse) R rfl
 |cons x r d=>
  exact λ{a} R=>vrs_e (P:=λa=>VRs b h (x::r).reverse a.reverse) R λu t e c=>by rw[List.reverse_cons,List.reverse_cons];exact(d c).append (VRs.cons e VRs.nil)
noncomputable abbrev wN(Ω:Bx)(Rm:Around->Prop)(D:Dx)(ρ₀:Rho)(s₀:Shared)(o:L×Hp)(Q:Flow->Shared->Prop):Prop:=qH Ω Rm D ρ₀ s₀ o λU=>Q .next
theorem zt2(C:CT N cx Rm)(W:lE (jE N.nms.length D.sc) T=true)(E:gP T=true)(e:hY T r c J=some o)(h:HereS N Rm D c J b s)(S:Since N D a Y b s)(R:RVR N b Y s r v)(g:wN N Rm D a Y o Q):
 WP N D (assignStores D.env v (some (T.map (aA N))) stores) Q s:=by
 refine aB e λM m e=>?_;refine aB e λd i e=>?_;obtain⟨z,l,w⟩:=zc9 (ze2 E) i;show wpAny _ _ (do
  rule "assign.swapped-stores"
  let items←unpackItems v (T.map (aA N)).length none
  assignInOrder ((T.map (aA N)).reverse.map λn=>bindName D.env n) items.reverse
  pure .next) Q _ s
 refine Qg (wpAny_rule ?_);rw[List.length_map,←mL i];refine Qg (oH (C.rm D.A h.h.A).1 h.h.H m R λus y k q=>Qg ?_);have f:=Go.keeps [] b s (t:=s.toks) k;rw[←List.map_reverse];exact oW (I:=λc u=>HereS N Rm D c J b u/\Go D.fa b {s with heap:=y} b u) (zvd C) zgp (λx p=>uE W x (List.mem_reverse.mp p)) l ⟨h.go f (h.h.H.heap (t:=s.toks) k h.h.H.tk),Go.refl _ _ _⟩ (zpr (f.vrs q)) λj B=>
  Qh (g b j (prf e▸B.1.look w) ((S.go f).G.transS B.2))
theorem vJ(C:CT N E Rm)(j:wE N.nms.length D.sc e=true)(f:aH (wT N.nms.length D.sc t) (zqb t e)=true)(k:bW E t r I J=some o)(h:HereS N Rm D I J i s)(S:Since N D b Y i s)(R:RVR N i Y s r v)(g:wN N Rm D b Y o Q):
 WP N D (do assignStores D.env v (←swappedStores [tT (aA N) t] (tE (aA N) e) D.env) ((assignEach [tT (aA N) t] D.env).map (·.2))) Q s:=by
 have a:swappedStores [tT (aA N) t] (tE (aA N) e) D.env=pure none->WP N D (do assignStores D.env v (←swappedStores [tT (aA N) t] (tE (aA N) e) D.env) ((assignEach [tT (aA N) t] D.env).map (·.2))) Q s:=by intro c;rw[c];refine Qg (Qh ?_);show wpAny _ _ (do assignAll v ((assignEach [tT (aA N) t] D.env).map (·.2));pure .next) Q _ s;rw[znu];exact Qg (Qv (sD C (aF f).1 k h S R g) (λU U x=>Qh x) λU U x=>x)
 cases t with
 |tup T u q=>
  rcases zcq (env:=D.env) (aF f).2 (λw z n m l=>by obtain⟨p,z⟩:=ziy z;rw[z] at j;exact zjp C (zpp (aF j).2 n m) l) with c|c
  · exact a c
  · rw[c]
    exact Qg (Qh (zt2 C (aF (aF f).1).1 (aF (aF f).1).2 k h S R g))
 |_=>exact a (zxj e rfl)
theorem zis(a:Value->Sem Unit):evalThenUse (tE (aA N) (.comp e i c j f h b p)) C a=
 (do let _←comprehension (tE (aA N) (.comp e i c j f h b p)) (scF (aA N) b) C (tE (aA N) f).pos (newList []) false (eval (tE (aA N) f) C) (some a)):=rfl
noncomputable abbrev yls(Ω:Bx)(D:Dx)(e:FE)(ts tps:LN)(tp:Nat)(it:FE)(ifs:List FE)(sc':List (Nat×Nat))(pc:Nat)(ρ:Rho)(s:Shared)(vs:List V)(h2:Hp):Prop:=∀{use:Option (Value->Sem Unit)} {Q:Value->Shared->Prop},
 (∀s' B,CF Ω D s B->zh6 Ω B ρ s vs h2 s'->compPost Ω.M D.A D.E use Q (.ref B.dd) B.cc (.ok .next) s')->WP Ω D (comprehension (tE (aA Ω) (.comp e ts tps tp it ifs sc' pc)) (scF (aA Ω) sc') D.env (tE (aA Ω) it).pos (newList []) false (eval (tE (aA Ω) it) D.env) use) Q s
theorem zqv(C:CT N cx Rm){B:CB}{x px:Nat}{J:List V}{T:Hp}{o:L×Hp}(w:jE N.nms.length D.sc x=true)(q:dP x (.l J) fl T=some o)(h:HereS N Rm D fl hp I s)(f:CF N D s B)(c:zh6 N B I s J T s'){Q:Flow->Shared->Prop}(hQ:wN N Rm D I s o Q):
 WP N D (assign (.Name (aA N x) (pos px)) D.env (.ref B.dd)) (λU b=>∃m,b.heap.Ns B.cc m/\∀r,Heap.SameBut B.cc b.heap r->Q .next {b with heap:=r}) s':=by
 obtain⟨ρ1,H1,G1,R1,⟨m,g⟩,M⟩:=c;refine aB q λy q1 e=>?_
 obtain⟨k,E,S2,R2,_,d⟩:=lN (h.go G1 H1) (h.since.go G1) q1 R1;have i:B.cc∉D.fa:=λg=>h.live _ g f.c0
 have p:B.cc∉k.flatten:=by
  rcases d with q|⟨xs,a,_,ha,q⟩
  · rw[q];exact M
  · rw[q,cS]
    exact λz=>(Qo z).elim M λz=>f.cd ((Qf z).trans (Value.ref.inj ha).symm)
 refine wpAny_assign_Name (stS C w E R2 λv j Y=>?_);obtain⟨m2,n⟩:=nK ⟨m,g⟩ λo e=>Y.keep _ o e p i;obtain⟨o',ho,hi⟩:=lJ n;refine⟨m2,n,λr hs=>?_⟩;have u:Ch [B.cc] [] v {v with heap:=r}:=oV (t:=v.toks) ho hi hs j.h.H.gens;exact hQ k _ (prf e▸⟨⟨j.h.K,j.h.A,nP j.h.H u (dO p) (dO (h.h.H.base_none f.c0)),znc j.h.F u (dO i)⟩,znn j.C u (dO i)⟩) (wD (S2.G.transS Y) u (dO f.c0) nofun)
theorem zb7(C:CT N cx Rm){e y:FE}{n a:LN}{r:Nat}{j:List FE}{i:List (Nat×Nat)}{v x u p:Nat}{vs:List V}{h2:Hp}{o:L×Hp}(core:yls N D e n a r y j i v d s vs h2)(I:wE N.nms.length D.sc (.comp e n a r y j i v)=true)(w:jE N.nms.length D.sc x=true)(q:dP x (.l vs) fl h2=some o)(h:HereS N Rm D fl hp d s){Q:Flow->Shared->Prop}(g:wN N Rm D d s o Q):
 WP N D (exec (tS (aA N) (.asg [.name x u] (.comp e n a r y j i v) p)) D.env) Q s:=by
 show wpAny _ _ (exec (.Assign [tT (aA N) (.name x u)] (tE (aA N) (.comp e n a r y j i v)) (pos p)) D.env) _ _ _;rw[exec_Assign_arm];refine Qg (wpAny_standAt ?_);obtain⟨b,H⟩:=zcp (Ω:=N) (env:=D.env) (pos p).line (e:=e) (it:=y) (ts:=n) (tps:=a) (tp:=r) (ifs:=j) (sc':=i) (pc:=v) (x:=x) (px:=u);rw[H];refine Qg (Qh ?_);cases b with
 |false=>rw[if_neg Bool.false_ne_true];refine Qg (core (use:=none) λz B f c=>?_);obtain⟨m,T,k⟩:=zfy f h.h c;exact⟨m,T,λY J=>(k Y J).elim λG k=>vJ C (t:= .name x u) I (show aH (jE N.nms.length D.sc x) true=true by rw[w];rfl) q (h.of k.2.1 k.1) (h.since.go k.2.1) k.2.2 g⟩
 |true=>rw[if_pos rfl];refine Qg ?_;rw[zis];refine Qg (Qv (Q:=λU z=>Q .next z) (E:=D.E) ?_ (λU z M=>Qh (Qh M)) λU U e=>e);refine core λz B f c=>?_;show wpAny _ D.A (assign (.Name (aA N x) (pos u)) D.env (.ref B.dd)) _ _ _;exact zqv C w q h f c g
theorem zmp(h:yL e=true):∃a b c d f g h i,e= .comp a b c d f g h i:=by
 cases e with
 |comp _ _ _ _ _ _ _ _=>exact⟨_,_,_,_,_,_,_,_,rfl⟩
 |_=>exact ff h
theorem yaf(h:yag t=true):∃x p,t= .name x p:=by
 cases t with
 |name x p=>exact⟨x,p,rfl⟩
 |_=>exact ff h
theorem zui(C:CT N cx Rm):XOk N cx Rm (.asg [t] e p):=λ{D fl hp o w s Q} W h H J=>by
 refine aB H λr j H=>?_;refine aB H λx i H=>?_;cases prf H;have f:wN N Rm D w s x Q:=λm E T G'=>J m E .next T G' rfl
 cases z:(yL e&&yag t) with
 |false=>show wpAny _ _ (exec (.Assign [tT (aA N) t] (tE (aA N) e) (pos p)) D.env) _ _ _;rw[exec_Assign_arm];refine Qg (wpAny_standAt ?_);rw[zi5 _ z];refine Qg (Qh ?_);rw[if_neg Bool.false_ne_true];exact Qg ((both C e).1 (aF W).1 h.h j λu s1 v M q R1=>vJ C (aF W).1 (aF W).2 i (h.of q M) (h.since.go q) R1 f)
 |true=>
  obtain⟨a,b,c,d,G,I,B,pc,n⟩:=zmp ((Bool.and_eq_true _ _).mp z).1;obtain⟨y,py,l⟩:=yaf ((Bool.and_eq_true _ _).mp z).2;rw[n,l] at W;rw[n] at j;rw[l] at i;rw[n,l];refine zn0 j λr1 g y' g1 g2 g3 g4 Y=>?_
  rw[←Y] at i;exact zb7 C (λk=>pM C (both C a).1 (λc hc=>(both C c).2) (aF W).1 (zfv (C.rm _ h.h.A).1 _) (zjn C (both C G).1 (aF (aF W).1).1 h.h g1 g2) g3 g4 h.h k) (aF W).1 (aF (aF W).2).1 i h f
theorem zyx(h:zrw n a t=true):∃x p,t= .name x p/\jE n a x=true:=by
 cases t with
 |name x p=>exact⟨x,p,rfl,h⟩
 |_=>exact ff h
theorem zuh(C:CT N E Rm):∀{v:V} {u:Value} {fl:L} {o:L×Hp} {s:Shared} {Q:Unit->Shared->Prop},lE (zrw N.nms.length D.sc) c=true->mT E c v fl J=some o->HereS N Rm D fl J a s->VR a s.heap v u->
 (∀f,HereS N Rm D o.1 o.2 a f->Go D.fa a s a f->Q () f)->WP N D (assignAll u (c.map λt=>assign (tT (aA N) t) D.env)) Q s:=by
 induction c with
 |nil=>exact λW e h R g=>Qh (g _ (prf e▸h) (Go.refl _ _ _))
 |cons t r d=>
  intro v u fl o s Q W e h R g;obtain⟨x,p,q,w⟩:=zyx (aF W).1;subst q;have e:(bd (bW E (.name x p) (.v v) fl J) λx=>mT E r v x.1 x.2)=some o:=e;refine aB e λy k e=>?_;cases prf k;cases r with
  |nil=>exact wpAny_assign_Name (stS C w h R λi M b=>g i (prf e▸M) b)
  |cons m r=>exact Qg (wpAny_holding (wpAny_assign_Name (stS C w h R λi M b=>d (aF W).2 e M (b.vr R) λj B l=>g j B (b.transS l))))
theorem yb2(C:CT N E Rm):XOk N E Rm (.asg a e p):=by
 cases z:a1 a with
 |some t=>rw[vF z];exact zui C
 |none=>intro D I J o Y s Q W h H g;have W:aH (wE N.nms.length D.sc e) (byO (a1 a) (λt=>aH (wT N.nms.length D.sc t) (zqb t e)) (lE (zrw N.nms.length D.sc) a))=true:=W;rw[z] at W;have H:(bd (ev E I e J) λr=>goN (byO (a1 a) (λt=>bW E t r.1 I r.2) (bd (iZ r.1 r.2) λv=>mT E a v.1 I v.2)))=some o:=H;rw[z] at H;refine aB H λr m H=>?_;refine aB H λx H q=>?_;refine aB H λy l k=>?_;cases prf q;have b:=zyw (Ω:=N) (env:=D.env) (e:=e) z (pos p).line;refine wpAny_Assign_stores ((both C e).1 (aF W).1 h.h m λi s1 u M f d=>?_) b.1 b.2;obtain⟨c,B,n,w,_⟩:=lN (h.of f M) (h.since.go f) l d;rw[zd0];exact zuh C (aF W).2 k B w λj A T=>g c j .next A (n.G.transS T) rfl
end

section

theorem HereS.E(h:HereS N Rm D I J a s):HereS N Rm ⟨D.env,D.sc,D.fa,D.A,E'⟩ I J a s:=⟨⟨h.h.K,h.h.A,h.h.H,h.h.F⟩,h.C⟩
theorem HereS.E'{E':Value->Shared->Prop}(h:HereS N Rm ⟨D.env,D.sc,D.fa,D.A,E'⟩ I J a s):HereS N Rm D I J a s:=⟨⟨h.h.K,h.h.A,h.h.H,h.h.F⟩,h.C⟩
theorem zuo(e:iQ a w=some o)(h:w=(.brk,x)):o=(.next,x):=by cases h;exact(prf e).symm
theorem zun(e:iQ a w=some o)(h:w=(.ret r,x)):o=(.ret r,x):=by cases h;exact(prf e).symm
theorem zC(e:iQ a w=some o)(h:w=(.dry,x)):a x.1 x.2=some o:=by cases h;exact e
theorem zdc(e:nxt z more=some w)(i:iQ k w=some o)(r:FlR c a s b z.1 f)(h:HereS c Rm D z.2.1 z.2.2 a b)(G:Go D.fa j s a b)(g:qI c Rm D j s o Q)(M:more=some w->N):
 Flow.casesOn (motive:=λU=>Prop) f N (Q .next b) N (λv=>Q (.ret v) b):=by
 obtain⟨z,y⟩:=z;cases z with
 |next=>cases(show f= .next from r);exact M e
 |cont=>cases(show f= .cont from r);exact M e
 |brk=>cases(show f= .brk from r);cases zuo i (prf e).symm;exact g a b .next h G rfl
 |ret x=>obtain⟨v,q,r⟩:=r;cases q;cases zun i (prf e).symm;exact g a b (.ret v) h G ⟨v,rfl,r⟩
noncomputable def zut(Ω:Bx)(Rm:Around->Prop)(D:Dx)(ρ:Rho)(s:Shared)(T:L->TrT)(B:ExT)(w:LE×L×Hp)(n:Nat)(e:Shared):Prop:=
 ∃a b c,sG T B n c b=some w/\HereS Ω Rm D c b a e/\Go D.fa ρ s a e
theorem zii(C:CT N l Rm)(Ib:pQ N l Rm b)(w1:wE N.nms.length D.sc t=true)(w2:wSs N.nms.length D.sc b=true)(G:iQ (λI hp=>some (.next,I,hp)) w=some o)(g:qI N Rm D H s o Q)
 (i:zut N Rm D H s (λI h=>tr l I t h) (λI h=>exs l b I h) w n s5):wpAny N.M D.A (isTrue (tE (aA N) t) D.env (eval (tE (aA N) t) D.env)) (λc k=>
  if c then wpAny N.M D.A (execs (tSs (aA N) b) D.env) (λf a=>Flow.casesOn (motive:=λU=>Prop) f (∃m,m<n/\zut N Rm D H s (λI h=>tr l I t h) (λI h=>exs l b I h) w m a) (Q .next a) (∃m,m<n/\zut N Rm D H s (λI h=>tr l I t h) (λI h=>exs l b I h) w m a) (λv=>Q (.ret v) a)) E' k
  else wpAny N.M D.A (execs [] D.env) (λf a=>Q f a) E' k) E' s5:=by
 obtain⟨Y,hp5,fl5,e,B,G5⟩:=i;cases n with
 |zero=>exact nn e
 |succ n=>
  refine aB e λc q1 e=>?_;refine(both C t).2 (D:=⟨D.env,D.sc,D.fa,D.A,E'⟩) w1 B.E.h q1 λx s6 h6 T=>?_;have p:=B.E.of T h6;have j:=G5.trans0 T;cases z:c.1 with
  |true=>rw[z] at e;refine aB e λy q2 e=>?_;exact(if_pos rfl).symm▸Ib (D:=⟨D.env,D.sc,D.fa,D.A,E'⟩) w2 p q2 λu s7 f d J r=>zdc e G (zhq (dA j) r) d.E' (j.transS J) g λq=>⟨n,Nat.lt_succ_self n,u,y.2.2,y.2.1,q,d.E',j.transS J⟩
  |false=>rw[z] at e;exact(if_neg Bool.false_ne_true).symm▸wpAny_execs_nil (by cases prf (zC G (prf e).symm);exact g x s6 .next p.E' j rfl)
theorem zww(C:CT N E Rm)(j:pQ N E Rm b):XOk N E Rm (.whl t b p):=λ{D I J o a s Q} W h H g=>by
 refine aB H λw q e=>?_;exact wpAny_While (codeAny_whileLoop (zut N Rm D a s (λI h=>tr E I t h) (λI h=>exs E b I h) w) (λn k i=>Qv (zii C j (aF W).1 (aF W).2 e g i) (λc s x=>by
  cases c with
  |false=>exact x
  |true=>exact Qv x (λf s x=>by cases f<;>exact x) λU U x=>x) λU U x=>x) zo7 ⟨a,J,I,q,h,Go.refl _ _ _⟩)
structure ForI(Ω:Bx)(Rm:Around->Prop)(D:Dx)(ρ:Rho)(s:Shared)(ia:Addr)(ads:List Addr)(gi:LN)(src:Src)(ρ5:Rho)(hp5:Hp)(fl5:L)(s5:Shared):Prop where
 h:HereS Ω Rm D fl5 hp5 ρ5 s5
 G:Go D.fa ρ s ρ5 s5
 S:kA Ω D.A ia ads gi src ρ5 s5
 al:Al ia ads s5
 out:∀a∈ads,a∉ρ5.flatten
 fr:∀a∈ads,s.heap.get? a=none
section
theorem ForI.ch(i:ForI N Rm D m s r f n o b j l s5)(h:HereS N Rm D I J m s)(q:∀g∈n,s.gens.size≤g)(c:Ch f n s5 s6):HereS N Rm D l j b s6/\Go D.fa m s b s6:=
 have e:∀a∈f,a∉D.fa:=λa k p=>h.live a p (i.fr a k)
 ⟨⟨⟨i.h.h.K,i.h.h.A,nP i.h.h.H c i.out λa k=>h.h.H.base_none (i.fr a k),znc i.h.h.F c e⟩,znn i.h.C c e⟩,wD i.G c i.fr q⟩
theorem ForI.on(h:HereS N Rm D T J t s)(M:HereS N Rm D E z f k)(I:Go D.fa t s f k)(S6:kA N D.A q c C m f k)(b:Al q c k)(u:∀a∈c,a∉f.flatten)(w:∀a∈c,s.heap.get? a=none)(l:HereS N Rm D r hp8 j n)(G:Go D.fa f k j n):ForI N Rm D t s q c C m j hp8 r n:=by
 have p:∀a∈c,∀o,k.heap.get? a=some o->n.heap.get? a=some o:=λa i o e=>G.keep a o e (u a i) λd=>h.live a d (w a i);obtain⟨v,y,Q,B⟩:=b.own;exact⟨l,I.transS G,zvh S6 ⟨G.Ext,G.imm,p,λg U x e=>G.gens g x e,l.h.H.gens,λU=>l.h.H.tk,l.h.H.base⟩,⟨λa i=>(b.al a i).elim λo h=>⟨o,p a i o h.1,h.2⟩,⟨v,y,p q b.mem v Q,B⟩,b.mem⟩,
  λa i=>(b.al a i).elim λU h=>G.notIn h.1 (u a i),w⟩
end
noncomputable def yce(Ω:Bx)(Rm:Around->Prop)(D:Dx)(ρ:Rho)(s:Shared)(j:Addr)(k:LN)(f:V->L->Hp->Option (Fl×L×Hp))(w:LE×L×Hp)(n:Nat)(i:Shared):Prop:=
 ∃e b a c h,bR f n a c b=some w/\ForI Ω Rm D ρ s j h k a e b c i
noncomputable def zo8(Ω:Bx)(D:Dx)(T:Expr)(b h:List Stmt)(it:Value)(N:Shared->Prop)(Q:Flow->Shared->Prop)(E':Value->Shared->Prop)(s:Shared):Prop:=
 wpAny Ω.M D.A (pyNext it) (λr z=>byO r (λv=>wpAny Ω.M D.A (letOwnedTupleGo T it v) (λU c=>wpAny Ω.M D.A (assign T D.env v) (λU e=>wpAny Ω.M D.A (execs b D.env) (λf a=>Flow.casesOn (motive:=λU=>Prop) f (N a) (Q .next a) (N a) (λv=>Q (.ret v) a)) E' e) E' c) E' z)
  (wpAny Ω.M D.A (execs h D.env) (λf a=>Q f a) E' z)) E' s
theorem znf(C:CT N j Rm)(Ib:pQ N j Rm b)(Io:pQ N j Rm oe)(w1:wT N.nms.length D.sc t=true)(w3:wSs N.nms.length D.sc b=true)(w4:wSs N.nms.length D.sc oe=true)(ea:iQ (exs j oe) w=some o)(h:HereS N Rm D fl hp T s)(hg:∀g∈gi,s.gens.size≤g)(hQ:qI N Rm D T s o Q)
 (i:yce N Rm D T s ia gi (aX j t (exs j b)) w n s5):zo8 N D (tT (aA N) t) (tSs (aA N) b) (tSs (aA N) oe) (.ref ia) (λp=>∃m,m<n/\yce N Rm D T s ia gi (aX j t (exs j b)) w m p) Q E' s5:=by
 obtain⟨ρ5,hp5,src5,fl5,ads,e,i⟩:=i;cases n with
 |zero=>exact nn e
 |succ n=>
  refine aB e λz qn e=>?_;cases z with
  |none=>refine ze3 (C.rm _ h.h.A).1 i.h.h.H qn i.S (λU s6 c6=>?_) λx src' z=>nn z;obtain⟨d,k⟩:=i.ch h hg c6;exact Io (D:=⟨D.env,D.sc,D.fa,D.A,E'⟩) w4 d.E (zC ea (prf e).symm) λl s7 f h7 J r=>hQ l s7 f h7.E' (k.transS J) (zhq (dA k) r)
  |some y=>
   refine aB e λu Y e=>?_;refine aB Y λx qb Y=>?_;refine ze3 (C.rm _ h.h.A).1 i.h.h.H qn i.S (λz=>nn z.symm) λx' c z v s6 I g6 c6 B R6 S6=>?_;have zz:=Prod.mk.inj (prf z);obtain⟨d,k⟩:=i.ch h hg c6;obtain⟨io,ic,ho,hc,hw⟩:=B.own;refine qA ho hc hw ?_;refine sD (D:=⟨D.env,D.sc,D.fa,D.A,E'⟩) C w1 qb d.E d.E.since (r:= .v y.1) (zz.1▸R6) λl s7 h7 J=>?_;exact Ib (D:=⟨D.env,D.sc,D.fa,D.A,E'⟩) w3 h7 Y λM s8 f h8 G8 r=>zdc e ea (zhq (dA (k.transS J)) r) h8.E' (k.transS (J.transS G8)) hQ λq=>⟨n,Nat.lt_succ_self n,M,u.2.2,c,u.2.1,I,zz.2▸q,
    ForI.on h d k S6 B (λa ha=>(g6 a ha).elim (i.out a) λz=>i.h.h.H.notIn z) (λa ha=>(g6 a ha).elim (i.fr a) λz=>i.G.none z) h8.E' (J.transS G8)⟩
theorem zbs(I:Nat->Shared->Prop)(turn:∀n s,I n s->zo8 N D T b a c (λs=>∃m,m<n/\I m s) (λf=>R (.ok f)) (notedBy N.M D.A D.env λe u=>R (.error e) u) s)(n:Nat)(h:I n s):codeAny N.M D.A (.forLoop T c b a D.env) R s:=
 codeAny_forLoop_any I (λn s i=>Qv (turn n s i) (λr s x=>by
  cases r with
  |none=>exact x
  |some v=>exact Qv x (λU s x=>Qv x (λU s x=>Qv x (λf s x=>by cases f<;>exact x) λU U x=>x) λU U x=>x) λU U x=>x) λU U x=>x) n h
theorem ya1(C:CT N E Rm)(Ib:pQ N E Rm b)(Io:pQ N E Rm g):XOk N E Rm (.for_ t u b g p):=λ{D T hp o x s Q} W h e G=>by refine aB e λr d e=>?_;refine aB e λc z e=>?_;refine aB e λw y Y=>?_;have m:=aF (aF W).2;refine wpAny_For ((both C u).1 m.1 h.h d λa j v f q R1=>zfd (λA h=>(C.rm A h).1) C.wk f.A f.H (dA q).n z R1 λB l J h' k M=>?_) (wG _ u _);have I:=(h.of q f).go (Go.keeps [] a j (t:=j.toks) k) (f.H.heap (t:=j.toks) k f.H.tk);exact zbs (yce N Rm D x s B J (aX E t (exs E b)) w) (λn s5 i=>znf C Ib Io (aF W).1 (aF m.2).1 (aF m.2).2 Y h M.ad.gen G i) (mA c r.2) ⟨a,r.2,c,T,l,y,I,(mO q (t:=j.toks) k).any,M.at_,M.ad.al,M.ad.out,M.ad.fresh⟩
theorem ygb(C:CT N E Rm):XOk N E Rm (.ex e p):=λ{D I J o f s Q} W h H g=>by
 refine aB H λr q H=>?_;cases prf H;refine wpAny_Expr_any ((both C e).1 (aF W).2 h.h q λa c v M b i=>g a c .next (h.of b M) b.any rfl) ?_ ?_
 · unfold interactive
   rw[h.h.F.kind];rfl
 · have w:=(aF W).1
   clear W q;cases e with
   |comp _ _ _ _ _ _ _ _=>exact ff w
   |_=>rfl
theorem yby(C:CT N Y Rm):XOk N Y Rm (.aug x q op e p):=λ{D fl hp o ρ s Q} W h f I=>by
 refine aB f λu E f=>?_;refine aB f λr B f=>?_;refine aB f λa A f=>?_;refine aB f λb z f=>?_;refine aB f λc d f=>?_;cases prf f;have w:=aF (aF W).2;have j:lv D.sc x=true:=by unfold lv;rcases(zcv (aF W).1).2 with g|g<;>rw[g]<;>rfl
 refine wpAny_AugAssign_Name (ze4 C E j h.h.K h.h.F λu' l=>?_);rw[zT A] at l;obtain⟨t,T⟩:=l;rw[T];exact(both C e).1 w.2 h.h B λi y v M m R1=>rvI_e z R1 λt'=>cM M.H.tk (zuf (Ω:=N) (ρ:=i) (s₀:=s) w.1 d λv h' t k R G=>
  have g:=Go.keeps [] i y (t:=t) k
  stS C (aF W).1 ((h.of m M).go g (M.H.heap (t:=t) k G)) R λn J G3=>I i n .next J ((m.trans0 g).any.transS G3) rfl)
theorem yfx(C:CT N E Rm)(n:pQ N E Rm a)(m:pQ N E Rm b):XOk N E Rm (.ife t a b p):=λ{D I J o v s Q} W h H g=>by
 refine aB H λx q H=>?_;have w:=aF (aF W).2;refine wpAny_If ((both C t).2 (aF W).1 h.h q λi l M c=>?_);have k:qI N Rm D i l o Q:=λe j f B u r=>g e j f B (c.any.transS u) (zhq (dA c) r);cases z:x.1 with
 |true=>rw[z] at H;exact(if_pos rfl).symm▸n w.1 (h.of c M) H k
 |false=>rw[z] at H;exact(if_neg Bool.false_ne_true).symm▸m w.2 (h.of c M) H k
theorem zya(C:CT N E Rm):XOk N E Rm (.ret e p):=λ{D I J o i s Q} W h H g=>by refine aB H λr q H=>?_;cases prf H;exact wpAny_Return_some ((both C e).1 W h.h q λa c v M b f=>g a c (.ret v) (h.of b M) b.any ⟨v,rfl,f⟩)
theorem ybj(C:CT N cx Rm):XOk N cx Rm (.del t i q p):=λ{D fl hp o ρ s Q} W h a hQ=>by
 refine aB a λqq T a=>?_;refine aB a λn z a=>?_;refine aB a λj M a=>?_;refine aB a λk d a=>?_;refine aB a λcd J a=>?_;refine aB a λtb I a=>?_;refine aB a λf G a=>?_;refine aB a λw E a=>?_;refine aJ a λg a=>?_;cases prf a;have base:EV N D t (λb u=>EV N D i (λc l=>WP N D (delItem b c) (λU r=>Q .next r) l) u) s:=
  oJ (both C t).1 (both C i).1 W h.h T M λe l va vb B y R1 R2=>C.deli (ρ₀:=e) (s₀:=l) B.A (pI J) I G (E.trans (congrArg some (Prod.ext (zyf g) rfl))) B.H (Go.refl [] e l) (base_none B.H) (zjy z R1) (rvV d R2) λm r H3 v=>
   hQ m r .next ((h.of y B).go v H3) (y.trans0 v).any rfl
 refine wpAny_Delete (wpAny_deleteEach_cons ?_);show wpAny _ _ (do
  let b←eval (tE (aA N) t) D.env
  let c←holding [b] (eval (tE (aA N) i) D.env)
  standAt (pos q)
  holding [b,c] (delItem b c)
  release [b,c] []) _ _ _
 exact Qg (Qv base (λb u h1=>Qg (wpAny_holding (Qv h1 (λc l Y=>Qg (wpAny_standAt (Qg (wpAny_holding (Qv Y (λU U x=>wpAny_release (wpAny_deleteEach_nil x)) λU U x=>x))))) λU U x=>x))) λU U x=>x)
theorem zie(C:CT N E Rm)(c:FS):XOk N E Rm c:=
 FS.rec (motive_1:=λc=>XOk N E Rm c) (motive_2:=λb=>pQ N E Rm b)
  (λn e p=>yb2 C) (λe p=>ygb C) (λx q r e p=>yby C) (λt a b p m f=>yfx C m f) (λt b p f=>zww C f) (λt v b u p f l=>ya1 C f l) (λe p=>zya C)
  (λp {D I J o k s Q} W h H g=>by cases prf H;exact wpAny_Return_none (g _ _ (.ret .none) h (Go.refl _ _ _) ⟨.none,rfl,rfl⟩))
  (λp {D I J o k s Q} W h H g=>by cases prf H;exact λU U U=>g _ _ .brk h (Go.refl _ _ _) rfl)
  (λp {D I J o k s Q} W h H g=>by cases prf H;exact wpAny_Pass (g _ _ .next h (Go.refl _ _ _) rfl))
  (λo i q p=>ybj C) (λc {D I J o k s Q} W h H=>nn H) zia (λc b i j=>zed i j) c
theorem zec(C:CT N E Rm)(b:List FS):pQ N E Rm b:=by
 induction b with
 |nil=>exact zia
 |cons a b d=>exact zed (zie C a) d
end

structure Rm(d:Nat)(A:Around):Prop where
 hd:A.handled=none
 dp:A.depth+d<recursionLimit
 un:A.units+20*d+100<cLine
theorem Rm.deeper(R:Rm (d+1) A)(C:Env):Rm d (A.deeper C):=⟨R.hd,by have:=R.dp;show A.depth+1+d<_;lia,by have:=R.un;show A.units+3+20*d+100<_;lia⟩
def scM(b:Nat->Str)(a:List (Nat×Nat))(c:List (Str×Const)):Scope:={kind:= .function,names:=scN b a,isGenerator:=false,isCoroutine:=false,more:=c}
def yP(n:Nat):List (Nat×Nat)->LN->Bool
 |[],_=>true
 |p::r,seen=>aH (or2 (ltB p.1 n) (Nat.beq p.2 4)) (aH (bH (tD p.1 seen)) (aH (or2 (Nat.ble p.2 1) (Nat.beq p.2 4)) (yP n r (p.1::seen))))
theorem k01(h:Nat.ble k 1=true):k=0∨k=1:=match k,h with
 |0,_=> .inl rfl
 |1,_=> .inr rfl
theorem yk5{n:Nat}{p:Nat×Nat}{r:List (Nat×Nat)}{seen:LN}(h:yP n (p::r) seen=true):(p.2≠4->p.1<n)/\p.1∉seen/\(p.2=0∨p.2=1∨p.2=4)/\yP n r (p.1::seen)=true:=
 have B:=aF (aF h).2;have A:=aF B.2
 ⟨λa=>(sV (aF h).1).elim jS λq=>absurd (aN q) a,rC B.1,(sV A.1).elim (λq=>(k01 q).imp id .inl) λq=> .inr (.inr (aN q)),A.2⟩
theorem gD:∀{seen:LN},yP n f seen=true->look f x=some k->(k≠4->x<n)/\x∉seen/\(k=0∨k=1∨k=4):=by
 induction f with
 |nil=>exact λU h=>nn h
 |cons p r d=>
  intro seen h e;obtain⟨M,B,A,l⟩:=yk5 h;rcases fZ e with⟨q,i⟩|e
  · exact q▸i▸⟨M,B,A⟩
  · obtain⟨a,b,c⟩:=d l e
    exact⟨a,λj=>b (.tail _ j),c⟩
structure Apart(Ω:Bx):Prop where
 inj:∀x y,x<Ω.nms.length->y<Ω.nms.length->aA Ω x=aA Ω y->x=y
 dbg:∀x,x<Ω.nms.length->(aA Ω x==("__debug__":Str))=false
section
variable{s s₀ sB s1:Shared}

theorem CT.apart(C:CT N E a):Apart N:=⟨C.inj,λx h=>(C.dbg x h).1⟩
theorem zkr(h:¬x<N.nms.length):aA N x="__debug__":=by unfold aA;rw[List.getD_eq_getElem?_getD,List.getElem?_eq_none (Nat.not_lt.mp h)];rfl
theorem Apart.eq(N:Apart a)(j:x<a.nms.length)(e:aA a x=aA a y):x=y:=by
 by_cases b:y<a.nms.length
 · exact N.inj x y j b e
 · exact absurd ((beq_iff_eq).mpr (e.trans (zkr b))) (Bool.eq_false_iff.mp (N.dbg x j))
theorem vZ(N:Apart a)(j:x<a.nms.length):List.lookup (aA a x) (scN (aA a) b)=(look b x).map gS:=by
 induction b with
 |nil=>rfl
 |cons p r d=>
  show List.lookup _ ((aA a p.1,gS p.2)::_)=Option.map _ (cs (Nat.beq p.1 x) (some p.2) (look r x));rw[List.lookup_cons];cases q:Nat.beq p.1 x with
  |true=>rw[aN q,beq_self_eq_true];rfl
  |false=>rw[beq_eq_false_iff_ne.mpr λe=>lD q (N.eq j e).symm];exact d
theorem tY(N:Apart b)(j:x<b.nms.length):∀{n:Nat} {a:List (Str×Addr)},(look f x=some 1∨(a.lookup (aA b x)).isSome=true)->((cellsFrom n (scN (aA b) f) a).lookup (aA b x)).isSome=true:=by
 induction f with
 |nil=>exact λh=>h.elim (λh=>nn h) id
 |cons p r d=>
  intro n a h;show(List.lookup _ (if(gS p.2== .cell)=true then cellsFrom (n+1) (scN (aA b) r) ((aA b p.1,n)::a) else cellsFrom n (scN (aA b) r) a)).isSome=true;by_cases c:(gS p.2== .cell)=true
  · rw[if_pos c]
    refine d ?_;rw[List.lookup_cons];by_cases e:aA b x=aA b p.1
    · exact .inr (by rw[e,beq_self_eq_true];rfl)
    · rw[beq_eq_false_iff_ne.mpr e]
      exact h.imp (λh=>(fZ h).elim (λq=>absurd (congrArg (aA b) q.1).symm e) id) id
  · rw[if_neg c]
    exact d (h.imp (λh=>(fZ h).elim (λq=>absurd (by rw[q.2];rfl) c) id) id)

theorem zhz{B:List (Str×Value)->(Str->Option Value)->Str->Option Value}{c:Str->Prop}(i:∀m,B [] m=m)(M:∀n v r m,(c n/\B ((n,v)::r) m=B r (λy=>if y=n then some v else m y))∨B ((n,v)::r) m=B r m){z:Str}{T:LN}:∀{f:List Value} {m:Str->Option Value},z∉T.map (aA N)->B ((T.map (aA N)).zip f) m z=m z:=by
 induction T with
 |nil=>exact λU=>congrFun (i _) z
 |cons a r d=>
  intro f m h;cases f with
  |nil=>exact congrFun (i _) z
  |cons b t=>
   rw[List.map_cons,List.mem_cons] at h;have e:z∉r.map (aA N):=λq=>h (.inr q);rcases M (aA N a) b ((r.map (aA N)).zip t) m with⟨_,q⟩|q
   · exact(congrFun q z).trans ((d e).trans (if_neg λq=>h (.inl q)))
   · exact(congrFun q z).trans (d e)
theorem zfz{B:List (Str×Value)->(Str->Option Value)->Str->Option Value}{c:Str->Prop}(k:∀m,B [] m=m)(M:∀n v r m,(c n/\B ((n,v)::r) m=B r (λy=>if y=n then some v else m y))∨B ((n,v)::r) m=B r m)(j:∀n v r m,c n->B ((n,v)::r) m=B r (λy=>if y=n then some v else m y)){u:Value}(f:c (aA N x)){T:LN}:∀{b:List Value} {m:Str->Option Value},(T.map (aA N)).Nodup->(x,u)∈T.zip b->B ((T.map (aA N)).zip b) m (aA N x)=some u:=by
 induction T with
 |nil=>exact λU h=>nomatch h
 |cons y r d=>
  intro b m i h;cases b with
  |nil=>exact nomatch h
  |cons v t=>
   obtain⟨e,a⟩:=List.nodup_cons.mp i;rcases Qe h with h|h
   · have q:=Prod.mk.inj h
     rw[q.1] at f⊢;rw[q.2];exact(congrFun (j _ _ _ _ f) _).trans ((zhz k M e).trans (if_pos rfl))
   · rcases M (aA N y) v ((r.map (aA N)).zip t) m with⟨_,q⟩|q
     · exact(congrFun q _).trans (d a h)
     · exact(congrFun q _).trans (d a h)
section
variable{kd:Str->Option NameKind}{xs:LN}
theorem zf0(n:Str)(v:Value)(r:List (Str×Value))(m:Str->Option Value)(h:kd n=some .local):bindL kd ((n,v)::r) m=bindL kd r (λy=>if y=n then some v else m y):=congrArg (bindL kd r) (if_pos h)
theorem zf1(n:Str)(v:Value)(r:List (Str×Value))(m:Str->Option Value)(h:kd n≠some .local):PySem.bindC kd ((n,v)::r) m=PySem.bindC kd r (λy=>if y=n then some v else m y):=congrArg (PySem.bindC kd r) (if_neg h)
theorem zof(b:(xs.map (aA N)).Nodup)(h:(x,u)∈xs.zip a)(e:kd (aA N x)=some .local):bindL kd ((xs.map (aA N)).zip a) m (aA N x)=some u:=
 zfz (c:=λn=>kd n=some .local) (λU=>rfl) (λn v r m=>(Decidable.em (kd n=some .local)).imp (λh=>⟨h,zf0 n v r m h⟩) λh=>congrArg (bindL kd r) (if_neg h)) zf0 e b h
theorem zoh(b:(xs.map (aA N)).Nodup)(h:(x,u)∈xs.zip a)(e:kd (aA N x)≠some .local):PySem.bindC kd ((xs.map (aA N)).zip a) m (aA N x)=some u:=
 zfz (c:=λn=>kd n≠some .local) (λU=>rfl) (λn v r m=>(Decidable.em (kd n=some .local)).symm.imp (λh=>⟨h,zf1 n v r m h⟩) λh=>congrArg (PySem.bindC kd r) (if_pos h)) zf1 e b h
end
theorem zl2{T:LN}{v:V}:∀{vs:List V},look (T.zip vs) x=some v->∃i:Nat,T[i]? =some x/\vs[i]? =some v:=by
 induction T with
 |nil=>exact λh=>nn h
 |cons y r d=>
  intro vs h;cases vs with
  |nil=>exact nn h
  |cons u t=>
   rcases fZ h with⟨q,a⟩|h
   · exact⟨0,congrArg some q,congrArg some a⟩
   · exact(d h).elim λi h=>⟨i+1,h⟩
theorem zko(N:Apart c){l:LN}(M:l.Nodup)(B:∀x∈l,x<c.nms.length):(l.map (aA c)).Nodup:=by
 induction l with
 |nil=>exact List.nodup_nil
 |cons a l d=>obtain⟨h,f⟩:=List.nodup_cons.mp M;exact We ⟨λe=>(List.mem_map.mp e).elim λy b=>h (N.inj y a (B y (.tail _ b.1)) (B a (.head _)) b.2▸b.1),d f λx j=>B x (.tail _ j)⟩

def faC(N:Bx)(C:Env):List Addr:=(List.range N.nms.length).filterMap λx=>C.cells.lookup (aA N x)
theorem yR:a∈faC N C↔∃x,x<N.nms.length/\C.cells.lookup (aA N x)=some a:=
 ⟨λh=>(List.mem_filterMap.mp h).elim λx h=>⟨x,List.mem_range.mp h.1,h.2⟩,λh=>List.mem_filterMap.mpr (h.elim λx h=>⟨x,List.mem_range.mpr h.1,h.2⟩)⟩
structure Pars(Ω:Bx)(sc:List (Nat×Nat))(ps:LN):Prop where
 ok:yP Ω.nms.length sc []=true
 nd:ps.Nodup
 k:∀x∈ps,look sc x=some 0∨look sc x=some 1
theorem Pars.lt(P:Pars N b a)(j:x∈a):x<N.nms.length:=(P.k x j).elim (λq=>(gD P.ok q).1 (by decide)) λq=>(gD P.ok q).1 (by decide)
theorem uA(N:Apart c)(P:Pars c f j)(l:b∈(j.map (aA c)).zip m):List.lookup b.1 (scN (aA c) f)=some .local∨(List.lookup b.1 (scN (aA c) f)=some .cell/\((cellsFrom n (scN (aA c) f) []).lookup b.1).isSome=true):=by
 obtain⟨y,h,e⟩:=List.mem_map.mp (List.of_mem_zip (a:=b.1) (b:=b.2) l).1;have i:=P.lt h;rw[←e,vZ N i];rcases P.k y h with q|q
 · exact .inl (by rw[q];rfl)
 · exact .inr ⟨by rw[q];rfl,tY N i (.inl q)⟩
structure Frm(Ω:Bx)(env:Env)(sc:List (Nat×Nat))(fl:L)(ρ:Rho)(hp:Hp)(sB s1:Shared):Prop where
 K:KN Ω env sc
 H:HS Ω ρ hp s1
 G:Go [] ρ sB ρ s1
 F:FR Ω env (env.locals::faC Ω env) fl ρ s1
 C:FC Ω env (env.locals::faC Ω env) s1
 fresh:∀a∈env.locals::faC Ω env,sB.heap.get? a=none
theorem yfs(N:Apart a)(b:yP a.nms.length c []=true)(M:C.scope.names=scN (aA a) c)(B:C.cells=cellsFrom n (scN (aA a) c) []):KN a C c:=by
 have e:∀x,x<a.nms.length->C.kindOf (aA a x)=(look c x).map gS:=λx j=>(congrArg (List.lookup (aA a x)) M).trans (vZ N j);have f:∀{x k},look c x=some k->k≠4->C.kindOf (aA a x)=some (gS k):=λ{x k} q h=>by rw[e x ((gD b q).1 h),q];rfl
 refine⟨λx q=>f q (by decide),λx q=>f q (by decide),λx q=>?_,λx j q=>by rw[e x j,q];rfl,λx j q=>by rw[e x j,q];rfl⟩;have q:look c x=some 1:=q.elim id λq=>(gD b q).2.2.elim nofun λz=>z.elim nofun nofun;exact⟨.inl (f q (by decide)),Option.isSome_iff_exists.mp (B▸tY N ((gD b q).1 (by decide)) (.inl q))⟩
theorem zch{a:LN}{G:List V}{b:List Value}(e:VRs c s.heap G b){v:V}(h:look (a.zip G) x=some v):x∈a/\∃u,(x,u)∈a.zip b/\VR c s.heap v u:=by obtain⟨i,B,A⟩:=zl2 h;obtain⟨u,j,f⟩:=e.nth (n:=i) (x:=v) ((bX G i).trans A);exact⟨List.mem_of_getElem? B,u,List.mem_of_getElem? (i:=i) (List.getElem?_zip_eq_some.mpr ⟨B,j⟩),f⟩
theorem zbp(N:Apart m){d:LN}(P:Pars m D d)(H:HS m A hp sB){g:List Value}{Y:List V}(M:VRs A sB.heap Y g)(e1:C.scope.kind= .function)(e2:C.scope.names=scN (aA m) D)(e3:C.globals=mainGlobals)(e4:C.builtins=builtinsNs)(e5:C.locals=sB.heap.objs.size)(e6:C.cells=cellsFrom (sB.heap.objs.size+1) (scN (aA m) D) [])
 (I:InCallC sB C.locals (bindL C.kindOf ((d.map (aA m)).zip g) λU=>none) C.cells (PySem.bindC C.kindOf ((d.map (aA m)).zip g) λU=>none) s1) (ht:0<s1.toks):Frm m C D (d.zip Y) A hp sB s1:=by
 have Q:=zko N P.nd λx j=>P.lt j;have K:=yfs N P.ok e2 e6;have fresh:∀a∈C.locals::faC m C,sB.heap.get? a=none:=λa t=>iA (o:=(none:Option Obj)) (λo q=>absurd (Qw q) (Nat.not_lt.mpr ((Qe t).elim (λe=>Nat.le_of_eq (e.trans e5).symm) λt=>(yR.mp t).elim λx h=>Wf (e5▸I.above _ a (PySem.mem_of_lookup h.2))))) rfl;have l:∀{n c},C.cells.lookup n=some c->c≠C.locals:=λ{n c} h e=>Qr _ (e▸I.above n c (PySem.mem_of_lookup h));obtain⟨T,t1,G⟩:=I.toInCall.same;have f:=I.toInCall.keep;subst G;have mono:∀{v:V} {u:Value},VR A sB.heap v u->VR A T v u:=λR=>VR.mono (Ext.refl A) (λb o e U=>f b o e) _ _ R;have i:∀{x c},x<m.nms.length->C.cells.lookup (aA m x)=some c->c∈C.locals::faC m C:=λ{x c} j h=> .tail _ (yR.mpr ⟨x,j,h⟩);refine⟨K,H.heap f ht,Go.keeps [] A sB f,⟨e1,e3,e4,λx v h=>P.lt (zch M h).1,⟨_,I.toInCall.ns,λx v h p=>?_⟩,λx v h p=>?_,.head _,λa t=>H.notIn (fresh a t),λa t=>?_⟩,
  ⟨λx c j J=>⟨i j J,l J,_,I.cell _ c J⟩,λx y c j hy T h2=>N.inj x y j hy (name_of_addr I.apart (PySem.mem_of_lookup T) (PySem.mem_of_lookup h2)),λx j p=>?_,λa t=>H.base_none (fresh a t)⟩,fresh⟩
 · obtain⟨j,u,E,B⟩:=zch M h
   exact⟨u,zof Q E p,mono B⟩
 · obtain⟨j,u,E,B⟩:=zch M h
   have q:look D x=some 1:=(P.k x j).elim (λq=>by rw[K.loc x q] at p;exact p.elim nofun nofun) id;obtain⟨c,w⟩:=(K.cel x (.inl q)).2;have r:=I.cell _ c w;rw[zoh Q E (by rw[K.one x q];nofun)] at r;exact⟨c,u,w,r,i (P.lt j) w,l w,mono B⟩
 · exact(Qe t).elim (λq=>q▸lJ I.toInCall.ns) λt=>(yR.mp t).elim λx h=>wJ (I.cell _ _ h.2)
 · cases q:look D x with
   |none=>rw[K.no x j q] at p;exact nn p
   |some k=>
    rcases(gD P.ok q).2.2 with z|z|z
    · rw[K.loc x (z▸q)] at p;exact absurd p nofun
    · exact(K.cel x (.inl (z▸q))).2
    · rw[K.glo x j (z▸q)] at p;exact absurd p nofun
theorem tK(N:Apart Ω)(J:A.depth<recursionLimit){K:Frag}(y:K.In s.heap)(i:Ω.h₀.NoLimit){f:Addr}{d:Value}{D:Option Addr}{n:Array (Option Value)}{name b:Str}{q:List (Str×Const)}{a:Arguments}{body:List Stmt}{t r j p e u:Value}{w:Option Addr}
 (E:K.lookup f=some ⟨d,D,.func (fnOf name b a body (scM (aA Ω) k q) t r j p w e u),n⟩) (o:codeIn K e b=true) {m:LN} (P:Pars Ω k m)
 (H:HS Ω ρ hp sB) {args:Args} {us:List Value} {vs:List V} (c:∀(T:Around) (E':Value->Shared->Prop) (Q:List (Str×Value)->Shared->Prop),Q ((m.map (aA Ω)).zip us) sB->wpAny Ω.M T (bindArgs (fnOf name b a body (scM (aA Ω) k q) t r j p w e u) args) Q E' s) (G:VRs ρ sB.heap vs us)
 {R:Result->Shared->Prop} (l:∀(C:Env) (s1:Shared) (E':Value->Shared->Prop),Frm Ω C k (m.zip vs) ρ hp sB s1->wpAny Ω.M (A.deeper C) (execs body C) (λf z=>R (.ok (.ret (match f with| .ret v=>v|_=> .none))) z) E' s1):codeAny Ω.M A (.call (.ref f) args) R s:=
 codeAny_call_function J (y _ _ E) rfl rfl rfl rfl (codeRec_of y o) (c _ _ _ (cM H.tk (wpAny_newFunctionEnv_cells rfl (λx g=>uA N P g) λC h s1 I B=>
  ⟨(i.keeps H.base).keeps I.toInCall.keep,codeAny_func (l C _ _ (zbp N P H G (by rw[h];rfl) (by rw[h];rfl) (by rw[h];rfl) (by rw[h];rfl) (by rw[h];rfl) (by rw[h];rfl) I B))⟩)))
theorem zvo{w:Fl×L×Hp}{r:RV×Hp}(e:xT w=some r){G:Prop}(b:w.1= .next->(.v .none,w.2.2)=r->G)(a:∀x,w.1= .ret x->(x,w.2.2)=r->G):G:=by
 obtain⟨w,y⟩:=w;cases w with
 |next=>exact b rfl (prf e)
 |ret x=>exact a x rfl (prf e)
 |_=>exact nn e
theorem zs2(C:CT N cx T){d:Nat}(J:∀A,Rm d A->T A)(hA:Rm (d+1) A){K:Frag}(X:K.In N.h₀)(t:N.h₀.NoLimit){f:Addr}{oc:Value}{od:Option Addr}{E:Array (Option Value)}{name j:Str}{mr:List (Str×Const)}{c:Arguments}{b:List FS}{dV kV y pm n ct:Value}{an:Option Addr}
 (ho:K.lookup f=some ⟨oc,od,.func (fnOf name j c (tSs (aA N) b) (scM (aA N) g mr) dV kV y pm an n ct),E⟩) (I:codeIn K n j=true) {B:LN} (P:Pars N g B) (hw:wSs N.nms.length g b=true)
 (H:HS N Y hp s) (G:Go [] i s₀ Y s) {args:Args} {us:List Value} {vs:List V} (l:BindsTo s (fnOf name j c (tSs (aA N) b) (scM (aA N) g mr) dV kV y pm an n ct) args ((B.map (aA N)).zip us)) (hR:VRs Y s.heap vs us)
 {r:RV×Hp} (e:body cx b (B.zip vs) hp=some r) {R:Result->Shared->Prop} (hQ:gB N i s₀ r.1 r.2 λv p=>R (.ok (.ret v)) p):codeAny N.M A (.call (.ref f) args) R s:=by
 refine tK C.apart (Qq (Nat.le_add_right _ _) hA.dp) (λa o q=>H.base a o (X a o q)) t ho I P H (λA' E' Q q=>l _ _ _ _ q) hR λk s1 E' F=>?_;refine aB e λw q e=>?_;refine zec C b (D:=⟨k,g,k.locals::faC N k,A.deeper k,E'⟩) hw ⟨⟨F.K,J _ (hA.deeper _),F.H,F.F⟩,F.C⟩ q λm p fw h' G' r=>?_;have done:Go [] i s₀ m p:=(G.trans0 F.G).trans G' λa ha=> .inr (G.none (F.fresh a ha));refine zvo e (λz q=>?_) λx z q=>?_
 · rw[z] at r
   rw[show fw= .next from r];exact hQ m p .none (q▸h'.h.H) done (q▸rfl)
 · rw[z] at r
   obtain⟨u,eu,hu⟩:=r;rw[eu];exact hQ m p u (q▸h'.h.H) done (q▸pV (dA (G.trans0 F.G)) hu)

theorem ziv(A:Around)(Cl:Addr)(a:List Value)(b:List (Str×Value))(R:Rm (d+1) A):Rm d (A.under (.builtin "type.__call__" ⟨.ref Cl::a,b⟩)):=by
 refine⟨R.hd,?_,?_⟩
 · have:=R.dp
   rw[depth_under_kw];lia
 · have:=R.un
   have e:(Code.builtin "type.__call__" ⟨.ref Cl::a,b⟩).cUnits≤10:=by
    show(_:Nat)≤10
    first|exact Qa rfl|decide|(unfold Code.cUnits;split<;>simp)
   show A.units+_+20*d+100<cLine
   lia
theorem zrx{h:Heap}{o1 o2:Obj}(c:o1.isFreed=false)(a:o2.isFreed=false):h.get? h.objs.size=none/\h.get? (h.objs.size+1)=none/\((h.push o1).push o2).get? h.objs.size=some o1/\((h.push o1).push o2).get? (h.objs.size+1)=some o2/\∀b o,h.get? b=some o->((h.push o1).push o2).get? b=some o:=
 ⟨dZ h,iA (o:=(none:Option Obj)) (λU e=>absurd (Qw e) (Nat.not_lt.mpr (Qt _))) rfl,Qc _ (Qk _ c),Heap.size_push (h:=h) (o:=o1)▸Qk (h.push o1) a,λU U e=>Qc _ (Qc _ e)⟩
theorem zmr{c:Heap}{g:Array GenState}{l:Drawn}{t:Nat}{j:OsState}(H:HS N i J ⟨c,g,l,t,j⟩)(G:Go [] Q s₀ i ⟨c,g,l,t,j⟩)(Cl:Addr):
 HS N (i++[[c.objs.size+1,c.objs.size]]) (J++[.inst Cl []]) ⟨(c.push emptyDict).push (instObj Cl c.objs.size),g,l,t,j⟩/\Go [] Q s₀ (i++[[c.objs.size+1,c.objs.size]]) ⟨(c.push emptyDict).push (instObj Cl c.objs.size),g,l,t,j⟩∧
 VR (i++[[c.objs.size+1,c.objs.size]]) ((c.push emptyDict).push (instObj Cl c.objs.size)) (.ref (len J)) (.ref (c.objs.size+1)):=by
 obtain⟨n,m,w,u,k⟩:=zrx (h:=c) (o1:=emptyDict) (o2:=instObj Cl c.objs.size) rfl rfl;have f:=mO G (t:=t) k;refine⟨(H.heap (t:=t) k H.tk).take (o:= .inst Cl []) (e:=[c.objs.size+1,c.objs.size]) ⟨_,_,[],0,rfl,u,w,rfl,Qb _⟩ (We ⟨λh=>Nat.succ_ne_self _ (Qf h),We ⟨Qj,List.nodup_nil⟩⟩) (kR (H.notIn m) (H.notIn n)) (kR (H.base_none m) (H.base_none n)),
  ⟨?_,f.keep,f.imm,f.grow,f.gens,f.os⟩,⟨_,[c.objs.size],?_,rfl⟩⟩
 · obtain⟨r,q,v⟩:=f.ext
   exact⟨r++[[c.objs.size+1,c.objs.size]],q▸List.append_assoc _ _ _,λb x=>(Qo (cS r _▸x)).elim (v b) (kR (p:=λa=>s₀.heap.get? a=none) (G.none m) (G.none n) b)⟩
 · rw[aK,H.len,←aK];exact nJ i _
theorem ybn{d:Nat}(T:Rm (d+1) A){K:Frag}(X:K.In Ω.h₀){Cl p:Addr}(D:makesIn K Cl=true)(B:findIn K (.ref Cl) "__init__"=some (some (.ref p)))(I:typeIn K (.ref p)=some (.type "function"))
 (H:HS Ω w J s) (G:Go [] h s₀ w s) {i:List Value} {n:List (Str×Value)} {j:Hp}
 {Q:Value->Shared->Prop} (N:gB Ω h s₀ (.v (.ref (len J))) j Q)
 (l:∀{f:Rho} {s1:Shared} {z:Around} {x:Addr} {R:Result->Shared->Prop},Rm d z->HS Ω f (J++[.inst Cl []]) s1->(∀{v:V} {u:Value},VR w s.heap v u->VR f s1.heap v u)->VR f s1.heap (.ref (len J)) (.ref x)->(gB Ω f s1 (.v .none) j λv k=>R (.ok (.ret v)) k)->
  codeAny Ω.M z (.call (.ref p) ⟨.ref x::i,n⟩) R s1):
 wpAny Ω.M A (call (.ref Cl) i n) Q E s:=by
 obtain⟨C,g,dr,t,os⟩:=s;have r:K.In C:=λa o q=>H.base a o (X a o q)
 refine wpAny_call (make_core (makes_of r D) (looks_findIn r B) (λself=>bind_fn r self I) (.inl rfl) ?_);obtain⟨H2,G1,c⟩:=zmr H G Cl;exact l (ziv A Cl i n T) H2 (λR=>VR.mono (Ext.append _ _) (λb o e U=>Qc _ (Qc _ e)) _ _ R) c λm k v H' y Y=>⟨Y,N m k _ H' (G1.trans0 y) (y.vr c)⟩
end

theorem ziw{e:Type}(a b c:Nat)(x y:e):cs (Nat.ble a c) (cs (Nat.ble c b) x y) y=if a≤c/\c≤b then x else y:=by
 cases h:Nat.ble a c with
 |false=>exact(if_neg λq=>by rw[Nat.ble_eq_true_of_le q.1] at h;exact ff h.symm).symm
 |true=>
  cases B:Nat.ble c b with
  |false=>exact(if_neg λq=>by rw[Nat.ble_eq_true_of_le q.2] at B;exact ff B.symm).symm
  |true=>exact(if_pos ⟨Qa h,Qa B⟩).symm
theorem zr7(c:Nat):qO c=lo1 c:=ziw 65 90 c (c+32) c
theorem zpx(c:Nat):zgh c=up1 c:=ziw 97 122 c (c-32) c
theorem zld(x:LN)(f g:Nat->Nat)(h:∀c,f c=g c):(⟨x.toArray.map f⟩:Str)=St (x.map g):=by rw[List.map_toArray,show f=g from funext h]
theorem za2(h:sOk x):Txt.lower (St x)=St (x.map qO):=
 (lower_ascii (x:=St x) λc a=>bJ h.1 c a).trans (zld x lo1 qO λc=>(zr7 c).symm)
theorem zU(h:sOk x):Txt.upper (St x)=St (x.map zgh):=
 (upper_ascii (x:=St x) λc a=>bJ h.1 c a).trans (zld x up1 zgh λc=>(zpx c).symm)
theorem zlc(h:sOk x)(b:∀c:Fin 128,f c.1<128):sOk (x.map f):=
 ⟨fS λc e=>(List.mem_map.mp e).elim λd a=>a.2▸b ⟨d,bJ h.1 d a.1⟩,(List.length_map _).symm▸h.2⟩
theorem zl0(h:sOk x):sOk (x.map qO):=zlc h (by decide)
theorem zit(h:sOk x):sOk (x.map zgh):=zlc h (by decide)
noncomputable def at2(c d:Nat)(l:LN)(k:Nat):Prop:=l[k]? =some c/\l[k+1]? =some d
set_option tactic.hygienic true in
theorem kK(c d:Nat):∀(k:Nat) (a l:LN),k≤l.length->(∀i,i<k->¬at2 c d l i)->bG c d a l=bG c d (a++l.take k) (l.drop k)
 |0,a,l,_,_=>by simp
 |k+1,a,[],h,_=>by simp at h
 |k+1,a,[x],h,_=>by
  have:k=0:=by simp at h;exact h
  subst this;simp[bG]
 |k+1,a,x::y::r,h,b=>by
  have step:bG c d a (x::y::r)=bG c d (a++[x]) (y::r):=by
   rw[bG];split
   · rename_i j
     split
     · rename_i f
       exact absurd ⟨by simp[aN j],by simp[aN f]⟩ (b 0 (by lia))
     · rfl
   · rfl
  rw[step,kK c d k (a++[x]) (y::r) (by simp at h⊢;exact h) λi m e=>b (i+1) (by lia) ⟨by simpa using e.1,by simpa using e.2⟩];simp
theorem pT(c d:Nat)(a l:LN)(h:∀i,¬at2 c d l i):bG c d a l=[a++l]:=by rw[kK c d l.length a l (Nat.le_refl _) λi U=>h i];simp[bG]
theorem zB(x:LN)(c d k:Nat):StrLaws.At (St x) (St [c,d]) (St x).length k↔at2 c d x k:=by
 have e:(St x).length=x.length:=aQ x;unfold StrLaws.At Builtin.Str.subAt at2;rw[e];have B:(St [c,d]).length=2:=rfl;rw[B];have a:(x.toArray.extract k (k+2)==[c,d].toArray)=true↔(x.drop k).take 2=[c,d]:=by rw[beq_iff_eq,←Array.toList_inj];simp[List.extract_eq_take_drop]
 show k+2≤x.length/\(x.toArray.extract k (k+2)==[c,d].toArray)=true↔_;rw[a];constructor
 · rintro⟨M,B⟩
   have f:=congrArg (λl:LN=>l[0]?) B;have b:=congrArg (λl:LN=>l[1]?) B;simp[List.getElem?_take] at f b;exact⟨f,b⟩
 · rintro⟨M,B⟩
   have j:=(Qu B).1;refine⟨by lia,?_⟩;rw[List.drop_eq_getElem_cons (by lia),List.drop_eq_getElem_cons (by lia)];have i:=(Qu M).2;have h:=(Qu B).2;simp[i,h]
theorem zjc(x:LN)(a b:Nat):Builtin.Str.strSub (St x) a b=St ((x.drop a).take (b-a)):=by
 have:=StrLaws.strSub_toList (St x) a b;have h:∀y z:Str,y.cps.toList=z.cps.toList->y=z:=λy z h=>by cases y;cases z;simp at h;simp[h]
 exact h _ _ (by rw[this])
theorem nG(x:LN)(c d:Nat):∀(b:LN) (a f:Nat),StrLaws.ChainG (St x) (St [c,d]) (St x).length a b f->(∀k,f≤k->¬StrLaws.At (St x) (St [c,d]) (St x).length k)->a≤x.length->
 StrLaws.partsFrom (St x) 2 a b=(bG c d [] (x.drop a)).map St
 |[],a,f,h,m,n=>by
  have e:f=a:=h;subst e;have:∀i,¬at2 c d (x.drop f) i:=λi q=>by
   refine m (f+i) (by lia) ((zB x c d (f+i)).mpr ⟨?_,?_⟩)
   · have:=q.1;rw[List.getElem?_drop] at this;exact this
   · have:=q.2;rw[List.getElem?_drop] at this;exact this
  rw[pT c d [] _ this];show[Builtin.Str.strSub (St x) f (St x).length]=_;rw[zjc,aQ];simp only[List.nil_append,List.map_cons,List.map_nil];rw[List.take_of_length_le (by rw[List.length_drop];exact Qm _)]
 |k::r,a,f,h,m,n=>by
  obtain⟨M,B,A,o⟩:=h;have j:=(zB x c d k).mp B;have w:k+1<x.length:=(Qu j.2).1;have l:∀i,i<k-a->¬at2 c d (x.drop a) i:=λi y q=>by
   refine A (a+i) (by lia) (by lia) ((zB x c d (a+i)).mpr ⟨?_,?_⟩)
   · have:=q.1;rw[List.getElem?_drop] at this;exact this
   · have:=q.2;rw[List.getElem?_drop] at this;exact this
  rw[kK c d (k-a) [] (x.drop a) (by rw[List.length_drop];lia) l,List.drop_drop];have t:a+(k-a)=k:=by lia
  rw[t];have s:x.drop k=c::d::x.drop (k+2):=by rw[List.drop_eq_getElem_cons (by lia),List.drop_eq_getElem_cons (by lia)];have v:=(Qu j.1).2;have u:=(Qu j.2).2;rw[v,u]
  rw[s];have p:bG c d ([]++(x.drop a).take (k-a)) (c::d::x.drop (k+2))=([]++(x.drop a).take (k-a))::bG c d [] (x.drop (k+2)):=by rw[bG,Nat.beq_refl];dsimp only;rw[Nat.beq_refl]
  rw[p];show Builtin.Str.strSub (St x) a k::StrLaws.partsFrom (St x) 2 (k+2) r=_;rw[zjc,nG x c d r (k+2) f o m (by lia)];rfl
set_option tactic.hygienic true in
theorem zaf(j:sOk x)(c d:Nat)(m:c<128)(l:d<128):Txt.split (St x) (St [c,d])=(bG c d [] x).map St:=by
 obtain⟨f,b,e⟩:=StrLaws.occ_tight (St x) (St [c,d]) (by rw[aQ];simp);have single:(∀i,¬at2 c d x i)->[St x]=(bG c d [] x).map St:=λh=>by rw[pT c d [] x h];rfl
 have kind:Builtin.Str.strKind (St x)=1/\Builtin.Str.strKind (St [c,d])=1:=by
  refine⟨?_,?_⟩
  · unfold Builtin.Str.strKind
    rw[if_pos];rw[Array.all_eq_true_iff_forall_mem];intro z a;exact decide_eq_true (by have:=bJ j.1 z (by simpa using a);lia)
  · unfold Builtin.Str.strKind
    rw[if_pos];rw[Array.all_eq_true_iff_forall_mem];intro z a;have a:z=c∨z=d:=by simpa using a
    exact decide_eq_true (by rcases a with rfl|rfl<;>lia)
 unfold Txt.split;split
 · rename_i h
   rw[kind.1,kind.2,Bool.or_eq_true,decide_eq_true_eq,decide_eq_true_eq] at h;have h:=h.resolve_right (by lia);rw[aQ,aQ] at h;refine single λi q=>?_;have:=(Qu q.2).1;simp only[List.length_cons,List.length_nil] at h
   lia
 · split
   · rename_i h
     have k:Builtin.Str.occurrences (St x) (St [c,d]) 0 (St x).length ((St x).length+1)=[]:=by simpa using h
     rw[k] at b;have:f=0:=b;subst this;exact single λi q=>e i (Qb _) ((zB x c d i).mpr q)
   · have:=nG x c d _ 0 f b e (Qb _)
     rw[List.drop_zero] at this;rw[←this];unfold Builtin.Str.partsBetween;exact StrLaws.zip_parts (St x) 2 _ 0
theorem zsl(a:LN)(l:List LN):Txt.join (St a) (l.map St)=St (aT a l):=by
 show Builtin.Str.glued _ _=_;rw[StrLaws.glued_eq_join];induction l with
 |nil=>rfl
 |cons x r d=>
  cases r with
  |nil=>rfl
  |cons y r=>show St x++St a++Str.join (St a) ((y::r).map St)=_;rw[d,gE,gE];rfl

section
variable{Ω:Bx}

theorem zqm:∀{vs:List Value} {l:List LN},iP T=some l->VRs o h T vs->∃a:List (Str×Tok),vs=strValues a/\a.map (·.1)=l.map St/\∀x∈l,sOk x:=by
 induction T with
 |nil=>exact λe R=>⟨[],R,prf e▸rfl,prf e▸nofun⟩
 |cons x r d=>intro vs l e R;refine aB e λi M e=>?_;refine aB e λp B e=>?_;obtain⟨v,t,q,j,m⟩:=R;rw[zir M] at j;obtain⟨⟨u,k⟩,n⟩:=j;obtain⟨a,J,b,c⟩:=d B m;rw[q,k,J,←prf e];exact⟨(St i,u)::a,rfl,congrArg (St i:: ·) b,λy f=>(Qe f).elim (λe=>e▸n) (c y)⟩
theorem zql:∀{l:List LN},a.map (·.1)=l.map St->(∀x∈l,sOk x)->VRs f h (l.map V.str) (strValues a):=by
 induction a with
 |nil=>intro l e _;cases l with|nil=>exact rfl|cons _ _=>cases e
 |cons p a d=>
  intro l e b;cases l with
  |nil=>cases e
  |cons x l=>exact VRs.cons ⟨⟨p.2,congrArg (Value.str · p.2) (List.cons.inj e).1⟩,b x (.head _)⟩ (d (List.cons.inj e).2 λy c=>b y (.tail _ c))
theorem oO(c d:Nat):∀(l a:LN),(∀x∈a,x<128)->(∀x∈l,x<128)->(∀p∈bG c d a l,(∀x∈p,x<128)/\p.length≤a.length+l.length)/\(bG c d a l).length≤l.length+1
 |[],a,M,_=>by simp only[bG];exact⟨λp J=>by rw[List.mem_singleton.mp J];exact⟨M,by simp⟩,by simp⟩
 |[x],a,M,h2=>by
  simp only[bG];refine⟨λp J=>?_,by simp⟩;rw[List.mem_singleton.mp J];refine⟨λy h=>?_,by simp⟩;rcases Qo h with h|h
  · exact M y h
  · exact h2 y h
 |x::y::r,a,M,h2=>by
  have b:=oO c d (y::r) (a++[x]) (λz e=>by rcases Qo e with e|e;exact M z e;exact h2 z (by simp at e;simp[e])) (λz e=>h2 z (by simp at e⊢;exact .inr e));have f:=oO c d r [] (by simp) (λz e=>h2 z (by simp[e]));have i:(∀p∈bG c d (a++[x]) (y::r),(∀x∈p,x<128)/\p.length≤a.length+(x::y::r).length)/\(bG c d (a++[x]) (y::r)).length≤(x::y::r).length+1:=by
   refine⟨λp J=>⟨(b.1 p J).1,?_⟩,?_⟩
   · have:=(b.1 p J).2;simp only[List.length_append,List.length_cons,List.length_nil] at this⊢;lia
   · have:=b.2;simp only[List.length_cons] at this⊢;lia
  rw[bG];split
  · split
    · refine⟨λp J=>?_,?_⟩
      · rcases Qe J with rfl|J
        · exact⟨M,by simp only[List.length_cons];lia⟩
        · refine⟨(f.1 p J).1,?_⟩
          have:=(f.1 p J).2;simp only[List.length_cons,List.length_nil] at this⊢;lia
      · have:=f.2;simp only[List.length_cons] at this⊢;lia
    · exact i
  · exact i
theorem zba(b:sOk sep):∀{l:List LN},(∀x∈l,sOk x)->asc (aT sep l)=true
 |[],_=>rfl
 |[x],h=>(h x (by simp)).1
 |x::y::r,h=>jP (jP (h x (by simp)).1 b.1) (zba b λz a=>h z (by simp at a⊢;exact .inr a))
theorem qB(a:LN):∀l:List LN,l.length≤65536->a.length≤65536->((l.map St).map (·.length)).sum+(l.map St).length*(St a).length≤(aT a l).length+a.length
 |[],_,_=>by simp[aT]
 |[x],_,_=>by simp[aT,aQ]
 |x::y::r,h,hs=>by
  have:=qB a (y::r) (by simp at h⊢;lia) hs;simp only[List.map_cons,List.sum_cons,List.length_cons,aQ,aT,List.length_append] at this⊢;rw[Nat.add_mul]
  lia
structure NM(Ω:Bx):Prop where
 n0:aA Ω 0="append"
 n1:aA Ω 1="pop"
 n2:aA Ω 2="index"
 n3:aA Ω 3="lower"
 n4:aA Ω 4="upper"
 n5:aA Ω 5="split"
 n6:aA Ω 6="join"
 n8:aA Ω 8="search"
 n9:aA Ω 9="get"
theorem zdv{a:Addr}{G:List Value}{n:Nat}(c:s.heap.get? a=some (bZ G n)){Q:Value×List Value->Shared->Prop}{f:Sem Bool}(h:Q (.builtin "list.append",[.ref a]) s):wpAny Ω.M A (getMethod (.ref a) "append" f) Q E s:=
 getMethod_builtin (tyL c) F.plainAttrs_list slot_list_append type_list_append (λb e=>by cases e;exact⟨_,c,rfl⟩) h
theorem eH(M:Model)(h:Heap)(a:String):bL M h (.builtin a):=⟨.machine,.inr (.inl rfl),Looks.of_pure rfl⟩
theorem zh4(H:HS Ω i J s)(G:Go [] f Y i s)(N:∀a,Y.heap.get? a=none->Ω.h₀.get? a=none)(g:dH n J=some T)(o:nth i n=some [a])(C:aM (len T)=true)(e:iZ r J=some y)(R:RVR Ω i Y s r u)
 {Q:Value->Shared->Prop} (hQ:gB Ω f Y (.v .none) (upd y.2 n (.list (T++[y.1]))) Q):wpAny Ω.M A (call (.builtin "list.append") [.ref a,u]) Q E s:=by
 obtain⟨a',p,k,I,_,B,D,h4⟩:=jK H g ⟨a,[],o,rfl⟩;rw[←Value.ref.inj I] at B;obtain⟨h,j,G1,R1,l⟩:=uF H G N (Lt.refl Y) e R;have ext:Ext i h:=l.elim (λq=>q▸Ext.refl _) λ⟨_,_,_,_,q⟩=>q▸Ext.append _ _
 have z:p.length≤65536:=D.len▸aK T▸cG C;refine wpAny_list_append_plain ⟨k,B⟩ (λd c m=>?_) (by rw[sizeLine_eq,List.size_toArray];exact Qi z (by decide));obtain⟨w,c⟩:=c;have c:d.get? a=some (bZ (p++[u]) w):=by simpa using c
 have x:hJ s.heap d:=jO m B jJ;exact hQ h _ _ (j.set (ext _ _ o) (.head _) (λb ob q e=>(m.2 b q).trans e) ⟨a,_,w,rfl,c,zS (VRs.mono ext x _ _ D) (VR.mono (Ext.refl _) x _ _ R1),by rw[List.length_append];exact Qs z⟩ j.gens j.tk)
  (G1.trans0 (j.goSet (t:=s.toks) (ext _ _ o) (.head _) m [] ⟨_,c⟩)) rfl
theorem zst{x:LN}{t:Tok}{m:Nat}(N:NM Ω)(b:m=2∨m=3∨m=4∨m=5∨m=6){Q:Value×List Value->Shared->Prop}{a:Sem Bool}(h:Q (.builtin (vL m),[.str (St x) t]) s):wpAny Ω.M A (getMethod (.str (St x) t) (aA Ω m) a) Q E s:=by
 rcases b with rfl|rfl|rfl|rfl|rfl
 · rw[N.n2];exact GM.index h
 · rw[N.n3];exact GM.lower h
 · rw[N.n4];exact GM.upper h
 · rw[N.n5];exact GM.split h
 · rw[N.n6];exact GM.join h
theorem zzh(e:zha x m as J=some r):m=2∨m=3∨m=4∨m=5∨m=6:=match m,e with
 |0,e=>nn e|1,e=>nn e|2,_=> .inl rfl|3,_=> .inr (.inl rfl)|4,_=> .inr (.inr (.inl rfl))|5,_=> .inr (.inr (.inr (.inl rfl)))|6,_=> .inr (.inr (.inr (.inr rfl)))|_+7,e=>nn e
theorem zax(h:n≤65536):Builtin.Str.tooLong n=false:=by unfold Builtin.Str.tooLong;exact decide_eq_false (by rw[sizeLine_eq];exact Nat.not_lt.mpr (Qi h (by decide)))
theorem zkm{a:List RV}{G:List Value}(e:emp a=true)(R:fP Ω b Y s a G){P:List Value->Prop}(k:P []):P G:=by rw[kY e] at R;exact(show G=[] from R)▸k
theorem zxr(j:sOk x)(g:Kq Ω a Y s (.v (.str (x.map qO))) Q):wpAny Ω.M A (call (.builtin "str.lower") [.str (St x) t]) Q E s:=
 have B:=zl0 j
 SC.lower (by rw[za2 j,aQ];exact zax B.2) (by rw[za2 j];exact jL B g _ _)
theorem zxp(j:sOk x)(g:Kq Ω a Y s (.v (.str (x.map zgh))) Q):wpAny Ω.M A (call (.builtin "str.upper") [.str (St x) t]) Q E s:=
 have B:=zit j
 SC.upper (by rw[zU j,aQ];exact zax B.2) (by rw[zU j];exact jL B g _ _)
theorem zqr(H:HS Ω f J s)(j:sOk x)(b:zel r J=some l)(p:aM (len (aT x l))=true)(o:aM (len l)=true)(R:RVR Ω f Y s r v)(g:Kq Ω f Y s (.v (.str (aT x l))) Q):wpAny Ω.M A (call (.builtin "str.join") [.str (St x) t,v]) Q E s:=by refine aB b λT b m=>?_;refine cont_e (P:=λv=>wpAny Ω.M A (call (.builtin "str.join") [.str (St x) t,v]) Q E s) H b R λa y n i w D=>?_;obtain⟨q,u,c,e⟩:=zqm m w;rw[u] at i;have h:=aK (aT x l)▸cG p;refine SC.join (l:=q) ⟨_,i,rfl,n,rfl⟩ c ?_ λz k=>zsl x l▸jL ⟨zba j e,h⟩ g _ _;unfold JoinOk;rw[StrLaws.joinTotal,Bool.not_eq_true'];unfold Builtin.Str.tooLong;exact decide_eq_false (by rw[sizeLine_eq];exact Nat.not_lt.mpr (Qi (qB x l (aK l▸cG o) j.2) (Qi (Nat.add_le_add h j.2) (by decide))))
theorem zjj(H:HS Ω g J s)(B:∀a,s.heap.get? a=none->Y.heap.get? a=none)(j:sOk x)(w:sOk [c,d])(C:Kq Ω g Y s (.l ((bG c d [] x).map V.str)) Q):wpAny Ω.M A (call (.builtin "str.split") [.str (St x) t,.str (St [c,d]) u]) Q E s:=by
 have z:=bJ w.1 c (.head _);have y:=bJ w.1 d (.tail _ (.head _));have f:=oO c d x [] nofun (bJ j.1);have r:∀p∈bG c d [] x,sOk p:=λp J=>⟨fS (f.1 p J).1,Qi (f.1 p J).2 ((Nat.zero_add x.length).symm▸j.2)⟩;have n:(bG c d [] x).length≤65537:=Qi f.2 (Qs j.2);have e:∀(ps:List (Str×Tok)) (k:Nat),ps.map (·.1)=Txt.split (St x) (St [c,d])->Q (.ref s.heap.objs.size) {s with heap:=s.heap.push (bZ (strValues ps) 0),toks:=k}:=λps k h=>by
  rw[zaf j c d z y] at h;have o:(strValues ps).length≤65537:=by have b:=congrArg List.length h;rw[List.length_map,List.length_map] at b;unfold strValues;rw[List.length_map,b];exact n
  exact rK H B (zql h r) o C k
 have v:(St x).length≤sizeLine:=kJ j;have i:((St [c,d]).length==0)=false:=rfl;cases b:(decide ((St x).length<(St [c,d]).length)||decide (Builtin.Str.strKind (St x)<Builtin.Str.strKind (St [c,d]))) with
 |false=>
  cases q:(Builtin.Str.occurrences (St x) (St [c,d]) 0 (St x).length ((St x).length+1)).isEmpty with
  |false=>
   have D:Builtin.Str.partsBetween (St x) (Builtin.Str.occurrences (St x) (St [c,d]) 0 (St x).length ((St x).length+1)) (St [c,d]).length=Txt.split (St x) (St [c,d]):=
    ((if_neg (by rw[b];exact Bool.false_ne_true)).trans (if_neg (by rw[q];exact Bool.false_ne_true))).symm
   have m:(Builtin.Str.partsBetween (St x) (Builtin.Str.occurrences (St x) (St [c,d]) 0 (St x).length ((St x).length+1)) (St [c,d]).length).length≤sizeLine:=by rw[D,zaf j c d z y,List.length_map,sizeLine_eq];exact Qi n (by decide)
   refine call_meets PySem.F.slot_str_split (typeIs_str _ _ _) PySem.F.entry_str_split (PySem.F.args_str_split_2 _ _) (meets_str_split_sep (St x) (St [c,d]) t u b i q v m) ?_;show wants Q E _ {s with toks:=_,heap:=s.heap.push {cls:= .type "list",data:= .seq (strsFrom s.toks (Builtin.Str.partsBetween (St x) (Builtin.Str.occurrences (St x) (St [c,d]) 0 (St x).length ((St x).length+1)) (St [c,d]).length)).toArray}};rw[strsFrom_eq];exact e (numbered s.toks _) _ ((numbered_texts _ _).trans D)
  |true=>
   exact call_meets PySem.F.slot_str_split (typeIs_str _ _ _) PySem.F.entry_str_split (PySem.F.args_str_split_2 _ _) (meets_str_split_not_found (St x) (St [c,d]) t u b i q)
    (e [(St x,t)] _ ((if_neg (ne_true_of_eq_false b)).trans (if_pos q)).symm)
 |true=>
  exact call_meets PySem.F.slot_str_split (typeIs_str _ _ _) PySem.F.entry_str_split (PySem.F.args_str_split_2 _ _) (meets_str_split_cannot_occur (St x) (St [c,d]) t u b)
   (e [(St x,t)] _ (if_pos b).symm)
theorem zmu:∀{x:LN} {k:Nat},zso c x=some k->x[k]? =some c/\∀j,j<k->x[j]? ≠some c
 |[],_,h=>nn h
 |y::r,k,h=>by
  have h:cs (Nat.beq y c) (some 0) (bd (zso c r) λk=>some (k+1))=some k:=h;cases q:Nat.beq y c with
  |true=>rw[q] at h;cases prf h;exact⟨congrArg some (aN q),λj a=>absurd a (Nat.not_lt_zero j)⟩
  |false=>
   rw[q] at h;refine aB h λm M B=>?_;cases prf B;obtain⟨e,b⟩:=zmu M;exact⟨e,λj a=>match j,a with
    |0,_=>λz=>lD q (Option.some.inj z)
    |j+1,a=>b j (Nat.lt_of_succ_lt_succ a)⟩
theorem zjk(h:zso c x=some k)(g:Kq Ω m Y s (.v (.int (.ofNat k))) Q):wpAny Ω.M A (call (.builtin "str.index") [.str (St x) t,.str (St [c]) u]) Q E s:=by
 obtain⟨a,l⟩:=zmu h;have e:∀i,StrLaws.At (St x) (St [c]) (St x).length i↔x[i]? =some c:=λi=>StrLaws.subAt_one (St x) c i
 rcases StrLaws.occ_head (St x) (St [c]) 1 (Qm _) with⟨_,z⟩|⟨i,r,j,f,b⟩
 · exact absurd ((e k).mpr a) (z k)
 · have q:i=k:=by
    rcases Nat.lt_trichotomy i k with q|q|q
    · exact absurd ((e i).mp f) (l i q)
    · exact q
    · exact absurd ((e k).mpr a) (b k q)
   subst q;exact SC.index j (g _ s.heap _ (λU U e=>e) ⟨_,rfl⟩)
theorem zjr(H:HS Ω n J s)(z:∀a,s.heap.get? a=none->Y.heap.get? a=none)(j:sOk x)(e:zha x m as J=some r)(R:fP Ω n Y s as G)(g:Kq Ω n Y s r Q):
 wpAny Ω.M A (call (.builtin (vL m)) (.str (St x) t::G)) Q E s:=by
 rcases zzh e with q|q|q|q|q
 · subst q
   refine aB e λo b e=>?_;refine aB e λy B e=>?_;refine aB e λc f e=>?_;refine aB e λk i e=>?_;rw[vF f] at B;exact as1_e (P:=λG=>wpAny Ω.M A (call (.builtin "str.index") (.str (St x) t::G)) Q E s) b R λv h=>rvS_e (P:=λv=>wpAny Ω.M A (call (.builtin "str.index") [.str (St x) t,v]) Q E s) B h λu w=>zjk i (prf e▸g)
 · subst q
   refine aJ e λb e=>?_;exact zkm (P:=λG=>wpAny Ω.M A (call (.builtin "str.lower") (.str (St x) t::G)) Q E s) b R (zxr j (prf e▸g))
 · subst q
   refine aJ e λb e=>?_;exact zkm (P:=λG=>wpAny Ω.M A (call (.builtin "str.upper") (.str (St x) t::G)) Q E s) b R (zxp j (prf e▸g))
 · subst q
   refine aB e λo b e=>?_;refine aB e λy B e=>?_;refine aB e λp f e=>?_;rw[zca f] at B;exact as1_e (P:=λG=>wpAny Ω.M A (call (.builtin "str.split") (.str (St x) t::G)) Q E s) b R λv h=>rvS_e (P:=λv=>wpAny Ω.M A (call (.builtin "str.split") [.str (St x) t,v]) Q E s) B h λu w=>zjj H z j w (prf e▸g)
 · subst q
   refine aB e λo b e=>?_;refine aB e λl B e=>?_;refine aJ e λf e=>?_;refine aJ e λi e=>?_;exact as1_e (P:=λG=>wpAny Ω.M A (call (.builtin "str.join") (.str (St x) t::G)) Q E s) b R λv h=>zqr H j B f i h (prf e▸g)
theorem zps:∀{vs:List Value} {k:Nat},VRs a h T vs->VRs a h (rem T k) (vs.eraseIdx k):=by
 induction T with
 |nil=>exact λH=>by rw[show _=[] from H];exact VRs.nil
 |cons x r d=>
  intro vs k ⟨v,t,q,M,h2⟩;rw[q];cases k with
  |zero=>exact h2
  |succ k=>exact⟨v,t.eraseIdx k,rfl,M,d h2⟩
theorem zhu{G:List Value}{k:Nat}(h:k<G.length):G.toArray.eraseIdxIfInBounds k=(G.eraseIdx k).toArray:=by unfold Array.eraseIdxIfInBounds;rw[dif_pos (show k<G.toArray.size from h)];apply Array.toList_inj.mp;rw[Array.toList_eraseIdx]
theorem zew(H:HS Ω j J s)(G:Go [] c Y j s){n:Nat}{T:List V}{a:Addr}(C:dH n J=some T)(p:nth j n=some [a]){i:Int}{k:Nat}{v:V}(I:idx i (len T)=some k)(g:nth T k=some v)(N:aM (len T)=true){args:List Value}
 (hc:∀{vs:List Value} {m:Nat} {u:Value} {R:Value->Shared->Prop},vs.length≤65536->seqIndex? i vs.length=some k->vs[k]? =some u->i.natAbs≤65536->s.heap.get? a=some (bZ vs m)->R u {s with heap:=s.heap.update a (Obj.mapSeq λT=>T.eraseIdxIfInBounds k)}->wpAny Ω.M A (call (.builtin "list.pop") (.ref a::args)) R E s)
 {Q:Value->Shared->Prop} (hQ:gB Ω c Y (.v v) (upd J n (.list (rem T k))) Q):wpAny Ω.M A (call (.builtin "list.pop") (.ref a::args)) Q E s:=by
 obtain⟨a',vs,m,he,_,B,r,h4⟩:=jK H C ⟨a,[],p,rfl⟩;rw[←Value.ref.inj he] at B;obtain⟨u,g3,g4⟩:=r.nth g;have h:vs.length=len T:=r.len.trans (aK T).symm;have f:vs.length≤65536:=h▸cG N;obtain⟨d,D,y⟩:=rU I;refine hc f (h▸d) g3 (Qi (h▸y) f) B ?_;have o:Heap.SameBut a s.heap (s.heap.update a (Obj.mapSeq λT=>T.eraseIdxIfInBounds k)):=Wb ..;obtain⟨l,x⟩:∃l,(s.heap.update a (Obj.mapSeq λT=>T.eraseIdxIfInBounds k)).get? a=some (bZ (vs.eraseIdx k) l):=⟨_,by have z:=IsL.update (show IsL s.heap a vs.toArray m from B) λT=>T.eraseIdxIfInBounds k;rw[zhu (h▸D)] at z;exact z⟩
 have w:hJ s.heap _:=jO o B jJ;exact hQ j _ _ (H.set p (.head _) (λb ob q e=>(o.2 b q).trans e) ⟨a,_,l,rfl,x,VRs.mono (Ext.refl _) w _ _ (zps r),Qi (List.length_eraseIdx_le ..) h4⟩ H.gens H.tk)
  (G.trans0 (H.goSet (t:=s.toks) p (.head _) o [] ⟨_,x⟩)) (VR.mono (Ext.refl _) w _ _ g4)
theorem zyj(H:HS Ω o J s)(G:Go [] c Y o s)(D:dH n J=some T)(B:nth o n=some [a])(e:yet n T as J=some w)(R:fP Ω o Y s as b)
 {Q:Value->Shared->Prop} (g:gB Ω c Y w.1 w.2 Q):wpAny Ω.M A (call (.builtin "list.pop") (.ref a::b)) Q E s:=by
 refine aB e λi h e=>?_;refine aB e λk y e=>?_;refine aB e λv x e=>?_;refine aJ e λq e=>?_;rw[←prf e] at g;cases z:emp as with
 |true=>rw[z] at h;refine zkm (P:=λb=>wpAny Ω.M A (call (.builtin "list.pop") (.ref a::b)) Q E s) z R (zew H G D B y x q (λ{b m u R} N l j _ f p=>?_) g);rw[←prf h] at l;have d:b.toArray.size-1=k:=Option.some.inj ((sL (k:=0) (Qp (Qn k) (getElem?_eq_some_iff.mp j).1)).symm.trans l);exact call_meets PySem.F.slot_list_pop ⟨_,f,rfl⟩ PySem.F.entry_list_pop (PySem.F.args_list_pop_1 _) (PySem.MeetsSeq.list_pop_last a _ m u (by rw[d,List.getElem?_toArray];exact j) (by rw[sizeLine_eq,List.size_toArray];lia)) ⟨f,d.symm▸p⟩
 |false=>
  rw[z] at h;refine aB h λr I C=>?_;exact as1_e (P:=λb=>wpAny Ω.M A (call (.builtin "list.pop") (.ref a::b)) Q E s) I R λu R1=>rvI_e (P:=λu=>wpAny Ω.M A (call (.builtin "list.pop") [.ref a,u]) Q E s) C R1 λt=>zew H G D B y x q (λ{b m u R} N l j c4 f p=>
   call_meets PySem.F.slot_list_pop ⟨_,f,rfl⟩ PySem.F.entry_list_pop (PySem.F.args_list_pop_2 _ _) (PySem.MeetsSeq.list_pop_at a _ m i t k u (by simp[Builtin.List.listFitsIndex];lia) (by rw[List.size_toArray];exact l) (by rw[List.getElem?_toArray];exact j) (by rw[sizeLine_eq,List.size_toArray];lia)) ⟨f,p⟩) g
theorem zmt:∀{l:List Int} {k:Nat},zbh i l=some k->l[k]? =some i/\∀j,j<k->l[j]? ≠some i
 |[],_,h=>nn h
 |y::r,k,h=>by
  have h:cs (Z.eqB y i) (some 0) (bd (zbh i r) λk=>some (k+1))=some k:=h;cases q:Z.eqB y i with
  |true=>rw[q] at h;cases prf h;exact⟨congrArg some ((Z.eqB_iff y i).mp q),λj a=>absurd a (Nat.not_lt_zero j)⟩
  |false=>
   rw[q] at h;refine aB h λm M B=>?_;cases prf B;obtain⟨c,b⟩:=zmt M;exact⟨c,λj a=>match j,a with
    |0,_=>λz=>by rw[(Z.eqB_iff y i).mpr (Option.some.inj z)] at q;cases q
    |j+1,a=>b j (Nat.lt_of_succ_lt_succ a)⟩
theorem zhe(H:HS Ω f J s)(I:dH n J=some T)(ha:nth f n=some [a])(e:yfu T as=some r)(R:fP Ω f Y s as G)
 {Q:Value->Shared->Prop} (g:Kq Ω f Y s r Q):wpAny Ω.M A (call (.builtin "list.index") (.ref a::G)) Q E s:=by
 refine aB e λq1 h1 e=>?_;refine aB e λi h2 e=>?_;refine aB e λl h3 e=>?_;refine aB e λk h4 e=>?_;refine aJ e λh5 e=>?_;rw[←prf e] at g;refine as1_e (P:=λG=>wpAny Ω.M A (call (.builtin "list.index") (.ref a::G)) Q E s) h1 R λu R1=>rvI_e (P:=λu=>wpAny Ω.M A (call (.builtin "list.index") [.ref a,u]) Q E s) h2 R1 λt=>?_;obtain⟨a',b,m,he,_,o,D,g3⟩:=jK H I ⟨a,[],ha,rfl⟩;rw[←Value.ref.inj he] at o;obtain⟨B,q,h⟩:=rP h3 D;have c:IntsAre b l:=q▸h▸tF B;obtain⟨w,d⟩:=zmt h4;have hl:=c.length;have N:k<l.length:=(Qu w).1;have x:b.length≤65536:=D.len▸aK T▸cG h5;refine call_meets PySem.F.slot_list_index ⟨_,o,rfl⟩ PySem.F.entry_list_index (PySem.F.args_list_index_2 _ _)
  (PySem.SeqAt.list_indexAt a b.toArray m none #[] (.int i t) (isInt i) k (by rw[List.size_toArray];lia) (by lia) ?_ λj v p=>?_) ⟨o,λy C=>(eq_isInt i t c y (List.mem_toArray.mp C)).at _ _,g _ s.heap _ (λU U e=>e) ⟨_,rfl⟩⟩
 · show isInt i b[k]=true
   rw[isInt_at i c _ (by lia) N];exact beq_iff_eq.mpr (Qu w).2
 · have v:j<b.length:=v
   show isInt i b[j]=false;rw[isInt_at i c j v (by lia)];exact beq_eq_false_iff_ne.mpr λz=>d j p (List.getElem?_eq_some_iff.mpr ⟨by lia,z⟩)
end

theorem uS:PlainAttrs "re.Pattern":=
 ⟨⟨"object.__getattribute__",by rw[typeLookup_type,builtinLookup_eq_fast];kernel_rfl,by decide+kernel⟩,by rw[typeLookup_type,builtinLookup_eq_fast];kernel_rfl⟩
theorem zkf:Manifest.owners.lookup (String.ofList ['n','r','e','t','t','a','P','.','e','r'].reverse)=some Manifest.sig_re_Pattern:=by kernel_rfl
theorem kL:Slot "re.Pattern" "search" "re.Pattern.search":=
 .of (owner:="re.Pattern") (n:="search") (by rw[typeLookup_type,builtinLookup_eq_fast];kernel_rfl) (by decide+kernel) (by decide+kernel) (by decide+kernel)
  (by first|exact .inl (by decide+kernel)|exact .inr (by decide+kernel)) (by rw[isSubtype_type];kernel_rfl)
theorem sI:typeOf (.builtin "re.Pattern.search")=pure (.type "method_descriptor"):=by show builtinType _=_;rw[builtinType_eq_fast];kernel_rfl
theorem qS:entryFor table "re.Pattern.search"=some Builtin.«re.Pattern.search»:=entryFor_of_tree (by kernel_rfl)
theorem pN(a b:Value):argsOk "re.Pattern.search" ⟨[a,b],[]⟩:=by unfold argsOk;rw[signature?_of (id:="re.Pattern.search") (n:=['h','c','r','a','e','s']) (o:=['n','r','e','t','t','a','P','.','e','r']) (by kernel_rfl) zkf];kernel_rfl

section
open PySem.Builtin.Re
noncomputable def zc2(m:Sre.M):Prop:=m.answer=some false/\m.frames=[]/\m.outcome=none
noncomputable def lH(b:Array Nat)(c:Nat):Prop:=∀seen,∃a,Sre.inSet b c b.size 5 true seen= .ok (false,a)
theorem mF(h:∀s,s<m.lim->lH m.code (m.text.getD s 0)):∀(a s:Nat) (seen:Sre.Seen),∃b,Sre.M.admitted m a s seen= .ok (none,b)
 |0,_,seen=>⟨seen,rfl⟩
 |a+1,s,seen=>by
  unfold Sre.M.admitted;by_cases z:s≥m.lim
  · rw[if_pos z];exact⟨seen,rfl⟩
  · rw[if_neg z]
    obtain⟨c,e⟩:=h s (Nat.lt_of_not_le z) seen;rw[e];exact mF h a (s+1) c
theorem ybz{m:Sre.M}{first:Bool}{s:Nat}(f:Sre.ops[m.code.getD 0 0]? =some .INFO)(B:m.code.getD 2 0=4)(h:∀s,s<m.lim->lH m.code (m.text.getD s 0))(e:m.frames=[])(b:m.outcome=none):zc2 (m.attemptFrom s first):=by
 unfold Sre.M.attemptFrom;have c:m.hasFirstSet=true:=by unfold Sre.M.hasFirstSet;rw[f,B];rfl
 rw[c];obtain⟨a,A⟩:=mF h (m.lim+1-s) s m.seen;simp only[Bool.not_true,Bool.false_eq_true,if_false,A];exact⟨rfl,e,b⟩
theorem zgx{a text:Array Nat}{g:Nat}(M:Sre.ops[a.getD 0 0]? =some .INFO)(B:a.getD 2 0=4)(h:∀s,s<text.size->lH a (text.getD s 0)):zc2 (Sre.forSearch a text g 0 text.size false):=by
 unfold Sre.forSearch;dsimp only;split
 · exact⟨rfl,rfl,rfl⟩
 · exact ybz M B h rfl rfl
section
variable{Ω:Bx}
theorem sM{f:Nat->Bool}{a:Nat->String}:∀(l:LN) {Q:PUnit->Shared->Prop},Q ⟨⟩ s->wpAny Ω.M A (forIn l PUnit.unit λi U=>(do
 if f i=true then rule (a i)
 pure (ForInStep.yield PUnit.unit):Sem (ForInStep PUnit))) Q E s
 |[],_,h=>Qh h
 |i::l,_,h=>by
  rw[List.forIn_cons];refine Qg ?_;cases f i with
  |true=>exact Qg (wpAny_rule (Qh (sM l h)))
  |false=>exact Qh (sM l h)
theorem zx7(h:zc2 m)(g:Q none s):wpAny Ω.M A (reRunToEnd m) Q E s:=by
 obtain⟨f,B,c⟩:=h;have a:m.step={m with outcome:=some .failed}:=by unfold Sre.M.step;rw[f,B,c];rfl
 have b:m.runFor reTurnSteps={m with outcome:=some .failed}:=by show Sre.M.runFor (3+1) m=_;unfold Sre.M.runFor;rw[c,a];rfl
 unfold reRunToEnd;refine Qg ?_;have e:(2^64:Nat)=18446744073709551615+1:=by decide
 rw[e];unfold reDrive;rw[b];refine Qh ?_;refine Qg ?_;refine sM _ ?_;exact Qh g

structure PatAt(h:Heap)(a:Addr)(cd:Array Nat):Prop where
 at_:∃(o:Obj) (fs:Array Value) (t:Addr) (to:Obj) (items:Array Value) (n:Nat),h.get? a=some o/\o.cls= .type "re.Pattern"/\o.dict=none/\o.data= .fields fs/\reRawNat (fs.getD 6 .none)=0/\fs.getD 5 .none= .ref t/\h.get? t=some to/\to.data= .seq items n/\(items.map reRawOf).map (·.toNat)=cd
theorem zdu{a:Addr}{j:Array Nat}(P:PatAt s.heap a j){Q:Value×List Value->Shared->Prop}{f:Sem Bool}(h:Q (.builtin "re.Pattern.search",[.ref a]) s):wpAny Ω.M A (getMethod (.ref a) "search" f) Q E s:=by obtain⟨o,l,t,k,items,n,c,B,i,_⟩:=P.at_;exact getMethod_builtin ⟨o,c,B⟩ uS kL sI (λb e=>by cases e;exact⟨_,c,i⟩) h
theorem zgw(P:PatAt s.heap a l)(w:Sre.ops[l.getD 0 0]? =some .INFO)(B:l.getD 2 0=4)(u:sOk x)(h:∀c∈x,lH l c)(g:Q .none s):
 wpAny Ω.M A (call (.builtin "re.Pattern.search") [.ref a,.str (St x) t]) Q E s:=by
 obtain⟨o,j,r,N,items,n,q,G,T,C,d,H,D,z,y⟩:=P.at_;refine wpAny_call_entry kL ⟨o,q,G⟩ qS ?_ (pN _ _);unfold Builtin.«re.Pattern.search»;refine Qg ?_;unfold reTarget;show wpAny _ _ (do
  let[some string,pos?,lim?]←(pure [some (.str (St x) t),none,none]:Sem (List (Option Value)))|unsupported "internal:re:named"
  let pos←match pos? with|some v=>reSsize v|none=>pure 0
  let lim←match lim? with|some v=>reSsize v|none=>pure (2^63-1)
  let j←fieldsOf (.ref a)
  let(text,kind)←reTextOf string
  let e:=reRawNat (j.getD 6 .none)
  if e==0&&kind==1 then raiseError "TypeError" "cannot use a string pattern on a bytes-like object"
  if e==1&&kind==0 then raiseError "TypeError" "cannot use a bytes pattern on a string-like object"
  reNoCollectionInside string kind
  let clip (i:Int):Nat:=min i.toNat text.size
  pure ({pattern:= .ref a,string,code:=(←reRawItems (j.getD 5 .none)).map (·.toNat),text,kind,groups:=reRawNat (j.getD 2 .none),pos:=clip pos,lim:=clip lim}:ReTarget)) _ _ s
 refine Qg (Qh ?_);refine Qg (Qh ?_);refine Qg (Qh ?_);refine Qg (wpAny_fieldsOf q C ?_);refine Qg (m:=reTextOf (.str (St x) t)) (wpAny_of_eq (a:=((St x).cps,0)) rfl ?_);dsimp only;rw[d,H];refine Qg (m:=reRawItems (.ref r)) ?_;unfold reRawItems;refine Qg (wpAny_seqItems D z (Qh ?_));refine Qh ?_;have b:(St x).cps.size=x.length:=by simp
 have I:min ((2^63-1:Int)).toNat (St x).cps.size=(St x).cps.size:=by rw[b];have:=u.2;exact Nat.min_eq_right (Qi this (by decide))
 have J:min (0:Int).toNat (St x).cps.size=0:=Nat.zero_min _;show wpAny _ _ (reAnswer _ (Sre.forSearch ((items.map reRawOf).map (·.toNat)) (St x).cps (reRawNat (j.getD 2 .none)) (min (0:Int).toNat (St x).cps.size) (min ((2^63-1:Int)).toNat (St x).cps.size) false)) _ _ _;rw[J,I,y];unfold reAnswer;refine Qg (zx7 (zgx w B λk p=>?_) ?_)
 · refine h _ ?_
   have f:k<x.length:=by rw[b] at p;exact p
   have:(St x).cps.getD k 0=x[k]:=by simp[Array.getD,f]
   rw[this];exact List.getElem_mem f
 · exact Qh ⟨_,rfl,g⟩

end
end

noncomputable def lV(K:Frag)(c:Addr)(name:Str):Bool:=match findIn K (.ref c) name with
 |some none=>true
 |some (some a)=>(match specialIn K a "__get__" with
  |some (some _)=>takesIn K a==some false
  |some none=>takerIn K c name==some none
  |none=>false)
 |none=>false
structure KCl(K:Frag)(Ω:Bx)(c:Addr)(t:List (Nat×Nat)):Prop where
 ga:findIn K (.ref c) "__getattribute__"=some (some (.builtin "object.__getattribute__"))
 gat:findIn K (.ref c) "__getattr__"=some none
 sa:findIn K (.ref c) "__setattr__"=some (some (.builtin "object.__setattr__"))
 over:plainOver K c=true
 hd:hasDictIn K c=true
 own:∀x,x<Ω.nms.length->lV K c (aA Ω x)=true
 me:∀x f,look t x=some f->findIn K (.ref c) (aA Ω x)=some (some (.ref f))/\typeIn K (.ref f)=some (.type "function")
set_option tactic.hygienic true in
theorem zp9{K:Frag}{c:Addr}{name:Str}(h:lV K c name=true):takerIn K c name=some none:=by
 unfold lV at h;split at h
 · rename_i q;unfold takerIn;rw[q];rfl
 · rename_i a q
   split at h
   · unfold takerIn;rw[q,Option.bind_some];dsimp only;rw[beq_iff_eq.mp h];rfl
   · exact beq_iff_eq.mp h
   · cases h
 · cases h
set_option tactic.hygienic true in
theorem znm{K:Frag}{c:Addr}{name:Str}{D:List DictEntry}{n:Nat}{v:Value}(h:lV K c name=true)(j:hasDictIn K c=true)(i:getL name D=some (some v)):findObj K c (some (dictOf D n)) name=some (.value v):=by
 obtain⟨l,k,f⟩:=any_some j;have b:PySem.W.ownOf l (some (dictOf D n)) name=some (some v):=by unfold PySem.W.ownOf;rw[if_pos f];exact i
 unfold findObj;rw[k,Option.bind_some];unfold lV at h;split at h
 · rename_i q
   rw[q,Option.bind_some];dsimp only;rw[Option.bind_some,Option.bind_some];dsimp only;rw[b];rfl
 · rename_i a q
   rw[q,Option.bind_some];dsimp only;split at h
   · rename_i g e
     rw[e,Option.bind_some];dsimp only;rw[beq_iff_eq.mp h,Option.bind_some];dsimp only;rw[b];rfl
   · rename_i e
     rw[e,Option.bind_some];dsimp only;rw[Option.bind_some];dsimp only;rw[b];rfl
   · cases h
 · cases h

section
theorem tC(a b:Str)(t:Tok):Value.isStr (.str a t) b=(a==b):=rfl
noncomputable def zo6(ρ:Rho)(h:Heap)(o:Option V)(r:Option (Option Value)):Prop:=byO o (λv=>∃u,r=some (some u)/\VR ρ h v u) (r=some none)
theorem zkn{e:DictEntry}{n:Str}{t:Tok}(h:e.key= .str n t):e.refKey=false:=by unfold DictEntry.refKey;rw[h]
theorem DE.noRef{d:List (Nat×V)}:∀{D:List DictEntry},DE N c h d D->D.any (·.refKey)=false:=by
 induction d with
 |nil=>exact λH=>by rw[show _=[] from H];rfl
 |cons p d a=>intro D H;obtain⟨e,r,q,M,⟨f,B⟩,A,b⟩:=H;rw[q,List.any_cons,a b,zkn B];rfl
theorem zsv(h:e.key= .str n t):getL n (e::r)=some (some e.val):=by unfold getL;rw[List.find?_cons,show e.key.isStr n=true by rw[h,tC];exact beq_self_eq_true n]
theorem zm7{n m:Str}{e:DictEntry}{r:List DictEntry}{t:Tok}(h:e.key= .str m t)(a:(m==n)=false):getL n (e::r)=getL n r:=by unfold getL;rw[List.find?_cons,show e.key.isStr n=false by rw[h,tC];exact a,List.any_cons,zkn h,Bool.false_or]
theorem DE.found(a:∀x y,x<N.nms.length->y<N.nms.length->aA N x=aA N y->x=y)(j:x<N.nms.length):∀{D:List DictEntry},DE N b h d D->zo6 b h (look d x) (getL (aA N x) D):=by
 induction d with
 |nil=>exact λH=>by rw[show _=[] from H];exact rfl
 |cons p d f=>
  intro D H;obtain⟨e,r,c,M,⟨t,B⟩,A,i⟩:=H;rw[c];show zo6 b h (cs (Nat.beq p.1 x) (some p.2) (look d x)) _;cases q:Nat.beq p.1 x with
  |true=>rw[aN q] at B;exact⟨e.val,zsv B,A⟩
  |false=>rw[zm7 B (beq_eq_false_iff_ne.mpr λz=>lD q (a _ _ M j z))];exact f i
theorem DE.put(b:∀x y,x<N.nms.length->y<N.nms.length->aA N x=aA N y->x=y)(j:x<N.nms.length)(f:VR a h v u):∀{D:List DictEntry},DE N a h d D->
 DE N a h (put d x v) (putL (aA N x) hs (.str (aA N x) t) u D):=by
 induction d with
 |nil=>exact λH=>by rw[show _=[] from H];exact⟨_,_,rfl,j,⟨_,rfl⟩,f,rfl⟩
 |cons p d l=>
  intro D H;obtain⟨e,r,k,M,⟨c,B⟩,A,i⟩:=H;rw[k];show DE N a h (cs (Nat.beq p.1 x) ((x,v)::d) (p::Mine.put d x v)) (if e.key.isStr (aA N x)=true then _ else _);rw[B,tC];cases q:Nat.beq p.1 x with
  |true=>rw[aN q,if_pos (beq_self_eq_true _)];exact⟨_,_,rfl,j,⟨c,rfl⟩,f,i⟩
  |false=>rw[if_neg λz=>lD q (b _ _ M j (beq_iff_eq.mp z))];exact⟨_,_,rfl,M,⟨c,B⟩,A,l i⟩
theorem DE.len:∀{D:List DictEntry},DE N c h d D->D.length=Mine.len d:=by
 induction d with
 |nil=>exact λH=>by rw[show _=[] from H];rfl
 |cons p d a=>intro D H;obtain⟨e,r,q,M,B,A,b⟩:=H;rw[q];exact congrArg (· +1) (a b)
theorem zhk(b:Bi):handedIn b.val=true:=by cases b<;>decide+kernel
theorem zhj(H:VR e h v u):handedIn u=true:=by
 cases v with
 |none=>rw[show u= .none from H];rfl
 |bool b=>rw[show u= .bool b from H];rfl
 |int i=>exact H.elim λt q=>q▸rfl
 |str s=>exact H.1.elim λt q=>q▸rfl
 |tup T=>exact H.elim λa H=>H.elim λG H=>H.elim λn H=>H.1▸rfl
 |ref n=>exact H.elim λa H=>H.elim λr H=>H.2▸rfl
 |top a=>rw[show u= .ref a from H];rfl
 |bi b=>rw[show u=b.val from H];exact zhk b
 |rng a b c=>exact H.elim λx H=>H.elim λt H=>H.elim λv H=>H.elim λw H=>H.1▸rfl
end

section
variable{K:Frag}
theorem tG(M:h.get? a=some (instObj c b))(B:h.get? b=some (dictOf D m)):InstAt h a (instObj c b) c (some (dictOf D m)):=⟨M,rfl,rfl,B⟩
theorem rT(H:HS N e J s)(h:nth J n=some (.inst c d))(l:nth e n=some (a::r)):∃b D m,r=[b]/\s.heap.get? a=some (instObj c b)/\s.heap.get? b=some (dictOf D m)/\DE N e s.heap d D:=by obtain⟨o,b,D,m,i,f,k,j,_⟩:=H.obj _ _ _ h l;obtain⟨M,B⟩:=List.cons.inj i;exact⟨b,D,m,B,M▸f,k,j⟩
theorem zms(e:∀x y,x<N.nms.length->y<N.nms.length->aA N x=aA N y->x=y)(X:K.In s.heap)(Y:KCl K N c t)(j:x<N.nms.length)(H:HS N f J s)(o:nth J n=some (.inst c d))(z:nth f n=some (a::r))
 (p:look d x=some v) (g:∀u t,VR f s.heap v u->Q u {s with toks:=t}):wpAny N.M A (getAttr (.ref a) (aA N x) true) Q E s:=by
 obtain⟨b,D,m,_,l,w,q⟩:=rT H o z;have i:=DE.found e j q;rw[p] at i;obtain⟨u,k,h⟩:=i;exact get_value X (tG l w) Y.ga (znm (Y.own x j) Y.hd k) (zhj h) (g u _ h)
theorem zbf{Q:Value×List Value->Shared->Prop}{E:Value->Shared->Prop}{f:Addr}{a:Addr}{r:List Addr}{k:Sem Bool}(e:∀x y,x<N.nms.length->y<N.nms.length->aA N x=aA N y->x=y)(X:K.In s.heap)(Y:KCl K N c t)(l:x<N.nms.length)(H:HS N j J s)(p:nth J n=some (.inst c d))(w:nth j n=some (a::r))
 (q:look d x=none) (i:look t x=some f) (g:Q (.ref f,[.ref a]) s):wpAny N.M A (getMethod (.ref a) (aA N x) k) Q E s:=by
 obtain⟨b,D,m,_,o,v,u⟩:=rT H p w;have h:=DE.found e l u;rw[q] at h;exact method_fn X (tG o v) Y.ga Y.gat (Y.me x f i).1 (Y.me x f i).2 (congrArg (Option.map _) (show getL (aA N x) D=some none from h)) g
theorem zkh{R:Result->Shared->Prop}{u:Value}{a b:Addr}{D:List DictEntry}{m:Nat}{n:Tok}{name:Str}(X:K.In s.heap)(Y:KCl K N c t)(l:s.heap.get? a=some (instObj c b))(i:s.heap.get? b=some (dictOf D m))
 (f:lV K c name=true) (o:D.any (·.refKey)=false) (r:(putL name (PyData.keyHash N.w.params name) (.str name s.toks) u D).length≤1000)
 (h:∀k,Heap.SameBut b s.heap k->k.get? b=some (dictOf (putL name (PyData.keyHash N.w.params name) (.str name s.toks) u D) (putN name D m))->R (.ok (.ret .none)) {s with heap:=k,toks:=s.toks+1}):
 codeAny N.M A (.call (.builtin "object.__setattr__") ⟨[.ref a,.str name n,u],[]⟩) R s:=by
 refine osa_open X (tG l i) Y.over (zp9 f) λx=>?_;obtain⟨v,p,j⟩:=any_some Y.hd;refine Qg (Qh (Qg (Qg (wpAny_loadPart l (Qg ((looks_clsIn X p).here ?_))))));rw[j];refine Qh (a:=some b) (Qg (Qh (Qg ?_)));unfold nsSet;refine Qg (Qg (wpAny_askSetting (Qh (Qg (wpAny_mkText (Qg (wpAny_loadPart i ?_)))))));dsimp only;have q:(!D.toArray.any (·.key.isStr name)&&D.toArray.any (·.refKey))=false:=by rw[←Array.any_toList,←Array.any_toList];show(_&&D.any (·.refKey))=false;rw[o,Bool.and_false]
 rw[aRefKeyMayBeTheName_at,q];refine wpAny_updatePart i ?_;have e:(s.heap.update b (Obj.putName name (PyData.keyHash N.w.params name) (.str name s.toks) u)).get? b=some (dictOf (putL name (PyData.keyHash N.w.params name) (.str name s.toks) u D) (putN name D m)):=by rw[Heap.get?_update_self _ i (by rw[putName_dict];rfl),putName_dict]
 refine Qg (wpAny_lookBehind e (pastItsLine_dict (by rw[List.size_toArray,sizeLine_eq];lia)) ?_);exact Qh (h _ (Wb ..) e)
theorem zmq(q:∀x y,x<N.nms.length->y<N.nms.length->aA N x=aA N y->x=y)(X:K.In s.heap)(Y:KCl K N c t)(C:x<N.nms.length)(H:HS N i J s)(hn:nth J n=some (.inst c d))(o:nth i n=some (a::r))
 (f:len (put d x v)≤100) (hv:VR i s.heap v u) (hQ:∀p,HS N i (upd J n (.inst c (put d x v))) p->Go [] i s i p->Q () p):wpAny N.M A (setAttr (.ref a) (aA N x) u) Q E s:=by
 obtain⟨b,B,m,e,k,l,G⟩:=rT H hn o;rw[e] at o;have D:¬Imm (dictOf B m):=by simp[Imm]
 have g:a≠b:=λz=>nomatch (congrArg Obj.data (prf (k.symm.trans (z▸l))):(instObj c b).data=(dictOf B m).data)
 have I:DE N i s.heap (put d x v) (putL (aA N x) (PyData.keyHash N.w.params (aA N x)) (.str (aA N x) (s.toks+1)) u B):=DE.put q C hv G;refine set_plain X (tG k l) Y.sa (zkh (s:={s with toks:=s.toks+1}) X Y k l (Y.own x C) (DE.noRef G) (I.len▸Qi f (by decide)) λh' j h=>?_);exact hQ {s with heap:=h',toks:=s.toks+1+1} (H.set o (x:=b) (.tail _ (.head _)) (λy ob T e=>(j.2 y T).trans e) ⟨a,b,_,_,rfl,(j.2 a g).trans k,h,I.mono (Ext.refl i) (jO j l D),f⟩ H.gens (Qn _)) (H.goSet o (x:=b) (.tail _ (.head _)) j [] ⟨_,h⟩)
end

def zxh(t:List (Int×LN)):List (PyData×PyData):=t.map λp=>(.int p.1,.str (St p.2))
structure TB(Ω:Bx)(K:Frag)(cx:Cx):Prop where
 X:K.In Ω.h₀
 lim:Ω.h₀.NoLimit
 nm:NM Ω
 inj:∀x y,x<Ω.nms.length->y<Ω.nms.length->aA Ω x=aA Ω y->x=y
 dbg:∀x,x<Ω.nms.length->(aA Ω x==("__debug__":Str))=false/\(aA Ω x==("__classdict__":Str))=false
 top:∃mg mb,Ω.h₀.Ns mainGlobals mg/\Ω.h₀.Ns builtinsNs mb/\∀x:Str,x≠"__name__"->mb x=bootBuiltins x
 glo:∀x v,look cx.glo x=some v->x<Ω.nms.length/\((∃a,v= .top a/\nsIn K mainGlobals (aA Ω x)=some (some (.ref a)))∨
  (∃b,v= .bi b/\nsIn K mainGlobals (aA Ω x)=some none/\bootBuiltins (aA Ω x)=some b.val/\aA Ω x≠"__name__"))
 cls:∀c t,look cx.meth c=some t->KCl K Ω c t
 catt:∀c t,look cx.cattr c=some t->∃mc,readsIn K c mc=true/\∀x v,look t x=some v->∃u,findCls K (.ref c) mc (aA Ω x)=some (.val u)/\handedIn u=true/\∀ρ h,VR ρ h v u
 pat:∀a p,look cx.pat a=some p->∃cd,PatAt Ω.h₀ a cd/\Sre.ops[cd.getD 0 0]? =some .INFO/\cd.getD 2 0=4/\∀c,p c=true->lH cd c
 dct:∀a t,look cx.dct a=some t->IntTab Ω.prog Ω.w Ω.h₀ a (zxh t)/\∀p∈t,sOk p.2
 nset:∀c t f,look cx.meth c=some t->look t cx.nSet=some f->noSeq K c=true/\aA Ω cx.nSet="__setitem__"/\cx.nSet<Ω.nms.length
 ndel:∀c t f,look cx.meth c=some t->look t cx.nDel=some f->noSeq K c=true/\aA Ω cx.nDel="__delitem__"/\cx.nDel<Ω.nms.length
 frz:∀a xs,look cx.frz a=some xs->zga Ω a xs
noncomputable abbrev wM(Ω:Bx)(cx:Cx)(Rm:Around->Prop)(f:Addr):Prop:=
 ∀{ρ₀ ρ:Rho} {hp b:Hp} {s₀ s:Shared} {A:Around} {E Q:Value->Shared->Prop} {r:RV} {as:List RV} {ks:List (Nat×RV)} {vs kvs:List Value},Rm A->HS Ω ρ hp s->Go [] ρ₀ s₀ ρ s->(∀a,s₀.heap.get? a=none->Ω.h₀.get? a=none)->
  (∀p∈ks,p.1<Ω.nms.length)->cx.S f as ks hp=some (r,b)->cD Ω ρ s s₀ (as++ks.map (·.2)) (vs++kvs)->vs.length=as.length->gB Ω ρ₀ s₀ r b Q->
  bL Ω.M s.heap (.ref f)/\wpAny Ω.M A (call (.ref f) vs ((ks.map λp=>aA Ω p.1).zip kvs)) Q E s
theorem yJ(M:Model)(h:Heap)(b:Bi):bL M h b.val:=by cases b<;>exact⟨.machine,.inr (.inl rfl),Looks.of_pure rfl⟩
theorem zez(P:PatAt h a q)(k:∀b o,h.get? b=some o->m.get? b=some o):PatAt m a q:=by obtain⟨o,p,t,c,items,n,M,B,A,l,j,i,f,e⟩:=P.at_;exact⟨o,p,t,c,items,n,k _ _ M,B,A,l,j,i,k _ _ f,e⟩
theorem za3:PySem.Spec.lookup (.int i) (zxh t)=(wA t i).map λx=>PyData.str (St x):=by
 induction t with
 |nil=>rfl
 |cons p r d=>
  show(if PySem.Spec.same (.int p.1) (.int i)=true then some (PyData.str (St p.2)) else PySem.Spec.lookup (.int i) (zxh r))=Option.map _ (cs (Z.eqB p.1 i) (some p.2) (wA r i));rw[PyProof.V.same_int];cases q:Z.eqB p.1 i with
  |true=>rw[if_pos (decide_eq_true ((Z.eqB_iff _ _).mp q))];rfl
  |false=>rw[if_neg (λz=>by rw[(Z.eqB_iff _ _).mpr (of_decide_eq_true z)] at q;exact ff q.symm)];exact d
theorem zrp(h:okc p l=true):∀c∈l,p c=true:=by
 induction l with
 |nil=>exact nofun
 |cons b l d=>have h:aH (p b) (okc p l)=true:=h;exact λc a=>(Qe a).elim (λq=>q▸(aF h).1) (d (aF h).2 c)
theorem zl3(M:∀p∈t,sOk p.2)(B:wA t i=some z):sOk z:=by
 induction t with
 |nil=>exact nn B
 |cons p t d=>
  have B:cs (Z.eqB p.1 i) (some p.2) (wA t i)=some z:=B;cases q:Z.eqB p.1 i with
  |true=>rw[q] at B;exact prf B▸M p (.head _)
  |false=>rw[q] at B;exact d (λq a=>M q (.tail _ a)) B

section
variable{Rm:Around->Prop}{K:Frag}
theorem TB.in(T:TB N K E)(H:HS N b J s):K.In s.heap:=λa o q=>H.base a o (T.X a o q)
theorem zxd(T:TB N K t)(x:Nat)(v:V)(n:look t.glo x=some v):x<N.nms.length/\∃j,(∀ρ h,VR ρ h v j)/\∀{A:Around} {E Q:Value->Shared->Prop} {C:Env} {s:Shared},C.globals=mainGlobals->C.builtins=builtinsNs->(∀b o,N.h₀.get? b=some o->s.heap.get? b=some o)->
 Q j s->wpAny N.M A (loadGlobal C (aA N x)) Q E s:=by
 obtain⟨l,h⟩:=T.glo x v n;obtain⟨u,w,c,p,e⟩:=T.top;rcases h with⟨a,q,f⟩|⟨b,q,f,h2,r⟩
 · rw[q]
   exact⟨l,.ref a,λρ h=>rfl,λi m k q=>loadGlobal_global (i▸c.keeps k) (mg_of T.X c f) q⟩
 · rw[q]
   exact⟨l,b.val,λρ h=>rfl,λi m k q=>loadGlobal_builtin (i▸c.keeps k) (mg_none_of T.X c f) (m▸p.keeps k) ((e _ r).trans h2) q⟩
theorem zxf(T:TB N K G)(l:x<N.nms.length)(b:zf3 G r x J=some q)(H:HS N j J s)(R:RVR N j Y s r v)(g:∀u t,RVR N j Y s q u->Q u {s with toks:=t}):wpAny N.M A (getAttr v (aA N x) true) Q E s:=by
 refine aB b λy p b=>?_;have R:=rvV p R;cases y with
 |ref n=>refine aB b λI B b=>?_;refine aB b λt i b=>?_;refine aB b λu h b=>?_;obtain⟨a,r,o,e⟩:=R;rw[e];exact zms T.inj (T.in H) (T.cls I.1 t i) l H (pI B) o h λf k m=>g f k (prf b▸m)
 |top c=>refine aB b λt i b=>?_;refine aB b λu h b=>?_;rw[show v= .ref c from R];obtain⟨mc,C,d⟩:=T.catt c t i;obtain⟨f,D,z,w⟩:=d x u h;exact cls_value (T.in H) C D z (g f _ (prf b▸w _ _))
 |_=>exact nn b
theorem lX{f:List RV}{ks:List (Nat×RV)}{c a:List Value}(h:emp ks=true)(b:cD N j s Y (f++ks.map (·.2)) (c++a))(l:c.length=f.length){G:List (Nat×RV)->List Value->Prop}(k:fP N j Y s f c->G [] []):G ks a:=by rw[kY h] at b⊢;have e:=b.len;rw[List.length_append,List.length_append,l] at e;rw[List.length_eq_zero_iff.mp (Nat.add_left_cancel e)] at b⊢;have i:=b.toRs;rw[List.append_nil,List.map_nil,List.append_nil] at i;exact k i
theorem zsi(H:HS N b J s)(G:Go [] a Y b s)(g:gB N a Y r J Q):Kq N b Y s r λv u=>0<u.toks->Q v u:=λv e t k R c=>g b _ v (H.heap k c) (mO G k) R
theorem xJ(h:same J o=some (r,a)):o=some r/\J=a:=by refine aB h λx M h=>?_;have q:=Prod.mk.inj (prf h);exact⟨M.trans (congrArg some q.1),q.2⟩
theorem zxe(T:TB N K v)(x:∀A,Rm A->A.handled=none/\A.units+70<cLine)(m:∀f,wM N v Rm f){j:Hp}{g r:RV}{i:Value}{o:List RV}{ks:List (Nat×RV)}{k c:List Value}(u:Rm A)(H:HS N l J s)(G:Go [] h Y l s)(D:∀a,Y.heap.get? a=none->N.h₀.get? a=none)
 (z:∀p∈ks,p.1<N.nms.length) (e:zb3 v g o ks J=some (r,j)) (R:RVR N l Y s g i) (w:cD N l s Y (o++ks.map (·.2)) (k++c)) (q:k.length=o.length) (t:gB N h Y r j Q):
 bL N.M s.heap i/\wpAny N.M A (call i k ((ks.map λp=>aA N p.1).zip c)) Q E s:=by
 refine aB e λy I e=>?_;have R:=rvV I R;cases y with
 |top f=>rw[show i= .ref f from R];exact m f u H G D z e w q t
 |bi b=>refine aJ e λC e=>?_;obtain⟨B,d⟩:=xJ e;rw[show i=b.val from R];exact lX (G:=λks c=>bL N.M s.heap b.val/\wpAny N.M A (call b.val k ((ks.map λp=>aA N p.1).zip c)) Q E s) C w q λR2=>⟨yJ _ _ b,cM H.tk (ybv H (x A u).1 (dA G).n B R2 (zsi H G (d▸t)))⟩
 |_=>exact nn e
theorem zhb(h:Nat.ble x 2=true):x=0∨x=1∨x=2:=match x,h with
 |0,_=> .inl rfl|1,_=> .inr (.inl rfl)|2,_=> .inr (.inr rfl)|_+3,h=>ff h
noncomputable abbrev zwk(Ω:Bx)(ρ:Rho)(s:Shared)(k:MK)(x:Nat)(v:Value):Prop:=∃f first,MR ρ s.heap k x f first/\∀{A:Around} {E:Value->Shared->Prop} {Q:Value×List Value->Shared->Prop} {a:Sem Bool},Q (f,first) s->wpAny Ω.M A (getMethod v (aA Ω x) a) Q E s
theorem yde(T:TB N K E)(p:x<N.nms.length)(h:mkO E n x o=some k)(H:HS N l J s)(j:nth J n=some o)(i:nth l n=some (a::e)):zwk N l s k x (.ref a):=by
 cases o with
 |inst c d=>refine aJ h λM h=>?_;refine aB h λt B h=>?_;refine aB h λf A h=>?_;rw[←prf h];exact⟨.ref f,[.ref a],⟨rfl,_,rfl,a,e,i,rfl⟩,λq=>zbf T.inj (T.in H) (T.cls c t B) p H j i (nL M) A q⟩
 |list w=>
  refine aJ h λM h=>?_;rw[←prf h];obtain⟨y,G,m,r,B,_⟩:=H.obj _ _ _ j i;obtain⟨v,u⟩:=List.cons.inj r;rw[u] at i;rw[←v] at B;refine⟨.builtin (zvw x),[.ref a],⟨rfl,a,i,rfl⟩,λq=>?_⟩;rcases zhb M with z|z|z
  · rw[z] at q⊢;rw[T.nm.n0];exact zdv B q
  · rw[z] at q⊢;rw[T.nm.n1];exact getMethod_builtin (tyL B) F.plainAttrs_list F.slot_list_pop F.type_list_pop (λb e=>by cases e;exact⟨_,B,rfl⟩) q
  · rw[z] at q⊢;rw[T.nm.n2];exact getMethod_builtin (tyL B) F.plainAttrs_list F.slot_list_index F.type_list_index (λb e=>by cases e;exact⟨_,B,rfl⟩) q
 |dict D=>exact(H.obj _ _ _ j i).elim
theorem zgm(M:Nat.ble 2 x=true)(B:Nat.ble x 6=true):x=2∨x=3∨x=4∨x=5∨x=6:=match x,M,B with
 |0,h,_=>ff h|1,h,_=>ff h|2,_,_=> .inl rfl|3,_,_=> .inr (.inl rfl)|4,_,_=> .inr (.inr (.inl rfl))|5,_,_=> .inr (.inr (.inr (.inl rfl)))|6,_,_=> .inr (.inr (.inr (.inr rfl)))|_+7,_,h=>ff h
theorem zp7(T:TB N K E)(j:x<N.nms.length)(b:fT E r x J=some k)(H:HS N c J s)(R:RVR N c Y s r v):zwk N c s k x v:=by
 refine aB b λy M b=>?_;have R:=rvV M R;cases y with
 |ref n=>refine aB b λo B b=>?_;obtain⟨a,e,h,q⟩:=R;rw[q];exact yde T j b H B h
 |str z=>refine aJ b λB b=>?_;refine aJ b λA b=>?_;obtain⟨⟨t,q⟩,f⟩:=R;rw[q,←prf b];exact⟨.builtin (vL x),[.str (St z) t],⟨rfl,f,t,rfl⟩,λq=>zst T.nm (zgm B A) q⟩
 |top a=>
  rw[show v= .ref a from R];rcases dQ b with b|b
  · refine aJ b λB b=>?_
    refine aB b λp A b=>?_;obtain⟨i,P,_⟩:=T.pat a p A;rw[←prf b,aN B];exact⟨.builtin "re.Pattern.search",[.ref a],⟨rfl,rfl⟩,λq=>by rw[T.nm.n8];exact zdu (zez P H.base) q⟩
  · refine aJ b λB b=>?_
    refine aB b λt A b=>?_;rw[←prf b,aN B];exact⟨.builtin "dict.get",[.ref a],⟨rfl,rfl⟩,λq=>by rw[T.nm.n9];exact getMethod_intTab_get ((T.dct a t A).1.keep H.base) q⟩
 |_=>exact nn b
theorem zxc(T:TB N K cx)(e:zr5 cx a x as=some r)(H:HS N n hp s)(R:fP N n Y s as G)(g:Kq N n Y s r Q):wpAny N.M A (call (.builtin (zej x)) (.ref a::G)) Q E s:=by
 rcases dQ e with e|e
 · refine aJ e λl e=>?_
   refine aB e λq B e=>?_;refine aB e λz k e=>?_;refine aB e λp j e=>?_;refine aJ e λh e=>?_;rw[←prf e] at g;rw[aN l];obtain⟨cd,P,C,d,y⟩:=T.pat a p j;exact as1_e (P:=λG=>wpAny N.M A (call (.builtin "re.Pattern.search") (.ref a::G)) Q E s) B R λv m=>rvS_e (P:=λv=>wpAny N.M A (call (.builtin "re.Pattern.search") [.ref a,v]) Q E s) k m λt b=>zgw (zez P H.base) C d b (λc J=>y c (zrp h c J)) (Kq.here g rfl)
 · refine aJ e λl e=>?_
   refine aB e λq B e=>?_;refine aB e λi k e=>?_;refine aB e λdd j e=>?_;refine aB e λt h e=>?_;rw[←prf e] at g;rw[aN l];obtain⟨D,hD⟩:=T.dct a t h;refine as2_e (P:=λG=>wpAny N.M A (call (.builtin "dict.get") (.ref a::G)) Q E s) B R λv u m R2=>rvI_e (P:=λv=>wpAny N.M A (call (.builtin "dict.get") [.ref a,v,u]) Q E s) k m λw=>rvS_e (P:=λu=>wpAny N.M A (call (.builtin "dict.get") [.ref a,.int i w,u]) Q E s) j R2 λt2 I=>?_;refine call_get2_intTab (D.keep H.base) (PyProof.V.Flat.str _ _) λv f=>?_;rw[za3] at f;cases b:wA t i with
   |some z=>rw[b] at f g;obtain⟨o,q⟩:=PyProof.V.Flat.str_inv f;exact q▸jL (zl3 hD b) g _ _
   |none=>rw[b] at f g;obtain⟨o,q⟩:=PyProof.V.Flat.str_inv f;exact q▸jL I g _ _
theorem zi4(T:TB N K cx)(C:∀f,wM N cx Rm f){d:Hp}{k:MK}{x:Nat}{r:RV}{f:Value}{first:List Value}{as:List RV}{ks:List (Nat×RV)}{vs b:List Value}(hA:Rm A)(H:HS N B hp s)(G:Go [] i Y B s)(hb:∀a,Y.heap.get? a=none->N.h₀.get? a=none)
 (hk:∀p∈ks,p.1<N.nms.length) (e:kC cx k x as ks hp=some (r,d)) (M:MR B s.heap k x f first) (D:cD N B s Y (as++ks.map (·.2)) (vs++b)) (o:vs.length=as.length) (w:gB N i Y r d Q):
 bL N.M s.heap f/\wpAny N.M A (call f (first++vs) ((ks.map λp=>aA N p.1).zip b)) Q E s:=by
 cases k with
 |fn g self=>obtain⟨q,v,j,hv⟩:=M;rw[q,j];exact C g hA H G hb hk e (as:= .v self::as) (vs:=v::vs) ⟨v,_,Y,rfl,hv,Lt.refl _,dA G,(λxs q=>nomatch q),D⟩ (congrArg (· +1) o) w
 |dict n=>exact M.elim
 |lst n=>
  obtain⟨q,a,I,j⟩:=M;rw[q,j];refine aJ e λm e=>?_
  refine aB e λxs h2 e=>?_;rcases dQ e with e|e
  · refine aJ e λc e=>?_
    refine aB e λy l e=>?_;refine aJ e λJ e=>?_;refine aB e λp h6 e=>?_;have q:=Prod.mk.inj (prf e);rw[aN c];exact lX (G:=λks b=>bL N.M s.heap (.builtin "list.append")/\wpAny N.M A (call (.builtin "list.append") (.ref a::vs) ((ks.map λp=>aA N p.1).zip b)) Q E s) m D o λh=>
     as1_e (P:=λvs=>bL N.M s.heap (.builtin "list.append")/\wpAny N.M A (call (.builtin "list.append") (.ref a::vs)) Q E s) l h λu R1=>⟨eH _ _ _,zh4 H G hb h2 I J h6 R1 (by rw[q.1,q.2];exact w)⟩
  rcases dQ e with e|e
  · refine aJ e λc e=>?_
    rw[aN c];exact lX (G:=λks b=>bL N.M s.heap (.builtin "list.pop")/\wpAny N.M A (call (.builtin "list.pop") (.ref a::vs) ((ks.map λp=>aA N p.1).zip b)) Q E s) m D o λh=>⟨eH _ _ _,zyj H G h2 I e h w⟩
  · refine aJ e λc e=>?_
    rw[aN c];obtain⟨l,J⟩:=xJ e;exact lX (G:=λks b=>bL N.M s.heap (.builtin "list.index")/\wpAny N.M A (call (.builtin "list.index") (.ref a::vs) ((ks.map λp=>aA N p.1).zip b)) Q E s) m D o λh=>⟨eH _ _ _,cM H.tk (zhe H h2 I l h (zsi H G (J▸w)))⟩
 |str z=>
  obtain⟨q,hz,t,j⟩:=M;rw[q,j];refine aJ e λm e=>?_
  obtain⟨c,l⟩:=xJ e;exact lX (G:=λks b=>bL N.M s.heap (.builtin (vL x))/\wpAny N.M A (call (.builtin (vL x)) (.str (St z) t::vs) ((ks.map λp=>aA N p.1).zip b)) Q E s) m D o λh=>⟨eH _ _ _,cM H.tk (zjr H (dA G).n hz c h (zsi H G (l▸w)))⟩
 |top a=>
  obtain⟨q,j⟩:=M;rw[q,j];refine aJ e λm e=>?_
  obtain⟨c,l⟩:=xJ e;exact lX (G:=λks b=>bL N.M s.heap (.builtin (zej x))/\wpAny N.M A (call (.builtin (zej x)) (.ref a::vs) ((ks.map λp=>aA N p.1).zip b)) Q E s) m D o λh=>⟨eH _ _ _,cM H.tk (zxc T c H h (zsi H G (l▸w)))⟩
theorem zeg(H:HS N f J s)(o:nth J n=some (.inst c d))(R:VR f s.heap (.ref n) h):∃a j,h= .ref a/\∃i,InstAt s.heap a i c j:=by obtain⟨a,r,k,e⟩:=R;obtain⟨b,D,m,_,l,p,_⟩:=rT H o k;exact⟨a,_,e,_,tG l p⟩
theorem zp6(T:TB N K l)(r:∀f,wM N l Rm f){j:Hp}{Q:Unit->Shared->Prop}{n c f:Nat}{d:List (Nat×V)}{k v:V}{p w u:Value}{t:List (Nat×Nat)}(hA:Rm A)(hn:nth J n=some (.inst c d))(D:look l.meth c=some t)(g:look t l.nSet=some f)(e:l.S f [.v (.ref n),.v k,.v v] [] J=some (.v .none,j))
 (H:HS N o J s) (G:Go [] b Y o s) (hb:∀a,Y.heap.get? a=none->N.h₀.get? a=none) (B:VR o s.heap (.ref n) p) (R2:VR o s.heap k w) (R3:VR o s.heap v u) (hQ:∀m i,HS N m j i->Go [] b Y m i->Q () i):wpAny N.M A (setItem p w u) Q E s:=by
 obtain⟨a,od,q,ox,I⟩:=zeg H hn B;obtain⟨z1,C,z3⟩:=T.nset c t f D g;obtain⟨y,m2⟩:=(T.cls c t D).me l.nSet f g;rw[C] at y;have X:=T.in H;have h:=(r f hA H G hb (ks:=[]) nofun e (vs:=[p,w,u]) (kvs:=[]) ⟨_,_,Y,rfl,B,Lt.refl _,dA G,(λx q=>nomatch q),⟨_,_,Y,rfl,R2,Lt.refl _,dA G,(λx q=>nomatch q),⟨_,_,Y,rfl,R3,Lt.refl _,dA G,(λx q=>nomatch q),rfl⟩⟩⟩ rfl (Q:=λU i=>Q () i) (E:=E) λm i v' H' G' U=>hQ m i H' G').2;rw[q] at h⊢;unfold setItem sequenceKey;refine wpAny_holding (Qg (Qg (I.type.here ?_)));refine Qg ((anyM_none X z1).here ?_);rw[if_pos (show(!false)=true from rfl)];exact Qh (Qg (special_fn X I y m2 (Qv h (λU U z=>Qh z) λU U z=>z)))
theorem zp8(T:TB N K j)(p:∀f,wM N j Rm f){i:Hp}{Q:Unit->Shared->Prop}{n c f:Nat}{d:List (Nat×V)}{k:V}{o r:Value}{t:List (Nat×Nat)}(hA:Rm A)(hn:nth J n=some (.inst c d))(x:look j.meth c=some t)(y:look t j.nDel=some f)(e:j.S f [.v (.ref n),.v k] [] J=some (.v .none,i))
 (H:HS N l J s) (G:Go [] b Y l s) (hb:∀a,Y.heap.get? a=none->N.h₀.get? a=none) (D:VR l s.heap (.ref n) o) (R2:VR l s.heap k r) (hQ:∀m u,HS N m i u->Go [] b Y m u->Q () u):wpAny N.M A (delItem o r) Q E s:=by
 obtain⟨a,od,q,ox,I⟩:=zeg H hn D;obtain⟨B,g,z3⟩:=T.ndel c t f x y;obtain⟨w,m2⟩:=(T.cls c t x).me j.nDel f y;rw[g] at w;have X:=T.in H;have h:=(p f hA H G hb (ks:=[]) nofun e (vs:=[o,r]) (kvs:=[]) ⟨_,_,Y,rfl,D,Lt.refl _,dA G,(λC q=>nomatch q),⟨_,_,Y,rfl,R2,Lt.refl _,dA G,(λC q=>nomatch q),rfl⟩⟩ rfl (Q:=λU u=>Q () u) (E:=E) λm u v' H' G' U=>hQ m u H' G').2;rw[q] at h⊢;unfold delItem sequenceKey;refine wpAny_holding (Qg (Qg (I.type.here ?_)));refine Qg ((anyM_none X B).here ?_);rw[if_pos (show(!false)=true from rfl)];exact Qh (Qg (special_fn X I w m2 (Qv h (λU U z=>Qh z) λU U z=>z)))
theorem zza(T:TB N K E)(q:∀A,Rm A->A.handled=none/\A.units+70<cLine)(r:Wk0 N Rm)(a:∀f,wM N E Rm f):CT N E Rm:=
 ⟨q,r,T.frz,T.inj,T.dbg,λx v=>zxd T x v,λj w H R=>zxf T j w H R,λb H G c l e R n k g=>zxe T q a b H G c l e R n k g,
  λb j i h t k H s g=>zmq T.inj (T.in H) (T.cls _ _ h) j H i t k s g,λb i h m e H G c p o y g=>zp6 T a b i h m e H G c p o y g,λb i h m e H G c p o g=>zp8 T a b i h m e H G c p o g,λj u H R=>zp7 T j u H R,
  λb H G c l e M n k g=>zi4 T a b H G c l e M n k g⟩
end

structure Fn where
 ps:LN
 kn:LN
 dv:List V
 b:List FS
 sc:List (Nat×Nat)
def fnX(a:Fn)(E:Cx)(T:List V)(J:Hp):Option (RV×Hp):=ifb (Nat.beq (len (T++a.dv)) (len a.ps)) (body E a.b (a.ps.zip (T++a.dv)) J)
noncomputable def dX:List (Nat×RV)->LN
 |[]=>[]
 |p::r=>p.1::dX r
noncomputable def pR:List (Nat×RV)->List RV
 |[]=>[]
 |p::r=>p.2::pR r
def fnS(b:Fn)(E:Cx)(c:List RV)(a:List (Nat×RV))(J:Hp):Option (RV×Hp):=ifb (leq (dX a) b.kn) (bd (dT (c++pR a) J) λx=>fnX b E x.1 x.2)
def zd3(Cl:Nat)(b:Fn)(E:Cx)(c:List RV)(a:List (Nat×RV))(J:Hp):Option (RV×Hp):=ifb (leq (dX a) b.kn) (bd (dT (c++pR a) J) λx=>
 bd (fnX b E (.ref (len x.2)::x.1) (x.2++[.inst Cl []])) λw=>ifb (rN w.1) (some (.v (.ref (len x.2)),w.2)))
structure FnOk(K:Frag)(Ω:Bx)(fn:Fn)(f:Addr):Prop where
 ex:∃(oc:Value) (od:Option Addr) (osl:Array (Option Value)) (name qual:Str) (mr:List (Str×Const)) (params:Arguments) (dV kV doc pm cdv ct:Value) (an:Option Addr) (dus:List Value),
  K.lookup f=some ⟨oc,od,.func (fnOf name qual params (tSs (aA Ω) fn.b) (scM (aA Ω) fn.sc mr) dV kV doc pm an cdv ct),osl⟩/\codeIn K cdv qual=true/\(∀ρ h,VRs ρ h fn.dv dus)∧
  ∀(s:Shared) (us kus:List Value),K.In s.heap->us.length+kus.length+fn.dv.length=fn.ps.length->kus.length=fn.kn.length->
   BindsTo s (fnOf name qual params (tSs (aA Ω) fn.b) (scM (aA Ω) fn.sc mr) dV kV doc pm an cdv ct) ⟨us,(fn.kn.map (aA Ω)).zip kus⟩ ((fn.ps.map (aA Ω)).zip (us++kus++dus))
 P:Pars Ω fn.sc fn.ps
 w:wSs Ω.nms.length fn.sc fn.b=true
 keep:keepIn K (.ref f)=true

theorem pF(a:List (Nat×RV)):dX a=a.map (·.1):=by
 induction a with
 |nil=>rfl
 |cons p r d=>exact congrArg (p.1:: ·) d
theorem zgg(a:List (Nat×RV)):pR a=a.map (·.2):=by
 induction a with
 |nil=>rfl
 |cons p r d=>exact congrArg (p.2:: ·) d
section
variable{K:Frag}{s₀ s s':Shared}

theorem zbt(C:CT N E (Rm d))(X:K.In N.h₀)(i:N.h₀.NoLimit)(F:FnOk K N fn f)(n:Rm (d+1) A)(H:HS N h J s)(G:Go [] Q s₀ h s)(R:VRs h s.heap xs (us++kus))(m:kus.length=fn.kn.length)
 {r:RV×Hp} (e:fnX fn E xs J=some r) {k:Result->Shared->Prop} (g:gB N Q s₀ r.1 r.2 λv s'=>k (.ok (.ret v)) s'):codeAny N.M A (.call (.ref f) ⟨us,(fn.kn.map (aA N)).zip kus⟩) k s:=by
 obtain⟨T,I,l,name,j,Y,b,dV,kV,y,D,z,ct,an,x,u,B,t,p⟩:=F.ex;refine aJ e λc e=>?_
 have c:=aN c;rw[aK,aK,List.length_append,←R.len,List.length_append] at c;exact zs2 C (λU q=>q) n X i u B F.P F.w H G (p s us kus (λa o q=>H.base a o (X a o q)) c m) (VRs.append R (t h s.heap)) e g
theorem zzz{b:Fn}{a:List (Nat×RV)}(h:leq (dX a) b.kn=true):(a.map λp=>aA Ω p.1)=b.kn.map (aA Ω)/\a.length=b.kn.length:=by rw[←cN h,pF,List.map_map,List.length_map];exact⟨rfl,rfl⟩
theorem zfg{h:Fn}{i:List RV}{e:List (Nat×RV)}{f c:List Value}{x:List V×Hp}(t:leq (dX e) h.kn=true)(l:dT (i++pR e) J=some x)(H:HS N j J s)(G:Go [] Q s₀ j s)(u:∀a,s₀.heap.get? a=none->N.h₀.get? a=none)(n:cD N j s s₀ (i++e.map (·.2)) (f++c))(r:f.length=i.length){P:List Str->Prop}
 (k:∀m,HS N m x.2 s->Go [] Q s₀ m s->VRs m s.heap x.1 (f++c)->c.length=h.kn.length->P (h.kn.map (aA N))):P (e.map λp=>aA N p.1):=by
 obtain⟨q,o⟩:=zzz (Ω:=N) t;rw[zgg] at l;obtain⟨m,w,y,v,_⟩:=wL H G u (Lt.refl s₀) l n;have b:=n.len;rw[List.length_append,List.length_append,List.length_map,r,o] at b;rw[q];exact k m w y v (Nat.add_left_cancel b)
theorem ya4{d:Nat}(C:CT N B (Rm d))(X:K.In N.h₀)(i:N.h₀.NoLimit){m:Fn}{f:Addr}(F:FnOk K N m f){k:List RV}{j:List (Nat×RV)}{h c:List Value}{r:RV×Hp}(D:Rm (d+1) A)(H:HS N l J s)(G:Go [] b s₀ l s)(y:∀a,s₀.heap.get? a=none->N.h₀.get? a=none)
 (e:fnS m B k j J=some r) (I:cD N l s s₀ (k++j.map (·.2)) (h++c)) (v:h.length=k.length) (g:gB N b s₀ r.1 r.2 Q):
 bL N.M s.heap (.ref f)/\wpAny N.M A (call (.ref f) h ((j.map λp=>aA N p.1).zip c)) Q E s:=by
 refine aJ e λw e=>?_;refine aB e λx z e=>?_;exact⟨keeps_K F.keep s.heap λa o q=>H.base a o (X a o q),zfg (P:=λn=>wpAny N.M A (call (.ref f) h (n.zip c)) Q E s) w z H G y I v λt Y G' T u=>wpAny_call (zbt C X i F D Y G' T u e g)⟩
theorem zpt{c:Shared}{a:Rho}(mono:∀{v:V} {u:Value},VR e s.heap v u->VR a c.heap v u){T:List V}:∀{b:List Value},VRs e s.heap T b->VRs a c.heap T b:=by
 induction T with
 |nil=>exact λh=>h
 |cons y f d=>exact λ{b} R=>vrs_e (P:=λb=>VRs a c.heap (y::f) b) R λu t j i=>VRs.cons (mono j) (d i)
theorem ztu{d:Nat}(C:CT N cx (Rm d))(X:K.In N.h₀)(k:N.h₀.NoLimit){v:Fn}{f Cl:Addr}(F:FnOk K N v f)(Y:makesIn K Cl=true)(hi:findIn K (.ref Cl) "__init__"=some (some (.ref f)))(hf:typeIn K (.ref f)=some (.type "function"))(h:keepIn K (.ref Cl)=true)
 {t:List RV} {l:List (Nat×RV)} {i b:List Value} {r:RV×Hp} (hA:Rm (d+2) A) (H:HS N u J s) (G:Go [] c s₀ u s) (hb:∀a,s₀.heap.get? a=none->N.h₀.get? a=none)
 (e:zd3 Cl v cx t l J=some r) (Rs:cD N u s s₀ (t++l.map (·.2)) (i++b)) (hl:i.length=t.length) (g:gB N c s₀ r.1 r.2 Q):
 bL N.M s.heap (.ref Cl)/\wpAny N.M A (call (.ref Cl) i ((l.map λp=>aA N p.1).zip b)) Q E s:=by
 refine aJ e λhk e=>?_;refine aB e λx ha e=>?_;refine aB e λw he e=>?_;refine aJ e λI e=>?_;rw[←prf e] at g;refine⟨keeps_K h s.heap λa o q=>H.base a o (X a o q),zfg (P:=λn=>wpAny N.M A (call (.ref Cl) i (n.zip b)) Q E s) hk ha H G hb Rs hl λz H' G' R' T=>?_⟩;exact ybn (Ω:=N) hA X Y hi hf H' G' g λ{j D A1 y R1} m H1 mono B hP=>zbt C X k F m H1 (Go.refl [] j D) (us:= .ref y::i) (kus:=b) (xs:= .ref (len x.2)::x.1) (VRs.cons B (zpt mono R')) T he (zyf I▸hP)
end
section
open Sem (wp)
section
variable{env:Env}
 {K:Flow->Sem Fin} {H:Value->Sem Fin} {gd:Bool->Bool} {lv:List Value->List Value}
theorem zc0{e:Expr}{body a:List Stmt}{i:Pos}
 (h:wpAny M (A.over c j) (isTrue e env (eval e env)) (λb u=>if b=true then Seg M A R Y n f c ((execs body env).wrap K H l lv) j u else Seg M A R Y n f c ((execs a env).wrap K H l lv) j u)
  (λx u=>Seg M A R Y n f c (H x) j u) s):
 Seg M A R Y n f c ((exec (.If e body a i) env).wrap K H l lv) j s:=by
 show Seg M A R Y n f c (.at i λU=>(isTrue e env (eval e env)>>=λb=>if b=true then execs body env else execs a env).wrap K H l lv) j s;refine seg_at ?_;rw[Sem.bind_eq_wrap',Sem.wrap_wrap];refine seg_wrap (Qv h (λb u k=>?_) λU U x=>x);cases b with
 |true=>rw[if_pos rfl] at k;exact k
 |false=>rw[if_neg Bool.false_ne_true] at k;exact k
theorem lG{e:Stmt}(h:wpAny M (A.over c b) (exec e env) (λf u=>Seg M A R Y n a c (K f) b u) (λx u=>Seg M A R Y n a c (H x) b u) s):
 Seg M A R Y n a c ((exec e env).wrap K H i lv) b s:=seg_wrap h
theorem zq9{target iter:Expr}{body a:List Stmt}{k:Pos}(q:∀x,foldedSetIterable iter env x=pure x)
 (h:wpAny M (A.over c j) (eval iter env) (λx m=>wpAny M (A.over c j) (pyIter x) (λi o=>∀p,Seg M A R Y n b (.forLoop target i body a env) (M.den (.forLoop target i body a env))
  (.ret (λr=>((match r with| .ok f=>(.pure f:Sem Flow)| .error e=> .raise e).onRaise λ(x:Value)=>do
   if(←field x 1)==Value.none then unsupported "frame.own-activation:exception-without-traceback"
   setFlight x env.frame).wrap K H l lv) none (l false) (lv []) c p []::j) o) (λx u=>Seg M A R Y n b c (H x) j u) m) (λx u=>Seg M A R Y n b c (H x) j u) s):
 Seg M A R Y n b c ((exec (.For target iter body a k) env).wrap K H l lv) j s:=by
 rw[exec_For];show Seg M A R Y n b c (.at k λU=>(eval iter env>>=λy=>foldedSetIterable iter env y>>=λx=>standAt iter.pos>>=λU=>holding [x] (pyIter x)>>=λi=>runOwn (.forLoop target i body a env) env).wrap K H l lv) j s;refine seg_at ?_;rw[Sem.bind_eq_wrap',Sem.wrap_wrap];refine seg_wrap (Qv h (λx m t=>?_) λU U x=>x);rw[q];show Seg M A R Y n b c (.at iter.pos λU=>(holding [x] (pyIter x)>>=λi=>runOwn (.forLoop target i body a env) env).wrap K H l lv) j m;refine seg_at ?_;rw[Sem.bind_eq_wrap',Sem.wrap_wrap];refine seg_wrap (Qv (wpAny_holding t) (λi o B=>?_) λU U x=>x);exact seg_call B
end
section
variable{Ω:Bx}
noncomputable abbrev zvv(C:Env):Value->Sem Fin:=λe=>(do noteFrame e C;theTreesLotGoes e:Sem Unit).wrap (λU=> .raise e) .raise id id
noncomputable abbrev zl1(target:Expr)(b:Value)(body a:List Stmt)(C:Env):Flow->Sem Fin:=λf=>match f with
 | .next| .cont=> .pure (.again (.forLoop target b body a C))
 | .brk=> .pure (.done .next)
 | .ret v=> .pure (.done (.ret v))
theorem pU{target:Expr}{i:Value}{body b:List Stmt}
 (h:wpAny Ω.M (A.over (.forLoop target i body b C) k) (pyNext i) (λo u=>match o with
  |none=>Seg Ω.M A R Y n c (.forLoop target i body b C) (.pure (.again (.block b C))) k u
  |some v=>wpAny Ω.M (A.over (.forLoop target i body b C) k) (letOwnedTupleGo target i v>>=λU=>assign target C v) (λU j=>
   Seg Ω.M A R Y n c (.forLoop target i body b C) ((execs body C).wrap (zl1 target i body b C) (zvv C) id id) k j) (λU U=>False) u)
  (λU U=>False) s):
 Seg Ω.M A R Y n c (.forLoop target i body b C) (Ω.M.den (.forLoop target i body b C)) k s:=by
 show Seg _ A R Y n c _ (.at target.pos λU=>(((pyNext i).onRaise (λU=>standAt {target.pos with line:=0}))>>=_).onRaise (λx=>do noteFrame x C;theTreesLotGoes x)) k s;refine seg_at ?_;rw[Sem.onRaise_eq_wrap,Sem.bind_eq_wrap',Sem.wrap_wrap,Sem.onRaise_eq_wrap,Sem.wrap_wrap];refine seg_wrap (Qv h (λo u m=>?_) λU U x=>x.elim);cases o with
 |none=>exact m
 |some v=>
  show Seg _ A R Y n c _ ((letOwnedTupleGo target i v>>=λU=>assign target C v>>=λU=>execs body C>>=λf=>(match f with| .next| .cont=>again (.forLoop target i body b C)| .brk=>pure (.done .next)| .ret v=>pure (.done (.ret v)):Sem Fin)).wrap _ _ _ _) k u;have e:∀l,(letOwnedTupleGo target i v>>=λU=>assign target C v>>=l)=((letOwnedTupleGo target i v>>=λU=>assign target C v)>>=l:Sem Fin):=λl=>by simp only[Sem.bind_eq_wrap',Sem.wrap_wrap];rfl
  rw[e,Sem.bind_eq_wrap',Sem.wrap_wrap];refine seg_wrap (Qv m (λU j B=>?_) λU U x=>x.elim);rw[Sem.bind_eq_wrap',Sem.wrap_wrap];have p:∀(f:Flow) (gd lv),((match f with| .next| .cont=>again (.forLoop target i body b C)| .brk=>pure (.done .next)| .ret v=>pure (.done (.ret v)):Sem Fin).wrap (λa=> .pure a) (λx=>(do noteFrame x C;theTreesLotGoes x:Sem Unit).bind λU=> .raise x) gd lv)=zl1 target i body b C f:=λf U U=>by cases f<;>rfl
  refine Eq.mp (congrArg (λt=>Seg _ A R Y n c _ t k j) ?_) B;exact Sem.wrap_congr _ _ _ (λf=>(by cases f<;>rfl)) (λe=>(Sem.bind_eq_wrap _ _).symm)
theorem uR(h:Seg Ω.M A R Y n a (.block [] C) (.pure (.done .next)) b s):Seg Ω.M A R Y n a (.block [] C) (Ω.M.den (.block [] C)) b s:=h
theorem zq7{target:Expr}{f:Value}{body:List Stmt}{k:Result->Sem Fin}{g:Bool}{l:List Value}{a:Code}{c:Pos}{e:List Value}(h:Seg Ω.M A R Y n b a (k (.ok .next)) i s):
 Seg Ω.M A R Y n b (.forLoop target f body [] C) (.pure (.again (.block [] C))) (.ret k none g l a c e::i) s:=
 seg_again rfl (uR (seg_leaf (.ok .next) h))
end
end
section
open Sem (wp)
section
variable{Ω:Bx}
theorem zan{a:Addr}{g n:Nat}{p:GenState}{P:Nat->Shared->Shared->Prop}{Y:Protocol}{Q:Option Value->Shared->Prop}(q:A.handled=none)
 (D:s.heap.NoLimit) (f:A.depth<recursionLimit)
 (k:s.heap.IsGen a g) (i:s.gens[g]? =some p)
 (h:p.Goes Ω.M A.in1 (λn c r z=>r= .ok (.ret .none)/\P n c z) Y n (.send .none) (s.setGen g .running))
 (H:∀v z e,e.bare=true->Y (n-1) (s.setGen g .running) v z (λu j=>match n with
  |0=>False
  |m+1=>e.Goes Ω.M A.in1 (λn c r z=>r= .ok (.ret .none)/\P n c z) Y m u j)->Q (some v) (z.setGen g e))
 (d:∀z,P n (s.setGen g .running) z->∀t,(∀b o,z.heap.get? b=some o->t.get? b=some o)->Q none {z.setGen g .finished with heap:=t}):
 wpAny Ω.M A (pyNext (.ref a)) Q E s:=by
 unfold pyNext;refine Qg (wpAny_attempt (wpAny_callSpecial?_slot (name:=Str.ofString "__next__") k.typeIs slot_gen_next
  (wpAny_call_entry slot_gen_next k.typeIs entry_gen_next ?_ (args_gen_next _))))
 show wpAny _ A.in1 (Builtin.Generator.genWake (.ref a) (.send .none)) _ _ s;unfold Builtin.Generator.genWake;refine Qg (wpAny_holding (wpAny_genNumber k (Qg (wpAny_genState i ?_))));cases p with
 |running=>exact h.elim
 |finished=>exact h.elim
 |_=>
  refine Qg (wpAny_roomToWake D f ?_);show wpAny _ A.in1 (.resume g (.send .none) [] _) _ _ s;refine wpAny_resumeQ i h (λx z w=>?_) (λv z e l y=>?_)
  · obtain⟨rfl,J⟩:=w
    show wpAny _ A.in1 (newExc (.type "StopIteration") []>>=_) _ _ _;refine Qg ?_;simp only[newExc,newTuple];refine Qg (wpAny_newObj_type ?_ (by size_fits));refine Qg (m:=firstArgMember _ _) (wpAny_of_eq (a:=Value.none) (by first|rfl|(simp only[firstArgMember];rfl)) ?_);refine wpAny_newObj_type ?_ (by size_fits);simp only[raiseNew];refine Qg (Qg (wpAny_handled ?_))
    first|rw[show A.in1.handled=none from q]|rw[q]
    refine wpAny_throw ?_;refine Qg (wpAny_isInstance (T:="StopIteration") (b:=true) ⟨_,Qk _ rfl,rfl⟩ isSubtype_stop ?_);exact Qh (d z J _ λb o l=>Qc _ (Qc _ l))
  · exact Qh ⟨v,rfl,Qh (H v z e l y)⟩
end
end
def scG(b:Nat->Str)(a:List (Nat×Nat)):Scope:={kind:= .function,names:=scN b a,isGenerator:=true,isCoroutine:=false}
theorem zm4{Ω:Bx}{j:List (Nat×Nat)}{J:Hp}{n:Rho}{s k:Shared}{A:Around}(N:Apart Ω)(T:A.depth<recursionLimit){K:Frag}(z:K.In s.heap)(l:Ω.h₀.NoLimit){f:Addr}{d:Value}{D:Option Addr}{q:Array (Option Value)}{name a:Str}{b:Arguments}{body:List Stmt}{v u m t i w:Value}{y:Option Addr}
 (E:K.lookup f=some ⟨d,D,.func (fnOf name a b body (scG (aA Ω) j) v u m t y i w),q⟩) (r:codeIn K i a=true) {p:LN} (P:Pars Ω j p)
 (H:HS Ω n J k) {args:Args} {us:List Value} {vs:List V} (h:∀(Y:Around) (E':Value->Shared->Prop) (Q:List (Str×Value)->Shared->Prop),Q ((p.map (aA Ω)).zip us) k->wpAny Ω.M Y (bindArgs (fnOf name a b body (scG (aA Ω) j) v u m t y i w) args) Q E' s) (G:VRs n k.heap vs us)
 {R:Result->Shared->Prop} (o:∀(C:Env) (c:Shared),Frm Ω C j (p.zip vs) n J k c->C.cells=cellsFrom (k.heap.objs.size+1) (scN (aA Ω) j) []->C.scope=scG (aA Ω) j->
  R (.ok (.ret (.ref c.heap.objs.size))) {c with gens:=c.gens.push (.fresh (.func body C)),toks:=c.toks+1+1,heap:=c.heap.push {cls:= .type "generator",data:= .fields #[.int c.gens.size 0,.str name c.toks,.str a (c.toks+1)]}}):codeAny Ω.M A (.call (.ref f) args) R s:=
 codeAny_call_generator T (z _ _ E) rfl rfl rfl rfl (codeRec_of z r) (h _ _ _ (cM H.tk (wpAny_newFunctionEnv_cells rfl (λx g=>uA N P g) λC e c I B=>
  ⟨(l.keeps H.base).keeps I.toInCall.keep,o C _ (zbp N P H G (by rw[e];rfl) (by rw[e];rfl) (by rw[e];rfl) (by rw[e];rfl) (by rw[e];rfl) (by rw[e];rfl) I B) (by rw[e];rfl) (by rw[e];rfl)⟩)))
noncomputable def gl(l c d:Nat):Nat:=l*1000000000+c*1000000+l*1000+d
def g1(b:Nat):FS:= .asg [.name 17 (gl b 4 7)] (.int 0 (gl b 10 11)) (gl b 4 11)
def g2(b:Nat):FS:= .asg [.name 18 (gl (b+1) 4 10)] (.fls (gl (b+1) 13 18)) (gl (b+1) 4 18)
def gT(b:Nat):Tg:= .tup [17,19] [gl (b+2) 8 11,gl (b+2) 13 15] (gl (b+2) 8 15)
def gE1(b:Nat):FE:= .tup [.var 17 (gl (b+4) 19 22),.bin .Add (.str "\\" [92] (gl (b+4) 24 28)) (.var 19 (gl (b+4) 31 33)) (gl (b+4) 24 33)] (gl (b+4) 18 34)
def g3(b:Nat):FS:= .asg [.name 18 (gl (b+5) 12 18)] (.fls (gl (b+5) 21 26)) (gl (b+5) 12 26)
def gC(b:Nat):FE:= .cmp .Eq (.var 19 (gl (b+6) 13 15)) (.str "\\" [92] (gl (b+6) 19 23)) (gl (b+6) 13 23)
def g4(b:Nat):FS:= .asg [.name 18 (gl (b+7) 12 18)] (.tru (gl (b+7) 21 25)) (gl (b+7) 12 25)
def gE2(b:Nat):FE:= .tup [.var 17 (gl (b+9) 19 22),.var 19 (gl (b+9) 24 26)] (gl (b+9) 18 27)
def gE3(b:Nat):FE:= .tup [.var 17 (gl (b+11) 15 18),.str "\\" [92] (gl (b+11) 20 24)] (gl (b+11) 14 25)
section
variable(nm:Nat->Str)(b:Nat)
def gY1:Stmt:= .Expr (.Yield (some (tE nm (gE1 b))) (pos (gl (b+4) 12 34))) (pos (gl (b+4) 12 34))
def gY2:Stmt:= .Expr (.Yield (some (tE nm (gE2 b))) (pos (gl (b+9) 12 27))) (pos (gl (b+9) 12 27))
def gY3:Stmt:= .Expr (.Yield (some (tE nm (gE3 b))) (pos (gl (b+11) 8 25))) (pos (gl (b+11) 8 25))
def gIt:Expr:= .Call (.Name (nm 20) (pos (gl (b+2) 19 28))) [.Name (nm 16) (pos (gl (b+2) 29 33))] [] (pos (gl (b+2) 19 34))
def gIn:List Stmt:=[.If (.Name (nm 18) (pos (gl (b+3) 11 17))) [gY1 nm b,tS nm (g3 b)]
 [.If (tE nm (gC b)) [tS nm (g4 b)] [gY2 nm b] ⟨b+6,8,b+9,27⟩] ⟨b+3,8,b+9,27⟩]
def yf5:Stmt:= .If (.Name (nm 18) (pos (gl (b+10) 7 13))) [gY3 nm b] [] ⟨b+10,4,b+11,25⟩
def yk4:Stmt:= .For (tT nm (gT b)) (gIt nm b) (gIn nm b) [] ⟨b+2,4,b+9,27⟩
def fI:List Stmt:=[tS nm (g1 b),tS nm (g2 b),yk4 nm b,yf5 nm b]
end
noncomputable def cW(l:LN):Nat->Bool->Int->List V:=List.rec (motive:=λU=>Nat->Bool->Int->List V) (λU b p=>cs b [.tup [.int p,.str [92]]] [])
 (λc U d i b U=>cs b (.tup [.int i,.str [92,c]]::d (i+1) false i) (cs (Nat.beq c 92) (d (i+1) true i) (.tup [.int i,.str [c]]::d (i+1) false i))) l
noncomputable def gsc:List (Nat×Nat):=[(16,0),(17,0),(18,0),(19,0),(20,4)]
theorem Ch.up(c:Ch j m s u)(h:∀a∈j,a∈f)(l:∀g∈m,g∈i):Ch f i s u:=
 ⟨λb o e n=>c.keep b o e λq=>n (h b q),c.imm,λg k n e=>c.gens g k (λq=>n (l g q)) e,c.bare,c.os,c.tk⟩
theorem zn7(g:Go h [] s m u)(f:AllBare u.gens)(c:0<u.toks):Ch h [] s u:=
 ⟨λb o e n=>g.keep b o e nofun n,g.imm,λk a U e=>g.gens k a e,f,g.os,λU=>c⟩
theorem zer(H:HS N a [] s):a=[]:=List.length_eq_zero_iff.mp H.len.symm

section
variable(Ω:Bx)(env:Env)(lo e it:Addr)(x:LN)(t:Tok)
structure GF(fl:L)(s:Shared):Prop where
 H:HS Ω [] [] s
 F:FR Ω env [lo] fl [] s
 C:FC Ω env [lo] s
structure GN(i:Nat)(s:Shared):Prop where
 E:∃old,IsEnum s.heap e it i old
 S:s.heap.IsStrIter it "str_ascii_iterator" (St x) t i
end
section
variable{Rm:Around->Prop}{lo e it a:Addr}
theorem GN.keep(G:GN e it x t i s)(f:∀o,s.heap.get? e=some o->s'.heap.get? e=some o)(c:∀o,s.heap.get? it=some o->s'.heap.get? it=some o):GN e it x t i s':=
 ⟨G.E.elim λb h=>⟨b,f _ h⟩,G.S.elim λo h=>⟨o,c _ h.1,h.2⟩⟩
theorem GF.keep(G:GF N f lo I s)(i:∀o,s.heap.get? lo=some o->s'.heap.get? lo=some o)(j:hJ s.heap s'.heap)(l:∀b o,N.h₀.get? b=some o->s'.heap.get? b=some o)(c:AllBare s'.gens)(k:0<s'.toks):GF N f lo I s':=
 ⟨⟨l,nofun,List.nodup_nil,rfl,λn o e h=>nn (show none=some o from h),c,k⟩,G.F.kept (dO i) (Ext.refl _) j G.F.disj,G.C.kept (dO i)⟩
theorem GF.hs(G:GF N b lo I s)(K:KN N b gsc)(c:Rm A):HereS N Rm ⟨b,gsc,[lo],A,E⟩ I [] [] s:=⟨⟨K,c,G.H,G.F⟩,G.C⟩
theorem GF.of(h:HereS N Rm ⟨b,gsc,[lo],A,E⟩ I [] c s):GF N b lo I s:=by cases zer h.h.H;exact⟨h.h.H,h.h.F,h.C⟩
theorem GF.locs(G:GF N b lo I s):b.locals=lo:=Qf G.F.loc
theorem GF.live(G:GF N b lo I s):∃o,s.heap.get? lo=some o/\¬Imm o:=G.F.live lo (.head _)
end
section
variable{Rm:Around->Prop}
variable{lo e it a:Addr}

theorem zfi(C:CT N t Rm)(K:KN N b gsc)(G:GF N b lo I s)(n:y<N.nms.length)(r:look gsc y=some 0)
 (j:∀{Q:Value->Shared->Prop},(∀u tk,VR [] s.heap v u->Q u {s with toks:=tk})->wpAny N.M A (eval (tE (aA N) h) b) Q E s)
 (k:swapsWithSole [Expr.Name (aA N y) (pos q)] (tE (aA N) h) (pos p).line b=pure false) (B:swappedStores [Expr.Name (aA N y) (pos q)] (tE (aA N) h) b=pure none)
 {Q:Flow->Shared->Prop} (g:∀f tk,Heap.SameBut lo s.heap f->GF N b lo (put I y v) {s with heap:=f,toks:=tk}->Q .next {s with heap:=f,toks:=tk}):
 wpAny N.M A (exec (tS (aA N) (.asg [.name y q] h p)) b) Q E s:=by
 show wpAny _ _ (exec (.Assign [.Name (aA N y) (pos q)] (tE (aA N) h) (pos p)) b) _ _ _;refine wpAny_Assign_stores (cM G.H.tk (j λu tk R o=>?_)) k B;show wpAny _ _ (assign (.Name (aA N y) (pos q)) b u) _ _ _;have m:GF N b lo I {s with toks:=tk}:=G.keep (λU e=>e) (λU U e U=>e) G.H.base G.H.gens o;refine wpAny_assign_Name (oM C (by rw[G.locs];exact G.C.base lo (.head _)) K n r m.H m.F R λf i l H2 w F2=>?_);rw[G.locs] at l;exact g f i l ⟨H2,F2,⟨λy c k B=>have⟨h3,h4,_⟩:=G.C.own y c k B;absurd ((Qf h3).trans G.locs.symm) h4,G.C.apart,G.C.has,G.C.base⟩⟩
theorem yax(C:CT N y Rm)(K:KN N i gsc)(G:GF N i lo I s)(n:look y.glo 20=some (.bi .enumerate))(r:look I 16=some (.str x))(m:sOk x)
 (g:∀f t,GF N i lo I {s with heap:=f}->(∀b o,s.heap.get? b=some o->f.get? b=some o)->GN (s.heap.objs.size+1) s.heap.objs.size x t 0 {s with heap:=f}->Q (.ref (s.heap.objs.size+1)) {s with heap:=f}):
 wpAny N.M A (eval (gIt (aA N) b) i) Q E s:=by
 unfold gIt;refine wpAny_Call_Name_kw (zea C n rfl K G.H G.F λu l=>?_);rw[show u=Bi.enumerate.val from l];refine callWith_of (P:=λh=>bL N.M h Bi.enumerate.val) rfl (λh x=>x) (evalArgs_kw2 rfl (wpAny_items_cons (zE C r rfl K G.F λu l=>wpAny_items_nil (kwAll_nil ?_)) rfl));obtain⟨⟨t,q⟩,_⟩:=l;rw[q];refine⟨yJ _ _ _,?_⟩;have j:strIterType (St x)="str_ascii_iterator":=if_pos ((Array.all_eq_true_iff_forall_mem).mpr λc v=>decide_eq_true (bJ m.1 c (List.mem_toArray.mp v)));show wpAny _ _ (call (.type "enumerate") [.str (St x) t] []) _ _ _;refine call_enumerate_str λf w p z k=>?_;rw[j] at p;exact g f t (G.keep (s':={s with heap:=f}) (λo e=>k _ o e) (λb o e U=>k b o e) (λb o e=>k b o (G.H.base b o e)) G.H.gens G.H.tk) k ⟨⟨_,w⟩,p⟩
end
section
open Sem (wp)
structure Gc where
 Ω:Bx
 env:Env
 a:Addr
 lo:Addr
 e:Addr
 it:Addr
 x:LN
 t:Tok
structure GLE(γ:Gc)(s0:Shared)(fl:L)(esc:Bool)(p:Int)(s:Shared):Prop where
 G:GF γ.Ω γ.env γ.lo fl s
 al:∀y∈[γ.lo,γ.e,γ.it],∃o,s.heap.get? y=some o/\¬Imm o
 c:Ch [γ.lo,γ.e,γ.it] [] s0 s
 a17:look fl 17=some (.int p)
 a18:look fl 18=some (.bool esc)
structure GL(γ:Gc)(s0:Shared)(fl:L)(i:Nat)(esc:Bool)(p:Int)(s:Shared):Prop where
 B:GLE γ s0 fl esc p s
 N:GN γ.e γ.it γ.x γ.t i s
structure GA3(γ:Gc):Prop where
 le:γ.lo≠γ.e
 li:γ.lo≠γ.it
 ei:γ.e≠γ.it
 be:γ.Ω.h₀.get? γ.e=none
 bi:γ.Ω.h₀.get? γ.it=none
section
variable{Rm:Around->Prop}
theorem GLE.go(L:GLE a j I n p s)(D:GA3 a)(h:HereS a.Ω Rm ⟨a.env,gsc,[a.lo],A,E⟩ e [] m u)(k:Go [a.lo] [] s m u)(M:look e 17=some (.int l))(B:look e 18=some (.bool f)):GLE a j e f l u:=
 have G:=GF.of h
 ⟨G,λy i=>(Qe i).elim (λq=>q▸G.live) λi=>(L.al y (.tail _ i)).elim λo h=>⟨o,k.keep y o h.1 nofun λq=>(kR (p:=λb=>b≠a.lo) D.le.symm D.li.symm) y i (Qf q),h.2⟩,
  sC L.c ((zn7 k h.h.H.gens h.h.H.tk).up (dO (.head _)) nofun),M,B⟩
theorem GL.go(L:GL b e I i l p s)(D:GA3 b)(h:HereS b.Ω Rm ⟨b.env,gsc,[b.lo],A,E⟩ a [] m u)(k:Go [b.lo] [] s m u)(M:look a 17=some (.int f))(j:look a 18=some (.bool c)):GL b e a i c f u:=
 ⟨L.B.go D h k M j,L.N.keep (λo h=>k.keep _ o h nofun λq=>D.le.symm (Qf q)) λo h=>k.keep _ o h nofun λq=>D.li.symm (Qf q)⟩
theorem GLE.hs(L:GLE a f I e p s)(K:KN a.Ω a.env gsc)(b:Rm A):HereS a.Ω Rm ⟨a.env,gsc,[a.lo],A,E⟩ I [] [] s:=L.G.hs K b
theorem GLE.go0(L:GLE a e I b p s)(D:GA3 a)(K:KN a.Ω a.env gsc)(f:Rm A)(h:Here a.Ω Rm ⟨a.env,gsc,[a.lo],A,E⟩ I [] m u)(k:Go [] [] s m u):GLE a e I b p u:=L.go D ((L.hs K f).of k h) k.any L.a17 L.a18
theorem GL.go0(L:GL a c I i b p s)(D:GA3 a)(K:KN a.Ω a.env gsc)(e:Rm A)(h:Here a.Ω Rm ⟨a.env,gsc,[a.lo],A,E⟩ I [] m u)(k:Go [] [] s m u):GL a c I i b p u:=L.go D ((L.B.hs K e).of k h) k.any L.B.a17 L.B.a18
theorem GLE.again(L:GLE b m I j p s)(k:Kp b.Ω [b.a,b.lo,b.e,b.it] [] i s f u):GLE b u I j p u:=
 ⟨L.G.keep (λo h=>k.keep _ (.tail _ (.head _)) o h) k.imm k.base k.bare (k.tk L.G.H.tk),λy l=>(L.al y l).elim λo h=>⟨o,k.keep y (.tail _ l) o h.1,h.2⟩,zfx k.bare,L.a17,L.a18⟩
theorem GL.again(L:GL b l I i j p s)(k:Kp b.Ω [b.a,b.lo,b.e,b.it] [] f s c u):GL b u I i j p u:=
 ⟨L.B.again k,L.N.keep (λo h=>k.keep _ (.tail _ (.tail _ (.head _))) o h) λo h=>k.keep _ (.tail _ (.tail _ (.tail _ (.head _)))) o h⟩
def gY(c:Gc):Protocol:=λk m v j l=>
 Ch [c.lo,c.e,c.it] [] m j/\(∀y∈[c.lo,c.e,c.it],∃o,j.heap.get? y=some o/\¬Imm o)/\(∀b o,c.Ω.h₀.get? b=some o->j.heap.get? b=some o)∧
 (∃pre y f,cW c.x 0 false 0=pre++y::f/\f.length=k/\VR [] j.heap y v)∧
 ∀(i h:Rho) s'',Kp c.Ω [c.a,c.lo,c.e,c.it] [] i j h s''->l (.send .none) s''
noncomputable abbrev gR(a:Gc):GenEnd:=λn c r b=>r= .ok (.ret .none)/\(n=0/\Ch [a.lo,a.e,a.it] [] c b)
theorem GLE.yield(L:GLE j m I r p s)(o:∃pre,cW j.x 0 false 0=pre++y::b)(q:b.length=n)(R:VR [] s.heap y v)
 (h:∀(i f:Rho) k,Kp j.Ω [j.a,j.lo,j.e,j.it] [] i s f k->l (.send .none) k):gY j n m v s l:=
 ⟨L.c,L.al,L.G.H.base,o.elim λpre J=>⟨pre,y,b,J,q,R⟩,h⟩
end
end
section
open Sem (wp)
section
variable{Rm:Around->Prop}
theorem xH(h:x<n)(a:look gsc x=some 0):jE n gsc x=true:=by show aH (ltB x n) (byO (look gsc x) _ false)=true;rw[a,show ltB x n=true from Nat.ble_eq_true_of_le h];rfl
theorem yf4(a:20<n)(b:Nat):wT n gsc (gT b)=true:=by show aH (aH (jE n gsc 17) (aH (jE n gsc 19) true)) (gP [17,19])=true;rw[xH (Nat.lt_trans (by decide:17<20) a) rfl,xH (Nat.lt_trans (by decide:19<20) a) rfl];rfl
theorem zhv(D:GA3 a){k:Bool}{p:Int}(L:GL a u I i k p s){b:Heap}{l:Nat}{o:Value}(keep:∀q o,q≠a.e->q≠a.it->s.heap.get? q=some o->b.get? q=some o)(j:IsEnum b a.e a.it ((i+1:Nat):Int) o)(f:b.IsStrIter a.it "str_ascii_iterator" (St a.x) a.t (i+1))(r:0<l):
 GL a u I (i+1) k p {s with heap:=b,toks:=l}:=by
 obtain⟨v,d⟩:=L.N.E;obtain⟨g,Q,w⟩:=zeo L.N.S;have m:hJ s.heap b:=λq o h z=>keep q o (λe=>dJ rfl rfl (by decide) (prf (d.symm.trans (e▸h))▸z)) (λe=>w (prf (Q.symm.trans (e▸h))▸z)) h
 have G:=L.B.G.keep (s':={s with heap:=b,toks:=l}) (λo h=>keep _ o D.le D.li h) m (λq o h=>keep q o (λz=>sn D.be (z▸h)) (λz=>sn D.bi (z▸h)) (L.B.G.H.base q o h)) L.B.G.H.gens r;exact⟨⟨G,λy A=>(Qe A).elim (λq=>q▸G.live) (kR (p:=λy=>∃o,b.get? y=some o/\¬Imm o) ⟨_,j,dJ rfl rfl (by decide)⟩ (zeo f) y),
  sC L.B.c ⟨λq o h n=>keep q o (λz=>n (z▸.tail _ (.head _))) (λz=>n (z▸.tail _ (.tail _ (.head _)))) h,m,λU U U h=>h,L.B.G.H.gens,rfl,λU=>r⟩,L.B.a17,L.B.a18⟩,⟨o,j⟩,f⟩
theorem zgi(C:CT a.Ω cx Rm)(hA:Rm A)(K:KN a.Ω a.env gsc)(hn:20<a.Ω.nms.length)(D:GA3 a)(hx:sOk a.x)(L:GL a Y fl i n p s)(hi:a.x.drop i=c::r)
 {Q:Unit->Shared->Prop} (hQ:∀m k,GL a Y m (i+1) n (i:Int) k->look m 19=some (.str [c])->Q () k):
 wpAny a.Ω.M A (pyNext (.ref a.e)) (λo k=>byO o (λv=>wpAny a.Ω.M A (letOwnedTupleGo (tT (aA a.Ω) (gT b)) (.ref a.e) v>>=λU=>assign (tT (aA a.Ω) (gT b)) a.env v) Q E k) False) E s:=by
 have e1:=qZ hi;obtain⟨old,he⟩:=L.N.E;have hD:=Draws.strAscii (prog:=a.Ω.prog) (w:=a.Ω.w) (A:=A.in1) (C.rm A hA).1 a.it (St a.x) a.t;refine wpAny_pyNext_enum_itemD hD he L.N.S (Nat.lt_of_not_le λq=>sn (Array.getElem?_eq_none q) e1) D.ei (λq=>D.ei (Qf q)) λy T H hP z g j hsz hk=>?_;obtain⟨c',u,I,q⟩:=hP;rw[q] at j z;cases prf (I.symm.trans e1);refine Qg (wpAny_letOwnedTupleGo_enum z λJ G f=>?_);have f:Heap.SameBut a.e T J:=f;have d:J.get? s.heap.objs.size=some {cls:= .type "tuple",data:= .seq #[.int i H,.str ⟨#[c]⟩ u]}:=(f.2 _ (Nat.ne_of_gt (Qw he))).trans j;have L2:GL a Y fl (i+1) n p {s with heap:=J,toks:=H+1}:=zhv D L (λq o n1 n2 z=>(f.2 q n1).trans (hk q o n1 n2 z)) G (g.elim λo h=>⟨o,(f.2 _ D.ei.symm).trans h.1,h.2⟩) (Qn _);have l:=L2.B.hs (A:=A) (E:=E) K hA;exact sD (D:=⟨a.env,gsc,[a.lo],A,E⟩) C (t:=gT b) (o:=(put (put fl 17 (.int i)) 19 (.str [c]),[])) (yf4 hn b) rfl l l.since (r:= .v (.tup [.int i,.str [c]])) ⟨_,[.int i H,.str (St [c]) u],_,rfl,d,VRs.cons ⟨_,rfl⟩ (VRs.cons ⟨⟨u,rfl⟩,fS (dO (bJ hx.1 _ (List.mem_of_getElem? (cQ hi).1))),(by decide:1≤65536)⟩ VRs.nil),(by decide:2≤65536)⟩
  λρ' k T G'=>hQ _ k (L2.go D T G' (by rw[bB,bB];rfl) (by rw[bB,bB];exact L2.B.a18)) (by rw[bB];rfl)
end
end
section
open Sem (wp)
section
variable{Ω:Bx}
theorem oY(k:A.handled=none)(b:s.heap.IsStrIter c "str_ascii_iterator" x t i)(l:x.cps[i]? =none)
 (p:∀j e,Heap.ExtBut c s.heap j->(∃o,j.get? c=some o/\¬Imm o)->(∃o,j.get? e=some o/\o.cls= .type "StopIteration")->E (.ref e) {s with heap:=j}):
 wpAny Ω.M A (Builtin.SmallTypes.nextOf (.ref c)) Q E s:=by
 obtain⟨o,h,n,f⟩:=id b;unfold Builtin.SmallTypes.nextOf;refine Qg (wpAny_callSpecial?_slot (name:=Str.ofString "__next__") b.typeIs F.slot_str_ascii_iterator_next
  (wpAny_call_entry F.slot_str_ascii_iterator_next b.typeIs F.entry_str_ascii_iterator_next ?_ (F.args_str_ascii_iterator_next_1 _)))
 show wpAny _ _ (field (.ref c) 0>>=_) _ _ s;refine Qg (wpAny_field h f (x:= .str x t) rfl ?_);show wpAny _ _ (field (.ref c) 1>>=_) _ _ s;refine Qg (wpAny_field h f (x:= .int i 0) rfl ?_);simp only[Int.toNat_natCast,l];refine Qg (wpAny_rule (Qg (wpAny_setField h f (by simp) (Qg (wpAny_letGo ?_)))));show wpAny _ _ (newExc (.type "StopIteration") []>>=_) _ _ _;refine Qg ?_;simp only[newExc,newTuple];refine Qg (wpAny_newObj_type ?_ (by size_fits));refine Qg (m:=firstArgMember _ _) (wpAny_of_eq (a:=Value.none) (by first|rfl|(simp only[firstArgMember];rfl)) ?_);refine wpAny_newObj_type ?_ (by size_fits);simp only[raiseNew];refine Qg (wpAny_handled ?_)
 first|rw[show A.in1.handled=none from k]|rw[k]
 refine Qg (Qh (wpAny_throw ?_));refine p _ _ (((Wb ..).extBut.push _).push _) ⟨_,Qc _ (Qc _ (Heap.get?_update_self _ h (Obj.isFreed_of_fields (Obj.data_mapFields f _)))),?_⟩ ⟨_,Qk _ rfl,rfl⟩;exact dJ ((Obj.cls_mapFields ..).trans n) (Obj.data_mapFields f _) (by decide)
theorem tQ(q:A.handled=none)(H:IsEnum s.heap e a i old)(h:s.heap.IsStrIter a "str_ascii_iterator" x t n)(l:x.cps[n]? =none)
 (g:∀c,Heap.ExtBut a s.heap c->(∃o,c.get? a=some o/\¬Imm o)->Q none {s with heap:=c}):wpAny Ω.M A (pyNext (.ref e)) Q E s:=by
 have k:s.TypeIs (.ref e) "enumerate":=⟨_,H,rfl⟩;unfold pyNext;refine Qg (wpAny_attempt (wpAny_callSpecial?_slot (name:=Str.ofString "__next__") k F.slot_enumerate_next
  (wpAny_call_entry F.slot_enumerate_next k F.entry_enumerate_next ?_ (F.args_enumerate_next_1 _))))
 show wpAny _ _ (field (.ref e) 2>>=_) _ _ _;refine Qg (wpAny_field H rfl (x:= .ref a) rfl ?_);refine Qg (oY q h l λc y j p f=>?_);obtain⟨o,m,r⟩:=f;refine Qg (wpAny_isInstance (T:="StopIteration") (b:=true) ⟨o,m,r⟩ isSubtype_stop ?_);exact Qh (g _ j p)
end
end
section
open Sem (wp)
section
variable{Rm:Around->Prop}
abbrev gV(a:Nat->Str)(b:Nat)(e:Addr)(C:Env):Code:= .forLoop (tT a (gT b)) (.ref e) (gIn a b) [] C
noncomputable abbrev gFs(c:Result->Sem Fin)(b:Code)(a:Pos):List PySem.Frame:=[.ret c none false [] b a []]
noncomputable def vE_(o:Option V):EvT:=λJ=>bd o λv=>some (.v v,J)
noncomputable def cE_(r:RV):EvT:=λJ=>some (r,J)
noncomputable def nE_:EsT:=λJ=>some ([],J)
theorem ygf(M:look I 17=some (.int j))(B:look I 19=some (.str [c])):ev E I (gE1 b) []=some (.v (.tup [.int j,.str [92,c]]),[]):=by show zbm (cF (vE_ (look I 17)) (cF (uY .Add (cE_ (.v (.str [92]))) (vE_ (look I 19))) nE_)) []=_;rw[M,B];rfl
theorem yge(M:look I 17=some (.int j))(B:look I 19=some (.str [c])):ev E I (gE2 b) []=some (.v (.tup [.int j,.str [c]]),[]):=by show zbm (cF (vE_ (look I 17)) (cF (vE_ (look I 19)) nE_)) []=_;rw[M,B];rfl
theorem ygd(M:look I 17=some (.int j)):ev E I (gE3 b) []=some (.v (.tup [.int j,.str [92]]),[]):=by show zbm (cF (vE_ (look I 17)) (cF (cE_ (.v (.str [92]))) nE_)) []=_;rw[M];rfl
theorem ydd(h:look I x=some (.bool b)):tr E I (.var x p) J=some (b,J):=by show uW (vE_ (look I x)) J=_;rw[h];rfl
theorem yio(h:look I 19=some (.str [c])):tr E I (gC b) []=some (Nat.beq c 92,[]):=by show hS .Eq (vE_ (look I 19)) (cE_ (.v (.str [92]))) []=_;rw[h];show some (cs (Nat.beq c 92) true false,[])=_;cases Nat.beq c 92<;>rfl
section
variable(hn:20<n)(b:Nat)
include hn
theorem qN(h:x≤20):ltB x n=true:=Qd (Qq h hn)
theorem yc1(p:Nat):wE n gsc (.var 18 p)=true:=by show aH (ltB 18 n) true=true;rw[qN hn (by decide)];rfl
theorem w1_:wE n gsc (gE1 b)=true:=by show aH true (aH (aH (ltB 17 n) true) (aH (aH (zct "\\" [92]) (aH (ltB 19 n) true)) true))=true;rw[qN hn (by decide),qN hn (by decide)];rfl
theorem w2_:wE n gsc (gE2 b)=true:=by show aH true (aH (aH (ltB 17 n) true) (aH (aH (ltB 19 n) true) true))=true;rw[qN hn (by decide),qN hn (by decide)];rfl
theorem w3_:wE n gsc (gE3 b)=true:=by show aH true (aH (aH (ltB 17 n) true) (aH (zct "\\" [92]) true))=true;rw[qN hn (by decide)];rfl
theorem w4_:wE n gsc (gC b)=true:=by show aH (aH (ltB 19 n) true) (zct "\\" [92])=true;rw[qN hn (by decide)];rfl
theorem w5_(H:wE n gsc e=true):wS n gsc (.asg [.name 18 q] e p)=true:=by show aH (wE n gsc e) (aH (jE n gsc 18) true)=true;rw[H,xH (Nat.lt_trans (by decide:18<20) hn) rfl];rfl
end
theorem ygg(c:Nat)(r:LN)(i:Nat)(p:Int):cW (c::r) i true p= .tup [.int i,.str [92,c]]::cW r (i+1) false i:=rfl
theorem ygh(c:Nat)(r:LN)(i:Nat)(p:Int):cW (c::r) i false p=cs (Nat.beq c 92) (cW r (i+1) true i) (.tup [.int i,.str [c]]::cW r (i+1) false i):=rfl
structure Lft(γ:Gc)(xs:List V)(n:Nat):Prop where
 s:∃pre,cW γ.x 0 false 0=pre++xs
 l:xs.length=n
theorem Lft.more(h:Lft b (y::r) (n+1)):Lft b r n:=⟨h.s.elim λa q=>⟨a++[y],q.trans (List.append_assoc a [y] r).symm⟩,Nat.succ.inj h.l⟩
theorem xK(H:HS N a [] s)(R:RVR N a Y s (.v y) v):VR [] s.heap y v:=by cases zer H;exact R
noncomputable abbrev yhe(γ:Gc)(A:Around)(b:Nat)(kk:Result->Sem Fin)(f:Code)(a:Pos)(r:LN)(i:Nat):Prop:=∀{c:Bool} {p:Int} {fl:L} {h s:Shared} {n:Nat},γ.x.drop i=r->i≤γ.x.length->GL γ h fl i c p s->Lft γ (cW r i c p) n->
 Seg γ.Ω.M A (gR γ) (gY γ) n h (gV (aA γ.Ω) b γ.e γ.env) (γ.Ω.M.den (gV (aA γ.Ω) b γ.e γ.env)) (gFs kk f a) s
abbrev wrp(a:Gc)(KK:Flow->Sem Fin)(t:Sem Flow):Sem Fin:=t.wrap KK (zvv a.env) id id
theorem zqz(C:CT a.Ω cx Rm)(z:Rm (A.over (gV (aA a.Ω) b a.e a.env) (gFs d m j)))(K:KN a.Ω a.env gsc)(y:a.env.scope.isCoroutine=false)(hint:interactive a.env=false)(g:20<a.Ω.nms.length)(D:GA3 a)
 {KK:Flow->Sem Fin} {c:Nat} {r:LN} {p:Int} {n:Nat} (L:GL a u fl (i+1) true i s) (Q:look fl 19=some (.str [c])) (q:Lft a (cW (c::r) i true p) n) (next:∀{t:Bool} {fl:Mine.L} {u s:Shared} {n:Nat},GL a u fl (i+1) t i s->Lft a (cW r (i+1) t i) n->Seg a.Ω.M A (gR a) (gY a) n u (gV (aA a.Ω) b a.e a.env) (KK .next) (gFs d m j) s):
 Seg a.Ω.M A (gR a) (gY a) n u (gV (aA a.Ω) b a.e a.env) (wrp a KK (execs [gY1 (aA a.Ω) b,tS (aA a.Ω) (g3 b)] a.env)) (gFs d m j) s:=by
 rw[ygg] at q;cases n with
 |zero=>exact nomatch q.l
 |succ n=>refine seg_execs_cons (seg_Expr_Yield rfl rfl rfl ?_ y hint);refine(both C (gE1 b)).1 (w1_ g b) (L.B.hs K z).h (ygf L.B.a17 Q) λI s3 v E G3 R3=>λT Y=>?_;have L3:=L.go0 D K z E G3;refine L3.B.yield q.s (Nat.succ.inj q.l) (xK E.H R3) λx w J k=>Y _ _ ?_;have L4:=L3.again k;show Seg _ _ _ _ n J _ (wrp a KK (execs [tS (aA a.Ω) (g3 b)] a.env)) _ _;refine seg_execs_cons (lG ?_);refine zie C (g3 b) (w5_ g rfl) (L4.B.hs K z) (o:=(.next,put fl 18 (.bool false),[])) rfl λG s5 f h5 G5 N=>?_;rw[show f= .next from N];exact next (L4.go D h5 G5 (by rw[bB];exact L4.B.a17) (by rw[bB];rfl)) q.more
theorem zqy(C:CT a.Ω cx Rm)(u:Rm (A.over (gV (aA a.Ω) b a.e a.env) (gFs E t j)))(K:KN a.Ω a.env gsc)(g:a.env.scope.isCoroutine=false)(hint:interactive a.env=false)(d:20<a.Ω.nms.length)(D:GA3 a)
 {KK:Flow->Sem Fin} {c:Nat} {r:LN} {p:Int} {n:Nat} (L:GL a y fl (i+1) false i s) (w:look fl 19=some (.str [c])) (m:Lft a (cW (c::r) i false p) n) (next:∀{x:Bool} {fl:Mine.L} {y s:Shared} {n:Nat},GL a y fl (i+1) x i s->Lft a (cW r (i+1) x i) n->Seg a.Ω.M A (gR a) (gY a) n y (gV (aA a.Ω) b a.e a.env) (KK .next) (gFs E t j) s):
 Seg a.Ω.M A (gR a) (gY a) n y (gV (aA a.Ω) b a.e a.env) (wrp a KK (execs [.If (tE (aA a.Ω) (gC b)) [tS (aA a.Ω) (g4 b)] [gY2 (aA a.Ω) b] ⟨b+6,8,b+9,27⟩] a.env)) (gFs E t j) s:=by
 refine seg_execs_cons (zc0 ?_);refine(both C (gC b)).2 (w4_ d b) (L.B.hs K u).h (yio w) λN s3 h3 G3=>?_;have L3:=L.go0 D K u h3 G3;rw[ygh] at m;cases q:Nat.beq c 92 with
 |true=>rw[q] at m;rw[if_pos rfl];refine seg_execs_cons (lG ?_);refine zie C (g4 b) (w5_ d rfl) (L3.B.hs K u) (o:=(.next,put fl 18 (.bool true),[])) rfl λI T f h5 G5 Y=>?_;rw[show f= .next from Y];exact next (L3.go D h5 G5 (by rw[bB];exact L3.B.a17) (by rw[bB];rfl)) m
 |false=>
  rw[q] at m;rw[if_neg Bool.false_ne_true];cases n with
  |zero=>exact nomatch m.l
  |succ n=>refine seg_execs_cons (seg_Expr_Yield rfl rfl rfl ?_ g hint);refine(both C (gE2 b)).1 (w2_ d b) (L3.B.hs K u).h (yge L3.B.a17 w) λJ s4 v G G4 R4=>λkap hk=>?_;have L4:=L3.go0 D K u G G4;exact L4.B.yield m.s (Nat.succ.inj m.l) (xK G.H R4) λQ z T k=>hk _ _ (next (L4.again k) m.more)
theorem zjw(C:CT a.Ω cx Rm)(hA:Rm (A.over (gV (aA a.Ω) b a.e a.env) (gFs w f l)))(D:GA3 a)(m:∀{fl r s j p n},GLE a r fl j p s->Lft a (cW [] a.x.length j p) n->Seg a.Ω.M A (gR a) (gY a) n r f (w (.ok .next)) [] s):yhe a A b w f l [] i:=by
 intro j p fl r s n d u L Y;cases(Nat.le_antisymm u (List.drop_eq_nil_iff.mp d):i=a.x.length);obtain⟨I,he⟩:=L.N.E;obtain⟨oi,u,J⟩:=zeo L.N.S;refine pU (tQ (C.rm _ hA).1 he L.N.S (rD d) λg t v=>zq7 (m (fl:=fl) ?_ Y));have k:∀q o,q≠a.it->s.heap.get? q=some o->g.get? q=some o:=λq o n h=>t q o n h;have Q:hJ s.heap g:=λq o h z=>k q o (λe=>J (prf (u.symm.trans (e▸h))▸z)) h;refine⟨L.B.G.keep (λo h=>k _ o D.li h) Q (λq o h=>k q o (λz=>sn D.bi (z▸h)) (L.B.G.H.base q o h)) L.B.G.H.gens L.B.G.H.tk,λy T=>?_,sC L.B.c ⟨λq o h n=>k q o (λz=>n (z▸.tail _ (.tail _ (.head _)))) h,Q,λU U U h=>h,L.B.G.H.gens,rfl,id⟩,L.B.a17,L.B.a18⟩;by_cases z:y=a.it
 · rw[z];exact v
 · exact(L.B.al y T).elim λo h=>⟨o,k y o z h.1,h.2⟩
theorem zgv(C:CT γ.Ω cx Rm)(m:Rm (A.over (gV (aA γ.Ω) b γ.e γ.env) (gFs w f j)))(K:KN γ.Ω γ.env gsc)(t:γ.env.scope.isCoroutine=false)(hint:interactive γ.env=false)(y:20<γ.Ω.nms.length)(D:GA3 γ)(N:sOk γ.x)
 (q:∀{fl k s a p n},GLE γ k fl a p s->Lft γ (cW [] γ.x.length a p) n->Seg γ.Ω.M A (gR γ) (gY γ) n k f (w (.ok .next)) [] s) (l:LN):∀{i:Nat},yhe γ A b w f j l i:=by
 induction l with
 |nil=>exact zjw C m D q
 |cons c r J=>
  intro i a p fl k s n d hi L G;refine pU ?_;refine Qv (zgi (b:=b) C m K y D N L d (E:=λU U=>False) (Q:=λU z=>Seg γ.Ω.M A (gR γ) (gY γ) n k (gV (aA γ.Ω) b γ.e γ.env) (wrp γ (zl1 (tT (aA γ.Ω) (gT b)) (.ref γ.e) (gIn (aA γ.Ω) b) [] γ.env) (execs (gIn (aA γ.Ω) b) γ.env)) (gFs w f j) z) λY s1 g u=>?_) (λo s' h=>?_) (λU U h=>h)
  rotate_left
  · cases o with
    |none=>exact h.elim
    |some v=>exact h
  refine seg_execs_cons (zc0 ?_);refine(both C (.var 18 (gl (b+3) 11 17))).2 (yc1 y _) (g.B.hs K m).h (ydd g.B.a18) λI s2 T G2=>?_;have L2:=g.go0 D K m T G2;have next:∀{a:Bool} {fl:Mine.L} {k s:Shared} {n:Nat},GL γ k fl (i+1) a i s->Lft γ (cW r (i+1) a i) n->Seg γ.Ω.M A (gR γ) (gY γ) n k (gV (aA γ.Ω) b γ.e γ.env) (.pure (.again (gV (aA γ.Ω) b γ.e γ.env))) (gFs w f j) s:=λL' H=>seg_again rfl (J (cQ d).2 (Qu (cQ d).1).1 L' H)
  cases a with
  |true=>rw[if_pos rfl];exact zqz C m K t hint y D L2 u G next
  |false=>rw[if_neg Bool.false_ne_true];exact zqy C m K t hint y D L2 u G next
end
end
section
open Sem (wp)
section
variable{γ:Gc}{Rm:Around->Prop}
noncomputable abbrev fnK:Flow->Sem Fin:=λf=> .pure (.done (.ret (match f with| .ret v=>v|_=> .none)))
noncomputable abbrev fnH(C:Env):Value->Sem Fin:=λe=>(leaving C e).wrap (λU=> .raise e) .raise id id
theorem zsy(C:CT γ.Ω J Rm)(a:Rm (A.over (.func (fI (aA γ.Ω) b) γ.env) []))(K:KN γ.Ω γ.env gsc)(m:γ.env.scope.isCoroutine=false)(hint:interactive γ.env=false)(q:20<γ.Ω.nms.length)(D:GA3 γ)
 (L:GLE γ w I e p s) (j:Lft γ (cW [] γ.x.length e p) n):
 Seg γ.Ω.M A (gR γ) (gY γ) n w (.func (fI (aA γ.Ω) b) γ.env) ((execs [yf5 (aA γ.Ω) b] γ.env).wrap fnK (fnH γ.env) id id) [] s:=by
 refine seg_execs_cons (zc0 ?_);refine(both C (.var 18 (gl (b+10) 7 13))).2 (yc1 q _) (L.hs K a).h (ydd L.a18) λu G B d=>?_;have L2:=L.go0 D K a B d;cases e with
 |false=>rw[if_neg Bool.false_ne_true];exact seg_end (.ok (.ret .none)) ⟨rfl,j.l.symm,L2.c⟩
 |true=>rw[if_pos rfl];cases j.l;refine seg_execs_cons (seg_Expr_Yield rfl rfl rfl ?_ m hint);refine(both C (gE3 b)).1 (w3_ q b) (L2.hs K a).h (ygd L2.a17) λt E v o r Q=>λy z=>?_;exact(L2.go0 D K a o r).yield j.s rfl (xK o.H Q) λi f g k=>z _ _ (seg_end (.ok (.ret .none)) ⟨rfl,rfl,((L2.go0 D K a o r).again k).c⟩)
theorem zah(G:GF γ.Ω γ.env γ.lo I s)(h:s.heap.objs.size≤q):γ.Ω.h₀.get? q=none:=iA (o:=(none:Option Obj)) (λo e=>absurd (Qw (G.H.base _ o e)) (Nat.not_lt.mpr h)) rfl
theorem zsx{c:Env}{N:Bx}{a j:Addr}{x:LN}(C:CT N cx Rm)(hA:Rm (A.over (.func (fI (aA N) b) c) []))(hA2:∀e kk m t,m= .func (fI (aA N) b) c->Rm (A.over (gV (aA N) b e c) (gFs kk m t)))(K:KN N c gsc)(g:c.scope.isCoroutine=false)(hint:interactive c=false)
 (hn:20<N.nms.length) (hgl:look cx.glo 20=some (.bi .enumerate)) (hx:sOk x) (G:GF N c j [(16,.str x)] f) (t0:Tok):
 Seg N.M A (gR ⟨N,c,a,j,f.heap.objs.size+1,f.heap.objs.size,x,t0⟩) (gY ⟨N,c,a,j,f.heap.objs.size+1,f.heap.objs.size,x,t0⟩) (cW x 0 false 0).length f (.func (fI (aA N) b) c) (N.M.den (.func (fI (aA N) b) c)) [] f:=by
 have u:∀{y},y<20->y<N.nms.length:=λh=>Nat.lt_trans h hn;refine seg_func (seg_execs_cons (lG ?_));refine zfi C K G (y:=17) (u (by decide)) rfl (v:= .int 0) (λ{Q} h=>wpAny_Constant_int (h _ _ ⟨_,rfl⟩)) rfl rfl λh1 t1 w G1=>?_;refine seg_execs_cons (lG ?_);refine zfi C K G1 (y:=18) (u (by decide)) rfl (v:= .bool false) (λ{Q} h=>wpAny_Constant_bool (h _ t1 rfl)) rfl rfl λJ t2 k G2=>?_;have k:Heap.SameBut j h1 J:=k;have Y:J.objs.size=f.heap.objs.size:=k.1.trans w.1;obtain⟨ol,d,T⟩:=G.live;have l:j<f.heap.objs.size:=Qw d;refine seg_execs_cons (zq9 (λx=>rfl) (yax C K G2 hgl (x:=x) rfl hx λI s G3 r N3=>?_));have r:∀b o,J.get? b=some o->I.get? b=some o:=r;obtain⟨old,hE⟩:=N3.E;refine wpAny_pyIter_enum hE λp=>?_;have B:GN (f.heap.objs.size+1) f.heap.objs.size x s 0 {f with heap:=I,toks:=t2}:=Y▸N3;have D:GA3 ⟨N,c,a,j,f.heap.objs.size+1,f.heap.objs.size,x,s⟩:=⟨Nat.ne_of_lt (Nat.lt_succ_of_lt l),Nat.ne_of_lt l,Nat.succ_ne_self _,zah (γ:=⟨N,c,a,j,0,0,x,s⟩) G (Qt _),zah (γ:=⟨N,c,a,j,0,0,x,s⟩) G (Qm _)⟩;have keep:∀q o,q≠j->f.heap.get? q=some o->I.get? q=some o:=λq o n h=>r q o ((k.2 q n).trans ((w.2 q n).trans h));show Seg _ _ _ _ _ _ (.forLoop _ (.ref (J.objs.size+1)) _ _ _) _ _ _;rw[Y];refine zgv (γ:=⟨N,c,a,j,f.heap.objs.size+1,f.heap.objs.size,x,s⟩) C (hA2 _ _ _ _ rfl) K g hint hn D hx (λL hs=>zsy C hA K g hint hn D L hs) x rfl (Qb _)
  ⟨⟨G3,λy hy=>(Qe hy).elim (λq=>q▸G3.live) (kR (p:=λy=>∃o,I.get? y=some o/\¬Imm o) ⟨_,Y▸hE,dJ rfl rfl (by decide)⟩ (zeo B.S) y),⟨λq o h n=>keep q o (λz=>n (z▸.head _)) h,λq o h i=>keep q o (λz=>T (prf (d.symm.trans (z▸h))▸i)) h,λU U U h=>h,G.H.gens,rfl,λU=>G3.H.tk⟩,rfl,rfl⟩,B⟩ ⟨⟨[],rfl⟩,rfl⟩
end
end
section
open Sem (wp)
section
variable{s s':Shared}
theorem zrh(R:Rm (d+2) A):Rm d (A.in1.over (.func (fI (aA N) b) C) []):=by
 have M:=R.dp;have B:=R.un;refine⟨R.hd,?_,?_⟩
 · show(A.depth+0+1)+d<_;lia
 · show(A.units+1+0+3)+20*d+100<_;lia
theorem zrg(R:Rm (d+2) A)(e:Addr)(f:Result->Sem Fin)(a:Code)(c:Pos)(h:a= .func (fI (aA N) b) C):Rm d (A.in1.over (gV (aA N) b e C) (gFs f a c)):=by
 subst h;have M:=R.dp;have B:=R.un;refine⟨R.hd,?_,?_⟩
 · show(A.depth+1+0)+d<_;lia
 · show(A.units+1+3+0)+20*d+100<_;lia
theorem uB(h:AllBare s.gens)(c:b.bare=true):AllBare (s.setGen g b).gens:=by
 intro y a;have a:y∈s.gens.setIfInBounds g b:=a;obtain⟨i,e,rfl⟩:=List.getElem_of_mem (Array.mem_toList_iff.mpr a);simp only[Array.toList_setIfInBounds,List.getElem_set] at*
 split
 · exact c
 · exact h _ (by simp)
theorem zbo(h:k≠g):(s.setGen g a).gens[k]? =s.gens[k]? :=by show(s.gens.setIfInBounds g a)[k]? =_;rw[Array.getElem?_setIfInBounds_ne (Ne.symm h)]
theorem wF(h:g<s.gens.size):(s.setGen g a).gens[g]? =some a:=by show(s.gens.setIfInBounds g a)[g]? =_;rw[Array.getElem?_setIfInBounds_self_of_lt h]
theorem zfw(c:Ch as [] (s.setGen g p) s')(h:∀b o,s'.heap.get? b=some o->h'.get? b=some o)(l:∀b∈as,b∈a∨s.heap.get? b=none)(m:gs'.bare=true):Ch a [g] s {s'.setGen g gs' with heap:=h'}:=
 ⟨λb o e n=>h b o (c.keep b o e λq=>(l b q).elim n λz=>sn z e),λb o e i=>h b o (c.imm b o e i),λk j n e=>have f:k≠g:=λq=>n (List.mem_singleton.mpr q)
  (zbo f).trans (c.gens k j nofun ((zbo f).trans e)),uB c.bare m,c.os,c.tk⟩
theorem zgk{b:Type}{p q T a:List b}(h:p++T=q++a)(c:T.length=a.length):T=a:=(List.append_inj' h c).2
theorem zfp(a:Rho):Ext [] a:=λn e h=>nn (show none=some e from h)
noncomputable abbrev zd9(γ:Gc)(A:Around)(n:Nat)(a:GenState)(s:Shared):Prop:=a.Goes γ.Ω.M A.in1 (gR γ) (gY γ) n (.send .none) s
theorem jN(e:s.heap.IsGen a g)(k:∀o,s.heap.get? a=some o->s'.heap.get? a=some o):s'.heap.IsGen a g:=e.elim λo h=>h.elim λc h=>h.elim λb h=>⟨o,c,b,k o h.1,h.2⟩
theorem zdw(e:s.heap.IsGen a g):∃o n,s.heap.get? a=some o/\o.cls= .type n/\zg6 n=false/\¬Imm o:=by obtain⟨o,i,h,c,b,f,_⟩:=e;exact⟨o,_,c,b,by decide,dJ b f (by decide)⟩
structure Rest(γ:Gc)(A:Around)(g:Nat)(xs:List V)(gs:GenState)(s:Shared):Prop where
 x:∃pre,cW γ.x 0 false 0=pre++xs
 gn:s.heap.IsGen γ.a g
 st:s.gens[g]? =some gs
 go:∀(ρ₁ ρ₂:Rho) s3,Kp γ.Ω [γ.a,γ.lo,γ.e,γ.it] [] ρ₁ s ρ₂ s3->zd9 γ A xs.length gs s3
theorem xE(hh:A.handled=none)(N:A.depth<recursionLimit)(I:γ.Ω.h₀.NoLimit){t:List Addr}(h:∀b∈[γ.lo,γ.e,γ.it],b∈t∨s.heap.get? b=none)(hal:γ.a∉[γ.lo,γ.e,γ.it]){gs:GenState}{T:List V}(d:∃pre,cW γ.x 0 false 0=pre++T)(hg:s.heap.IsGen γ.a g)(w:s.gens[g]? =some gs)(base:∀b o,γ.Ω.h₀.get? b=some o->s.heap.get? b=some o)
 (G:zd9 γ A T.length gs (s.setGen g .running)) {Q:Option Value->Shared->Prop} {E:Value->Shared->Prop} (h0:T=[]->∀c,Ch t [g] s c->Q none c)
 (h1:∀y r,T=y::r->∀v c f,Ch t [g] s c->Al γ.a [γ.a,γ.lo,γ.e,γ.it] c->VR [] c.heap y v->Rest γ A g r f c->Q (some v) c):
 wpAny γ.Ω.M A (pyNext (.ref γ.a)) Q E s:=by
 have glt:g<s.gens.size:=(Array.getElem?_eq_some_iff.mp w).1;refine zan (P:=λn s0 l=>n=0/\Ch [γ.lo,γ.e,γ.it] [] s0 l) hh (I.keeps base) N hg w G (λv l f Y hy=>?_) (λl hp h' hk=>h0 (List.length_eq_zero_iff.mp hp.1) _ (zfw hp.2 hk h rfl));obtain⟨B,m,p,⟨pre',y',C,J,u,hv⟩,D⟩:=hy;cases T with
 |nil=>exact(D [] [] l ⟨Ext.refl _,λU U e U=>e,λU U U e=>e,nofun,B.bare,id,p⟩).elim
 |cons y r=>
  obtain⟨pre,d⟩:=d;obtain⟨e1,e2⟩:=List.cons.inj (zgk (d.symm.trans J) (congrArg (· +1) u.symm));rw[←e1] at hv;have z:(l.setGen g f).heap.IsGen γ.a g:=jN (s:=s) hg λo e=>B.keep _ o e hal
  have H:g<l.gens.size:=(Array.getElem?_eq_some_iff.mp (B.gens g _ nofun (wF glt))).1;obtain⟨o,nm,ho,h2,h3,h4⟩:=zdw z;exact h1 y r rfl v _ f (zfw (gs':=f) (h':=l.heap) B (λU U e=>e) h Y) ⟨λb Y=>(Qe Y).elim (λq=>q▸⟨o,ho,h4⟩) (m b),⟨o,nm,ho,h2,h3⟩,.head _⟩ hv
   ⟨⟨pre++[y],d.trans (List.append_assoc pre [y] r).symm⟩,z,wF H,λj i s3 k=>D j i s3 ⟨k.ext,k.imm,k.keep,nofun,k.bare,k.tk,k.base⟩⟩
end
end
section
open Sem (wp)
section
theorem Kp.wk(k:Kp (N.wk W) a c b s m u):Kp N a c b s m u:=⟨k.ext,k.imm,k.keep,k.gens,k.bare,k.tk,k.base⟩
theorem zz7:∀{e:List Addr} {ρ:Rho} {s:Shared},qU N A j n T e ρ s->qU (N.wk W) A j n T e ρ s:=by
 induction T with
 |nil=>exact λh m u k=>h m u k.wk
 |cons x r d=>exact λh m u k Q E l=>h m u k.wk Q E λv f b g c a R i=>l v f b g c a R (d i)
theorem DE.wk:∀{D:List DictEntry},DE (N.wk W) a h d D->DE N a h d D:=by
 induction d with
 |nil=>exact λH=>H
 |cons p d b=>exact λ⟨e,r,q,M,h2,A,c⟩=>⟨e,r,q,M,h2,A,b c⟩
theorem OR.wk(H:OR (N.wk W) f h o e):OR N f h o e:=by
 cases o with
 |inst c d=>exact H.elim λa H=>H.elim λb H=>H.elim λD H=>H.elim λn H=>⟨a,b,D,n,H.1,H.2.1,H.2.2.1,H.2.2.2.1.wk,H.2.2.2.2⟩
 |_=>exact H
theorem HS.wk(H:HS (N.wk W) a J s):HS N a J s:=⟨H.base,H.fresh,H.nodup,H.len,λn o e M B=>(H.obj n o e M B).wk,H.gens,H.tk⟩
theorem KN.wk(K:KN (N.wk W) C a):KN N C a:=⟨K.loc,K.one,K.cel,K.glo,K.no⟩
theorem Rest.kp(R:Rest b A g T c s)(k:Kp b.Ω [b.a,b.lo,b.e,b.it] [g] f s m u):u.heap.IsGen b.a g/\u.gens[g]? =some c/\zd9 b A T.length c (u.setGen g .running):=
 ⟨jN R.gn (k.keep _ (.head _)),k.gens g (.head _) c R.st,R.go f m _ ⟨k.ext,k.imm,k.keep,nofun,uB k.bare rfl,k.tk,k.base⟩⟩
theorem zmk(q:A.handled=none)(i:A.depth<recursionLimit)(h:c.Ω.h₀.NoLimit)(j:c.a∉[c.lo,c.e,c.it]):∀{t:GenState} {ρ:Rho} {s:Shared},Rest c A g T t s->qU c.Ω A c.a [g] T [c.a,c.lo,c.e,c.it] ρ s:=by
 have f:∀{s:Shared},∀b∈[c.lo,c.e,c.it],b∈[c.a,c.lo,c.e,c.it]∨s.heap.get? b=none:=λb n=> .inl (.tail _ n);induction T with
 |nil=>exact λR m w k Q E o=>have z:=R.kp k;xE q i h f j R.x z.1 z.2.1 k.base z.2.2 (λU=>o) λy r z=>nomatch z
 |cons y r d=>intro t ρ s R m w k Q E o;have z:=R.kp k;refine xE q i h f j R.x z.1 z.2.1 k.base z.2.2 (λz=>nomatch z) λI J z v l B D H p u=>?_;obtain⟨G,C⟩:=List.cons.inj z;rw[←G] at p;rw[←C] at u;exact o v l _ (λb n=> .inl n) D H (VR.mono (zfp _) (λU U e U=>e) _ _ p) (d u)
def WkG(N:Bx)(b:Nat):WkT:=λT a c g f=>∃(C:Env) (e:Addr) (x:LN),T=cW x 0 false 0/\sOk x/\c.map Prod.fst=[a,e]/\a≠e/\f= .fresh (.func (fI (aA N) b) C)/\KN N C gsc/\C.scope.isCoroutine=false/\interactive C=false/\(∀p∈c,¬Imm p.2)∧
 ∀s,(∀p∈c,s.heap.get? p.1=some p.2)->AllBare s.gens->(∀b o,N.h₀.get? b=some o->s.heap.get? b=some o)->0<s.toks->GF N C e [(16,.str x)] s/\s.heap.IsGen a g
theorem znl{N:Bx}{f:Env}{a i:Addr}{x:LN}{d b:Nat}(C:CT N cx (Rm d))(m:N.h₀.NoLimit)(hn:20<N.nms.length)(I:look cx.glo 20=some (.bi .enumerate))(w:Rm (d+2) A)(hx:sOk x)(B:a≠i)(K:KN N f gsc)(J:f.scope.isCoroutine=false)(hint:interactive f=false)
 (hg:s.heap.IsGen a g) (H:s.gens[g]? =some (.fresh (.func (fI (aA N) b) f))) (base:∀b o,N.h₀.get? b=some o->s.heap.get? b=some o) (G:GF N f i [(16,.str x)] (s.setGen g .running)) {Q:Option Value->Shared->Prop} {E:Value->Shared->Prop} (h0:cW x 0 false 0=[]->∀c,Ch [a,i] [g] s c->Q none c)
 (h1:∀y r,cW x 0 false 0=y::r->∀v c h,(∀b∈h,b∈[a,i]∨s.heap.get? b=none)->Ch [a,i] [g] s c->Al a h c->VR ρ c.heap y v->qU N A a [g] r h ρ c->Q (some v) c):wpAny N.M A (pyNext (.ref a)) Q E s:=by
 have hh:=w.hd;have n:A.depth<recursionLimit:=Qq (Nat.le_add_right _ _) w.dp;have sz:=dZ s.heap;have k:s.heap.get? (s.heap.objs.size+1)=none:=iA (o:=(none:Option Obj)) (λo e=>absurd (Qw e) (Nat.not_lt.mpr (Qt _))) rfl;obtain⟨o,_,ho,_⟩:=zdw hg;have t:a∉[i,s.heap.objs.size+1,s.heap.objs.size]:=λz=>(Qe z).elim B λz=>(kR (p:=λb=>b≠a) (λe=>sn k (e▸ho)) (λe=>sn sz (e▸ho)) a z) rfl;have j:∀b∈[i,s.heap.objs.size+1,s.heap.objs.size],b∈[a,i]∨s.heap.get? b=none:=λb q=>(Qe q).elim (λe=> .inl (e▸.tail _ (.head _))) λq=> .inr (kR (p:=λb=>s.heap.get? b=none) k sz b q);exact xE (γ:=⟨N,f,a,i,s.heap.objs.size+1,s.heap.objs.size,x,0⟩) hh n m j t ⟨[],rfl⟩ hg H base ⟨rfl,zsx C (zrh w) (λe kk u l T=>zrg w e kk u l T) K J hint hn I hx G 0⟩ h0 λy r D v c gs' T Y hv R=>
  h1 y r D v c _ (λb q=>(Qe q).elim (λe=> .inl (e▸.head _)) (j b)) T Y (VR.mono (zfp _) (λU U e U=>e) _ _ hv) (zmk hh n m t R)
theorem wk0{Ω:Bx}{d b:Nat}(C:CT Ω cx (Rm d))(B:Ω.h₀.NoLimit)(hn:20<Ω.nms.length)(N:look cx.glo 20=some (.bi .enumerate)):Wk0 (Ω.wk (WkG Ω b)) (Rm (d+2)):=by
 intro A xs a os g st ρ s E Q hA hW t n i h l j;obtain⟨env,D,x,e1,hx,f,J,e2,K,T,hint,I,w⟩:=hW;obtain⟨G,H⟩:=w s t i h l;rw[e1,f] at j;rw[e2] at n;obtain⟨o,nm,ho,hc,hw,_⟩:=zdw H;refine wpAny_pyIter_gen H (j I (.head _) ⟨o,nm,ho,hc,hw⟩ (λu k Q E q=>wpAny_pyIter_gen (jN H (k a (.head _))) q) (zz7 ?_));have core:∀(m:Rho) (u:Shared),Kp Ω [a,D] [g] ρ s m u->∀{Q:Option Value->Shared->Prop} {E:Value->Shared->Prop},(cW x 0 false 0=[]->∀c,Ch [a,D] [g] u c->Q none c)->
  (∀y r,cW x 0 false 0=y::r->∀v c e,(∀b∈e,b∈[a,D]∨u.heap.get? b=none)->Ch [a,D] [g] u c->Al a e c->VR m c.heap y v->qU Ω A a [g] r e m c->Q (some v) c)->wpAny Ω.M A (pyNext (.ref a)) Q E u:=λm u k Q E q0 q1=>
  znl C B hn N hA hx J K T hint (jN H (k.keep a (.head _))) (k.gens g (.head _) _ n) k.base (w (u.setGen g .running) (λp Y=>k.keep p.1 (f▸List.mem_map.mpr ⟨p,Y,rfl⟩) _ (t p Y)) (uB k.bare rfl) k.base (k.tk l)).1 q0 q1
 cases q:cW x 0 false 0 with
 |nil=>exact λm u k Q E j=>core m u k (λU=>j) λy r z=>nomatch (q.symm.trans z)
 |cons y r=>intro m u k Q E j;refine core m u k (λz=>nomatch (q.symm.trans z)) λy' r' z v c e h1 h2 h3 h4 h5=>?_;obtain⟨z1,z2⟩:=List.cons.inj (q.symm.trans z);exact j v c e h1 h2 h3 (z1▸h4) (z2▸h5)
end
end
section
open Sem (wp)
def yay(b:List RV)(a:List (Nat×RV))(J:Hp):Option (RV×Hp):=ifb (emp a) (bd (a1 b) λr=>bd (rS r) λx=>some (.g (cW x 0 false 0),J))
structure GnOk(K:Frag)(Ω:Bx)(b:Nat)(f:Addr):Prop where
 ex:∃(oc:Value) (od:Option Addr) (osl:Array (Option Value)) (name qual:Str) (params:Arguments) (dV kV doc pm cdv ct:Value) (an:Option Addr),
  K.lookup f=some ⟨oc,od,.func (fnOf name qual params (fI (aA Ω) b) (scG (aA Ω) gsc) dV kV doc pm an cdv ct),osl⟩/\codeIn K cdv qual=true∧
  ∀(s:Shared) (u:Value),K.In s.heap->BindsTo s (fnOf name qual params (fI (aA Ω) b) (scG (aA Ω) gsc) dV kV doc pm an cdv ct) ⟨[u],[]⟩ [(aA Ω 16,u)]
 keep:keepIn K (.ref f)=true
section
variable{K:Frag}
theorem yf0(F:Frm (N.wk W) a gsc [(16,.str x)] E T I u)(r:a.cells=[])(k:u.heap.get? a.locals=some ol)(p:¬Imm ol)(A:i.heap.get? a.locals=some ol)(f:AllBare i.gens)(base:∀b o,N.h₀.get? b=some o->i.heap.get? b=some o)(w:0<i.toks):GF N a a.locals [(16,.str x)] i:=by
 obtain⟨m,⟨J,d,g,l,t⟩,D⟩:=F.F.ns;have j:∀{n c} {G:Prop},a.cells.lookup n=some c->G:=λh=>nn (show none=some _ from(by rw[r] at h;exact h))
 rw[prf (l.symm.trans k)] at t;refine⟨⟨base,nofun,List.nodup_nil,rfl,λn o e h=>nn h,f,w⟩,⟨F.F.kind,F.F.glob,F.F.blt,F.F.ids,⟨m,⟨ol,d,g,A,t⟩,λy v M B=>?_⟩,λy v M B=>(F.F.cel y v M B).elim λc h=>h.elim λs h=>j h.1,.head _,λU U=>Qj,λb f=>⟨ol,Qf f▸A,p⟩⟩,
  ⟨λy c U h=>j h,λy z c U U h=>j h,λy M B=>(F.C.has y M B).elim λc h=>j h,λb f=>F.C.base b (Qf f▸.head _)⟩⟩
 obtain⟨s,Q,H⟩:=D y v M B;rcases fZ M with⟨_,q⟩|M
 · have q:V.str x=v:=q
   subst q;exact⟨s,Q,H⟩
 · exact nn M
theorem zm3(a:20<Ω.nms.length):Pars Ω gsc [16]:=by refine⟨?_,We ⟨Qj,List.nodup_nil⟩,λx h=> .inl (Qf h▸rfl)⟩;show aH (or2 (ltB 16 _) false) (aH true (aH true (aH (or2 (ltB 17 _) false) (aH true (aH true (aH (or2 (ltB 18 _) false) (aH true (aH true (aH (or2 (ltB 19 _) false) (aH true (aH true (aH (or2 (ltB 20 _) true) (aH true (aH true true))))))))))))))=true;rw[qN a (by decide:16≤20),qN a (by decide:17≤20),qN a (by decide:18≤20),qN a (by decide:19≤20),qN a (by decide:20≤20)];rfl
noncomputable abbrev zfk(n q:Str)(s:Shared):Obj:={cls:= .type "generator",data:= .fields #[.int s.gens.size 0,.str n s.toks,.str q (s.toks+1)]}
abbrev goS(n q:Str)(c:Code)(s:Shared):Shared:={s with gens:=s.gens.push (.fresh c),toks:=s.toks+1+1,heap:=s.heap.push (zfk n q s)}
theorem yau(H:HS N f J a)(G:Go [] Q Y f a):HS N f J (goS n q c a)/\Go [] Q Y f (goS n q c a):=by have e:∀b o,a.heap.get? b=some o->(goS n q c a).heap.get? b=some o:=λb o h=>Qc _ h;refine⟨H.keeps e (AllBare.push H.gens rfl) (Qn _),G.trans0 ⟨⟨[],(List.append_nil _).symm,nofun⟩,λb o h U U=>e b o h,λb o h U=>e b o h,λb o h=>⟨o,e b o h⟩,λk i h=>?_,rfl⟩⟩;show(a.gens.push _)[k]? =_;rw[Array.getElem?_push_lt (Array.getElem?_eq_some_iff.mp h).1,←Array.getElem?_eq_getElem];exact h
theorem zm8(N:Apart h)(X:K.In h.h₀)(d:h.h₀.NoLimit)(hn:20<h.nms.length)(F:GnOk K h b f)(hA:Rm 1 A)(H:HS (h.wk (WkG h b)) y J s)(G:Go [] m Y y s)
 (h3:VR y s.heap (.str x) u) (hQ:gB (h.wk (WkG h b)) m Y (.g (cW x 0 false 0)) J Q):wpAny h.M A (call (.ref f) [u] []) Q E s:=by
 obtain⟨oc,od,osl,name,e,D,dV,kV,doc,pm,cdv,ct,an,h1,h2,h5⟩:=F.ex;have XS:K.In s.heap:=λa o q=>H.base a o (X a o q)
 refine wpAny_call (zm4 (Ω:=h.wk (WkG h b)) ⟨N.inj,N.dbg⟩ (Qq (Nat.le_add_right _ _) hA.dp) XS d h1 h2 (zm3 (Ω:=h.wk (WkG h b)) hn) H (us:=[u]) (vs:=[.str x]) (λA' E' Q' hq=>h5 s u XS _ A' E' Q' hq) (VRs.cons h3 VRs.nil) λC i F k t=>?_);have I:C.cells=[]:=k;obtain⟨ol,r,w⟩:=F.F.live C.locals (.head _);obtain⟨H2,G2⟩:=yau (n:=name) (q:=e) (c:= .func (fI (aA h) b) C) F.H (G.trans0 F.G);have j:i.heap.get? i.heap.objs.size=none:=dK i;have GG:=G.trans0 F.G;exact hQ y (goS name e (.func (fI (aA h) b) C) i) (.ref i.heap.objs.size) H2 G2 ⟨_,rfl,[(i.heap.objs.size,zfk name e i),(C.locals,ol)],i.gens.size,_,
  λp J=>kR (p:=λp:Addr×Obj=>(goS name e (.func (fI (aA h) b) C) i).heap.get? p.1=some p.2/\p.1∉y.flatten/\Y.heap.get? p.1=none) ⟨Qk _ rfl,F.H.notIn j,GG.none j⟩ ⟨Qc _ r,F.F.disj _ (.head _),G.none (F.fresh _ (.head _))⟩ p J,
  Array.getElem?_push_size ..,GG.gsize,C,C.locals,x,rfl,h3.2,rfl,λz=>sn j (z▸r),rfl,F.K.wk,by rw[t];rfl,by unfold interactive;rw[t];rfl,
  λp J=>kR (p:=λp:Addr×Obj=>¬Imm p.2) (dJ rfl rfl (by decide)) w p J,λs3 v T l B=>⟨yf0 F I r w (v (C.locals,ol) (.tail _ (.head _))) T l B,⟨zfk name e i,_,_,v (i.heap.objs.size,zfk name e i) (.head _),rfl,rfl,rfl⟩⟩⟩
theorem zsw(N:Apart Ω)(X:K.In Ω.h₀)(k:Ω.h₀.NoLimit)(n:20<Ω.nms.length)(F:GnOk K Ω b f)(u:Rm 1 A)(H:HS (Ω.wk (WkG Ω b)) l J s)(G:Go [] c Y l s)
 (e:yay as j J=some r) (y:cD (Ω.wk (WkG Ω b)) l s Y (as++j.map (·.2)) (i++h)) (t:i.length=as.length) (g:gB (Ω.wk (WkG Ω b)) c Y r.1 r.2 Q):
 bL Ω.M s.heap (.ref f)/\wpAny Ω.M A (call (.ref f) i ((j.map λp=>aA Ω p.1).zip h)) Q E s:=by
 refine aJ e λx e=>?_;refine aB e λq w e=>?_;refine aB e λz B e=>?_;rw[←prf e] at g;refine⟨keeps_K F.keep s.heap λa o q=>H.base a o (X a o q),lX (G:=λj h=>wpAny Ω.M A (call (.ref f) i ((j.map λp=>aA Ω p.1).zip h)) Q E s) x y t λD=>as1_e (P:=λi=>wpAny Ω.M A (call (.ref f) i []) Q E s) w D λv m=>?_⟩;rw[sQ B] at m;exact zm8 N X k n F u H G m g
end
end
def pl2:V->Bool
 | .tup T=>pls T
 |x=>pla x
def dPl:List (Nat×V)->Bool
 |[]=>true
 |p::r=>aH (pl2 p.2) (dPl r)
def oPl:O->Bool
 | .list T=>pls T
 | .inst _ d=>dPl d
 | .dict _=>false
noncomputable def zg1:V->Option Nat
 | .ref n=>some n
 |_=>none
def kM:RV->Option Nat
 | .v x=>zg1 x
 |_=>none
def gK:RV->Option V
 | .v x=>ifb (pl x) (some x)
 |_=>none
def zxv(q:RV)(J:Hp):Option O:=match q with
 | .l a=>ifb (pls a) (some (.list a))
 | .g _=>none
 | .v x=>bd (zg1 x) λn=>bd (nth J n) λo=>ifb (oPl o) (some o)
def nQ:List RV->Hp->Nat->Option (List V×Hp)
 |[],_,_=>some ([],[])
 |q::r,J,k=>byO (gK q) (λx=>bd (nQ r J k) λw=>some (x::w.1,w.2)) (bd (zxv q J) λo=>bd (nQ r J (k+1)) λw=>some (.ref k::w.1,o::w.2))
def bN:List RV->LN
 |[]=>[]
 |q::r=>byO (kM q) (λn=>n::bN r) (bN r)
def wb:List RV->Hp->Hp->Option Hp
 |[],_,J=>some J
 |q::r,os,J=>byO (gK q) (λU=>wb r os J) (bd (nth os 0) λo=>byO (kM q) (λn=>ifb (oPl o) (wb r (os.drop 1) (upd J n o))) (wb r (os.drop 1) J))
def yen(A:Hp):O->Option (RV×Hp)
 | .list T=>ifb (pls T) (some (.l T,A))
 | .inst c d=>ifb (dPl d) (some (.v (.ref (len A)),A++[.inst c d]))
 | .dict _=>none
def yem(r:RV)(k:Nat)(B A:Hp):Option (RV×Hp):=match r with
 | .l T=>ifb (pls T) (some (.l T,A))
 | .g _=>none
 | .v x=>byO (zg1 x) (λn=>ifb (Nat.ble k n) (bd (nth B n) (yen A))) (ifb (pl x) (some (.v x,A)))
noncomputable def rvs:List V->List RV
 |[]=>[]
 |x::r=> .v x::rvs r
def dU(S0:List RV->List (Nat×RV)->Hp->Option (RV×Hp))(a:List RV)(b:List (Nat×RV))(J:Hp):Option (RV×Hp):=
 ifb (emp b) (ifb (gP (bN a)) (bd (nQ a J 0) λw=>bd (S0 (rvs w.1) [] w.2) λr=>bd (wb a r.2 J) λA=>yem r.1 (len w.2) r.2 A))

theorem zj3(h:zg1 x=some n):x= .ref n:=by cases x<;>first|exact nn h|exact congrArg V.ref (prf h)
theorem rB(h:gK q=some x):q= .v x/\pl x=true/\kM q=none:=by
 cases q with
 |v y=>refine aJ h λM B=>?_;refine⟨congrArg RV.v (prf B),prf B▸M,?_⟩;cases y<;>first|rfl|exact ff M
 |_=>exact nn h
section
theorem zcj(e:pla x=true)(H:VR a h x v):VR m h x v:=by cases x<;>first|exact H|exact ff e
theorem zin{p:V->Bool}{a:List V->Bool}(J:∀{x v},p x=true->VR c h x v->VR m h x v)(b:∀{x r},a (x::r)=true->p x=true/\a r=true){T:List V}:∀{vs:List Value},a T=true->VRs c h T vs->VRs m h T vs:=by
 induction T with
 |nil=>exact λU H=>H
 |cons x r d=>exact λe ⟨v,t,q,M,h2⟩=>⟨v,t,q,J (b e).1 M,d (b e).2 h2⟩
theorem zim{G:List Value}:mM T=true->VRs a h T G->VRs m h T G:=zin zcj λ{x r} e=>aF (show aH (pla x) (mM r)=true from e)
theorem zio(e:pl x=true)(H:VR b h x v):VR m h x v:=by
 cases x with
 |tup T=>exact H.elim λa H=>H.elim λG H=>H.elim λn H=>⟨a,G,n,H.1,H.2.1,zim e H.2.2.1,H.2.2.2⟩
 |_=>exact zcj e H
theorem qV{G:List Value}:pls T=true->VRs a h T G->VRs m h T G:=zin zio λ{x r} e=>aF (show aH (pl x) (pls r)=true from e)
theorem zwx(e:pl2 x=true)(H:VR b h x v):VR m h x v:=by
 cases x with
 |tup T=>exact H.elim λa H=>H.elim λG H=>H.elim λn H=>⟨a,G,n,H.1,H.2.1,qV e H.2.2.1,H.2.2.2⟩
 |_=>exact zcj e H
theorem ygp:∀{D:List DictEntry},dPl d=true->DE N f h d D->DE N m h d D:=by
 induction d with
 |nil=>exact λU H=>H
 |cons p d b=>exact λe ⟨a,r,q,M,h2,A,c⟩=>⟨a,r,q,M,h2,zwx (aF e).1 A,b (aF e).2 c⟩
theorem ze0(p:oPl o=true)(H:OR N f h o e):OR N m h o e:=by
 cases o with
 |list T=>exact H.elim λa H=>H.elim λG H=>H.elim λn H=>⟨a,G,n,H.1,H.2.1,qV p H.2.2.1,H.2.2.2⟩
 |inst c d=>exact H.elim λa H=>H.elim λb H=>H.elim λD H=>H.elim λn H=>⟨a,b,D,n,H.1,H.2.1,H.2.2.1,ygp p H.2.2.2.1,H.2.2.2.2⟩
 |dict D=>exact H.elim
end
section
noncomputable abbrev GA1(ρ:Rho)(s₀ z:Shared)(q:RV)(a:Addr)(e:List Addr):Prop:=byO (kM q) (λn=>nth ρ n=some (a::e)) (e=[]/\s₀.heap.get? a=none/\z.heap.get? a≠none/\a∉ρ.flatten)
def GAt(c:Rho):Shared->List RV->Rho->Prop
 |_,[],b=>b=[]
 |Y,q::r,b=>∃z,Lt Y z/\byO (gK q) (λU=>GAt c z r b) (∃a e t,b=(a::e)::t/\GA1 c Y z q a e/\GAt c z r t)
theorem zm9{q:RV}{r:List RV}{c:Rho}(H:GAt f Y (q::r) c){G:Prop}(i:∀b x,Lt Y b->gK q=some x->GAt f b r c->G)(h:∀b a e t,Lt Y b->gK q=none->c=(a::e)::t->GA1 f Y b q a e->GAt f b r t->G):G:=by
 obtain⟨b,l,H⟩:=H;cases z:gK q with
 |some x=>rw[z] at H;exact i b x l z H
 |none=>rw[z] at H;exact H.elim λa H=>H.elim λe H=>H.elim λt H=>h b a e t l z H.1 H.2.1 H.2.2
theorem ze1{a:Type}(x:a)(r:List a):∀(p:List a),nth (p++x::r) p.length=some x
 |[]=>rfl
 |_::p=>ze1 x r p
theorem zqw(H:HS N f J s)(b:zxv q J=some o)(R:RVR N f Y s q v)(n:∀T,q= .l T->∀a,v= .ref a->z.heap.get? a≠none):∃a e,v= .ref a/\OR N [] s.heap o (a::e)/\GA1 f Y z q a e:=by
 cases q with
 |l h=>refine aJ b λM B=>?_;obtain⟨a,j,m,q,r,p,c,t,u⟩:=R;exact⟨a,[],q,prf B▸⟨a,j,m,rfl,r,qV M p,c⟩,rfl,t,n h rfl a q,u⟩
 |g h=>exact nn b
 |v x=>refine aB b λk M b=>?_;refine aB b λy B b=>?_;refine aJ b λA w=>?_;rw[zj3 M] at R⊢;obtain⟨a,e,i,q⟩:=R;exact⟨a,e,q,prf w▸ze0 A (H.obj k _ _ B i),i⟩
theorem zs0(H:HS N y J s):∀{vs:List Value} {w:List V×Hp} {s₀:Shared} (P:Rho),nQ as J P.length=some w->cD N y s s₀ as vs->∃b,b.length=w.2.length/\VRs (P++b) s.heap w.1 vs/\GAt y s₀ as b/\∀i o e,nth w.2 i=some o->nth b i=some e->OR N [] s.heap o e:=by
 induction as with
 |nil=>intro vs w s₀ P e R;rw[←prf e,show vs=[] from R];exact⟨[],rfl,VRs.nil,rfl,λi o e h=>nn h⟩
 |cons q r d=>
  intro vs w s₀ P e R;obtain⟨v,t,c,G,M,B,_,I,f⟩:=R;rw[G];have e:byO (gK q) (λx=>bd (nQ r J P.length) λw=>some (x::w.1,w.2)) (bd (zxv q J) λo=>bd (nQ r J (P.length+1)) λw=>some (.ref P.length::w.1,o::w.2))=some w:=e;cases z:gK q with
  |some x=>rw[z] at e;refine aB e λD u p=>?_;rw[←prf p];obtain⟨b,n,j,m,l⟩:=d P u f;rw[(rB z).1] at M;exact⟨b,n,VRs.cons (zio (rB z).2.1 M) j,⟨c,B,by rw[z];exact m⟩,l⟩
  |none=>
   rw[z] at e;refine aB e λo T e=>?_;refine aB e λD u p=>?_;rw[←prf p];obtain⟨a,k,C,g,Q⟩:=zqw H T M I;obtain⟨b,n,j,m,l⟩:=d (P++[a::k]) (by rw[List.length_append];exact u) f;rw[List.append_assoc] at j;refine⟨(a::k)::b,congrArg (· +1) n,VRs.cons ⟨a,k,ze1 _ _ P,C⟩ j,⟨c,B,by rw[z];exact⟨a,k,b,rfl,Q,m⟩⟩,λi E Y f A=>?_⟩;cases i with
   |zero=>exact prf f▸prf A▸g
   |succ i=>exact l i E Y f A
noncomputable abbrev zeb(ρ:Rho)(s₀:Shared)(b:LN)(a:Addr):Prop:=(∃n e,n∈b/\nth ρ n=some e/\a∈e)∨(s₀.heap.get? a=none/\a∉ρ.flatten)
theorem zeb.up(l:Lt Y z)(k:∀n∈c,n∈f)(F:zeb b z c a):zeb b Y f a:=F.imp (λh=>h.elim λn h=>h.elim λe h=>⟨n,e,k n h.1,h.2⟩) λh=>⟨l.n a h.1,h.2⟩
theorem sP(z:gK q=some x):bN (q::r)=bN r:=by show byO (kM q) _ _=_;rw[(rB z).2.2];rfl
theorem zam:∀n∈bN r,n∈bN (q::r):=by
 intro n h;show n∈byO (kM q) _ _;cases kM q with
 |none=>exact h
 |some m=>exact .tail _ h
theorem GA1.from(H:GA1 f Y h q a e):∀b∈a::e,zeb f Y (bN (q::r)) b:=by
 intro b c;unfold GA1 at H;show zeb f Y (byO (kM q) _ _) b;cases z:kM q with
 |some n=>rw[z] at H;exact .inl ⟨n,_,.head _,H,c⟩
 |none=>rw[z] at H;rw[H.1] at c;exact .inr (Qf c▸⟨H.2.1,H.2.2.2⟩)
theorem GAt.from{i:List RV}:∀{c:Rho} {s₀:Shared},GAt j s₀ i c->∀a∈c.flatten,zeb j s₀ (bN i) a:=by
 induction i with
 |nil=>exact λ{c s₀} H a f=>nomatch (show a∈List.flatten [] from(show c=[] from H)▸f)
 |cons q r d=>refine λ{c s₀} H a f=>zm9 H (λh x l z H=>(d H a f).up l zam) λh b e t l z m k H=>?_;rw[m,List.flatten_cons,List.mem_append] at f;exact f.elim (k.from a) λf=>(d H a f).up l zam
theorem zaz{l:Rho}{e:List Addr}(h:l.flatten.Nodup)(H:e∈l):e.Nodup:=(List.pairwise_flatten.mp h).1 e H
theorem GA1.nodup(N:l.flatten.Nodup){q:RV}{r:List RV}{a:Addr}{e:List Addr}{t:Rho}(d:gP (bN (q::r))=true)(H:GA1 l Y f q a e)(F:∀b∈t.flatten,zeb l f (bN r) b):(a::e).Nodup/\gP (bN r)=true/\∀b∈a::e,b∉t.flatten:=by
 unfold GA1 at H;have d:gP (byO (kM q) (λn=>n::bN r) (bN r))=true:=d;cases z:kM q with
 |some n=>
  rw[z] at H d;refine aI d λu s=>?_;refine⟨zaz N (xU H),s,λb j i=>?_⟩;rcases F b i with⟨m,p,h,c,k⟩|⟨h,c⟩
  · exact rC u (mP N H c j k▸h)
  · exact c (dG H j)
 |none=>
  rw[z] at H d;obtain⟨o,M,B,A⟩:=H;rw[o];refine⟨We ⟨Qj,List.nodup_nil⟩,d,λb j i=>?_⟩;rw[List.mem_singleton.mp j] at i;rcases F a i with⟨m,p,h,c,k⟩|⟨h,c⟩
  · exact A (dG c k)
  · exact B h
theorem GAt.nodup(N:j.flatten.Nodup){f:List RV}:∀{a:Rho} {s₀:Shared},gP (bN f)=true->GAt j s₀ f a->a.flatten.Nodup:=by
 induction f with
 |nil=>exact λ{a s₀} _ h=>(show a=[] from h)▸List.nodup_nil
 |cons q r i=>
  refine λ{a s₀} d H=>zm9 H (λc x l z H=>i (sP z▸d) H) λc b e t l z m k H=>?_;obtain⟨M,B,A⟩:=k.nodup N d H.from
  rw[m,List.flatten_cons,List.nodup_append];exact⟨M,i B H,λy n w o q=>A y n (q▸o)⟩
noncomputable abbrev ycg(ρ a:Rho)(c:LN)(b hp A:Hp):Prop:=∀n o e,nth A n=some o->nth ρ n=some e->(n∉c/\nth hp n=some o)∨(oPl o=true/\∃i,nth b i=some o/\nth a i=some e)
theorem yc5{v:List RV}:∀{c:Rho} {s₀:Shared} {b J A:Hp},GAt w s₀ v c->J.length=w.length->wb v b J=some A->A.length=J.length/\ycg w c (bN v) b J A:=by
 induction v with
 |nil=>exact λ{c s₀ b J A} _ _ h=>prf h▸⟨rfl,λn o e M U=> .inl ⟨Qj,M⟩⟩
 |cons q r d=>
  intro c s₀ b J A H s h;have h:byO (gK q) (λU=>wb r b J) (bd (nth b 0) λo=>byO (kM q) (λn=>ifb (oPl o) (wb r (b.drop 1) (upd J n o))) (wb r (b.drop 1) J))=some A:=h;refine zm9 H (λj x l z H=>?_) λj a e t l z y f H=>?_
  · rw[z] at h
    rw[sP z];exact d H s h
  · rw[z] at h
    refine aB h λo u h=>?_;cases b with
    |nil=>exact nn u
    |cons E b=>
     have u:E=o:=prf u;rw[y];unfold GA1 at f;show _/\ycg w ((a::e)::t) (byO (kM q) (λn=>n::bN r) (bN r)) (E::b) J A;cases z:kM q with
     |none=>rw[z] at h;obtain⟨B,g⟩:=d H s h;exact⟨B,λn o e y f=>(g n o e y f).imp id λh=>⟨h.1,h.2.elim λi h=>⟨i+1,h⟩⟩⟩
     |some n=>
      rw[z] at h f;refine aJ h λI h=>?_;obtain⟨B,g⟩:=d H ((rH _ _ _).trans s) h;refine⟨B.trans (rH _ _ _),λm p N G C=>?_⟩;rcases g m p N G C with⟨q5,k⟩|h
      · by_cases D:n=m
        · subst D
          have Q:n<J.length:=s▸oX f;rw[fY o ((bX J n).trans (List.getElem?_eq_getElem Q))] at k;exact .inr ⟨prf k▸I,0,congrArg some (u.trans (prf k)),f.symm.trans C⟩
        · exact .inl ⟨λh=>(Qe h).elim (λh=>D h.symm) q5,(gN o D)▸k⟩
      · exact .inr ⟨h.1,h.2.elim λi h=>⟨i+1,h⟩⟩
end
section
variable{hp h2 h3 hA:Hp}
noncomputable abbrev eV(Ω:Bx)(b:Around->Prop)(f:Addr)(S0:List RV->List (Nat×RV)->Hp->Option (RV×Hp)):Prop:=
 ∀{ρ₀ ρ:Rho} {hp:Hp} {s₀ s:Shared} {A:Around} {E Q:Value->Shared->Prop} {r:RV×Hp} {as:List RV} {ks:List (Nat×RV)} {vs kvs:List Value},b A->HS Ω ρ hp s->Go [] ρ₀ s₀ ρ s->(∀a,s₀.heap.get? a=none->Ω.h₀.get? a=none)->
  (∀p∈ks,p.1<Ω.nms.length)->S0 as ks hp=some r->cD Ω ρ s s₀ (as++ks.map (·.2)) (vs++kvs)->vs.length=as.length->gB Ω ρ₀ s₀ r.1 r.2 Q->
  bL Ω.M s.heap (.ref f)/\wpAny Ω.M A (call (.ref f) vs ((ks.map λp=>aA Ω p.1).zip kvs)) Q E s
theorem zrc(T:List V):(rvs T).length=T.length:=by
 induction T with
 |nil=>rfl
 |cons x r d=>exact congrArg (· +1) d
theorem zx5:∀{a:List Value},VRs b s.heap T a->cD N b s s (rvs T) a:=by
 induction T with
 |nil=>exact λH=>H
 |cons x r d=>exact λ⟨v,t,q,M,h2⟩=>⟨v,t,s,q,M,Lt.refl s,Lt.refl s,nofun,d h2⟩
theorem zxn(H:HS N ρ hp s)(f:∀a,Y.heap.get? a=none->N.h₀.get? a=none)(d:gP (bN as)=true)(p:b.length=hA.length)(c:GAt ρ Y as b)(m:∀i o e,nth hA i=some o->nth b i=some e->OR N [] s.heap o e):HS N b hA s:=
 ⟨H.base,λa j=>(c.from a j).elim (λh=>h.elim λn h=>h.elim λe h=>H.fresh a (dG h.2.1 h.2.2)) λh=>f a h.1,c.nodup H.nodup d,p.symm,λn o e l k=>(m n o e l k).mono (ρ:=[]) (λn e h=>nn (show none=some e from h)) (λU U e U=>e) (λU U U e=>e),H.gens,H.tk⟩
theorem zjb(H:HS N h hp s)(G:Go [] Q Y h s)(d:GAt h Y as k)(H2:HS N p h2 q)(f:Go [] k s p q)(C:h3.length=hp.length)(B:ycg h k (bN as) h2 hp h3):HS N h h3 q/\Go [] Q Y h q:=by
 refine⟨⟨H2.base,H.fresh,H.nodup,C.trans H.len,λn o e t j=>?_,H2.gens,H2.tk⟩,
  ⟨G.ext,λb o M h2 U=>f.keep b o (G.keep b o M h2 Qj) (λx=>?_) Qj,λb o M h2=>f.imm b o (G.imm b o M h2) h2,λb o M=>(G.grow b o M).elim λI h2=>f.grow b I h2,λg z M=>f.gens g z (G.gens g z M),f.os.trans G.os⟩⟩
 · rcases B n o e t j with⟨l,r⟩|⟨l,i,r,q5⟩
   · refine(H.obj n o e r j).mono (Ext.refl h) f.imm λa D E v=>f.keep a E v (λx=>?_) Qj
     rcases d.from a x with⟨m,e',A,u,J⟩|⟨A,u⟩
     · exact l (mP H.nodup j u D J▸A)
     · exact u (dG j D)
   · exact ze0 l (H2.obj i o e r (f.Ext _ _ q5))
 · rcases d.from b x with⟨n,e,_,j,l⟩|⟨t,_⟩
   · obtain⟨T,w,y⟩:=G.ext
     have c:=dG j l;rw[w,List.flatten_append,List.mem_append] at c;exact c.elim h2 λc=>sn (y b c) M
   · exact sn t M
theorem zek(H:HS N e hp s)(G:Go [] Q Y e s)(k:pls f=true)(o:h.heap.get? a=some (bZ b n))(m:VRs j h.heap f b)(c:b.length≤65537)(i:s.heap.get? a=none):RVR N e Y h (.l f) (.ref a):=
 ⟨a,b,n,rfl,o,qV k m,c,G.none i,H.notIn i⟩
theorem zqh(H:HS N j hp s)(G:Go [] f Y j s)(k:∀a,Y.heap.get? a=none->N.h₀.get? a=none)(H3:HS N j h3 l)(i:Go [] f Y j l)(H2:HS N p h2 l)(t:nth p n=some (a::m))(e:∀b∈a::m,s.heap.get? b=none)(x:nth h2 n=some (.inst c d))(u:dPl d=true)
 (g:gB N f Y (.v (.ref (len h3))) (h3++[.inst c d]) Q):Q (.ref a) l:=by
 refine g (j++[a::m]) l _ (H3.take (ze0 (o:= .inst c d) u (H2.obj _ _ _ x t)) (zaz H2.nodup (xU t)) (λb h=>H.notIn (e b h)) λb h=>k b (G.none (e b h)))
  ⟨?_,i.keep,i.imm,i.grow,i.gens,i.os⟩ ⟨a,m,?_,rfl⟩
 · obtain⟨r,q,w⟩:=i.ext
   exact⟨r++[a::m],q▸List.append_assoc _ _ _,λb k=>(Qo (cS r _▸k)).elim (w b) λk=>G.none (e b k)⟩
 · rw[aK,H3.len,←aK];exact nJ j _
theorem zqg(H:HS N t hp s)(G:Go [] h Y t s)(T:∀a,Y.heap.get? a=none->N.h₀.get? a=none)(H3:HS N t h3 i)(B:Go [] h Y t i)(H2:HS N u h2 i)(G2:Go [] C s u i)(hk:k=C.length)(e:yem q k h2 h3=some r)(R:RVR N u s i q v)(j:gB N h Y r.1 r.2 Q):Q v i:=by
 cases q with
 |l ys=>refine aJ e λM h2=>?_;rw[←prf h2] at j;obtain⟨a,us,n,q,A,E,p,D,_⟩:=R;exact q▸j t i _ H3 B (zek H G M A E p D)
 |g ys=>exact nn e
 |v x=>
  have e:byO (zg1 x) (λn=>ifb (Nat.ble k n) (bd (nth h2 n) (yen h3))) (ifb (pl x) (some (.v x,h3)))=some r:=e;cases z:zg1 x with
  |none=>rw[z] at e;refine aJ e λM h2=>?_;rw[←prf h2] at j;exact j t i v H3 B (zio M R)
  |some n=>
   rw[z] at e;rw[zj3 z] at R;refine aJ e λp e=>?_;refine aB e λo D e=>?_;obtain⟨a,ea,y,q⟩:=R;have f:∀b∈a::ea,s.heap.get? b=none:=by obtain⟨nw,I,J⟩:=G2.ext;rw[I,bX,List.getElem?_append_right (hk▸Nat.le_of_ble_eq_true p)] at y;exact λb T=>J b (List.mem_flatten.mpr ⟨_,List.mem_of_getElem? y,T⟩)
   rw[q];cases o with
   |list xs=>refine aJ e λM h2=>?_;rw[←prf h2] at j;obtain⟨a',us,m,he,A,E,w⟩:=H2.obj _ _ _ D y;rw[←(List.cons.inj he).1] at A;exact j t i _ H3 B (zek H G M A E w (f a (.head _)))
   |inst c d=>refine aJ e λM h2=>?_;rw[←prf h2] at j;exact zqh H G T H3 B H2 y f D M j
   |dict es=>exact nn e
theorem dN(I:eV N m f S0):eV N m f (dU S0):=by intro ρ₀ ρ hp s₀ s A E Q r as ks b kvs hA H G o hk e l n C;refine aJ e λq e=>?_;refine aJ e λc e=>?_;refine aB e λw g e=>?_;refine aB e λr2 B e=>?_;refine aB e λh3 d e=>?_;have k:=l;refine lX (G:=λks kvs=>bL N.M s.heap (.ref f)/\wpAny N.M A (call (.ref f) b ((ks.map λp=>aA N p.1).zip kvs)) Q E s) q l n λU=>?_;have j:cD N ρ s s₀ as b:=lX (G:=λks kvs=>cD N ρ s s₀ (as++ks.map (·.2)) (b++kvs)->cD N ρ s s₀ as b) q l n (λU h=>by rw[List.map_nil,List.append_nil,List.append_nil] at h;exact h) k;obtain⟨a,u,t,i,J⟩:=zs0 H (P:=[]) g j;refine I (ρ₀:=a) (ρ:=a) (s₀:=s) (as:=rvs w.1) (ks:=[]) (kvs:=[]) hA (zxn H o c u i J) (Go.refl _ _ _) (base_none H) nofun B (by rw[List.map_nil,List.append_nil,List.append_nil];exact zx5 t) ((t.len).trans (zrc _).symm) λy s2 v H2 x T=>?_;obtain⟨D,z⟩:=yc5 i H.len d;obtain⟨H3,Y⟩:=zjb H G i H2 x D z;exact zqg H G o H3 Y H2 x ((aK _).trans u.symm) e T C
end
noncomputable def onN{a:Type}(f:Fl)(o:Option a):Option a:=match f with
 | .next=>o
 |_=>none
def zo4(E:Cx)(f e:FS)(b:Tg)(h:List FS)(c:FS)(items:List V)(a:L)(J:Hp):Option (RV×Hp):=bd (exs E [f,e] a J) λz=>onN z.1 (bd (bR (aX E b (exs E h)) (len items+1) (.items items) z.2.1 z.2.2) λw=>bd (iQ (exs E []) w) λy=>onN y.1 (body E [c] y.2.1 y.2.2))
theorem zvp{a:Type}{f:Fl}{o:Option a}{r:a}(h:onN f o=some r):f= .next/\o=some r:=by
 cases f with
 |next=>exact⟨rfl,h⟩
 |_=>exact nn h
theorem zrq(h:nx w more=some z)(a:z.1= .next):w.1= .next/\more=some z:=by
 obtain⟨f,y⟩:=w;cases f with
 |next=>exact⟨rfl,h⟩
 |_=>exact absurd ((congrArg Prod.fst (prf h)).trans a) nofun
section
noncomputable abbrev Kw:=List Nat×V×Value
def kwK(D:List Kw):List (Str×Value):=D.map λe=>(St e.1,e.2.2)
noncomputable def kwV(D:List Kw):List V:=D.map λe=> .tup [.str e.1,e.2.1]
noncomputable abbrev KwR(es:List Kw):Prop:=∀e∈es,sOk e.1/\∀(ρ:Rho) (h:Heap),VR ρ h e.2.1 e.2.2
section
variable{Rm:Around->Prop}
structure KwI(Ω:Bx)(Rm:Around->Prop)(D:Dx)(ρ:Rho)(s:Shared)(X it:Addr)(es:List Kw)(ep i:Nat)(ρ5:Rho)(hp5:Hp)(fl5:L)(s5:Shared):Prop where
 h:HereS Ω Rm D fl5 hp5 ρ5 s5
 G:Go D.fa ρ s ρ5 s5
 itr:∃ok ov,IsItemIter s5.heap it X i (kwK es).length ep ok ov
 out:it∉ρ5.flatten
noncomputable def KwV(Ω:Bx)(Rm:Around->Prop)(D:Dx)(ρ:Rho)(s:Shared)(X it:Addr)(es:List Kw)(h:Nat)(f:V->L->Hp->Option (Fl×L×Hp))(w:LE×L×Hp)(n:Nat)(e:Shared):Prop:=
 ∃c a b i,bR f n (.items (kwV (es.drop i))) b a=some w/\KwI Ω Rm D ρ s X it es h i c a b e
theorem zz8(x:IsItemIter h a d i n b ok ov):∃o,h.get? a=some o/\¬Imm o:=⟨_,x,dJ rfl rfl (by decide)⟩
theorem KwI.ch(I:KwI N Rm D l s X f o p i b j k s5)(h:HereS N Rm D n J l s)(a:s.heap.get? f=none)(c:Ch [f] [] s5 s6):HereS N Rm D k j b s6/\Go D.fa l s b s6:=
 have e:f∉D.fa:=λm=>h.live f m a
 ⟨⟨⟨I.h.h.K,I.h.h.A,nP I.h.h.H c (dO I.out) (dO (h.h.H.base_none a)),znc I.h.h.F c (dO e)⟩,znn I.h.C c (dO e)⟩,wD I.G c (dO a) nofun⟩
theorem zsh(C:CT N z Rm)(w1:wT N.nms.length D.sc (.tup xs ps p)=true)(w3:wSs N.nms.length D.sc lb=true)(ea:iQ (exs z []) w=some o)(h:HereS N Rm D fl hp ρ s)(hR:KwR T)
 (hD:s.heap.DictAt (PySem.strKind N.prog N.w) X (kwK T) ep) (hX:X∉ρ.flatten) (hXf:X∉D.fa) (x:s.heap.get? a=none) {n:Nat} {E':Value->Shared->Prop} {Q:Flow->Shared->Prop} (hQ:qI N Rm D ρ s o Q)
 {k:Shared} (i:KwV N Rm D ρ s X a T ep (aX z (.tup xs ps p) (exs z lb)) w n k):zo8 N D (tT (aA N) (.tup xs ps p)) (tSs (aA N) lb) [] (.ref a) (λd=>∃m,m<n/\KwV N Rm D ρ s X a T ep (aX z (.tup xs ps p) (exs z lb)) w m d) Q E' k:=by
 obtain⟨ρ5,hp5,fl5,i,l,I⟩:=i;have M:=hD.at λo q=>I.G.keep X o q hX hXf
 obtain⟨ok,ov,j⟩:=I.itr;obtain⟨oi,B,ni⟩:=zz8 j;have hh:=(C.rm _ h.h.A).1;cases n with
 |zero=>exact nn l
 |succ n=>
  cases q:T.drop i with
  |nil=>rw[q] at l;refine wpAny_pyNext_items_end hh j M (List.getElem?_eq_none (by rw[kwK,List.length_map];exact List.drop_eq_nil_iff.mp q)) λh' hx=>?_;obtain⟨h6,G6⟩:=I.ch h x (nX (it:=a) (t:=k.toks) (.head _) B ni (λb o q e=>hx b o q e) I.h.h.H.gens);refine wpAny_execs_nil ?_;have e:=prf (zC ea (prf l).symm);rw[←e] at hQ;exact hQ ρ5 _ .next h6 G6 rfl
  |cons e r=>
   rw[q] at l;have eq:=cQ q;refine aB (show bd (aX z (.tup xs ps p) (exs z lb) (.tup [.str e.1,e.2.1]) fl5 hp5) (λw=>nxt w (bR _ n (.items (kwV r)) w.2.1 w.2.2))=some w from l) λu q2 l=>?_;refine aB q2 λy qb q2=>?_;obtain⟨r1,r2⟩:=hR e (List.mem_of_getElem? eq.1);refine wpAny_pyNext_items_item j M (show(kwK T)[i]? =some (St e.1,e.2.2) by rw[kwK,List.getElem?_map,eq.1];rfl) λg h' hk ho ht hz hkp=>?_;have hk:=Value.isStrOf_shape hk;refine wpAny_letOwnedTupleGo_items ho λh2 J c=>?_;have c:Heap.SameBut a h' h2:=c;have kp:∀b o,b≠a->k.heap.get? b=some o->h2.get? b=some o:=λb o n e=>(c.2 b n).trans (hkp b o n e);obtain⟨h6,G6⟩:=I.ch h x (s6:={k with heap:=h2}) (nX (it:=a) (t:=k.toks) (.head _) B ni kp I.h.h.H.gens);have ht2:h2.get? k.heap.objs.size=some (oK [g,e.2.2] 0):=(c.2 _ (Nat.ne_of_gt (Qw j))).trans ht;refine sD (D:=⟨D.env,D.sc,D.fa,D.A,E'⟩) C w1 qb h6.E h6.E.since (r:= .v (.tup [.str e.1,e.2.1])) ⟨_,_,_,rfl,ht2,VRs.cons ⟨hk,r1⟩ (VRs.cons (r2 _ _) VRs.nil),(by decide:2≤65536)⟩ λρ7 s7 h7 Y=>?_;exact zec C lb (D:=⟨D.env,D.sc,D.fa,D.A,E'⟩) w3 h7 q2 λρ8 s8 f h8 G8 r'=>zdc l ea (zhq (dA (G6.transS Y)) r') h8.E' (G6.transS (Y.transS G8)) hQ λq=>⟨n,Nat.lt_succ_self n,ρ8,u.2.2,u.2.1,i+1,eq.2▸q,
    ⟨h8.E',G6.transS (Y.transS G8),⟨g,e.2.2,(Y.transS G8).keep a _ J I.out λhm=>h.live a hm x⟩,(Y.transS G8).notIn J I.out⟩⟩
theorem zz1(C:CT N E Rm){T k:LN}{p:Nat}{l:List FS}{r:Expr}{g A P:Nat}(G:wT N.nms.length D.sc (.tup T k p)=true)(B:wSs N.nms.length D.sc l=true){w:LE×L×Hp}{o:Fl×L×Hp}{n:Nat}{q:List Kw}(er:bR (aX E (.tup T k p) (exs E l)) n (.items (kwV q)) I J=some w)(ea:iQ (exs E []) w=some o)(h:HereS N Rm D I J f s)
 (hb:∀m,attributeBase r "items" D.env m=m) (c:((pos g).endLine==(pos A).line)=true) {X:Addr} {d:Nat} (hR:KwR q) (z:s.heap.DictAt (PySem.strKind N.prog N.w) X (kwK q) d) (y:(X==sysModules)=false) (hX:X∉f.flatten) (v:X∉D.fa)
 (Y:∀Q':Value->Shared->Prop,Q' (.ref X) s->WP N D (eval r D.env) Q' s) {Q:Flow->Shared->Prop} (hQ:qI N Rm D f s o Q):WP N D (exec (.For (tT (aA N) (.tup T k p)) (.Call (.Attribute r "items" (pos g)) [] [] (pos A)) (tSs (aA N) l) [] (pos P)) D.env) Q s:=by
 refine wpAny_For (wpAny_Call_items y z.dictOf (hb _) c Y ?_);refine wpAny_pyIter_items (s:={s with heap:=s.heap.push {cls:= .type "dict_items",data:= .fields #[.ref X]}}) ⟨_,Qk _ rfl,rfl,rfl⟩ (z.at λo h=>Qc _ h) ?_;have j:∀b o,s.heap.get? b=some o->(s.heap.push {cls:= .type "dict_items",data:= .fields #[.ref X]}).get? b=some o:=λb o h=>Qc _ h;have u:=lI (dZ (s.heap.push {cls:= .type "dict_items",data:= .fields #[.ref X]}));generalize s.heap.push {cls:= .type "dict_items",data:= .fields #[.ref X]}=M at j u⊢;refine zbs (KwV N Rm D f s X M.objs.size q d (aX E (.tup T k p) (exs E l)) w) (λn s5 i=>zsh C G B ea h hR z hX v u hQ i) n ⟨f,J,I,0,er,?_⟩;have a:∀x b o,s.heap.get? b=some o->(M.push x).get? b=some o:=λx b o e=>Qc _ (j b o e);exact⟨h.go (Go.keeps [] f s (t:=s.toks) (a _)) (h.h.H.heap (t:=s.toks) (a _) h.h.H.tk),(Go.keeps [] f s (t:=s.toks) (a _)).any,⟨_,_,Qk _ rfl⟩,h.h.H.notIn u⟩
end
theorem zv7{p:FS}{r:List FS}{I:L}{J:Hp}{w:Fl×L×Hp}(h:exs E (p::r) I J=some w)(a:w.1= .next):∃y:L×Hp,ex E p I J=some (.next,y)/\exs E r y.1 y.2=some w:=by refine aB (show bd (ex E p I J) (λw=>nx w (exs E r w.2.1 w.2.2))=some w from h) λx q h=>?_;obtain⟨M,B⟩:=zrq h a;exact⟨x.2,q.trans (congrArg some (Prod.ext M rfl)),B⟩
theorem zo2{d:Nat}(C:CT Ω cx (Rm d))(hA:Rm (d+1) A){K:Frag}(X:K.In Ω.h₀)(hlim:Ω.h₀.NoLimit){f:Addr}{oc:Value}{od:Option Addr}{osl:Array (Option Value)}{name l:Str}{mr:List (Str×Const)}{e:Arguments}{p1 p2 p3:FS}{T ps:LN}{p:Nat}{lb:List FS}{n1 ap n2 P xd:Nat}{dV kV doc pm J ct:Value}{an:Option Addr}
 (ho:K.lookup f=some ⟨oc,od,.func (fnOf name l e (tSs (aA Ω) [p1,p2,.for_ (.tup T ps p) (.mcall (.var xd n1) 10 [] [] [] [] ap n2) lb [] P,p3]) (scM (aA Ω) sc mr) dV kV doc pm an J ct),osl⟩) (hcd:codeIn K J l=true) (h10:aA Ω 10="items")
 (g:wSs Ω.nms.length sc [p1,p2,.for_ (.tup T ps p) (.mcall (.var xd n1) 10 [] [] [] [] ap n2) lb [] P,p3]=true) (B:((pos ap).endLine==(pos n2).line)=true) (hlv:lv sc xd=true)
 {pn:LN} (Pr:Pars Ω sc (pn++[xd]))
 (H:HS Ω N hp s) (G:Go [] k Y N s) {args:Args} {us:List Value} {vs:List V} {es:List Kw} (hE:KwR es)
 (E:∃D n tk ep,(∀(A':Around) (E':Value->Shared->Prop) (Q:List (Str×Value)->Shared->Prop),Q (((pn++[xd]).map (aA Ω)).zip (us++[.ref D])) {s with heap:=n,toks:=tk}->wpAny Ω.M A' (bindArgs (fnOf name l e (tSs (aA Ω) [p1,p2,.for_ (.tup T ps p) (.mcall (.var xd n1) 10 [] [] [] [] ap n2) lb [] P,p3]) (scM (aA Ω) sc mr) dV kV doc pm an J ct) args) Q E' s)∧
  (∀b o,s.heap.get? b=some o->n.get? b=some o)/\s.heap.get? D=none/\(D==sysModules)=false/\n.DictAt (PySem.strKind Ω.prog Ω.w) D (kwK es) ep/\0<tk)
 (hR:VRs N s.heap vs us) {r:RV×Hp} (hrun:∀D,zo4 cx p1 p2 (.tup T ps p) lb p3 (kwV es) ((pn++[xd]).zip (vs++[.top D])) hp=some r/\∀y,exs cx [p1,p2] ((pn++[xd]).zip (vs++[.top D])) hp=some (.next,y)->look y.1 xd=some (.top D)) {R:Result->Shared->Prop}
 (hQ:gB Ω k Y r.1 r.2 λv s'=>R (.ok (.ret v)) s'):codeAny Ω.M A (.call (.ref f) args) R s:=by
 obtain⟨j,n,tk,ep,hb,hkp,I,hDs,hDa,htk⟩:=E;obtain⟨i,hlk⟩:=hrun j;have GB:Go [] N s N {s with heap:=n,toks:=tk}:=Go.keeps [] N s hkp;have GG:=G.trans0 GB;refine aI g λw1 g=>?_
 refine aI g λw2 g=>?_;refine aI g λwf g=>?_;have wf2:=aF (aF wf).2;refine tK (sB:={s with heap:=n,toks:=tk}) C.apart (Qq (Nat.le_add_right _ _) hA.dp) (λa o q=>H.base a o (X a o q)) hlim ho hcd Pr (H.heap hkp htk) (us:=us++[.ref j]) (vs:=vs++[.top j]) hb (VRs.append (GB.vrs hR) (VRs.cons (x:= .top j) (v:= .ref j) rfl VRs.nil)) λc s1 E' F=>?_;refine aB i λz e1 i=>?_;obtain⟨hz,i⟩:=zvp i;refine aB i λlw el i=>?_;refine aB i λlo ea' i=>?_;obtain⟨hz2,i⟩:=zvp i;obtain⟨y1,ea,e2⟩:=zv7 e1 hz;obtain⟨y2,eb,e3⟩:=zv7 e2 hz;have e3:(Fl.next,y2)=z:=prf e3;have h1:HereS Ω (Rm d) ⟨c,sc,c.locals::faC Ω c,A.deeper c,E'⟩ _ hp N s1:=⟨⟨F.K,hA.deeper _,F.H,F.F⟩,F.C⟩;refine wpAny_execs_cons (zie C p1 w1 h1 ea λρ2 s2 f2 h2 G2 r2=>?_);rw[show f2= .next from r2];refine wpAny_execs_cons (zie C p2 w2 h2 eb λρ3 s3 f3 h3 G23 r3=>?_);rw[show f3= .next from r3];have G3:=G2.transS G23;have hXf:j∉c.locals::faC Ω c:=λz=>hDa.elim λo' h=>h.elim λU h=>sn (F.fresh j z) h.1;have hD1:s1.heap.DictAt (PySem.strKind Ω.prog Ω.w) j (kwK es) ep:=hDa.at λo h=>F.G.keep j o h (H.notIn I) Qj;have hD3:s3.heap.DictAt (PySem.strKind Ω.prog Ω.w) j (kwK es) ep:=hD1.at λo h=>G3.keep j o h (H.notIn I) hXf;have hX3:j∉ρ3.flatten:=hD1.elim λo h=>h.elim λU h=>G3.notIn h.1 (H.notIn I);rw[←e3] at el;show wpAny _ _ (execs (.For (tT (aA Ω) (.tup T ps p)) (.Call (.Attribute (tE (aA Ω) (.var xd n1)) (aA Ω 10) (pos ap)) [] [] (pos n2)) (tSs (aA Ω) lb) [] (pos P)::tSs (aA Ω) [p3]) c) _ _ _;rw[h10];refine wpAny_execs_cons (zz1 C (D:=⟨c,sc,c.locals::faC Ω c,A.deeper c,E'⟩) (aF wf).1 (aF wf2.2).1 el ea' h3 (λm=>iB (Ω:=Ω) (o:= .var xd n1) rfl _ _ m) B hE hD3 hDs hX3 hXf (λQ' q=>zE C (hlk y2 (e1.trans (congrArg some e3.symm))) hlv h3.h.K h3.h.F λu hu=>(show u= .ref j from hu)▸q) λρ4 s4 f4 h4 G34 r4=>?_);rw[hz2] at r4;rw[show f4= .next from r4];have G4:=G3.transS G34;refine aB i λw q i=>?_;refine zec C [p3] (D:=⟨c,sc,c.locals::faC Ω c,A.deeper c,E'⟩) g h4 q λt s' fw n G' r=>?_;have done:Go [] k Y t s':=(GG.trans0 F.G).trans (G4.transS G') λa ha=> .inr (GG.none (F.fresh a ha));refine zvo i (λz q=>?_) λx z q=>?_
 · rw[z] at r
   rw[show fw= .next from r];exact hQ t s' .none (q▸n.h.H) done (q▸rfl)
 · rw[z] at r
   obtain⟨u,eu,hu⟩:=r;rw[eu];exact hQ t s' u (q▸n.h.H) done (q▸pV ((dA (GG.trans0 F.G)).trans (dA G4)) hu)
end
noncomputable def wH:Nat->List V->List V
 |_,[]=>[]
 |i,x::r=> .tup [.int (.ofNat i),x]::wH (i+1) r
structure EnS(ea it l:Addr)(us:List Value)(i:Nat)(r:List V)(ρ:Rho)(s:Shared):Prop where
 n1:ea≠it
 n2:l≠ea
 n3:l≠it
 e:∃old,IsEnum s.heap ea it i old
 it:s.heap.IsListIter it l i
 l:∃n,s.heap.get? l=some (bZ us n)
 v:VRs ρ s.heap r (us.drop i)
noncomputable def EnP(b:Addr)(a:List Addr)(src:Src)(ρ:Rho)(s:Shared):Prop:=∃(it l:Addr) (us:List Value) (i:Nat) (r:List V),src= .items (wH i r)/\a=[b,it,l]/\EnS b it l us i r ρ s
section
variable{Ω:Bx}{Rm:Around->Prop}{ea it l:Addr}
theorem EnS.kp(P:EnS ea it l b i r a s)(k:Kp Ω [ea,it,l] [] a s m u):EnS ea it l b i r m u:=
 ⟨P.n1,P.n2,P.n3,P.e.imp λU h=>k.keep ea (.head _) _ h,P.it.at λo e=>k.keep it (.tail _ (.head _)) o e,P.l.imp λU h=>k.keep l (.tail _ (.tail _ (.head _))) _ h,VRs.mono k.ext k.imm _ _ P.v⟩
theorem zwb(x:∃old,IsEnum h ea it i old):∃o,h.get? ea=some o/\¬Imm o:=x.elim λU x=>⟨_,x,dJ rfl rfl (by decide)⟩
theorem zlz{h:Heap}(x:∃n,h.get? l=some (bZ a n)):h.IsList l a.toArray:=x.elim λn h=>⟨_,h,rfl,_,rfl⟩
theorem EnS.stop(f:A.handled=none)(P:EnS ea it l a i [] n s)(h:AllBare s.gens)(g:∀u,Ch [ea,it,l] [] s u->Q none u):wpAny Ω.M A (pyNext (.ref ea)) Q E s:=by obtain⟨c,j⟩:=P.e;obtain⟨o,m,k⟩:=zl4 P.it;exact wpAny_pyNext_enum_end f j P.it (zlz P.l) ((List.getElem?_toArray ..).trans (List.getElem?_eq_none (List.drop_eq_nil_iff.mp (show a.drop i=[] from P.v)))) λp H=>g _ (nX (it:=it) (t:=s.toks) (.tail _ (.head _)) m k (λb o q e=>H b o q e) h)
theorem EnS.turn(n:∃a z p,T= .Tuple a z p)(P:EnS ea it l G i (x::r) j s)(hb:AllBare s.gens)
 (hQ:∀v g,(∀(Q':Unit->Shared->Prop) (E':Value->Shared->Prop),(∀u,Ch [ea,it,l] [] s u->VR j u.heap (.tup [.int (.ofNat i),x]) v->EnS ea it l G (i+1) r j u->Q' () u)->wpAny Ω.M A (letOwnedTupleGo T (.ref ea) v) Q' E' g)->Q (some v) g):wpAny Ω.M A (pyNext (.ref ea)) Q E s:=by
 obtain⟨v,t,Y,J,N⟩:=P.v;obtain⟨e1,e2⟩:=cQ Y;obtain⟨I,C⟩:=P.e;obtain⟨oe,d,H⟩:=zwb P.e;obtain⟨oi,D,y⟩:=zl4 P.it;obtain⟨a,z,p,n⟩:=n;refine wpAny_pyNext_enum_item C P.it (zlz P.l) ((List.getElem?_toArray ..).trans e1) P.n1 λh' a1 a2 a3 a4 a5=>hQ _ _ λQ' E' w=>?_
 rw[n];refine wpAny_letOwnedTupleGo_enum a1 λc b1 f=>?_;have f:Heap.SameBut ea h' c:=f;have k:∀b o,b≠ea->b≠it->s.heap.get? b=some o->c.get? b=some o:=λb o p q z=>(f.2 b p).trans (a5 b o p q z);have m:hJ s.heap c:=λb o z i=>k b o (λq=>H (prf (d.symm.trans (q▸z))▸i)) (λq=>y (prf (D.symm.trans (q▸z))▸i)) z;exact w _ ⟨λb o z B=>k b o (λq=>B (q▸.head _)) (λq=>B (q▸.tail _ (.head _))) z,m,λU U U e=>e,hb,rfl,λh=>by first|exact h|exact Qn _⟩
  ⟨_,_,_,rfl,(f.2 _ (Nat.ne_of_gt (Qw C))).trans a3,VRs.cons (x:= .int (.ofNat i)) ⟨_,rfl⟩ (VRs.cons (VR.mono (Ext.refl j) m _ _ J) VRs.nil),show 2≤65536 by decide⟩
  ⟨P.n1,P.n2,P.n3,⟨v,b1⟩,a2.at λo h=>(f.2 it (Ne.symm P.n1)).trans h,P.l.imp λU h=>k l _ P.n2 P.n3 h,by rw[e2];exact VRs.mono (Ext.refl j) m _ _ N⟩
theorem zn6(B:A.handled=none)(G:∃f z p,T= .Tuple f z p):CIt Ω A T EnP:=by
 refine⟨λ{ea u t y M s o Q E} S H e w g=>?_,λS k=>?_,λ{ea u t y s} S=>?_⟩
 · obtain⟨it,l,j,i,r,m,b,S⟩:=S
   rw[m] at e;rw[b] at w g;cases r with
   |nil=>exact S.stop B H.gens (w (prf e).symm)
   |cons x r=>exact S.turn G H.gens λv D k=>g _ _ (prf e).symm v D λJ E' q=>k J E' λd c R I=>q d c R ⟨it,l,j,i+1,r,rfl,rfl,I⟩
 · obtain⟨it,l,j,i,r,m,b,S⟩:=S
   rw[b] at k;exact⟨it,l,j,i,r,m,b,S.kp k⟩
 · obtain⟨it,l,j,i,r,m,b,S⟩:=S
   rw[b];exact λa C=>(Qe C).elim (λq=>q▸zwb S.e) (kR (p:=λa=>∃o,s.heap.get? a=some o/\¬Imm o) (zl4 S.it) (S.l.elim λn h=>⟨_,h,jJ⟩) a)
theorem znt(C:CT Ω z Rm)(I:look z.glo 20=some (.bi .enumerate))(wl:wE Ω.nms.length D.sc le=true)(hg:look D.sc 20=some 4)
 (e1:ev z N le hp=some (.l T,J)) (h:Here Ω Rm D N hp ρ s) {Q:Value->Shared->Prop} {E':Value->Shared->Prop}
 (hQ:∀f m ea i,HS Ω f J m->Go [] ρ s f m->EnP ea i (.items (wH 0 T)) f m->(∀a∈i,a∉f.flatten)->(∀a∈i,s.heap.get? a=none)->uI Ω D.A ea i m->Q (.ref ea) m):
 wpAny Ω.M D.A (eval (tE (aA Ω) (.call (.glo 20 gp) [le] [] [] [] p)) D.env) (λv m=>wpAny Ω.M D.A (pyIter v) Q E' m) D.E s:=by
 refine wpAny_Call_Name_kw (zea C I hg h.K h.H h.F λu hu=>?_);rw[show u=Bi.enumerate.val from hu];refine callWith_of (P:=λh=>bL Ω.M h Bi.enumerate.val) (by rw[mU];rfl) (λh x=>x) ?_;refine zf5 (D:=D) (es:=[le]) (ks:=[]) (kn:=[]) (kp:=[]) (xs:=([.l T],J)) (ys:=([],J)) rfl rfl (λe he=>by rw[List.mem_singleton.mp he];exact(both C le).1) nofun (show aH _ true=true by rw[wl];rfl) rfl h (show(bd (ev z N le hp) λx=>bd (evs z N [] x.2) λT=>some (x.1::T.1,T.2))=_ by rw[e1];rfl) rfl λj c r us B G2 R2 l1=>?_;refine lX (G:=λks us=>bL Ω.M c.heap Bi.enumerate.val/\wpAny Ω.M D.A (call Bi.enumerate.val r (([]:LN).map (aA Ω)|>.zip us)) _ D.E c) (ks:=[]) rfl (by exact R2) l1 λR3=>as1_e (P:=λr=>bL Ω.M c.heap Bi.enumerate.val/\wpAny Ω.M D.A (call Bi.enumerate.val r []) _ D.E c) rfl R3 λv R1=>⟨yJ _ _ _,?_⟩;obtain⟨l,r,n,q,g,hv,hl,hn,hi⟩:=R1;rw[q];show wpAny _ _ (call (.type "enumerate") [.ref l] []) _ _ _;have w:l<c.heap.objs.size:=Qw g;refine call_enumerate_list (items:=r.toArray) ⟨_,g,rfl,_,rfl⟩ λh' Y a2 a3 d=>?_;have n1:c.heap.get? c.heap.objs.size=none:=dZ c.heap;have n2:c.heap.get? (c.heap.objs.size+1)=none:=iA (o:=(none:Option Obj)) (λU e=>absurd (Qw e) (Nat.not_lt.mpr (Qt _))) rfl;have fresh:∀a∈[c.heap.objs.size+1,c.heap.objs.size,l],a∉j.flatten/\s.heap.get? a=none:=λa y=>(Qe y).elim (λq=>q▸⟨B.H.notIn n2,G2.none n2⟩) (kR (p:=λa=>a∉j.flatten/\s.heap.get? a=none) ⟨B.H.notIn n1,G2.none n1⟩ ⟨hi,hn⟩ a);exact wpAny_pyIter_enum Y (hQ j {c with heap:=h'} (c.heap.objs.size+1) [c.heap.objs.size+1,c.heap.objs.size,l] (B.H.heap (t:=c.toks) d B.H.tk) (mO G2 (t:=c.toks) d)
  ⟨_,_,r,0,T,rfl,rfl,Nat.succ_ne_self _,Nat.ne_of_lt (Nat.lt_succ_of_lt w),Nat.ne_of_lt w,⟨_,Y⟩,a2,⟨n,d _ _ g⟩,VRs.mono (Ext.refl _) (λb o e U=>d b o e) _ _ hv⟩ (λa y=>(fresh a y).1) (λa y=>(fresh a y).2) λs' k Q E q=>wpAny_pyIter_enum (k _ (.head _) _ Y) q)
end
noncomputable def nmL:List Str:=[Str.ofString "append",Str.ofString "pop",Str.ofString "index",Str.ofString "lower",Str.ofString "upper",Str.ofString "split",Str.ofString "join",Str.ofString "replace",Str.ofString "search",Str.ofString "get",Str.ofString "items",Str.ofString "__setitem__",Str.ofString "__delitem__",Str.ofString "__init__",Str.ofString ".0",Str.ofString "_params",Str.ofString "addr",Str.ofString "pos",Str.ofString "escape",Str.ofString "ch",Str.ofString "enumerate",Str.ofString "value",Str.ofString "len",Str.ofString "quote",Str.ofString "tspecials",Str.ofString "param",Str.ofString "headers",Str.ofString "type",Str.ofString "list",Str.ofString "self",Str.ofString "_headers",Str.ofString "k",Str.ofString "v",Str.ofString "name",Str.ofString "_convert_string_type",Str.ofString "TypeError",Str.ofString "str",Str.ofString "regex",Str.ofString "_name_disallowed_re",Str.ofString "_value_disallowed_re",Str.ofString "ValueError",Str.ofString "AssertionError",Str.ofString "repr",Str.ofString "val",Str.ofString "kv",Str.ofString "default",Str.ofString "parts",Str.ofString "_value",Str.ofString "_formatparam",Str.ofString "_name",Str.ofString "names",Str.ofString "i",Str.ofString "range",Str.ofString "flag",Str.ofString "flags",Str.ofString "COMPILER_FLAG_NAMES",Str.ofString "hex",Str.ofString "start",Str.ofString "open_pos",Str.ofString "result",Str.ofString "_iter_escaped_chars",Str.ofString "_strip_quoted_realnames",Str.ofString "opens",Str.ofString "raw",Str.ofString "ws",Str.ofString "S",Str.ofString "T",Str.ofString "Whitespace",Str.ofString "count",Str.ofString "b",Str.ofString "n",Str.ofString "nt",Str.ofString "norm",Str.ofString "tuple",Str.ofString "is_simple",Str.ofString "trailing",Str.ofString "max",Str.ofString "il",Str.ofString "tabsize",Str.ofString "other",Str.ofString "longest_run_of_spaces",Str.ofString "ts",Str.ofString "indent_level",Str.ofString "digits",Str.ofString "base",Str.ofString "bases",Str.ofString "number",Str.ofString "digit",Str.ofString "divmod",Str.ofString "ups",Str.ofString "deeps",Str.ofString "leads",Str.ofString "order",Str.ofString "dress",Str.ofString "left",Str.ofString "cell",Str.ofString "cells",Str.ofString "deep",Str.ofString "run",Str.ofString "pick",Str.ofString "worn",Str.ofString "_law_digits",Str.ofString "up",Str.ofString "column",Str.ofString "sign",Str.ofString "lead",Str.ofString "size",Str.ofString "ahead",Str.ofString "behind",Str.ofString "turn",Str.ofString "at",Str.ofString "_law_ring",Str.ofString "j",Str.ofString "mine",Str.ofString "its",Str.ofString "held",Str.ofString "one",Str.ofString "row",Str.ofString "_check_parenthesis",Str.ofString "sum",Str.ofString "script",Str.ofString "_law_outline",Str.ofString "wide",Str.ofString "low",Str.ofString "over",Str.ofString "tabs",Str.ofString "more",Str.ofString "page",Str.ofString "Headers",Str.ofString "add_header",Str.ofString "pile",Str.ofString "told",Str.ofString "k_k_",Str.ofString "m",Str.ofString "values",Str.ofString "line",Str.ofString "less",Str.ofString "alone",Str.ofString "columns",Str.ofString "_law_column",Str.ofString "given",Str.ofString "_law_exchange",Str.ofString "whole",Str.ofString "due",Str.ofString "later",Str.ofString "got",Str.ofString "ring",Str.ofString "words",Str.ofString "pretty_flags",Str.ofString "ties",Str.ofString "sorted",Str.ofString "field",Str.ofString "wanted",Str.ofString "sheared",Str.ofString "owners",Str.ofString "place",Str.ofString "shuts",Str.ofString "tie",Str.ofString "bare",Str.ofString "hidden",Str.ofString "k_",Str.ofString "seen",Str.ofString "last",Str.ofString "units",Str.ofString "signs",Str.ofString "end",Str.ofString "unit",Str.ofString "mates",Str.ofString "_law_mate",Str.ofString "below",Str.ofString "_law_climb",Str.ofString "min",Str.ofString "part"]
def nm(i:Nat):Str:=nmL.getD i (Str.ofString "__debug__")
noncomputable def iW:List (Nat×Nat):=[(25,0),(21,0),(23,0),(22,4),(24,4)]
noncomputable def mD:List FS:=[
 .ife (.and [.cmp .IsNot (.var 21 164748) (.none 166424) 164760,.cmp .Gt (.call (.glo 22 167584) [.var 21 168102] [] [] [] 167591) (.int 0 169259) 167595] 164779) [
  .ife (.or [.var 23 181648,.mcall (.glo 24 182813) 8 [.var 21 185002] [] [] [] 182820 182827] 181675) [
   .asg [.name 21 198161] (.repl (.repl (.var 21 199193) "\\" [92] 200998 "\\\\" [92,92] 201774 199201 199215) "\"" [34] 203835 "\\\"" [92,34] 204482 199223 199235) 198211,
   .ret (.jst [.fmt (.var 25 217125) 115 217125,.str "=\"" [61,34] 215452,.fmt (.var 21 218028) 115 218028,.str "\"" [34] 215452] 215469) 214573] [
   .ret (.jst [.fmt (.var 25 249635) 115 249635,.str "=" [61] 248218,.fmt (.var 21 250538) 115 250538] 248235) 247339] 11008015043] [
  .ret (.var 25 280468) 279572] 10004017020]
noncomputable def eO:List (Nat×Nat):=[(29,0),(26,0),(31,0),(32,0),(27,4),(28,4),(35,4),(9999,4)]
noncomputable def hG:List FS:=[
 .asg [.name 26 345103] (.ife (.cmp .IsNot (.var 26 347812) (.none 349744) 347824) (.var 26 346393) (.list [] 351032) 346424) 345144,
 .ife (.cmp .IsNot (.call (.glo 27 361871) [.var 26 362519] [] [] [] 361880) (.glo 28 364580) 361892) [
  .dead ((PySem.Stmt.Raise (exc:=(some (PySem.Expr.Call (func:=(PySem.Expr.Name "TypeError" ⟨23,18,23,27⟩)) (args:=[(PySem.Expr.Constant (PySem.Const.str "Headers must be a list of name/value tuples") 0 ⟨23,28,23,73⟩)]) (keywords:=[]) (pos:=⟨23,18,23,74⟩)))) (cause:=none) (pos:=⟨23,12,23,74⟩)))] [] 22008023074,
 .asg [.att (.var 29 394252) 30 394261] (.var 26 396319) 394271,
 .ife (.tru 411028) [
  .for_ (.tup [31,32] [428049,428436] 428052) (.var 26 429087) [
   .ex (.mcall (.var 29 444436) 34 [.var 31 447787] [33] [.tru 448822] [448182] 444457 444471) 444471,
   .ex (.mcall (.var 29 460820) 34 [.var 32 464171] [33] [.fls 465207] [464567] 460841 460856) 460856] [] 26012028056] [] 25008028056]
noncomputable def cI:List (Nat×Nat):=[(29,0),(21,0),(33,0),(37,0),(27,4),(36,4),(38,4),(39,4),(40,4),(41,4),(42,4)]
noncomputable def bA:List FS:=[
 .ife (.cmp .Is (.call (.glo 27 509327) [.var 21 509973] [] [] [] 509334) (.glo 36 511261) 509341) [
  .asg [.name 37 525841] (.ife (.var 33 529839) (.glo 38 526887) (.glo 39 531145) 526921) 525897,
  .ife (.mcall (.var 37 542612) 8 [.var 21 544289] [] [] [] 542619 542626) [
   .dead ((PySem.Stmt.Raise (exc:=(some (PySem.Expr.Call (func:=(PySem.Expr.Name "ValueError" ⟨34,22,34,32⟩)) (args:=[(PySem.Expr.Constant (PySem.Const.str "Control characters not allowed in headers") 0 ⟨34,33,34,76⟩)]) (keywords:=[]) (pos:=⟨34,22,34,77⟩)))) (cause:=none) (pos:=⟨34,16,34,77⟩)))] [] 33012034077,
  .ret (.var 21 575896) 575000] [] 31008035024,
 .dead ((PySem.Stmt.Raise (exc:=(some (PySem.Expr.Call (func:=(PySem.Expr.Name "AssertionError" ⟨36,14,36,28⟩)) (args:=[(PySem.Expr.Call (func:=(PySem.Expr.Attribute (value:=(PySem.Expr.Constant (PySem.Const.str "Header names/values must be of type str (got {0})") 0 ⟨36,29,36,80⟩)) (attr:="format") (pos:=⟨36,29,36,87⟩))) (args:=[(PySem.Expr.Call (func:=(PySem.Expr.Name "repr" ⟨36,88,36,92⟩)) (args:=[(PySem.Expr.Name "value" ⟨36,93,36,98⟩)]) (keywords:=[]) (pos:=⟨36,88,36,99⟩))]) (keywords:=[]) (pos:=⟨36,29,36,100⟩))]) (keywords:=[]) (pos:=⟨36,14,36,101⟩)))) (cause:=none) (pos:=⟨36,8,36,101⟩)))]
noncomputable def fL:List (Nat×Nat):=[(29,0),(33,0),(43,0)]
noncomputable def eM:List FS:=[
 .del (.var 29 689680) (.var 33 690325) 689686 689174,
 .ex (.mcall (.att (.var 29 705548) 30 705557) 0 [.tup [.mcall (.var 29 708386) 34 [.var 33 711740] [33] [.tru 713159] [712519] 708407 708424,.mcall (.var 29 714062) 34 [.var 43 717415] [33] [.fls 718707] [718067] 714083 714100] 708341] [] [] [] 705564 705654) 705654]
noncomputable def fM:List (Nat×Nat):=[(29,0),(33,1)]
noncomputable def eP:List FS:=[
 .asg [.name 33 754700] (.mcall (.var 29 755603) 34 [.mcall (.var 33 758957) 3 [] [] [] [] 758963 758965] [33] [.tru 761408] [760768] 755624 755649) 754753,
 .asg [.all (.att (.var 29 771084) 30 771093) 772887 771096] (.comp (.var 44 773662) [44] [0] 774565 (.att (.var 29 775341) 30 775350) [.cmp .NotEq (.mcall (.sub (.var 44 777532) (.int 0 777918) 777535) 3 [] [] [] [] 777541 777543) (.var 33 779727) 777551] [(14,0),(44,0),(33,2)] 773584) 771152]
noncomputable def fD:List (Nat×Nat):=[(29,0),(33,0),(45,0),(31,0),(32,0)]
noncomputable def bT:List FS:=[
 .asg [.name 33 967692] (.mcall (.var 29 968595) 34 [.mcall (.var 33 971949) 3 [] [] [] [] 971955 971957] [33] [.tru 974400] [973760] 968616 968641) 967745,
 .for_ (.tup [31,32] [984589,984976] 984592) (.att (.var 29 985624) 30 985633) [
  .ife (.cmp .Eq (.mcall (.var 31 1001360) 3 [] [] [] [] 1001366 1001368) (.var 33 1003040) 1001376) [
   .ret (.var 32 1018776) 1017880] [] 61012062024] [] 60008062024,
 .ret (.var 45 1034134) 1033238]
noncomputable def fU:List (Nat×Nat):=[(29,0)]
noncomputable def iX:List FS:=[
 .ret (.comp (.var 32 1132561) [31,32] [1133335,1133722] 1133338 (.att (.var 29 1134370) 30 1134379) [] [(14,0),(31,0),(32,0)] 1132460) 1131564]
noncomputable def gZ:List (Nat×Nat):=[(29,0)]
noncomputable def jW:List FS:=[
 .ret (.sli (.att (.var 29 1181587) 30 1181596) none none none 1183390 1181599) 1180703]
noncomputable def aY:List (Nat×Nat):=[(29,0),(49,0),(47,0),(15,0),(46,0),(31,0),(32,0),(48,4)]
noncomputable def kX:List FS:=[
 .asg [.name 46 1426445] (.list [] 1427474) 1426450,
 .ife (.cmp .IsNot (.var 47 1443217) (.none 1445021) 1443229) [
  .asg [.name 47 1459730] (.mcall (.var 29 1460889) 34 [.var 47 1464245] [33] [.fls 1465921] [1465281] 1460910 1460930) 1459778,
  .ex (.mcall (.var 46 1476113) 0 [.var 47 1477791] [] [] [] 1476120 1476128) 1476128] [] 88008090032,
 .for_ (.tup [31,32] [1492493,1492880] 1492496) (.mcall (.var 15 1493531) 10 [] [] [] [] 1493537 1493539) [
  .asg [.name 31 1508877] (.mcall (.var 29 1509396) 34 [.var 31 1512747] [33] [.tru 1513782] [1513142] 1509417 1509431) 1508919,
  .ife (.cmp .Is (.var 32 1525648) (.none 1526296) 1525656) [
   .ex (.mcall (.var 46 1542165) 0 [.repl (.var 31 1543838) "_" [95] 1545130 "-" [45] 1545775 1543846 1543856] [] [] [] 1542172 1542193) 1542193] [
   .asg [.name 32 1574929] (.mcall (.var 29 1575448) 34 [.var 32 1578799] [33] [.fls 1579835] [1579195] 1575469 1575484) 1574972,
   .ex (.mcall (.var 46 1591317) 0 [.call (.glo 48 1593001) [.repl (.var 31 1594667) "_" [95] 1595959 "-" [45] 1596604 1594675 1594685,.var 32 1597376] [] [] [] 1593025] [] [] [] 1591324 1591362) 1591362] 93012097066] [] 91008097066,
 .ex (.mcall (.att (.var 29 1606668) 30 1606677) 0 [.tup [.mcall (.var 29 1609506) 34 [.var 49 1612861] [33] [.tru 1614408] [1613768] 1609527 1609545,.mcall (.str "; " [59,32] 1615311) 6 [.var 46 1616602] [] [] [] 1615316 1615323] 1609436] [] [] [] 1606684 1606749) 1606749]
noncomputable def iD:List (Nat×Nat):=[(54,0),(50,0),(51,0),(53,0),(52,4),(55,4),(56,4)]
noncomputable def kU:List FS:=[
 .asg [.name 50 1671689] (.list [] 1672718) 1671694,
 .for_ (.name 51 1688585) (.call (.glo 52 1689234) [.int 32 1690005] [] [] [] 1689238) [
  .asg [.name 53 1704972] (.bin .LShift (.int 1 1705872) (.var 51 1706517) 1705877) 1704981,
  .ife (.bin .BitAnd (.var 54 1721744) (.var 53 1722775) 1721751) [
   .ex (.mcall (.var 50 1738257) 0 [.mcall (.glo 55 1739948) 9 [.var 53 1743029,.call (.glo 56 1743802) [.var 53 1744319] [] [] [] 1743808] [] [] [] 1739952 1739969] [] [] [] 1738264 1738306) 1738306,
   .aug 54 1754641 .BitXor (.var 53 1755801) 1754649,
   .ife (.not (.var 54 1771928) 1771416) [
    .brk 1787925] [] 108012109021] [] 105008109021] [
  .ex (.mcall (.var 50 1819661) 0 [.call (.glo 56 1821336) [.var 54 1821854] [] [] [] 1821343] [] [] [] 1819668 1819680) 1819680] 103004111032,
 .ret (.mcall (.str ", " [44,32] 1836431) 6 [.var 50 1837722] [] [] [] 1836436 1836443) 1835547]
noncomputable def dD:List (Nat×Nat):=[(16,0),(57,0),(58,0),(59,0),(17,0),(19,0),(60,4),(22,4)]
noncomputable def bC:List FS:=[
 .ife (.cmp .NotIn (.str "\"" [34] 2098058) (.var 16 2099478) 2098070) [
  .ret (.var 16 2115475) 2114579] [] 128004129019,
 .asg [.name 57 2130441] (.int 0 2131469) 2130445,
 .asg [.name 58 2146828] (.none 2148243) 2146835,
 .asg [.name 59 2163210] (.list [] 2164367) 2163215,
 .for_ (.tup [17,19] [2180107,2180751] 2180111) (.call (.glo 60 2181542) [.var 16 2184107] [] [] [] 2181548) [
  .ife (.cmp .Eq (.var 19 2196877) (.str "\"" [34] 2197652) 2196884) [
   .ife (.cmp .Is (.var 58 2213783) (.none 2215327) 2213791) [
    .asg [.name 58 2230296] (.var 17 2231710) 2230302] [
    .ife (.cmp .NotEq (.var 57 2263448) (.var 58 2264612) 2263460) [
     .ex (.mcall (.var 59 2279962) 0 [.sli (.var 16 2281766) (some (.var 57 2282412)) (some (.var 58 2283189)) none 2282421 2281782] [] [] [] 2279969 2279991) 2279991] [] 138016139055,
    .asg [.name 57 2295829] (.bin .Add (.var 17 2296859) (.int 1 2297631) 2296863) 2295839,
    .asg [.name 58 2312216] (.none 2313631) 2312223] 135012141031] [] 134008141031] [] 133004141031,
 .ife (.cmp .Lt (.var 57 2327436) (.call (.glo 22 2328466) [.var 16 2328983] [] [] [] 2328472) 2327448) [
  .ex (.mcall (.var 59 2343950) 0 [.sli (.var 16 2345754) (some (.var 57 2346400)) none none 2346401 2345762] [] [] [] 2343957 2343971) 2343971] [] 142004143035,
 .ret (.mcall (.str "" [] 2360717) 6 [.var 59 2361753] [] [] [] 2360722 2360730) 2359834]
noncomputable def eK:List (Nat×Nat):=[(16,0),(62,0),(17,0),(19,0),(61,4),(60,4)]
noncomputable def dS:List FS:=[
 .asg [.name 16 2392584] (.call (.glo 61 2393506) [.var 16 2396583] [] [] [] 2393512) 2392616,
 .asg [.name 62 2408969] (.int 0 2409997) 2408973,
 .for_ (.tup [17,19] [2425867,2426511] 2425871) (.call (.glo 60 2427302) [.var 16 2429867] [] [] [] 2427308) [
  .ife (.cmp .Eq (.var 19 2442637) (.str "(" [40] 2443412) 2442644) [
   .aug 62 2459153 .Add (.int 1 2460310) 2459158] [
   .ife (.cmp .Eq (.var 19 2475663) (.str ")" [41] 2476438) 2475670) [
    .aug 62 2491921 .Sub (.int 1 2493078) 2491926,
    .ife (.cmp .Lt (.var 62 2508692) (.int 0 2509720) 2508696) [
     .ret (.fls 2526108) 2525212] [] 153012154028] [] 151008154028] 149008154028] [] 148004154028,
 .ret (.cmp .Eq (.var 62 2540944) (.int 0 2542101) 2540949) 2540053]
noncomputable def fK:List (Nat×Nat):=[(29,0),(64,0),(65,0),(66,0),(68,0),(69,0),(70,0),(71,0),(19,0),(67,4),(22,4),(73,4)]
noncomputable def iF:List FS:=[
 .asg [.att (.var 29 2638860) 63 2638864] (.var 64 2640277) 2638869,
 .asg [.tup [65,66] [2655241,2655628] 2655244] (.tup [.att (.glo 67 2656282) 65 2656284,.att (.glo 67 2658088) 66 2658090] 2656171) 2655275,
 .asg [.name 68 2671629] (.list [] 2672658) 2671634,
 .asg [.name 69 2688009,.name 70 2688525,.name 71 2689042] (.int 0 2689686) 2688022,
 .for_ (.name 19 2704910) (.att (.var 29 2705686) 63 2705690) [
  .ife (.cmp .Eq (.var 19 2721681) (.var 65 2722454) 2721686) [
   .asg [.name 70 2738193] (.bin .Add (.var 70 2738709) (.int 1 2739225) 2738713) 2738201,
   .asg [.name 69 2754577] (.bin .Add (.var 69 2755093) (.int 1 2755609) 2755097) 2754585] [
   .ife (.cmp .Eq (.var 19 2771091) (.var 66 2771864) 2771096) [
    .asg [.name 70 2787345] (.bin .Add (.var 70 2787861) (.int 1 2788377) 2787865) 2787353,
    .asg [.name 71 2803730] (.bin .Add (.var 71 2804375) (.int 1 2805019) 2804379) 2803739,
    .ife (.cmp .GtE (.var 69 2820500) (.call (.glo 22 2821147) [.var 68 2821665] [] [] [] 2821154) 2820514) [
     .asg [.name 68 2837017] (.bin .Add (.var 68 2838049) (.bin .Mult (.list [.int 0 2839206] 2839079) (.bin .Add (.bin .Sub (.var 69 2839980) (.call (.glo 22 2840498) [.var 68 2841016] [] [] [] 2840505) 2839993) (.int 1 2842173) 2839997) 2839102) 2838078) 2837054] [] 172016173062,
    .asg [.sub (.var 68 2852885) (.var 69 2853655) 2852888] (.bin .Add (.sub (.var 68 2854304) (.var 69 2855074) 2854307) (.int 1 2855719) 2854311) 2852903,
    .asg [.name 69 2869265] (.int 0 2869781) 2869269] [
    .brk 2902037] 169012177021] 166012177021] [] 165008177021,
 .asg [.att (.var 29 2917388) 70 2917390] (.var 70 2918546) 2917394,
 .asg [.att (.var 29 2933772) 71 2933775] (.var 71 2935060) 2933780,
 .asg [.att (.var 29 2950156) 72 2950161] (.tup [.call (.glo 73 2951834) [.var 68 2952608] [] [] [] 2951841,.var 69 2953636] 2951717) 2950181,
 .asg [.att (.var 29 2966540) 74 2966550] (.cmp .LtE (.call (.glo 22 2968732) [.var 68 2969250] [] [] [] 2968739) (.int 1 2970536) 2968744) 2966568]
noncomputable def bM:List (Nat×Nat):=[(29,0),(68,0),(75,0),(76,4),(22,4)]
noncomputable def bV:List FS:=[
 .asg [.tup [68,75] [3015693,3016599] 3015703] (.att (.var 29 3018014) 72 3018019) 3015715,
 .ret (.call (.glo 76 3032978) [.bin .Sub (.call (.glo 22 3033494) [.var 68 3034012] [] [] [] 3033501) (.int 1 3035169) 3033505,.var 75 3035563] [] [] [] 3033004) 3032108]
noncomputable def cV:List (Nat×Nat):=[(29,0),(78,0),(68,0),(75,0),(77,0),(51,0),(52,4),(22,4)]
noncomputable def dR:List FS:=[
 .asg [.tup [68,75] [3081229,3082135] 3081239] (.att (.var 29 3083550) 72 3083555) 3081251,
 .asg [.name 77 3097610] (.int 0 3098254) 3097614,
 .for_ (.name 51 3114509) (.call (.glo 52 3115158) [.var 78 3115934,.call (.glo 22 3117091) [.var 68 3117609] [] [] [] 3117098] [] [] [] 3115179) [
  .asg [.name 77 3130894] (.bin .Add (.var 77 3131539) (.bin .Mult (.bin .FloorDiv (.var 51 3132183) (.var 78 3132834) 3132194) (.sub (.var 68 3134122) (.var 51 3134892) 3134125) 3132205) 3131565) 3130925] [] 190008191045,
 .ret (.bin .Add (.var 75 3147671) (.bin .Mult (.var 78 3149089) (.bin .Add (.var 77 3150503) (.att (.var 29 3151150) 71 3151153) 3150513) 3149106) 3147698) 3146802]
noncomputable def fJ:List (Nat×Nat):=[(29,0),(79,0),(70,0),(81,0),(76,4),(52,4)]
noncomputable def eL:List FS:=[
 .ife (.cmp .GtE (.att (.var 29 3294607) 70 3294609) (.att (.var 79 3295898) 70 3295900) 3294620) [
  .ret (.fls 3312024) 3311128] [] 201008202024,
 .ife (.and [.att (.var 29 3327375) 74 3327385,.att (.var 79 3329827) 74 3329837] 3327405) [
  .ret (.cmp .LtE (.att (.var 29 3344791) 71 3344794) (.att (.var 79 3346211) 71 3346214) 3344806) 3343910] [] 203008204038,
 .asg [.name 70 3359753] (.bin .Add (.call (.glo 76 3360271) [.mcall (.var 29 3360788) 80 [] [] [] [] 3360810 3360812,.mcall (.var 79 3364659) 80 [] [] [] [] 3364681 3364683] [] [] [] 3360332) (.int 1 3368912) 3360336) 3359824,
 .for_ (.name 81 3376654) (.call (.glo 52 3377431) [.int 2 3378201,.bin .Add (.var 70 3378588) (.int 1 3379104) 3378592] [] [] [] 3377441) [
  .ife (.cmp .GtE (.mcall (.var 29 3393427) 82 [.var 81 3395747] [] [] [] 3393440 3393444) (.mcall (.var 79 3396653) 82 [.var 81 3399101] [] [] [] 3396666 3396670) 3393470) [
   .ret (.fls 3410844) 3409948] [] 207012208028] [] 206008208028,
 .ret (.tru 3426195) 3425299]
noncomputable def jU:List (Nat×Nat):=[(86,0),(85,0),(83,0),(84,0),(87,0),(88,4)]
noncomputable def nR:List FS:=[
 .asg [.name 83 3523082] (.list [] 3524239) 3523087,
 .for_ (.name 84 3539980) (.var 85 3541013) [
  .asg [.tup [86,87] [3556366,3557397] 3556373] (.call (.glo 88 3558430) [.var 86 3559333,.var 84 3560363] [] [] [] 3558444) 3556396,
  .ex (.mcall (.var 83 3572750) 0 [.var 87 3574555] [] [] [] 3572757 3572764) 3572764] [] 216004218028,
 .ret (.var 83 3589521) 3588625]
noncomputable def iV:List (Nat×Nat):=[(96,0),(89,0),(90,1),(91,0),(92,0),(93,0),(94,0),(95,0),(97,1),(98,0),(99,0),(100,0),(102,0),(101,4),(22,4),(76,4),(52,4)]
noncomputable def bD:List FS:=[
 .asg [.tup [89,90,91,92,93,94] [3621383,3622030,3622933,3623836,3624739,3625641] 3621417] (.tup [.list [.neg 1 3626928 3626800] 3626673,.list [.int 0 3627573] 3627446,.list [.str "" [] 3628219] 3628092,.list [] 3628864,.list [] 3629380,.list [.int 1 3630024,.int 2 3630411,.int 3 3630798,.int 4 3631185] 3629906] 3626579) 3621459,
 .for_ (.name 95 3638284) (.var 96 3639317) [
  .asg [.tup [97,98,99,100] [3654668,3655441,3656087,3656861] 3654685] (.call (.glo 101 3657771) [.var 95 3659312,.list [.bin .Add (.sub (.var 90 3660216) (.neg 1 3661115 3660987) 3660220) (.int 1 3661760) 3660224,.int 3 3662147,.call (.glo 22 3662536) [.var 94 3663053] [] [] [] 3662542,.int 30 3663954] 3660115] [] [] [] 3657812) 3654740,
  .asg [.name 102 3671050] (.call (.glo 76 3671696) [.comp (.var 31 3672339) [31] [0] 3673113 (.call (.glo 52 3673762) [.call (.glo 22 3674534) [.var 89 3675050] [] [] [] 3674539] [] [] [] 3673772) [.cmp .Eq (.sub (.var 90 3676213) (.var 31 3676983) 3676216) (.var 97 3677760) 3676224] [(14,0),(31,0),(97,2),(90,2)] 3672257] [] [] [] 3671746) 3671106,
  .ex (.mcall (.var 89 3687435) 0 [.var 102 3688853] [] [] [] 3687442 3687446) 3687446,
  .ex (.mcall (.var 90 3703821) 0 [.bin .Add (.var 97 3705497) (.int 1 3706397) 3705501] [] [] [] 3703828 3703838) 3703838,
  .ex (.mcall (.var 91 3720205) 0 [.bin .Add (.bin .Add (.sub (.var 91 3721882) (.var 102 3722653) 3721886) (.bin .Mult (.str " " [32] 3723428) (.var 98 3724202) 3723434) 3721898) (.str "\t" [9] 3724977) 3721905] [] [] [] 3720212 3720242) 3720242,
  .ex (.mcall (.var 92 3736589) 0 [.mcall (.var 94 3738265) 1 [.var 99 3739426] [] [] [] 3738269 3738275] [] [] [] 3736596 3736612) 3736612,
  .ex (.mcall (.var 93 3752973) 0 [.var 100 3754649] [] [] [] 3752980 3752986) 3752986] [] 222004229026,
 .ret (.tup [.var 89 3769871,.var 91 3770518,.var 92 3771421,.var 93 3772324] 3769765) 3768869]
noncomputable def jV:List (Nat×Nat):=[(105,0),(106,0),(103,0),(104,0)]
noncomputable def cH:List FS:=[
 .asg [.name 103 3801610] (.int 0 3802766) 3801614,
 .for_ (.name 104 3818508) (.var 105 3819540) [
  .asg [.name 103 3834894] (.bin .Add (.var 103 3836055) (.int 1 3837211) 3836059) 3834907,
  .whl (.and [.cmp .Eq (.var 104 3852050) (.str "\t" [9] 3853082) 3852058,.cmp .NotEq (.bin .Mod (.var 103 3854245) (.var 106 3855404) 3854252) (.int 0 3856433) 3854257] 3852081) [
   .asg [.name 103 3868178] (.bin .Add (.var 103 3869339) (.int 1 3870495) 3869343) 3868191] 235008236031] [] 233004236031,
 .ret (.var 103 3884433) 3883537]
noncomputable def mB:List (Nat×Nat):=[(31,0),(110,0),(89,0),(92,0),(107,0),(108,0),(109,0),(52,4),(111,4)]
noncomputable def tL:List FS:=[
 .asg [.tup [107,108] [3916297,3917201] 3916305] (.tup [.list [] 3918487,.list [] 3919003] 3918364) 3916316,
 .for_ (.name 109 3933196) (.call (.glo 52 3934229) [.int 3 3934999,.neg 1 3935515 3935387,.neg 1 3936031 3935903] [] [] [] 3934240) [
  .ife (.and [.cmp .Eq (.sub (.var 89 3949966) (.sub (.var 92 3950484) (.var 109 3951257) 3950490) 3949979) (.var 31 3952544) 3949984,.cmp .Lt (.var 109 3953321) (.var 110 3954222) 3953326] 3949998) [
   .asg [.name 107 3966481] (.bin .Add (.var 107 3967513) (.call (.glo 111 3968549) [.sub (.var 92 3969835) (.var 109 3970608) 3969841,.var 109 3971511,.var 89 3972284,.var 92 3972931] [] [] [] 3968580) 3967556) 3966532] [
   .ife (.cmp .Eq (.sub (.var 89 3982992) (.sub (.var 92 3983510) (.var 109 3984283) 3983516) 3983005) (.var 31 3985570) 3983010) [
    .asg [.name 108 3999250] (.bin .Add (.var 108 4000411) (.call (.glo 111 4001575) [.sub (.var 92 4002861) (.var 109 4003634) 4002867,.var 109 4004537,.var 89 4005310,.var 92 4005957] [] [] [] 4001606) 4000454) 3999302] [] 243008244070] 241008244070] [] 240004244070,
 .ret (.bin .Add (.bin .Add (.var 107 4015504) (.list [.var 31 4016661] 4016534) 4015510) (.var 108 4017311) 4015519) 4014623]
noncomputable def kW:List (Nat×Nat):=[(112,0),(31,0),(89,0)]
noncomputable def qD:List FS:=[
 .whl (.cmp .Gt (.var 112 4048139) (.var 31 4048655) 4048143) [
  .asg [.name 112 4064265] (.sub (.var 89 4064783) (.var 112 4065297) 4064786) 4064274] 247004248018,
 .ret (.var 112 4081036) 4080140]
noncomputable def iE:List (Nat×Nat):=[(115,0),(116,0),(79,0),(113,0),(114,0)]
noncomputable def gX:List FS:=[
 .asg [.tup [113,114] [4112904,4113677] 4112909] (.tup [.mcall (.var 115 4114581) 9 [.var 116 4115741] [] [] [] 4114585 4114590,.mcall (.var 115 4116516) 9 [.var 79 4117678] [] [] [] 4116520 4116527] 4114480) 4112944,
 .asg [.sub (.var 115 4129288) (.var 116 4129932) 4129293] (.var 114 4130835) 4129299,
 .asg [.sub (.var 115 4145672) (.var 79 4146318) 4145679] (.var 113 4147478) 4145686]
noncomputable def mC:List (Nat×Nat):=[(117,0),(51,0),(112,0),(22,4),(118,4)]
noncomputable def tM:List FS:=[
 .asg [.name 112 4178437] (.bin .Add (.var 51 4178953) (.int 1 4179469) 4178957) 4178445,
 .whl (.and [.cmp .Lt (.var 112 4195595) (.call (.glo 22 4196113) [.var 117 4196629] [] [] [] 4196118) 4195606,.or [.cmp .Eq (.sub (.var 117 4197919) (.var 112 4198433) 4197922) (.str "(" [40] 4199209) 4197929,.cmp .IsNot (.call (.glo 118 4200127) [.sli (.var 117 4202563) (some (.var 51 4203077)) (some (.bin .Add (.var 112 4203335) (.int 1 4203851) 4203339)) none 4203083 4202572] [] [] [] 4200141) (.tru 4205273) 4200153] 4197977] 4195674) [
  .asg [.name 112 4211721] (.bin .Add (.var 112 4212237) (.int 1 4212753) 4212241) 4211729] 256004257017,
 .ret (.var 112 4228492) 4227596]
noncomputable def bK:List (Nat×Nat):=[(120,1),(31,1),(96,0),(89,1),(91,0),(92,0),(93,0),(122,0),(123,1),(124,0),(116,0),(98,0),(125,0),(126,0),(100,0),(127,0),(130,0),(131,0),(33,0),(135,0),(105,1),(137,1),(138,0),(79,0),(140,0),(115,0),(109,0),(50,0),(142,0),(143,0),(145,0),(146,1),(54,0),(147,0),(149,0),(151,1),(152,0),(153,0),(117,0),(154,0),(155,1),(156,0),(62,0),(158,0),(159,0),(161,0),(94,0),(162,0),(163,0),(164,0),(165,0),(166,0),(167,0),(51,0),(169,0),(172,0),(20,4),(121,4),(101,4),(128,4),(52,4),(67,4),(22,4),(141,4),(111,4),(148,4),(56,4),(61,4),(60,4),(168,4),(150,4),(118,4),(119,4),(171,4)]
noncomputable def nS:List FS:=[
 .asg [.name 96 4260361] (.comp (.bin .Add (.var 57 4261522) (.call (.glo 119 4262552) [.sli (.var 120 4263071) (some (.var 31 4263969)) none (some (.int 5 4264356)) 4263972 4263077] [] [] [] 4262566) 4261542) [31,57] [4265388,4265779] 4265395 (.call (.glo 20 4266944) [.list [.int 40 4268356,.int 283 4268873,.int 133 4269518,.int 186 4270163,.int 332242 4270811] 4268252] [] [] [] 4266973) [] [(14,0),(31,0),(57,0),(119,4),(120,2)] 4261470) 4260446,
 .asg [.tup [89,91,92,93] [4276743,4277390,4278293,4279196] 4276764] (.call (.glo 121 4280235) [.sli (.var 96 4281905) none (some (.int 4 4282804)) none 4282676 4281909] [] [] [] 4280246) 4276790,
 .asg [.tup [122,123,124,116,98,125,126,100] [4293128,4293901,4294547,4295320,4295965,4296611,4297385,4298159] 4293167] (.call (.glo 101 4299069) [.sub (.var 96 4300611) (.int 4 4301381) 4300614,.list [.int 3 4302026,.int 28 4302414,.int 3 4302929,.int 5 4303316,.int 3 4303703,.int 2 4304090,.int 4 4304477,.int 30 4304865] 4301922] [] [] [] 4299107) 4293219,
 .asg [.name 127 4309512] (.call (.glo 128 4310418) [] [] [] [] 4310420) 4309524,
 .for_ (.name 31 4326409) (.call (.glo 52 4327058) [.int 5 4327828] [] [] [] 4327061) [
  .ex (.mcall (.var 127 4342796) 129 [.sub (.str "abcde" [97,98,99,100,101] 4344863) (.var 31 4345889) 4344866,.bin .Add (.bin .Add (.sub (.var 91 4346409) (.var 31 4347179) 4346412) (.bin .Mult (.str " " [32] 4347826) (.var 122 4348601) 4347833) 4346425) (.str "x" [120] 4349503) 4346431] [] [] [] 4342807 4342848) 4342848] [] 264004265064,
 .asg [.tup [130,131] [4358664,4359438] 4358670] (.tup [.list [] 4360468,.list [] 4360984] 4360345) 4358681,
 .ife (.or [.cmp .IsNot (.mcall (.var 127 4375435) 129 [.str "A" [65] 4377498,.str "" [] 4378142] [132,133] [.str "x" [120] 4379304,.none 4380208] [4378664,4379952] 4375446 4375473) (.none 4381885) 4375485,.cmp .NotEq (.sli (.mcall (.var 127 4382917) 134 [] [] [] [] 4382924 4382926) (some (.int 5 4384720)) none none 4384721 4382930) (.list [.str "; k-k-=\"x\"; m" [59,32,107,45,107,45,61,34,120,34,59,32,109] 4385766] 4385639) 4382951] 4375527) [
  .ret (.fls 4392852) 4391956] [] 267004268020,
 .for_ (.name 33 4408332) (.str "ABCDE" [65,66,67,68,69] 4409367) [
  .asg [.name 135 4424716] (.call (.glo 67 4425625) [.mcall (.var 127 4427038) 9 [.var 33 4428199] [] [] [] 4427042 4427048] [] [] [] 4425641) 4424745,
  .whl (.and [.cmp .Gt (.call (.glo 22 4441873) [.var 130 4442390] [] [] [] 4441879) (.int 0 4443419) 4441883,.cmp .IsNot (.mcall (.sub (.sub (.var 130 4444196) (.neg 1 4444967 4444839) 4444200) (.int 1 4445354) 4444203) 136 [.var 135 4446389] [] [] [] 4444208 4444214) (.tru 4448066) 4444226] 4441922) [
   .ex (.mcall (.var 130 4458000) 1 [] [] [] [] 4458004 4458006) 4458006] 271008272022,
  .ex (.mcall (.var 131 4473868) 0 [.ife (.cmp .Gt (.call (.glo 22 4477350) [.var 130 4477867] [] [] [] 4477356) (.int 0 4478896) 4477360) (.sub (.sub (.var 130 4475416) (.neg 1 4476187 4476059) 4475420) (.int 0 4476574) 4475423) (.neg 1 4479928 4479800) 4475448] [] [] [] 4473875 4473913) 4473913,
  .ex (.mcall (.var 130 4490252) 0 [.tup [.bin .Sub (.call (.glo 22 4491928) [.var 131 4492445] [] [] [] 4491934) (.int 1 4493474) 4491938,.var 135 4493864] 4491817] [] [] [] 4490259 4490282) 4490282] [] 269004274042,
 .ife (.cmp .NotEq (.var 131 4506507) (.var 89 4507538) 4506514) [
  .ret (.fls 4523924) 4523028] [] 275004276020,
 .asg [.tup [105,137] [4538888,4539663] 4538895] (.tup [.bin .Add (.sub (.var 91 4540824) (.var 116 4541596) 4540829) (.bin .Mult (.str " " [32] 4542499) (.var 122 4543274) 4542506) 4540842,.bin .Add (.bin .Mult (.bin .Add (.bin .Mult (.str " " [32] 4544176) (.bin .Mult (.int 2 4545077) (.var 98 4545595) 4545083) 4544188) (.str "\t" [9] 4546499) 4544195) (.var 125 4547531) 4544075) (.bin .Mult (.str " " [32] 4548433) (.var 126 4549208) 4548440) 4544088] 4540761) 4538969,
 .asg [.name 138 4555275] (.comp (.tup [.call (.glo 139 4556827) [.var 105 4558368,.var 106 4559142] [] [] [] 4556839,.call (.glo 139 4560052) [.var 137 4561594,.var 106 4562496] [] [] [] 4560065] 4556738) [106] [0] 4563915 (.call (.glo 52 4564948) [.int 1 4565718,.int 6 4566105] [] [] [] 4564954) [] [(14,0),(106,0),(139,4),(137,2),(105,2)] 4556635) 4555355,
 .asg [.tup [135,79] [4571656,4572431] 4571663] (.tup [.call (.glo 67 4573597) [.bin .Add (.bin .Add (.var 105 4575010) (.str "x" [120] 4575912) 4575016) (.bin .Mult (.str "\t" [9] 4576687) (.int 9 4577587) 4576691) 4575027] [] [] [] 4573620,.call (.glo 67 4578112) [.bin .Add (.var 137 4579526) (.str "x" [120] 4580556) 4579532] [] [] [] 4578125] 4573518) 4571726,
 .ife (.cmp .IsNot (.mcall (.var 135 4588427) 136 [.var 79 4589718] [] [] [] 4588432 4588439) (.cmp .NotIn (.fls 4591653) (.comp (.cmp .Lt (.var 113 4593458) (.var 114 4594360) 4593464) [113,114] [4595393,4596166] 4595398 (.var 138 4597073) [] [(14,0),(113,0),(114,0)] 4593362) 4591698) 4588499) [
  .ret (.fls 4605844) 4604948] [] 280004281020,
 .ife (.cmp .IsNot (.mcall (.var 79 4621196) 136 [.var 135 4622614] [] [] [] 4621201 4621207) (.cmp .NotIn (.fls 4624421) (.comp (.cmp .Gt (.var 113 4626226) (.var 114 4627128) 4626232) [113,114] [4628161,4628934] 4628166 (.var 138 4629841) [] [(14,0),(113,0),(114,0)] 4626130) 4624466) 4621267) [
  .ret (.fls 4638612) 4637716] [] 282004283020,
 .asg [.name 140 4653577] (.bin .Add (.bin .Add (.list [.tup [.str "abcde" [97,98,99,100,101] 4654869,.str "" [] 4656025] 4654746] 4654619) (.comp (.tup [.var 33 4657188,.var 33 4657962] 4657067) [33] [0] 4659252 (.str "abcde" [97,98,99,100,101] 4660287) [] [(14,0),(33,0)] 4656960) 4654656) (.list [.tup [.str "A" [65] 4661960,.str "z" [122] 4662605] 4661838] 4661711) 4654671) 4653647,
 .asg [.name 115 4669960] (.call (.glo 128 4670866) [.var 140 4671896] [] [] [] 4670873) 4669977,
 .for_ (.name 109 4686860) (.call (.glo 52 4687893) [.int 4 4688663] [] [] [] 4687896) [
  .asg [.name 50 4703245] (.sub (.tup [.str "abcde" [97,98,99,100,101] 4704408,.str "ABCDE" [65,66,67,68,69] 4705569] 4704290) (.bin .Mod (.var 109 4706727) (.int 2 4707627) 4706731) 4704300) 4703276,
  .ex (.call (.glo 141 4719637) [.var 115 4721434,.sub (.var 50 4722209) (.sub (.var 92 4722983) (.var 109 4723756) 4722989) 4722222,.sub (.var 50 4724789) (.sub (.var 131 4725562) (.sub (.var 92 4726208) (.var 109 4726981) 4726214) 4725575) 4724808] [] [] [] 4719689) 4719689] [] 286004288073,
 .asg [.tup [142,143] [4735497,4736398] 4735502] (.tup [.call (.glo 111 4737307) [.int 0 4738589,.neg 1 4739105 4738977,.var 89 4739494,.var 92 4740141] [] [] [] 4737326,.list [.tup [.str "abcde" [97,98,99,100,101] 4741433,.str "" [] 4742589] 4741310] 4741183] 4737216) 4735552,
 .for_ (.name 109 4752396) (.call (.glo 52 4753429) [.int 4 4754199] [] [] [] 4753432) [
  .for_ (.name 31 4769293) (.tup [.sub (.var 92 4770071) (.var 109 4770844) 4770077,.sub (.var 89 4771746) (.sub (.var 92 4772264) (.var 109 4773037) 4772270) 4771759] 4769968) [
   .ife (.cmp .Eq (.comp (.var 144 4786197) [144] [0] 4787487 (.sli (.var 92 4788648) (some (.bin .Add (.var 109 4789421) (.int 1 4790321) 4789425)) none none 4789426 4788659) [.cmp .In (.var 31 4791224) (.tup [.var 144 4792002,.sub (.var 89 4792903) (.var 144 4793421) 4792910] 4791887) 4791247] [(14,0),(144,0),(31,2),(89,2)] 4786128) (.list [] 4794966) 4786134) [
    .ex (.mcall (.var 143 4802579) 0 [.tup [.sub (.sub (.tup [.str "abcde" [97,98,99,100,101] 4804260,.str "ABCDE" [65,66,67,68,69] 4805421] 4804142) (.bin .Mod (.var 109 4806579) (.int 2 4807479) 4806583) 4804152) (.var 31 4807866) 4804155,.sub (.str "abcde" [97,98,99,100,101] 4808388) (.sub (.var 142 4809418) (.bin .Mod (.bin .Add (.mcall (.var 142 4810321) 2 [.var 31 4811865] [] [] [] 4810327 4810330) (.int 1 4812510) 4810334) (.int 5 4813155) 4810211) 4809444) 4808421] 4804070] [] [] [] 4802586 4802663) 4802663] [] 292012293103] [] 291008293103] [] 290004293103,
 .asg [.name 145 4817415] (.mcall (.var 115 4818190) 10 [] [] [] [] 4818196 4818198) 4817430,
 .ife (.cmp .NotEq (.var 145 4834186) (.var 143 4835089) 4834193) [
  .ret (.fls 4851604) 4850708] [] 295004296020,
 .ex (.mcall (.var 145 4866567) 0 [.tup [.str "a" [97] 4868115,.str "z" [122] 4868760] 4867993] [] [] [] 4866574 4866586) 4866586,
 .ife (.or [.cmp .NotEq (.var 140 4883340) (.var 143 4884499) 4883347,.cmp .NotEq (.mcall (.var 115 4885403) 9 [.str "aBCDe" [97,66,67,68,101] 4886567,.str "q" [113] 4887724] [] [] [] 4885407 4885421) (.str "" [] 4888755) 4885427,.cmp .IsNot (.mcall (.var 115 4889531) 9 [.str "eA" [101,65] 4890692] [] [] [] 4889535 4889541) (.none 4892369) 4889553,.cmp .NotEq (.mcall (.var 115 4893530) 9 [.str "Ea" [69,97] 4894691,.str "q" [113] 4895464] [] [] [] 4893534 4893545) (.str "q" [113] 4896496) 4893552] 4883441) [
  .ret (.fls 4900756) 4899860] [] 298004299020,
 .asg [.name 146 4915720] (.list [.int 0 4916749] 4916622) 4915726,
 .whl (.cmp .Lt (.call (.glo 22 4932877) [.var 146 4933394] [] [] [] 4932883) (.int 5 4934423) 4932887) [
  .ex (.mcall (.var 146 4949004) 0 [.mcall (.str "abcde" [97,98,99,100,101] 4950555) 2 [.mcall (.var 115 4952358) 9 [.sub (.str "aBcDe" [97,66,99,68,101] 4953522) (.sub (.var 146 4954551) (.neg 1 4955322 4955194) 4954555) 4953532] [] [] [] 4952362 4952381] [] [] [] 4950561 4950590] [] [] [] 4949011 4949055) 4949055] 301004302063,
 .asg [.name 54 4964873] (.list [.str "OPTIMIZED" [79,80,84,73,77,73,90,69,68] 4966040,.str "NEWLOCALS" [78,69,87,76,79,67,65,76,83] 4967717,.str "VARARGS" [86,65,82,65,82,71,83] 4969392,.str "VARKEYWORDS" [86,65,82,75,69,89,87,79,82,68,83] 4970815,.str "NESTED" [78,69,83,84,69,68] 4972745,.str "GENERATOR" [71,69,78,69,82,65,84,79,82] 4974038,.str "NOFREE" [78,79,70,82,69,69] 4975712,.str "COROUTINE" [67,79,82,79,85,84,73,78,69] 4977005] 4965998) 4964974,
 .asg [.name 54 4981257] (.bin .Add (.bin .Add (.var 54 4982289) (.list [.str "ITERABLE_COROUTINE" [73,84,69,82,65,66,76,69,95,67,79,82,79,85,84,73,78,69] 4983465,.str "ASYNC_GENERATOR" [65,83,89,78,67,95,71,69,78,69,82,65,84,79,82] 4986300] 4983357) 4982333) (.comp (.call (.glo 56 4989124) [.bin .Pow (.int 2 4989638) (.var 31 4990283) 4989643] [] [] [] 4989132) [31] [0] 4991186 (.call (.glo 52 4991835) [.int 10 4992606,.int 32 4993122] [] [] [] 4991843) [] [(14,0),(31,0),(56,4)] 4989028) 4982372) 4981348,
 .asg [.name 147 4997641] (.mcall (.call (.glo 148 4998680) [.bin .Add (.bin .LShift (.int 31 5000476) (.var 123 5001251) 5000483) (.bin .LShift (.bin .Mult (.var 124 5002284) (.int 5 5003184) 5002288) (.int 32 5003830) 5002294) 5000375] [] [] [] 4998712) 5 [.str ", " [44,32] 5005251] [] [] [] 4998718 4998724) 4997700,
 .ife (.or [.cmp .NotEq (.var 146 5014411) (.var 142 5015444) 5014420,.cmp .NotEq (.var 147 5016605) (.bin .Add (.sli (.var 54 5017766) (some (.var 123 5018538)) (some (.bin .Add (.var 123 5019054) (.int 5 5019826) 5019058)) none 5018546 5017779) (.ife (.cmp .Gt (.var 124 5023828) (.int 0 5024728) 5023832) (.list [.call (.glo 56 5020731) [.bin .LShift (.bin .Mult (.var 124 5021248) (.int 5 5022148) 5021252) (.int 32 5022794) 5021258] [] [] [] 5020747] 5020620) (.list [] 5025632) 5020640) 5017825) 5016673] 5014497) [
  .ret (.fls 5031828) 5030932] [] 306004307020,
 .asg [.name 149 5046792] (.comp (.call (.glo 73 5047825) [.call (.glo 150 5048600) [.tup [.mcall (.var 146 5049630) 2 [.var 31 5051046] [] [] [] 5049636 5049639,.mcall (.var 146 5051565) 2 [.sub (.var 89 5052983) (.var 31 5053497) 5052986] [] [] [] 5051571 5051579] 5049532] [] [] [] 5048637] [] [] [] 5047870) [31] [0] 5054916 (.call (.glo 52 5055565) [.int 1 5056335,.int 5 5056722] [] [] [] 5055571) [] [(14,0),(31,0),(73,4),(150,4),(146,2),(89,2)] 5047764) 5046868,
 .asg [.name 93 5063177] (.bin .Add (.list [.var 100 5064337] 5064210) (.var 93 5065370) 5064218) 5063194,
 .asg [.tup [151,152,153,117,154] [5079561,5080465,5081498,5082655,5083303] 5079591] (.tup [.call (.glo 128 5084594) [] [] [] [] 5084596,.list [] 5086008,.str "" [] 5086524,.str "" [] 5087040,.list [] 5087556] 5084485) 5079621,
 .for_ (.name 155 5096461) (.call (.glo 52 5097622) [.int 5 5098392] [] [] [] 5097625) [
  .asg [.tup [156,62] [5112845,5113748] 5112852] (.tup [.call (.glo 22 5114907) [.comp (.int 1 5115550) [157] [0] 5116326 (.var 149 5117230) [.cmp .Eq (.sub (.var 157 5118261) (.int 1 5118775) 5118264) (.var 155 5119553) 5118273] [(14,0),(157,0),(155,2)] 5115458] [] [] [] 5114947,.call (.glo 22 5120712) [.comp (.int 1 5121355) [157] [0] 5122131 (.var 149 5123035) [.cmp .Eq (.sub (.var 157 5124066) (.int 0 5124580) 5124069) (.var 155 5125358) 5124078] [(14,0),(157,0),(155,2)] 5121263] [] [] [] 5120752] 5114865) 5112945,
  .asg [.name 158 5129228] (.sub (.list [.str "" [] 5130258,.str "\\(" [92,40] 5130777,.str "\\)" [92,41] 5131680,.str "\\\\" [92,92] 5132584,.str "\\\"" [92,34] 5133615] 5130160) (.bin .Mod (.sub (.var 93 5134518) (.sub (.var 146 5135291) (.var 155 5135937) 5135298) 5134531) (.int 5 5137223) 5134535) 5130184) 5129288,
  .asg [.name 159 5145614] (.sub (.list [.none 5146902,.str "" [] 5147674,.str ")" [41] 5148191,.str "\"(" [34,40] 5148837,.str "\\" [92] 5149611,.str "\\\")" [92,34,41] 5150387] 5146804) (.bin .FloorDiv (.sub (.var 93 5151418) (.sub (.var 146 5152191) (.var 155 5152837) 5152198) 5151431) (.int 5 5154252) 5151436) 5146829) 5145677,
  .ex (.mcall (.var 151 5161997) 129 [.sub (.var 147 5164190) (.var 155 5164964) 5164197,.bin .Add (.bin .Add (.bin .Mult (.str ")" [41] 5165994) (.var 156 5166770) 5166002) (.var 158 5167801) 5166009) (.bin .Mult (.str "(" [40] 5168703) (.var 62 5169479) 5168711) 5166023] [160] [.var 159 5170770] [5170386] 5162008 5162067) 5162067,
  .asg [.name 161 5178380] (.bin .Add (.bin .Add (.bin .Add (.bin .Add (.bin .Mult (.str ")" [41] 5179282) (.var 156 5180058) 5179290) (.var 158 5181089) 5179297) (.bin .Mult (.str "(" [40] 5181991) (.var 62 5182767) 5181999) 5179311) (.str "; k-" [59,32,107,45] 5183800) 5179320) (.ife (.cmp .In (.var 159 5185864) (.tup [.none 5187281,.str "" [] 5188053] 5187158) 5185878) (.str "" [] 5185086) (.str "=" [61] 5189215) 5185119) 5179360) 5178464,
  .asg [.tup [153,117,154] [5194767,5195924,5196572] 5194780] (.tup [.bin .Add (.var 153 5197863) (.var 161 5199150) 5197870,.bin .Add (.bin .Add (.var 117 5199923) (.bin .Mult (.str ")" [41] 5200697) (.var 156 5201473) 5200705) 5199937) (.bin .Mult (.str "(" [40] 5202503) (.var 62 5203279) 5202511) 5199951,.bin .Add (.var 154 5204183) (.bin .Mult (.list [.var 155 5205472] 5205345) (.bin .Add (.var 156 5206762) (.var 62 5207794) 5206770) 5205363) 5204211] 5197812) 5194868,
  .ife (.cmp .In (.var 159 5211537) (.tup [.none 5212954,.str "" [] 5213726] 5212831) 5211551) [
   .ex (.mcall (.var 152 5228050) 0 [.var 161 5229854] [] [] [] 5228057 5228063) 5228063] [
   .ex (.mcall (.var 152 5260818) 0 [.bin .Add (.bin .Add (.bin .Add (.var 161 5262622) (.str "\"" [34] 5263524) 5262628) (.mcall (.str "" [] 5264297) 6 [.comp (.ife (.cmp .In (.var 104 5267395) (.str "\\\"" [92,34] 5268428) 5267404) (.bin .Add (.str "\\" [92] 5265460) (.var 104 5266363) 5265467) (.var 104 5269846) 5265494) [104] [0] 5271007 (.var 159 5272041) [] [(14,0),(104,0)] 5265386] [] [] [] 5264302 5264363) 5262699) (.str "\"" [34] 5273457) 5262705] [] [] [] 5260825 5260914) 5260914] 318008321114] [] 311004321114,
 .asg [.tup [94,162,163,164] [5276168,5276942,5277717,5278620] 5276188] (.tup [.call (.glo 61 5279799) [.bin .Add (.mcall (.str "" [] 5282874) 6 [.mcall (.var 151 5283909) 134 [] [] [] [] 5283916 5283918] [] [] [] 5282879 5282895) (.str "\"\\" [34,92] 5286231) 5282903] [] [] [] 5279832,.neg 1 5287388 5287260,.str "" [] 5287776,.str "" [] 5288292] 5279717) 5276261,
 .for_ (.tup [165,166] [5293067,5293713] 5293073) (.call (.glo 60 5294760) [.var 94 5297325] [] [] [] 5294766) [
  .asg [.tup [162,163,164] [5309452,5310227,5311130] 5309466] (.tup [.bin .Add (.var 162 5312290) (.call (.glo 22 5313192) [.var 166 5313709] [] [] [] 5313198) 5312302,.bin .Add (.var 163 5314613) (.var 166 5315644) 5314620,.bin .Add (.var 164 5316419) (.ife (.cmp .In (.var 166 5318611) (.tup [.str "(" [40] 5319771,.str ")" [41] 5320416] 5319649) 5318625) (.var 166 5317579) (.str "" [] 5321705) 5317609) 5316458] 5312235) 5309547,
  .ife (.cmp .NotEq (.var 165 5326222) (.var 162 5327126) 5326230) [
   .ret (.fls 5343640) 5342744] [] 325008326024] [] 323004326024,
 .ife (.or [.cmp .NotEq (.mcall (.var 151 5358476) 134 [] [] [] [] 5358483 5358485) (.var 152 5360799) 5358495,.cmp .NotEq (.var 94 5362087) (.bin .Add (.var 153 5363122) (.str "\"\\" [34,92] 5364410) 5363130) 5362106,.cmp .NotEq (.var 163 5365571) (.var 94 5366731) 5365579,.cmp .NotEq (.var 164 5367893) (.var 117 5369052) 5367900] 5358557) [
  .ret (.fls 5375892) 5374996] [] 327004328020,
 .asg [.name 167 5390857] (.list [] 5391886) 5390862,
 .for_ (.name 51 5407753) (.call (.glo 52 5408402) [.int 8 5409172] [] [] [] 5408405) [
  .ife (.cmp .Eq (.sub (.var 117 5424526) (.var 51 5425040) 5424529) (.str "(" [40] 5425816) 5424536) [
   .ex (.mcall (.var 167 5441041) 0 [.tup [.sub (.var 154 5442848) (.var 51 5443746) 5442851,.sub (.bin .Add (.var 154 5444396) (.list [.int 9 5445681] 5445554) 5444402) (.call (.glo 168 5446205) [.var 117 5447489,.var 51 5448132] [] [] [] 5446213) 5444294] 5442759] [] [] [] 5441048 5441096) 5441096] [] 331008332072] [] 330004332072,
 .ife (.or [.cmp .NotEq (.call (.glo 150 5456781) [.var 167 5457683] [] [] [] 5456788) (.call (.glo 150 5458974) [.var 149 5459875] [] [] [] 5458980) 5456804,.cmp .IsNot (.call (.glo 118 5461050) [.sli (.var 117 5463486) (some (.int 1 5464000)) none none 5464001 5463490] [] [] [] 5461059) (.fls 5465552) 5461072] 5456848) [
  .ret (.fls 5474196) 5473300] [] 333004334020,
 .ife (.cmp .IsNot (.call (.glo 118 5489561) [.bin .Add (.bin .Add (.bin .Add (.str "()" [40,41] 5491998) (.sli (.var 117 5492900) (some (.int 1 5493414)) none none 5493415 5492904) 5492008) (.sli (.var 117 5494190) none (some (.int 1 5494833)) none 5494705 5494194) 5492018) (.str "()" [40,41] 5495481) 5492025] [] [] [] 5489594) (.fls 5497159) 5489607) [
  .ret (.fls 5506964) 5506068] [] 335004336020,
 .for_ (.name 31 5522441) (.call (.glo 52 5523090) [.int 1 5523860,.int 5 5524247] [] [] [] 5523096) [
  .asg [.name 169 5538829] (.comp (.mcall (.var 146 5539989) 2 [.var 112 5541405] [] [] [] 5539995 5539998) [112] [0] 5542308 (.call (.glo 52 5542957) [.int 5 5543727] [] [] [] 5542960) [.cmp .Eq (.call (.glo 170 5544510) [.var 112 5545920,.var 31 5546307,.var 89 5546696] [] [] [] 5544521) (.var 31 5547726) 5544526] [(14,0),(112,0),(170,4),(31,2),(146,2),(89,2)] 5539919) 5538895,
  .asg [.name 50 5555213] (.mcall (.call (.glo 148 5556252) [.call (.glo 119 5557920) [.comp (.bin .LShift (.int 1 5558563) (.bin .Add (.var 123 5559210) (.var 155 5559986) 5559218) 5558578) [155] [0] 5561276 (.var 169 5562437) [] [(14,0),(155,0),(123,2)] 5558470] [] [] [] 5557959] [] [] [] 5556296) 5 [.str ", " [44,32] 5564371] [] [] [] 5556302 5556308) 5555284,
  .ife (.cmp .NotEq (.var 50 5571984) (.sli (.var 54 5573145) (some (.bin .Add (.var 123 5573917) (.call (.glo 171 5574691) [.var 169 5575209] [] [] [] 5574698) 5573930)) (some (.bin .Add (.bin .Add (.var 123 5576110) (.call (.glo 171 5576884) [.var 169 5577402] [] [] [] 5576891) 5576123) (.call (.glo 22 5578561) [.var 169 5579079] [] [] [] 5578568) 5576136)) none 5573960 5573193) 5572041) [
   .ret (.fls 5589400) 5588504] [] 340008341024,
  .asg [.name 172 5604364] (.mcall (.str "" [] 5605265) 6 [.comp (.mcall (.var 151 5606429) 9 [.mcall (.var 33 5607718) 3 [] [] [] [] 5607724 5607726] [] [] [] 5606433 5606447) [33] [0] 5610040 (.var 50 5611073) [] [(14,0),(33,0),(151,2)] 5606338] [] [] [] 5605270 5605315) 5604419,
  .asg [.name 172 5620748] (.ife (.cmp .Lt (.mcall (.var 146 5623457) 2 [.sub (.var 89 5624875) (.var 31 5625389) 5624878] [] [] [] 5623463 5623471) (.call (.glo 171 5626165) [.var 169 5626683] [] [] [] 5626172) 5623484) (.bin .Add (.str "(" [40] 5621650) (.var 172 5622425) 5621657) (.bin .Add (.var 172 5628230) (.str ")" [41] 5629132) 5628236) 5621708) 5620812,
  .ife (.cmp .IsNot (.call (.glo 118 5637533) [.var 172 5639970] [] [] [] 5637539) (.tru 5641647) 5637551) [
   .ret (.fls 5654936) 5654040] [] 344008345024] [] 337004345024,
 .ret (.tru 5670287) 5669391]
noncomputable def yaw:List (Nat×V):=[(24,.top 43),(38,.top 48),(39,.top 53),(48,.top 61),(128,.top 184),(55,.top 189),(148,.top 196),(60,.top 203),(61,.top 210),(118,.top 217),(67,.top 279),(101,.top 290),(121,.top 295),(139,.top 302),(111,.top 309),(170,.top 316),(141,.top 323),(168,.top 330),
 (20,.bi .enumerate),(22,.bi .len),(27,.bi .type),(28,.bi .list),(36,.bi .str),(52,.bi .range),(56,.bi .hex),(73,.bi .tuple),(76,.bi .max),(88,.bi .divmod),(119,.bi .sum),(150,.bi .sorted),(171,.bi .min)]
noncomputable abbrev mW:List (Nat×Nat):=[(80,241),(82,248),(136,269)]
noncomputable abbrev mH:List (Nat×Nat):=[(34,83),(11,97),(12,102),(9,131),(134,141),(10,148),(129,181)]
def zk3:List (Nat×List (Nat×Nat)):=[(279,mW),(184,mH)]
noncomputable def zn8:List (Nat×List (Nat×V)):=[(279,[(65,.str [32]),(66,.str [9])])]
noncomputable def okN(c:Nat):Bool:=cs (Nat.ble 32 c) (Nat.ble c 126) false
def okV(c:Nat):Bool:=cs (Nat.beq c 9) true (okN c)
def okX(b:Bool):Nat->Bool:=cs b okN okV
def yey:List (Nat×(Nat->Bool)):=[(48,okN),(53,okV)]
noncomputable def zbx:List (Int×LN):=[(1,[79,80,84,73,77,73,90,69,68]),(2,[78,69,87,76,79,67,65,76,83]),(4,[86,65,82,65,82,71,83]),(8,[86,65,82,75,69,89,87,79,82,68,83]),(16,[78,69,83,84,69,68]),(32,[71,69,78,69,82,65,84,79,82]),(64,[78,79,70,82,69,69]),(128,[67,79,82,79,85,84,73,78,69]),(256,[73,84,69,82,65,66,76,69,95,67,79,82,79,85,84,73,78,69]),(512,[65,83,89,78,67,95,71,69,78,69,82,65,84,79,82])]
noncomputable abbrev SF:=Nat->List RV->List (Nat×RV)->Hp->Option (RV×Hp)
noncomputable abbrev GFn:=List RV->List (Nat×RV)->Hp->Option (RV×Hp)
def cx1(S:SF):Cx:={glo:=yaw,meth:=zk3,cattr:=zn8,pat:=yey,dct:=[(189,zbx)],S:=S,nSet:=11,nDel:=12}
abbrev yQ:Fn:=⟨[25,21,23],[],[.int 1],mD,iW⟩
abbrev yf8:Fn:=⟨[29,26],[],[.none],hG,eO⟩
abbrev yf7:Fn:=⟨[29,26],[],[],hG,eO⟩
abbrev zhp:Fn:=⟨[29,21,33],[33],[],bA,cI⟩
abbrev zng:Fn:=⟨[29,33,43],[],[],eM,fL⟩
abbrev zni:Fn:=⟨[29,33],[],[],eP,fM⟩
abbrev zbv:Fn:=⟨[29,33,45],[],[.none],bT,fD⟩
abbrev zs5:Fn:=⟨[29,33,45],[],[],bT,fD⟩
abbrev ya5:Fn:=⟨[29],[],[],iX,fU⟩
abbrev ya8:Fn:=⟨[29],[],[],jW,gZ⟩
abbrev zs3:Fn:=⟨[54],[],[],kU,iD⟩
abbrev zbu:Fn:=⟨[16],[],[],bC,dD⟩
abbrev zdx:Fn:=⟨[16],[],[],dS,eK⟩
abbrev fnW:Fn:=⟨[29,64],[],[],iF,fK⟩
abbrev zhm:Fn:=⟨[29],[],[],bV,bM⟩
abbrev zho:Fn:=⟨[29,78],[],[],dR,cV⟩
abbrev zhn:Fn:=⟨[29,79],[],[],eL,fJ⟩
abbrev ya9:Fn:=⟨[86,85],[],[],nR,jU⟩
abbrev ya7:Fn:=⟨[96],[],[],bD,iV⟩
abbrev zs6:Fn:=⟨[105,106],[],[],cH,jV⟩
abbrev ya6:Fn:=⟨[31,110,89,92],[],[],tL,mB⟩
abbrev zs7:Fn:=⟨[112,31,89],[],[],qD,kW⟩
abbrev znh:Fn:=⟨[115,116,79],[],[],gX,iE⟩
abbrev zs4:Fn:=⟨[117,51],[],[],tM,mC⟩
noncomputable def kwN(n:Nat):Option LN:=look [(132,[107,95,107,95]),(133,[109]),(160,[107,95])] n
noncomputable def S0:SF:=λU U U U=>none
def sS(k:LN)(v:V):Option LN:=match v with
 | .none=>some (cU 95 [45] k)
 | .str s=>ifb (okc okV s) (bd (fnS yQ (cx1 S0) [.v (.str (cU 95 [45] k)),.v (.str s)] [] []) λr=>rS r.1)
 |_=>none
def zfb:List (Nat×RV)->Option (List (List Nat×V))
 |[]=>some []
 |p::r=>bd (kwN p.1) λk=>bd (rV p.2) λv=>ifb (pla v) (bd (zfb r) λD=>some ((k,v)::D))
def jG:List (List Nat×V)->Option (List LN)
 |[]=>some []
 |e::r=>bd (sS e.1 e.2) λt=>bd (jG r) λa=>some (t::a)
def zmh(l:LN):Bool:=cs (emp l) true (cs (leq l [160]) true (leq l [132,133]))
def yb6:GFn:=λi f J=>bd (a3 i) λp=>bd (rR p.1) λn=>bd (rS p.2.1) λb=>bd (rS p.2.2) λa=>bd (nO n J) λc=>ifb (jR (look c.2 34)) (ifb (Nat.beq c.1 184) (bd (look c.2 30) λh=>bd (vR h) λl=>
 ifb (okc okN b) (ifb (okc okV a) (bd (dH l J) λT=>ifb (pls T) (ifb (aM (len T)) (bd (zfb f) λD=>ifb (zmh (dX f)) (bd (jG D) λe=>ifb (aM (len (aT [59,32] (a::e)))) (some (.v .none,upd J l (.list (T++[.tup [.str b,.str (aT [59,32] (a::e))]])))))))))))
def ylq(n:Nat):GFn:=Nat.rec (motive:=λU=>GFn) (λU U U=>none) (λU U=>yb6) n
abbrev F1(S:SF)(a:Fn):GFn:=fnS a (cx1 S)
def yf3(S:SF):GFn:=λb a J=>orl (F1 S zbv b a J) (F1 S zs5 b a J)
def yfz(S:SF):GFn:=λb a J=>orl (zd3 184 yf8 (cx1 S) b a J) (zd3 184 yf7 (cx1 S) b a J)
def zqa(n:Nat)(S:SF):List (Nat×GFn):=[(83,F1 S zhp),(61,dU (F1 S0 yQ)),(279,dU (zd3 279 fnW (cx1 S))),(241,F1 S zhm),(248,F1 S zho),(269,dU (F1 S zhn)),(184,yfz S),(97,F1 S zng),(102,F1 S zni),(131,yf3 S),(141,F1 S ya5),(148,F1 S ya8),(181,ylq n),
 (196,dU (F1 S zs3)),(203,yay),(210,dU (F1 S zbu)),(217,dU (F1 S zdx)),(290,dU (F1 S ya9)),(295,F1 S ya7),(302,dU (F1 S zs6)),(309,dU (F1 S ya6)),(316,dU (F1 S zs7)),(323,F1 S znh),(330,dU (F1 S zs4))]
def SS(n:Nat):SF:=Nat.rec (motive:=λU=>SF) S0 (λn S f b a J=>bd (look (zqa n S) f) λg=>g b a J) n
noncomputable def aP(n:Nat)(p:Nat->Bool):Bool:=Nat.rec (motive:=λU=>Bool) true (λk d=>cs (p k) d false) n
theorem aG:∀{n:Nat},aP n p=true->∀i,i<n->p i=true
 |0,_,_,h=>absurd h (Nat.not_lt_zero _)
 |n+1,h,i,a=>by
  have h:cs (p n) (aP n p) false=true:=h;cases q:p n with
  |true=>
   rw[q] at h;by_cases z:i=n
   · rw[z];exact q
   · exact aG h i (by lia)
  |false=>rw[q] at h;cases h
theorem zas(h:pl x=true):gK (.v x)=some x/\kM (.v x)=none:=by
 have e:gK (.v x)=some x:=by show ifb (pl x) _=_;rw[h];rfl
 exact⟨e,(rB e).2.2⟩
theorem zsz:pls as=true->bN (rvs as)=[]/\nQ (rvs as) hp 0=some (as,[])/\∀os b,wb (rvs as) os b=some b:=by
 induction as with
 |nil=>exact λU=>⟨rfl,rfl,λU U=>rfl⟩
 |cons a r d=>
  intro h;refine aI (show aH (pl a) (pls r)=true from h) λM B=>?_;obtain⟨i,f,e⟩:=d B;obtain⟨c,j⟩:=zas M;refine⟨?_,?_,λos b=>?_⟩
  · show byO (kM (.v a)) _ (bN (rvs r))=_;rw[j];exact i
  · show byO (gK (.v a)) (λx=>bd (nQ (rvs r) hp 0) _) _=_;rw[c];show bd (nQ (rvs r) hp 0) _=_;rw[f];rfl
  · show byO (gK (.v a)) (λU=>wb (rvs r) os b) _=_;rw[c];exact e os b
theorem kI{S0:List RV->List (Nat×RV)->Hp->Option (RV×Hp)}{as:List V}{x:V}(h:∃h2,S0 (rvs as) [] []=some (.v x,h2))(a:pls as=true)(j:pl x=true)(J:Hp):dU S0 (rvs as) [] J=some (.v x,J):=by obtain⟨h2,e⟩:=h;obtain⟨f,c,b⟩:=zsz (hp:=J) a;show ifb (gP (bN (rvs as))) (bd (nQ (rvs as) J 0) _)=_;rw[f,c];show bd (S0 (rvs as) [] []) _=_;rw[e];show bd (wb (rvs as) h2 J) _=_;rw[b];show byO (kM (.v x)) _ (ifb (pl x) _)=_;rw[(zas j).2,j];rfl
section
variable{α β:Type}
theorem zy1:bd (some a) f=f a:=rfl
theorem zy2:bd none f=none:=rfl
theorem zy3:ifb true o=o:=rfl
theorem zy5:orl (some a) o=some a:=rfl
theorem zy6:orl none o=o:=rfl
theorem zy7:cs true x y=x:=rfl
theorem zy8:cs false x y=y:=rfl
theorem zy9:byO (some a) g z=g a:=rfl
theorem zcc:byO none g z=z:=rfl
theorem iH:a1 [x]=some x:=rfl
theorem jA:emp ([]:List α)=true:=rfl
theorem zF:jR (none:Option α)=true:=rfl
end
section
variable{lo hi:Option RV}
theorem zv1:rV (.v v)=some v:=rfl
theorem zv3:rI (.v (.int i))=some i:=rfl
theorem zv8:rS (.v (.str s))=some s:=rfl
theorem zwn:rR (.v (.ref n))=some n:=rfl
theorem yhp:rN (.v .none)=true:=rfl
theorem yho:vI (.int i)=some i:=rfl
theorem sE:oL (.list T)=some T:=rfl
theorem zge:oI (.inst c d)=some (c,d):=rfl
theorem iI:iZ (.v v) J=some (v,J):=rfl
theorem zpc:iZ (.l T) J=some (.ref (len J),J++[.list T]):=rfl
theorem uK:gL (.v (.tup T)) J=some T:=rfl
theorem lO:fT E (.v (.ref n)) m J=bd (nth J n) (mkO E n m):=rfl
theorem zM:mkO E n m (.inst c d)=ifb (jR (look d m)) (bd (look E.meth c) λt=>bd (look t m) λf=>some (.fn f (.ref n))):=rfl
theorem zL:mkO E n m (.list T)=ifb (Nat.ble m 2) (some (.lst n)):=rfl
theorem zK:fT E (.v (.str s)) m J=ifb (Nat.ble 2 m) (ifb (Nat.ble m 6) (some (.str s))):=rfl
theorem ycl:fT E (.v (.top n)) m J=zk1 E n m:=rfl
theorem zJ:kC E (.fn n v) m as a J=E.S n (.v v::as) a J:=rfl
theorem zI:kC E (.lst n) m as a J=ifb (emp a) (zzi n m as J):=rfl
theorem zH:kC E (.str s) m as a J=ifb (emp a) (same J (zha s m as J)):=rfl
theorem yck:kC E (.top n) m as a J=ifb (emp a) (same J (zr5 E n m as)):=rfl
theorem zh7:zf3 E (.v (.ref n)) m J=bd (nO n J) λa=>bd (look E.meth a.1) λU=>bd (look a.2 m) λv=>some (.v v):=rfl
theorem zgd:zb3 E (.v (.top n)) as a J=E.S n as a J:=rfl
theorem zcd:zb3 E (.v (.bi bi)) as a J=ifb (emp a) (same J (bic bi as J)):=rfl
theorem zpb:qG .Add (.v (.int i)) (.v (.int j)) J=some (.v (.int (i+j))):=rfl
theorem zwm:cY .Lt (.v (.int i)) (.v (.int j)) J=some (Z.ltB i j):=rfl
theorem yhn:cY .GtE (.v (.int i)) (.v (.int j)) J=some (Z.leB j i):=rfl
theorem yhm:cY .Eq (.v (.int i)) (.v (.int j)) J=some (Z.eqB i j):=rfl
theorem zgc:cY .Eq (.v (.str s)) (.v (.str t)) J=some (leq s t):=rfl
theorem ycj:zp2 (.v (.bool a)) J=some a:=rfl
theorem zG:zzi n 0 as J=bd (dH n J) λT=>orl (bd (a1 as) λr=>ifb (aM (len T)) (bd (iZ r J) λp=>some (.v .none,upd p.2 n (.list (T++[p.1]))))) none:=rfl
theorem yhl:nB (.v (.tup T)) (.v (.int i)) J=bd (idx i (len T)) λj=>bd (nth T j) λv=>some (.v v):=rfl
end
section
theorem zw1:nx (.next,x) more=more:=rfl
theorem zw4:nx (.ret r,x) more=some (.ret r,x):=rfl
theorem zw9:iQ f (.dry,x)=f x.1 x.2:=rfl
theorem kD:bW E (.name y p) r I J=dP y r I J:=rfl
theorem wP:bW E (.tup a b p) r I J=hY a r I J:=rfl
theorem yhk:bW E (.sub e i p) r I J=zon E (ev E I e) (ev E I i) r I J:=rfl
theorem yci:vK (.v (.ref n)) J=bd (dH n J) λU=>some (.live n 0):=rfl
end
theorem ych:mA (.live n i) J=byO (dH n J) (λT=>len T+1) 0:=rfl
theorem yhj:pZ (.live n i) J=bd (dH n J) λT=>some (bd (nth T i) λv=>some (v,.live n (i+1))):=rfl
theorem zpa:xT (.next,w)=some (.v .none,w.2):=rfl
theorem zgb:xT (.ret r,w)=some (r,w.2):=rfl
section
variable{lo hi st:Option FE}{vs:List V}{ap:Nat}{as:List RV}{b':Bool}{r':V}{k:Nat}{F:V->L->Hp->Option (Fl×L×Hp)}{sr:Src}{os:O}{hq:Hp}
theorem zq0:ev E I (.none p) J=some (.v .none,J):=rfl
theorem zq1:ev E I (.tru p) J=some (.v (.bool true),J):=rfl
theorem zq2:ev E I (.fls p) J=some (.v (.bool false),J):=rfl
theorem zq3:ev E I (.int i p) J=some (.v (.int (.ofNat i)),J):=rfl
theorem zq4:ev E I (.str s l p) J=some (.v (.str l),J):=rfl
theorem zq5:ev E I (.var x p) J=dY I x J:=rfl
theorem zq6:ev E I (.glo x p) J=qP E x J:=rfl
theorem zq8:ev E I (.bin o a b p) J=uY o (ev E I a) (ev E I b) J:=rfl
theorem yh4:ev E I (.cmp c a b p) J=yas c (ev E I a) (ev E I b) J:=rfl
theorem ycs:ev E I (.ife e a b p) J=zsr (tr E I e) (ev E I a) (ev E I b) J:=rfl
theorem zph:ev E I (.list D p) J=zhl (evs E I D) J:=rfl
theorem zwq:ev E I (.tup D p) J=zbm (evs E I D) J:=rfl
theorem yh3:ev E I (.sub a b p) J=yar (ev E I a) (ev E I b) J:=rfl
theorem zR:ev E I (.sli a lo hi st p q) J=uX E (ev E I a) (evo E I lo) (evo E I hi) st J:=rfl
theorem zpg:ev E I (.att a x p) J=yO E (ev E I a) x J:=rfl
theorem uO:ev E I (.call f D c b a p) J=jT E (ev E I f) (evs E I D) c (evs E I b) J:=rfl
theorem jB:ev E I (.mcall f x D c b a p q) J=bP E (ev E I f) x (evs E I D) c (evs E I b) J:=rfl
theorem yh2:ev E I (.comp e a b p f D c q) J=zm2 (λI=>ev E I e) a (ev E I f) (λI=>trA E I D) (flr c I) J:=rfl
theorem gF:evs E I [] J=some ([],J):=rfl
theorem iK:evs E I (e::D) J=cF (ev E I e) (evs E I D) J:=rfl
theorem zpf:evo E I none J=some (none,J):=rfl
theorem zQ:evo E I (some e) J=lZ (ev E I e) J:=rfl
theorem lP:tr E I (.cmp c a b p) J=hS c (ev E I a) (ev E I b) J:=rfl
theorem ycr:tr E I (.var x p) J=uW (dY I x) J:=rfl
theorem ycq:tr E I (.mcall f x D c b a p q) J=uW (bP E (ev E I f) x (evs E I D) c (evs E I b)) J:=rfl
theorem yh1:trA E I [] J=some (true,J):=rfl
theorem yh0:trA E I (e::D) J=zxi (tr E I e) (trA E I D) J:=rfl
theorem kG:ex E (.asg a e p) I J=jC E a (λI=>ev E I e) I J:=rfl
theorem qK:ex E (.ex e p) I J=xEx (λI=>ev E I e) I J:=rfl
theorem yhz:ex E (.aug x q o e p) I J=zwt x o (λI=>ev E I e) I J:=rfl
theorem mG:ex E (.ife e b a p) I J=kH (λI=>tr E I e) (exs E b) (exs E a) I J:=rfl
theorem zh8:ex E (.for_ g b c a p) I J=zci E g (λI=>ev E I b) (exs E c) (exs E a) I J:=rfl
theorem uN:ex E (.ret e p) I J=qL (λI=>ev E I e) I J:=rfl
theorem fW:exs E [] I J=some (.next,I,J):=rfl
theorem iJ:exs E (z::a) I J=dF (ex E z) (exs E a) I J:=rfl
theorem kF:mT E [] v I J=some (I,J):=rfl
theorem kE:mT E (g::a) v I J=bd (bW E g (.v v) I J) λx=>mT E a v x.1 x.2:=rfl
theorem sF:dT [] J=some ([],J):=rfl
theorem uM:dT (r::a) J=bd (iZ r J) λx=>bd (dT a x.2) λy=>some (x.1::y.1,y.2):=rfl
theorem wV:bO [] [] I=some I:=rfl
theorem uL:bO (x::l) (v::vs) I=bO l vs (put I x v):=rfl
theorem fV:look ([]:List (Nat×V)) x=none:=rfl
theorem eY:look ((q,v)::I) x=cs (Nat.beq q x) (some v) (look I x):=rfl
theorem zwp:bic .len as J=zub as J:=rfl
theorem yhy:bic .max as J=zt9 as J:=rfl
theorem yhx:bic .sum as J=zt5 as J:=rfl
theorem ycp:bic .type as J=zf2 as J:=rfl
theorem zP:look ([]:List (Nat×Nat)) x=none:=rfl
theorem zO:look ((q,p)::a) x=cs (Nat.beq q x) (some p) (look a x):=rfl
theorem hM:put ([]:L) x v=[(x,v)]:=rfl
theorem hK:put ((q,r')::I) x v=cs (Nat.beq q x) ((x,v)::I) ((q,r')::put I x v):=rfl
theorem zpe:bR F (k+1) sr I J=bd (pZ sr J) λo=>byO o (λp=>bd (F p.1 I J) λw=>nxt w (bR F k p.2 w.2.1 w.2.2)) (some (.dry,I,J)):=rfl
theorem zgf:nth (os::hq) 0=some os:=rfl
theorem yhw:nth (v::vs) 0=some v:=rfl
theorem wU:dX []=[]:=rfl
theorem wR:pR []=[]:=rfl
theorem wQ:leq [] []=true:=rfl
theorem zN:len ([]:List V)=0:=rfl
theorem zcg:len (v::vs)=len vs+1:=rfl
theorem zcf:len ([]:LN)=0:=rfl
theorem zce:len (x::l)=len l+1:=rfl
end
theorem yco:ev E I (.repl o c l q b a e ap p) J=zfh l a (ev E I o) J:=rfl
theorem yhv:ex E (.del o i p q) I J=zws E (λI=>ev E I o) (λI=>ev E I i) I J:=rfl
section
variable{cx:Cx}{i j:Int}{n m:Nat}{s t:LN}{xs ys:List V}{hp:Hp}{r:RV}{lo hi:Option RV}{bb:Bool}
theorem zu4:zr5 cx n 8 [.v (.str s)]=orl (bd (look cx.pat n) λp=>ifb (okc p s) (some (.v .none))) none:=rfl
theorem zu6:zk1 cx n 8=orl (bd (look cx.pat n) λU=>some (.top n)) none:=rfl
theorem zu7:zha s 6 [r] hp=bd (zel r hp) λl=>ifb (aM (len (aT s l))) (ifb (aM (len l)) (some (.v (.str (aT s l))))):=rfl
theorem zu8:zha s 3 [] hp=some (.v (.str (s.map qO))):=rfl
theorem zwo:zel (.v (.ref n)) hp=bd (dH n hp) iP:=rfl
theorem yht:qC (.l xs) hp=eS xs:=rfl
theorem ycn:zub [r] hp=bd (zl8 r hp) λn=>some (.v (.int (.ofNat n))):=rfl
theorem ycm:zl8 (.v (.str s)) hp=some (len s):=rfl
theorem yhs:zt9 [.v (.int i),.v (.int j)] hp=some (.v (.int (cs (Z.ltB i j) j i))):=rfl
theorem yhr:zt5 [r] hp=bd (qC r hp) λl=>some (.v (.int (fE l 0))):=rfl
theorem zpd:cY .NotEq (.v (.int i)) (.v (.int j)) hp=some (bH (Z.eqB i j)):=rfl
theorem yhq:cY .NotEq (.v (.str s)) (.v (.str t)) hp=some (bH (leq s t)):=rfl
end
theorem nT(h:ex E z I J=some (.next,y)):exs E (z::a) I J=exs E a y.1 y.2:=by show bd (ex E z I J) _=_;rw[h];rfl
theorem znp(h:ex E z I J=some (.ret r,y)):exs E (z::a) I J=some (.ret r,y):=by show bd (ex E z I J) _=_;rw[h];rfl
theorem zfs:cJ f (k+1) (.items (x::r)) J=bd (f x J) λo=>bd (cJ f k (.items r) o.2) λl=>some (lA o.1 l.1,l.2):=rfl
theorem rY:cJ f (k+1) (.live n i) J=bd (bd (dH n J) λT=>some (bd (nth T i) λv=>some (v,Src.live n (i+1)))) λo=>byO o (λp=>bd (f p.1 J) λo=>bd (cJ f k p.2 o.2) λl=>some (lA o.1 l.1,l.2)) (some ([],J)):=rfl
theorem yB(h:nth J n=some (.list T)):dH n J=some T:=by show bd (nth J n) oL=_;rw[h];rfl
theorem ztr{a:Type}{g:a->Option V}{x:a}{r:List a}:lA (g x) (r.filterMap g)=(x::r).filterMap g:=by rw[List.filterMap_cons];cases g x<;>rfl
theorem yhu:zay (.live n i)=some (.live n i):=rfl
theorem yie:flr a []=[]:=rfl
theorem yid:flr a ((x,v)::r)=cs (is0 (look a x)) (flr a r) ((x,v)::flr a r):=rfl
theorem yic:is0 none=false:=rfl
theorem yib:is0 (some k)=Nat.beq 0 k:=rfl
theorem ya0:bR F (k+1) (.items (pX (n+1) (.ofNat i))) I J=bd (F (.int (.ofNat i)) I J) λw=>nxt w (bR F k (.items (pX n (.ofNat (i+1)))) w.2.1 w.2.2):=rfl
section
theorem zo0:zb5 .Add i j=some (i+j):=rfl
theorem zo1:zb5 .Sub i j=some (i-j):=rfl
end
section
theorem ycv:look (cx1 S).glo 38=some (.top 48):=rfl
theorem ycu:look (cx1 S).glo 39=some (.top 53):=rfl
theorem yct:look (cx1 S).glo 48=some (.top 61):=rfl
theorem zpi:look (cx1 S).glo 60=some (.top 203):=rfl
theorem yia:look (cx1 S).glo 61=some (.top 210):=rfl
theorem zwr:look (cx1 S).glo 22=some (.bi .len):=rfl
theorem ycx:look (cx1 S).glo 27=some (.bi .type):=rfl
theorem ycw:look (cx1 S).glo 36=some (.bi .str):=rfl
theorem yh9:look (cx1 S).glo 76=some (.bi .max):=rfl
theorem wW:look (cx1 S).meth 184=some mH:=rfl
theorem zgS:(cx1 S).S=S:=rfl
theorem yh8:look (cx1 S).pat 48=some okN:=rfl
theorem yh7:look (cx1 S).pat 53=some okV:=rfl
theorem yh6:(cx1 S).nSet=11:=rfl
theorem yh5:(cx1 S).nDel=12:=rfl
end
section
theorem zpo:dX ((n,r)::a)=n::dX a:=rfl
theorem zpn:pR ((n,r)::a)=r::pR a:=rfl
theorem zpm:leq (n::s) (m::t)=cs (Nat.beq n m) (leq s t) false:=rfl
theorem zpl:cY .Is (.v (.bi .str)) (.v (.bi .str)) J=some true:=rfl
theorem zpk:zp2 (.v .none) J=some false:=rfl
theorem zpj:zf2 [.v (.str s)] J=some (.v (.bi .str)):=rfl
end
section
theorem yif:ydl i j 1=some (.items (pX (j-i).toNat i)):=rfl
end
section
end
theorem eC(h:F x I J=some (.next,y)):bR F (k+1) (.items (x::r)) I J=bR F k (.items r) y.1 y.2:=by show bd (F x I J) _=_;rw[h];rfl
theorem ya2(j:look I x=some (.ref r))(h:nth J r=some (.list T)):ex cx (.for_ t (.var x p) b [] q) I J=bd (bR (aX cx t (exs cx b)) (len T+1) (.live r 0) I J) (iQ (exs cx [])):=by show bd (bd (look I x) _) _=_;rw[j];show bd (bd (bd (nth J r) oL) λU=>some (Src.live r 0)) _=_;rw[h];show bd (bR _ (byO (bd (nth J r) oL) (λT=>len T+1) 0) _ _ _) _=_;rw[h];rfl
theorem ycy:cY .IsNot (.v (.str x)) (.v .none) J=some true:=rfl
theorem zfl(h:nth J r=some (.list T))(a:nth T i=none):bR F (k+1) (.live r i) fl J=some (.dry,fl,J):=by show bd (bd (bd (nth J r) oL) _) _=_;rw[h];show byO (bd (nth T i) _) _ _=_;rw[a];rfl
theorem rX(h:nth J r=some (.list T))(a:nth T i=some v)(e:F v I J=some (.next,y)):bR F (k+1) (.live r i) I J=bR F k (.live r (i+1)) y.1 y.2:=by show bd (bd (bd (nth J r) oL) _) _=_;rw[h];show byO (bd (nth T i) _) _ _=_;rw[a];show bd (F v I J) _=_;rw[e];rfl
theorem tU(h:f x J=some (o,J))(d:cJ f k (.items r) J=some (l,J)):cJ f (k+1) (.items (x::r)) J=some (lA o l,J):=by rw[zfs,h];show bd (cJ f k (.items r) J) _=_;rw[d];rfl
theorem iL(h:f x J=some (some y,J))(d:cJ f k (.items r) J=some (l,J)):cJ f (k+1) (.items (x::r)) J=some (y::l,J):=by rw[zfs,h];show bd (cJ f k (.items r) J) _=_;rw[d];rfl
theorem zi9{S0:List RV->List (Nat×RV)->Hp->Option (RV×Hp)}{s:LN}{c:Nat}{d:List (Nat×V)}{r J:Hp}(h:S0 [.v (.str s)] [] []=some (.v (.ref 0),.inst c d::r))(a:dPl d=true):dU S0 [.v (.str s)] [] J=some (.v (.ref (len J)),J++[.inst c d]):=by show bd (S0 [.v (.str s)] [] []) _=_;rw[h];show ifb (dPl d) _=_;rw[a];rfl
noncomputable def ah1:FS:=
 .asg [.name 46 1426445] (.list [] 1427474) 1426450
noncomputable def ah2:FS:=
 .ife (.cmp .IsNot (.var 47 1443217) (.none 1445021) 1443229) [
  .asg [.name 47 1459730] (.mcall (.var 29 1460889) 34 [.var 47 1464245] [33] [.fls 1465921] [1465281] 1460910 1460930) 1459778,
  .ex (.mcall (.var 46 1476113) 0 [.var 47 1477791] [] [] [] 1476120 1476128) 1476128] [] 88008090032
noncomputable def vC:List FS:=[
 .asg [.name 31 1508877] (.mcall (.var 29 1509396) 34 [.var 31 1512747] [33] [.tru 1513782] [1513142] 1509417 1509431) 1508919,
 .ife (.cmp .Is (.var 32 1525648) (.none 1526296) 1525656) [
  .ex (.mcall (.var 46 1542165) 0 [.repl (.var 31 1543838) "_" [95] 1545130 "-" [45] 1545775 1543846 1543856] [] [] [] 1542172 1542193) 1542193] [
  .asg [.name 32 1574929] (.mcall (.var 29 1575448) 34 [.var 32 1578799] [33] [.fls 1579835] [1579195] 1575469 1575484) 1574972,
  .ex (.mcall (.var 46 1591317) 0 [.call (.glo 48 1593001) [.repl (.var 31 1594667) "_" [95] 1595959 "-" [45] 1596604 1594675 1594685,.var 32 1597376] [] [] [] 1593025] [] [] [] 1591324 1591362) 1591362] 93012097066]
noncomputable def ah3:FS:=
 .ex (.mcall (.att (.var 29 1606668) 30 1606677) 0 [.tup [.mcall (.var 29 1609506) 34 [.var 49 1612861] [33] [.tru 1614408] [1613768] 1609527 1609545,.mcall (.str "; " [59,32] 1615311) 6 [.var 46 1616602] [] [] [] 1615316 1615323] 1609436] [] [] [] 1606684 1606749) 1606749
noncomputable abbrev ahT:Tg:=(.tup [31,32] [1492493,1492880] 1492496)
abbrev ahF:FS:= .for_ ahT (.mcall (.var 15 1493531) 10 [] [] [] [] 1493537 1493539) vC [] 91008097066
theorem ybl(h:okc (okX b) s=true)(n:Nat)(J:Hp):fnS zhp (cx1 S) [.v (.ref n),.v (.str s)] [(33,.v (.bool b))] J=some (.v (.str s),J):=by
 have M:okc (okX true)=okc okN:=rfl;have B:okc (okX false)=okc okV:=rfl;cases b with
 |true=>rw[M] at h;simp only[fnS,zhp,List.cons_append,List.nil_append,fnX,Nat.beq,body,bA,dF,jC,kH,qL,goN,dY,qP,Mine.h2,jM,hS,zsr,fH,jT,bP,cF,uW,same,dP,zy1,zy3,zy5,zy7,zy8,zy9,iH,jA,iI,ycl,yck,zcd,ycj,zw1,zw4,kD,ycx,yh8,zgb,zq5,zq6,ycs,uO,gF,iK,lP,ycr,ycq,kG,mG,uN,fW,iJ,kF,kE,sF,uM,fV,eY,ycp,hM,hK,wU,wR,wQ,zu4,zu6,List.append_nil,List.nil_append,List.cons_append,List.zip_cons_cons,List.zip_nil_left,zpo,zpn,zpm,zpl,zpk,zpj,ycv,ycu,ycw,List.append_nil,List.nil_append,List.cons_append,List.zip_cons_cons,List.zip_nil_left,zpo,zpn,zpm,zpl,zpk,zpj,h,len,Nat.ble]
 |false=>rw[B] at h;simp only[fnS,zhp,List.cons_append,List.nil_append,fnX,Nat.beq,body,bA,dF,jC,kH,qL,goN,dY,qP,Mine.h2,jM,hS,zsr,fH,jT,bP,cF,uW,same,dP,zy1,zy3,zy5,zy7,zy8,zy9,iH,jA,iI,ycl,yck,zcd,ycj,zw1,zw4,kD,ycx,yh7,zgb,zq5,zq6,ycs,uO,gF,iK,lP,ycr,ycq,kG,mG,uN,fW,iJ,kF,kE,sF,uM,fV,eY,ycp,hM,hK,wU,wR,wQ,zu4,zu6,List.append_nil,List.nil_append,List.cons_append,List.zip_cons_cons,List.zip_nil_left,zpo,zpn,zpm,zpl,zpk,zpj,ycv,ycu,ycw,List.append_nil,List.nil_append,List.cons_append,List.zip_cons_cons,List.zip_nil_left,zpo,zpn,zpm,zpl,zpk,zpj,h,len,Nat.ble]
/-ADDRUN-/
theorem zjq(a:O):nth (J++[a]) (len J)=some a:=nJ J a
theorem zw5:∀{hp:Hp} (a c:O),upd (hp++[a]) (len hp) c=hp++[c]
 |[],_,_=>rfl
 |x::hp,a,c=>congrArg (x:: ·) (zw5 (hp:=hp) a c)
theorem zV:∀{hp:Hp} {l:Nat} {o b x:O},nth hp l=some b->upd (hp++[x]) l o=upd hp l o++[x]
 |[],l,_,_,_,h=>nn (show none=some _ from h)
 |a::r,0,_,_,_,_=>rfl
 |a::r,k+1,_,_,_,h=>congrArg (a:: ·) (zV (hp:=r) h)
noncomputable abbrev ahB(n:Nat)(b a:LN)(D k:Nat):L:=[(29,.ref n),(49,.str b),(47,.str a),(15,.top D),(46,.ref k)]
section
theorem zum(Q:∀(s:LN) (b:Bool) (m:Nat) (J:Hp),okc (okX b) s=true->S 83 [.v (.ref m),.v (.str s)] [(33,.v (.bool b))] J=some (.v (.str s),J))
 (T:∀(s t:LN) (J:Hp),(∃h2,fnS yQ (cx1 S0) [.v (.str s),.v (.str t)] [] []=some (.v (.str k),h2))->S 61 [.v (.str s),.v (.str t)] [] J=some (.v (.str k),J))
 (Y:nth J n=some (.inst 184 d)) (g:look d 34=none) (I:l=[]∨∃a b,l=[(31,a),(32,b)]) (N:okc okN t=true) (H:aM (len (cU 95 [45] t))=true) (j:aM (len f)=true) (e:sS t v=some k):
 aX (cx1 S) ahT (exs (cx1 S) vC) (.tup [.str t,v]) (ahB n nme val D (len J)++l) (J++[.list f])=some (.next,ahB n nme val D (len J)++[(31,.str t),(32,v)],J++[.list (f++[.str k])]):=by
 have A:∀a:O,nth (J++[a]) n=some (.inst 184 d):=λa=>fB _ Y;have z:∀a:O,nth (J++[a]) (len J)=some a:=zjq;have y:∀a c:O,upd (J++[a]) (len J) c=J++[c]:=zw5;have o:aX (cx1 S) ahT (exs (cx1 S) vC) (.tup [.str t,v]) (ahB n nme val D (len J)++l) (J++[.list f])=exs (cx1 S) vC (ahB n nme val D (len J)++[(31,.str t),(32,v)]) (J++[.list f]):=by rcases I with rfl|⟨a,b,rfl⟩<;>rfl
 rw[o];have B:=Q t true n (J++[.list f]) N;have q:cY .Is (.v (.none:V)) (.v .none) (J++[.list f])=some true:=rfl;have p:∀s:LN,cY .Is (.v (.str s:V)) (.v .none) (J++[.list f])=some false:=λs=>rfl;cases v with
 |none=>have e:cU 95 [45] t=k:=prf e;have u:aM (len k)=true:=e▸H;simp only[vC,ahB,hY,dF,jC,xEx,kH,goN,dY,qP,Mine.h2,jM,hS,fH,jT,bP,cF,hY,dP,dH,zy1,zy3,zy5,zy7,zy8,zy9,iH,jA,zF,zv8,sE,iI,uK,lO,zM,zL,zJ,zI,zgd,zG,zw1,kD,wP,wW,zgS,zq0,zq1,zq2,zq5,zq6,uO,jB,gF,iK,lP,kG,qK,mG,fW,iJ,kF,kE,wV,uL,fV,eY,zP,zO,hM,hK,aX,List.append_nil,List.nil_append,List.cons_append,List.zip_cons_cons,List.zip_nil_left,yco,yct,zfh,List.nil_append,List.cons_append,List.zip_cons_cons,List.zip_nil_left,Nat.beq,A,z,y,B,g,u,j,e,q,Nat.ble]
 |str s=>
  refine aJ e λM e=>?_;refine aB e λr ez i=>?_;obtain⟨E,C⟩:=r;refine aB i λx h i=>?_;have h:E= .v x:=zg2 h;subst h;cases x with
  |str G=>have i:G=k:=prf i;subst i;have w:=Q s false n (J++[.list f]) M;have cf:=T _ _ (J++[.list f]) ⟨C,ez⟩;simp only[vC,ahB,hY,dF,jC,xEx,kH,goN,dY,qP,Mine.h2,jM,hS,fH,jT,bP,cF,hY,dP,dH,zy1,zy3,zy5,zy7,zy8,zy9,iH,jA,zF,zv8,sE,iI,uK,lO,zM,zL,zJ,zI,zgd,zG,zw1,kD,wP,wW,zgS,zq0,zq1,zq2,zq5,zq6,uO,jB,gF,iK,lP,kG,qK,mG,fW,iJ,kF,kE,wV,uL,fV,eY,zP,zO,hM,hK,aX,List.append_nil,List.nil_append,List.cons_append,List.zip_cons_cons,List.zip_nil_left,yco,yct,zfh,List.nil_append,List.cons_append,List.zip_cons_cons,List.zip_nil_left,Nat.beq,A,z,y,B,w,cf,g,H,j,p,Nat.ble]
  |_=>exact nn i
 |_=>exact nn e
theorem zf8(p:∀(s:LN) (b:Bool) (m:Nat) (J:Hp),okc (okX b) s=true->S 83 [.v (.ref m),.v (.str s)] [(33,.v (.bool b))] J=some (.v (.str s),J))
 (o:∀(k s t:LN) (J:Hp),(∃h2,fnS yQ (cx1 S0) [.v (.str s),.v (.str t)] [] []=some (.v (.str k),h2))->S 61 [.v (.str s),.v (.str t)] [] J=some (.v (.str k),J))
 (M:nth J n=some (.inst 184 d)) (q:look d 34=none):∀{f:List (List Nat×V)} {h:List LN} {ps:List V} {tl:L},(tl=[]∨∃a b,tl=[(31,a),(32,b)])->(∀e∈f,okc okN e.1=true/\aM (len (cU 95 [45] e.1))=true)->len ps+len f<100->jG f=some h->
  ∃c,(c=[]∨∃a b,c=[(31,a),(32,b)])/\bR (aX (cx1 S) ahT (exs (cx1 S) vC)) (len (f.map λe=>V.tup [.str e.1,e.2])+1) (.items (f.map λe=> .tup [.str e.1,e.2])) (ahB n nme val D (len J)++tl) (J++[.list ps])=some (.dry,ahB n nme val D (len J)++c,J++[.list (ps++h.map V.str)])
 |[],h,ps,tl,i,_,_,e=>by rw[←prf e];exact⟨tl,i,by rw[List.map_nil,List.map_nil,List.append_nil];rfl⟩
 |x::f,h,ps,tl,i,j,l,e=>by refine aB (show bd (sS x.1 x.2) (λt=>bd (jG f) λh=>some (t::h))=some h from e) λt A e=>?_;refine aB e λr z e=>?_;have l:len ps+(len f+1)<100:=l;have y:aM (len ps)=true:=Qd (Qi (by lia:len ps≤100) (by decide));have T:=zum (nme:=nme) (val:=val) (D:=D) p (o t) M q i (j x (.head _)).1 (j x (.head _)).2 y A;obtain⟨c,w,u⟩:=zf8 p o M q (tl:=[(31,.str x.1),(32,x.2)]) (ps:=ps++[.str t]) (.inr ⟨_,_,rfl⟩) (λe H=>j e (.tail _ H)) (by rw[aK,List.length_append,←aK];show len ps+1+len f<100;lia) z;refine⟨c,w,?_⟩;show bd (aX (cx1 S) ahT (exs (cx1 S) vC) (.tup [.str x.1,x.2]) (ahB n nme val D (len J)++tl) (J++[.list ps])) _=_;rw[T];show bR _ (len (f.map λe=>V.tup [.str e.1,e.2])+1) (.items (f.map λe=> .tup [.str e.1,e.2])) _ _=_;rw[u,←prf e,List.map_cons,List.append_assoc];rfl
theorem mV:∀l:List LN,iP (l.map V.str)=some l
 |[]=>rfl
 |a::r=>by show bd (iP (r.map V.str)) _=_;rw[mV r];rfl
theorem zuq(z:∀(s:LN) (b:Bool) (m:Nat) (J:Hp),okc (okX b) s=true->S 83 [.v (.ref m),.v (.str s)] [(33,.v (.bool b))] J=some (.v (.str s),J))
 (hf:∀(k s t:LN) (J:Hp),(∃h2,fnS yQ (cx1 S0) [.v (.str s),.v (.str t)] [] []=some (.v (.str k),h2))->S 61 [.v (.str s),.v (.str t)] [] J=some (.v (.str k),J))
 (M:nth J n=some (.inst 184 d)) (A:look d 34=none) (h2:look d 30=some (.ref l)) (B:nth J l=some (.list T)) (h4:okc okN i=true) (h5:okc okV val=true) (h6:aM (len T)=true) {j:List (List Nat×V)} {f:List LN}
 (hk:∀e∈j,okc okN e.1=true/\aM (len (cU 95 [45] e.1))=true) (hl:len j<99) (C:jG j=some f) (h7:aM (len (aT [59,32] (val::f)))=true):
 zo4 (cx1 S) ah1 ah2 ahT vC ah3 (j.map λe=> .tup [.str e.1,e.2]) ([29,49,47,15].zip [.ref n,.str i,.str val,.top D]) J=some (.v .none,upd J l (.list (T++[.tup [.str i,.str (aT [59,32] (val::f))]]))++[.list (.str val::f.map V.str)])∧
 ∀y,exs (cx1 S) [ah1,ah2] ([29,49,47,15].zip [.ref n,.str i,.str val,.top D]) J=some (.next,y)->look y.1 15=some (.top D):=by
 have o:exs (cx1 S) [ah1,ah2] ([29,49,47,15].zip [.ref n,.str i,.str val,.top D]) J=some (.next,ahB n i val D (len J)++[],J++[.list [.str val]]):=by have u:∀a:O,nth (J++[a]) n=some (.inst 184 d):=λa=>fB _ M;have q:∀a:O,nth (J++[a]) (len J)=some a:=zjq;have p:∀a c:O,upd (J++[a]) (len J) c=J++[c]:=zw5;have H:aM 0=true:=rfl;have Q:=z val false n (J++[.list []]) h5;simp only[ah1,ah2,ycy,bH,dF,jC,xEx,kH,goN,dY,Mine.h2,jM,hS,zhl,fH,bP,cF,dP,dH,zy1,zy3,zy5,zy7,zy8,zy9,iH,jA,zF,sE,iI,zpc,lO,zM,zL,zJ,zI,zG,zw1,kD,wW,zgS,zq0,zq2,zq5,zph,jB,gF,iK,lP,kG,qK,mG,fW,iJ,kF,kE,sF,fV,eY,zP,zO,hM,hK,zN,List.append_nil,List.nil_append,List.zip_cons_cons,List.zip_nil_left,ycy,List.nil_append,List.append_nil,List.zip_cons_cons,List.zip_nil_left,Nat.beq,u,q,p,Q,A,H,Nat.ble]
 refine⟨?_,λy e=>?_⟩
 · obtain⟨G,_,g⟩:=zf8 (nme:=i) (val:=val) (D:=D) z hf M A (ps:=[.str val]) (tl:=[]) (.inl rfl) hk (by show 1+len j<100;lia) C
   show bd (exs (cx1 S) [ah1,ah2] _ J) _=_;rw[o];show bd (bR (aX (cx1 S) ahT (exs (cx1 S) vC)) (len (j.map λe=>V.tup [.str e.1,e.2])+1) (.items (j.map λe=> .tup [.str e.1,e.2])) (ahB n i val D (len J)++[]) (J++[.list [.str val]])) _=_;rw[g];show body (cx1 S) [ah3] (ahB n i val D (len J)++G) (J++[.list (.str val::f.map V.str)])=_;have u:∀a:O,nth (J++[a]) n=some (.inst 184 d):=λa=>fB _ M;have I:∀a:O,nth (J++[a]) l=some (.list T):=λa=>fB _ B;have q:∀a:O,nth (J++[a]) (len J)=some a:=zjq;have p:∀a c:O,upd (J++[a]) l c=upd J l c++[a]:=λa c=>zV B;have N:iP (.str val::f.map V.str)=some (val::f):=mV (val::f);have w:∀{j:List (List Nat×V)} {f:List LN},jG j=some f->len f=len j:=λ{j}=>by
    induction j with
    |nil=>intro f h;rw[←prf h];rfl
    |cons x r Y=>intro f h;refine aB (show bd (sS x.1 x.2) (λt=>bd (jG r) λf=>some (t::f))=some f from h) λt e1 h=>?_;refine aB h λE o h=>?_;rw[←prf h];exact congrArg (· +1) (Y o)
   have H:aM (len (val::f))=true:=Qd (Qi (show len f+1≤100 by rw[w C];lia) (by decide));have Q:=z i true n (J++[.list (.str val::f.map V.str)]) h4;simp only[body,ah3,ahB,dF,xEx,dY,Mine.h2,zbm,yO,fH,bP,cF,same,dH,nO,zy1,zy3,zy5,zy7,zy8,iH,jA,zF,sE,zge,iI,lO,zM,zL,zK,zJ,zI,zH,zh7,zG,zw1,wW,zgS,zpa,zq1,zq4,zq5,zwq,zpg,jB,gF,iK,qK,fW,iJ,sF,uM,eY,zP,zO,zu7,zwo,List.nil_append,List.cons_append,List.zip_cons_cons,List.zip_nil_left,List.nil_append,List.cons_append,List.zip_cons_cons,List.zip_nil_left,Nat.beq,u,q,I,p,Q,A,h2,h6,N,h7,H,Nat.ble]
 · rw[←(Prod.mk.inj (prf (o.symm.trans e))).2];rfl
end
noncomputable abbrev Row:=List Nat×LN
noncomputable def bI(p:Row):V:= .tup [.str p.1,.str p.2]
def low(s:LN):LN:=s.map qO
def pJ(a:LN)(rows:List Row):Option LN:=List.rec (motive:=λU=>Option LN) none (λp U d=>cs (leq (low p.1) a) (some p.2) d) rows
theorem mR(b:nth J n=some (.list a)):∀(T:List V) (k i:Nat),a.drop i=T->T.length<k->(∀x∈T,f x J=some (g x,J))->cJ f k (.live n i) J=some (T.filterMap g,J)
 |T,0,i,_,h,_=>by cases h
 |[],k+1,i,hd,_,_=>by
  have:nth a i=none:=by rw[bX];exact List.getElem?_eq_none (List.drop_eq_nil_iff.mp hd)
  rw[rY,yB b];show byO (bd (nth a i) _) _ _=_;rw[this];rfl
 |x::r,k+1,i,hd,h,H=>by
  have M:nth a i=some x:=by
   have:(a.drop i)[0]? =some x:=by rw[hd];rfl
   rw[List.getElem?_drop] at this;rw[bX];exact this
  have B:a.drop (i+1)=r:=by
   have:a.drop (i+1)=(a.drop i).drop 1:=by rw[List.drop_drop]
   rw[this,hd];rfl
  have d:=mR b r k (i+1) B (by simpa using h) λy c=>H y (by simp[c]);rw[rY,yB b];show byO (bd (nth a i) _) _ _=_;rw[M];show bd (f x J) _=_;rw[H x (.head _)];show bd (cJ f k (.live n (i+1)) J) _=_;rw[d,←ztr];rfl
section
variable{rows r:List Row}
noncomputable abbrev gtB(n:Nat)(a:LN)(b:V):L:=[(29,.ref n),(33,.str a),(45,b)]
noncomputable abbrev gtY:List FS:=[.ife (.cmp .Eq (.mcall (.var 31 1001360) 3 [] [] [] [] 1001366 1001368) (.var 33 1003040) 1001376) [.ret (.var 32 1018776) 1017880] [] 61012062024]
abbrev gtF(S:SF):V->L->Hp->Option (Fl×L×Hp):=aX (cx1 S) (.tup [31,32] [984589,984976] 984592) (exs (cx1 S) gtY)
theorem zm5(h:e=[]∨∃a b,e=[(31,a),(32,b)]):gtF S (bI p) (gtB n nme dv++e) hp=some (cs (leq (low p.1) nme) (Fl.ret (.v (.str p.2))) .next,gtB n nme dv++[(31,.str p.1),(32,.str p.2)],hp):=by
 have c:p.1.map qO=low p.1:=rfl;have f:gtF S (bI p) (gtB n nme dv++e) hp=exs (cx1 S) gtY (gtB n nme dv++[(31,.str p.1),(32,.str p.2)]) hp:=by rcases h with rfl|⟨a,b,rfl⟩<;>rfl
 rw[f];simp only[gtY,dF,kH,qL,dY,Mine.h2,jM,hS,fH,bP,same,hY,zy1,zy3,zy7,zy8,jA,uK,zK,zH,zgc,zw4,wP,zq5,jB,gF,lP,mG,uN,fW,iJ,wV,uL,fV,eY,hM,hK,zu8,aX,List.append_nil,List.nil_append,List.cons_append,List.zip_nil_left,List.nil_append,List.cons_append,List.zip_cons_cons,List.zip_nil_left,Nat.beq,c,Nat.ble];cases leq (low p.1) nme<;>rfl
theorem zbn(j:nth J l=some (.list (rows.map bI))):∀{r:List Row} {i:Nat} {tl:L},rows.drop i=r->(tl=[]∨∃a b,tl=[(31,a),(32,b)])->
 ∃c,bR (gtF S) (len r+1) (.live l i) (gtB n nme dv++tl) J=some (byO (pJ nme r) (λv=>LE.ret (.v (.str v))) .dry,gtB n nme dv++c,J)
 |[],i,tl,f,k=>by
  refine⟨tl,?_⟩;have h:nth (rows.map bI) i=none:=by rw[bX];exact List.getElem?_eq_none (by rw[List.length_map];exact List.drop_eq_nil_iff.mp f)
  exact zfl j h
 |p::r,i,tl,f,k=>by
  have e:=cQ f;have h:nth (rows.map bI) i=some (bI p):=by rw[bX,List.getElem?_map,e.1];rfl
  have T:=zm5 (S:=S) (n:=n) (nme:=nme) (dv:=dv) (p:=p) (hp:=J) k;have m:bR (gtF S) (len r+1+1) (.live l i) (gtB n nme dv++tl) J=bd (gtF S (bI p) (gtB n nme dv++tl) J) (λw=>nxt w (bR (gtF S) (len r+1) (.live l (i+1)) w.2.1 w.2.2)):=by show bd (bd (bd (nth J l) oL) _) _=_;rw[j];show bd (some (bd (nth (rows.map bI) i) _)) _=_;rw[h];rfl
  show∃c,bR (gtF S) (len r+1+1) _ _ _=some (byO (cs (leq (low p.1) nme) (some p.2) (pJ nme r)) _ _,_,_);rw[m,T];cases q:leq (low p.1) nme with
  |true=>exact⟨_,rfl⟩
  |false=>exact zbn j e.2 (.inr ⟨_,_,rfl⟩)
theorem tI(k:∀(s:LN) (b:Bool) (m:Nat) (J:Hp),okc (okX b) s=true->S 83 [.v (.ref m),.v (.str s)] [(33,.v (.bool b))] J=some (.v (.str s),J))
 (M:nth J n=some (.inst 184 d)) (B:look d 30=some (.ref l)) (A:look d 34=none) (p:look d 9=none) (e:nth J l=some (.list (rows.map bI))) (j:okc okN (low s)=true):
 body (cx1 S) bT [(29,.ref n),(33,.str s),(45,dv)] J=some (byO (pJ (low s) rows) (λv=> .v (.str v)) (.v dv),J):=by
 obtain⟨h,g⟩:=zbn (S:=S) (n:=n) (nme:=low s) (dv:=dv) e (r:=rows) (i:=0) (tl:=[]) rfl (.inl rfl);have a:s.map qO=low s:=rfl;have o:=k (low s) true n J j;have c:len (rows.map bI)=len rows:=by rw[aK,aK,List.length_map]
 have f:bR (gtF S) (len rows+1) (.live l 0) [(29,.ref n),(33,.str (low s)),(45,dv)] J=some (byO (pJ (low s) rows) (λv=>LE.ret (.v (.str v))) .dry,gtB n (low s) dv++h,J):=g;simp only[body,bT,dF,jC,qL,goN,dY,Mine.h2,yO,fH,bP,cF,same,dP,dH,nO,zy1,zy3,zy7,zy8,zy9,iH,jA,zF,sE,zge,iI,lO,zM,zK,zJ,zH,zh7,zw1,kD,zci,yci,wW,zgS,ych,yhj,zq1,zq5,zpg,jB,gF,iK,kG,zh8,uN,fW,iJ,kF,kE,fV,eY,zP,zO,hM,hK,zpe,zu8,List.nil_append,List.cons_append,List.zip_cons_cons,List.zip_nil_left,gtF,List.nil_append,List.append_nil,List.cons_append,List.zip_cons_cons,List.zip_nil_left,Nat.beq,a,o,M,B,A,e,c,Nat.ble] at f⊢;rw[f];cases pJ (low s) rows<;>rfl
def iY(a:LN)(rows:List Row):List Row:=List.rec (motive:=λU=>List Row) [] (λp U d=>cs (leq (low p.1) a) d (p::d)) rows
def deG(a:LN):V->Option V:=λv=>match v with
 | .tup [.str k,.str t]=>cs (leq (low k) a) none (some (.tup [.str k,.str t]))
 |_=>none
theorem yU(a:LN):∀rows:List Row,(rows.map bI).filterMap (deG a)=(iY a rows).map bI
 |[]=>rfl
 |p::r=>by
  show((bI p)::r.map bI).filterMap (deG a)=(cs (leq (low p.1) a) (iY a r) (p::iY a r)).map bI;have e:deG a (bI p)=cs (leq (low p.1) a) none (some (bI p)):=rfl;rw[List.filterMap_cons,e];cases leq (low p.1) a with
  |true=>exact yU a r
  |false=>exact congrArg (bI p:: ·) (yU a r)
theorem nU(a:LN):∀rows:List Row,(iY a rows).length≤rows.length
 |[]=>Qm _
 |p::r=>by
  have d:=nU a r;show(cs (leq (low p.1) a) (iY a r) (p::iY a r)).length≤r.length+1;cases leq (low p.1) a with
  |true=>exact Qy d
  |false=>exact Qs d
theorem zsq(o:∀(s:LN) (b:Bool) (m:Nat) (J:Hp),okc (okX b) s=true->S 83 [.v (.ref m),.v (.str s)] [(33,.v (.bool b))] J=some (.v (.str s),J))
 (M:nth J n=some (.inst 184 d)) (B:look d 30=some (.ref l)) (A:look d 34=none) (e:nth J l=some (.list (rows.map bI))) (i:okc okN (low s)=true) (k:aM (len rows)=true):
 F1 S zni [.v (.ref n),.v (.str s)] [] J=some (.v .none,upd J l (.list ((iY (low s) rows).map bI))):=by
 have c:∀{f:V->Hp->Option (Option V×Hp)},(∀p:Row,f (bI p) J=some (deG (low s) (bI p),J))->cJ f (len (rows.map bI)+1) (.live l 0) J=some ((iY (low s) rows).map bI,J):=by intro f H;rw[←yU];refine mR e _ _ 0 rfl (by rw[aK];exact Nat.lt_succ_self _) λx j=>?_;obtain⟨p,_,rfl⟩:=List.mem_map.mp j;exact H p
 have a:s.map qO=low s:=rfl;have t:=o (low s) true n J i;have q:aM (len ((iY (low s) rows).map bI))=true:=by refine Qd (Qi ?_ (Qa k));rw[aK,aK,List.length_map];exact nU _ _
 simp only[F1,fnS,zni,fnX,body,eP,zh3,yif,dF,jC,goN,dY,Mine.h2,yO,fH,bP,cF,same,dP,dH,nO,zy1,zy3,zy7,zy8,zy9,iH,jA,zF,sE,zge,iI,lO,zM,zK,zJ,zH,zh7,zw1,kD,yci,wW,zgS,ych,zq1,zq5,zpg,jB,yh2,gF,iK,kG,fW,iJ,kF,kE,sF,uM,fV,eY,zP,zO,hM,hK,wU,wR,wQ,zN,zcf,zu8,yhu,yie,yid,yic,yib,zqs,zm2,List.append_nil,List.zip_cons_cons,List.zip_nil_left,rL,List.nil_append,List.append_nil,List.cons_append,List.zip_cons_cons,List.zip_nil_left,zcg,zce,Nat.beq,a,t,M,B,A,e,Nat.ble];rw[c λp=>?_]
 · show bd (bd (bd (ifb (aM (len ((iY (low s) rows).map bI))) _) _) _) _=_
   rw[q];have u:dY [(29,V.ref n),(33,.str (low s))] 29 J=some (.v (.ref n),J):=rfl;show bd (bd (bd (zh3 (yO (cx1 S) (dY [(29,V.ref n),(33,.str (low s))] 29) 30) (.l ((iY (low s) rows).map bI)) _ J) _) _) _=_;simp only[zh3,dY,Mine.h2,yO,same,zh3,dH,nO,zy1,zy7,zy8,zwn,sE,zge,zh7,zw1,wW,zpa,fV,eY,rL,Nat.beq,M,B,e]
 · have a:p.1.map qO=low p.1:=rfl
   have h:idx (Int.ofNat 0) (len [V.str p.1,V.str p.2])=some 0:=rfl;simp only[eE,bI,bindC,h,Mine.h2,dY,jM,zz5,hS,yar,fH,bP,zxi,same,zy1,zy3,zy7,zy8,zy9,iH,jA,zv1,uK,zK,zH,yhl,zq3,zq5,yh3,jB,gF,lP,yh1,yh0,uL,fV,eY,hM,hK,yhw,zu8,yhq,eE,bindC,List.zip_nil_left,List.nil_append,List.append_nil,List.cons_append,List.zip_cons_cons,List.zip_nil_left,Nat.beq,a,Nat.ble];show _=some (cs (leq (low p.1) (low s)) none (some (bI p)),J);cases leq (low p.1) (low s)<;>rfl
theorem zsp(e:∀(s:LN) (b:Bool) (m:Nat) (J:Hp),okc (okX b) s=true->S 83 [.v (.ref m),.v (.str s)] [(33,.v (.bool b))] J=some (.v (.str s),J))
 (t:S 102 [.v (.ref n),.v (.str s)] [] J=some (.v .none,upd J l (.list ((iY (low s) rows).map bI)))) (c:n≠l)
 (M:nth J n=some (.inst 184 d)) (B:look d 30=some (.ref l)) (A:look d 34=none) (u:nth J l=some (.list (rows.map bI))) (p:okc okN s=true) (o:okc okV v=true) (q:aM (len rows)=true):
 F1 S zng [.v (.ref n),.v (.str s),.v (.str v)] [] J=some (.v .none,upd J l (.list ((iY (low s) rows++[(s,v)]).map bI))):=by
 have i:nth (upd J l (.list ((iY (low s) rows).map bI))) n=some (.inst 184 d):=(gN _ (Ne.symm c)).trans M;have h:nth (upd J l (.list ((iY (low s) rows).map bI))) l=some (.list ((iY (low s) rows).map bI)):=fY _ u;have z:=e s true n (upd J l (.list ((iY (low s) rows).map bI))) p;have y:=e v false n (upd J l (.list ((iY (low s) rows).map bI))) o;have w:aM (len ((iY (low s) rows).map bI))=true:=by refine Qd (Qi ?_ (Qa q));rw[aK,aK,List.length_map];exact nU _ _
 have f:∀(J:Hp) (l:Nat) (a b:O),upd (upd J l a) l b=upd J l b:=by
  intro J;induction J with
  |nil=>intro l a b;rfl
  |cons x r j=>intro l a b;cases l with
   |zero=>rfl
   |succ k=>exact congrArg (x:: ·) (j k a b)
 simp only[F1,fnS,zng,fnX,body,eM,dF,xEx,dY,Mine.h2,zbm,yO,fH,bP,cF,same,dH,nO,zy1,zy3,zy5,zy7,zy8,iH,jA,zF,zv1,zwn,yhp,sE,zge,iI,lO,zM,zL,zJ,zI,zh7,zG,zw1,wW,zgS,zpa,zq1,zq2,zq5,zwq,zpg,jB,gF,iK,qK,fW,iJ,sF,uM,fV,eY,zP,zO,wU,wR,wQ,zN,zcf,List.append_nil,List.zip_cons_cons,List.zip_nil_left,yhv,yh5,zws,List.nil_append,List.append_nil,List.cons_append,List.zip_cons_cons,List.zip_nil_left,zcg,zce,Nat.beq,t,z,y,M,B,A,i,h,w,f,Nat.ble,List.map_append,List.map_cons,List.map_nil,bI]
end
noncomputable abbrev U:=Int×LN
noncomputable def itV(u:U):V:= .tup [.int u.1,.str u.2]
noncomputable def dE(l:LN):Nat->Bool->Int->List U:=List.rec (motive:=λX=>Nat->Bool->Int->List U) (λX b p=>cs b [(p,[92])] [])
 (λc X d i b X=>cs b ((.ofNat i,[92,c])::d (i+1) false i) (cs (Nat.beq c 92) (d (i+1) true i) ((.ofNat i,[c])::d (i+1) false i))) l
theorem pL:∀(l:LN) (i:Nat) (b:Bool) (p:Int),cW l i b p=(dE l i b p).map itV
 |[],i,b,p=>by cases b<;>rfl
 |c::r,i,b,p=>by
  show cs b (V.tup [.int i,.str [92,c]]::cW r (i+1) false i) (cs (Nat.beq c 92) (cW r (i+1) true i) (.tup [.int i,.str [c]]::cW r (i+1) false i))=List.map itV (cs b ((.ofNat i,[92,c])::dE r (i+1) false i) (cs (Nat.beq c 92) (dE r (i+1) true i) ((.ofNat i,[c])::dE r (i+1) false i)));cases b with
  |true=>exact congrArg (_:: ·) (pL r (i+1) false i)
  |false=>
   cases Nat.beq c 92 with
   |true=>exact pL r (i+1) true i
   |false=>exact congrArg (_:: ·) (pL r (i+1) false i)
noncomputable def ckE(a:List U):Nat->Option Nat:=List.rec (motive:=λX=>Nat->Option Nat) some (λu X d k=>cs (leq u.2 [40]) (d (k+1)) (cs (leq u.2 [41]) (Nat.rec (motive:=λX=>Option Nat) none (λj X=>d j) k) (d k))) a
section
variable{S:SF}{hp:Hp}{a:V}
noncomputable abbrev ckT:Tg:=(.tup [17,19] [2425867,2426511] 2425871)
noncomputable abbrev ckB:List FS:=[
 .ife (.cmp .Eq (.var 19 2442637) (.str "(" [40] 2443412) 2442644) [
  .aug 62 2459153 .Add (.int 1 2460310) 2459158] [
  .ife (.cmp .Eq (.var 19 2475663) (.str ")" [41] 2476438) 2475670) [
   .aug 62 2491921 .Sub (.int 1 2493078) 2491926,
   .ife (.cmp .Lt (.var 62 2508692) (.int 0 2509720) 2508696) [
    .ret (.fls 2526108) 2525212] [] 153012154028] [] 151008154028] 149008154028]
abbrev ckF(S:SF):V->L->Hp->Option (Fl×L×Hp):=aX (cx1 S) ckT (exs (cx1 S) ckB)
noncomputable abbrev ckL(a:V)(k:Int):L:=[(16,a),(62,.int k)]
theorem ztv(e:b=[]∨∃x y,b=[(17,x),(19,y)]):ckF S (itV u) (ckL a (.ofNat k)++b) hp=
 some (cs (leq u.2 [40]) .next (cs (leq u.2 [41]) (Nat.rec (motive:=λU=>Fl) (.ret (.v (.bool false))) (λU U=> .next) k) .next),ckL a (cs (leq u.2 [40]) (.ofNat k+1) (cs (leq u.2 [41]) (.ofNat k-1) (.ofNat k)))++[(17,.int u.1),(19,.str u.2)],hp):=by
 have z:∀k:Nat,Z.ltB (.ofNat (k+1)-.ofNat 1) (.ofNat 0)=false:=λk=>by
  have:(Int.ofNat (k+1)-.ofNat 1)= .ofNat k:=by show((k+1:Nat):Int)-1=(k:Int);lia
  rw[this];rfl
 have c:ckF S (itV u) (ckL a (.ofNat k)++b) hp=exs (cx1 S) ckB (ckL a (.ofNat k)++[(17,.int u.1),(19,.str u.2)]) hp:=by rcases e with rfl|⟨x,y,rfl⟩<;>rfl
 rw[c];simp only[ckB,ckL,itV,hY,dF,zwt,kH,qL,dY,Mine.h2,jM,hS,hY,zy1,zy7,zy8,zv3,yho,uK,zwm,zgc,zw1,zw4,wP,zq2,zq3,zq4,zq5,lP,yhz,mG,uN,fW,iJ,wV,uL,fV,eY,hM,hK,zo0,zo1,aX,List.append_nil,List.nil_append,List.cons_append,List.nil_append,List.cons_append,List.zip_cons_cons,List.zip_nil_left,Nat.beq,Nat.ble];cases leq u.2 [40] with
 |true=>rfl
 |false=>
  cases leq u.2 [41] with
  |true=>
   cases k with
   |zero=>rfl
   |succ k=>rw[z];rfl
  |false=>rfl
theorem sA:∀{us:List U} {k:Nat} {tl:L},(tl=[]∨∃x y,tl=[(17,x),(19,y)])->
 ∃b,bR (ckF S) (len (us.map itV)+1) (.gen (us.map itV)) (ckL a (.ofNat k)++tl) hp=some (byO (ckE us k) (λX=>LE.dry) (.ret (.v (.bool false))),b,hp)/\∀c,ckE us k=some c->look b 62=some (.int (.ofNat c))
 |[],k,tl,e=>⟨ckL a (.ofNat k)++tl,rfl,λc h=>by rw[←prf h];rfl⟩
 |u::us,k,tl,e=>by
  have T:=ztv (S:=S) (hp:=hp) (a:=a) (k:=k) (u:=u) e;have f:bR (ckF S) (len ((u::us).map itV)+1) (.gen ((u::us).map itV)) (ckL a (.ofNat k)++tl) hp=bd (ckF S (itV u) (ckL a (.ofNat k)++tl) hp) (λw=>nxt w (bR (ckF S) (len (us.map itV)+1) (.gen (us.map itV)) w.2.1 w.2.2)):=rfl;rw[f,T];show∃b,_=some (byO (cs (leq u.2 [40]) (ckE us (k+1)) (cs (leq u.2 [41]) (Nat.rec (motive:=λX=>Option Nat) none (λj X=>ckE us j) k) (ckE us k))) _ _,b,hp)/\∀c,cs (leq u.2 [40]) (ckE us (k+1)) (cs (leq u.2 [41]) (Nat.rec (motive:=λX=>Option Nat) none (λj X=>ckE us j) k) (ckE us k))=some c->_;cases leq u.2 [40] with
  |true=>exact sA (us:=us) (k:=k+1) (.inr ⟨_,_,rfl⟩)
  |false=>
   cases leq u.2 [41] with
   |true=>
    cases k with
    |zero=>exact⟨_,rfl,λc h=>nn h⟩
    |succ k=>
     have:(Int.ofNat (k+1)-1)= .ofNat k:=by show((k+1:Nat):Int)-1=(k:Int);lia
     have:=sA (us:=us) (k:=k) (tl:=[(17,.int u.1),(19,.str u.2)]) (.inr ⟨_,_,rfl⟩);rw[←‹(Int.ofNat (k+1)-1)= .ofNat k›] at this;exact this
   |false=>exact sA (us:=us) (k:=k) (.inr ⟨_,_,rfl⟩)
def ckP(t:LN):Bool:=byO (ckE (dE t 0 false 0) 0) (λk=>Nat.beq k 0) false
theorem ybq(h:∀hp,S 210 [.v (.str s)] [] hp=some (.v (.str t),hp))(c:∀hp,S 203 [.v (.str t)] [] hp=some (.g (cW t 0 false 0),hp))(hp:Hp):F1 S zdx [.v (.str s)] [] hp=some (.v (.bool (ckP t)),hp):=by
 obtain⟨l,b,j⟩:=sA (S:=S) (hp:=hp) (a:= .str t) (us:=dE t 0 false 0) (k:=0) (tl:=[]) (.inl rfl);rw[←pL] at b;have b:bR (ckF S) (len (cW t 0 false 0)+1) (.gen (cW t 0 false 0)) [(16,.str t),(62,.int (.ofNat 0))] hp=_:=b;have f:=h hp;have c:=c hp;have e:∀T:List V,vK (.g T) hp=some (.gen T):=λU=>rfl
 have m:∀T:List V,mA (.gen T) hp=len T+1:=λU=>rfl;simp only[F1,fnS,zdx,fnX,body,dS,dF,jC,qL,goN,dY,qP,Mine.h2,jM,hS,yas,fH,jT,cF,dP,bB,Nat.reduceEqDiff,if_false,zy1,zy3,zy7,zy8,zy9,iH,iI,zgd,zw1,kD,zci,zpi,zgS,zq3,zq5,zq6,yh4,uO,gF,iK,kG,zh8,uN,fW,iJ,kF,kE,sF,uM,fV,eY,hM,hK,zpe,wU,wR,wQ,zN,zcf,List.append_nil,List.zip_cons_cons,List.zip_nil_left,yia,ckF,ckT,ckB,List.nil_append,List.append_nil,List.cons_append,List.zip_cons_cons,List.zip_nil_left,zcg,zce,Nat.beq,f,c,e,m,Nat.ble] at b⊢;rw[b];unfold ckP;cases z:ckE (dE t 0 false 0) 0 with
 |none=>rfl
 |some k=>have i:=j k z;simp only[Mine.h2,zy1,zy9,yhm,zw1,zw4,zw9,zgb,fW,i];cases k<;>rfl
end
def yV(s:LN)(i:Int)(j:Option Int):Option LN:=bd (jY (some (.v (.int i))) (len s)) λa=>bd (lC (byO j (λk=>some (.v (.int k))) none) (len s)) λb=>some (cut s a b)
noncomputable abbrev StQ:=Int×Option Int×List LN
def mX(s:LN)(i:Int)(j:Option Int)(a:List LN):Option (List LN):=bd (yV s i j) λx=>ifb (aM (len a)) (some (a++[x]))
def stT(s:LN)(u:U)(a:StQ):Option StQ:=cs (leq u.2 [34]) (byO a.2.1 (λp=>bd (cs (bH (Z.eqB a.1 p)) (mX s a.1 (some p) a.2.2) (some a.2.2)) λr=>some (u.1+1,none,r)) (some (a.1,some u.1,a.2.2))) (some a)
def stE(s:LN)(a:List U):StQ->Option StQ:=List.rec (motive:=λX=>StQ->Option StQ) some (λu X d b=>bd (stT s u b) d) a
def stP(s:LN):Option LN:=cs (bH (pA 34 s)) (some s) (bd (stE s (dE s 0 false 0) (0,none,[])) λa=>bd (cs (Z.ltB a.1 (.ofNat (len s))) (mX s a.1 none a.2.2) (some a.2.2)) λr=>ifb (aM (len (aT [] r))) (ifb (aM (len r)) (some (aT [] r))))
section
noncomputable abbrev sqT:Tg:=(.tup [17,19] [2180107,2180751] 2180111)
noncomputable abbrev sqB:List FS:=[
 .ife (.cmp .Eq (.var 19 2196877) (.str "\"" [34] 2197652) 2196884) [
  .ife (.cmp .Is (.var 58 2213783) (.none 2215327) 2213791) [
   .asg [.name 58 2230296] (.var 17 2231710) 2230302] [
   .ife (.cmp .NotEq (.var 57 2263448) (.var 58 2264612) 2263460) [
    .ex (.mcall (.var 59 2279962) 0 [.sli (.var 16 2281766) (some (.var 57 2282412)) (some (.var 58 2283189)) none 2282421 2281782] [] [] [] 2279969 2279991) 2279991] [] 138016139055,
   .asg [.name 57 2295829] (.bin .Add (.var 17 2296859) (.int 1 2297631) 2296863) 2295839,
   .asg [.name 58 2312216] (.none 2313631) 2312223] 135012141031] [] 134008141031]
abbrev sqF(S:SF):V->L->Hp->Option (Fl×L×Hp):=aX (cx1 S) sqT (exs (cx1 S) sqB)
noncomputable def oI?(o:Option Int):V:=byO o V.int .none
abbrev sqL(s:LN)(a:StQ):L:=[(16,.str s),(57,.int a.1),(58,oI? a.2.1),(59,.ref 0)]
noncomputable abbrev sqH(a:StQ):Hp:=[.list (a.2.2.map V.str)]
theorem zqt{u:U}{l f:StQ}(g:m=[]∨∃x y,m=[(17,x),(19,y)])(e:stT s u l=some f):sqF S (itV u) (sqL s l++m) (sqH l)=some (.next,sqL s f++[(17,.int u.1),(19,.str u.2)],sqH f):=by
 have n:sqF S (itV u) (sqL s l++m) (sqH l)=exs (cx1 S) sqB (sqL s l++[(17,.int u.1),(19,.str u.2)]) (sqH l):=by rcases g with rfl|⟨x,y,rfl⟩<;>rfl
 rw[n];obtain⟨a,o,c⟩:=l;have w:oI? none=V.none:=rfl;have t:∀p,oI? (some p)=V.int p:=λX=>rfl;have d:∀h:Hp,cY .Is (.v (.none:V)) (.v .none) h=some true:=λX=>rfl;have A:∀(p:Int) (h:Hp),cY .Is (.v (.int p:V)) (.v .none) h=some false:=λX X=>rfl;have H:∀(i j:Int) (h:Hp),hZ (.v (.str s)) (some (.v (.int i))) (some (.v (.int j))) h=bd (yV s i (some j)) λx=>some (.v (.str x)):=λi j h=>by
  show orl (bd (jY (some (.v (.int i))) (len s)) λa=>bd (lC (some (.v (.int j))) (len s)) λb=>some (RV.v (V.str (cut s a b)))) none=bd (bd (jY (some (.v (.int i))) (len s)) λa=>bd (lC (some (.v (.int j))) (len s)) λb=>some (cut s a b)) λx=>some (RV.v (V.str x));cases jY (some (.v (.int i))) (len s) with
  |none=>rfl
  |some a=>cases lC (some (.v (.int j))) (len s)<;>rfl
 have B:∀r:List LN,len (r.map V.str)=len r:=λr=>by rw[aK,aK,List.length_map]
 have Q:∀(r:List LN) (x:LN),(r++[x]).map V.str=r.map V.str++[.str x]:=λr x=>by rw[List.map_append];rfl
 have e:cs (leq u.2 [34]) (byO o (λp=>bd (cs (bH (Z.eqB a p)) (mX s a (some p) c) (some c)) λr=>some (u.1+1,none,r)) (some (a,some u.1,c))) (some (a,o,c))=some f:=e;cases q:leq u.2 [34] with
 |false=>rw[q] at e;rw[←prf e];simp only[sqB,sqL,sqH,itV,hY,q,dF,jC,xEx,kH,goN,dY,Mine.h2,za9,jM,uY,hS,uU,uX,fH,bP,cF,lZ,same,hY,dP,zy1,zy7,zy8,zy9,zcc,iH,iI,uK,lO,zgc,zw1,kD,wP,zq0,zq3,zq4,zq5,zq8,zR,jB,gF,iK,zQ,lP,kG,qK,mG,fW,iJ,kF,kE,wV,uL,fV,eY,hM,hK,aX,List.append_nil,List.nil_append,List.cons_append,List.zip_nil_left,List.nil_append,List.cons_append,List.zip_cons_cons,List.zip_nil_left,Nat.beq,Nat.ble]
 |true=>
  rw[q] at e;cases o with
  |none=>have e:some (a,some u.1,c)=some f:=e;rw[←prf e];simp only[sqB,sqL,sqH,itV,hY,q,w,t,d,dF,jC,xEx,kH,goN,dY,Mine.h2,za9,jM,uY,hS,uU,uX,fH,bP,cF,lZ,same,hY,dP,zy1,zy7,zy8,zy9,zcc,iH,iI,uK,lO,zgc,zw1,kD,wP,zq0,zq3,zq4,zq5,zq8,zR,jB,gF,iK,zQ,lP,kG,qK,mG,fW,iJ,kF,kE,wV,uL,fV,eY,hM,hK,aX,List.append_nil,List.nil_append,List.cons_append,List.zip_nil_left,List.nil_append,List.cons_append,List.zip_cons_cons,List.zip_nil_left,Nat.beq,Nat.ble]
  |some p=>
   refine aB (show bd (cs (bH (Z.eqB a p)) (mX s a (some p) c) (some c)) (λr=>some (u.1+1,none,r))=some f from e) λr k e=>?_;rw[←prf e];cases z:Z.eqB a p with
   |true=>rw[z] at k;have k:some c=some r:=k;rw[←prf k];simp only[sqB,sqL,sqH,itV,hY,q,w,t,A,z,zpd,bH,dF,jC,xEx,kH,goN,dY,Mine.h2,za9,jM,uY,hS,uU,uX,fH,bP,cF,lZ,same,hY,dP,zy1,zy7,zy8,zy9,zcc,iH,iI,uK,lO,zpb,zgc,zw1,kD,wP,zq0,zq3,zq4,zq5,zq8,zR,jB,gF,iK,zQ,lP,kG,qK,mG,fW,iJ,kF,kE,wV,uL,fV,eY,hM,hK,zpd,aX,List.append_nil,List.nil_append,List.cons_append,List.zip_nil_left,List.nil_append,List.cons_append,List.zip_cons_cons,List.zip_nil_left,Nat.beq,Nat.ble];rfl
   |false=>rw[z] at k;refine aB (show bd (yV s a (some p)) (λx=>ifb (aM (len c)) (some (c++[x])))=some r from k) λG E k=>?_;refine aJ k λC k=>?_;rw[←prf k];have D:∀a b:O,upd [a] 0 b=[b]:=λX X=>rfl;simp only[sqB,sqL,sqH,itV,hY,q,w,t,A,z,H,E,C,B,Q,D,zpd,zgf,bH,dF,jC,xEx,kH,goN,dY,Mine.h2,za9,jM,uY,hS,uU,uX,fH,bP,cF,lZ,same,hY,dP,dH,zy1,zy3,zy5,zy7,zy8,zy9,zcc,iH,jA,sE,iI,uK,lO,zL,zI,zpb,zgc,zG,zw1,kD,wP,zq0,zq3,zq4,zq5,zq8,zR,jB,gF,iK,zQ,lP,kG,qK,mG,fW,iJ,kF,kE,wV,uL,fV,eY,hM,hK,zgf,zpd,aX,List.append_nil,List.nil_append,List.cons_append,List.zip_nil_left,List.nil_append,List.cons_append,List.zip_cons_cons,List.zip_nil_left,Nat.beq,Nat.ble];rfl
theorem zem:∀{us:List U} {b a:StQ} {tl:L},(tl=[]∨∃x y,tl=[(17,x),(19,y)])->stE s us b=some a->
 ∃c,bR (sqF S) (len (us.map itV)+1) (.gen (us.map itV)) (sqL s b++tl) (sqH b)=some (.dry,sqL s a++c,sqH a)
 |[],b,a,tl,f,e=>by rw[←prf e];exact⟨tl,rfl⟩
 |u::us,b,a,tl,f,e=>by refine aB (show bd (stT s u b) (stE s us)=some a from e) λj h e=>?_;have T:=zqt (S:=S) f h;have i:bR (sqF S) (len ((u::us).map itV)+1) (.gen ((u::us).map itV)) (sqL s b++tl) (sqH b)=bd (sqF S (itV u) (sqL s b++tl) (sqH b)) (λw=>nxt w (bR (sqF S) (len (us.map itV)+1) (.gen (us.map itV)) w.2.1 w.2.2)):=rfl;rw[i,T];exact zem (us:=us) (.inr ⟨_,_,rfl⟩) e
theorem zxt(l:∀J,S 203 [.v (.str s)] [] J=some (.g (cW s 0 false 0),J))(h:stP s=some t):∃h2,F1 S zbu [.v (.str s)] [] []=some (.v (.str t),h2):=by
 have p:∀h:Hp,cY .NotIn (.v (.str [34])) (.v (.str s)) h=some (bH (pA 34 s)):=λU=>rfl;have h:cs (bH (pA 34 s)) (some s) (bd (stE s (dE s 0 false 0) (0,none,[])) λf=>bd (cs (Z.ltB f.1 (.ofNat (len s))) (mX s f.1 none f.2.2) (some f.2.2)) λr=>ifb (aM (len (aT [] r))) (ifb (aM (len r)) (some (aT [] r))))=some t:=h;cases z:pA 34 s with
 |false=>rw[z] at h;have h:some s=some t:=h;rw[←prf h];refine⟨[],?_⟩;simp only[F1,fnS,zbu,fnX,body,bC,dF,jC,xEx,kH,qL,goN,dY,qP,Mine.h2,jM,hS,zhl,uU,uX,fH,jT,bP,cF,lZ,same,dP,bB,Nat.reduceEqDiff,if_false,zy1,zy3,zy7,zy8,zy9,zcc,iH,jA,iI,zpc,zK,zH,zgd,zcd,zw1,zw4,kD,zci,zpi,zgS,zgb,zq0,zq3,zq4,zq5,zq6,zph,zR,uO,jB,gF,iK,zpf,zQ,lP,kG,qK,mG,zh8,uN,fW,iJ,kF,kE,sF,uM,fV,eY,zwp,hM,hK,wU,wR,wQ,zN,zcf,List.append_nil,List.nil_append,List.zip_cons_cons,List.zip_nil_left,zwr,List.nil_append,List.append_nil,List.cons_append,List.zip_cons_cons,List.zip_nil_left,zcg,zce,Nat.beq,p,z,bH,Nat.ble]
 |true=>
  rw[z] at h;refine aB (show bd (stE s (dE s 0 false 0) (0,none,[])) (λf=>bd (cs (Z.ltB f.1 (.ofNat (len s))) (mX s f.1 none f.2.2) (some f.2.2)) λr=>ifb (aM (len (aT [] r))) (ifb (aM (len r)) (some (aT [] r))))=some t from h) λf B h=>?_;refine aB h λr e h=>?_;refine aJ h λn h=>?_;refine aJ h λm h=>?_;obtain⟨D,j⟩:=zem (S:=S) (s:=s) (tl:=[]) (.inl rfl) B;rw[←pL] at j;have j:bR (sqF S) (len (cW s 0 false 0)+1) (.gen (cW s 0 false 0)) [(16,.str s),(57,.int (.ofNat 0)),(58,.none),(59,.ref 0)] [.list []]=_:=j;have l:=l [.list []];have q:∀T:List V,vK (.g T) [.list []]=some (.gen T):=λU=>rfl;have y:∀T:List V,mA (.gen T) [.list []]=len T+1:=λU=>rfl;rw[←prf h];refine⟨[.list (r.map V.str)],?_⟩;obtain⟨a,o,c⟩:=f;have w:∀r:List LN,iP (r.map V.str)=some r:=mV;have d:∀r:List LN,len (r.map V.str)=len r:=λr=>by rw[aK,aK,List.length_map]
  have Q:∀(r:List LN) (x:LN),(r++[x]).map V.str=r.map V.str++[.str x]:=λr x=>by rw[List.map_append];rfl
  have H:∀(i:Int) (h:Hp),hZ (.v (.str s)) (some (.v (.int i))) none h=bd (yV s i none) λx=>some (.v (.str x)):=λi h=>by show orl (bd (jY (some (.v (.int i))) (len s)) λa=>bd (lC none (len s)) λb=>some (RV.v (V.str (cut s a b)))) none=bd (bd (jY (some (.v (.int i))) (len s)) λa=>bd (lC none (len s)) λb=>some (cut s a b)) λx=>some (RV.v (V.str x));cases jY (some (.v (.int i))) (len s)<;>rfl
  have A:∀a b:O,upd [a] 0 b=[b]:=λU U=>rfl;have u:len ([]:Hp)=0:=rfl;cases k:Z.ltB a (.ofNat (len s)) with
  |false=>have e:cs (Z.ltB a (.ofNat (len s))) (mX s a none c) (some c)=some r:=e;rw[k] at e;have e:some c=some r:=e;rw[←prf e] at n m⊢;simp only[F1,fnS,zbu,fnX,body,bC,dF,jC,xEx,kH,qL,goN,dY,qP,Mine.h2,jM,hS,zhl,uU,uX,fH,jT,bP,cF,lZ,same,dP,bB,Nat.reduceEqDiff,if_false,zy1,zy3,zy7,zy8,zy9,zcc,iH,jA,iI,zpc,zK,zH,zgd,zcd,zw1,zw4,kD,zci,zpi,zgS,zq0,zq3,zq4,zq5,zq6,zph,zR,uO,jB,gF,iK,zpf,zQ,lP,kG,qK,mG,zh8,uN,fW,iJ,kF,kE,sF,uM,fV,eY,zwp,hM,hK,zpe,wU,wR,wQ,zN,zcf,List.append_nil,List.nil_append,List.cons_append,List.zip_cons_cons,List.zip_nil_left,zwr,sqF,sqT,sqB,sqL,sqH,List.nil_append,List.append_nil,List.cons_append,List.zip_cons_cons,List.zip_nil_left,zcg,zce,Nat.beq,p,z,bH,l,q,y,u,Nat.ble] at j⊢;rw[j];simp only[Mine.h2,dH,zy1,zy3,zy7,zy8,jA,sE,lO,zL,zI,zwm,zG,zw1,zw4,zw9,zgb,fW,eY,zgf,zu7,zwo,ycn,ycm,List.nil_append,List.append_nil,List.cons_append,Nat.beq,zgf,k,w,n,m,Nat.ble]
  |true=>have e:cs (Z.ltB a (.ofNat (len s))) (mX s a none c) (some c)=some r:=e;rw[k] at e;refine aB (show bd (yV s a none) (λx=>ifb (aM (len c)) (some (c++[x])))=some r from e) λG E e=>?_;refine aJ e λC e=>?_;rw[←prf e] at n m⊢;simp only[F1,fnS,zbu,fnX,body,bC,dF,jC,xEx,kH,qL,goN,dY,qP,Mine.h2,jM,hS,zhl,uU,uX,fH,jT,bP,cF,lZ,same,dP,bB,Nat.reduceEqDiff,if_false,zy1,zy3,zy7,zy8,zy9,zcc,iH,jA,iI,zpc,zK,zH,zgd,zcd,zw1,zw4,kD,zci,zpi,zgS,zq0,zq3,zq4,zq5,zq6,zph,zR,uO,jB,gF,iK,zpf,zQ,lP,kG,qK,mG,zh8,uN,fW,iJ,kF,kE,sF,uM,fV,eY,zwp,hM,hK,zpe,wU,wR,wQ,zN,zcf,List.append_nil,List.nil_append,List.cons_append,List.zip_cons_cons,List.zip_nil_left,zwr,sqF,sqT,sqB,sqL,sqH,List.nil_append,List.append_nil,List.cons_append,List.zip_cons_cons,List.zip_nil_left,zcg,zce,Nat.beq,p,z,bH,l,q,y,u,Nat.ble] at j⊢;rw[j];simp only[Mine.h2,dH,zy1,zy3,zy5,zy7,zy8,iH,jA,sE,iI,lO,zL,zI,zwm,zG,zw1,zw4,zw9,zgb,fW,eY,zgf,zu7,zwo,ycn,ycm,List.nil_append,List.append_nil,List.cons_append,Nat.beq,zgf,k,H,E,C,d,A,←Q,w,n,m,Nat.ble]
end
noncomputable def cR(l:LN):Bool->LN->Option LN->LN:=List.rec (motive:=λU=>Bool->LN->Option LN->LN) (λU a U=>a)
 (λc U d b a e=>cs b (d false (a++[c]) e) (cs (Nat.beq c 92) (d true (a++[92]) e) (cs (Nat.beq c 34) (byO e (λm=>m++d false [] none) (d false (a++[34]) (some a))) (d false (a++[c]) e)))) l
theorem iU:∀l:List LN,aT [] l=l.flatten
 |[]=>rfl
 |[x]=>by show x=x++[];rw[List.append_nil]
 |x::y::r=>by show x++[]++aT [] (y::r)=x++(y::r).flatten;rw[iU (y::r),List.append_nil]
theorem eG{c:Type}(a b:List c):len (a++b)=len a+len b:=by rw[aK,aK,aK,List.length_append]
theorem nD(h:n≤60000):small (.ofNat n)=true:=Qd (show n+1≤4611686018427387904 by lia)
theorem lM(h:n≤60000):aM n=true:=Qd (Qi h (by decide))
theorem tZ(h:k≤n):bnd (.ofNat k) n=k:=by show cs (Nat.ble k n) k n=k;rw[Nat.ble_eq_true_of_le h];rfl
theorem ztn(A m X:LN)(h:len (A++(m++X))≤60000):yV (A++(m++X)) (.ofNat (len A)) (some (.ofNat (len A+len m)))=some m:=by rw[eG,eG] at h;show bd (ifb (small (.ofNat (len A))) (some (bnd (.ofNat (len A)) (len (A++(m++X)))))) (λa=>bd (ifb (small (.ofNat (len A+len m))) (some (bnd (.ofNat (len A+len m)) (len (A++(m++X)))))) λb=>some (cut (A++(m++X)) a b))=_;rw[nD (by lia),nD (by lia),tZ (by rw[eG];lia),tZ (by rw[eG,eG];lia)];show some ((List.drop (len A) (A++(m++X))).take (len A+len m-len A))=some m;rw[Nat.add_sub_cancel_left,aK,aK,List.drop_left,List.take_left]
theorem zto(A X:LN)(h:len (A++X)≤60000):yV (A++X) (.ofNat (len A)) none=some X:=by rw[eG] at h;show bd (ifb (small (.ofNat (len A))) (some (bnd (.ofNat (len A)) (len (A++X))))) (λa=>some (cut (A++X) a (len (A++X))))=_;rw[nD (by lia),tZ (by rw[eG];lia)];show some ((List.drop (len A) (A++X)).take (len (A++X)-len A))=some X;rw[eG,Nat.add_sub_cancel_left,aK,aK,List.drop_left,List.take_length]
def zhr(s:LN)(a:StQ):Option LN:=bd (cs (Z.ltB a.1 (.ofNat (len s))) (mX s a.1 none a.2.2) (some a.2.2)) λr=>ifb (aM (len (aT [] r))) (ifb (aM (len r)) (some (aT [] r)))
theorem zfn(a:List LN)(x:LN):(a++[x]).flatten=a.flatten++x:=by rw[List.flatten_append];show _++(x++[])=_;rw[List.append_nil]
theorem ybb(f:len s≤50000)(e:s=A++a)(M:len res≤len s)(B:len res.flatten≤len A):zhr s (.ofNat (len A),o,res)=some (res.flatten++a):=by
 have i:len s=len A+len a:=by rw[e,eG]
 have c:Z.ltB (.ofNat (len A)) (.ofNat (len s))=Nat.blt (len A) (len s):=rfl;show bd (cs (Z.ltB (.ofNat (len A)) (.ofNat (len s))) (mX s (.ofNat (len A)) none res) (some res)) _=_;rw[c];cases z:Nat.blt (len A) (len s) with
 |true=>
  have:mX s (.ofNat (len A)) none res=some (res++[a]):=by show bd (yV s (.ofNat (len A)) none) _=_;rw[e,zto A a (by rw[←e];lia)];show ifb (aM (len res)) _=_;rw[lM (by lia)];rfl
  rw[this];show ifb (aM (len (aT [] (res++[a])))) (ifb (aM (len (res++[a]))) (some (aT [] (res++[a]))))=_;rw[iU,zfn,lM (by rw[eG];lia),lM (by rw[eG];show len res+1≤60000;lia)];rfl
 |false=>
  have b:len a=0:=by
   have:¬len A<len s:=λh=>by rw[show Nat.blt (len A) (len s)=true from Nat.ble_eq_true_of_le h] at z;cases z
   lia
  have b:a=[]:=by
   cases a with
   |nil=>rfl
   |cons x r=>cases(show len r+1=0 from b)
  show ifb (aM (len (aT [] res))) (ifb (aM (len res)) (some (aT [] res)))=_;rw[iU,lM (by lia),lM (by lia),b,List.append_nil];rfl
theorem ykt(c:Nat):leq [c] [34]=Nat.beq c 34:=by show cs (Nat.beq c 34) true false=_;cases Nat.beq c 34<;>rfl
theorem oN(t:len s≤50000):∀(l:LN) (b:Bool) (i:Nat) (p:Int) (A f:LN) (k:Option LN) (o:Option Int) (a:List LN),
 s=A++(f++l)->i=len A+len f->((k=none/\o=none)∨∃m y,k=some m/\o=some (.ofNat (len A+len m))/\f=m++y)->len a≤i->len a.flatten≤len A->
 bd (stE s (dE l i b p) (.ofNat (len A),o,a)) (zhr s)=some (a.flatten++cR l b f k)
 |[],b,i,p,A,f,k,o,a,e,d,Q,M,h2=>by
  rw[List.append_nil] at e;have E:len s=len A+len f:=by rw[e,eG]
  have F:=ybb (o:=o) t e (by lia) h2;cases b with
  |true=>exact F
  |false=>exact F
 |c::r,b,i,p,A,f,k,o,a,e,d,Q,M,h2=>by
  have v:∀x,s=A++(f++x::r)->s=A++((f++[x])++r):=λx h=>by rw[h,List.append_assoc f];rfl
  have E:len s=len A+(len f+(len r+1)):=by rw[e,eG,eG];rfl
  have u:∀x:Nat,i+1=len A+len (f++[x]):=λx=>by rw[eG];show i+1=len A+(len f+1);lia
  have n:∀x:Nat,(k=none/\o=none)∨∃m y,k=some m/\o=some (.ofNat (len A+len m))/\f++[x]=m++y:=λx=>by
   rcases Q with h|⟨m,y,g1,g2,g3⟩
   · exact .inl h
   · exact .inr ⟨m,y++[x],g1,g2,by rw[g3,List.append_assoc]⟩
  cases b with
  |true=>exact oN t r false (i+1) i A (f++[c]) k o a (v c e) (u c) (n c) (by lia) h2
  |false=>
   show bd (stE s (cs (Nat.beq c 92) (dE r (i+1) true i) ((.ofNat i,[c])::dE r (i+1) false i)) (.ofNat (len A),o,a)) (zhr s)=some (a.flatten++cs (Nat.beq c 92) (cR r true (f++[92]) k) (cs (Nat.beq c 34) (byO k (λm=>m++cR r false [] none) (cR r false (f++[34]) (some f))) (cR r false (f++[c]) k)));cases z:Nat.beq c 92 with
   |true=>rw[aN z] at e;exact oN t r true (i+1) i A (f++[92]) k o a (v 92 e) (u 92) (n 92) (by lia) h2
   |false=>
    show bd (bd (cs (leq [c] [34]) (byO o (λp=>bd (cs (bH (Z.eqB (.ofNat (len A)) p)) (mX s (.ofNat (len A)) (some p) a) (some a)) λr=>some (.ofNat i+1,none,r)) (some (.ofNat (len A),some (.ofNat i),a))) (some (.ofNat (len A),o,a))) λD=>stE s (dE r (i+1) false i) D) (zhr s)=some (a.flatten++cs (Nat.beq c 34) (byO k (λm=>m++cR r false [] none) (cR r false (f++[34]) (some f))) (cR r false (f++[c]) k));rw[ykt];cases y:Nat.beq c 34 with
    |false=>exact oN t r false (i+1) i A (f++[c]) k o a (v c e) (u c) (n c) (by lia) h2
    |true=>
     rw[aN y] at e;rcases Q with⟨rfl,rfl⟩|⟨m,w,rfl,rfl,rfl⟩
     · exact oN t r false (i+1) i A (f++[34]) (some f) (some (.ofNat i)) a (v 34 e) (u 34) (.inr ⟨f,[34],rfl,by rw[d],rfl⟩) (by lia) h2
     · have g:s=A++(m++(w++34::r)):=by rw[e,List.append_assoc m]
       have R:∃j,bd (cs (bH (Z.eqB (.ofNat (len A)) (.ofNat (len A+len m)))) (mX s (.ofNat (len A)) (some (.ofNat (len A+len m))) a) (some a)) (λr=>some ((.ofNat i+1:Int),(none:Option Int),r))=some (.ofNat i+1,none,j)/\j.flatten=a.flatten++m/\len j≤len a+1:=by
        have C:Z.eqB (.ofNat (len A)) (.ofNat (len A+len m))=Nat.beq (len A) (len A+len m):=rfl;rw[C];cases q:Nat.beq (len A) (len A+len m) with
        |true=>
         have:len m=0:=by have:=aN q;lia
         have:m=[]:=by
          cases m with
          |nil=>rfl
          |cons x r=>cases(show len r+1=0 from this)
         exact⟨a,rfl,by rw[this,List.append_nil],by lia⟩
        |false=>
         refine⟨a++[m],?_,zfn _ _,by rw[eG];exact Qm _⟩;have:mX s (.ofNat (len A)) (some (.ofNat (len A+len m))) a=some (a++[m]):=by show bd (yV s (.ofNat (len A)) (some (.ofNat (len A+len m)))) _=_;rw[g,ztn A m _ (by rw[←g];lia)];show ifb (aM (len a)) _=_;rw[lM (by lia)];rfl
         rw[this];rfl
       obtain⟨j,I,B,J⟩:=R;show bd (bd (bd (cs (bH (Z.eqB (.ofNat (len A)) (.ofNat (len A+len m)))) (mX s (.ofNat (len A)) (some (.ofNat (len A+len m))) a) (some a)) (λr=>some ((.ofNat i+1:Int),(none:Option Int),r))) λD=>stE s (dE r (i+1) false i) D) (zhr s)=some (a.flatten++(m++cR r false [] none));rw[I,←List.append_assoc,←B];have H:len (A++(m++w++[34]))=i+1:=by rw[eG,eG];show len A+(len (m++w)+1)=i+1;lia
       have G:=oN t r false (i+1) i (A++(m++w++[34])) [] none none j (by rw[e];simp only[List.append_assoc,List.nil_append,List.cons_append]) (by rw[H];rfl) (.inl ⟨rfl,rfl⟩) (by lia) (by rw[H,B,eG];rw[eG] at d;lia);rw[H] at G;exact G
theorem mZ:∀(l:LN) (b:Bool) (a:LN) (f:Option LN),pA 34 l=false->cR l b a f=a++l
 |[],b,a,f,_=>(List.append_nil a).symm
 |c::r,b,a,f,h=>by
  have h:cs (Nat.beq c 34) true (pA 34 r)=false:=h;cases z:Nat.beq c 34 with
  |true=>rw[z] at h;cases h
  |false=>
   rw[z] at h;show cs b (cR r false (a++[c]) f) (cs (Nat.beq c 92) (cR r true (a++[92]) f) (cs (Nat.beq c 34) _ (cR r false (a++[c]) f)))=a++c::r;have e:∀x:Nat,a++x::r=(a++[x])++r:=λx=>by rw[List.append_assoc];rfl
   rw[z];cases b with
   |true=>rw[e];exact mZ r false _ f h
   |false=>
    cases y:Nat.beq c 92 with
    |true=>rw[aN y,e];exact mZ r true _ f h
    |false=>rw[e];exact mZ r false _ f h
theorem zcu(a:len s≤50000):stP s=some (cR s false [] none):=by
 show cs (bH (pA 34 s)) (some s) (bd (stE s (dE s 0 false 0) (0,none,[])) (zhr s))=_;cases z:pA 34 s with
 |false=>rw[mZ s false [] none z];rfl
 |true=>exact oN a s false 0 0 [] [] none none [] rfl rfl (.inl ⟨rfl,rfl⟩) (Qm _) (Qm _)
noncomputable section
noncomputable abbrev so(s:String):Str:=Str.ofString s
noncomputable abbrev de(P:Params)(k:Str)(t:Tok)(v:Value):DictEntry:=⟨PyData.keyHash P k,.str k t,v⟩
abbrev dr(P:Params)(k:String)(t:Tok)(r:Nat):DictEntry:=de P (so k) t (.ref r)
abbrev ds(P:Params)(k:String)(t:Tok)(v:Value):DictEntry:=de P (so k) t v
noncomputable abbrev oS(s:String)(t:Tok):Value:= .str (so s) t
abbrev dI(n:Nat)(t:Nat)(s:String):DictEntry:=⟨.ofNat n,.int (.ofNat n) t,oS s (t+1)⟩
noncomputable abbrev oIk(l:LN):List Value:=l.map λx=> .int (.ofNat x) 0
abbrev aL(r:Nat)(l:List (Nat×Nat×Nat)):List Arg:=l.map λx=>⟨nm x.1,none,⟨r,x.2.1,r,x.2.2⟩⟩
abbrev aO(r:Nat)(l:List (Nat×Nat×Nat))(d:List Expr):Arguments:=⟨[],aL r l,none,[],[],none,d⟩
noncomputable abbrev agF:Arguments:=⟨[],[⟨"param",none,⟨9,17,9,22⟩⟩,⟨"value",none,⟨9,24,9,29⟩⟩,⟨"quote",none,⟨9,36,9,41⟩⟩],none,[],[],none,[(.Constant .none 0 ⟨9,30,9,34⟩),(.Constant (.int 1) 0 ⟨9,42,9,43⟩)]⟩
noncomputable abbrev agH:Arguments:=⟨[],[⟨"self",none,⟨20,17,20,21⟩⟩,⟨"headers",none,⟨20,23,20,30⟩⟩],none,[],[],none,[(.Constant .none 0 ⟨20,31,20,35⟩)]⟩
noncomputable abbrev agG:Arguments:=⟨[],[⟨"self",none,⟨58,12,58,16⟩⟩,⟨"name",none,⟨58,18,58,22⟩⟩,⟨"default",none,⟨58,24,58,31⟩⟩],none,[],[],none,[(.Constant .none 0 ⟨58,32,58,36⟩)]⟩
abbrev fA(l:LN):List (Str×Const):=l.map λx=>(so "fast",.str (nm x))
noncomputable abbrev iO(x:Nat):Value:= .int (.ofNat x) 0
def fO(i:Nat)(n q:String)(t l a k f h:Nat)(b:Bool)(A:Arguments)(B:List Stmt)(C:Scope)(d m:Value)(K:Frag):Frag:=
 (i,.mk (.type "code") none (.fields #[oS n t,oS q (t+1),oS "/claim/cut.py" (t+2),iO l,iO a,iO 0,iO k,iO f,.ref (i-cs b 5 3),.bool true,iO 276,.ref (i-cs b 4 2),.none,cs b (.ref (i-3)) .none,cs b (.ref (i-2)) .none,.ref (i-1),iO h,iO l,oS "/claim/cut.py" (h+1)]) #[])::
 (i+1,.mk (.type "function") none (.func (.mk (so n) (so q) A (.stmts B) C 3 [] d .none .none m none (.ref i) .none 0)) #[])::K
noncomputable abbrev pO(i:Nat)(o:Obj)(K:Frag):Frag:=(i,o)::K
abbrev fQ(i:Nat)(n:String):=fO i n n
def K1(P:Params):Frag:=
 pO 2 (.mk .none none (.dict #[ds P "\x69mport.loaded._sre" 183 (.bool true),dr P "class._frozen_importlib.BuiltinImporter" 185 14,dr P "watched.\x69mport" 206 18,dr P "class._frozen_importlib.ModuleSpec" 216 22,ds P "sys.modules.booked-epoch" 245 (.int 3 0),ds P "\x69mport.later-laid._sre" 270 (.bool true),dr P "watched.library" 272 27,ds P "watched.library-objects" 0 (oS "\x0c" 0),ds P "watched.library-deep._sre" 273 (oS "\x04\x00\x00\x0b\x04\x00\x00\x0b\x04\x00\x00\x03\x04\x00\x00\x0b\x08\x04dict\x02" 0)] 9) #[])<|
 pO 3 (.mk (.type "dict") none (.dict #[ds P "__name__" 165 (oS "law_wn0122_01" 733),ds P "__doc__" 166 .none,ds P "__package__" 167 .none,ds P "__loader__" 168 (.builtin "__main__.__loader__#opaque"),ds P "__spec__" 169 .none,dr P "__annotations__" 170 6,dr P "__builtins__" 171 4,ds P "__file__" 173 (oS "/claim/cut.py" 172),ds P "__cached__" 174 .none,dr P "_sre" 275 12,dr P "_wall" 288 38,dr P "tspecials" 324 43,dr P "_name_disallowed_re" 350 48,dr P "_value_disallowed_re" 384 53,dr P "_formatparam" 394 61,dr P "Headers" 553 184,dr P "COMPILER_FLAG_NAMES" 586 189,dr P "pretty_flags" 596 196,dr P "_iter_escaped_chars" 608 203,dr P "_strip_quoted_realnames" 620 210,dr P "_check_parenthesis" 630 217,dr P "Whitespace" 732 279,dr P "_law_digits" 745 290,dr P "_law_outline" 751 295,dr P "_law_column" 761 302,dr P "_law_ring" 774 309,dr P "_law_climb" 783 316,dr P "_law_exchange" 794 323,dr P "_law_mate" 803 330,dr P "law" 809 335] 30) #[])<|
 pO 42 (.mk (.type "tuple") none (.seq ⟨oIk [14,14,4,1,1,9,0,4227896069,939524097,0,0,0,0,0,0,13,11,9,0,4227896069,939524097,0,0,0,0,0,0,1]⟩ 0) #[])<|
 pO 43 (.mk (.type "re.Pattern") none (.fields #[(oS "[ \\(\\)<>@,;:\\\\\"/\\[\\]\\?=]" 292),(.int 32 323),(.int 0 0),.none,.none,(.ref 42),(.int 0 0)]) #[])<|
 pO 47 (.mk (.type "tuple") none (.seq ⟨oIk [14,10,4,1,1,22,0,31,16,127,0,13,7,22,0,31,16,127,0,1]⟩ 0) #[])<|
 pO 48 (.mk (.type "re.Pattern") none (.fields #[(oS "[\\x00-\\x1F\\x7F]" 326),(.int 32 349),(.int 0 0),.none,.none,(.ref 47),(.int 0 0)]) #[])<|
 pO 52 (.mk (.type "tuple") none (.seq ⟨oIk [14,14,4,1,1,9,4294966783,0,0,2147483648,0,0,0,0,0,13,11,9,4294966783,0,0,2147483648,0,0,0,0,0,1]⟩ 0) #[])<|
 pO 53 (.mk (.type "re.Pattern") none (.fields #[(oS "[\\x00-\\x08\\x0A-\\x1F\\x7F]" 352),(.int 32 383),(.int 0 0),.none,.none,(.ref 52),(.int 0 0)]) #[])<|
 pO 54 (.mk (.type "tuple") none (.seq #[.none,(.int 1 385)] 0) #[])<|
 fQ 60 "_formatparam" 386 9 3 0 3 392 true agF (tSs nm mD) (scM nm iW []) (.ref 54) (oS "cpy313.wsgiref.headers" 289)<|
 pO 69 (.mk (.type "tuple") none (.seq #[.none] 0) #[])<|
 fO 75 "__init__" "Headers.__init__" 407 20 2 0 3 414 true agH (tSs nm hG) (scM nm eO []) (.ref 69) (oS "cpy313.wsgiref.headers" 289)<|
 fO 82 "_convert_string_type" "Headers._convert_string_type" 417 30 2 1 3 424 true (.mk [] (aL 30 [(29,29,33),(21,35,40)]) none (aL 30 [(33,45,49)]) [none] none []) (tSs nm bA) (scM nm cI []) .none (oS "cpy313.wsgiref.headers" 289)<|
 fO 96 "__setitem__" "Headers.__setitem__" 434 41 3 0 3 440 true (aO 41 [(29,20,24),(33,26,30),(43,32,35)] []) (tSs nm eM) (scM nm fL []) .none (oS "cpy313.wsgiref.headers" 289)<|
 fO 101 "__delitem__" "Headers.__delitem__" 443 45 2 0 3 446 false (aO 45 [(29,20,24),(33,26,30)] []) (tSs nm eP) (scM nm fM (fA [29,33,44])) .none (oS "cpy313.wsgiref.headers" 289)<|
 pO 124 (.mk (.type "tuple") none (.seq #[.none] 0) #[])<|
 fO 130 "get" "Headers.get" 473 58 3 0 3 481 true agG (tSs nm bT) (scM nm fD []) (.ref 124) (oS "cpy313.wsgiref.headers" 289)<|
 fO 140 "values" "Headers.values" 490 68 1 0 3 493 false (aO 68 [(29,15,19)] []) (tSs nm iX) (scM nm fU (fA [29,31,32])) .none (oS "cpy313.wsgiref.headers" 289)<|
 fO 147 "items" "Headers.items" 496 71 1 0 3 500 true (aO 71 [(29,14,18)] []) (tSs nm jW) (scM nm gZ []) .none (oS "cpy313.wsgiref.headers" 289)<|
 fO 180 "add_header" "Headers.add_header" 532 86 3 0 11 542 true (.mk [] (aL 86 [(29,19,23),(49,25,30),(47,32,38)]) none [] [] (some (.mk (nm 15) none (.mk 86 42 86 49))) []) (tSs nm kX) (scM nm aY []) .none (oS "cpy313.wsgiref.headers" 289)<|
 pO 183 (.mk (.type "dict") none (.dict #[ds P "__module__" 402 (oS "cpy313.wsgiref.headers" 289),ds P "__firstlineno__" 406 (.int 18 405),dr P "__init__" 416 76,dr P "_convert_string_type" 426 83,dr P "__len__" 433 90,dr P "__setitem__" 442 97,dr P "__delitem__" 448 102,dr P "__getitem__" 456 109,dr P "__contains__" 464 116,dr P "get_all" 472 123,dr P "get" 483 131,dr P "keys" 489 136,dr P "values" 495 141,dr P "items" 502 148,dr P "__repr__" 509 155,dr P "__str__" 515 160,dr P "__bytes__" 522 167,dr P "setdefault" 531 174,dr P "add_header" 544 181,dr P "__static_attributes__" 546 182,dr P "__dict__" 548 185,dr P "__weakref__" 550 186,ds P "__doc__" 551 .none] 4) #[])<|
 pO 184 (.mk (.type "type") none (.cls (.mk (so "Headers") [(.type "object")] [(.ref 184),(.type "object")] 183 (so "Headers") true [] [] false none false)) #[none,none,(some (oS "Headers" 395)),(some (oS "Headers" 403)),(some (.builtin "object.__new__")),(some (.bool true))])<|
 pO 189 (.mk (.type "dict") none (.dict #[dI 1 556 "OPTIMIZED",dI 2 558 "NEWLOCALS",dI 4 560 "VARARGS",dI 8 562 "VARKEYWORDS",dI 16 564 "NESTED",dI 32 566 "GENERATOR",dI 64 568 "NOFREE",dI 128 570 "COROUTINE",dI 256 572 "ITERABLE_COROUTINE",dI 512 574 "ASYNC_GENERATOR"] 10) #[])<|
 fQ 195 "pretty_flags" 587 101 1 0 3 594 true (aO 101 [(54,17,22)] []) (tSs nm kU) (scM nm iD []) .none (oS "cpy313.dis" 554)<|
 fQ 202 "_iter_escaped_chars" 599 114 1 0 35 606 true (aO 114 [(16,24,28)] []) (fI nm 115) (scG nm gsc) .none (oS "cpy313.email.utils" 597)<|
 fQ 209 "_strip_quoted_realnames" 609 127 1 0 3 618 true (aO 127 [(16,28,32)] []) (tSs nm bC) (scM nm dD []) .none (oS "cpy313.email.utils" 597)<|
 fQ 216 "_check_parenthesis" 621 145 1 0 3 628 true (aO 145 [(16,23,27)] []) (tSs nm dS) (scM nm eK []) .none (oS "cpy313.email.utils" 597)<|
 fO 233 "__init__" "Whitespace.__init__" 650 160 2 0 3 662 true (aO 160 [(29,17,21),(64,23,25)] []) (tSs nm iF) (scM nm fK []) .none (oS "cpy313.tabnanny" 631)<|
 fO 240 "longest_run_of_spaces" "Whitespace.longest_run_of_spaces" 665 183 1 0 3 671 true (aO 183 [(29,30,34)] []) (tSs nm bV) (scM nm bM []) .none (oS "cpy313.tabnanny" 631)<|
 fO 247 "indent_level" "Whitespace.indent_level" 674 187 2 0 3 683 true (aO 187 [(29,21,25),(78,27,34)] []) (tSs nm dR) (scM nm cV []) .none (oS "cpy313.tabnanny" 631)<|
 fO 268 "less" "Whitespace.less" 702 200 2 0 3 709 true (aO 200 [(29,13,17),(79,19,24)] []) (tSs nm eL) (scM nm fJ []) .none (oS "cpy313.tabnanny" 631)<|
 pO 278 (.mk (.type "dict") none (.dict #[ds P "__module__" 640 (oS "cpy313.tabnanny" 631),ds P "__firstlineno__" 644 (.int 157 643),ds P "S" 648 (oS " " 646),ds P "T" 649 (oS "\t" 647),dr P "__init__" 664 234,dr P "longest_run_of_spaces" 673 241,dr P "indent_level" 685 248,dr P "equal" 693 255,dr P "not_equal_witness" 701 262,dr P "less" 711 269,dr P "not_less_witness" 719 276,dr P "__static_attributes__" 725 277,dr P "__dict__" 727 280,dr P "__weakref__" 729 281,ds P "__doc__" 730 .none] 4) #[])<|
 pO 279 (.mk (.type "type") none (.cls (.mk (so "Whitespace") [(.type "object")] [(.ref 279),(.type "object")] 278 (so "Whitespace") true [] [] false none false)) #[none,none,(some (oS "Whitespace" 633)),(some (oS "Whitespace" 641)),(some (.builtin "object.__new__")),(some (.bool true))])<|
 fQ 289 "_law_digits" 735 214 2 0 3 743 true (aO 214 [(86,16,22),(85,24,29)] []) (tSs nm nR) (scM nm jU []) .none (oS "law_wn0122_01" 733)<|
 fQ 294 "_law_outline" 746 220 1 0 3 749 false (aO 220 [(96,17,22)] []) (tSs nm bD) (scM nm iV (fA [96,89,90,91,92,93,94,95,97,98,99,100,31,102])) .none (oS "law_wn0122_01" 733)<|
 fQ 301 "_law_column" 752 231 2 0 3 759 true (aO 231 [(105,16,20),(106,22,26)] []) (tSs nm cH) (scM nm jV []) .none (oS "law_wn0122_01" 733)<|
 fQ 308 "_law_ring" 762 238 4 0 3 772 true (aO 238 [(31,14,15),(110,17,19),(89,21,24),(92,26,31)] []) (tSs nm tL) (scM nm mB []) .none (oS "law_wn0122_01" 733)<|
 fQ 315 "_law_climb" 775 246 3 0 3 781 true (aO 246 [(112,15,16),(31,18,19),(89,21,24)] []) (tSs nm qD) (scM nm kW []) .none (oS "law_wn0122_01" 733)<|
 fQ 322 "_law_exchange" 784 250 3 0 3 792 true (aO 250 [(115,18,22),(116,24,27),(79,29,34)] []) (tSs nm gX) (scM nm iE []) .none (oS "law_wn0122_01" 733)<|
 fQ 329 "_law_mate" 795 254 2 0 3 801 true (aO 254 [(117,14,17),(51,19,20)] []) (tSs nm tM) (scM nm mC []) .none (oS "law_wn0122_01" 733)<|
 fQ 334 "law" 804 259 1 0 3 807 false (aO 259 [(120,8,14)] []) (tSs nm nS) (scM nm bK (fA [120,31,57,96,89,91,92,93,122,123,124,116,98,125,126,100,127,130,131,33,135,105,137,106,138,79,113,114,140,115,109,50,142,143,144,145,146,54,147,149,151,152,153,117,154,155,157,156,62,158,159,161,104,94,162,163,164,165,166,167,51,112,169,172])) .none (oS "law_wn0122_01" 733)<|
 []
end
noncomputable section
abbrev OmL(a:Program)(w:World)(b:Heap)(W:WkT):Bx:=⟨a,w,nmL,b,W⟩
theorem jI:nmL.length=173:=rfl
noncomputable def nW(l:LN):Nat:=l.foldl (λa c=>a*300+c+1) 0
def cdN(i:Nat):Nat:=nW (nm i).cps.toList
theorem zn2:aP 173 (λx=>aP 173 λy=>match Nat.beq (cdN x) (cdN y) with|true=>Nat.beq x y|false=>true)=true:=by decide+kernel
theorem zkp:∀x y,x<nmL.length->y<nmL.length->nm x=nm y->x=y:=by
 intro x y j a e;rw[jI] at j a;have M:=aG (p:=λx=>aP 173 λy=>match Nat.beq (cdN x) (cdN y) with|true=>Nat.beq x y|false=>true) zn2 x j;have B:=aG (p:=λy=>match Nat.beq (cdN x) (cdN y) with|true=>Nat.beq x y|false=>true) M y a;have A:Nat.beq (cdN x) (cdN y)=true:=by unfold cdN;rw[e];exact Ql _
 simp only[A] at B;exact aN B
theorem zrv:aP 173 (λx=>match Nat.beq (cdN x) (nW (Str.ofString "__debug__").cps.toList) with|true=>false|false=>(match Nat.beq (cdN x) (nW (Str.ofString "__classdict__").cps.toList) with|true=>false|false=>true))=true:=by decide+kernel
set_option tactic.hygienic true in
theorem zkq:∀x,x<nmL.length->(nm x==("__debug__":Str))=false/\(nm x==("__classdict__":Str))=false:=by
 intro x j;rw[jI] at j;have h:=aG (p:=λx=>match Nat.beq (cdN x) (nW (Str.ofString "__debug__").cps.toList) with|true=>false|false=>(match Nat.beq (cdN x) (nW (Str.ofString "__classdict__").cps.toList) with|true=>false|false=>true)) zrv x j;split at h
 · cases h
 · rename_i b
   split at h
   · cases h
   · rename_i a
     constructor
     · cases z:nm x==("__debug__":Str) with
       |false=>rfl
       |true=>
        have:=eq_of_beq z;have A:Nat.beq (cdN x) (nW (Str.ofString "__debug__").cps.toList)=true:=by unfold cdN;rw[this];exact Ql _
        rw[A] at b;cases b
     · cases z:nm x==("__classdict__":Str) with
       |false=>rfl
       |true=>
        have:=eq_of_beq z;have A:Nat.beq (cdN x) (nW (Str.ofString "__classdict__").cps.toList)=true:=by unfold cdN;rw[this];exact Ql _
        rw[A] at a;cases a
theorem yfc:NM (OmL a w b W):=⟨rfl,rfl,rfl,rfl,rfl,rfl,rfl,rfl,rfl⟩
noncomputable def ycd(P:Params)(p:Nat×V):Prop:=p.1<nmL.length/\((∃a,p.2= .top a/\nsIn (K1 P) mainGlobals (nm p.1)=some (some (.ref a)))∨
 (∃b,p.2= .bi b/\nsIn (K1 P) mainGlobals (nm p.1)=some none/\bootBuiltins (nm p.1)=some b.val/\nm p.1≠"__name__"))
theorem bQ{a:Type}:∀{l:List (Nat×a)} {x:Nat} {v:a},look l x=some v->(x,v)∈l
 |p::r,x,v,h=>by
  rcases fZ h with⟨q,b⟩|h
  · rw[←q,←b];exact .head _
  · exact .tail _ (bQ h)
theorem yk2(h:x<173)(e:nsIn (K1 P) mainGlobals (nm x)=some (some (.ref a))):ycd P (x,.top a):=⟨by rw[jI];exact h,.inl ⟨a,rfl,e⟩⟩
theorem yk3(h:x<173)(e:nsIn (K1 P) mainGlobals (nm x)=some none)(c:bootBuiltins (nm x)=some b.val)(a:Nat.beq (cdN x) (nW (Str.ofString "__name__").cps.toList)=false):ycd P (x,.bi b):=
 ⟨by rw[jI];exact h,.inr ⟨b,rfl,e,c,λz=>by
  have A:Nat.beq (cdN x) (nW (Str.ofString "__name__").cps.toList)=true:=by unfold cdN;rw[show nm x="__name__" from z];exact Ql _
  rw[A] at a;cases a⟩⟩
theorem zss(P:Params):∀p∈yaw,ycd P p:=by
 unfold yaw;simp only[List.forall_mem_cons];refine⟨?_,?_,?_,?_,?_,?_,?_,?_,?_,?_,?_,?_,?_,?_,?_,?_,?_,?_,?_,?_,?_,?_,?_,?_,?_,?_,?_,?_,?_,?_,?_,by simp⟩
 all_goals first
  |exact yk2 (by decide) (by kernel_rfl)
  |exact yk3 (by decide) (by kernel_rfl) (by kernel_rfl) (by decide+kernel)
theorem zyo(P:Params):aP 173 (λx=>lV (K1 P) 279 (nm x))=true:=by kernel_rfl
theorem zyp(P:Params):aP 173 (λx=>lV (K1 P) 184 (nm x))=true:=by kernel_rfl
noncomputable def MeP(P:Params)(c:Addr)(p:Nat×Nat):Prop:=findIn (K1 P) (.ref c) (nm p.1)=some (some (.ref p.2))/\typeIn (K1 P) (.ref p.2)=some (.type "function")
theorem zk8(P:Params):(∀p∈mW,MeP P 279 p)/\∀p∈mH,MeP P 184 p:=by
 simp only[List.forall_mem_cons];refine⟨⟨?_,?_,?_,by simp⟩,?_,?_,?_,?_,?_,?_,?_,by simp⟩
 all_goals exact⟨by kernel_rfl,by kernel_rfl⟩
theorem zz2(P:Params):KCl (K1 P) (OmL a w b W) 279 mW:=
 ⟨by kernel_rfl,by kernel_rfl,by kernel_rfl,by kernel_rfl,by kernel_rfl,λx j=>aG (p:=λx=>lV (K1 P) 279 (nm x)) (zyo P) x (by rw[←jI];exact j),λx f h=>(zk8 P).1 (x,f) (bQ h)⟩
theorem zz3(P:Params):KCl (K1 P) (OmL a w b W) 184 mH:=
 ⟨by kernel_rfl,by kernel_rfl,by kernel_rfl,by kernel_rfl,by kernel_rfl,λx j=>aG (p:=λx=>lV (K1 P) 184 (nm x)) (zyp P) x (by rw[←jI];exact j),λx f h=>(zk8 P).2 (x,f) (bQ h)⟩
end
noncomputable section
noncomputable def obA(K:Frag)(f:Addr):Obj:=match K.lookup f with|some o=>o|none=>default
def fdA(K:Frag)(f:Addr):FuncData:=match(obA K f).data with| .func a=>a|_=>default
abbrev fnA(K:Frag)(f:Addr)(b:List Stmt)(a:Scope):FuncData:=fnOf (fdA K f).name (fdA K f).qualname (fdA K f).params b a (fdA K f).defaults (fdA K f).kwdefaults (fdA K f).doc (fdA K f).pyModule (fdA K f).annotations (fdA K f).code (fdA K f).closureTuple
abbrev fnB(K:Frag)(f:Addr)(a:Fn):FuncData:=fnA K f (tSs nm a.b) (scM nm a.sc (fdA K f).scope.more)
abbrev obF(K:Frag)(f:Addr)(a:Fn):Obj:=⟨(obA K f).cls,(obA K f).dict,.func (fnB K f a),(obA K f).slots⟩
def okB(K:Frag)(f:Addr)(a:Fn):Bool:=aH (codeIn K (fdA K f).code (fdA K f).qualname) (aH (yP nmL.length a.sc []) (aH (wSs nmL.length a.sc a.b) (aH (gP a.ps) (aH (lE (λx=>byO (look a.sc x) (λk=>Nat.ble k 1) false) a.ps) (keepIn K (.ref f))))))
section
variable{prog:Program}{w:World}{h₀:Heap}{W:WkT}{K:Frag}{f:Addr}{fn:Fn}
theorem yfo{o:Option Nat}(h:byO o (λk=>Nat.ble k 1) false=true):o=some 0∨o=some 1:=by
 cases o with
 |none=>exact ff h
 |some k=>exact(Nat.le_one_iff_eq_zero_or_eq_one.mp (Qa h)).imp (congrArg some) (congrArg some)
theorem ya3{dus:List Value}(M:K.lookup f=some (obF K f fn))(b:okB K f fn=true)(A:∀ρ h,VRs ρ h fn.dv dus)
 (n:∀(s:Shared) (c a:List Value),K.In s.heap->c.length+a.length+fn.dv.length=fn.ps.length->a.length=fn.kn.length->BindsTo s (fnB K f fn) ⟨c,(fn.kn.map nm).zip a⟩ ((fn.ps.map nm).zip (c++a++dus))):FnOk K (OmL prog w h₀ W) fn f:=by
 refine aI b λB b=>?_;refine aI b λm b=>?_;refine aI b λl b=>?_;refine aI b λk b=>?_;refine aI b λi e=>?_;refine⟨⟨_,_,_,_,_,_,_,_,_,_,_,_,_,_,dus,M,B,A,n⟩,⟨m,ze2 k,λx j=>?_⟩,l,e⟩;exact yfo (uE i x j)
theorem zmb{a:Type}{l:List a}(h:l.length=0):l=[]:=List.length_eq_zero_iff.mp h
theorem zsc{b:Type}{l:List b}{n:Nat}(h:l.length=n+1):∃a t,l=a::t/\t.length=n:=by
 cases l with
 |nil=>cases h
 |cons a t=>exact⟨a,t,rfl,Nat.succ.inj h⟩
theorem zma{b:Type}{l:List b}(h:l.length=1):∃a,l=[a]:=by obtain⟨a,t,rfl,g⟩:=zsc h;exact⟨a,congrArg _ (zmb g)⟩
theorem zdm{c:Type}{l:List c}(h:l.length=2):∃a b,l=[a,b]:=by obtain⟨a,t,rfl,g⟩:=zsc h;obtain⟨b,rfl⟩:=zma g;exact⟨a,b,rfl⟩
theorem zl9{e:Type}{l:List e}(h:l.length=3):∃a b c,l=[a,b,c]:=by obtain⟨a,t,rfl,g⟩:=zsc h;obtain⟨b,c,rfl⟩:=zdm g;exact⟨a,b,c,rfl⟩
theorem yku{e:Type}{l:List e}(h:l.length=4):∃a b c d,l=[a,b,c,d]:=by obtain⟨a,t,rfl,g⟩:=zsc h;obtain⟨b,c,d,rfl⟩:=zl9 g;exact⟨a,b,c,d,rfl⟩
theorem zfm{n:Nat}(M:K.lookup f=some (obF K f fn))(j:okB K f fn=true)(J:fn.ps.length=n)(c:fn.kn=[])(e:fn.dv=[])(k:∀(s:Shared) (a:List Value),a.length=n->BindsTo s (fnB K f fn) ⟨a,[]⟩ ((fn.ps.map nm).zip a)):FnOk K (OmL prog w h₀ W) fn f:=by refine ya3 (dus:=[]) M j (λU U=>by rw[e];exact VRs.nil) λs a i X h b=>?_;rw[c] at b;rw[zmb b,c,List.append_nil,List.append_nil];refine k s a ?_;rw[zmb b,e,J] at h;exact h
theorem pk6{t s r q p o:Type}{C:Prop}{a n:t}{b m:s}{c l:r}{d k:q}{e j:p}{f i:o}(h:(a,b,c,d,e,f)=(n,m,l,k,j,i))(g:a=n->b=m->c=l->d=k->e=j->f=i->C):C:=g (congrArg (·.1) h) (congrArg (·.2.1) h) (congrArg (·.2.2.1) h) (congrArg (·.2.2.2.1) h) (congrArg (·.2.2.2.2.1) h) (congrArg (·.2.2.2.2.2) h)
theorem ok1(h:(K.lookup f,okB K f fn,fn.ps.length,fn.kn,fn.dv,λa=>bindArgs (fnB K f fn) ⟨[a],[]⟩)=(some (obF K f fn),true,1,[],[],λa=>pure ((fn.ps.map nm).zip [a]))):FnOk K (OmL prog w h₀ W) fn f:=
 pk6 h λM B A e c b=>zfm M B A e c λs i h=>by obtain⟨a,rfl⟩:=zma h;exact BindsTo.of_eq (congrFun b a)
theorem ok2(h:(K.lookup f,okB K f fn,fn.ps.length,fn.kn,fn.dv,λa b=>bindArgs (fnB K f fn) ⟨[a,b],[]⟩)=(some (obF K f fn),true,2,[],[],λa b=>pure ((fn.ps.map nm).zip [a,b]))):FnOk K (OmL prog w h₀ W) fn f:=
 pk6 h λM B A i e c=>zfm M B A i e λs j h=>by obtain⟨a,b,rfl⟩:=zdm h;exact BindsTo.of_eq (congrFun (congrFun c a) b)
theorem ok3(h:(K.lookup f,okB K f fn,fn.ps.length,fn.kn,fn.dv,λa b c=>bindArgs (fnB K f fn) ⟨[a,b,c],[]⟩)=(some (obF K f fn),true,3,[],[],λa b c=>pure ((fn.ps.map nm).zip [a,b,c]))):FnOk K (OmL prog w h₀ W) fn f:=
 pk6 h λM B A j i e=>zfm M B A j i λs k h=>by obtain⟨a,b,c,rfl⟩:=zl9 h;exact BindsTo.of_eq (congrFun (congrFun (congrFun e a) b) c)
theorem ok4(h:(K.lookup f,okB K f fn,fn.ps.length,fn.kn,fn.dv,λa b c d=>bindArgs (fnB K f fn) ⟨[a,b,c,d],[]⟩)=(some (obF K f fn),true,4,[],[],λa b c d=>pure ((fn.ps.map nm).zip [a,b,c,d]))):FnOk K (OmL prog w h₀ W) fn f:=
 pk6 h λM B A j i e=>zfm M B A j i λs k h=>by obtain⟨a,b,c,d,rfl⟩:=yku h;exact BindsTo.of_eq (congrFun (congrFun (congrFun (congrFun e a) b) c) d)
theorem okD{T:Addr}{dv:Array Value}{dus:List Value}(A:Arguments)(j:List Str)(D:∀ρ h,VRs ρ h fn.dv dus)
 (e:∀v u t r q p o n m (a:List Value),a.length+fn.dv.length=fn.ps.length->∃k,bindArgs (fnOf v u A t r (.ref T) .none o n m q p) ⟨a,[]⟩=seqItems? (.ref T)>>=k/\k (some dv)=pure (j.zip (a++dus)))
 (h:(K.lookup f,okB K f fn,(fn.kn,fn.ps.map nm),K.lookup T,(fdA K f).params,((fdA K f).defaults,(fdA K f).kwdefaults))=(some (obF K f fn),true,([],j),some ⟨.type "tuple",none,.seq dv 0,#[]⟩,A,(.ref T,.none))):FnOk K (OmL prog w h₀ W) fn f:=by
 refine pk6 h λM y c z J i=>ya3 M y D λs a x X H l=>?_;have c:=Prod.mk.inj c;have i:=Prod.mk.inj i;rw[c.1] at l;obtain rfl:=zmb l;obtain⟨k,d,Q⟩:=e (fdA K f).name (fdA K f).qualname (tSs nm fn.b) (scM nm fn.sc (fdA K f).scope.more) (fdA K f).code (fdA K f).closureTuple (fdA K f).doc (fdA K f).pyModule (fdA K f).annotations a H;rw[c.1,c.2,List.append_nil];unfold fnB fnA;rw[J,i.1,i.2];exact BindsTo.of_defaults rfl (X _ _ z) rfl d Q
end
section
variable(P:Params)
theorem yjs:FnOk (K1 P) (OmL a w b W) zng 97:=ok3 (by kernel_rfl)
theorem yj8:FnOk (K1 P) (OmL a w b W) zni 102:=ok2 (by kernel_rfl)
theorem yjq:FnOk (K1 P) (OmL a w b W) ya5 141:=ok1 (by kernel_rfl)
theorem yjy:FnOk (K1 P) (OmL a w b W) ya8 148:=ok1 (by kernel_rfl)
theorem yju:FnOk (K1 P) (OmL a w b W) zs3 196:=ok1 (by kernel_rfl)
theorem yjr:FnOk (K1 P) (OmL a w b W) zbu 210:=ok1 (by kernel_rfl)
theorem yka:FnOk (K1 P) (OmL a w b W) zdx 217:=ok1 (by kernel_rfl)
theorem okW:FnOk (K1 P) (OmL a w b W) fnW 234:=ok2 (by kernel_rfl)
theorem yjx:FnOk (K1 P) (OmL a w b W) zhm 241:=ok1 (by kernel_rfl)
theorem yjz:FnOk (K1 P) (OmL a w b W) zho 248:=ok2 (by kernel_rfl)
theorem ye6:FnOk (K1 P) (OmL a w b W) zhn 269:=ok2 (by kernel_rfl)
theorem yj7:FnOk (K1 P) (OmL a w b W) ya9 290:=ok2 (by kernel_rfl)
theorem yjv:FnOk (K1 P) (OmL a w b W) ya7 295:=ok1 (by kernel_rfl)
theorem ykb:FnOk (K1 P) (OmL a w b W) zs6 302:=ok2 (by kernel_rfl)
theorem yjt:FnOk (K1 P) (OmL a w b W) ya6 309:=ok4 (by kernel_rfl)
theorem ykc:FnOk (K1 P) (OmL a w b W) zs7 316:=ok3 (by kernel_rfl)
theorem yj6:FnOk (K1 P) (OmL a w b W) znh 323:=ok3 (by kernel_rfl)
theorem ye5:FnOk (K1 P) (OmL a w b W) zs4 330:=ok2 (by kernel_rfl)
theorem yj9:FnOk (K1 P) (OmL f w h W) zhp 83:=by refine ya3 (dus:=[]) (by kernel_rfl) (by kernel_rfl) (λU U=>VRs.nil) (λs i c X M B=>?_);have e:c.length=1:=B;obtain⟨k,rfl⟩:=zma e;obtain⟨a,b,rfl⟩:=zdm (Nat.succ.inj M);refine BindsTo.of_eq ?_;kernel_rfl
theorem yj0:FnOk (K1 P) (OmL c w e W) yf7 76:=okD (T:=69) (dv:=#[.none]) (dus:=[]) agH ["self","headers"] (λU U=>VRs.nil) (λU U U U U U U U U f h=>by obtain⟨a,b,rfl⟩:=zdm (l:=f) h;exact⟨_,rfl,rfl⟩) (by kernel_rfl)
theorem yj3:FnOk (K1 P) (OmL e w f W) zs5 131:=okD (T:=124) (dv:=#[.none]) (dus:=[]) agG ["self","name","default"] (λU U=>VRs.nil) (λU U U U U U U U U i h=>by obtain⟨a,b,c,rfl⟩:=zl9 (l:=i) h;exact⟨_,rfl,rfl⟩) (by kernel_rfl)
theorem yj5:FnOk (K1 P) (OmL c w e W) yQ 61:=okD (T:=54) (dv:=#[.none,.int 1 385]) (dus:=[.int 1 385]) agF ["param","value","quote"] (λU U=>VRs.cons (x:= .int 1) (v:= .int 1 385) ⟨_,rfl⟩ VRs.nil) (λU U U U U U U U U f h=>by obtain⟨a,b,rfl⟩:=zdm (l:=f) (Nat.succ.inj h);exact⟨_,rfl,rfl⟩) (by kernel_rfl)
theorem yj1:FnOk (K1 P) (OmL b w c W) yf8 76:=okD (T:=69) (dv:=#[.none]) (dus:=[.none]) agH ["self","headers"] (λU U=>VRs.cons (x:= .none) (v:= .none) rfl VRs.nil) (λU U U U U U U U U e h=>by obtain⟨a,rfl⟩:=zma (l:=e) (Nat.succ.inj h);exact⟨_,rfl,rfl⟩) (by kernel_rfl)
theorem yj4:FnOk (K1 P) (OmL c w e W) zbv 131:=okD (T:=124) (dv:=#[.none]) (dus:=[.none]) agG ["self","name","default"] (λU U=>VRs.cons (x:= .none) (v:= .none) rfl VRs.nil) (λU U U U U U U U U f h=>by obtain⟨a,b,rfl⟩:=zdm (l:=f) (Nat.succ.inj h);exact⟨_,rfl,rfl⟩) (by kernel_rfl)
end
end
section
open PySem PySem.W PyProof.Rows PySem.Builtin.Re PyProof.Rows.KTD
noncomputable section
def cdR(P:Params)(a t:Nat):Array Nat:=match(K1 P).lookup t with
 |some o=>(match o.data with| .seq items _=>(items.map reRawOf).map (·.toNat)|_=>#[])
 |none=>#[]
def yex(P:Params)(a t:Addr):Bool:=match(K1 P).lookup a with
 |some o=>(match o.data with
  | .fields b=>(o.cls== .type "re.Pattern")&&o.dict.isNone&&Nat.beq (reRawNat (b.getD 6 .none)) 0&&(b.getD 5 .none== .ref t)
  |_=>false)
 |none=>false
def ydo(P:Params)(t:Addr):Bool:=match(K1 P).lookup t with
 |some o=>(match o.data with| .seq _ _=>true|_=>false)
 |none=>false
set_option tactic.hygienic true in
theorem zka(X:(K1 P).In h)(M:yex P a t=true)(B:ydo P t=true):PatAt h a (cdR P a t):=by
 unfold yex at M;unfold ydo at B;split at M
 · rename_i o l
   split at M
   · rename_i m hd
     simp only[Bool.and_eq_true] at M;obtain⟨⟨⟨j,i⟩,f⟩,e⟩:=M;split at B
     · rename_i k b
       split at B
       · rename_i items n c
         refine⟨⟨o,m,t,k,items,n,X _ _ l,eq_of_beq j,by simpa using i,hd,aN f,eq_of_beq e,X _ _ b,c,?_⟩⟩;unfold cdR;rw[b];simp only[c]
       · cases B
     · cases B
   · cases M
 · cases M
noncomputable def zrn(b:Nat->Bool)(a:Array Nat)(seen:Sre.Seen)(c:Nat):Bool:=match b c with
 |true=>(match Sre.inSet a c a.size 5 true seen with| .ok (false,_)=>true|_=>false)
 |false=>true
set_option tactic.hygienic true in
theorem zvl(b:∀c,ok c=true->c<127)(h:∀seen,aP 127 (zrn ok e seen)=true):∀c,ok c=true->lH e c:=by
 intro c a seen;have:=aG (h seen) c (b c a);unfold zrn at this;rw[a] at this;simp only at this;split at this
 · rename_i x j;exact⟨_,j⟩
 · cases this
theorem zvq(h:okN c=true):c<127:=by
 have h:cs (Nat.ble 32 c) (Nat.ble c 126) false=true:=h;cases z:Nat.ble 32 c with
 |true=>rw[z] at h;exact Qx (Qa h)
 |false=>rw[z] at h;cases h
theorem ye4(h:okV c=true):c<127:=by
 have h:cs (Nat.beq c 9) true (okN c)=true:=h;cases z:Nat.beq c 9 with
 |true=>rw[aN z];decide
 |false=>rw[z] at h;exact zvq h
theorem yjl(P:Params)(seen:Sre.Seen):aP 127 (zrn okN (cdR P 48 47) seen)=true:=by kernel_rfl
theorem yjk(P:Params)(seen:Sre.Seen):aP 127 (zrn okV (cdR P 53 52) seen)=true:=by kernel_rfl
theorem zs8(P:Params):keyedLook (λa=>(K1 P).lookup a) 189 (zbx.map λp=>(p.1,.str (St p.2)))=true:=by kernel_rfl
theorem yg1(P:Params):readsIn (K1 P) 279 (.type "type")=true:=by kernel_rfl
theorem yg0(P:Params):∃u,findCls (K1 P) (.ref 279) (.type "type") (nm 65)=some (.val u)/\handedIn u=true/\∃t,u= .str (St [32]) t:=⟨.str (St [32]) 646,by kernel_rfl,by kernel_rfl,646,rfl⟩
theorem ygz(P:Params):∃u,findCls (K1 P) (.ref 279) (.type "type") (nm 66)=some (.val u)/\handedIn u=true/\∃t,u= .str (St [9]) t:=⟨.str (St [9]) 647,by kernel_rfl,by kernel_rfl,647,rfl⟩
theorem zqx(P:Params):noSeq (K1 P) 279=true/\noSeq (K1 P) 184=true:=⟨by kernel_rfl,by kernel_rfl⟩
theorem tb1(X:(K1 P).In b)(i:b.NoLimit)(e:∃n l,b.Ns mainGlobals n/\b.Ns builtinsNs l/\∀x:Str,x≠"__name__"->l x=bootBuiltins x)(S:SF):TB (OmL prog w b W) (K1 P) (cx1 S):=by
 have j:∀c t,look zk3 c=some t->(c=279/\t=mW)∨(c=184/\t=mH):=λc t h=>by have:=bQ h;simp only[zk3,List.mem_cons,List.not_mem_nil,or_false,Prod.mk.injEq] at this;exact this
 refine⟨X,i,yfc,zkp,zkq,e,λx v h=>zss P _ (bQ h),λc t h=>?_,λc t h=>?_,λa p h=>?_,λa t h=>?_,λc t f h U=>?_,λc t f h U=>?_,λa T h=>nomatch h⟩
 · rcases j c t h with⟨rfl,rfl⟩|⟨rfl,rfl⟩
   · exact zz2 P
   · exact zz3 P
 · have:=bQ h
   simp only[cx1,zn8,List.mem_cons,List.not_mem_nil,or_false,Prod.mk.injEq] at this;obtain⟨rfl,rfl⟩:=this;refine⟨_,yg1 P,λx v o=>?_⟩;have:=bQ o;simp only[List.mem_cons,List.not_mem_nil,or_false,Prod.mk.injEq] at this;rcases this with⟨rfl,rfl⟩|⟨rfl,rfl⟩
   · obtain⟨u,M,B,t,rfl⟩:=yg0 P
     exact⟨_,M,B,λm h=>⟨⟨t,rfl⟩,by decide,by decide⟩⟩
   · obtain⟨u,M,B,t,rfl⟩:=ygz P
     exact⟨_,M,B,λm h=>⟨⟨t,rfl⟩,by decide,by decide⟩⟩
 · have:=bQ h
   simp only[cx1,yey,List.mem_cons,List.not_mem_nil,or_false,Prod.mk.injEq] at this;rcases this with⟨rfl,rfl⟩|⟨rfl,rfl⟩
   · exact⟨_,zka X (by kernel_rfl) (by kernel_rfl),by kernel_rfl,by kernel_rfl,zvl (λU=>zvq) (yjl P)⟩
   · exact⟨_,zka X (by kernel_rfl) (by kernel_rfl),by kernel_rfl,by kernel_rfl,zvl (λU=>ye4) (yjk P)⟩
 · have:=bQ h
   simp only[cx1,List.mem_cons,List.not_mem_nil,or_false,Prod.mk.injEq] at this;obtain⟨rfl,rfl⟩:=this;refine⟨?_,?_⟩
   · have k:=keyed_of_look (get:=λa=>(K1 P).lookup a) X (zs8 P) prog w
     rw[List.map_map] at k;exact k
   · intro p J;revert p J;simp only[zbx,List.forall_mem_cons];refine⟨?_,?_,?_,?_,?_,?_,?_,?_,?_,?_,by simp⟩<;>exact⟨by decide,by decide⟩
 · rcases j c t h with⟨rfl,rfl⟩|⟨rfl,rfl⟩
   · exact⟨(zqx P).1,rfl,show _<173 from by show _<173;first|exact(by decide:(11:Nat)<173)|exact(by decide:(12:Nat)<173)⟩
   · exact⟨(zqx P).2,rfl,show _<173 from by show _<173;first|exact(by decide:(11:Nat)<173)|exact(by decide:(12:Nat)<173)⟩
 · rcases j c t h with⟨rfl,rfl⟩|⟨rfl,rfl⟩
   · exact⟨(zqx P).1,rfl,show _<173 from by show _<173;first|exact(by decide:(11:Nat)<173)|exact(by decide:(12:Nat)<173)⟩
   · exact⟨(zqx P).2,rfl,show _<173 from by show _<173;first|exact(by decide:(11:Nat)<173)|exact(by decide:(12:Nat)<173)⟩
end
end
section
theorem VR.two(e:Ext k f)(x:V):∀v b,VR k h x v->VR f c x b->VR k c x b:=
 V.rec (motive_1:=λx=>∀v b,VR k h x v->VR f c x b->VR k c x b) (motive_2:=λT=>∀vs i,VRs k h T vs->VRs f c T i->VRs k c T i)
  (λU U U H=>H) (λU U U U H=>H) (λU U U U H=>H) (λU U U U H=>H)
  (λ_ d _ _ ⟨_,vs,_,_,_,m,_⟩ ⟨a2,l,z,q,o,j,s⟩=>⟨a2,l,z,q,o,d vs l m j,s⟩)
  (λ_ _ _ ⟨a,r,y,_⟩ ⟨_,_,p,q⟩=>⟨a,r,y,q.trans (congrArg Value.ref (List.cons.inj (prf (p.symm.trans (e _ _ y)))).1)⟩) (λU U U U H=>H) (λU U U U H=>H) (λU U U U U U H=>H)
  (λU U U H=>H) (λ_ _ D A _ _ ⟨v,t,_,m,Q⟩ ⟨u,w,q,j,n⟩=>⟨u,w,q,D v u m j,A t w Q n⟩) x
theorem VRs.two(e:Ext j b):∀{vs a:List Value},VRs j h T vs->VRs b c T a->VRs j c T a:=by
 induction T with
 |nil=>exact λU H=>H
 |cons x r d=>exact λ⟨v,t,_,m,n⟩ ⟨k,l,q,f,i⟩=>⟨k,l,q,VR.two e x v k m f,d n i⟩
theorem DE.two(e:Ext f b):∀{D a:List DictEntry},DE N f h d D->DE N b c d a->DE N f c d a:=by
 induction d with
 |nil=>exact λU H=>H
 |cons p d j=>exact λ⟨_,_,_,_,_,A,k⟩ ⟨a2,i,q,g1,g2,g3,g4⟩=>⟨a2,i,q,g1,g2,VR.two e _ _ _ A g3,j k g4⟩
theorem OR.two(e:Ext q a)(I:OR N q h o r)(H:OR N a b o r):OR N q b o r:=by
 cases o with
 |list T=>obtain⟨_,_,_,_,_,s,_⟩:=I;obtain⟨p,f,i,m,k,j,l⟩:=H;exact⟨p,f,i,m,k,VRs.two e s j,l⟩
 |inst c d=>obtain⟨_,_,_,_,_,_,_,A,_⟩:=I;obtain⟨p,x,n,i,m,w,v,u,t⟩:=H;exact⟨p,x,n,i,m,w,v,DE.two e A u,t⟩
 |dict D=>exact H.elim
end
section
theorem zrs:∀{l n:Nat} {o q:O},nth (upd J l o) n=some q->(n=l/\q=o)∨(n≠l/\nth J n=some q):=by
 induction J with
 |nil=>intro l n o q h;cases l<;>cases h
 |cons a r d=>
  intro l n o q h;cases l with
  |zero=>
   cases n with
   |zero=>cases h;exact .inl ⟨rfl,rfl⟩
   |succ n=>exact .inr ⟨by simp,h⟩
  |succ l=>
   cases n with
   |zero=>exact .inr ⟨by simp,h⟩
   |succ n=>
    rcases d (l:=l) (n:=n) h with⟨M,h2⟩|⟨M,h2⟩
    · exact .inl ⟨by rw[M],h2⟩
    · exact .inr ⟨by simpa using M,h2⟩
theorem zhw(H:HS N f J s)(G:Go [] a Y f s)(A:oPl o=true)(C:gB N a Y (.v .none) (upd J l o) Q):gB N f s (.v .none) (upd J l o++i) Q:=by
 intro x k v H2 c E;have m:∀b o,Y.heap.get? b=some o->b∉a.flatten->b∉f.flatten:=by
  intro b o j d h;obtain⟨T,p,r⟩:=G.ext;rw[p,List.flatten_append,List.mem_append] at h;rcases h with h|h
  · exact d h
  · rw[r b h] at j;cases j
 have H3:HS N f (upd J l o) k:=by
  refine⟨H2.base,H.fresh,H.nodup,(rH _ _ _).trans H.len,λn q e w u=>?_,H2.gens,H2.tk⟩;have B:=H2.obj n q e (fB i w) (c.Ext _ _ u);rcases zrs w with⟨rfl,rfl⟩|⟨D,z⟩
  · exact ze0 A B
  · exact OR.two c.Ext (H.obj n q e z u) B
 have I:Go [] a Y f k:=by refine⟨G.ext,λb o M B U=>c.keep b o (G.keep b o M B (by simp)) (m b o M B) (by simp),λb o M B=>c.imm b o (G.imm b o M B) B,λb o M=>?_,λg t M=>c.gens g t (G.gens g t M),c.os.trans G.os⟩;obtain⟨y,B⟩:=G.grow b o M;exact c.grow b y B
 exact C f k v H3 I E
end
section
theorem zoz(D:s.heap.get? d=some (dictOf a n))(f:∀e∈a,e.key.isStr k=false)(i:∀e∈a,e.refKey=false):
 ∃b,b.get? d=some (dictOf (a++[⟨PyData.keyHash w.params k,.str k s.toks,v⟩]) (n+1))/\Heap.SameBut d s.heap b/\∀{A:Around} {E:Value->Shared->Prop} {Q:Unit->Shared->Prop},Q () {s with heap:=b,toks:=s.toks+1}->wpAny (model prog w) A (nsSet d k v) Q E s:=by
 have l:a.any (·.key.isStr k)=false:=by
  cases q:a.any (·.key.isStr k) with
  |false=>rfl
  |true=>obtain⟨e,H,z⟩:=List.any_eq_true.mp q;rw[f e H] at z;cases z
 have j:a.any (·.refKey)=false:=by
  cases q:a.any (·.refKey) with
  |false=>rfl
  |true=>obtain⟨e,H,z⟩:=List.any_eq_true.mp q;rw[i e H] at z;cases z
 have e:Obj.putName k (PyData.keyHash w.params k) (.str k s.toks) v (dictOf a n)=dictOf (a++[⟨PyData.keyHash w.params k,.str k s.toks,v⟩]) (n+1):=by rw[putName_dict,putL_new f];show dictOf _ (if a.any (·.key.isStr k) then n else n+1)=_;rw[l,if_neg Bool.false_ne_true]
 have c:aRefKeyMayBeTheName k a.toArray=false:=by rw[aRefKeyMayBeTheName_at,←Array.any_toList,←Array.any_toList];show(!a.any (·.key.isStr k)&&a.any (·.refKey))=false;rw[j,Bool.and_false]
 refine⟨s.heap.update d (Obj.putName k (PyData.keyHash w.params k) (.str k s.toks) v),by rw[←e];exact Heap.get?_update_self _ D (by rw[e];rfl),Wb _ _ _,λh=>?_⟩;unfold nsSet;refine Qg (Qg (wpAny_askSetting (Qh (Qg (wpAny_mkText (Qg (wpAny_loadPart D ?_)))))));dsimp only;rw[c];exact wpAny_updatePart D h
theorem zf7:∀(b:List (Str×Value)) (s:Shared) (D:List DictEntry) (n:Nat),s.heap.get? d=some (dictOf D n)->(∀e∈D,∀x∈b,e.key.isStr x.1=false)->(∀e∈D,e.refKey=false)->(b.map (·.1)).Nodup->
 ∃a,a.get? d=some (dictOf (D++kwEs w.params s.toks b) (n+b.length))/\Heap.SameBut d s.heap a/\∀{A:Around} {E:Value->Shared->Prop} {Q:PUnit->Shared->Prop},Q ⟨⟩ {s with heap:=a,toks:=s.toks+b.length}->
  wpAny (model prog w) A (forIn b PUnit.unit λx U=>(nsSet d x.1 x.2>>=λU=>pure (ForInStep.yield PUnit.unit))) Q E s
 |[],s,D,n,F,_,_,_=>⟨s.heap,by show s.heap.get? d=some (dictOf (D++[]) n);rw[List.append_nil];exact F,Heap.SameBut.refl _ _,λh=>by rw[List.forIn_nil];exact Qh h⟩
 |x::r,s,D,n,F,hs,o,z=>by
  obtain⟨k,j⟩:=List.nodup_cons.mp (show(x.1::r.map (·.1)).Nodup from z);obtain⟨a,B,g,u⟩:=zoz (prog:=prog) (w:=w) (v:=x.2) F (λe H=>hs e H x (.head _)) o;obtain⟨c,f,l,i⟩:=zf7 r {s with heap:=a,toks:=s.toks+1} _ _ B (λe H y m=>by
   rcases Qo H with H|H
   · exact hs e H y (.tail _ m)
   · obtain rfl:=Qf H
     show(x.1==y.1)=false;exact beq_eq_false_iff_ne.mpr λq=>k (by rw[q];exact List.mem_map_of_mem m)) (λe H=>by
   rcases Qo H with H|H
   · exact o e H
   · obtain rfl:=Qf H
     rfl) j
  have t:s.toks+1+r.length=s.toks+(r.length+1):=by lia
  have p:n+1+r.length=n+(r.length+1):=by lia
  rw[p,List.append_assoc] at f;refine⟨c,f,g.trans l,λ{A E Q} h=>?_⟩;rw[List.forIn_cons];refine Qg (Qg (u (Qh ?_)));show wpAny (model prog w) A (forIn r PUnit.unit λx U=>(nsSet d x.1 x.2>>=λU=>pure (ForInStep.yield PUnit.unit))) Q E {s with heap:=a,toks:=s.toks+1};refine i ?_;show Q ⟨⟩ {s with heap:=c,toks:=s.toks+1+r.length};rw[t];exact h
end
theorem zwy(e:pla x=true)(H:VR a h x v):VR m b x v:=by cases x<;>first|exact H|exact ff e
theorem zoy:∀{ks:List (Nat×RV)} {D:List (List Nat×V)} {kvs:List Value} {s₀:Shared},zfb ks=some D->cD a c s s₀ (ks.map (·.2)) kvs->(∀n k,kwN n=some k->aA a n=St k/\sOk k)->∃E:List Kw,KwR E/\kwV E=(D.map λe=> .tup [.str e.1,e.2])/\(ks.map λp=>aA a p.1).zip kvs=kwK E
 |[],D,kvs,s₀,h,R,_=>by rw[←prf h];exact⟨[],λe H=>absurd H Qj,rfl,rfl⟩
 |p::r,D,kvs,s₀,h,R,N=>by
  refine aB h λk M h=>?_;refine aB h λv B h=>?_;refine aJ h λA h=>?_;refine aB h λi f h=>?_;obtain⟨u,t,z,q,b,d,Q,y,w⟩:=R;obtain⟨E,o,l,j⟩:=zoy f w N;have b:RVR a c s₀ s p.2 u:=b;rw[zg2 B] at b;refine⟨(k,v,u)::E,λe H=>?_,?_,?_⟩
  · rcases Qe H with rfl|H
    · exact⟨(N _ _ M).2,λm x=>zwy A b⟩
    · exact o e H
  · rw[←prf h];show _::kwV E=_;rw[l];rfl
  · rw[q];show(aA a p.1,u)::_=_;rw[(N _ _ M).1];exact congrArg _ j
noncomputable section
noncomputable def wY(x y z k:Str)(p q r t:Pos):Arguments:={posonlyargs:=[],args:=[{arg:=x,annotation:=none,pos:=p},{arg:=y,annotation:=none,pos:=q},{arg:=z,annotation:=none,pos:=r}],vararg:=none,kwonlyargs:=[],kw_defaults:=[],kwarg:=some {arg:=k,annotation:=none,pos:=t},defaults:=[]}
theorem uG(k:1<s.heap.objs.size)(I:0<s.toks)(l:(kw.map (·.1)).Nodup)
 (e:bindArgs (fnOf B g (wY "self" "_name" "_value" "_params" ⟨86,19,86,23⟩ ⟨86,25,86,30⟩ ⟨86,32,86,38⟩ ⟨86,42,86,49⟩) A y .none .none t r p v u) ⟨[a,b,c],kw⟩=
  (alloc {cls:= .type "dict",data:= .dict #[]}>>=λd=>forIn kw PUnit.unit (λx U=>(nsSet d x.1 x.2>>=λU=>pure (ForInStep.yield PUnit.unit)))>>=λU=>pure [(Str.ofString "self",a),(Str.ofString "_name",b),(Str.ofString "_value",c),(Str.ofString "_params",.ref d)])):
 ∃D i tk j,(∀(n:Around) (E':Value->Shared->Prop) (Q:List (Str×Value)->Shared->Prop),Q [(Str.ofString "self",a),(Str.ofString "_name",b),(Str.ofString "_value",c),(Str.ofString "_params",.ref D)] {s with heap:=i,toks:=tk}->wpAny (model f w) n (bindArgs (fnOf B g (wY "self" "_name" "_value" "_params" ⟨86,19,86,23⟩ ⟨86,25,86,30⟩ ⟨86,32,86,38⟩ ⟨86,42,86,49⟩) A y .none .none t r p v u) ⟨[a,b,c],kw⟩) Q E' s)∧
  (∀b o,s.heap.get? b=some o->i.get? b=some o)/\s.heap.get? D=none/\(D==sysModules)=false/\i.DictAt (strKind f w) D kw j/\0<tk:=by
 have m:s.heap.get? s.heap.objs.size=none:=by
  cases z:s.heap.get? s.heap.objs.size with
  |none=>rfl
  |some o=>exact absurd (Qw z) (Qr _)
 have F:(s.heap.push (dictOf [] 0)).get? s.heap.objs.size=some (dictOf [] 0):=Qk _ rfl;obtain⟨i,N,M,E⟩:=zf7 (prog:=f) (w:=w) kw {s with heap:=s.heap.push (dictOf [] 0)} [] 0 F (λU H=>nomatch H) (λU H=>nomatch H) l;obtain⟨J,j,C⟩:=kp_isDict (prog:=f) (w:=w) s.toks (0+kw.length) l;refine⟨s.heap.objs.size,i,s.toks+kw.length,j,λn E' Q q=>?_,λb o h=>?_,m,?_,?_,Qp I (Nat.le_add_right _ _)⟩
 · rw[e]
   exact Qg (wpAny_alloc (Qg (E (Qh q))))
 · have G:b≠s.heap.objs.size:=λz=>by rw[z,m] at h;cases h
   exact(M.2 b G).trans (Qc _ h)
 · have:s.heap.objs.size≠sysModules:=λz=>by rw[z] at k;exact absurd k (by decide)
   simpa using this
 · exact⟨_,J,N,C⟩
theorem za8(h:zmh (dX a)=true):dX a=[]∨dX a=[160]∨dX a=[132,133]:=by
 unfold zmh at h;cases q:emp (dX a) with
 |true=>exact .inl (kY q)
 |false=>
  rw[q] at h;have h:cs (leq (dX a) [160]) true (leq (dX a) [132,133])=true:=h;cases b:leq (dX a) [160] with
  |true=>exact .inr (.inl (cN b))
  |false=>rw[b] at h;exact .inr (.inr (cN h))
theorem zo3(j:1<s.heap.objs.size)(n:0<s.toks)(i:List Value)(A:i.length=3)(q:e=[]∨e=[160]∨e=[132,133])(l:f.length=e.length):
 ∃D p tk z,(∀(H:Around) (E':Value->Shared->Prop) (Q:List (Str×Value)->Shared->Prop),Q ((([29,49,47]++[15]:LN).map nm).zip (i++[.ref D])) {s with heap:=p,toks:=tk}->wpAny (model prog w) H (bindArgs (fnA (K1 P) 181 n2 n3) ⟨i,(e.map nm).zip f⟩) Q E' s)∧
  (∀b o,s.heap.get? b=some o->p.get? b=some o)/\s.heap.get? D=none/\(D==sysModules)=false/\p.DictAt (strKind prog w) D ((e.map nm).zip f) z/\0<tk:=by
 have J:(fdA (K1 P) 181).params=wY "self" "_name" "_value" "_params" ⟨86,19,86,23⟩ ⟨86,25,86,30⟩ ⟨86,32,86,38⟩ ⟨86,42,86,49⟩:=by kernel_rfl
 have r:(fdA (K1 P) 181).defaults= .none:=by kernel_rfl
 have m:(fdA (K1 P) 181).kwdefaults= .none:=by kernel_rfl
 have k:([29,49,47]++[15]:LN).map nm=[Str.ofString "self",Str.ofString "_name",Str.ofString "_value",Str.ofString "_params"]:=by kernel_rfl
 have v:nm 160=Str.ofString "k_":=by kernel_rfl
 have u:nm 132=Str.ofString "k_k_":=by kernel_rfl
 have t:nm 133=Str.ofString "m":=by kernel_rfl
 unfold fnA;rw[J,r,m,k];generalize(fdA (K1 P) 181).name=I;generalize(fdA (K1 P) 181).qualname=G;generalize(fdA (K1 P) 181).code=E;generalize(fdA (K1 P) 181).closureTuple=C;generalize(fdA (K1 P) 181).doc=B;generalize(fdA (K1 P) 181).pyModule=g;generalize(fdA (K1 P) 181).annotations=d;obtain⟨a,b,c,rfl⟩:=zl9 A;rcases q with rfl|rfl|rfl
 · obtain rfl:=zmb l
   refine uG j n (kw:=[]) List.nodup_nil ?_;kernel_rfl
 · obtain⟨x,rfl⟩:=zma l
   rw[List.map_cons,v];refine uG j n (kw:=[(Str.ofString "k_",x)]) (We ⟨Qj,List.nodup_nil⟩) ?_;kernel_rfl
 · obtain⟨x,y,rfl⟩:=zdm l
   rw[List.map_cons,List.map_cons,u,t];refine uG j n (kw:=[(Str.ofString "k_k_",x),(Str.ofString "m",y)]) (We ⟨λh=>?_,We ⟨Qj,List.nodup_nil⟩⟩) ?_
   · have h:=Qf (show Str.ofString "k_k_"∈[Str.ofString "m"] from h)
     exact absurd h (by decide+kernel)
   · kernel_rfl
end
noncomputable section
abbrev fnG(P:Params):FuncData:=fnA (K1 P) 203 (fI nm 115) (scG nm gsc)
theorem yj2(P:Params):GnOk (K1 P) (OmL a w b W) 115 203:=by refine⟨⟨(obA (K1 P) 203).cls,(obA (K1 P) 203).dict,(obA (K1 P) 203).slots,_,_,_,_,_,_,_,_,_,_,(show(K1 P).lookup 203=some ⟨(obA (K1 P) 203).cls,(obA (K1 P) 203).dict,.func (fnG P),(obA (K1 P) 203).slots⟩ from by kernel_rfl),by kernel_rfl,λs u X=>?_⟩,by kernel_rfl⟩;refine BindsTo.of_eq ?_;kernel_rfl
end
noncomputable section
theorem Rm.low(R:Rm d A)(h:e≤d):Rm e A:=⟨R.hd,by have:=R.dp;lia,by have:=R.un;lia⟩
theorem zj2(d:Nat):∀A,Rm d A->A.handled=none/\A.units+70<cLine:=λA R=>⟨R.hd,by have:=R.un;lia⟩
abbrev O0(a:Program)(w:World)(b:Heap):Bx:=OmL a w b (λU U U U U=>False)
abbrev OG(a:Program)(w:World)(b:Heap):Bx:=OmL a w b (WkG (O0 a w b) 115)
theorem zi8(I:∀f,eV N a f (cx.S f))(f:Addr):wM N cx a f:=λi H G h c e j b g=>I f i H G h c e j b g
theorem zY(h:∀A,a A->b A)(I:eV N b f g):eV N a f g:=
 λl H G j i e m c k=>I (h _ l) H G j i e m c k
theorem wZ(I:eV N c f g)(q:eV N c f n):eV N c f (λb a J=>orl (g b a J) (n b a J)):=by
 intro h t J Y s A E Q r b a u p m H G k j e o i l;have e:orl (g b a J) (n b a J)=some r:=e;cases z:g b a J with
 |some x=>rw[z] at e;exact I m H G k j (z.trans e) o i l
 |none=>rw[z] at e;exact q m H G k j e o i l
theorem zcr:eV N a f (λU U U=>none):=λU U U U U e U U U=>nomatch e
theorem zj6(M:pls T=true)(h:pl x=true):pls (T++[x])=true:=by
 induction T with
 |nil=>show aH (pl x) true=true;rw[h];rfl
 |cons y r d=>refine aI (show aH (pl y) (pls r)=true from M) λa b=>?_;show aH (pl y) (pls (r++[x]))=true;rw[a,d b];rfl
section
variable(X:(K1 P).In h₀)(lim:h₀.NoLimit)(top:∃mg mb,h₀.Ns mainGlobals mg/\h₀.Ns builtinsNs mb/\∀x:Str,x≠"__name__"->mb x=bootBuiltins x)
include X lim top
theorem wk1(d:Nat):Wk0 (OG a w h₀) (Rm (d+2)):=
 wk0 (Ω:=O0 a w h₀) (zza (tb1 X lim top S0) (zj2 d) (λU h=>h.elim) (λf=>λU U U U U e U U U=>nomatch e)) lim (by rw[jI];decide) rfl
theorem ctS(I:∀f,eV (OG a w h₀) (Rm (d+2)) f (S f)):CT (OG a w h₀) (cx1 S) (Rm (d+2)):=zza (tb1 X lim top S) (zj2 _) (wk1 X lim top d) (zi8 I)
theorem fnN(C:CT (OG a w h₀) (cx1 S) (Rm d))(F:FnOk (K1 P) (OG a w h₀) fn f):eV (OG a w h₀) (Rm (d+2)) f (F1 S fn):=
 λh H G c U e i b g=>ya4 C X lim F (h.low (Qt _)) H G c e i b g
omit X lim top in
theorem aw_:wSs nmL.length aY [ah1,ah2,ahF,ah3]=true/\yP nmL.length aY []=true:=⟨by decide+kernel,by decide+kernel⟩
omit X lim top in
theorem zb9(P:Params):(K1 P).lookup 181=some ⟨(obA (K1 P) 181).cls,(obA (K1 P) 181).dict,.func (fnA (K1 P) 181 (tSs nm [ah1,ah2,ahF,ah3]) (scM nm aY (fdA (K1 P) 181).scope.more)),(obA (K1 P) 181).slots⟩:=by kernel_rfl
omit X lim top in
theorem zdn(h:kwN n=some k):nm n=St k/\sOk k/\okc okN k=true/\aM (len (cU 95 [45] k))=true:=by
 have:=bQ h;simp only[List.mem_cons,List.not_mem_nil,or_false,Prod.mk.injEq] at this;rcases this with⟨rfl,rfl⟩|⟨rfl,rfl⟩|⟨rfl,rfl⟩
 all_goals exact⟨by kernel_rfl,⟨by decide,by decide⟩,by decide+kernel,by decide+kernel⟩
omit X lim top in
theorem zfa:∀{ks:List (Nat×RV)} {D:List (List Nat×V)},zfb ks=some D->(∀e∈D,okc okN e.1=true/\aM (len (cU 95 [45] e.1))=true)/\len D=len (dX ks)
 |[],D,h=>by rw[←prf h];exact⟨λe H=>absurd H Qj,rfl⟩
 |p::r,D,h=>by
  refine aB h λk M h=>?_;refine aB h λv B h=>?_;refine aJ h λA h=>?_;refine aB h λf c h=>?_;obtain⟨b,a⟩:=zfa c;rw[←prf h];refine⟨λe H=>?_,congrArg (· +1) a⟩;rcases Qe H with rfl|H
  · exact(zdn M).2.2
  · exact b e H
theorem zup(C:CT (OG c w h₀) (cx1 S) (Rm d))(hc:∀(s:LN) (b:Bool) (m:Nat) (J:Hp),okc (okX b) s=true->S 83 [.v (.ref m),.v (.str s)] [(33,.v (.bool b))] J=some (.v (.str s),J))
 (hf:∀(k s t:LN) (J:Hp),(∃h2,fnS yQ (cx1 S0) [.v (.str s),.v (.str t)] [] []=some (.v (.str k),h2))->S 61 [.v (.str s),.v (.str t)] [] J=some (.v (.str k),J)):eV (OG c w h₀) (Rm (d+2)) 181 yb6:=by
 intro z g J s₀ s A E Q r as u vs j Y H G hb hk e Rs hl hQ;have Y:Rm (d+1) A:=Y.low (Qt _);have XS:(K1 P).In s.heap:=λa o q=>H.base a o (X a o q);refine aB e λp h1 e=>?_;refine aB e λn h2 e=>?_;refine aB e λi h3 e=>?_;refine aB e λf h4 e=>?_;refine aB e λcd h5 e=>?_;refine aJ e λh34 e=>?_;refine aJ e λq1 e=>?_;refine aB e λlv h30 e=>?_;refine aB e λl N e=>?_;refine aJ e λq3 e=>?_;refine aJ e λq4 e=>?_;refine aB e λxs M e=>?_;refine aJ e λp1 e=>?_;refine aJ e λp2 e=>?_;refine aB e λes p3 e=>?_;refine aJ e λp4 e=>?_;refine aB e λI p5 e=>?_;refine aJ e λp6 e=>?_;rw[←prf e] at hQ;refine⟨keeps_K (by kernel_rfl) s.heap XS,?_⟩;have ha:=yca h1;rw[zc7 h2,sQ h3,sQ h4] at ha;subst ha;obtain⟨u0,u1,u2,rfl⟩:=zl9 hl;obtain⟨_,_,s1,e0,a0,_,_,_,_,_,s2,e1,a1,_,_,_,_,_,s3,e2,a2,_,_,_,R⟩:=Rs;cases e0;cases e1;cases e2;have R:cD (OG c w h₀) g s s3 (u.map (·.2)) j:=R;obtain⟨K,k1,k2,k3⟩:=zoy p3 R λn k h=>⟨(zdn h).1,(zdn h).2.1⟩;obtain⟨m1,m2⟩:=zfa p3;have T:(u.map λp=>aA (OG c w h₀) p.1)=(dX u).map nm:=by rw[pF,List.map_map];rfl
 have y:j.length=(dX u).length:=by have:j.length=(u.map (·.2)).length:=R.len;rw[List.length_map] at this;rw[pF,List.length_map,this]
 have hV:VRs g s.heap [.ref n,.str i,.str f] [u0,u1,u2]:=VRs.cons a0 (VRs.cons a1 (VRs.cons a2 VRs.nil));have hz:1<s.heap.objs.size:=Nat.lt_trans (by decide) (Qw (XS _ _ (zb9 P)));have h2l:len es<99:=by rw[m2];rcases za8 p4 with h|h|h<;>rw[h]<;>decide
 refine aB M λo g1 g2=>?_;have hn:=pI h5;rw[aN q1] at hn;rw[T] at k3⊢;have B:=zo3 (prog:=c) (w:=w) (P:=P) hz H.tk [u0,u1,u2] rfl (za8 p4) y (n2:=tSs nm [ah1,ah2,ahF,ah3]) (n3:=scM nm aY (fdA (K1 P) 181).scope.more);refine wpAny_call (zo2 (Ω:=OG c w h₀) (p1:=ah1) (p2:=ah2) (p3:=ah3) (pn:=[29,49,47]) (xd:=15) (sc:=aY) (mr:=(fdA (K1 P) 181).scope.more) (es:=K) (r:=(.v .none,upd J l (.list (xs++[.tup [.str i,.str (aT [59,32] (f::I))]]))++[.list (.str f::I.map V.str)]))
  C Y X lim (zb9 P) (by kernel_rfl) rfl aw_.1 (by kernel_rfl) (by decide) ⟨aw_.2,by decide,by decide⟩ H (Go.refl [] g s) k1 ?_ hV (λD=>?_) ?_)
 · rw[k3] at B⊢;exact B
 · rw[k2];exact zuq hc hf hn (nL h34) (h30.trans (congrArg some (zpu N))) (g1.trans (congrArg some (zyu g2))) q3 q4 p2 m1 h2l p5 p6
 · exact zhw H G (o:= .list (xs++[.tup [.str i,.str (aT [59,32] (f::I))]])) (zj6 p1 rfl) hQ
omit X lim top in
theorem lF(n:Nat)(s:LN)(b:Bool)(m:Nat)(J:Hp)(h:okc (okX b) s=true):SS (n+1) 83 [.v (.ref m),.v (.str s)] [(33,.v (.bool b))] J=some (.v (.str s),J):=by show F1 (SS n) zhp [.v (.ref m),.v (.str s)] [(33,.v (.bool b))] J=_;exact ybl h m J
omit X lim top in
theorem ydk(n:Nat)(k s t:LN)(J:Hp)(h:∃h2,fnS yQ (cx1 S0) [.v (.str s),.v (.str t)] [] []=some (.v (.str k),h2)):SS (n+1) 61 [.v (.str s),.v (.str t)] [] J=some (.v (.str k),J):=by show dU (F1 S0 yQ) (rvs [.str s,.str t]) [] J=_;exact kI h rfl rfl J
theorem nA(I:∀f,eV (OG a w h₀) (Rm (d+2)) f (SS n f)):∀p∈zqa n (SS n),eV (OG a w h₀) (Rm (d+4)) p.1 p.2:=by
 have C:=ctS X lim top I;have u:CT (OG a w h₀) (cx1 S0) (Rm (d+2)):=ctS X lim top λf=>zcr;have b:∀{c:Fn} {f:Addr},FnOk (K1 P) (OG a w h₀) c f->eV (OG a w h₀) (Rm (d+4)) f (F1 (SS n) c):=λF=>fnN X lim top C F;have j:∀{c:Fn} {f Cl:Addr},FnOk (K1 P) (OG a w h₀) c f->makesIn (K1 P) Cl=true->findIn (K1 P) (.ref Cl) "__init__"=some (some (.ref f))->typeIn (K1 P) (.ref f)=some (.type "function")->keepIn (K1 P) (.ref Cl)=true->eV (OG a w h₀) (Rm (d+4)) Cl (zd3 Cl c (cx1 (SS n))):=
  λF t s r q=>λi H G l U e k h g=>ztu C X lim F t s r q i H G l e k h g
 simp only[zqa,List.forall_mem_cons];refine⟨b (yj9 P),dN (fnN X lim top u (yj5 P)),dN (j (okW P) (by kernel_rfl) (by kernel_rfl) (by kernel_rfl) (by kernel_rfl)),b (yjx P),b (yjz P),dN (b (ye6 P)),wZ (j (yj1 P) (by kernel_rfl) (by kernel_rfl) (by kernel_rfl) (by kernel_rfl)) (j (yj0 P) (by kernel_rfl) (by kernel_rfl) (by kernel_rfl) (by kernel_rfl)),
  b (yjs P),b (yj8 P),wZ (b (yj4 P)) (b (yj3 P)),b (yjq P),b (yjy P),?_,dN (b (yju P)),?_,dN (b (yjr P)),dN (b (yka P)),dN (b (yj7 P)),b (yjv P),dN (b (ykb P)),dN (b (yjt P)),dN (b (ykc P)),b (yj6 P),dN (b (ye5 P)),by simp⟩
 · cases n with
   |zero=>exact zcr
   |succ m=>exact zup X lim top C (lF m) (ydk m)
 · exact λi H G l v e k h g=>zsw (Ω:=O0 a w h₀) ⟨zkp,λx o=>(zkq x o).1⟩ X lim (by rw[show(O0 a w h₀).nms.length=173 from rfl];decide) (yj2 P) (Rm.low i (by lia)) H G e k h g
theorem zZ:∀(n:Nat) (f:Addr),eV (OG a w h₀) (Rm (2*n+2)) f (SS n f)
 |0,f=>zcr
 |n+1,f=>λj H G h c e l b i=>by refine aB e λg k e=>?_;exact nA X lim top (zZ n) _ (bQ k) j H G h c e l b i
end
end
noncomputable def tk{a:Type}(n:Nat)(l:List a):List a:=List.rec (motive:=λU=>Nat->List a) (λU=>[]) (λx U d n=>Nat.rec (motive:=λU=>List a) [] (λk U=>x::d k) n) l n
noncomputable def mp{b a:Type}(f:b->a)(l:List b):List a:=List.rec (motive:=λU=>List a) [] (λx U d=>f x::d) l
noncomputable def aC(n:Nat):Nat->LN:=Nat.rec (motive:=λU=>Nat->LN) (λU=>[]) (λU d i=>i::d (i+1)) n
noncomputable def ivs(l:LN):List V:=mp (λn=>V.int (.ofNat n)) l
theorem gQ{b c:Type}{f g:b->c}:∀{l:List b},mp f l=mp g l->∀x∈l,f x=g x
 |[],_,x,j=>absurd j Qj
 |a::l,h,x,j=>by
  obtain⟨M,B⟩:=List.cons.inj (show f a::mp f l=g a::mp g l from h);rcases Qe j with rfl|j
  · exact M
  · exact gQ B x j
theorem sH:∀{n i x:Nat},i≤x->x<i+n->x∈aC n i
 |0,i,x,M,h2=>by lia
 |n+1,i,x,M,h2=>by
  show x∈i::aC n (i+1);by_cases e:x=i
  · rw[e];exact .head _
  · exact .tail _ (sH (by lia) (by lia))
theorem aU{b:Type}{f g:Nat->b}{n a:Nat}(h:mp f (aC n a)=mp g (aC n a)){x:Nat}(M:a≤x)(B:x<a+n):f x=g x:=gQ h x (sH M B)
theorem dmx{a b n:Nat}(h:b<n):(a*n+b)/n=a/\(a*n+b)%n=b:=
 ⟨by rw[Nat.add_comm,Nat.add_mul_div_right _ _ (Nat.lt_of_le_of_lt (Nat.zero_le _) h),Nat.div_eq_of_lt h,Nat.zero_add],by rw[Nat.add_comm,Nat.add_mul_mod_self_right,Nat.mod_eq_of_lt h]⟩
theorem dlx(e:a<m)(c:b<n):a*n+b<0+m*n:=by rw[Nat.zero_add];exact Qp (Nat.add_lt_add_left c _) (by rw[←Nat.succ_mul];exact Nat.mul_le_mul_right _ e)
noncomputable def mp2{a:Type}(m n:Nat)(f:Nat->Nat->a):List a:=mp (λi=>f (i/n) (i%n)) (aC (m*n) 0)
theorem bY{e:Type}{m n:Nat}{f g:Nat->Nat->e}(h:mp2 m n f=mp2 m n g){a b:Nat}(i:a<m)(c:b<n):f a b=g a b:=by have q:f ((a*n+b)/n) ((a*n+b)%n)=g ((a*n+b)/n) ((a*n+b)%n):=aU h (Qb _) (dlx i c);rw[(dmx c).1,(dmx c).2] at q;exact q
noncomputable def yis:List LN:=[[],[1],[0,1],[0,0,1],[2],[1,1],[1,0,1],[0,2],[0,1,1],[0,0,2],[3],[2,1],[2,0,1],[1,2],[1,1,1],[1,0,2],[0,3],[0,2,1],[0,1,2],[0,0,3],[4],[3,1],[3,0,1],[2,2],[2,1,1],[2,0,2],[1,3],[1,2,1],[1,1,2],[1,0,3],[0,4],[0,3,1],[0,2,2],[0,1,3],[0,0,4],[0,0,0,0,1]]
def wsO(a:V)(n b:Int)(c:LN)(w:Int)(s:V):O:= .inst 279 [(63,a),(70,.int n),(71,.int b),(72,.tup [.tup (ivs c),.int w]),(74,s)]
noncomputable def nI(i:Int):Option Nat:=Int.rec (motive:=λU=>Option Nat) some (λU=>none) i
theorem zyz(h:nI i=some n):i= .ofNat n:=by
 cases i with
 |ofNat k=>exact congrArg _ (prf (show some k=some n from h))
 |negSucc k=>cases(show(none:Option Nat)=some n from h)
def oZ(l:List V):Option LN:=List.rec (motive:=λU=>Option LN) (some []) (λx U d=>bd (vI x) λi=>bd (nI i) λn=>bd d λr=>some (n::r)) l
theorem za0:∀{l:List V} {r:LN},oZ l=some r->l=ivs r
 |[],r,h=>by rw[←prf h];rfl
 |x::l,r,h=>by refine aB (show bd (vI x) (λi=>bd (nI i) λn=>bd (oZ l) λr=>some (n::r))=some r from h) λi M h=>?_;refine aB h λn B h=>?_;refine aB h λa A h=>?_;rw[zT M,zyz B,za0 A,←prf h];rfl
def fld(k:Nat)(l:List (Nat×V)):Option (V×List (Nat×V)):=bd (unc l) λp=>ifb (Nat.beq p.1.1 k) (some (p.1.2,p.2))
theorem zbw(h:fld k l=some x):l=(k,x.1)::x.2:=by refine aB h λp M h=>?_;refine aJ h λB h=>?_;rw[pS M,←prf h,←aN B]
structure WsD where
 raw:V
 n:Int
 nt:Int
 cn:LN
 w:Int
 s:V
def wsR(o:O):Option WsD:=bd (oI o) λb=>ifb (Nat.beq b.1 279) (bd (fld 63 b.2) λr=>bd (fld 70 r.2) λn=>bd (vI n.1) λf=>bd (fld 71 n.2) λt=>bd (vI t.1) λe=>bd (fld 72 t.2) λm=>bd (vT m.1) λh=>bd (a2 h) λa=>bd (vT a.1) λj=>bd (oZ j) λi=>bd (vI a.2) λc=>bd (fld 74 m.2) λs=>ifb (emp s.2) (some ⟨r.1,f,e,i,c,s.1⟩))
theorem zu9(h:wsR o=some x):o=wsO x.raw x.n x.nt x.cn x.w x.s:=by refine aB h λg M h=>?_;refine aJ h λB h=>?_;refine aB h λr A h=>?_;refine aB h λn u h=>?_;refine aB h λz q h=>?_;refine aB h λt p h=>?_;refine aB h λy l h=>?_;refine aB h λm k h=>?_;refine aB h λD j h=>?_;refine aB h λH i h=>?_;refine aB h λd f h=>?_;refine aB h λQ e h=>?_;refine aB h λv c h=>?_;refine aB h λs b h=>?_;refine aJ h λa h=>?_;rw[ye9 M,aN B,zbw A,zbw u,zT q,zbw p,zT l,zbw k,zck j,zca i,zck f,za0 e,zT c,zbw b,kY a,←prf h];rfl
def cnI(i:Nat):LN:=byO (nth yis i) id []
noncomputable def ygt(a:LN):Nat:=List.rec (motive:=λU=>Nat) 0 (λc U d=>c+7*d) a
noncomputable def yir:LN:=[0,1,7,49,2,8,50,14,56,98,3,9,51,15,57,99,21,63,105,147,4,10,52,16,58,100,22,64,106,148,28,70,112,154,196,2401]
noncomputable def fdK(l:LN)(c:Nat):Nat->Option Nat:=List.rec (motive:=λU=>Nat->Option Nat) (λU=>none) (λx U d i=>cs (Nat.beq x c) (some i) (d (i+1))) l
def fdC(a:LN):Option Nat:=bd (fdK yir (ygt a) 0) λi=>ifb (Nat.ble i 35) (ifb (leq (cnI i) a) (some i))
theorem zfo(h:fdC cn=some i):i<36/\cnI i=cn:=by refine aB h λj M h=>?_;refine aJ h λB h=>?_;refine aJ h λA h=>?_;rw[←prf h];exact⟨Qx (Qa B),cN A⟩
noncomputable def ilP(a:Nat)(b:LN):Nat:=(List.rec (motive:=λU=>Nat->Nat) (λU=>0) (λc U d i=>cs (Nat.ble a i) (i/a*c+d (i+1)) (d (i+1))) b:Nat->Nat) 0
def lvP(a:Nat)(c:LN)(w b:Int):Int:=w+ .ofNat a*(.ofNat (ilP a c)+b)
noncomputable def two(k:Nat)(x y:O):Hp:=cs (Nat.beq k 0) [x,y] [y,x]
noncomputable def lrP(a:LN)(w:Nat):Nat:=Nat.max (len a-1) w
noncomputable def ntC(a:LN):Nat:=List.rec (motive:=λU=>Nat) 0 (λc U d=>c+d) a
abbrev wsK(r:V)(n:Int)(a:LN)(w:Int)(s:V):O:=wsO r n (.ofNat (ntC a)) a w s
theorem ykq(S:SF)(r s:V)(n w:Int)(o:O):mp2 36 4 (λi j=>F1 S zho [.v (.ref 0),.v (.int (.ofNat (j+2)))] [] (two 0 (wsK r n (cnI i) w s) o))=mp2 36 4 (λi j=>some (.v (.int (lvP (j+2) (cnI i) w (.ofNat (ntC (cnI i))))),two 0 (wsK r n (cnI i) w s) o)):=by kernel_rfl
theorem ykp(S:SF)(r s:V)(n w:Int)(o:O):mp2 36 4 (λi j=>F1 S zho [.v (.ref 1),.v (.int (.ofNat (j+2)))] [] (two 1 (wsK r n (cnI i) w s) o))=mp2 36 4 (λi j=>some (.v (.int (lvP (j+2) (cnI i) w (.ofNat (ntC (cnI i))))),two 1 (wsK r n (cnI i) w s) o)):=by kernel_rfl
theorem yks(S:SF)(r s:V)(n:Int)(o:O):mp2 36 4 (λi j=>F1 S zhm [.v (.ref 0)] [] (two 0 (wsK r n (cnI i) (.ofNat j) s) o))=mp2 36 4 (λi j=>some (.v (.int (.ofNat (lrP (cnI i) j))),two 0 (wsK r n (cnI i) (.ofNat j) s) o)):=by kernel_rfl
theorem ykr(S:SF)(r s:V)(n:Int)(o:O):mp2 36 4 (λi j=>F1 S zhm [.v (.ref 1)] [] (two 1 (wsK r n (cnI i) (.ofNat j) s) o))=mp2 36 4 (λi j=>some (.v (.int (.ofNat (lrP (cnI i) j))),two 1 (wsK r n (cnI i) (.ofNat j) s) o)):=by kernel_rfl
def lvS:GFn:=λe c J=>ifb (emp c) (bd (a2 e) λp=>bd (rR p.1) λk=>ifb (Nat.ble k 1) (bd (rI p.2) λb=>bd (nI b) λa=>ifb (aH (Nat.ble 2 a) (Nat.ble a 5)) (bd (a2 J) λq=>bd (wsR (cs (Nat.beq k 0) q.1 q.2)) λx=>ifb (Z.eqB x.nt (.ofNat (ntC x.cn))) (bd (fdC x.cn) λi=>some (.v (.int (lvP a x.cn x.w x.nt)),J)))))
def lrS:GFn:=λb a J=>ifb (emp a) (bd (a1 b) λp=>bd (rR p) λk=>ifb (Nat.ble k 1) (bd (a2 J) λq=>bd (wsR (cs (Nat.beq k 0) q.1 q.2)) λx=>bd (nI x.w) λw=>ifb (Nat.ble w 3) (ifb (Z.eqB x.nt (.ofNat (ntC x.cn))) (bd (fdC x.cn) λi=>some (.v (.int (.ofNat (lrP x.cn w))),J)))))
theorem zvb(h:a2 J=some q)(a:Nat.ble k 1=true)(j:wsR (cs (Nat.beq k 0) q.1 q.2)=some x):(k=0/\J=two 0 (wsO x.raw x.n x.nt x.cn x.w x.s) q.2)∨(k=1/\J=two 1 (wsO x.raw x.n x.nt x.cn x.w x.s) q.1):=by
 rw[zca h]
 match k,a with
 |0,_=>exact .inl ⟨rfl,by rw[←zu9 (show wsR q.1=some x from j)];rfl⟩
 |1,_=>exact .inr ⟨rfl,by rw[←zu9 (show wsR q.2=some x from j)];rfl⟩
theorem yfe{S:SF}{z:List RV}{t:List (Nat×RV)}{J:Hp}{r:RV×Hp}(h:lvS z t J=some r):F1 S zho z t J=some r:=by
 refine aJ h λA h=>?_;refine aB h λp M h=>?_;refine aB h λk B h=>?_;refine aJ h λg h=>?_;refine aB h λC d h=>?_;refine aB h λb Q h=>?_;refine aJ h λH h=>?_;refine aI H λa c=>?_;have a:=Qa a;have c:=Qa c;refine aB h λq D h=>?_;refine aB h λx l h=>?_;refine aJ h λf h=>?_;have u:=(Z.eqB_iff x.nt _).mp f;refine aB h λi j h=>?_;obtain⟨y,v⟩:=zfo j;have m:b-2+2=b:=Qz a;have o:b-2<4:=Nat.sub_lt_left_of_lt_add a (Qx c);rw[kY A,zca M,zc7 B,zyg d,zyz Q,←prf h];rcases zvb D g l with⟨rfl,e⟩|⟨rfl,e⟩
 · have:=bY (ykq S x.raw x.s x.n x.w q.2) y o
   simp only[m,v,wsK,←u,←e] at this;exact this
 · have:=bY (ykp S x.raw x.s x.n x.w q.1) y o
   simp only[m,v,wsK,←u,←e] at this;exact this
theorem yfh{S:SF}{v:List RV}{l:List (Nat×RV)}{J:Hp}{r:RV×Hp}(h:lrS v l J=some r):F1 S zhm v l J=some r:=by
 refine aJ h λy h=>?_;refine aB h λp M h=>?_;refine aB h λk B h=>?_;refine aJ h λD h=>?_;refine aB h λq z h=>?_;refine aB h λx f h=>?_;refine aB h λw A h=>?_;refine aJ h λa h=>?_;have a:=Qa a;refine aJ h λb h=>?_;have m:=(Z.eqB_iff x.nt _).mp b;refine aB h λi c h=>?_;obtain⟨u,t⟩:=zfo c;have j:w<4:=Qx a;rw[kY y,vF M,zc7 B,←prf h];have o:=zyz A;rcases zvb z D f with⟨rfl,e⟩|⟨rfl,e⟩
 · have:=bY (yks S x.raw x.s x.n q.2) u j
   simp only[t,wsK,←m,←o,←e] at this;exact this
 · have:=bY (ykr S x.raw x.s x.n q.1) u j
   simp only[t,wsK,←m,←o,←e] at this;exact this
def zw2(v:V):Option Row:=bd (vT v) λT=>bd (a2 T) λp=>bd (vS p.1) λk=>bd (vS p.2) λt=>some (k,t)
def zc4(T:List V):Option (List Row):=List.rec (motive:=λU=>Option (List Row)) (some []) (λx U d=>bd (zw2 x) λp=>bd d λr=>some (p::r)) T
def zm1(n:Nat)(J:Hp):Option (Nat×List Row):=bd (nO n J) λa=>ifb (Nat.beq a.1 184) (ifb (jR (look a.2 34)) (ifb (jR (look a.2 9)) (bd (look a.2 30) λb=>bd (vR b) λl=>ifb (bH (Nat.beq n l)) (bd (dH l J) λT=>ifb (Nat.ble (len T) 60000) (bd (zc4 T) λr=>some (l,r))))))
def yf1:GFn:=λe b J=>ifb (emp b) (bd (unc e) λp=>bd (rR p.1) λn=>bd (unc p.2) λq=>bd (rS q.1) λs=>bd (orl (ifb (emp q.2) (some V.none)) (bd (a1 q.2) λd=>bd (rV d) λv=>ifb (pla v) (some v))) λc=>bd (zm1 n J) λa=>ifb (okc okN (low s)) (some (byO (pJ (low s) a.2) (λv=> .v (.str v)) (.v c),J)))
def xI(s v:LN)(rows:List Row):List Row:=iY (low s) rows++[(s,v)]
def okS(s:LN):Bool:=aH (okc okN s) (okc okN (low s))
def exR(b other:LN)(rows:List Row):Option (List Row):=bd (pJ (low b) rows) λa=>bd (pJ (low other) rows) λc=>ifb (okc okV a) (ifb (okc okV c) (some (xI other a (xI b c rows))))
def zv9:GFn:=λe c J=>ifb (emp c) (bd (a3 e) λp=>bd (rR p.1) λn=>bd (rS p.2.1) λa=>bd (rS p.2.2) λother=>bd (zm1 n J) λb=>ifb (okS a) (ifb (okS other) (bd (exR a other b.2) λr=>some (.v .none,upd J b.1 (.list (r.map bI))))))
def zjf:GFn:=λb a J=>ifb (emp a) (bd (a1 b) λx=>bd (rS x) λs=>bd (stP s) λt=>some (.v (.str t),J))
def zd5:GFn:=λb a J=>ifb (emp a) (bd (a1 b) λx=>bd (rS x) λs=>bd (stP s) λt=>some (.v (.bool (ckP t)),J))
def SM:SF:=λf b a J=>ifb (Nat.beq f 217) (zd5 b a J)
def SN:SF:=λf b a J=>orl (ifb (Nat.beq f 241) (lrS b a J)) (ifb (Nat.beq f 248) (lvS b a J))
def zxg:List (Nat×GFn):=[(131,yf1),(323,zv9),(279,dU (zd3 279 fnW (cx1 (SS 5)))),(269,dU (F1 SN zhn)),(184,yfz (SS 5)),(141,F1 (SS 5) ya5),(148,F1 (SS 5) ya8),(181,yb6),
 (196,dU (F1 (SS 5) zs3)),(203,yay),(210,zjf),(217,zd5),(290,dU (F1 (SS 5) ya9)),(295,F1 (SS 5) ya7),(302,dU (F1 (SS 5) zs6)),(309,dU (F1 (SS 5) ya6)),(316,dU (F1 (SS 5) zs7)),(330,dU (F1 SM zs4))]
def SL:SF:=λf b a J=>bd (look zxg f) λg=>g b a J
abbrev cxL:Cx:=cx1 SL
theorem zw0(h:zw2 v=some p):v=bI p:=by refine aB h λT M h=>?_;refine aB h λq B h=>?_;refine aB h λk A h=>?_;refine aB h λt a h=>?_;rw[zck M,zca B,zir A,zir a,←prf h];rfl
theorem zai:∀{T:List V} {r:List Row},zc4 T=some r->T=r.map bI
 |[],r,h=>by rw[←prf h];rfl
 |x::T,r,h=>by refine aB (show bd (zw2 x) (λp=>bd (zc4 T) λr=>some (p::r))=some r from h) λp M h=>?_;refine aB h λa B h=>?_;rw[zw0 M,zai B,←prf h];rfl
theorem zm0(h:zm1 n J=some x):∃d,nth J n=some (.inst 184 d)/\look d 30=some (.ref x.1)/\look d 34=none/\look d 9=none/\n≠x.1/\nth J x.1=some (.list (x.2.map bI))/\len x.2≤60000:=by
 refine aB h λs M h=>?_;refine aJ h λB h=>?_;refine aJ h λA h=>?_;refine aJ h λf h=>?_;refine aB h λt m h=>?_;refine aB h λl k h=>?_;refine aJ h λc h=>?_;refine aB h λT j h=>?_;refine aJ h λi h=>?_;refine aB h λr a h=>?_;have e:=zai a;refine aB j λo q p=>?_;rw[←prf h];have b:=pI M;rw[aN B] at b;refine⟨s.2,b,m.trans (congrArg some (zpu k)),nL A,nL f,λz=>?_,q.trans (congrArg some ((zyu p).trans (congrArg O.list e))),?_⟩
 · have z:n=l:=z
   rw[z,Nat.beq_refl] at c;cases c
 · have:=Qa i
   rw[e,aK,List.length_map,←aK] at this;exact this
section
theorem zsu(h:yf1 as A J=some r):yf3 (SS (m+1)) as A J=some r:=by
 refine aJ h λQ h=>?_;refine aB h λp M h=>?_;refine aB h λn G h=>?_;refine aB h λq E h=>?_;refine aB h λs C h=>?_;refine aB h λc a h=>?_;refine aB h λN g h=>?_;refine aJ h λi h=>?_;obtain⟨d,w,u,o,l,g5,j,Y⟩:=zm0 g;rw[kY Q,pS M,zc7 G,pS E,sQ C];cases f:q.2 with
 |nil=>
  rw[f] at a;have a:some V.none=some c:=a;have B:=tI (S:=SS (m+1)) (dv:= .none) (λs b k J h=>lF m s b k J h) w u o l j i;rw[prf a] at B;show orl (F1 (SS (m+1)) zbv [.v (.ref n),.v (.str s)] [] J) _=_;have e:F1 (SS (m+1)) zbv [.v (.ref n),.v (.str s)] [] J=body (cx1 (SS (m+1))) bT [(29,.ref n),(33,.str s),(45,c)] J:=by rw[←prf a];rfl
  rw[e,B];exact h
 |cons x t=>
  rw[f] at a;have a:bd (a1 (x::t)) (λd=>bd (rV d) λv=>ifb (pla v) (some v))=some c:=by
   cases z:bd (a1 (x::t)) (λd=>bd (rV d) λv=>ifb (pla v) (some v)) with
   |none=>rw[show orl (ifb (emp (x::t)) (some V.none)) (bd (a1 (x::t)) (λd=>bd (rV d) λv=>ifb (pla v) (some v)))=none from z] at a;cases a
   |some y=>rw[show orl (ifb (emp (x::t)) (some V.none)) (bd (a1 (x::t)) (λd=>bd (rV d) λv=>ifb (pla v) (some v)))=some y from z] at a;exact a
  refine aB a λd' H a=>?_;refine aB a λv D a=>?_;refine aJ a λT a=>?_;rw[vF H,zg2 D,prf a];have B:=tI (S:=SS (m+1)) (dv:=c) (λs b k J h=>lF m s b k J h) w u o l j i;show orl (F1 (SS (m+1)) zbv [.v (.ref n),.v (.str s),.v c] [] J) (F1 (SS (m+1)) zs5 [.v (.ref n),.v (.str s),.v c] [] J)=_;have I:F1 (SS (m+1)) zbv [.v (.ref n),.v (.str s),.v c] [] J=none:=rfl;have e:F1 (SS (m+1)) zs5 [.v (.ref n),.v (.str s),.v c] [] J=body (cx1 (SS (m+1))) bT [(29,.ref n),(33,.str s),(45,c)] J:=rfl;rw[I,e,B];exact h
noncomputable def HdA(n l:Nat)(d:List (Nat×V))(rows:List Row)(hp:Hp):Prop:=nth hp n=some (.inst 184 d)/\look d 30=some (.ref l)/\look d 34=none/\look d 9=none/\n≠l/\nth hp l=some (.list (rows.map bI))
theorem zjm(H:HdA n l d rows J)(c:okc okN (low s)=true)(a:pJ (low s) rows=some v):SS (m+2) 131 [.v (.ref n),.v (.str s)] [] J=some (.v (.str v),J):=by show orl (F1 (SS (m+1)) zbv [.v (.ref n),.v (.str s)] [] J) _=_;have e:F1 (SS (m+1)) zbv [.v (.ref n),.v (.str s)] [] J=body (cx1 (SS (m+1))) bT [(29,.ref n),(33,.str s),(45,.none)] J:=rfl;rw[e,tI (λs b k J h=>lF m s b k J h) H.1 H.2.1 H.2.2.1 H.2.2.2.1 H.2.2.2.2.2 c,a];rfl
theorem zjl(H:HdA n l d rows J)(e:okS s=true)(c:okc okV v=true)(f:len rows≤65000):SS (m+3) 97 [.v (.ref n),.v (.str s),.v (.str v)] [] J=some (.v .none,upd J l (.list ((xI s v rows).map bI))):=by refine aI e λM B=>?_;have a:aM (len rows)=true:=Qd (Qi f (by decide));show F1 (SS (m+2)) zng [.v (.ref n),.v (.str s),.v (.str v)] [] J=_;refine zsp (λs b k J h=>lF (m+1) s b k J h) ?_ H.2.2.2.2.1 H.1 H.2.1 H.2.2.1 H.2.2.2.2.2 M c a;show F1 (SS (m+1)) zni [.v (.ref n),.v (.str s)] [] J=_;exact zsq (λs b k J h=>lF m s b k J h) H.1 H.2.1 H.2.2.1 H.2.2.2.2.2 B a
theorem HdA.set(H:HdA n l d rows J):HdA n l d rows' (upd J l (.list (rows'.map bI))):=
 ⟨(gN _ (Ne.symm H.2.2.2.2.1)).trans H.1,H.2.1,H.2.2.1,H.2.2.2.1,H.2.2.2.2.1,fY _ H.2.2.2.2.2⟩
theorem zeh:∀(J:Hp) (l:Nat) (a b:O),upd (upd J l a) l b=upd J l b
 |[],_,_,_=>rfl
 |x::r,0,a,b=>rfl
 |x::r,l+1,a,b=>congrArg (x:: ·) (zeh r l a b)
theorem znq(H:HdA n l d rows J)(M:okS one=true)(B:okS other=true)(u:pJ (low one) rows=some b)(t:pJ (low other) rows=some a)(p:okc okV b=true)(o:okc okV a=true)(i:len rows≤60000):
 F1 (SS (m+3)) znh [.v (.ref n),.v (.str one),.v (.str other)] [] J=some (.v .none,upd J l (.list ((xI other b (xI one a rows)).map bI))):=by
 have y:=zjm (m:=m+1) H (aF M).2 u;have x:=zjm (m:=m+1) H (aF B).2 t;have w:=zjl (m:=m) H M o (Qi i (by decide));have f:len (xI one a rows)≤65000:=by
  rw[aK,xI,List.length_append];have:=nU (low one) rows;rw[aK] at i;show _+1≤_
  lia
 have j:=zjl (m:=m) (H.set (rows':=xI one a rows)) B p f;rw[zeh] at j;obtain⟨h,D,A,r,q,z⟩:=H;have e:nth (upd J l (.list ((xI one a rows).map bI))) n=some (.inst 184 d):=(gN _ (Ne.symm q)).trans h;have s:∀(c:Nat) (d:List (Nat×V)),oL (.inst c d)=none:=λU U=>rfl;have k:vN .none=true:=rfl;simp only[F1,fnS,znh,fnX,body,gX,zon,zt6,hY,rN,Mine.h2,dF,jC,goN,dY,zbm,fH,bP,cF,hY,zt6,zon,dH,nO,zy1,zy2,zy3,zy6,zy7,zy8,zy9,iH,zF,zv1,zwn,zge,iI,uK,lO,zM,zJ,zw1,wP,yhk,wW,zgS,zpa,zq5,zwq,jB,gF,iK,kG,fW,iJ,kF,kE,sF,uM,wV,uL,fV,eY,zP,zO,hM,hK,wU,wR,wQ,zN,zcf,List.append_nil,List.zip_cons_cons,List.zip_nil_left,yh6,List.nil_append,List.append_nil,List.cons_append,List.zip_cons_cons,List.zip_nil_left,zcg,zce,Nat.beq,y,x,w,j,h,e,r,s,k,Nat.ble]
theorem ztc(h:zv9 as i J=some r):F1 (SS (m+3)) znh as i J=some r:=by refine aJ h λo h=>?_;refine aB h λp M h=>?_;refine aB h λn B h=>?_;refine aB h λf A h=>?_;refine aB h λother s h=>?_;refine aB h λg q h=>?_;refine aJ h λk h=>?_;refine aJ h λj h=>?_;refine aB h λQ a h=>?_;obtain⟨d,z,y,x,w,v,u,t⟩:=zm0 q;refine aB a λb H a=>?_;refine aB a λl D a=>?_;refine aJ a λe a=>?_;refine aJ a λc a=>?_;rw[kY o,yca M,zc7 B,sQ A,sQ s,←prf h,←prf a];exact znq ⟨z,y,x,w,v,u⟩ k j H D e c t
theorem zad(h:stP s=some t)(J:Hp):SS (m+2) 210 [.v (.str s)] [] J=some (.v (.str t),J):=by show dU (F1 (SS (m+1)) zbu) (rvs [.str s]) [] J=_;exact kI (zxt (λU=>rfl) h) rfl rfl J
theorem zje(h:zjf as a J=some r):dU (F1 (SS (m+1)) zbu) as a J=some r:=by refine aJ h λb h=>?_;refine aB h λx M h=>?_;refine aB h λs B h=>?_;refine aB h λt A h=>?_;rw[kY b,vF M,sQ B,←prf h];exact zad A J
theorem zb2(h:zd5 as a J=some r):dU (F1 (SS (m+2)) zdx) as a J=some r:=by refine aJ h λb h=>?_;refine aB h λx M h=>?_;refine aB h λs B h=>?_;refine aB h λt A h=>?_;rw[kY b,vF M,sQ B,←prf h];show dU (F1 (SS (m+2)) zdx) (rvs [.str s]) [] J=_;exact kI ⟨[],ybq (λJ=>zad A J) (λU=>rfl) []⟩ rfl rfl J
end
section
open PySem PySem.W PyProof.Rows PySem.Calls
variable(X:(K1 P).In h₀)(lim:h₀.NoLimit)(top:∃mg mb,h₀.Ns mainGlobals mg/\h₀.Ns builtinsNs mb/\∀x:Str,x≠"__name__"->mb x=bootBuiltins x)
include X lim top
theorem lQ(h:look (zqa 5 (SS 5)) f=some g):eV (OG a w h₀) (Rm 14) f g:=nA (n:=5) (d:=10) X lim top (zZ X lim top 5) _ (bQ h)
omit X lim top in
theorem xA(I:eV (OG a w h₀) R f l)(h:∀{as:List RV} {ks:List (Nat×RV)} {J:Hp} {r:RV×Hp},g as ks J=some r->l as ks J=some r):eV (OG a w h₀) R f g:=
 λk H G i c e m b j=>I k H G i c (h e) m b j
theorem yiv(f:Addr):eV (OG a w h₀) (Rm 10) f (SM f):=λi H G h c e k b g=>by refine aJ e λj e=>?_;rw[aN j];exact nA (n:=3) (d:=6) X lim top (zZ X lim top 3) (217,dU (F1 (SS 3) zdx)) (bQ rfl) i H G h c (zb2 (m:=1) e) k b g
theorem ydg(f:Addr):eV (OG a w h₀) (Rm 10) f (λl b J=>ifb (Nat.beq f 241) (lrS l b J)):=λj H G i h e m c g=>by refine aJ e λk e=>?_;rw[aN k];exact nA (n:=3) (d:=6) X lim top (zZ X lim top 3) (241,F1 (SS 3) zhm) (bQ rfl) j H G i h (yfh e) m c g
theorem ydf(f:Addr):eV (OG a w h₀) (Rm 10) f (λl b J=>ifb (Nat.beq f 248) (lvS l b J)):=λj H G i h e m c g=>by refine aJ e λk e=>?_;rw[aN k];exact nA (n:=3) (d:=6) X lim top (zZ X lim top 3) (248,F1 (SS 3) zho) (bQ rfl) j H G i h (yfe e) m c g
theorem yiu(f:Addr):eV (OG a w h₀) (Rm 10) f (SN f):=wZ (ydg X lim top f) (ydf X lim top f)
theorem ydi:eV (OG a w h₀) (Rm 14) 269 (dU (F1 SN zhn)):=dN (zY (λA h=>h.low (by decide)) (fnN X lim top (ctS (d:=8) X lim top (yiu X lim top)) (ye6 P)))
theorem ydh:eV (OG a w h₀) (Rm 14) 330 (dU (F1 SM zs4)):=dN (zY (λA h=>h.low (by decide)) (fnN X lim top (ctS (d:=8) X lim top (yiv X lim top)) (ye5 P)))
theorem ydj(f:Addr):eV (OG a w h₀) (Rm 14) f (SL f):=λj H G h c e l b i=>by
 refine aB e λg k e=>?_;have I:∀p∈zxg,eV (OG a w h₀) (Rm 14) p.1 p.2:=by simp only[zxg,List.forall_mem_cons];refine⟨xA (lQ X lim top (f:=131) rfl) zsu,xA (lQ X lim top (f:=323) rfl) ztc,lQ X lim top rfl,ydi X lim top,lQ X lim top rfl,lQ X lim top rfl,lQ X lim top rfl,lQ X lim top rfl,lQ X lim top rfl,lQ X lim top rfl,xA (lQ X lim top (f:=210) rfl) zje,xA (lQ X lim top (f:=217) rfl) zb2,lQ X lim top rfl,lQ X lim top rfl,lQ X lim top rfl,lQ X lim top rfl,lQ X lim top rfl,ydh X lim top,by simp⟩
 exact I _ (bQ k) j H G h c e l b i
theorem ctL:CT (OG prog w h₀) cxL (Rm 14):=ctS (d:=12) X lim top (ydj X lim top)
end
noncomputable def nC(a:LN)(w:Nat):Nat:=(List.rec (motive:=λU=>Nat->Nat) (λU=>w) (λc U d i=>(i+1)*c+d (i+1)) a:Nat->Nat) 0
def wsL(r:LN)(a:LN)(w:Nat):O:=wsO (.str r) (.ofNat (nC a w)) (.ofNat (ntC a)) a (.ofNat w) (.bool (Nat.ble (len a) 1))
def lvZ(b:Nat)(a:LN)(w:Nat):Int:=lvP b a (.ofNat w) (.ofNat (ntC a))
def za6(k:Nat)(a b:LN)(w v:Nat):Nat->Bool:=Nat.rec (motive:=λU=>Nat->Bool) (λU=>true) (λU d c=>cs (Z.leB (lvZ c b v) (lvZ c a w)) false (d (c+1))) k
def dW(a b:LN)(w v:Nat):Bool:=cs (Nat.ble (nC b v) (nC a w)) false (cs (aH (Nat.ble (len a) 1) (Nat.ble (len b) 1)) (Nat.ble (ntC a) (ntC b)) (za6 (Nat.max (lrP a w) (lrP b v)) a b w v 2))
def leS(k:Nat):FS:=byO (nth eL k) id (.pass 0)
def leB:List FS:=match leS 3 with| .for_ _ _ b _ _=>b|_=>[]
noncomputable abbrev frL:L:=[(29,.ref 0),(79,.ref 1)]
section
theorem yfn:ex (cx1 S) (leS 0) frL [wsO r n h cn w s,wsO f c a b e u]=cs (Z.leB c n) (some (.ret (.v (.bool false)),frL,[wsO r n h cn w s,wsO f c a b e u])) (some (.next,frL,[wsO r n h cn w s,wsO f c a b e u])):=by kernel_rfl
theorem zzs:ex (cx1 S) (leS 1) frL [wsO r n f cn w (.bool false),wsO e h a b c u]=some (.next,frL,[wsO r n f cn w (.bool false),wsO e h a b c u]):=by kernel_rfl
theorem zzr:ex (cx1 S) (leS 1) frL [wsO r n f cn w (.bool true),wsO e h a b c (.bool false)]=some (.next,frL,[wsO r n f cn w (.bool true),wsO e h a b c (.bool false)]):=by kernel_rfl
theorem zzq:ex (cx1 S) (leS 1) frL [wsO r n c cn w (.bool true),wsO f h a b e (.bool true)]=some (.ret (.v (.bool (Z.leB c a))),frL,[wsO r n c cn w (.bool true),wsO f h a b e (.bool true)]):=by kernel_rfl
theorem lt5(h:a<5):a=0∨a=1∨a=2∨a=3∨a=4:=by lia
noncomputable abbrev leA:FS:= .asg [.name 70 3359753] (.bin .Add (.call (.glo 76 3360271) [.mcall (.var 29 3360788) 80 [] [] [] [] 3360810 3360812,.mcall (.var 79 3364659) 80 [] [] [] [] 3364681 3364683] [] [] [] 3360332) (.int 1 3368912) 3360336) 3359824
noncomputable abbrev leI:List FS:=[.ife (.cmp .GtE (.mcall (.var 29 3393427) 82 [.var 81 3395747] [] [] [] 3393440 3393444) (.mcall (.var 79 3396653) 82 [.var 81 3399101] [] [] [] 3396666 3396670) 3393470) [.ret (.fls 3410844) 3409948] [] 207012208028]
theorem yfm(a:H=[.inst 279 d,.inst 279 b])(e:look d 80=none)(c:look b 80=none)(o:la<5)(m:lb<5)(M:S 241 [.v (.ref 0)] [] H=some (.v (.int (.ofNat la)),H))(B:S 241 [.v (.ref 1)] [] H=some (.v (.int (.ofNat lb)),H)):
 ex (cx1 S) leA frL H=some (.next,frL++[(70,.int (.ofNat (Nat.max la lb+1)))],H):=by
 have i:nth H 0=some (.inst 279 d):=by rw[a];rfl
 have h:nth H 1=some (.inst 279 b):=by rw[a];rfl
 have l:jR (none:Option V)=true:=rfl;have k:∀(f n x:Nat) (as:List RV) (H:Hp),kC (cx1 S) (.fn f (.ref n)) x as [] H=S f (.v (.ref n)::as) [] H:=λU U U U U=>rfl;have j:∀(n:Nat) (d:List (Nat×V)),mkO (cx1 S) n 80 (.inst 279 d)=ifb (jR (look d 80)) (some (MK.fn 241 (.ref n))):=λU U=>rfl;simp only[leA,frL,jC,goN,dY,qP,Mine.h2,za9,uY,fH,jT,bP,cF,same,dP,zy1,zy3,zy7,zy8,zy9,iH,jA,iI,lO,zcd,zpb,kD,zq3,zq5,zq6,zq8,uO,jB,gF,iK,kG,kF,kE,fV,eY,yhy,hM,hK,yhs,List.nil_append,List.cons_append,List.zip_nil_left,yh9,Nat.beq,M,B,i,h,e,c,l,k,j];rcases lt5 o with rfl|rfl|rfl|rfl|rfl<;>rcases lt5 m with rfl|rfl|rfl|rfl|rfl<;>rfl
abbrev zbr(m:Int)(a:L):L:=frL++[(70,.int m)]++a
theorem zse(c:H=[.inst 279 d,.inst 279 e])(i:look d 82=none)(h:look e 82=none)(q:a=[]∨∃x,a=[(81,x)])(M:S 248 [.v (.ref 0),.v (.int ts)] [] H=some (.v (.int la),H))(B:S 248 [.v (.ref 1),.v (.int ts)] [] H=some (.v (.int lb),H)):
 aX (cx1 S) (.name 81 3376654) (exs (cx1 S) leI) (.int ts) (zbr m a) H=some (cs (Z.leB lb la) (.ret (.v (.bool false))) .next,zbr m [(81,.int ts)],H):=by
 have k:nth H 0=some (.inst 279 d):=by rw[c];rfl
 have j:nth H 1=some (.inst 279 e):=by rw[c];rfl
 have p:jR (none:Option V)=true:=rfl;have o:∀(f n x:Nat) (as:List RV) (H:Hp),kC (cx1 S) (.fn f (.ref n)) x as [] H=S f (.v (.ref n)::as) [] H:=λU U U U U=>rfl;have l:∀(n:Nat) (d:List (Nat×V)),mkO (cx1 S) n 82 (.inst 279 d)=ifb (jR (look d 82)) (some (MK.fn 248 (.ref n))):=λU U=>rfl;have b:aX (cx1 S) (.name 81 3376654) (exs (cx1 S) leI) (.int ts) (zbr m a) H=exs (cx1 S) leI (zbr m [(81,.int ts)]) H:=by rcases q with rfl|⟨x,rfl⟩<;>rfl
 rw[b];simp only[leI,frL,zbr,dF,kH,qL,dY,Mine.h2,jM,hS,fH,bP,cF,dP,zy1,zy3,zy7,zy8,iI,lO,yhn,zw4,kD,zq2,zq5,jB,gF,iK,lP,mG,uN,fW,iJ,fV,eY,hM,hK,aX,List.append_nil,List.nil_append,List.cons_append,List.zip_nil_left,List.nil_append,List.cons_append,Nat.beq,M,B,k,j,i,h,p,o,l];cases Z.leB lb la<;>rfl
abbrev zmc:FS:= .for_ (.name 81 3376654) (.call (.glo 52 3377431) [.int 2 3378201,.bin .Add (.var 70 3378588) (.int 1 3379104) 3378592] [] [] [] 3377441) leI [] 206008208028
abbrev leF(S:SF):=aX (cx1 S) (.name 81 3376654) (exs (cx1 S) leI)
theorem ze9{d o:List (Nat×V)}(n:H=[.inst 279 d,.inst 279 o])(j:look d 82=none)(h:look o 82=none){a b:LN}{w v:Nat}{m:Int}:∀(k i:Nat) (f:L),(f=[]∨∃x,f=[(81,x)])->
 (∀c,i≤c->c<i+k->S 248 [.v (.ref 0),.v (.int (.ofNat c))] [] H=some (.v (.int (lvZ c a w)),H)/\S 248 [.v (.ref 1),.v (.int (.ofNat c))] [] H=some (.v (.int (lvZ c b v)),H))->
 ∃e,bR (leF S) (k+1) (.items (pX k (.ofNat i))) (zbr m f) H=some (cs (za6 k a b w v i) LE.dry (.ret (.v (.bool false))),e,H)
 |0,i,f,l,_=>⟨_,rfl⟩
 |k+1,i,f,l,hs=>by
  have T:leF S (.int (.ofNat i)) (zbr m f) H=_:=zse (m:=m) (ts:= .ofNat i) n j h l (hs i (Qm _) (by lia)).1 (hs i (Qm _) (by lia)).2;rw[ya0,T];show∃e,nxt (cs (Z.leB (lvZ i b v) (lvZ i a w)) _ _,_,_) _=some (cs (cs (Z.leB (lvZ i b v) (lvZ i a w)) false (za6 k a b w v (i+1))) _ _,e,H);cases Z.leB (lvZ i b v) (lvZ i a w) with
  |true=>exact⟨_,rfl⟩
  |false=>exact ze9 n j h k (i+1) _ (.inr ⟨_,rfl⟩) (λc M B=>hs c (by lia) (by lia))
theorem zzt(a:M<5):ex (cx1 S) zmc (frL++[(70,.int (.ofNat (M+1)))]) H=bd (bR (leF S) (M+1) (.items (pX M (.ofNat 2))) (zbr (.ofNat (M+1)) []) H) (iQ (exs (cx1 S) [])):=by rcases lt5 a with rfl|rfl|rfl|rfl|rfl<;>kernel_rfl
theorem zl5{f c a b:LN}{w v:Nat}(M:S 241 [.v (.ref 0)] [] [wsL f a w,wsL c b v]=some (.v (.int (.ofNat (lrP a w))),[wsL f a w,wsL c b v]))(l:S 241 [.v (.ref 1)] [] [wsL f a w,wsL c b v]=some (.v (.int (.ofNat (lrP b v))),[wsL f a w,wsL c b v]))(p:lrP a w<5)(o:lrP b v<5)
 (B:∀h,2≤h->h<2+Nat.max (lrP a w) (lrP b v)->S 248 [.v (.ref 0),.v (.int (.ofNat h))] [] [wsL f a w,wsL c b v]=some (.v (.int (lvZ h a w)),[wsL f a w,wsL c b v])/\S 248 [.v (.ref 1),.v (.int (.ofNat h))] [] [wsL f a w,wsL c b v]=some (.v (.int (lvZ h b v)),[wsL f a w,wsL c b v])):
 F1 S zhn [.v (.ref 0),.v (.ref 1)] [] [wsL f a w,wsL c b v]=some (.v (.bool (dW a b w v)),[wsL f a w,wsL c b v]):=by
 show bd (exs (cx1 S) [leS 0,leS 1,leA,zmc,.ret (.tru 3426195) 3425299] frL [wsL f a w,wsL c b v]) xT=_;have k:ex (cx1 S) (leS 0) frL [wsL f a w,wsL c b v]=cs (Nat.ble (nC b v) (nC a w)) (some (.ret (.v (.bool false)),frL,[wsL f a w,wsL c b v])) (some (.next,frL,[wsL f a w,wsL c b v])):=yfn;unfold dW;cases s:Nat.ble (nC b v) (nC a w) with
 |true=>rw[s] at k;rw[znp k];rfl
 |false=>
  rw[s] at k;rw[nT k];have q:ex (cx1 S) (leS 1) frL [wsL f a w,wsL c b v]=some (.next,frL,[wsL f a w,wsL c b v])->bd (exs (cx1 S) [leS 1,leA,zmc,.ret (.tru 3426195) 3425299] frL [wsL f a w,wsL c b v]) xT=some (.v (.bool (za6 (Nat.max (lrP a w) (lrP b v)) a b w v 2)),[wsL f a w,wsL c b v]):=λu=>by
   rw[nT u];have t:=yfm (S:=S) (H:=[wsL f a w,wsL c b v]) rfl rfl rfl p o M l;rw[nT t];have x:Nat.max (lrP a w) (lrP b v)<5:=Nat.max_lt.mpr ⟨p,o⟩;have i:=zzt (S:=S) (H:=[wsL f a w,wsL c b v]) x;obtain⟨j,L⟩:=ze9 (S:=S) (H:=[wsL f a w,wsL c b v]) (a:=a) (b:=b) (w:=w) (v:=v) (m:= .ofNat (Nat.max (lrP a w) (lrP b v)+1)) rfl rfl rfl (Nat.max (lrP a w) (lrP b v)) 2 [] (.inl rfl) B;rw[L] at i;cases e:za6 (Nat.max (lrP a w) (lrP b v)) a b w v 2 with
   |true=>rw[e] at i;rw[nT (y:=(j,_)) i];rfl
   |false=>rw[e] at i;rw[znp (y:=(j,_)) i];rfl
  cases n:Nat.ble (len a) 1 with
  |false=>rw[q (by unfold wsL;rw[n];exact zzs)];rfl
  |true=>
   cases r:Nat.ble (len b) 1 with
   |false=>rw[q (by unfold wsL;rw[n,r];exact zzr)];rfl
   |true=>
    have:ex (cx1 S) (leS 1) frL [wsL f a w,wsL c b v]=some (.ret (.v (.bool (Nat.ble (ntC a) (ntC b)))),frL,[wsL f a w,wsL c b v]):=by unfold wsL;rw[n,r];exact zzq
    rw[znp this];rfl
end
def okC(a:LN)(w:Nat):Bool:=byO (fdC a) (λU=>Nat.ble w 3) false
theorem sY:∀l:LN,oZ (ivs l)=some l
 |[]=>rfl
 |c::r=>by show bd (oZ (ivs r)) (λx=>some (c::x))=_;rw[sY r];rfl
theorem zef(r a:LN)(w:Nat):wsR (wsL r a w)=some ⟨.str r,.ofNat (nC a w),.ofNat (ntC a),a,.ofNat w,.bool (Nat.ble (len a) 1)⟩:=by show bd (oZ (ivs a)) _=_;rw[sY];rfl
theorem sW(h:okC cn w=true):(∃i,fdC cn=some i)/\Nat.ble w 3=true/\lrP cn w<5:=by
 cases e:fdC cn with
 |none=>unfold okC at h;rw[e] at h;cases h
 |some i=>unfold okC at h;rw[e] at h;have h:Nat.ble w 3=true:=h;refine⟨⟨i,rfl⟩,h,?_⟩;obtain⟨M,B⟩:=zfo e;have A:Nat.ble (len (cnI i)) 5=true:=aG (p:=λi=>Nat.ble (len (cnI i)) 5) (n:=36) (by kernel_rfl) i M;rw[B] at A;have A:=Qa A;have a:=Qa h;exact Nat.max_lt.mpr ⟨by lia,by lia⟩
theorem zvu(m:i=0∨i=1)(e:okC a w=true)(c:okC b v=true):SN 241 [.v (.ref i)] [] [wsL h a w,wsL f b v]=some (.v (.int (.ofNat (cs (Nat.beq i 0) (lrP a w) (lrP b v)))),[wsL h a w,wsL f b v]):=by
 obtain⟨⟨k,e⟩,j,_⟩:=sW e;obtain⟨⟨o,c⟩,l,_⟩:=sW c;have z:∀n:Nat,Z.eqB (.ofNat n) (.ofNat n)=true:=λn=>Ql n
 rcases m with rfl|rfl
 · show orl (bd (wsR (wsL h a w)) _) _=_
   rw[zef];show orl (ifb (Nat.ble w 3) (ifb (Z.eqB (.ofNat (ntC a)) (.ofNat (ntC a))) (bd (fdC a) _))) _=_;rw[j,z,e];rfl
 · show orl (bd (wsR (wsL f b v)) _) _=_
   rw[zef];show orl (ifb (Nat.ble v 3) (ifb (Z.eqB (.ofNat (ntC b)) (.ofNat (ntC b))) (bd (fdC b) _))) _=_;rw[l,z,c];rfl
theorem yff(i:okC a w=true)(h:okC b v=true)(M:Nat.ble 2 c=true)(B:Nat.ble c 5=true):SN 248 [.v (.ref 0),.v (.int (.ofNat c))] [] [wsL f a w,wsL e b v]=some (.v (.int (lvZ c a w)),[wsL f a w,wsL e b v])/\SN 248 [.v (.ref 1),.v (.int (.ofNat c))] [] [wsL f a w,wsL e b v]=some (.v (.int (lvZ c b v)),[wsL f a w,wsL e b v]):=by
 obtain⟨⟨k,i⟩,l,_⟩:=sW i;obtain⟨⟨j,h⟩,m,_⟩:=sW h;have z:∀n:Nat,Z.eqB (.ofNat n) (.ofNat n)=true:=λn=>Ql n
 constructor
 · show orl none (ifb (aH (Nat.ble 2 c) (Nat.ble c 5)) (bd (wsR (wsL f a w)) _))=_
   rw[M,B,zef];show(ifb (Z.eqB (.ofNat (ntC a)) (.ofNat (ntC a))) (bd (fdC a) _))=_;rw[z,i];rfl
 · show orl none (ifb (aH (Nat.ble 2 c) (Nat.ble c 5)) (bd (wsR (wsL e b v)) _))=_
   rw[M,B,zef];show(ifb (Z.eqB (.ofNat (ntC b)) (.ofNat (ntC b))) (bd (fdC b) _))=_;rw[z,h];rfl
theorem zsa(e:okC a w=true)(c:okC b v=true):F1 SN zhn [.v (.ref 0),.v (.ref 1)] [] [wsL j a w,wsL i b v]=some (.v (.bool (dW a b w v)),[wsL j a w,wsL i b v]):=by have h:=(sW e).2.2;have f:=(sW c).2.2;have l:Nat.max (lrP a w) (lrP b v)<5:=Nat.max_lt.mpr ⟨h,f⟩;exact zl5 (zvu (.inl rfl) e c) (zvu (.inr rfl) e c) h f λk M B=>yff e c (Qd M) (Qd (by lia))
theorem zqd{S0:List RV->List (Nat×RV)->Hp->Option (RV×Hp)}{i j e c:Nat}{b a:List (Nat×V)}{J:Hp}{x:Bool}(f:tD i [j]=false)(M:nth J i=some (.inst e b))(B:nth J j=some (.inst c a))(k:oPl (.inst e b)=true)(h:oPl (.inst c a)=true)
 (q:S0 [.v (.ref 0),.v (.ref 1)] [] [.inst e b,.inst c a]=some (.v (.bool x),[.inst e b,.inst c a])) (m:upd J i (.inst e b)=J) (l:upd J j (.inst c a)=J):dU S0 [.v (.ref i),.v (.ref j)] [] J=some (.v (.bool x),J):=by
 have n:gP (bN [.v (.ref i),.v (.ref j)])=true:=by show aH (bH (tD i [j])) true=true;rw[f];rfl
 have g:nQ [.v (.ref i),.v (.ref j)] J 0=some ([.ref 0,.ref 1],[.inst e b,.inst c a]):=by show bd (bd (nth J i) _) (λo=>bd (bd (bd (nth J j) _) _) _)=_;rw[M];show bd (ifb (oPl (.inst e b)) _) _=_;rw[k];show bd (bd (bd (nth J j) _) _) _=_;rw[B];show bd (bd (ifb (oPl (.inst c a)) _) _) _=_;rw[h];rfl
 have w:wb [.v (.ref i),.v (.ref j)] [.inst e b,.inst c a] J=some J:=by show ifb (oPl (.inst e b)) (ifb (oPl (.inst c a)) (some (upd (upd J i (.inst e b)) j (.inst c a))))=_;rw[k,h,m,l];rfl
 show ifb (gP (bN [.v (.ref i),.v (.ref j)])) (bd (nQ [.v (.ref i),.v (.ref j)] J 0) _)=_;rw[n,g];show bd (S0 [.v (.ref 0),.v (.ref 1)] [] [.inst e b,.inst c a]) _=_;rw[q];show bd (wb [.v (.ref i),.v (.ref j)] [.inst e b,.inst c a] J) _=_;rw[w];rfl
theorem zar:∀l:LN,mM (ivs l)=true
 |[]=>rfl
 |c::r=>zar r
theorem zdb(r a:LN)(w:Nat):oPl (wsL r a w)=true:=by show aH true (aH true (aH true (aH (cs (mM (ivs a)) true false) (aH true true))))=true;rw[zar];rfl
theorem mY:∀{J:Hp} {i:Nat} {o:O},nth J i=some o->upd J i o=J
 |x::r,0,o,h=>by rw[←prf (show some x=some o from h)];rfl
 |x::r,i+1,o,h=>congrArg (x:: ·) (mY (show nth r i=some o from h))
theorem yD(f:okC a w=true)(e:okC b v=true)(c:tD i [j]=false)(M:nth J i=some (wsL ra a w))(B:nth J j=some (wsL rb b v)):SL 269 [.v (.ref i),.v (.ref j)] [] J=some (.v (.bool (dW a b w v)),J):=
 zqd c M B (zdb _ _ _) (zdb _ _ _) (zsa f e) (mY M) (mY B)
noncomputable def jH:LN:=[96,89,91,92,93,122,123,124,116,98,125,126,100,127,31,130,131,33,135,105,137,138,79,140,115,109,50,142,143,145,146,54,147,149,151,152,153,117,154,155,156,62,158,159,161,94,162,163,164,165,166,167,51,169,172]
def frm(k:Nat)(f:Nat->V):L:=mp (λx=>(x,f x)) (tk k jH)
noncomputable def ov{a:Type}(l:List (Nat×a))(f:Nat->a)(x:Nat):a:=byO (look l x) id (f x)
noncomputable def hpm(k:Nat)(g:Nat->O):Hp:=mp g (aC k 0)
def gG(l:LN):O:= .list (.int (.negSucc 0)::ivs l)
noncomputable def zeq:List Row:=[([97,98,99,100,101],[]),([97],[97]),([98],[98]),([99],[99]),([100],[100]),([101],[101]),([65],[122])]
noncomputable def yfi(b:Bool)(k:Nat):LN:=[cs b (65+k) (97+k)]
def exT(a c:LN)(i:Nat)(b:Bool)(r:List Row):List Row:=byO (nth c i) (λo=>byO (nth (0::a) o) (λu=>byO (exR (yfi b o) (yfi b u) r) id []) []) []
def znr(a b:LN):List Row:=exT a b 3 true (exT a b 2 false (exT a b 1 true (exT a b 0 false zeq)))
def H17(a b:LN)(p:Nat->O):Hp:=hpm 22 (ov [(2,gG a),(5,.list (ivs b)),(11,gG a),(20,.list (zeq.map bI)),(21,.inst 184 [(30,.ref 20)])] p)
def seg(a n:Nat):List FS:=tk n (List.drop a nS)
def yel(f h:LN):Nat->Nat->Int->LN:=Nat.rec (motive:=λU=>Nat->Int->LN) (λU U=>[]) λU d k a=>
 let e (t:Nat) (b:Bool):LN:=byO (nth h t) (λc=>byO (nth (9::f) c) (λu=>cs (Nat.beq u k) (cs (zh1 (Z.ltB (.ofNat t) a) b) (d c (.ofNat t)) []) []) []) []
 e 3 true++(e 2 true++(e 1 true++e 0 true))++[k]++(e 3 false++(e 2 false++(e 1 false++e 0 false)))
def vO(a b:LN):LN:=yel a b 5 0 (.negSucc 0)
def ztk(a b:LN):O:= .list ((znr a b).map bI)
noncomputable def zei:List LN:=[[0,0,0,0],[0,0,0,3],[0,0,2,0],[0,0,2,2],[0,0,2,3],[0,1,0,0],[0,1,0,3],[0,1,1,0],[0,1,1,1],[0,1,1,3],[0,1,2,0],[0,1,2,1],[0,1,2,2],[0,1,2,3]]
noncomputable def zyr:List LN:=[[1,2,3,4],[1,2,4,3],[1,3,2,4],[1,3,4,2],[1,4,2,3],[1,4,3,2],[2,1,3,4],[2,1,4,3],[2,3,1,4],[2,3,4,1],[2,4,1,3],[2,4,3,1],[3,1,2,4],[3,1,4,2],[3,2,1,4],[3,2,4,1],[3,4,1,2],[3,4,2,1],[4,1,2,3],[4,1,3,2],[4,2,1,3],[4,2,3,1],[4,3,1,2],[4,3,2,1]]
def aW(t:Nat):LN:=byO (nth zei t) id []
def gM(o:Nat):LN:=byO (nth zyr o) id []
noncomputable def zvy(a b:LN):Nat:=byO (nth b 3) (λo=>byO (nth (0::a) o) id 0) 0
def A16(q:Nat->V):L:=frm 25 (ov [(89,.ref 2),(92,.ref 5),(131,.ref 11),(140,.ref 20),(115,.ref 21)] q)
def B25(a b:LN)(q:Nat->V):L:=frm 31 (ov [(89,.ref 2),(92,.ref 5),(131,.ref 11),(31,.int (.ofNat (zvy a b))),(140,.ref 20),(115,.ref 21),(109,.int 3),(50,.str [65,66,67,68,69]),(142,.ref 22),(143,.ref 23),(145,.ref 24),(146,.ref 25)] q)
def I25(a b:LN)(p:Nat->O):Hp:=hpm 26 (ov [(2,gG a),(5,.list (ivs b)),(11,gG a),(20,ztk a b),(21,.inst 184 [(30,.ref 20)]),(22,.list (ivs (vO a b))),(23,ztk a b),(24,.list ((znr a b).map bI++[.tup [.str [97],.str [122]]])),(25,.list (ivs (vO a b)))] p)
def hU(i:Nat):List FS:=byO (nth nS i) (λs=>match s with| .for_ _ _ b _ _=>b|_=>[]) []
def fC(i:Nat):Tg:=byO (nth nS i) (λs=>match s with| .for_ t _ _ _ _=>t|_=> .name 0 0) (.name 0 0)
noncomputable def yeh:List LN:=[[],[0],[1],[2],[0,0],[0,1],[0,2],[1,0],[1,1],[1,2],[2,0],[2,1],[2,2],[0,0,0],[0,0,1],[0,0,2],[0,1,0],[0,1,1],[0,1,2],[0,2,0],[0,2,1],[0,2,2],[1,0,0],[1,0,1],[1,0,2],[1,1,0],[1,1,1],[1,1,2],[1,2,0],[1,2,1],[1,2,2],[2,0,0],[2,0,1],[2,0,2],[2,1,0],[2,1,1],[2,1,2],[2,2,0],[2,2,1],[2,2,2],[0,0,0,0],[0,0,0,1],[0,0,0,2],[0,0,1,0],[0,0,1,1],[0,0,1,2],[0,0,2,0],[0,0,2,1],[0,0,2,2],[0,1,0,0],[0,1,0,1],[0,1,0,2],[0,1,1,0],[0,1,1,1],[0,1,1,2],[0,1,2,0],[0,1,2,1],[0,1,2,2],[0,2,0,0],[0,2,0,1],[0,2,0,2],[0,2,1,0],[0,2,1,1],[0,2,1,2],[0,2,2,0],[0,2,2,1],[0,2,2,2],[1,0,0,0],[1,0,0,1],[1,0,0,2],[1,0,1,0],[1,0,1,1],[1,0,1,2],[1,0,2,0],[1,0,2,1],[1,0,2,2],[1,1,0,0],[1,1,0,1],[1,1,0,2],[1,1,1,0],[1,1,1,1],[1,1,1,2],[1,1,2,0],[1,1,2,1],[1,1,2,2],[1,2,0,0],[1,2,0,1],[1,2,0,2],[1,2,1,0],[1,2,1,1],[1,2,1,2],[1,2,2,0],[1,2,2,1],[1,2,2,2],[2,0,0,0],[2,0,0,1],[2,0,0,2],[2,0,1,0],[2,0,1,1],[2,0,1,2],[2,0,2,0],[2,0,2,1],[2,0,2,2],[2,1,0,0],[2,1,0,1],[2,1,0,2],[2,1,1,0],[2,1,1,1],[2,1,1,2],[2,1,2,0],[2,1,2,1],[2,1,2,2],[2,2,0,0],[2,2,0,1],[2,2,0,2],[2,2,1,0],[2,2,1,1],[2,2,1,2],[2,2,2,0],[2,2,2,1],[2,2,2,2]]
noncomputable def cP(rs:LN):LN:=catN rs
 where catN (l:LN):LN:=List.rec (motive:=λ_=>LN) [] (λr _ ih=>repN [32] r++(9::ih)) l
noncomputable def at1(k:Nat)(x:LN)(t:Nat->LN)(j:Nat):LN:=cs (Nat.beq j k) x (t j)
noncomputable def sN(s:Nat->LN)(k:Nat):List V:=mp (λj=>V.tup [.str [97+j],.str (s j)]) (aC k 0)
noncomputable def yY(a:LN)(x:Nat):Nat:=List.rec (motive:=λU=>Nat) 0 (λr U d=>cs (Nat.beq r x) (d+1) d) a
noncomputable def cX(a:LN):LN:=cs (Nat.beq (yY a 2) 0) (cs (Nat.beq (yY a 1) 0) (cs (Nat.beq (yY a 0) 0) [] [yY a 0]) [yY a 0,yY a 1]) [yY a 0,yY a 1,yY a 2]
def stL(i:Nat):FS:=byO (nth (hU 7) i) id (.pass 0)
def txt(b:LN)(w:Nat)(a:LN):LN:=cP b++(repN [32] w++120::a)
def zx8(a:LN)(b:LN)(w:Nat):Option (RV×Hp):=bd (zd3 279 fnW (cx1 (SS 5)) [.v (.str (txt b w a))] [] []) λr=>some (r.1,tk 1 r.2)
def yk8(b:LN)(a:LN)(w:Nat):Option (RV×Hp):=some (.v (.ref 0),[wsL (txt a w b) (cX a) w])
def rsI(i:Nat):LN:=byO (nth yeh i) id []
theorem ws0(a:LN):mp2 121 3 (λi j=>zx8 a (rsI i) j)=mp2 121 3 (λi j=>yk8 a (rsI i) j):=by kernel_rfl
noncomputable def fN(t:Nat):LN:=byO (nth [[],[0],[2],[4]] t) id []
noncomputable def qT(t:Nat):LN:=byO (nth [[],[1],[0,0,1],[0,0,0,0,1]] t) id []
def endZ'(a:LN)(t w:Nat):Option (RV×Hp):=some (.v (.ref 0),[wsL (txt (fN t) w a) (qT t) w])
theorem ws1(a:LN):mp2 4 4 (λi j=>zx8 a (fN i) j)=mp2 4 4 (λi j=>endZ' a i j):=by kernel_rfl
theorem zig(h:zx8 a b w=some (.v (.ref 0),[wsL (txt b w a) cn w]))(J:Hp):SL 279 [.v (.str (txt b w a))] [] J=some (.v (.ref (len J)),J++[wsL (txt b w a) cn w]):=by
 refine aB h λr M h=>?_;have h:=prf h;obtain⟨B,A⟩:=Prod.mk.inj h;obtain⟨x,y⟩:=r;have B:x= .v (.ref 0):=B;cases y with
 |nil=>cases A
 |cons o q=>have e:o=wsL (txt b w a) cn w:=(List.cons.inj (show o::tk 0 q=[wsL (txt b w a) cn w] from A)).1;subst B;subst e;have c:oPl (wsL (txt b w a) cn w)=true:=zdb _ _ _;exact zi9 M c
noncomputable def dvN(c:Int)(l:List Int):Int:=List.rec (motive:=λU=>Int->Int) (λc=>c) (λb U d c=>d (Int.fdiv c b)) l c
def frG(c:Int)(q:Nat->V):Nat->V:=ov [(96,.ref 0),(122,.int (Int.fmod c 3)),(123,.int (Int.fmod (dvN c [3]) 28)),(124,.int (Int.fmod (dvN c [3,28]) 3)),(116,.int (Int.fmod (dvN c [3,28,3]) 5)),(98,.int (Int.fmod (dvN c [3,28,3,5]) 3)),(125,.int (Int.fmod (dvN c [3,28,3,5,3]) 2)),(126,.int (Int.fmod (dvN c [3,28,3,5,3,2]) 4)),(100,.int (Int.fmod (dvN c [3,28,3,5,3,2,4]) 30))] q
def hpG(v:Nat->V)(c:Int)(p:Nat->O):Nat->O:=ov [(0,.list [v 0,v 1,v 2,v 3,.int c])] p
theorem yi4(q v:Nat->V)(p:Nat->O)(c:Int):exs cxL (seg 2 1) (frm 5 (ov [(96,.ref 0)] q)) (hpm 8 (hpG v c p))=some (.next,frm 13 (frG c q),hpm 8 (hpG v c p)):=by kernel_rfl
theorem ydp(q:Nat->V)(p:Nat->O):exs cxL (seg 3 1) (frm 13 q) (hpm 8 p)=some (.next,frm 14 (ov [(127,.ref 8)] q),hpm 10 (ov [(8,.inst 184 [(30,.ref 9)]),(9,.list [])] p)):=by kernel_rfl
noncomputable def zvn(t:Nat->LN):List V:=mp (λk=>V.tup [.str [97+k],.str (t k)]) (aC 5 0)
noncomputable def zkd:V:= .tup [.str [65],.str [59,32,107,45,107,45,61,34,120,34,59,32,109]]
def frP(q:Nat->V):Nat->V:=ov [(127,.ref 8)] q
theorem zxz(q:Nat->V)(p:Nat->O)(t:Nat->LN):exs cxL (seg 5 2) (frm 15 (frP q)) (hpm 10 (ov [(8,.inst 184 [(30,.ref 9)]),(9,.list (zvn t))] p))=
 some (.next,frm 17 (ov [(130,.ref 10),(131,.ref 11)] (frP q)),hpm 12 (ov [(8,.inst 184 [(30,.ref 9)]),(9,.list (zvn t++[zkd])),(10,.list []),(11,.list [])] p)):=by kernel_rfl
def frF(x:V)(q:Nat->V):Nat->V:=ov [(93,.ref 6),(100,x)] q
def hpF(v:Nat->V)(p:Nat->O):Nat->O:=ov [(6,.list [v 0,v 1,v 2,v 3])] p
theorem yi5(q v:Nat->V)(p:Nat->O):exs cxL (seg 30 2) (frm 34 (frF (v 4) q)) (hpm 30 (hpF v p))=
 some (.next,frm 39 (ov [(93,.ref 30),(151,.ref 31),(152,.ref 33),(153,.str []),(117,.str []),(154,.ref 34)] (frF (v 4) q)),hpm 35 (ov [(30,.list [v 4,v 0,v 1,v 2,v 3]),(31,.inst 184 [(30,.ref 32)]),(32,.list []),(33,.list []),(34,.list [])] (hpF v p))):=by kernel_rfl
def yji(q:Nat->V)(p:Nat->O)(t:Nat):Option (Fl×L×Hp):=exs cxL (seg 8 1) (frm 19 (ov [(89,.ref 2),(131,.ref 11)] q)) (hpm 17 (ov [(2,gG (aW t)),(11,gG (aW t))] p))
def yk9(q:Nat->V)(p:Nat->O)(t:Nat):Option (Fl×L×Hp):=some (.next,frm 19 (ov [(89,.ref 2),(131,.ref 11)] q),hpm 17 (ov [(2,gG (aW t)),(11,gG (aW t))] p))
theorem yi2(q:Nat->V)(p:Nat->O):mp (yji q p) (aC 14 0)=mp (yk9 q p) (aC 14 0):=by kernel_rfl
theorem yi1(q:Nat->V)(p:Nat->O):exs cxL (seg 14 2) (frm 23 q) (hpm 20 p)=some (.next,frm 25 (ov [(140,.ref 20),(115,.ref 21)] q),hpm 22 (ov [(20,.list (zeq.map bI)),(21,.inst 184 [(30,.ref 20)])] p)):=by kernel_rfl
def upT(t k:Nat):Nat:=byO (nth (0::aW t) k) id 0
def yew(t n:Nat):Nat->LN:=Nat.rec (motive:=λU=>Nat->LN) (λU=>[]) (λU d k=>cs (Nat.beq k 0) [] (d (upT t k)++[k])) n
noncomputable def eX(t k:Nat):LN:=yew t 5 k
def chT(t k:Nat):LN:=cs (Nat.beq k 0) [] (0::eX t (k-1))
noncomputable def pv(c:LN):List V:=mp (λj=>V.tup [.int (.ofNat j),.ref (12+j)]) c
def fr8(n k:Nat)(q:Nat->V):L:=frm n (ov [(33,.str [65+k]),(127,.ref 8),(130,.ref 10),(131,.ref 11)] q)
def frC(k:Nat)(q:Nat->V):L:=frm 19 (ov [(135,.ref (12+k)),(33,.str [65+k]),(127,.ref 8),(130,.ref 10),(131,.ref 11)] q)
def lnP(s a:Nat->LN)(w:Nat)(p:Nat->O):Nat->O:=ov (mp (λj=>(12+j,wsL (s j) (a j) w)) (aC 5 0)) p
def hp8(n k:Nat)(c:LN)(s b:Nat->LN)(w:Nat)(a:Nat->V)(p:Nat->O):Hp:=hpm n (ov [(8,.inst 184 [(30,.ref 9)]),(9,.list (sN s 5++[zkd])),(10,.list (pv c)),(11,.list (mp a (aC k 0)))] (lnP s b w p))
theorem ykl(q:Nat->V)(J:Hp):bW cxL (fC 7) (.v (.str [65])) (frm 17 (ov [(127,.ref 8),(130,.ref 10),(131,.ref 11)] q)) J=some (fr8 18 0 q,J):=by kernel_rfl
theorem n8a(q:Nat->V)(J:Hp):mp (λk=>bW cxL (fC 7) (.v (.str [66+k])) (frC k q) J) (aC 4 0)=mp (λk=>some (fr8 19 (k+1) (ov [(135,.ref (12+k))] q),J)) (aC 4 0):=by kernel_rfl
def n8f(k:Nat)(q:Nat->V):L:=fr8 (cs (Nat.beq k 0) 18 19) k q
section
variable(q:Nat->V)(p:Nat->O)(s cn:Nat->LN)(w:Nat)(tv:Nat->V)
theorem n8b(c:LN):mp (λk=>ex cxL (stL 0) (n8f k q) (hp8 (12+k) k c s cn w tv p)) (aC 5 0)=
 mp (λk=>bd (SL 279 [.v (.str (s k))] [] (hp8 (12+k) k c s cn w tv p)) λr=>goN (bW cxL (.name 135 4424716) r.1 (n8f k q) r.2)) (aC 5 0):=by kernel_rfl
theorem ykk(c:LN):mp (λk=>(bW cxL (.name 135 4424716) (.v (.ref (len (hp8 (12+k) k c s cn w tv p)))) (n8f k q) (hp8 (12+k) k c s cn w tv p++[wsL (s k) (cn k) w]))) (aC 5 0)=
 mp (λk=>some (frC k q,hp8 (13+k) k c s cn w tv p)) (aC 5 0):=by kernel_rfl
def aZ(c:LN):Nat:=List.rec (motive:=λU=>Nat) 0 (λx r d=>cs (emp r) x d) c
def dl(c:LN):LN:=List.rec (motive:=λU=>LN) [] (λx r d=>cs (emp r) [] (x::d)) c
noncomputable def chs:List (Nat×LN):=[(1,[0]),(2,[0]),(2,[0,1]),(3,[0]),(3,[0,1]),(3,[0,1,2]),(3,[0,2]),(4,[0]),(4,[0,1]),(4,[0,1,2]),(4,[0,1,2,3]),(4,[0,1,3]),(4,[0,2]),(4,[0,2,3]),(4,[0,3])]
def whC:FE:=match stL 1 with| .whl c _ _=>c|_=> .none 0
def whB:List FS:=match stL 1 with| .whl _ b _=>b|_=>[]
theorem n8c:mp (λx:Nat×LN=>tr cxL (frC x.1 q) whC (hp8 (13+x.1) x.1 x.2 s cn w tv p)) chs=
 mp (λx:Nat×LN=>bd (bd (SL 269 [.v (.ref (12+aZ x.2)),.v (.ref (12+x.1))] [] (hp8 (13+x.1) x.1 x.2 s cn w tv p)) λr=>bd (cY .IsNot r.1 (.v (.bool true)) r.2) λb=>some (b,r.2)) λx=>cs x.1 (some (true,x.2)) (some (false,x.2))) chs:=by kernel_rfl
theorem n8p:mp (λx:Nat×LN=>exs cxL whB (frC x.1 q) (hp8 (13+x.1) x.1 x.2 s cn w tv p)) chs=
 mp (λx:Nat×LN=>some (.next,frC x.1 q,hp8 (13+x.1) x.1 (dl x.2) s cn w tv p)) chs:=by kernel_rfl
theorem ykj:tr cxL (frC 0 q) whC (hp8 13 0 [] s cn w tv p)=some (false,hp8 13 0 [] s cn w tv p):=by kernel_rfl
def tvO(k:Nat)(c:LN)(tv:Nat->V):Nat->V:=ov [(k,cs (emp c) (.int (.negSucc 0)) (.int (.ofNat (aZ c))))] tv
theorem n8d:mp (λx:Nat×LN=>exs cxL [stL 2,stL 3] (frC x.1 q) (hp8 (13+x.1) x.1 x.2 s cn w tv p)) ((0,[])::chs)=
 mp (λx:Nat×LN=>some (.next,frC x.1 q,hp8 (13+x.1) (x.1+1) (x.2++[x.1]) s cn w (tvO x.1 x.2 tv) p)) ((0,[])::chs):=by kernel_rfl
end
theorem kS:∀l:LN,leq l l=true
 |[]=>rfl
 |c::r=>by show cs (Nat.beq c c) (leq r r) false=true;rw[Nat.beq_refl];exact kS r
noncomputable def bF(l:List LN):List V:=mp V.str l
theorem yK:∀l:LN,pls (ivs l)=true/\vEs (ivs l) (ivs l)=true
 |[]=>⟨rfl,rfl⟩
 |c::r=>by obtain⟨M,B⟩:=yK r;refine⟨M,?_⟩;show cs (Z.eqB (.ofNat c) (.ofNat c)) (vEs (ivs r) (ivs r)) false=true;rw[show Z.eqB (.ofNat c) (.ofNat c)=true from Nat.beq_refl c];exact B
theorem xC:∀l:List LN,pls (bF l)=true/\vEs (bF l) (bF l)=true
 |[]=>⟨rfl,rfl⟩
 |c::r=>by obtain⟨M,B⟩:=xC r;refine⟨M,?_⟩;show cs (leq c c) (vEs (bF r) (bF r)) false=true;rw[kS];exact B
theorem zry(M:nth J a=some (.list xs))(B:nth J b=some (.list xs))(A:pls xs=true)(e:vEs xs xs=true):cY .NotEq (.v (.ref a)) (.v (.ref b)) J=some false:=by show nb (orl (bd (bd (nth J a) oL) λxs=>bd (bd (nth J b) oL) λc=>ifb (pls xs) (ifb (pls c) (some (vEs xs c)))) _)=_;rw[M,B];show nb (orl (ifb (pls xs) (ifb (pls xs) (some (vEs xs xs)))) _)=_;rw[A,e];rfl
theorem yij(M:T I J=some (true,J))(B:F I J=some (.next,I,a)):sG T F (n+1) I J=sG T F n I a:=by show bd (T I J) _=_;rw[M];show bd (F I J) _=_;rw[B];rfl
theorem yc4(M:T I J=some (false,J)):sG T F (n+1) I J=some (.dry,I,J):=by show bd (T I J) _=_;rw[M];rfl
def zbd(k:Nat)(c:LN)(l:List (Nat×LN)):Bool:=List.rec (motive:=λU=>Bool) false (λx U d=>cs (aH (Nat.beq x.1 k) (leq x.2 c)) true d) l
theorem yM:∀{l:List (Nat×LN)},zbd k c l=true->(k,c)∈l
 |[],h=>nomatch h
 |x::l,h=>by
  have h:cs (aH (Nat.beq x.1 k) (leq x.2 c)) true (zbd k c l)=true:=h;cases e:aH (Nat.beq x.1 k) (leq x.2 c) with
  |true=>refine aI e λM B=>?_;rw[←aN M,←cN B];exact .head _
  |false=>rw[e] at h;exact .tail _ (yM h)
def okP(k n:Nat):LN->Bool:=Nat.rec (motive:=λU=>LN->Bool) (λc=>zbd k c chs) (λU d c=>aH (zbd k c chs) (d (dl c))) n
noncomputable def dlN(n:Nat):LN->LN:=Nat.rec (motive:=λU=>LN->LN) (λc=>c) (λU d c=>d (dl c)) n
def zap(a:Nat->LN)(w k n:Nat):LN->Bool:=Nat.rec (motive:=λU=>LN->Bool) (λc=>dW (a (aZ c)) (a k) w w) (λU d c=>aH (bH (dW (a (aZ c)) (a k) w w)) (d (dl c))) n
section
theorem yki(p:Nat->O)(s a:Nat->LN)(w:Nat)(b:Nat->V):mp (λx:Nat×LN=>nth (hp8 (13+x.1) x.1 x.2 s a w b p) (12+aZ x.2)) chs=mp (λx:Nat×LN=>some (wsL (s (aZ x.2)) (a (aZ x.2)) w)) chs:=by kernel_rfl
theorem ykh(p:Nat->O)(s a:Nat->LN)(w:Nat)(b:Nat->V):mp (λx:Nat×LN=>nth (hp8 (13+x.1) x.1 x.2 s a w b p) (12+x.1)) chs=mp (λx:Nat×LN=>some (wsL (s x.1) (a x.1) w)) chs:=by kernel_rfl
theorem ykg:mp (λx:Nat×LN=>tD (12+aZ x.2) [12+x.1]) chs=mp (λU=>false) chs:=by kernel_rfl
theorem zkx(b:(k,c)∈chs)(e:∀j,okC (cn j) w=true):SL 269 [.v (.ref (12+aZ c)),.v (.ref (12+k))] [] (hp8 (13+k) k c s cn w a p)=some (.v (.bool (dW (cn (aZ c)) (cn k) w w)),hp8 (13+k) k c s cn w a p):=
 yD (e _) (e _) (gQ ykg _ b) (gQ (yki p s cn w a) _ b) (gQ (ykh p s cn w a) _ b)
theorem n8w(f:∀j,okC (cn j) w=true):∀(n m:Nat) (c:LN),okP k n c=true->zap cn w k n c=true->sG (λI h=>tr cxL I whC h) (exs cxL whB) (n+1+m) (frC k q) (hp8 (13+k) k c s cn w a p)=some (.dry,frC k q,hp8 (13+k) k (dlN n c) s cn w a p)
 |0,m,c,M,h2=>by
  have b:=yM (show zbd k c chs=true from M);have h2:dW (cn (aZ c)) (cn k) w w=true:=h2;have T:tr cxL (frC k q) whC (hp8 (13+k) k c s cn w a p)=some (false,hp8 (13+k) k c s cn w a p):=by refine(gQ (n8c q p s cn w a) _ b).trans ?_;show bd (bd (SL 269 [.v (.ref (12+aZ c)),.v (.ref (12+k))] [] (hp8 (13+k) k c s cn w a p)) _) _=_;rw[zkx b f,h2];rfl
  rw[show 0+1+m=m+1 from by lia,yc4 (T:=λI h=>tr cxL I whC h) T];rfl
 |n+1,m,c,M,h2=>by
  refine aI (show aH (zbd k c chs) (okP k n (dl c))=true from M) λr o=>?_;refine aI (show aH (bH (dW (cn (aZ c)) (cn k) w w)) (zap cn w k n (dl c))=true from h2) λi l=>?_;have b:=yM r;have P:exs cxL whB (frC k q) (hp8 (13+k) k c s cn w a p)=some (.next,frC k q,hp8 (13+k) k (dl c) s cn w a p):=gQ (n8p q p s cn w a) _ b;have e:dW (cn (aZ c)) (cn k) w w=false:=by
   cases z:dW (cn (aZ c)) (cn k) w w with
   |false=>rfl
   |true=>rw[z] at i;cases i
  have T:tr cxL (frC k q) whC (hp8 (13+k) k c s cn w a p)=some (true,hp8 (13+k) k c s cn w a p):=by refine(gQ (n8c q p s cn w a) _ b).trans ?_;show bd (bd (SL 269 [.v (.ref (12+aZ c)),.v (.ref (12+k))] [] (hp8 (13+k) k c s cn w a p)) _) _=_;rw[zkx b f,e];rfl
  rw[show n+1+1+m=(n+1+m)+1 from by lia,yij (T:=λI h=>tr cxL I whC h) T P];exact n8w f n m (dl c) o l
theorem zw6(h:a k=cs (emp c) (.int (.negSucc 0)) (.int (.ofNat (aZ c)))):tvO k c a=a:=by
 funext x;show byO (cs (Nat.beq k x) (some (cs (emp c) (.int (.negSucc 0)) (.int (.ofNat (aZ c))))) none) id (a x)=a x;cases e:Nat.beq k x with
 |false=>rfl
 |true=>rw[←aN e,h];rfl
theorem n8t(o:k<5)(i:∀J,SL 279 [.v (.str (s k))] [] J=some (.v (.ref (len J)),J++[wsL (s k) (cn k) w]))(l:∀j,okC (cn j) w=true)
 (b:(k=0/\c=[]/\n=0)∨(Nat.ble n 900=true/\okP k n c=true/\zap cn w k n c=true/\zbd k (dlN n c) chs=true)) (f:a k=cs (emp (dlN n c)) (.int (.negSucc 0)) (.int (.ofNat (aZ (dlN n c))))):
 exs cxL (hU 7) (n8f k q) (hp8 (12+k) k c s cn w a p)=some (.next,frC k q,hp8 (13+k) (k+1) (dlN n c++[k]) s cn w a p):=by
 show exs cxL [stL 0,stL 1,stL 2,stL 3] _ _=_;have B:ex cxL (stL 0) (n8f k q) (hp8 (12+k) k c s cn w a p)=some (.next,frC k q,hp8 (13+k) k c s cn w a p):=by rw[aU (n8b q p s cn w a c) (Nat.zero_le k) (by lia)];show bd (SL 279 [.v (.str (s k))] [] (hp8 (12+k) k c s cn w a p)) _=_;rw[i];show goN (bW cxL (.name 135 4424716) (.v (.ref (len (hp8 (12+k) k c s cn w a p)))) (n8f k q) (hp8 (12+k) k c s cn w a p++[wsL (s k) (cn k) w]))=_;rw[aU (ykk q p s cn w a c) (Nat.zero_le k) (by lia)];rfl
 rw[nT B];have m:(k,dlN n c)∈(0,[])::chs:=by
  rcases b with⟨rfl,rfl,rfl⟩|⟨_,_,_,h⟩
  · exact .head _
  · exact .tail _ (yM h)
 have W:ex cxL (stL 1) (frC k q) (hp8 (13+k) k c s cn w a p)=some (.next,frC k q,hp8 (13+k) k (dlN n c) s cn w a p):=by
  show bd (sG (λI h=>tr cxL I whC h) (exs cxL whB) zo7 (frC k q) (hp8 (13+k) k c s cn w a p)) _=_;rcases b with⟨rfl,rfl,rfl⟩|⟨e,M,h2,_⟩
  · rw[show zo7=999+1 from rfl,yc4 (T:=λI h=>tr cxL I whC h) (ykj q p s cn w a)];rfl
  · have e:=Qa e
    rw[show zo7=n+1+(999-n) from by show 1000=_;lia,n8w l n _ c M h2];rfl
 rw[nT W];have D:=gQ (n8d q p s cn w a) _ m;rw[zw6 f] at D;exact D
end
noncomputable def ixG(l:LN):Nat->Nat:=List.rec (motive:=λU=>Nat->Nat) (λa=>a) (λr U d a=>d (a*3+r+1)) l
noncomputable def ixR(l:LN):Nat:=ixG l 0
def ixK(n:Nat)(l:LN):Bool:=aH (leq (rsI (ixR l)) l) (Nat.blt (ixR l) n)
theorem ix0:ixK 40 []=true:=by kernel_rfl
theorem ix1:aP 3 (λa=>ixK 40 [a])=true:=by kernel_rfl
theorem ix2:aP 3 (λa=>aP 3 λb=>ixK 40 [a,b])=true:=by kernel_rfl
theorem ix3:aP 3 (λa=>aP 3 λb=>aP 3 λc=>ixK 40 [a,b,c])=true:=by kernel_rfl
theorem ix4:aP 3 (λa=>aP 3 λb=>aP 3 λc=>aP 3 λd=>ixK 121 [a,b,c,d])=true:=by kernel_rfl
noncomputable def lt3(l:LN):Prop:=∀x∈l,x<3
theorem zbb(h:ixK n l=true):rsI (ixR l)=l/\ixR l<n:=by refine aI h λM B=>?_;exact⟨cN M,Qa B⟩
theorem uV:∀{l:LN},lt3 l->len l≤3->rsI (ixR l)=l/\ixR l<40
 |[],_,_=>zbb ix0
 |[a],h,_=>zbb (aG ix1 a (h a (.head _)))
 |[a,b],h,_=>zbb (aG (aG ix2 a (h a (.head _))) b (h b (.tail _ (.head _))))
 |[a,b,c],h,_=>zbb (aG (aG (aG ix3 a (h a (.head _))) b (h b (.tail _ (.head _)))) c (h c (.tail _ (.tail _ (.head _)))))
 |a::b::c::d::r,_,h=>by have h:len r+4≤3:=h;lia
theorem zsn:∀{l:LN},lt3 l->len l≤4->rsI (ixR l)=l/\ixR l<121
 |[],h,_=>⟨(uV h (by show 0≤3;lia)).1,by show 0<121;lia⟩
 |[a],h,_=>⟨(uV h (by show 1≤3;lia)).1,Nat.lt_trans (uV h (by show 1≤3;lia)).2 (by lia)⟩
 |[a,b],h,_=>⟨(uV h (by show 2≤3;lia)).1,Nat.lt_trans (uV h (by show 2≤3;lia)).2 (by lia)⟩
 |[a,b,c],h,_=>⟨(uV h (by show 3≤3;lia)).1,Nat.lt_trans (uV h (by show 3≤3;lia)).2 (by lia)⟩
 |[a,b,c,d],h,_=>zbb (aG (aG (aG (aG ix4 a (h a (.head _))) b (h b (.tail _ (.head _)))) c (h c (.tail _ (.tail _ (.head _))))) d (h d (.tail _ (.tail _ (.tail _ (.head _))))))
 |a::b::c::d::e::r,_,h=>by have h:len r+5≤4:=h;lia
theorem yli:aP 40 (λi=>aP (len (rsI i)) λa=>aP 3 λr=>aP 3 λw=>bH (dW (cX (rsI i)) (cX (tk a (rsI i)++[r])) w w))=true:=by kernel_rfl
theorem ylf:aP 40 (λi=>aP 3 λr=>aP 3 λw=>dW (cX (rsI i)) (cX (rsI i++[r])) w w)=true:=by kernel_rfl
theorem ygw:aP 121 (λi=>aP 3 λw=>okC (cX (rsI i)) w)=true:=by kernel_rfl
theorem ygv:aP 3 (λw=>okC [] w)=true:=by kernel_rfl
theorem yfk(h:lt3 l)(f:len l≤3)(j:a<len l)(c:r<3)(b:w<3):dW (cX l) (cX (tk a l++[r])) w w=false:=by
 obtain⟨e,i⟩:=uV h f;have:=aG (aG (aG (aG yli _ i) a (by rw[e];exact j)) r c) w b;rw[e] at this;cases z:dW (cX l) (cX (tk a l++[r])) w w with
 |false=>rfl
 |true=>rw[z] at this;cases this
theorem yfj(h:lt3 l)(c:len l≤3)(b:r<3)(a:w<3):dW (cX l) (cX (l++[r])) w w=true:=by obtain⟨e,f⟩:=uV h c;have:=aG (aG (aG ylf _ f) r b) w a;rw[e] at this;exact this
theorem tA{c e:Type}(f:c->e):∀a b:List c,mp f (a++b)=mp f a++mp f b
 |[],b=>rfl
 |x::a,b=>congrArg (f x:: ·) (tA f a b)
theorem zvs{b c:Type}(f:b->c):∀(n:Nat) (a:List b),mp f (tk n a)=tk n (mp f a)
 |0,[]=>rfl
 |0,x::a=>rfl
 |n+1,[]=>rfl
 |n+1,x::a=>congrArg (f x:: ·) (zvs f n a)
theorem cZ{b c:Type}(f:b->c):∀a:List b,len (mp f a)=len a
 |[]=>rfl
 |x::a=>congrArg (· +1) (cZ f a)
theorem kQ(h:∀j,r j<3):∀l:LN,lt3 (mp r l)
 |[],x,b=>absurd b Qj
 |a::l,x,b=>by
  rcases Qe b with rfl|b
  · exact h a
  · exact kQ h l x b
def rlT(t:Nat)(r:Nat->Nat)(j:Nat):LN:=mp r (eX t j)
def cnT(t:Nat)(r:Nat->Nat)(j:Nat):LN:=cs (Nat.ble j 4) (cX (rlT t r j)) []
def sT(t:Nat)(r:Nat->Nat)(w j:Nat):LN:=txt (rlT t r j) w []
def tvT(t j:Nat):V:=cs (Nat.beq j 0) (.int (.negSucc 0)) (.int (.ofNat (upT t j)))
def znz(t k n:Nat):LN->Bool:=Nat.rec (motive:=λU=>LN->Bool) (λc=>aH (Nat.ble (aZ c) 3) (leq (eX t k) (eX t (aZ c)++[k]))) (λU d c=>aH (aH (Nat.ble (aZ c) 3) (aH (leq (eX t k) (tk (len (eX t k)-1) (eX t (aZ c))++[k])) (Nat.blt (len (eX t k)-1) (len (eX t (aZ c)))))) (d (dl c))) n
def pY(t k:Nat):Nat:=len (chT t k)-1-len (eX t (upT t k))
def ylj(t k:Nat):Bool:=aH (aH (Nat.ble (pY t k) 900) (aH (okP k (pY t k) (chT t k)) (aH (znz t k (pY t k) (chT t k)) (zbd k (dlN (pY t k) (chT t k)) chs)))) (aH (bH (emp (dlN (pY t k) (chT t k)))) (aH (Nat.beq (aZ (dlN (pY t k) (chT t k))) (upT t k)) (leq (dlN (pY t k) (chT t k)++[k]) (chT t (k+1)))))
theorem ygx:aP 14 (λt=>aP 4 λk=>ylj t (k+1))=true:=by kernel_rfl
theorem zey:aP 14 (λt=>aP 5 λk=>Nat.ble (len (eX t k)) 4)=true:=by kernel_rfl
theorem zvm:aP 14 (λt=>aP 4 λk=>Nat.ble (len (eX t k)) 3)=true:=by kernel_rfl
section
variable{r:Nat->Nat}(ht:t<14)(hw:w<3)(hr:∀j,r j<3)
include ht hw hr
theorem ye8(j:Nat):okC (cnT t r j) w=true:=by
 unfold cnT;cases e:Nat.ble j 4 with
 |false=>exact aG ygv w hw
 |true=>
  have c:=Qa e;have a:len (rlT t r j)≤4:=by rw[rlT,cZ];exact Qa (aG (aG zey t ht) j (by lia))
  obtain⟨e,b⟩:=zsn (kQ hr (eX t j)) a;have:=aG (aG ygw _ b) w hw;rw[e] at this;exact this
theorem zih(b:j<5)(J:Hp):SL 279 [.v (.str (sT t r w j))] [] J=some (.v (.ref (len J)),J++[wsL (sT t r w j) (cnT t r j) w]):=by
 have a:len (rlT t r j)≤4:=by rw[rlT,cZ];exact Qa (aG (aG zey t ht) j b)
 obtain⟨e,f⟩:=zsn (kQ hr (eX t j)) a;have e:rsI (ixR (rlT t r j))=rlT t r j:=e;have:=bY (ws0 []) (show ixR (rlT t r j)<121 from f) hw;rw[e] at this;have c:cnT t r j=cX (rlT t r j):=by unfold cnT;rw[show Nat.ble j 4=true from Nat.ble_eq_true_of_le (by lia)];rfl
 rw[c];exact zig this J
theorem yes(i:k<5):∀(n:Nat) (c:LN),znz t k n c=true->zap (cnT t r) w k n c=true
 |0,c,h=>by
  refine aI h λM B=>?_;have M:=Qa M;have e:rlT t r k=rlT t r (aZ c)++[r k]:=by rw[rlT,cN B,tA];rfl
  have a:len (rlT t r (aZ c))≤3:=by rw[rlT,cZ];exact Qa (aG (aG zvm t ht) _ (by lia))
  have f:cnT t r (aZ c)=cX (rlT t r (aZ c)):=by unfold cnT;rw[show Nat.ble (aZ c) 4=true from Nat.ble_eq_true_of_le (by lia)];rfl
  have b:cnT t r k=cX (rlT t r k):=by unfold cnT;rw[show Nat.ble k 4=true from Nat.ble_eq_true_of_le (by lia)];rfl
  show dW (cnT t r (aZ c)) (cnT t r k) w w=true;rw[f,b,e];exact yfj (kQ hr _) a (hr k) hw
 |n+1,c,h=>by
  refine aI (show aH _ (znz t k n (dl c))=true from h) λh l=>?_;refine aI h λM h=>?_;refine aI h λB A=>?_;have M:=Qa M;have A:=Qa A;have e:rlT t r k=tk (len (eX t k)-1) (rlT t r (aZ c))++[r k]:=by have:rlT t r k=mp r (tk (len (eX t k)-1) (eX t (aZ c))++[k]):=congrArg (mp r) (cN B);rw[this,tA,zvs];rfl
  have a:len (rlT t r (aZ c))≤3:=by rw[rlT,cZ];exact Qa (aG (aG zvm t ht) _ (by lia))
  have f:cnT t r (aZ c)=cX (rlT t r (aZ c)):=by unfold cnT;rw[show Nat.ble (aZ c) 4=true from Nat.ble_eq_true_of_le (by lia)];rfl
  have b:cnT t r k=cX (rlT t r k):=by unfold cnT;rw[show Nat.ble k 4=true from Nat.ble_eq_true_of_le (by lia)];rfl
  have F:dW (cnT t r (aZ c)) (cnT t r k) w w=false:=by rw[f,b,e];exact yfk (kQ hr _) a (by rw[rlT,cZ];exact A) (hr k) hw
  show aH (bH (dW (cnT t r (aZ c)) (cnT t r k) w w)) (zap (cnT t r) w k n (dl c))=true;rw[F,yes i n (dl c) l];rfl
theorem n8k(c:k<5)(q:Nat->V)(p:Nat->O):exs cxL (hU 7) (n8f k q) (hp8 (12+k) k (chT t k) (sT t r w) (cnT t r) w (tvT t) p)=some (.next,frC k q,hp8 (13+k) (k+1) (chT t (k+1)) (sT t r w) (cnT t r) w (tvT t) p):=by
 cases k with
 |zero=>exact n8t (n:=0) c (zih ht hw hr c) (ye8 ht hw hr) (.inl ⟨rfl,rfl,rfl⟩) rfl
 |succ k=>
  have C:=aG (aG ygx t ht) k (by lia);refine aI C λa b=>?_;refine aI a λo a=>?_;refine aI a λm a=>?_;refine aI a λl i=>?_;refine aI b λe b=>?_;refine aI b λh f=>?_;rw[←cN f];refine n8t c (zih ht hw hr c) (ye8 ht hw hr) (.inr ⟨o,m,yes ht hw hr c _ _ l,i⟩) ?_;cases z:emp (dlN (pY t (k+1)) (chT t (k+1))) with
  |true=>rw[z] at e;cases e
  |false=>rw[aN h];rfl
end
def q8(q:Nat->V):Nat->V:=ov [(135,.ref 15)] (ov [(135,.ref 14)] (ov [(135,.ref 13)] (ov [(135,.ref 12)] q)))
theorem yi8(b:t<14)(a:w<3)(c:∀j,r j<3)(q:Nat->V)(p:Nat->O):exs cxL (seg 7 1) (frm 17 (ov [(127,.ref 8),(130,.ref 10),(131,.ref 11)] q)) (hp8 12 0 [] (sT t r w) (cnT t r) w (tvT t) p)=some (.next,frC 4 (q8 q),hp8 17 5 (chT t 5) (sT t r w) (cnT t r) w (tvT t) p):=by
 have e:∀(fl:L) (J:Hp),exs cxL (seg 7 1) fl J=bd (bd (bR (aX cxL (fC 7) (exs cxL (hU 7))) 6 (.items [.str [65],.str [66],.str [67],.str [68],.str [69]]) fl J) (iQ (exs cxL []))) λw=>nx w (some (.next,w.2.1,w.2.2)):=λfl J=>by kernel_rfl
 have A:=λk (f:k<4) q J=>aU (n8a q J) (Qb k) (by lia:k<0+4);have h:aX cxL (fC 7) (exs cxL (hU 7)) (.str [65]) (frm 17 (ov [(127,.ref 8),(130,.ref 10),(131,.ref 11)] q)) (hp8 12 0 [] (sT t r w) (cnT t r) w (tvT t) p)=some (.next,frC 0 q,hp8 13 1 (chT t 1) (sT t r w) (cnT t r) w (tvT t) p):=by show bd (bW cxL (fC 7) _ _ _) _=_;rw[ykl];exact n8k b a c (k:=0) (by lia) q p
 have T:∀k,k<4->∀q:Nat->V,aX cxL (fC 7) (exs cxL (hU 7)) (.str [66+k]) (frC k q) (hp8 (13+k) (k+1) (chT t (k+1)) (sT t r w) (cnT t r) w (tvT t) p)=some (.next,frC (k+1) (ov [(135,.ref (12+k))] q),hp8 (14+k) (k+2) (chT t (k+2)) (sT t r w) (cnT t r) w (tvT t) p):=λk f q=>by show bd (bW cxL (fC 7) (.v (.str [66+k])) (frC k q) _) _=_;rw[A k f];have:=n8k b a c (k:=k+1) (by lia) (ov [(135,.ref (12+k))] q) p;rw[show 12+(k+1)=13+k from by lia,show 13+(k+1)=14+k from by lia] at this;exact this
 rw[e,eC h,eC (T 0 (by lia) q),eC (T 1 (by lia) _),eC (T 2 (by lia) _),eC (T 3 (by lia) _)];rfl
theorem zp3:mp (λt=>mp (tvT t) (aC 5 0)) (aC 14 0)=mp (λt=>V.int (.negSucc 0)::ivs (aW t)) (aC 14 0):=by kernel_rfl
noncomputable def zd2(z c x:Nat):Nat:=cs (Nat.beq x 9) ((c+z)/z*z) (c+1)
noncomputable def sgI(x:Nat):Nat:=cs (Nat.beq x 0) 32 9
def coT:Tg:=byO (nth cH 1) (λs=>match s with| .for_ t _ _ _ _=>t|_=> .name 0 0) (.name 0 0)
def coB:List FS:=byO (nth cH 1) (λs=>match s with| .for_ _ _ b _ _=>b|_=>[]) []
noncomputable def coL(t:V)(z c:Nat)(a:L):L:=[(105,t),(106,.int (.ofNat z)),(103,.int (.ofNat c))]++a
abbrev coF(S:SF):=aX (cx1 S) coT (exs (cx1 S) coB)
theorem yld(S:SF)(t:V):mp2 5 2 (λi j=>coF S (.str [sgI j]) (coL t (i+1) 0 []) [])=mp2 5 2 (λi j=>some (.next,coL t (i+1) (zd2 (i+1) 0 (sgI j)) [(104,.str [sgI j])],[])):=by kernel_rfl
theorem ylc(S:SF)(t x:V):mp2 5 2 (λi j=>mp (λc=>coF S (.str [sgI j]) (coL t (i+1) c [(104,x)]) []) (aC 26 0))=mp2 5 2 (λi j=>mp (λc=>some (.next,coL t (i+1) (zd2 (i+1) c (sgI j)) [(104,.str [sgI j])],[])) (aC 26 0)):=by kernel_rfl
def lW(z:Nat)(l:LN):Nat->Bool:=List.rec (motive:=λU=>Nat->Bool) (λU=>true) (λx U d c=>aH (cs (Nat.beq x 32) true (Nat.beq x 9)) (aH (Nat.ble c 25) (d (zd2 z c x)))) l
def iM(z:Nat)(l:LN):Nat->Nat:=List.rec (motive:=λU=>Nat->Nat) (λc=>c) (λx U d c=>d (zd2 z c x)) l
theorem ydn(h:cs (Nat.beq x 32) true (Nat.beq x 9)=true):∃s,s<2/\sgI s=x:=by
 cases e:Nat.beq x 32 with
 |true=>exact⟨0,by lia,(aN e).symm⟩
 |false=>rw[e] at h;exact⟨1,by lia,(aN h).symm⟩
theorem zft(j:0<z/\z<6):∀(l:LN) (c:Nat) (a:L),(a=[]/\c=0∨∃x,a=[(104,x)])->lW z l c=true->∃b,bR (coF S) (len l+1) (.items (l.map λc=>V.str [c])) (coL t z c a) []=some (.dry,coL t z (iM z l c) b,[])
 |[],c,a,_,_=>⟨a,rfl⟩
 |x::l,c,a,m,h=>by
  refine aI (show aH (cs (Nat.beq x 32) true (Nat.beq x 9)) (aH (Nat.ble c 25) (lW z l (zd2 z c x)))=true from h) λM h=>?_;refine aI h λB A=>?_;have B:=Qa B;obtain⟨s,k,D⟩:=ydn M;have i:z-1+1=z:=Qz j.1;have f:z-1<5:=Nat.lt_of_succ_lt_succ (i▸j.2);have T:coF S (.str [x]) (coL t z c a) []=some (.next,coL t z (zd2 z c x) [(104,.str [x])],[]):=by
   rcases m with⟨rfl,rfl⟩|⟨y,rfl⟩
   · have:=bY (yld S t) (show z-1<5 from f) k
     rw[i,D] at this;exact this
   · have:=aU (bY (ylc S t y) (show z-1<5 from f) k) (Qb c) (Qq B (by decide))
     rw[i,D] at this;exact this
  obtain⟨b,e⟩:=zft (S:=S) (t:=t) j l (zd2 z c x) _ (.inr ⟨_,rfl⟩) A;refine⟨b,?_⟩;show bR (coF S) ((len l+1)+1) (.items (.str [x]::l.map λc=>V.str [c])) _ _=_;rw[eC T];exact e
theorem yF{a b:Type}(f:a->b):∀l:List a,len (l.map f)=len l
 |[]=>rfl
 |_::l=>congrArg (· +1) (yF f l)
theorem ztt(a:0<z/\z<6)(h:lW z l 0=true):F1 S zs6 [.v (.str l),.v (.int (.ofNat z))] [] []=some (.v (.int (.ofNat (iM z l 0))),[]):=by
 obtain⟨b,e⟩:=zft (S:=S) (t:= .str l) a l 0 [] (.inl ⟨rfl,rfl⟩) h;show bd (bd (ex (cx1 S) (byO (nth cH 0) id (.pass 0)) [(105,.str l),(106,.int (.ofNat z))] []) λw=>nx w (exs (cx1 S) (List.drop 1 cH) w.2.1 w.2.2)) xT=_;have f:ex (cx1 S) (byO (nth cH 0) id (.pass 0)) [(105,.str l),(106,.int (.ofNat z))] []=some (.next,coL (.str l) z 0 [],[]):=by kernel_rfl
 rw[f];show bd (bd (bd (bR (coF S) (len (l.map λc=>V.str [c])+1) (.items (l.map λc=>V.str [c])) (coL (.str l) z 0 []) []) (iQ (exs (cx1 S) []))) λw=>nx w (exs (cx1 S) (List.drop 2 cH) w.2.1 w.2.2)) xT=_;rw[yF,e];rfl
theorem zn1(a:0<z/\z<6)(h:lW z l 0=true)(J:Hp):SL 302 [.v (.str l),.v (.int (.ofNat z))] [] J=some (.v (.int (.ofNat (iM z l 0))),J):=
 kI (as:=[.str l,.int (.ofNat z)]) ⟨[],ztt a h⟩ rfl rfl J
def ldT(a:LN)(w:Nat):LN:=cP a++repN [32] w
theorem yjw:aP 121 (λi=>aP 3 λw=>aP 5 λz=>lW (z+1) (ldT (rsI i) w) 0)=true:=by kernel_rfl
theorem ykd:aP 4 (λi=>aP 4 λw=>aP 5 λz=>lW (z+1) (ldT (fN i) w) 0)=true:=by kernel_rfl
noncomputable def zb0(z:Nat)(a:LN)(w:Nat):Nat:=(List.rec (motive:=λU=>Nat->Nat) (λU=>w) (λc U d k=>c*((k+z)/z*z)+d (k+1)) a:Nat->Nat) 0
theorem ygr:aP 121 (λi=>aP 3 λw=>aP 5 λz=>Nat.beq (iM (z+1) (ldT (rsI i) w) 0) (zb0 (z+1) (cX (rsI i)) w))=true:=by kernel_rfl
theorem ygs:aP 4 (λi=>aP 4 λw=>aP 5 λz=>Nat.beq (iM (z+1) (ldT (fN i) w) 0) (zb0 (z+1) (qT i) w))=true:=by kernel_rfl
noncomputable def zb8(k:Nat)(f g:Nat->Nat):Bool:=aP k λz=>Nat.blt (f (z+1)) (g (z+1))
theorem zzl:aP 35 (λi=>aP 3 λw=>aP 4 λa=>aP 4 λm=>aH (zh1 (dW (cnI i) (qT a) w m) (zb8 5 (λz=>zb0 z (cnI i) w) (λz=>zb0 z (qT a) m))) (zh1 (dW (qT a) (cnI i) m w) (zb8 5 (λz=>zb0 z (qT a) m) (λz=>zb0 z (cnI i) w))))=true:=by kernel_rfl
theorem ygu:aP 121 (λi=>byO (fdC (cX (rsI i))) (λk=>Nat.blt k 35) false)=true:=by kernel_rfl
theorem ye7:aP 4 (λa=>aP 4 λm=>okC (qT a) m)=true:=by kernel_rfl
section
theorem bS(M:ev E I a J=some (.v (.str s),J))(B:ev E I b J=some (.v (.str t),J))(c:aM (len s+len t)=true):ev E I (.bin .Add a b p) J=some (.v (.str (s++t)),J):=by show bd (ev E I a J) _=_;rw[M];show bd (ev E I b J) _=_;rw[B];show bd (orl none (orl (ifb (aM (len s+len t)) _) _)) _=_;rw[c];rfl
theorem yS(M:ev E I a J=some (.v (.str s),J))(B:ev E I b J=some (.v (.int (.ofNat k)),J))(A:aM k=true)(c:aM (len s*k)=true):ev E I (.bin .Mult a b p) J=some (.v (.str (repN s k)),J):=by show bd (ev E I a J) _=_;rw[M];show bd (ev E I b J) _=_;rw[B];show bd (orl none (bd (ifb (aM k) (some k)) λk=>orl (ifb (aM (len s*k)) _) _)) _=_;rw[A];show bd (orl none (orl (ifb (aM (len s*k)) _) _)) _=_;rw[c];rfl
theorem iG(M:ev E I e J=some (y,a))(B:evs E I D a=some (c,b)):evs E I (e::D) J=some (y::c,b):=by show bd (ev E I e J) _=_;rw[M];show bd (evs E I D a) _=_;rw[B];rfl
theorem bU(M:ev E I e J=some (y,a)):evs E I [e] J=some ([y],a):=iG M rfl
theorem mQ(h:evs E I es J=some (b,a))(c:dT b a=some (vs,hp3)):ev E I (.tup es p) J=some (.v (.tup vs),hp3):=by show bd (evs E I es J) _=_;rw[h];show bd (dT b a) _=_;rw[c];rfl
theorem gA(g:look cx.glo x=some (.top f))(h:evs cx fl es hp=some (rs,hp2)):ev cx fl (.call (.glo x p) es [] [] [] q) hp=cx.S f rs [] hp2:=by show bd (bd (look cx.glo x) _) _=_;rw[g];show bd (evs cx fl es hp) _=_;rw[h];rfl
theorem dL{kp ap:_}(a:ev cx fl o hp=some (y,hp1))(b:fT cx y x hp1=some m)(h:evs cx fl es hp1=some (rs,hp2)):ev cx fl (.mcall o x es [] [] kp ap q) hp=kC cx m x rs [] hp2:=by show bd (ev cx fl o hp) _=_;rw[a];show bd (fT cx y x hp1) _=_;rw[b];show bd (evs cx fl es hp1) _=_;rw[h];rfl
theorem ybg(M:tr E I c J=some (false,f))(B:ev E I b f=some (y,e)):ev E I (.ife c a b p) J=some (y,e):=by show bd (tr E I c J) _=_;rw[M];exact B
theorem ybf(M:tr E I c J=some (true,f))(B:ev E I a f=some (y,e)):ev E I (.ife c a b p) J=some (y,e):=by show bd (tr E I c J) _=_;rw[M];exact B
theorem gH(M:ev E I a J=some (y,e))(B:ev E I b e=some (f,c))(A:cY o y f c=some z):tr E I (.cmp o a b p) J=some (z,c):=by show bd (ev E I a J) _=_;rw[M];show bd (ev E I b e) _=_;rw[B];show bd (cY o y f c) _=_;rw[A];rfl
theorem zb6(h:ev E I e J=some (.v v,a)):ex E (.asg [.name x p] e q) I J=some (.next,put I x v,a):=by show bd (ev E I e J) _=_;rw[h];rfl
theorem zwh(h:ev E I e J=some (.l G,a)):ex E (.asg [.name x p] e q) I J=some (.next,put I x (.ref (len a)),a++[.list G]):=by show bd (ev E I e J) _=_;rw[h];rfl
theorem wK(h:ev E I e J=some (.v (.tup G),a))(b:bO xs G I=some fl2):ex E (.asg [.tup xs ps p] e q) I J=some (.next,fl2,a):=by show bd (ev E I e J) _=_;rw[h];show bd (bd (bO xs G I) _) _=_;rw[b];rfl
theorem ztd(h:ev E I e J=some (y,a)):ex E (.ex e p) I J=some (.next,I,a):=by show bd (ev E I e J) _=_;rw[h];rfl
theorem yfw(h:tr E I c J=some (true,a)):ex E (.ife c as b p) I J=exs E as I a:=by show bd (tr E I c J) _=_;rw[h];rfl
theorem tH(h:tr E I c J=some (false,a)):ex E (.ife c as bs p) I J=exs E bs I a:=by show bd (tr E I c J) _=_;rw[h];rfl
theorem zd1{c:LN}{fl':L}{a:L->TrT}{e:L->EvT}{v z:V}(j:bindC c v I J=some fl')(i:a fl' J=some (true,b))(h:e fl' b=some (.v z,f)):eE e c a I v J=some (some z,f):=by show bd (bindC c v I J) _=_;rw[j];show bd (a fl' J) _=_;rw[i];show bd (e fl' b) _=_;rw[h];rfl
theorem cL(h:ex E z e b=some (.next,c,a))(i:I=e)(f:J=b)(g:exs E bs c a=R):exs E (z::bs) I J=R:=by subst i;subst f;show bd (ex E z I J) _=_;rw[h];exact g
theorem cC{e b I:L}{c a J:Hp}{B:List FS}{R:Option (Fl×L×Hp)}:∀{A:List FS},exs E A e c=some (.next,b,a)->I=e->J=c->exs E B b a=R->exs E (A++B) I J=R
 |[],h,i,f,g=>by subst i;subst f;obtain⟨M,j⟩:=Prod.mk.inj (Prod.mk.inj (prf (show some (Fl.next,I,J)=some (.next,b,a) from h))).2;rw[←M,←j] at g;exact g
 |z::A,h,i,f,g=>by
  subst i;subst f;obtain⟨⟨x,y⟩,M,h⟩:=ybw (show bd (ex E z I J) (λw=>nx w (exs E A w.2.1 w.2.2))=_ from h);show bd (ex E z I J) _=_;rw[M];cases x with
  |next=>exact cC (A:=A) h rfl rfl g
  |brk=>cases(show some (Fl.brk,y)=some (.next,b,a) from h)
  |cont=>cases(show some (Fl.cont,y)=some (.next,b,a) from h)
  |ret r=>cases(show some (Fl.ret r,y)=some (.next,b,a) from h)
theorem ybx{o:Option (L×Hp)}{z:FS}{bs:List FS}{R:Option (Fl×L×Hp)}{b:L}{a:Hp}(h:bd o (λw=>ex E z w.1 w.2)=some (.next,b,a))(g:exs E bs b a=R):bd o (λw=>exs E (z::bs) w.1 w.2)=R:=by refine aB h λw M h=>?_;rw[M];show bd (ex E z w.1 w.2) _=_;rw[h];exact g
theorem tP(j:look fl x=some (.ref n))(a:nth J n=some (.list T))(H:∀v∈T,eE (evM cx e).1 ts (qQ cx ifs).2.1 (flr sc fl) v J=some (g v,J))(b:aM (len (T.filterMap g))=true):ev cx fl (.comp e ts tps tp (.var x p) ifs sc q) J=some (.l (T.filterMap g),J):=by show bd (bd (look fl x) _) _=_;rw[j];show bd (bd (bd (bd (nth J n) oL) λU=>some (Src.live n 0)) zay) _=_;rw[a];show bd (cJ _ (byO (bd (nth J n) oL) (λT=>len T+1) 0) (.live n 0) J) _=_;rw[a];show bd (cJ (eE (evM cx e).1 ts (qQ cx ifs).2.1 (flr sc fl)) (len T+1) (.live n 0) J) _=_;rw[mR a T (len T+1) 0 rfl (by rw[aK];exact Nat.lt_succ_self _) H];show ifb (aM (len (T.filterMap g))) _=_;rw[b];rfl
theorem zhs{kn kp ap:_}(j:ev E I o J=some (y,a))(k:fT E y x a=some m)(h:evs E I D a=some (i,b))(l:evs E I e b=some (f,c)):ev E I (.mcall o x D kn e kp ap q) J=kC E m x i (kn.zip f) c:=by show bd (ev E I o J) _=_;rw[j];show bd (fT E y x a) _=_;rw[k];show bd (evs E I D a) _=_;rw[h];show bd (evs E I e b) _=_;rw[l];rfl
theorem zdy(M:ev E I a hp=some (y,e))(B:ev E I b e=some (f,c))(A:nB y f c=some z):ev E I (.sub a b p) hp=some (z,c):=by show bd (ev E I a hp) _=_;rw[M];show bd (ev E I b e) _=_;rw[B];show bd (nB y f c) _=_;rw[A];rfl
theorem hI(M:ev E I a J=some (y,e))(B:ev E I b e=some (f,c))(A:qG o y f c=some z):ev E I (.bin o a b p) J=some (z,c):=by show bd (ev E I a J) _=_;rw[M];show bd (ev E I b e) _=_;rw[B];show bd (qG o y f c) _=_;rw[A];rfl
theorem hH{f:Bi}{z:RV}(g:look cx.glo x=some (.bi f))(h:evs cx I D J=some (b,a))(B:bic f b a=some z):ev cx I (.call (.glo x p) D [] [] [] q) J=some (z,a):=by show bd (bd (look cx.glo x) _) _=_;rw[g];show bd (evs cx I D J) _=_;rw[h];show bd (bic f b a) _=_;rw[B];rfl
theorem xD:cY .NotEq (.v (.str s)) (.v (.str s)) J=some false:=by show some (bH (leq s s))=_;rw[kS];rfl
end
noncomputable def yH(e:FE):List FE:=match e with| .bin _ a b _=>[a,b]| .tup l _=>l| .list l _=>l| .call _ l _ c _ _=>l++c| .mcall o _ l _ c _ _ _=>o::l++c| .cmp _ a b _=>[a,b]| .ife t a b _=>[t,a,b]| .comp e _ _ _ h f _ _=>e::h::f| .sub a i _=>[a,i]| .or l _=>l| .and l _=>l| .not a _=>[a]|_=>[]
def kid(e:FE)(l:LN):FE:=(List.rec (motive:=λU=>FE->FE) (λe=>e) (λi U d e=>d (byO (nth (yH e) i) id (.none 0))) l:FE->FE) e
noncomputable def rhs(s:FS):FE:=match s with| .asg _ e _=>e| .ex e _=>e| .ife c _ _ _=>c| .whl c _ _=>c| .for_ _ e _ _ _=>e| .ret e _=>e| .aug _ _ _ e _=>e|_=> .none 0
def stI(i:Nat):FS:=byO (nth nS i) id (.pass 0)
def exI(i:Nat)(l:LN):FE:=kid (rhs (stI i)) l
def F10(c w b a more:Nat)(q:Nat->V):L:=frm 19 (ov [(91,.ref 4),(116,.int (.ofNat c)),(122,.int (.ofNat w)),(98,.int (.ofNat b)),(125,.int (.ofNat a)),(126,.int (.ofNat more))] q)
def H10(l:Nat->LN)(p:Nat->O):Hp:=hpm 17 (ov [(4,.list (mp (λj=>V.str (l j)) (aC 5 0)))] p)
noncomputable def eT(b a:Nat):Nat:=cs (Nat.beq a 0) 0 (b+1)
theorem yjh(l:Nat->LN)(q:Nat->V)(p:Nat->O)(w c b more:Nat):mp (λa=>ev cxL (F10 a w c b more q) (exI 9 [0,0]) (H10 l p)) (aC 5 0)=mp (λa=>some (.v (.str (l a)),H10 l p)) (aC 5 0):=by kernel_rfl
theorem yjg(l:Nat->LN)(q:Nat->V)(p:Nat->O)(c b a more:Nat):mp (λw=>ev cxL (F10 c w b a more q) (exI 9 [0,1]) (H10 l p)) (aC 3 0)=mp (λw=>some (.v (.str (repN [32] w)),H10 l p)) (aC 3 0):=by kernel_rfl
theorem yjf(l:Nat->LN)(q:Nat->V)(p:Nat->O)(e w:Nat):mp2 3 2 (λa b=>mp (λc=>ev cxL (F10 e w a b c q) (exI 9 [1]) (H10 l p)) (aC 4 0))=mp2 3 2 (λa b=>mp (λc=>some (.v (.str (ldT (fN (eT a b)) c)),H10 l p)) (aC 4 0)):=by kernel_rfl
def F10'(f w e c more:Nat)(a b:LN)(q:Nat->V):L:=frm 21 (ov [(91,.ref 4),(116,.int (.ofNat f)),(122,.int (.ofNat w)),(98,.int (.ofNat e)),(125,.int (.ofNat c)),(126,.int (.ofNat more)),(105,.str a),(137,.str b)] q)
theorem s10{l:Nat->LN}{q:Nat->V}{p:Nat->O}{f w h e more:Nat}(M:f<5)(B:w<3)(A:h<3)(k:e<2)(j:more<4)(i:aM (len (l f)+len (repN [32] w))=true):
 ex cxL (stI 9) (F10 f w h e more q) (H10 l p)=some (.next,F10' f w h e more (l f++repN [32] w) (ldT (fN (eT h e)) more) q,H10 l p):=by
 have c:=aU (bY (yjf l q p f w) A k) (Qb more) (show more<0+4 from(Nat.zero_add 4).symm▸j);refine wK (xs:=[105,137]) (mQ (iG (bS (a:=exI 9 [0,0]) (b:=exI 9 [0,1]) (aU (yjh l q p w h e more) (Qb _) (by lia)) (aU (yjg l q p f h e more) (Qb _) (by lia)) i) (bU c)) rfl) ?_;kernel_rfl
def F11(n:Nat)(a b:LN)(q:Nat->V):L:=frm n (ov [(105,.str a),(137,.str b)] q)
def ybu(a b:LN)(q:Nat->V):=eE (evM cxL (exI 10 [0])).1 [106] (qQ cxL []).2.1 (flr [(14,0),(106,0),(139,4),(137,2),(105,2)] (F11 21 a b q))
theorem yje(a b:LN)(q:Nat->V)(p:Nat->O):ev cxL (F11 21 a b q) (exI 10 []) (hpm 17 p)=bd (cJ (ybu a b q) 6 (.items [.int (.ofNat 1),.int (.ofNat 2),.int (.ofNat 3),.int (.ofNat 4),.int (.ofNat 5)]) (hpm 17 p)) λx=>ifb (aM (len x.1)) (some (.l x.1,x.2)):=by kernel_rfl
noncomputable def tV(a b:LN):List V:=mp (λz=>V.tup [.int (.ofNat (iM (z+1) a 0)),.int (.ofNat (iM (z+1) b 0))]) (aC 5 0)
theorem s11(i:∀z,0<z->z<6->lW z a 0=true)(h:∀z,0<z->z<6->lW z b 0=true):
 ex cxL (stI 10) (F11 21 a b q) (hpm 17 p)=some (.next,F11 22 a b (ov [(138,.ref 17)] q),hpm 18 (ov [(17,.list (tV a b))] p)):=by
 have E:∀z,0<z->z<6->ybu a b q (.int (.ofNat z)) (hpm 17 p)=some (some (.tup [.int (.ofNat (iM z a 0)),.int (.ofNat (iM z b 0))]),hpm 17 p):=λz e c=>by
  have k:ev cxL (put (flr [(14,0),(106,0),(139,4),(137,2),(105,2)] (F11 21 a b q)) 106 (.int (.ofNat z))) (exI 10 [0,0]) (hpm 17 p)=some (.v (.int (.ofNat (iM z a 0))),hpm 17 p):=
   Eq.trans (gA (hp2:=hpm 17 p) (f:=302) (rs:=[.v (.str a),.v (.int (.ofNat z))]) (by kernel_rfl) (by kernel_rfl)) (zn1 ⟨e,c⟩ (i z e c) (hpm 17 p))
  have j:ev cxL (put (flr [(14,0),(106,0),(139,4),(137,2),(105,2)] (F11 21 a b q)) 106 (.int (.ofNat z))) (exI 10 [0,1]) (hpm 17 p)=some (.v (.int (.ofNat (iM z b 0))),hpm 17 p):=
   Eq.trans (gA (hp2:=hpm 17 p) (f:=302) (rs:=[.v (.str b),.v (.int (.ofNat z))]) (by kernel_rfl) (by kernel_rfl)) (zn1 ⟨e,c⟩ (h z e c) (hpm 17 p))
  exact zd1 (fl':=put (flr [(14,0),(106,0),(139,4),(137,2),(105,2)] (F11 21 a b q)) 106 (.int (.ofNat z))) rfl rfl (mQ (hp3:=hpm 17 p) (es:=yH (exI 10 [0])) (p:=4556738) (iG k (bU j)) rfl)
 have C:cJ (ybu a b q) 6 (.items [.int (.ofNat 1),.int (.ofNat 2),.int (.ofNat 3),.int (.ofNat 4),.int (.ofNat 5)]) (hpm 17 p)=some (tV a b,hpm 17 p):=
  iL (E 1 (by lia) (by lia)) (iL (E 2 (by lia) (by lia)) (iL (E 3 (by lia) (by lia)) (iL (E 4 (by lia) (by lia)) (iL (E 5 (by lia) (by lia)) rfl))))
 have K:=yje a b q p;rw[C] at K;have K:ev cxL (F11 21 a b q) (exI 10 []) (hpm 17 p)=some (.l (tV a b),hpm 17 p):=K;have L:ex cxL (stI 10) (F11 21 a b q) (hpm 17 p)=some (.next,put (F11 21 a b q) 138 (.ref (len (hpm 17 p))),hpm 17 p++[.list (tV a b)]):=zwh K;rw[L];kernel_rfl
def F12(n:Nat)(a b:LN)(q:Nat->V):L:=frm n (ov [(105,.str a),(137,.str b),(138,.ref 17)] q)
theorem s12(j:aM (len a+1)=true)(c:aM (len (a++[120])+9)=true)(i:aM (len b+1)=true)(l:a++[120]++repN [9] 9=ta)(k:b++[120]=tb)
 (h:∀J,SL 279 [.v (.str ta)] [] J=some (.v (.ref (len J)),J++[oa])) (e:∀J,SL 279 [.v (.str tb)] [] J=some (.v (.ref (len J)),J++[ob])):
 ex cxL (stI 11) (F12 22 a b q) (hpm 18 p)=some (.next,F12 23 a b (ov [(135,.ref 18),(79,.ref 19)] q),hpm 20 (ov [(18,oa),(19,ob)] p)):=by
 have n:ev cxL (F12 22 a b q) (exI 11 [0,0]) (hpm 18 p)=some (.v (.str ta),hpm 18 p):=by rw[←l];exact bS (a:=exI 11 [0,0,0]) (b:=exI 11 [0,0,1]) (bS (a:=exI 11 [0,0,0,0]) (b:=exI 11 [0,0,0,1]) (s:=a) (t:=[120]) (by kernel_rfl) (by kernel_rfl) j) (by kernel_rfl) c
 have A:ev cxL (F12 22 a b q) (exI 11 [0]) (hpm 18 p)=some (.v (.ref (len (hpm 18 p))),hpm 18 p++[oa]):=
  Eq.trans (gA (hp2:=hpm 18 p) (f:=279) (rs:=[.v (.str ta)]) (by kernel_rfl) (bU n)) (h (hpm 18 p))
 have m:ev cxL (F12 22 a b q) (exI 11 [1,0]) (hpm 18 p++[oa])=some (.v (.str tb),hpm 18 p++[oa]):=by rw[←k];exact bS (a:=exI 11 [1,0,0]) (b:=exI 11 [1,0,1]) (s:=b) (t:=[120]) (by kernel_rfl) (by kernel_rfl) i
 have B:ev cxL (F12 22 a b q) (exI 11 [1]) (hpm 18 p++[oa])=some (.v (.ref (len (hpm 18 p++[oa]))),hpm 18 p++[oa]++[ob]):=
  Eq.trans (gA (hp2:=hpm 18 p++[oa]) (f:=279) (rs:=[.v (.str tb)]) (by kernel_rfl) (bU m)) (e (hpm 18 p++[oa]))
 have L:ex cxL (stI 11) (F12 22 a b q) (hpm 18 p)=some (.next,F12 23 a b (ov [(135,.ref 18),(79,.ref 19)] q),hpm 18 p++[oa]++[ob]):=
  wK (xs:=[135,79]) (mQ (es:=yH (exI 11 [])) (hp3:=hpm 18 p++[oa]++[ob]) (vs:=[.ref (len (hpm 18 p)),.ref (len (hpm 18 p++[oa]))]) (iG A (bU B)) rfl) (by kernel_rfl)
 rw[L];kernel_rfl
def F13(q:Nat->V):L:=frm 23 (ov [(138,.ref 17),(135,.ref 18),(79,.ref 19)] q)
def H13(f g:Nat->Int)(b a:O)(p:Nat->O):Hp:=hpm 20 (ov [(17,.list (mp (λz=>V.tup [.int (f (z+1)),.int (g (z+1))]) (aC 5 0))),(18,b),(19,a)] p)
noncomputable def ltL(f g:Nat->Int):List V:=mp (λz=>V.bool (Z.ltB (f (z+1)) (g (z+1)))) (aC 5 0)
theorem yjd(f g:Nat->Int)(b a:O)(q:Nat->V)(p:Nat->O):ev cxL (F13 q) (exI 12 [1]) (H13 f g b a p)=some (.v (.bool (bH (vin (.bool false) (ltL f g)))),H13 f g b a p):=by kernel_rfl
theorem yjc(f g:Nat->Int)(b a:O)(q:Nat->V)(p:Nat->O):ev cxL (F13 q) (exI 13 [1]) (H13 f g b a p)=some (.v (.bool (bH (vin (.bool false) (ltL g f)))),H13 f g b a p):=by kernel_rfl
theorem zbc:cY .IsNot (.v (.bool b)) (.v (.bool b)) J=some false:=by cases b<;>rfl
theorem s13(h:SL 269 [.v (.ref 18),.v (.ref 19)] [] (H13 f g (wsL ra a w) (wsL rb b v) p)=some (.v (.bool x),H13 f g (wsL ra a w) (wsL rb b v) p))(j:bH (vin (.bool false) (ltL f g))=x):
 ex cxL (stI 12) (F13 q) (H13 f g (wsL ra a w) (wsL rb b v) p)=some (.next,F13 q,H13 f g (wsL ra a w) (wsL rb b v) p):=by
 have A:ev cxL (F13 q) (exI 12 [0]) (H13 f g (wsL ra a w) (wsL rb b v) p)=some (.v (.bool x),H13 f g (wsL ra a w) (wsL rb b v) p):=by refine Eq.trans ?_ h;kernel_rfl
 have B:=yjd f g (wsL ra a w) (wsL rb b v) q p;rw[j] at B;exact tH (gH A B zbc)
theorem s14(h:SL 269 [.v (.ref 19),.v (.ref 18)] [] (H13 f g (wsL ra a w) (wsL rb b v) p)=some (.v (.bool x),H13 f g (wsL ra a w) (wsL rb b v) p))(j:bH (vin (.bool false) (ltL g f))=x):
 ex cxL (stI 13) (F13 q) (H13 f g (wsL ra a w) (wsL rb b v) p)=some (.next,F13 q,H13 f g (wsL ra a w) (wsL rb b v) p):=by
 have A:ev cxL (F13 q) (exI 13 [0]) (H13 f g (wsL ra a w) (wsL rb b v) p)=some (.v (.bool x),H13 f g (wsL ra a w) (wsL rb b v) p):=by refine Eq.trans ?_ h;kernel_rfl
 have B:=yjc f g (wsL ra a w) (wsL rb b v) q p;rw[j] at B;exact tH (gH A B zbc)
theorem zv6:aP 121 (λi=>aP 3 λw=>aH (aM (len (cP (rsI i))+len (repN [32] w))) (aH (aM (len (ldT (rsI i) w)+1)) (aM (len (ldT (rsI i) w++[120])+9))))=true:=by kernel_rfl
theorem yga:aP 4 (λi=>aP 4 λw=>aM (len (ldT (fN i) w)+1))=true:=by kernel_rfl
theorem yhb:bH (vin (.bool false) (ltL (λz=> .ofNat (f z)) (λz=> .ofNat (g z))))=zb8 5 f g:=by have z:∀a b:Nat,Z.ltB (.ofNat a) (.ofNat b)=Nat.blt a b:=λU U=>rfl;show bH (vin (.bool false) [.bool (Z.ltB (.ofNat (f 1)) (.ofNat (g 1))),.bool (Z.ltB (.ofNat (f 2)) (.ofNat (g 2))),.bool (Z.ltB (.ofNat (f 3)) (.ofNat (g 3))),.bool (Z.ltB (.ofNat (f 4)) (.ofNat (g 4))),.bool (Z.ltB (.ofNat (f 5)) (.ofNat (g 5)))])=cs (Nat.blt (f 5) (g 5)) (cs (Nat.blt (f 4) (g 4)) (cs (Nat.blt (f 3) (g 3)) (cs (Nat.blt (f 2) (g 2)) (cs (Nat.blt (f 1) (g 1)) true false) false) false) false) false;simp only[z];cases Nat.blt (f 1) (g 1)<;>cases Nat.blt (f 2) (g 2)<;>cases Nat.blt (f 3) (g 3)<;>cases Nat.blt (f 4) (g 4)<;>cases Nat.blt (f 5) (g 5)<;>rfl
theorem zok(h:zh1 a b=true):a=b:=by cases a<;>cases b<;>first|rfl|cases h
theorem zf6(M:∀z,0<z->z<6->f z=b z)(B:∀z,0<z->z<6->g z=a z):zb8 5 f g=zb8 5 b a:=by show cs (Nat.blt (f 5) (g 5)) (cs (Nat.blt (f 4) (g 4)) (cs (Nat.blt (f 3) (g 3)) (cs (Nat.blt (f 2) (g 2)) (cs (Nat.blt (f 1) (g 1)) true false) false) false) false) false=cs (Nat.blt (b 5) (a 5)) (cs (Nat.blt (b 4) (a 4)) (cs (Nat.blt (b 3) (a 3)) (cs (Nat.blt (b 2) (a 2)) (cs (Nat.blt (b 1) (a 1)) true false) false) false) false) false;rw[M 1 (by lia) (by lia),M 2 (by lia) (by lia),M 3 (by lia) (by lia),M 4 (by lia) (by lia),M 5 (by lia) (by lia),B 1 (by lia) (by lia),B 2 (by lia) (by lia),B 3 (by lia) (by lia),B 4 (by lia) (by lia),B 5 (by lia) (by lia)]
theorem zcm(b:LN)(w:Nat)(a:LN):ldT b w++120::a=txt b w a:=by show(cP b++repN [32] w)++120::a=cP b++(repN [32] w++120::a);rw[List.append_assoc]
def o18(a:LN)(w:Nat):O:=wsL (txt a w (repN [9] 9)) (cX a) w
def o19(a more:Nat):O:=wsL (txt (fN a) more []) (qT a) more
def F14(a b:LN)(q:Nat->V):L:=frm 23 (ov [(105,.str a),(137,.str b),(138,.ref 17),(135,.ref 18),(79,.ref 19)] q)
def znd(c w b a more:Nat)(q:Nat->V):Nat->V:=ov [(91,.ref 4),(116,.int (.ofNat c)),(122,.int (.ofNat w)),(98,.int (.ofNat b)),(125,.int (.ofNat a)),(126,.int (.ofNat more))] q
theorem yef{rs:LN}{l:Nat->LN}{w h e c more:Nat}(hr:lt3 rs)(hl:len rs≤4)(N:l h=cP rs)(h1:h<5)(r:w<3)(h3:e<3)(h4:c<2)(s:more<4)(q:Nat->V)(p:Nat->O):
 exs cxL (seg 9 5) (F10 h w e c more q) (H10 l p)=some (.next,F14 (ldT rs w) (ldT (fN (eT e c)) more) (znd h w e c more q),hpm 20 (ov [(17,.list (tV (ldT rs w) (ldT (fN (eT e c)) more))),(18,o18 rs w),(19,o19 (eT e c) more)] (ov [(4,.list (mp (λj=>V.str (l j)) (aC 5 0)))] p))):=by
 obtain⟨u,t⟩:=zsn hr hl;have i:eT e c<4:=by
  unfold eT;cases Nat.beq c 0 with
  |true=>show 0<4;lia
  |false=>show e+1<4;lia
 have f:=aG (aG zv6 _ t) w r;rw[u] at f;refine aI f λf1 f=>?_;refine aI f λf2 f3=>?_;have fb:=aG (aG yga _ i) more s;have A:=s10 (l:=l) (q:=q) (p:=p) h1 r h3 h4 s (by rw[N];exact f1);rw[N] at A;have d:∀z,0<z->z<6->lW z (ldT rs w) 0=true:=λz y x=>by have:=aG (aG (aG yjw _ t) w r) (z-1) (by lia);rw[u,show z-1+1=z from by lia] at this;exact this
 have Q:∀z,0<z->z<6->lW z (ldT (fN (eT e c)) more) 0=true:=λz y x=>by have:=aG (aG (aG ykd _ i) more s) (z-1) (by lia);rw[show z-1+1=z from by lia] at this;exact this
 have B:=s11 (q:=znd h w e c more q) (p:=ov [(4,.list (mp (λj=>V.str (l j)) (aC 5 0)))] p) d Q;have n:=bY (ws0 (repN [9] 9)) t r;rw[u] at n;have H:=bY (ws1 []) i s;have C:=s12 (a:=ldT rs w) (b:=ldT (fN (eT e c)) more) (oa:=o18 rs w) (ob:=o19 (eT e c) more) (q:=znd h w e c more q) (p:=ov [(17,.list (tV (ldT rs w) (ldT (fN (eT e c)) more)))] (ov [(4,.list (mp (λj=>V.str (l j)) (aC 5 0)))] p)) f2 f3 fb
  (ta:=txt rs w (repN [9] 9)) (tb:=txt (fN (eT e c)) more []) (by rw[←zcm,List.append_assoc];rfl) (zcm _ _ _) (zig n) (zig H)
 have J:=aG ygu _ t;rw[u] at J;have m:okC (cX rs) w=true:=by have:=aG (aG ygw _ t) w r;rw[u] at this;exact this
 have o:okC (qT (eT e c)) more=true:=aG (aG ye7 _ i) more s;have cA:∀z,0<z->z<6->iM z (ldT rs w) 0=zb0 z (cX rs) w:=λz y x=>by have:=aG (aG (aG ygr _ t) w r) (z-1) (by lia);rw[u,show z-1+1=z from by lia] at this;exact aN this
 have Y:∀z,0<z->z<6->iM z (ldT (fN (eT e c)) more) 0=zb0 z (qT (eT e c)) more:=λz y x=>by have:=aG (aG (aG ygs _ i) more s) (z-1) (by lia);rw[show z-1+1=z from by lia] at this;exact aN this
 obtain⟨⟨k,T⟩,_,_⟩:=sW m;rw[T] at J;have hk:k<35:=Qa J;have M:=aG (aG (aG (aG zzl k hk) w r) _ i) more s;rw[(zfo T).2] at M;refine aI M λI G=>?_
 have L1:=(yhb (f:=λz=>iM z (ldT rs w) 0) (g:=λz=>iM z (ldT (fN (eT e c)) more) 0)).trans ((zf6 cA Y).trans (zok I).symm);have L2:=(yhb (f:=λz=>iM z (ldT (fN (eT e c)) more) 0) (g:=λz=>iM z (ldT rs w) 0)).trans ((zf6 Y cA).trans (zok G).symm);have D:=s13 (f:=λz=> .ofNat (iM z (ldT rs w) 0)) (g:=λz=> .ofNat (iM z (ldT (fN (eT e c)) more) 0)) (ra:=txt rs w (repN [9] 9)) (rb:=txt (fN (eT e c)) more []) (a:=cX rs) (b:=qT (eT e c)) (w:=w) (v:=more) (q:=ov [(105,.str (ldT rs w)),(137,.str (ldT (fN (eT e c)) more))] (znd h w e c more q)) (p:=ov [(4,.list (mp (λj=>V.str (l j)) (aC 5 0)))] p) (yD (ra:=txt rs w (repN [9] 9)) (rb:=txt (fN (eT e c)) more []) m o rfl (by kernel_rfl) (by kernel_rfl)) L1;have E:=s14 (f:=λz=> .ofNat (iM z (ldT rs w) 0)) (g:=λz=> .ofNat (iM z (ldT (fN (eT e c)) more) 0)) (ra:=txt rs w (repN [9] 9)) (rb:=txt (fN (eT e c)) more []) (a:=cX rs) (b:=qT (eT e c)) (w:=w) (v:=more) (q:=ov [(105,.str (ldT rs w)),(137,.str (ldT (fN (eT e c)) more))] (znd h w e c more q)) (p:=ov [(4,.list (mp (λj=>V.str (l j)) (aC 5 0)))] p) (yD (rb:=txt rs w (repN [9] 9)) (ra:=txt (fN (eT e c)) more []) o m rfl (by kernel_rfl) (by kernel_rfl)) L2;refine cL (bs:=[stI 10,stI 11,stI 12,stI 13]) A rfl rfl (cL B (by kernel_rfl) (by kernel_rfl) (cL C (by kernel_rfl) (by kernel_rfl) (cL D (by kernel_rfl) (by kernel_rfl) (cL E (by kernel_rfl) (by kernel_rfl) ?_))));kernel_rfl
abbrev cxS:Cx:=cx1 (SS 5)
noncomputable def zys:LN:=[96,89,90,91,92,93,94,95,97,98,99,100,102]
def eJ(k:Nat)(f:Nat->V):L:=mp (λx=>(x,f x)) (tk k zys)
noncomputable def n13(i a:Nat):Nat:=cs (Nat.beq i 0) a 13
def ouB:List FS:=byO (nth bD 1) (λs=>match s with| .for_ _ _ b _ _=>b|_=>[]) []
def ouS(i:Nat):FS:=byO (nth ouB i) id (.pass 0)
def ouT:Tg:=byO (nth bD 1) (λs=>match s with| .for_ t _ _ _ _=>t|_=> .name 0 0) (.name 0 0)
def ouR(q:Nat->V):Nat->V:=ov [(96,.ref 1),(89,.ref 2),(90,.ref 3),(91,.ref 4),(92,.ref 5),(93,.ref 6),(94,.ref 7)] q
def dgV(c:Int)(a b:Nat)(q:Nat->V):Nat->V:=ov [(95,.int c),(97,.int (Int.fmod c (.ofNat a))),(98,.int (Int.fmod (dvN c [.ofNat a]) 3)),(99,.int (Int.fmod (dvN c [.ofNat a,3]) (.ofNat b))),(100,.int (Int.fmod (dvN c [.ofNat a,3,.ofNat b]) 30))] q
theorem oA(c:Int)(q b a:Nat->V)(p:Nat->O):mp (λx:Nat×Nat=>bd (bW cxS ouT (.v (.int c)) (eJ (n13 x.1 7) (ouR q)) (hpm 8 (ov [(3,.list (mp b (aC x.1 0)++[.int (.ofNat x.2)])),(7,.list (mp a (aC (4-x.1) 0)))] p))) λw=>ex cxS (ouS 0) w.1 w.2) [(0,0),(1,0),(1,1),(2,0),(2,1),(2,2),(3,0),(3,1),(3,2),(3,3)]=
 mp (λx:Nat×Nat=>some (.next,eJ (n13 x.1 12) (ouR (dgV c (x.2+1) (4-x.1) q)),hpm 8 (ov [(3,.list (mp b (aC x.1 0)++[.int (.ofNat x.2)])),(7,.list (mp a (aC (4-x.1) 0)))] p))) [(0,0),(1,0),(1,1),(2,0),(2,1),(2,2),(3,0),(3,1),(3,2),(3,3)]:=by kernel_rfl
noncomputable def kZ(u:LN):LN:=(List.rec (motive:=λU=>LN->LN) (λd=>d) (λx U a d=>a (d++[byO (nth d x) id 0+1])) u:LN->LN) [0]
noncomputable def ixD(deep:Nat)(d:LN):Nat->Nat->Nat:=List.rec (motive:=λU=>Nat->Nat->Nat) (λU a=>a) (λx U b k a=>b (k+1) (cs (Nat.beq x deep) k a)) d
def upF(u:LN)(deep:Nat):Nat:=ixD deep (kZ u) 0 0
noncomputable def trs:List (Nat×List Nat×Nat):=[(0,[],0),(1,[0],0),(1,[0],1),(2,[0,0],0),(2,[0,0],1),(2,[0,1],0),(2,[0,1],1),(2,[0,1],2),(3,[0,0,0],0),(3,[0,0,0],1),(3,[0,0,2],0),(3,[0,0,2],1),(3,[0,0,2],2),(3,[0,1,0],0),(3,[0,1,0],1),(3,[0,1,1],0),(3,[0,1,1],1),(3,[0,1,1],2),(3,[0,1,2],0),(3,[0,1,2],1),(3,[0,1,2],2),(3,[0,1,2],3)]
def ouD(deep:Nat)(q:Nat->V):Nat->V:=ouR (ov [(97,.int (.ofNat deep))] q)
def hB(u:LN)(p:Nat->O):Hp:=hpm 8 (ov [(2,gG u),(3,.list (ivs (kZ u)))] p)
theorem oB(q:Nat->V)(p:Nat->O):mp (λx:Nat×List Nat×Nat=>exs cxS [ouS 1,ouS 2,ouS 3] (eJ (n13 x.1 12) (ouD x.2.2 q)) (hB x.2.1 p)) trs=
 mp (λx:Nat×List Nat×Nat=>some (.next,eJ 13 (ouD x.2.2 (ov [(102,.int (.ofNat (upF x.2.1 x.2.2)))] q)),hB (x.2.1++[upF x.2.1 x.2.2]) p)) trs:=by kernel_rfl
noncomputable def ops:List (List Nat×List Nat×Nat):=[([],[1,2,3,4],0),([1],[2,3,4],0),([1,2],[3,4],0),([1,2,3],[4],0),([1,2],[3,4],1),([1,2,4],[3],0),([1],[2,3,4],1),([1,3],[2,4],0),([1,3,2],[4],0),([1,3],[2,4],1),([1,3,4],[2],0),([1],[2,3,4],2),([1,4],[2,3],0),([1,4,2],[3],0),([1,4],[2,3],1),([1,4,3],[2],0),([],[1,2,3,4],1),([2],[1,3,4],0),([2,1],[3,4],0),([2,1,3],[4],0),([2,1],[3,4],1),([2,1,4],[3],0),([2],[1,3,4],1),([2,3],[1,4],0),([2,3,1],[4],0),([2,3],[1,4],1),([2,3,4],[1],0),([2],[1,3,4],2),([2,4],[1,3],0),([2,4,1],[3],0),([2,4],[1,3],1),([2,4,3],[1],0),([],[1,2,3,4],2),([3],[1,2,4],0),([3,1],[2,4],0),([3,1,2],[4],0),([3,1],[2,4],1),([3,1,4],[2],0),([3],[1,2,4],1),([3,2],[1,4],0),([3,2,1],[4],0),([3,2],[1,4],1),([3,2,4],[1],0),([3],[1,2,4],2),([3,4],[1,2],0),([3,4,1],[2],0),([3,4],[1,2],1),([3,4,2],[1],0),([],[1,2,3,4],3),([4],[1,2,3],0),([4,1],[2,3],0),([4,1,2],[3],0),([4,1],[2,3],1),([4,1,3],[2],0),([4],[1,2,3],1),([4,2],[1,3],0),([4,2,1],[3],0),([4,2],[1,3],1),([4,2,3],[1],0),([4],[1,2,3],2),([4,3],[1,2],0),([4,3,1],[2],0),([4,3],[1,2],1),([4,3,2],[1],0)]
noncomputable def zc6(l:LN):Nat->LN:=List.rec (motive:=λU=>Nat->LN) (λU=>[]) (λx r d k=>Nat.rec (motive:=λU=>LN) r (λj U=>x::d j) k) l
def hF(o a:LN)(p:Nat->O):Hp:=hpm 8 (ov [(5,.list (ivs o)),(7,.list (ivs a))] p)
theorem oF(q:Nat->V)(p:Nat->O):mp (λx:List Nat×List Nat×Nat=>ex cxS (ouS 5) (eJ 13 (ouR (ov [(99,.int (.ofNat x.2.2))] q))) (hF x.1 x.2.1 p)) ops=
 mp (λx:List Nat×List Nat×Nat=>some (.next,eJ 13 (ouR (ov [(99,.int (.ofNat x.2.2))] q)),hF (x.1++[byO (nth x.2.1 x.2.2) id 0]) (zc6 x.2.1 x.2.2) p)) ops:=by kernel_rfl
theorem oG(q a:Nat->V)(v:V)(p:Nat->O):mp (λi=>ex cxS (ouS 6) (eJ 13 (ouR (ov [(100,v)] q))) (hpm 8 (ov [(6,.list (mp a (aC i 0)))] p))) (aC 4 0)=
 mp (λi=>some (.next,eJ 13 (ouR (ov [(100,v)] q)),hpm 8 (ov [(6,.list (mp a (aC i 0)++[v]))] p))) (aC 4 0):=by kernel_rfl
noncomputable def dg(c:Int)(b:Nat):Nat:=(Int.fmod c (.ofNat b)).toNat
theorem eD(c:Int)(f:0<b):Int.fmod c (.ofNat b)= .ofNat (dg c b)/\dg c b<b:=by have a:(0:Int)< .ofNat b:=Int.ofNat_lt.mpr f;have M:0≤Int.fmod c (.ofNat b):=Int.fmod_nonneg_of_pos c a;have B:Int.fmod c (.ofNat b)< .ofNat b:=Int.fmod_lt_of_pos c a;have e:Int.fmod c (.ofNat b)=((dg c b:Nat):Int):=(Int.toNat_of_nonneg M).symm;refine⟨e,?_⟩;rw[e] at B;exact Int.ofNat_lt.mp B
def d2(c:Int)(a:Nat):Nat:=dg (Int.fdiv c (.ofNat a)) 3
def d3(c:Int)(b a:Nat):Nat:=dg (Int.fdiv (Int.fdiv c (.ofNat b)) 3) a
def d4(c:Int)(b a:Nat):Nat:=dg (Int.fdiv (Int.fdiv (Int.fdiv c (.ofNat b)) 3) (.ofNat a)) 30
def dgN(c:Int)(a b:Nat)(q:Nat->V):Nat->V:=ov [(95,.int c),(97,.int (.ofNat (dg c a))),(98,.int (.ofNat (d2 c a))),(99,.int (.ofNat (d3 c a b))),(100,.int (.ofNat (d4 c a b)))] q
theorem ygm(c:Int)(M:0<a)(A:0<e)(q:Nat->V):dgV c a e q=dgN c a e q:=by have j:=(eD c M).1;have i:=(eD (Int.fdiv c (.ofNat a)) (b:=3) (by lia)).1;have h:=(eD (Int.fdiv (Int.fdiv c (.ofNat a)) 3) A).1;have f:=(eD (Int.fdiv (Int.fdiv (Int.fdiv c (.ofNat a)) 3) (.ofNat e)) (b:=30) (by lia)).1;unfold dgN d2 d3 d4;rw[←j,←i,←h,←f];rfl
theorem oE1(l:Nat->LN)(q:Nat->V)(p:Nat->O)(a:Nat):mp (λx:Nat×Nat=>ev cxS (eJ 13 (ouR (ov [(98,.int (.ofNat a)),(102,.int (.ofNat x.2))] q))) (kid (rhs (ouS 4)) [1,0,0]) (hpm 8 (ov [(4,.list (mp (λj=>V.str (l j)) (aC (x.1+1) 0)))] p))) [(0,0),(1,0),(1,1),(2,0),(2,1),(2,2),(3,0),(3,1),(3,2),(3,3)]=
 mp (λx:Nat×Nat=>some (.v (.str (l x.2)),hpm 8 (ov [(4,.list (mp (λj=>V.str (l j)) (aC (x.1+1) 0)))] p))) [(0,0),(1,0),(1,1),(2,0),(2,1),(2,2),(3,0),(3,1),(3,2),(3,3)]:=by kernel_rfl
theorem oE2(q:Nat->V)(J:Hp)(b:Nat):mp (λa=>ev cxS (eJ 13 (ouR (ov [(98,.int (.ofNat a)),(102,.int (.ofNat b))] q))) (kid (rhs (ouS 4)) [1,0,1]) J) (aC 3 0)=mp (λa=>some (.v (.str (repN [32] a)),J)) (aC 3 0):=by kernel_rfl
theorem oE3(l:Nat->LN)(p:Nat->O)(T:LN):mp (λi=>kC cxS (.lst 4) 0 [.v (.str T)] [] (hpm 8 (ov [(4,.list (mp (λj=>V.str (l j)) (aC (i+1) 0)))] p))) (aC 4 0)=mp (λi=>some (.v .none,hpm 8 (ov [(4,.list (mp (λj=>V.str (l j)) (aC (i+1) 0)++[.str T]))] p))) (aC 4 0):=by kernel_rfl
theorem oE{l:Nat->LN}{q:Nat->V}{p:Nat->O}{i c a:Nat}(e:(i,c)∈[(0,0),(1,0),(1,1),(2,0),(2,1),(2,2),(3,0),(3,1),(3,2),(3,3)])(n:i<4)(k:a<3)(h:aM (len (l c)+len (repN [32] a))=true)(f:aM (len (l c++repN [32] a)+1)=true):
 ex cxS (ouS 4) (eJ 13 (ouR (ov [(98,.int (.ofNat a)),(102,.int (.ofNat c))] q))) (hpm 8 (ov [(4,.list (mp (λj=>V.str (l j)) (aC (i+1) 0)))] p))=
 some (.next,eJ 13 (ouR (ov [(98,.int (.ofNat a)),(102,.int (.ofNat c))] q)),hpm 8 (ov [(4,.list (mp (λj=>V.str (l j)) (aC (i+1) 0)++[.str (l c++repN [32] a++[9])]))] p)):=by
 have A:=gQ (oE1 l q p a) _ e;have B:=aU (oE2 q (hpm 8 (ov [(4,.list (mp (λj=>V.str (l j)) (aC (i+1) 0)))] p)) c) (Qb a) (by lia);have C:=bS (p:=3721905) (b:=kid (rhs (ouS 4)) [1,1]) (t:=[9]) (bS (p:=3721898) A B h) (by kernel_rfl) f;have M:=dL (cx:=cxS) (x:=0) (o:=kid (rhs (ouS 4)) [0]) (y:= .v (.ref 4)) (m:= .lst 4) (kp:=[]) (ap:=3720212) (q:=3720242) (fl:=eJ 13 (ouR (ov [(98,.int (.ofNat a)),(102,.int (.ofNat c))] q))) (hp:=hpm 8 (ov [(4,.list (mp (λj=>V.str (l j)) (aC (i+1) 0)))] p)) (hp1:=hpm 8 (ov [(4,.list (mp (λj=>V.str (l j)) (aC (i+1) 0)))] p)) (by kernel_rfl) (by kernel_rfl) (bU C);exact ztd (M.trans (aU (oE3 l p _) (Qb i) (by lia)))
theorem sZ{a b:Type}{f g:a->b}:∀{l:List a},(∀x∈l,f x=g x)->mp f l=mp g l
 |[],_=>rfl
 |x::l,h=>by show f x::mp f l=g x::mp g l;rw[h x (.head _),sZ (l:=l) λy c=>h y (.tail _ c)]
theorem zcn{b:Type}:∀{n:Nat} {l:List b} {x:b},x∈tk n l->x∈l
 |0,[],_,h=>absurd h Qj
 |0,_::_,_,h=>absurd h Qj
 |n+1,[],_,h=>absurd h Qj
 |n+1,a::l,x,h=>by
  rcases Qe (show x∈a::tk n l from h) with rfl|h
  · exact .head _
  · exact .tail _ (zcn h)
theorem zbq{k:Nat}{f g:Nat->V}(h:mp f zys=mp g zys):eJ k f=eJ k g:=sZ λx j=>by rw[gQ h x (zcn j)]
noncomputable def L10:List (Nat×Nat):=[(0,0),(1,0),(1,1),(2,0),(2,1),(2,2),(3,0),(3,1),(3,2),(3,3)]
def zk7(a b:Nat)(l:List (Nat×Nat)):Bool:=List.rec (motive:=λU=>Bool) false (λx U d=>cs (aH (Nat.beq x.1 a) (Nat.beq x.2 b)) true d) l
theorem xW:∀{l:List (Nat×Nat)},zk7 a b l=true->(a,b)∈l
 |[],h=>nomatch h
 |x::l,h=>by
  have h:cs (aH (Nat.beq x.1 a) (Nat.beq x.2 b)) true (zk7 a b l)=true:=h;cases e:aH (Nat.beq x.1 a) (Nat.beq x.2 b) with
  |true=>refine aI e λM B=>?_;rw[←aN M,←aN B];exact .head _
  |false=>rw[e] at h;exact .tail _ (xW h)
noncomputable def itU(u:LN)(j:Nat):V:= .int (.ofNat (byO (nth u j) id 0))
theorem oT1:mp (λx:Nat×List Nat×Nat=>ivs (kZ x.2.1)) trs=mp (λx:Nat×List Nat×Nat=>mp (itU (kZ x.2.1)) (aC x.1 0)++[.int (.ofNat (aZ (kZ x.2.1)))]) trs:=by kernel_rfl
theorem oT2:mp (λx:Nat×List Nat×Nat=>aH (zk7 x.1 (aZ (kZ x.2.1)) L10) (zk7 x.1 (upF x.2.1 x.2.2) L10)) trs=mp (λU=>true) trs:=by kernel_rfl
theorem oT3:mp (λx:List Nat×List Nat×Nat=>ivs x.2.1) ops=mp (λx:List Nat×List Nat×Nat=>mp (itU x.2.1) (aC (4-len x.1) 0)) ops:=by kernel_rfl
def hO(i:Nat)(u:LN)(l:Nat->LN)(o a:LN)(b:Nat->V)(p:Nat->O):Nat->O:=ov [(2,gG u),(3,.list (ivs (kZ u))),(4,.list (mp (λj=>V.str (l j)) (aC (i+1) 0))),(5,.list (ivs o)),(6,.list (mp b (aC i 0))),(7,.list (ivs a))] p
noncomputable def atV(k:Nat)(x:V)(t:Nat->V)(j:Nat):V:=cs (Nat.beq j k) x (t j)
theorem vH{a:Type}(f:Nat->a):∀n i:Nat,mp f (aC (n+1) i)=mp f (aC n i)++[f (i+n)]
 |0,i=>rfl
 |n+1,i=>by show f i::mp f (aC (n+1) (i+1))=f i::(mp f (aC n (i+1))++[f (i+(n+1))]);rw[vH f n (i+1),show i+1+n=i+(n+1) from by lia]
theorem ziu(h:x∈aC n i):x<i+n:=by
 induction n generalizing i with
 |zero=>exact absurd h Qj
 |succ n d=>
  rcases Qe (show x∈i::aC n (i+1) from h) with rfl|h
  · lia
  · have:=d h;lia
theorem ykv(l:Nat->LN)(T:LN)(n:Nat):mp (λj=>V.str (at1 n T l j)) (aC (n+1) 0)=mp (λj=>V.str (l j)) (aC n 0)++[.str T]:=by
 rw[vH,sZ (g:=λj=>V.str (l j))]
 · show _++[V.str (cs (Nat.beq (0+n) n) T (l (0+n)))]=_
   rw[Nat.zero_add,Nat.beq_refl];rfl
 · intro x a
   have:=ziu a;show V.str (cs (Nat.beq x n) T (l x))=_;rw[show Nat.beq x n=false from by cases e:Nat.beq x n with|false=>rfl|true=>have:=aN e;lia];rfl
theorem yik(d:Nat->V)(v:V)(n:Nat):mp (atV n v d) (aC (n+1) 0)=mp d (aC n 0)++[v]:=by
 rw[vH,sZ (g:=d)]
 · show _++[cs (Nat.beq (0+n) n) v (d (0+n))]=_
   rw[Nat.zero_add,Nat.beq_refl];rfl
 · intro x j
   have:=ziu j;show cs (Nat.beq x n) v (d x)=_;rw[show Nat.beq x n=false from by cases e:Nat.beq x n with|false=>rfl|true=>have:=aN e;lia];rfl
def b1U(u:LN):Nat:=aZ (kZ u)+1
def upC(u:LN)(c:Int):Nat:=upF u (dg c (b1U u))
theorem oT(r:i<4)(e:(i,u,dg c (b1U u))∈trs)(h:(o,lf,d3 c (b1U u) (4-i))∈ops)(f:len o=i)
 (t:aM (len (l (upC u c))+len (repN [32] (d2 c (b1U u))))=true) (s:aM (len (l (upC u c)++repN [32] (d2 c (b1U u)))+1)=true):
 ∃n,aX cxS ouT (exs cxS ouB) (.int c) (eJ (n13 i 7) (ouR q)) (hpm 8 (hO i u l o lf dv p))=
  some (.next,eJ 13 (ouR n),hpm 8 (hO (i+1) (u++[upC u c]) (at1 (i+1) (l (upC u c)++repN [32] (d2 c (b1U u))++[9]) l) (o++[byO (nth lf (d3 c (b1U u) (4-i))) id 0]) (zc6 lf (d3 c (b1U u) (4-i))) (atV i (.int (.ofNat (d4 c (b1U u) (4-i)))) dv) p)):=by
 have m:ivs (kZ u)=mp (itU (kZ u)) (aC i 0)++[.int (.ofNat (aZ (kZ u)))]:=gQ oT1 _ e;refine aI (gQ oT2 _ e) λb a=>?_;have b:=xW b;have a:(i,upC u c)∈L10:=xW a;have k:ivs lf=mp (itU lf) (aC (4-i) 0):=by have:=gQ oT3 _ h;rw[←f];exact this
 have A:=gQ (oA c q (itU (kZ u)) (itU lf) (hO i u l o lf dv p)) (i,aZ (kZ u)) b;have A:bd (bW cxS ouT (.v (.int c)) (eJ (n13 i 7) (ouR q)) (hpm 8 (ov [(3,.list (mp (itU (kZ u)) (aC i 0)++[.int (.ofNat (aZ (kZ u)))])),(7,.list (mp (itU lf) (aC (4-i) 0)))] (hO i u l o lf dv p)))) (λw=>ex cxS (ouS 0) w.1 w.2)=some (.next,eJ (n13 i 12) (ouR (dgV c (b1U u) (4-i) q)),hpm 8 (ov [(3,.list (mp (itU (kZ u)) (aC i 0)++[.int (.ofNat (aZ (kZ u)))])),(7,.list (mp (itU lf) (aC (4-i) 0)))] (hO i u l o lf dv p))):=A;rw[←m,←k,ygm c (by unfold b1U;lia) (by lia)] at A;have A:bd (bW cxS ouT (.v (.int c)) (eJ (n13 i 7) (ouR q)) (hpm 8 (hO i u l o lf dv p))) (λw=>ex cxS (ouS 0) w.1 w.2)=_:=Eq.trans (by kernel_rfl) A;have B:=gQ (oB (dgN c (b1U u) (4-i) q) (hO i u l o lf dv p)) _ e;have E:=oE (l:=l) (q:=ov [(97,.int (.ofNat (dg c (b1U u)))),(102,.int (.ofNat (upC u c)))] (dgN c (b1U u) (4-i) q)) (p:=hO i (u++[upC u c]) l o lf dv p) a r (eD _ (by lia)).2 t s;rw[←ykv] at E;have F:=gQ (oF (ov [(97,.int (.ofNat (dg c (b1U u)))),(102,.int (.ofNat (upC u c)))] (dgN c (b1U u) (4-i) q)) (ov [(4,.list (mp (λj=>V.str (at1 (i+1) (l (upC u c)++repN [32] (d2 c (b1U u))++[9]) l j)) (aC (i+1+1) 0)))] (hO i (u++[upC u c]) l o lf dv p))) _ h;have G:=aU (oG (ov [(97,.int (.ofNat (dg c (b1U u)))),(102,.int (.ofNat (upC u c)))] (dgN c (b1U u) (4-i) q)) dv (.int (.ofNat (d4 c (b1U u) (4-i)))) (ov [(4,.list (mp (λj=>V.str (at1 (i+1) (l (upC u c)++repN [32] (d2 c (b1U u))++[9]) l j)) (aC (i+1+1) 0))),(5,.list (ivs (o++[byO (nth lf (d3 c (b1U u) (4-i))) id 0]))),(7,.list (ivs (zc6 lf (d3 c (b1U u) (4-i)))))] (hO i (u++[upC u c]) l o lf dv p))) (Qb i) (by lia);rw[←yik] at G;refine⟨ov [(97,.int (.ofNat (dg c (b1U u)))),(102,.int (.ofNat (upC u c)))] (dgN c (b1U u) (4-i) q),?_⟩;refine ybx (bs:=[ouS 1,ouS 2,ouS 3,ouS 4,ouS 5,ouS 6]) A (cC (A:=[ouS 1,ouS 2,ouS 3]) (B:=[ouS 4,ouS 5,ouS 6]) B (zbq (by kernel_rfl)) (by kernel_rfl) (cL E (zbq (by kernel_rfl)) (by kernel_rfl) (cL F (zbq (by kernel_rfl)) (by kernel_rfl) (cL G (zbq (by kernel_rfl)) (by kernel_rfl) ?_))));show some _=some _;rw[show eJ 13 (ouR (ov [(100,.int (.ofNat (d4 c (b1U u) (4-i))))] (ov [(97,.int (.ofNat (dg c (b1U u)))),(102,.int (.ofNat (upC u c)))] (dgN c (b1U u) (4-i) q))))=eJ 13 (ouR (ov [(97,.int (.ofNat (dg c (b1U u)))),(102,.int (.ofNat (upC u c)))] (dgN c (b1U u) (4-i) q))) from zbq (by kernel_rfl)];kernel_rfl
def zd7{a:Type}(p:a->Bool)(l:List a):Bool:=List.rec (motive:=λU=>Bool) true (λx U d=>aH (p x) d) l
theorem pP{b:Type}{p:b->Bool}:∀{l:List b},zd7 p l=true->∀x∈l,p x=true
 |[],_,x,j=>absurd j Qj
 |a::l,h,x,j=>by
  refine aI (show aH (p a) (zd7 p l)=true from h) λM B=>?_;rcases Qe j with rfl|j
  · exact M
  · exact pP B x j
noncomputable def eF{a:Type}(p:a->Bool)(l:List a):Bool:=List.rec (motive:=λU=>Bool) false (λx U d=>cs (p x) true d) l
theorem uD{b:Type}{p:b->Bool}:∀{l:List b},eF p l=true->∃x∈l,p x=true
 |[],h=>nomatch h
 |a::l,h=>by
  have h:cs (p a) true (eF p l)=true:=h;cases e:p a with
  |true=>exact⟨a,.head _,e⟩
  |false=>rw[e] at h;obtain⟨x,M,B⟩:=uD h;exact⟨x,.tail _ M,B⟩
def Tn(n:Nat):List LN:=byO (nth [[[]],[[0]],[[0,0],[0,1]],[[0,0,0],[0,0,2],[0,1,0],[0,1,1],[0,1,2]],zei] n) id []
noncomputable def ylk{b a:Type}(f:b->List a)(l:List b):List a:=List.rec (motive:=λU=>List a) [] (λx U d=>f x++d) l
noncomputable def On(n:Nat):List (List Nat×LN):=Nat.rec (motive:=λU=>List (List Nat×LN)) [([],[1,2,3,4])] (λU d=>ylk (λx=>mp (λk=>(x.1++[byO (nth x.2 k) id 0],zc6 x.2 k)) (aC (len x.2) 0)) d) n
noncomputable def iT(u:LN)(n:Nat):Nat->LN:=Nat.rec (motive:=λU=>Nat->LN) (λU=>[]) (λU d k=>cs (Nat.beq k 0) [] (d (byO (nth (0::u) k) id 0)++[k])) n
def stU(i:Nat)(u:LN)(k:Nat):Bool:=aH (eF (λx:Nat×List Nat×Nat=>aH (Nat.beq x.1 i) (aH (leq x.2.1 u) (Nat.beq x.2.2 k))) trs) (eF (leq (u++[upF u k])) (Tn (i+1)))
theorem yle:aP 4 (λi=>zd7 (λu=>aP (b1U u) λk=>stU i u k) (Tn i))=true:=by kernel_rfl
def stO(i:Nat)(x:List Nat×LN)(k:Nat):Bool:=aH (eF (λy:List Nat×List Nat×Nat=>aH (leq y.1 x.1) (aH (leq y.2.1 x.2) (Nat.beq y.2.2 k))) ops) (aH (Nat.beq (len x.1) i) (eF (λy:List Nat×LN=>aH (leq y.1 (x.1++[byO (nth x.2 k) id 0])) (leq y.2 (zc6 x.2 k))) (On (i+1))))
theorem ylh:aP 4 (λi=>zd7 (λx=>aP (4-i) λk=>stO i x k) (On i))=true:=by kernel_rfl
theorem zvf{i k:Nat}{u:LN}(j:i<4)(f:u∈Tn i)(h:k<b1U u):(i,u,k)∈trs/\u++[upF u k]∈Tn (i+1):=by
 refine aI (aG (pP (aG yle i j) u f) k h) λM B=>?_;obtain⟨x,n,e⟩:=uD M;refine aI e λa e=>?_;refine aI e λb c=>?_;obtain⟨y,m,l⟩:=uD B;constructor
 · rw[←aN a,←cN b,←aN c];exact n
 · rw[cN l];exact m
theorem zvg{i k:Nat}{x:List Nat×LN}(l:i<4)(j:x∈On i)(h:k<4-i):(x.1,x.2,k)∈ops/\len x.1=i/\(x.1++[byO (nth x.2 k) id 0],zc6 x.2 k)∈On (i+1):=by
 refine aI (aG (pP (aG ylh i l) x j) k h) λM B=>?_;refine aI B λB A=>?_;obtain⟨y,o,f⟩:=uD M;refine aI f λa f=>?_;refine aI f λb c=>?_;obtain⟨z,n,m⟩:=uD A;refine aI m λd e=>?_;refine⟨?_,aN B,?_⟩
 · rw[←cN a,←cN b,←aN c];exact o
 · rw[←cN d,←cN e];exact n
theorem za7:∀(a:LN) (x:Nat),cP (a++[x])=cP a++repN [32] x++[9]
 |[],x=>rfl
 |r::a,x=>by show repN [32] r++(9::cP (a++[x]))=(repN [32] r++(9::cP a))++repN [32] x++[9];rw[za7 a x];show repN [32] r++([9]++(cP a++repN [32] x++[9]))=(repN [32] r++([9]++cP a))++repN [32] x++[9];simp only[List.append_assoc]
theorem ylg:mp (λx:Nat×List Nat×Nat=>aH (aP (x.1+1) λj=>leq (iT (x.2.1++[upF x.2.1 x.2.2]) 5 j) (iT x.2.1 5 j)) (aH (leq (iT (x.2.1++[upF x.2.1 x.2.2]) 5 (x.1+1)) (iT x.2.1 5 (upF x.2.1 x.2.2)++[x.1+1])) (aH (Nat.ble (upF x.2.1 x.2.2) x.1) (Nat.ble (len (iT x.2.1 5 (upF x.2.1 x.2.2))) 3)))) trs=mp (λU=>true) trs:=by kernel_rfl
theorem yk6:aP 40 (λi=>aP 3 λr=>aH (aM (len (cP (rsI i))+len (repN [32] r))) (aM (len (cP (rsI i)++repN [32] r)+1)))=true:=by kernel_rfl
noncomputable def Inv(i:Nat)(u:LN)(r:Nat->Nat)(l:Nat->LN):Prop:=∀j,j≤i->l j=cP (mp r (iT u 5 j))
theorem zv2(b:∀j,r j<3)(h:Inv i u r l)(m:(i,u,k)∈trs):aM (len (l (upF u k))+len (repN [32] (r (i+1))))=true/\aM (len (l (upF u k)++repN [32] (r (i+1)))+1)=true/\Inv (i+1) (u++[upF u k]) r (at1 (i+1) (l (upF u k)++repN [32] (r (i+1))++[9]) l):=by
 refine aI (gQ ylg _ m) λM B=>?_;refine aI B λB A=>?_;refine aI A λA a=>?_;have M:aP (i+1) (λj=>leq (iT (u++[upF u k]) 5 j) (iT u 5 j))=true:=M;have B:iT (u++[upF u k]) 5 (i+1)=iT u 5 (upF u k)++[i+1]:=cN B;have A:upF u k≤i:=Qa A;have a:len (iT u 5 (upF u k))≤3:=Qa a;obtain⟨e,n⟩:=uV (kQ b (iT u 5 (upF u k))) (by rw[cZ];exact a);have f:=aG (aG yk6 _ n) _ (b (i+1));rw[e,←h _ A] at f;refine aI f λp o=>?_;refine⟨p,o,λj c=>?_⟩;show cs (Nat.beq j (i+1)) _ (l j)=_;cases z:Nat.beq j (i+1) with
 |true=>rw[aN z,B,tA];show l (upF u k)++repN [32] (r (i+1))++[9]=cP (mp r (iT u 5 (upF u k))++[r (i+1)]);rw[za7,h _ A]
 |false=>
  have:j≠i+1:=λe=>by rw[e,Nat.beq_refl] at z;cases z
  have c:j<i+1:=by lia
  rw[cN (aG M j c)];exact h j (by lia)
def Uc(c:Nat->Int)(n:Nat):LN:=Nat.rec (motive:=λU=>LN) [] (λi u=>u++[upC u (c i)]) n
def Rc(c:Nat->Int)(j:Nat):Nat:=d2 (c (j-1)) (b1U (Uc c (j-1)))
def Xc(c:Nat->Int)(n:Nat):List Nat×LN:=Nat.rec (motive:=λU=>List Nat×LN) ([],[1,2,3,4]) (λi x=>(x.1++[byO (nth x.2 (d3 (c i) (b1U (Uc c i)) (4-i))) id 0],zc6 x.2 (d3 (c i) (b1U (Uc c i)) (4-i)))) n
def Lc(c:Nat->Int)(n:Nat):Nat->LN:=Nat.rec (motive:=λU=>Nat->LN) (λU=>[]) (λi l=>at1 (i+1) (l (upC (Uc c i) (c i))++repN [32] (Rc c (i+1))++[9]) l) n
def Dc(c:Nat->Int)(n:Nat):Nat->V:=Nat.rec (motive:=λU=>Nat->V) (λU=> .none) (λi d=>atV i (.int (.ofNat (d4 (c i) (b1U (Uc c i)) (4-i)))) d) n
def hC(c:Nat->Int)(i:Nat)(p:Nat->O):Hp:=hpm 8 (hO i (Uc c i) (Lc c i) (Xc c i).1 (Xc c i).2 (Dc c i) p)
section
variable(c:Nat->Int)
theorem zo5(j:Nat):Rc c j<3:=(eD _ (by lia)).2
theorem zoq(u:LN):0<b1U u:=by unfold b1U;lia
theorem ycc:∀{i:Nat},i<5->Uc c i∈Tn i/\Xc c i∈On i/\Inv i (Uc c i) (Rc c) (Lc c i)
 |0,_=>⟨.head _,.head _,λj k=>by
  have:j=0:=by lia
  subst this;rfl⟩
 |i+1,h=>by obtain⟨M,B,A⟩:=ycc (i:=i) (by lia);obtain⟨f,e⟩:=zvf (i:=i) (by lia) M (eD (c i) (zoq _)).2;obtain⟨_,_,a⟩:=zvg (i:=i) (by lia) B (eD (Int.fdiv (Int.fdiv (c i) (.ofNat (b1U (Uc c i)))) 3) (b:=4-i) (by lia)).2;exact⟨e,a,(zv2 (zo5 c) A f).2.2⟩
theorem oTc(h:i<4)(q:Nat->V)(p:Nat->O):∃e,aX cxS ouT (exs cxS ouB) (.int (c i)) (eJ (n13 i 7) (ouR q)) (hC c i p)=some (.next,eJ 13 (ouR e),hC c (i+1) p):=by obtain⟨M,B,A⟩:=ycc c (i:=i) (by lia);obtain⟨a,m⟩:=zvf h M (eD (c i) (zoq _)).2;obtain⟨j,f,_⟩:=zvg h B (eD (Int.fdiv (Int.fdiv (c i) (.ofNat (b1U (Uc c i)))) 3) (b:=4-i) (by lia)).2;obtain⟨l,k,_⟩:=zv2 (zo5 c) A a;exact oT h a j f l k
noncomputable def c4(c:Nat->Int):List V:=[.int (c 0),.int (c 1),.int (c 2),.int (c 3)]
theorem ou0(q:Nat->V)(p:Nat->O):ex cxS (byO (nth bD 0) id (.pass 0)) [(96,.ref 1)] (hpm 2 (ov [(1,.list (c4 c))] p))=some (.next,eJ 7 (ouR q),hC c 0 (ov [(1,.list (c4 c))] p)):=by kernel_rfl
theorem zyq(i:Nat)(p:Nat->O):nth (hC c i (ov [(1,.list (c4 c))] p)) 1=some (.list (c4 c)):=by kernel_rfl
theorem zro(p:Nat->O):body cxS bD [(96,.ref 1)] (hpm 2 (ov [(1,.list (c4 c))] p))=some (.v (.tup [.ref 2,.ref 4,.ref 5,.ref 6]),hC c 4 (ov [(1,.list (c4 c))] p)):=by
 have T:=λi (h:i<4) q=>oTc c h q (ov [(1,.list (c4 c))] p);obtain⟨f,y⟩:=T 0 (by lia) (λU=> .none);obtain⟨e,w⟩:=T 1 (by lia) f;obtain⟨b,u⟩:=T 2 (by lia) e;obtain⟨a,t⟩:=T 3 (by lia) b;have n:=λi=>zyq c i p;have z:ex cxS (byO (nth bD 1) id (.pass 0)) (eJ 7 (ouR λU=> .none)) (hC c 0 (ov [(1,.list (c4 c))] p))=some (.next,eJ 13 (ouR a),hC c 4 (ov [(1,.list (c4 c))] p)):=by refine(ya2 (cx:=cxS) (x:=96) (r:=1) (by kernel_rfl) (n 0)).trans ?_;show bd (bR (aX cxS ouT (exs cxS ouB)) (4+1) (.live 1 0) (eJ (n13 0 7) (ouR λU=> .none)) (hC c 0 (ov [(1,.list (c4 c))] p))) (iQ (exs cxS []))=_;have s:=rX (k:=4) (i:=0) (n 0) rfl y;have o:=rX (k:=3) (i:=1) (n 1) rfl w;have m:=rX (k:=2) (i:=2) (n 2) rfl u;have l:=rX (k:=1) (i:=3) (n 3) rfl t;have j:=zfl (F:=aX cxS ouT (exs cxS ouB)) (fl:=eJ 13 (ouR a)) (k:=0) (i:=4) (n 4) rfl;rw[s.trans (o.trans (m.trans (l.trans j)))];rfl
 show bd (exs cxS [byO (nth bD 0) id (.pass 0),byO (nth bD 1) id (.pass 0),byO (nth bD 2) id (.pass 0)] _ _) xT=_;rw[nT (ou0 c (λU=> .none) p),nT z];kernel_rfl
theorem zos{b:Type}{x:b}:∀{l:List b},x∈l->∃i,i<len l/\nth l i=some x
 |[],h=>absurd h Qj
 |a::l,h=>by
  rcases Qe h with rfl|h
  · exact⟨0,Qn _,rfl⟩
  · obtain⟨i,M,B⟩:=zos h
    exact⟨i+1,Nat.succ_lt_succ M,B⟩
theorem onT:mp (λx:List Nat×LN=>x.1) (On 4)=zyr:=by kernel_rfl
theorem zk5{b e:Type}(f:b->e):∀{l:List b} {x:b},x∈l->f x∈mp f l
 |a::l,x,h=>by
  rcases Qe h with rfl|h
  · exact .head _
  · exact .tail _ (zk5 f h)
noncomputable def lB(c:Nat->Int):List V:=[.int (c 0),.int (c 1),.int (c 2),.int (c 3),.int (c 4)]
theorem yja(q:Nat->V)(p:Nat->O):∃(t o:Nat) (r w:Nat->Nat) (h:Nat->O),t<14/\o<24/\(∀j,r j<3)/\(∀j,w j<30)/\exs cxL (seg 1 1) (frm 1 (ov [(96,.ref 0)] q)) (hpm 1 (ov [(0,.list (lB c))] p))=
 some (.next,frm 5 (ov [(96,.ref 0),(89,.ref 2),(91,.ref 4),(92,.ref 5),(93,.ref 6)] q),hpm 8 (ov [(0,.list (lB c)),(2,gG (aW t)),(4,.list (mp (λj=>V.str (cP (rlT t r j))) (aC 5 0))),(5,.list (ivs (gM o))),(6,.list (mp (λj=>V.int (.ofNat (w j))) (aC 4 0)))] h)):=by
 obtain⟨M,a,A⟩:=ycc c (i:=4) (by lia);obtain⟨t,k,b⟩:=zos (show Uc c 4∈zei from M);have b:aW t=Uc c 4:=by show byO (nth zei t) id []=_;rw[b];rfl
 have a:=zk5 (λx:List Nat×LN=>x.1) a;rw[onT] at a;obtain⟨o,l,f⟩:=zos a;have f:gM o=(Xc c 4).1:=by show byO (nth zyr o) id []=_;rw[f];rfl
 have m:mp (λj=>V.str (Lc c 4 j)) (aC 5 0)=mp (λj=>V.str (cP (rlT t (Rc c) j))) (aC 5 0):=sZ λj n=>by have:=ziu n;rw[A j (by lia),←b];rfl
 have B:=zro c (ov [(0,.list (lB c))] p);refine⟨t,o,Rc c,λj=>d4 (c j) (b1U (Uc c j)) (4-j),hO 4 (Uc c 4) (Lc c 4) (Xc c 4).1 (Xc c 4).2 (Dc c 4) (ov [(1,.list (c4 c))] (ov [(0,.list (lB c))] p)),k,l,zo5 c,λj=>(eD _ (by lia)).2,?_⟩;rw[b,f,←m];have e:exs cxL (seg 1 1) (frm 1 (ov [(96,.ref 0)] q)) (hpm 1 (ov [(0,.list (lB c))] p))=bd (bd (body cxS bD [(96,.ref 1)] (hpm 2 (ov [(1,.list (c4 c))] (ov [(0,.list (lB c))] p)))) λr=>goN (hY [89,91,92,93] r.1 (frm 1 (ov [(96,.ref 0)] q)) r.2)) λw=>nx w (some (.next,w.2.1,w.2.2)):=by kernel_rfl
 rw[e,B];kernel_rfl
end
def s5:FS:=byO (nth (hU 4) 0) id (.pass 0)
def q5(k w:Nat)(q:Nat->V):Nat->V:=ov [(31,.int (.ofNat k)),(91,.ref 4),(122,.int (.ofNat w)),(127,.ref 8)] q
def h5(k:Nat)(l s:Nat->LN)(p:Nat->O):Hp:=hpm 10 (ov [(4,.list (mp (λj=>V.str (l j)) (aC 5 0))),(8,.inst 184 [(30,.ref 9)]),(9,.list (sN s k))] p)
theorem n5a(w:Nat)(q:Nat->V)(J:Hp):mp (λk=>bW cxL (fC 4) (.v (.int (.ofNat k))) (frm (cs (Nat.beq k 0) 14 15) (ov [(91,.ref 4),(122,.int (.ofNat w)),(127,.ref 8)] q)) J) (aC 5 0)=mp (λk=>some (frm 15 (q5 k w q),J)) (aC 5 0):=by kernel_rfl
theorem n5l(w:Nat)(l s:Nat->LN)(q:Nat->V)(p:Nat->O):mp (λk=>ev cxL (frm 15 (q5 k w q)) (kid (rhs s5) [2,0,0]) (h5 k l s p)) (aC 5 0)=mp (λk=>some (.v (.str (l k)),h5 k l s p)) (aC 5 0):=by kernel_rfl
theorem n5w(k:Nat)(l s:Nat->LN)(q:Nat->V)(p:Nat->O):mp (λw=>ev cxL (frm 15 (q5 k w q)) (kid (rhs s5) [2,0,1]) (h5 k l s p)) (aC 3 0)=mp (λw=>some (.v (.str (repN [32] w)),h5 k l s p)) (aC 3 0):=by kernel_rfl
theorem n5n(w:Nat)(l s:Nat->LN)(q:Nat->V)(p:Nat->O):mp (λk=>ev cxL (frm 15 (q5 k w q)) (kid (rhs s5) [1]) (h5 k l s p)) (aC 5 0)=mp (λk=>some (.v (.str [97+k]),h5 k l s p)) (aC 5 0):=by kernel_rfl
theorem n5s(l s:Nat->LN)(p:Nat->O)(T:LN):mp (λk=>SL 181 [.v (.ref 8),.v (.str [97+k]),.v (.str T)] [] (h5 k l s p)) (aC 5 0)=mp (λk=>ifb (okc okV T) (ifb (aM (len (aT [59,32] [T]))) (some (.v .none,hpm 10 (ov [(4,.list (mp (λj=>V.str (l j)) (aC 5 0))),(8,.inst 184 [(30,.ref 9)]),(9,.list (sN s k++[.tup [.str [97+k],.str (aT [59,32] [T])]]))] p))))) (aC 5 0):=by kernel_rfl
theorem yft(a T:LN):aT a [T]=T:=by first|rfl|(show T++[]=T;exact List.append_nil T)
theorem zrf(s:Nat->LN)(k:Nat):sN s k++[.tup [.str [97+k],.str (s k)]]=sN s (k+1):=by show mp _ (aC k 0)++_=mp _ (aC (k+1) 0);rw[vH,Nat.zero_add]
theorem n5t(q:Nat->V)(p:Nat->O)(i:k<5)(h:w<3)(D:l k++repN [32] w++[120]=s k)(f:aM (len (l k)+len (repN [32] w))=true)(e:aM (len (l k++repN [32] w)+1)=true)(a:okc okV (s k)=true)(c:aM (len (s k))=true):
 aX cxL (fC 4) (exs cxL (hU 4)) (.int (.ofNat k)) (frm (cs (Nat.beq k 0) 14 15) (ov [(91,.ref 4),(122,.int (.ofNat w)),(127,.ref 8)] q)) (h5 k l s p)=some (.next,frm 15 (q5 k w q),h5 (k+1) l s p):=by
 show bd (bW cxL (fC 4) _ _ _) _=_;rw[aU (n5a w q (h5 k l s p)) (Nat.zero_le k) (by lia)];have A:=aU (n5l w l s q p) (Qb k) (by lia);have B:=aU (n5w k l s q p) (Qb w) (by lia);have N:=aU (n5n w l s q p) (Qb k) (by lia);have C:=bS (p:=4346431) (b:=kid (rhs s5) [2,1]) (t:=[120]) (bS (p:=4346425) A B f) (by kernel_rfl) e;rw[D] at C;have M:=dL (cx:=cxL) (x:=129) (o:=kid (rhs s5) [0]) (y:= .v (.ref 8)) (m:= .fn 181 (.ref 8)) (kp:=[]) (ap:=4342807) (q:=4342848) (fl:=frm 15 (q5 k w q)) (hp:=h5 k l s p) (hp1:=h5 k l s p) (by kernel_rfl) (by kernel_rfl) (iG N (bU C));have S:=aU (n5s l s p (s k)) (Qb k) (by lia);rw[yft,a,c,zrf] at S;have X:=ztd (p:=4342848) (M.trans S);show exs cxL [s5] _ _=_;exact cL (bs:=[]) X rfl rfl rfl
theorem zsd:aP 121 (λi=>aP 3 λw=>aH (okc okV (txt (rsI i) w [])) (aM (len (txt (rsI i) w []))))=true:=by kernel_rfl
theorem yi9(l:t<14)(h:w<3)(m:∀j,r j<3)(q:Nat->V)(p:Nat->O):exs cxL (seg 4 1) (frm 14 (ov [(91,.ref 4),(122,.int (.ofNat w)),(127,.ref 8)] q)) (h5 0 (λj=>cP (rlT t r j)) (sT t r w) p)=
 some (.next,frm 15 (q5 4 w q),h5 5 (λj=>cP (rlT t r j)) (sT t r w) p):=by
 have T:∀k,k<5->∀q:Nat->V,aX cxL (fC 4) (exs cxL (hU 4)) (.int (.ofNat k)) (frm (cs (Nat.beq k 0) 14 15) (ov [(91,.ref 4),(122,.int (.ofNat w)),(127,.ref 8)] q)) (h5 k (λj=>cP (rlT t r j)) (sT t r w) p)=some (.next,frm 15 (q5 k w q),h5 (k+1) (λj=>cP (rlT t r j)) (sT t r w) p):=λk i q=>by
  have n:len (rlT t r k)≤4:=by rw[rlT,cZ];exact Qa (aG (aG zey t l) k i)
  obtain⟨e,a⟩:=zsn (kQ m (eX t k)) n;have e:rsI (ixR (rlT t r k))=rlT t r k:=e;have a:ixR (rlT t r k)<121:=a;have f:=aG (aG zv6 _ a) w h;have g:=aG (aG zsd _ a) w h;rw[e] at f g;refine aI f λv f=>?_
  refine aI f λu z=>?_;refine aI g λs o=>?_;exact n5t q p i h (by rw[←show ldT (rlT t r k) w++[120]=sT t r w k from zcm _ _ _];rfl) v u s o
 have e:∀(fl:L) (J:Hp),exs cxL (seg 4 1) fl J=bd (bd (bR (aX cxL (fC 4) (exs cxL (hU 4))) 6 (.items [.int (.ofNat 0),.int (.ofNat 1),.int (.ofNat 2),.int (.ofNat 3),.int (.ofNat 4)]) fl J) (iQ (exs cxL []))) λw=>nx w (some (.next,w.2.1,w.2.2)):=λfl J=>by kernel_rfl
 have c:∀k:Nat,k<5->frm 15 (q5 k w q)=frm 15 (ov [(91,.ref 4),(122,.int (.ofNat w)),(127,.ref 8)] (q5 k w q)):=λk U=>by kernel_rfl
 have x:∀k j:Nat,frm 15 (q5 j w (q5 k w q))=frm 15 (q5 j w q):=λk j=>by kernel_rfl
 have b:∀k,k<4->aX cxL (fC 4) (exs cxL (hU 4)) (.int (.ofNat (k+1))) (frm 15 (q5 k w q)) (h5 (k+1) (λj=>cP (rlT t r j)) (sT t r w) p)=some (.next,frm 15 (q5 (k+1) w q),h5 (k+2) (λj=>cP (rlT t r j)) (sT t r w) p):=λk i=>by have:=T (k+1) (by lia) (q5 k w q);rw[x] at this;rw[c k (by lia)];exact this
 have y:aX cxL (fC 4) (exs cxL (hU 4)) (.int (.ofNat 0)) (frm 14 (ov [(91,.ref 4),(122,.int (.ofNat w)),(127,.ref 8)] q)) (h5 0 (λj=>cP (rlT t r j)) (sT t r w) p)=some (.next,frm 15 (q5 0 w q),h5 1 (λj=>cP (rlT t r j)) (sT t r w) p):=T 0 (by lia) q;rw[e,eC y,eC (b 0 (by lia)),eC (b 1 (by lia)),eC (b 2 (by lia)),eC (b 3 (by lia))];rfl
noncomputable def lS(r:LN)(k:Nat):Nat:=List.rec (motive:=λU=>Nat->Nat) (λi=>i) (λx U d i=>cs (Nat.beq x k) i (d (i+1))) r 0
noncomputable def yiq(a ring:LN)(k:Nat):Nat×Nat:=byO (nth (0::a) k) (λu=>cs (Nat.ble (lS ring k) (lS ring u)) (lS ring k,lS ring u) (lS ring u,lS ring k)) (0,0)
noncomputable def fX(x:Nat×Nat):V:= .tup [.int (.ofNat x.1),.int (.ofNat x.2)]
noncomputable def cnt(f:Nat×Nat->Nat)(p:Nat)(l:List (Nat×Nat)):Nat:=List.rec (motive:=λU=>Nat) 0 (λx U d=>cs (Nat.beq (f x) p) (d+1) d) l
noncomputable def mJ(a:List (Nat×Nat))(p:Nat):Nat:=cnt (·.2) p a
noncomputable def mN(a:List (Nat×Nat))(p:Nat):Nat:=cnt (·.1) p a
noncomputable def bE{a:Type}(f:Nat->List a)(l:LN):List a:=List.rec (motive:=λU=>List a) [] (λx U d=>f x++d) l
def oR(a:List (Nat×Nat)):LN:=bE (λp=>repN [41] (mJ a p)++repN [40] (mN a p)) [0,1,2,3,4]
def sU(a:List (Nat×Nat)):LN:=bE (λp=>repN [p] (mJ a p+mN a p)) [0,1,2,3,4]
noncomputable def yT:List (Nat×LN):=[(0,[0,4,3,2,1]),(0,[0,3,4,2,1]),(0,[0,4,2,3,1]),(0,[0,2,4,3,1]),(0,[0,3,2,4,1]),(0,[0,2,3,4,1]),(0,[0,4,3,1,2]),(0,[0,3,4,1,2]),(0,[0,4,1,3,2]),(0,[0,1,4,3,2]),(0,[0,3,1,4,2]),(0,[0,1,3,4,2]),(0,[0,4,2,1,3]),(0,[0,2,4,1,3]),(0,[0,4,1,2,3]),(0,[0,1,4,2,3]),(0,[0,2,1,4,3]),(0,[0,1,2,4,3]),(0,[0,3,2,1,4]),(0,[0,2,3,1,4]),(0,[0,3,1,2,4]),(0,[0,1,3,2,4]),(0,[0,2,1,3,4]),(0,[0,1,2,3,4]),(1,[0,3,4,2,1]),(1,[0,4,3,2,1]),(1,[0,2,3,4,1]),(1,[0,2,4,3,1]),(1,[0,3,4,1,2]),(1,[0,4,3,1,2]),(1,[0,1,3,4,2]),(1,[0,1,4,3,2]),(1,[0,2,1,3,4]),(1,[0,1,2,3,4]),(1,[0,2,1,4,3]),(1,[0,1,2,4,3]),(2,[0,4,2,3,1]),(2,[0,4,3,2,1]),(2,[0,3,2,4,1]),(2,[0,2,3,4,1]),(2,[0,4,1,2,3]),(2,[0,1,4,2,3]),(2,[0,4,1,3,2]),(2,[0,1,4,3,2]),(2,[0,3,2,1,4]),(2,[0,1,3,2,4]),(2,[0,2,3,1,4]),(2,[0,1,2,3,4]),(3,[0,2,4,3,1]),(3,[0,2,3,4,1]),(3,[0,3,2,4,1]),(3,[0,4,3,2,1]),(3,[0,4,2,3,1]),(3,[0,3,4,2,1]),(3,[0,1,2,4,3]),(3,[0,1,2,3,4]),(3,[0,1,3,2,4]),(3,[0,1,4,3,2]),(3,[0,1,4,2,3]),(3,[0,1,3,4,2]),(4,[0,2,3,4,1]),(4,[0,2,4,3,1]),(4,[0,3,4,2,1]),(4,[0,4,3,2,1]),(4,[0,1,2,3,4]),(4,[0,1,2,4,3]),(4,[0,1,3,4,2]),(4,[0,1,4,3,2]),(5,[0,4,3,1,2]),(5,[0,3,4,1,2]),(5,[0,4,3,2,1]),(5,[0,3,4,2,1]),(5,[0,4,2,1,3]),(5,[0,2,1,4,3]),(5,[0,3,2,1,4]),(5,[0,2,1,3,4]),(5,[0,4,1,2,3]),(5,[0,1,2,4,3]),(5,[0,3,1,2,4]),(5,[0,1,2,3,4]),(6,[0,3,4,1,2]),(6,[0,4,3,1,2]),(6,[0,3,4,2,1]),(6,[0,4,3,2,1]),(6,[0,2,1,3,4]),(6,[0,2,1,4,3]),(6,[0,1,2,3,4]),(6,[0,1,2,4,3]),(7,[0,4,1,3,2]),(7,[0,4,1,2,3]),(7,[0,4,2,1,3]),(7,[0,4,3,2,1]),(7,[0,3,2,1,4]),(7,[0,2,1,3,4]),(7,[0,4,3,1,2]),(7,[0,4,2,3,1]),(7,[0,2,3,1,4]),(7,[0,3,1,2,4]),(7,[0,1,3,2,4]),(7,[0,1,2,3,4]),(8,[0,1,4,3,2]),(8,[0,1,3,4,2]),(8,[0,1,4,2,3]),(8,[0,1,2,4,3]),(8,[0,1,3,2,4]),(8,[0,1,2,3,4]),(8,[0,2,1,4,3]),(8,[0,2,1,3,4]),(8,[0,3,2,1,4]),(8,[0,4,3,2,1]),(8,[0,4,2,1,3]),(8,[0,3,4,2,1]),(8,[0,3,1,4,2]),(8,[0,3,1,2,4]),(8,[0,2,3,1,4]),(8,[0,4,2,3,1]),(8,[0,4,3,1,2]),(8,[0,2,4,3,1]),(8,[0,4,1,3,2]),(8,[0,4,1,2,3]),(8,[0,2,4,1,3]),(8,[0,3,2,4,1]),(8,[0,3,4,1,2]),(8,[0,2,3,4,1]),(9,[0,1,3,4,2]),(9,[0,1,4,3,2]),(9,[0,1,2,3,4]),(9,[0,1,2,4,3]),(9,[0,2,1,3,4]),(9,[0,2,1,4,3]),(9,[0,3,4,2,1]),(9,[0,4,3,2,1]),(9,[0,3,4,1,2]),(9,[0,2,3,4,1]),(9,[0,4,3,1,2]),(9,[0,2,4,3,1]),(10,[0,4,1,2,3]),(10,[0,4,1,3,2]),(10,[0,4,2,3,1]),(10,[0,2,3,1,4]),(10,[0,4,3,2,1]),(10,[0,3,2,1,4]),(10,[0,1,3,2,4]),(10,[0,1,2,3,4]),(11,[0,1,4,2,3]),(11,[0,1,4,3,2]),(11,[0,1,3,2,4]),(11,[0,1,2,3,4]),(11,[0,2,3,1,4]),(11,[0,4,2,3,1]),(11,[0,3,2,1,4]),(11,[0,4,3,2,1]),(11,[0,4,1,3,2]),(11,[0,3,2,4,1]),(11,[0,4,1,2,3]),(11,[0,2,3,4,1]),(12,[0,1,2,4,3]),(12,[0,1,2,3,4]),(12,[0,1,3,2,4]),(12,[0,1,4,3,2]),(12,[0,1,4,2,3]),(12,[0,1,3,4,2]),(12,[0,2,4,3,1]),(12,[0,2,3,4,1]),(12,[0,3,2,4,1]),(12,[0,4,3,2,1]),(12,[0,4,2,3,1]),(12,[0,3,4,2,1]),(13,[0,1,2,3,4]),(13,[0,1,2,4,3]),(13,[0,1,3,4,2]),(13,[0,1,4,3,2]),(13,[0,2,3,4,1]),(13,[0,2,4,3,1]),(13,[0,3,4,2,1]),(13,[0,4,3,2,1])]
noncomputable def yX:LN:=[0,1,2,3,4,5,6,7,8,9,10,11,12,13,14,15,16,17,18,19,20,21,22,23,24,25,26,26,25,27,28,29,30,30,29,31,32,32,33,33,32,33,25,27,29,31,34,35,36,36,37,38,39,38,40,40,40,41,41,41,37,38,42,43,44,45,46,44,47,47,44,45,48,49,50,51,52,53,54,55,54,54,55,55,50,51,56,56,51,57,52,53,58,58,53,59,60,61,62,62,61,63,64,65,64,64,65,65,62,62,66,66,62,66,61,63,65,65,63,67,68,69,68,68,69,69,70,71,72,73,74,75,76,76,72,73,77,73,78,78,74,75,79,75,80,81,80,80,81,81,82,83,84,84,83,85,86,86,84,84,86,84,81,81,83,85,87,85,88,88,89,89,88,89,90,90,91,92,93,92,94,94,95,96,97,96,98,99,93,92,97,96,100,101,102,103,104,105,106,107,108,109,110,111,112,113,114,115,116,117,118,119,120,121,122,123,124,125,126,126,125,127,128,129,130,130,129,131,132,132,133,133,132,133,125,127,129,131,134,135,136,136,137,137,136,137,138,138,138,139,139,139,137,137,140,141,142,141,143,142,139,139,142,141,144,144,145,146,147,146,148,148,148,149,149,149,145,146,150,151,152,153,154,152,155,155,152,153,156,157,158,159,160,161,162,163,162,162,163,163,158,159,164,164,159,165,160,161,166,166,161,167,168,169,170,170,169,171,172,173,172,172,173,173,170,170,174,174,170,174,169,171,173,173,171,175]
def yI(i:Nat):Nat×LN:=byO (nth yT i) id (0,[])
theorem ycz:aP 336 (λi=>byO (nth yX i) (λj=>aH (Nat.blt j 176) (aH (Nat.beq (yI j).1 (i/24)) (leq (yI j).2 (vO (aW (i/24)) (gM (i%24)))))) false)=true:=by kernel_rfl
theorem yig{t o:Nat}(a:t<14)(b:o<24):∃j,j<176/\yI j=(t,vO (aW t) (gM o)):=by
 have h:=aG ycz (t*24+o) (by lia);rw[show(t*24+o)/24=t from by lia,show(t*24+o)%24=o from by lia] at h;cases e:nth yX (t*24+o) with
 |none=>rw[e] at h;cases h
 |some j=>rw[e] at h;refine aI h λM B=>?_;refine aI B λB A=>?_;exact⟨j,Qa M,Prod.ext (aN B) (cN A)⟩
def zX(t:Nat)(r:LN):List (Nat×Nat):=mp (yiq (aW t) r) [1,2,3,4]
def tyI(i:Nat):List (Nat×Nat):=zX (yI i).1 (yI i).2
def A29(q:Nat->V):L:=frm 33 (ov [(89,.ref 2),(146,.ref 25)] q)
def zre(q:Nat->V)(p:Nat->O)(i:Nat):Option (Fl×L×Hp):=exs cxL (seg 29 1) (A29 q) (hpm 29 (ov [(2,gG (aW (yI i).1)),(25,.list (ivs (yI i).2))] p))
def zth(q:Nat->V)(p:Nat->O)(i:Nat):Option (Fl×L×Hp):=some (.next,frm 34 (ov [(89,.ref 2),(146,.ref 25),(149,.ref 29)] q),hpm 30 (ov [(2,gG (aW (yI i).1)),(25,.list (ivs (yI i).2)),(29,.list (mp fX (tyI i)))] p))
theorem ydz(q:Nat->V)(p:Nat->O):mp (zre q p) (aC 60 0)=mp (zth q p) (aC 60 0):=by kernel_rfl
theorem ydy(q:Nat->V)(p:Nat->O):mp (zre q p) (aC 60 60)=mp (zth q p) (aC 60 60):=by kernel_rfl
theorem ydx(q:Nat->V)(p:Nat->O):mp (zre q p) (aC 56 120)=mp (zth q p) (aC 56 120):=by kernel_rfl
theorem yi6{i:Nat}(a:i<176)(q:Nat->V)(p:Nat->O):zre q p i=zth q p i:=by
 by_cases M:i<60
 · exact aU (ydz q p) (Qb i) (by lia)
 · by_cases h2:i<120
   · exact aU (ydy q p) (by lia) (by lia)
   · exact aU (ydx q p) (by lia) (by lia)
noncomputable def zzf(l:LN):Nat->Nat->Nat:=List.rec (motive:=λU=>Nat->Nat->Nat) (λi U=>i) (λc U a i d=>cs (Nat.beq c 40) (a (i+1) (d+1)) (cs (Nat.ble d 1) i (a (i+1) (d-1)))) l
noncomputable def zze(b a:LN)(l:LN):Nat->List (Nat×Nat):=List.rec (motive:=λU=>Nat->List (Nat×Nat)) (λU=>[]) (λc r d i=>cs (Nat.beq c 40) ((byO (nth a i) id 0,byO (nth a (zzf (c::r) i 0)) id 9)::d (i+1)) (d (i+1))) l
def pB(a:List (Nat×Nat)):List (Nat×Nat):=zze (oR a) (sU a) (oR a) 0
noncomputable def yjj:LN:=[0,24,25,26,27,32,34,48,50,51,54,56,57,60,61,62,63,64,65,66,67,80,81,82,83,100,106,108,109,124,125,126,127,128,129,130,131,132,133,134,135,156,158,159,162,164,165,168,169,170,171,172,173,174,175]
noncomputable def zyc:LN:=[0,0,0,0,0,0,0,0,0,0,0,0,0,0,0,0,0,0,0,0,0,0,0,0,1,2,3,4,1,2,3,4,5,5,6,6,3,4,2,1,5,5,6,6,2,4,1,3,7,7,8,9,8,9,10,10,11,12,11,12,13,14,15,16,17,18,19,20,5,5,6,6,4,2,4,2,3,1,3,1,21,22,23,24,22,24,21,23,10,10,11,12,9,8,11,12,9,8,7,7,25,25,25,25,25,25,26,26,27,28,27,28,26,26,27,28,27,28,26,26,27,28,27,28,29,30,31,32,33,34,35,36,37,38,39,40,17,18,19,15,20,16,14,13,31,32,30,29,37,38,39,40,34,36,33,35,41,41,42,43,42,43,44,44,45,46,45,46,47,48,49,50,51,52,53,54]
def tR(i:Nat):List (Nat×Nat):=byO (nth yjj i) tyI []
def yeo(i:Nat):Bool:=byO (nth zyc i) (λr=>aH (Nat.blt r 55) (aH (leq (oR (tyI i)) (oR (tR r))) (leq (sU (tyI i)) (sU (tR r))))) false
theorem zrl:aP 176 yeo=true:=by kernel_rfl
theorem zyb{i:Nat}(a:i<176):∃r,r<55/\oR (tyI i)=oR (tR r)/\sU (tyI i)=sU (tR r):=by
 have h:byO (nth zyc i) (λr=>aH (Nat.blt r 55) (aH (leq (oR (tyI i)) (oR (tR r))) (leq (sU (tyI i)) (sU (tR r))))) false=true:=aG zrl i a;cases e:nth zyc i with
 |none=>rw[e] at h;cases h
 |some r=>rw[e] at h;refine aI h λM B=>?_;refine aI B λB A=>?_;exact⟨r,Qa M,cN B,cN A⟩
def frI(i:Nat)(q:Nat->V):Nat->V:=ov [(117,.str (oR (tR i))),(154,.ref 39)] q
def hpI(i:Nat)(p:Nat->O):Nat->O:=ov [(39,.list (ivs (sU (tR i))))] p
def yei(q:Nat->V)(p:Nat->O)(i:Nat):Option (Fl×L×Hp):=exs cxL (seg 36 2) (frm 51 (frI i q)) (hpm 40 (hpI i p))
def ygk(q:Nat->V)(p:Nat->O)(i:Nat):Option (Fl×L×Hp):=some (.next,frm 53 (ov [(167,.ref 40),(51,.int 7)] (frI i q)),hpm 41 (ov [(40,.list (mp fX (pB (tR i))))] (hpI i p)))
theorem ydw(q:Nat->V)(p:Nat->O):mp (yei q p) (aC 55 0)=mp (ygk q p) (aC 55 0):=by kernel_rfl
def zvk(q:Nat->V)(p:Nat->O)(i:Nat):Option (Fl×L×Hp):=exs cxL (seg 39 1) (frm 53 (frI i q)) (hpm 41 p)
theorem ydv(q:Nat->V)(p:Nat->O):mp (zvk q p) (aC 55 0)=mp (λi=>some (.next,frm 53 (frI i q),hpm 41 p)) (aC 55 0):=by kernel_rfl
def frJ(i:Nat)(q:Nat->V):Nat->V:=ov [(117,.str (oR (tyI i))),(149,.ref 29),(167,.ref 40)] q
def hpJ(i:Nat)(p:Nat->O):Nat->O:=ov [(29,.list (mp fX (tyI i))),(40,.list (mp fX (pB (tyI i))))] p
def zrd(q:Nat->V)(p:Nat->O)(i:Nat):Option (Fl×L×Hp):=exs cxL (seg 38 1) (frm 53 (frJ i q)) (hpm 41 (hpJ i p))
def ztg(q:Nat->V)(p:Nat->O)(i:Nat):Option (Fl×L×Hp):=some (.next,frm 53 (frJ i q),hpm 41 (hpJ i p))
theorem ydu(q:Nat->V)(p:Nat->O):mp (zrd q p) (aC 60 0)=mp (ztg q p) (aC 60 0):=by kernel_rfl
theorem ydt(q:Nat->V)(p:Nat->O):mp (zrd q p) (aC 60 60)=mp (ztg q p) (aC 60 60):=by kernel_rfl
theorem yds(q:Nat->V)(p:Nat->O):mp (zrd q p) (aC 56 120)=mp (ztg q p) (aC 56 120):=by kernel_rfl
theorem yi3{i:Nat}(a:i<176)(q:Nat->V)(p:Nat->O):zrd q p i=ztg q p i:=by
 by_cases M:i<60
 · exact aU (ydu q p) (Qb i) (by lia)
 · by_cases h2:i<120
   · exact aU (ydt q p) (by lia) (by lia)
   · exact aU (yds q p) (by lia) (by lia)
def plB(i:Nat):FS:=byO (nth (hU 32) i) id (.pass 0)
noncomputable def n33(k a:Nat):Nat:=cs (Nat.beq k 0) a 45
def H33(k:Nat)(c:List (Nat×Nat))(R D b:Nat->V)(f:Nat)(rows a e:List V)(p:Nat->O):Hp:=hpm (35+k) (ov [(25,.list (mp R (aC 5 0))),(28,.list (mp b (aC f 0))),(29,.list (mp fX c)),(30,.list (mp D (aC 5 0))),(31,.inst 184 [(30,.ref 32)]),(32,.list rows),(33,.list a),(34+k,.list e)] p)
section
variable(tz:List (Nat×Nat))(R D wd:Nat->V)(nw:Nat)(rows wt ow:List V)(p:Nat->O)(q:Nat->V)
theorem yez(k:Nat)(a:k<5):nth (H33 k tz R D wd nw rows wt ow p) 29=some (.list (mp fX tz)):=by
 have:mp (λk=>nth (H33 k tz R D wd nw rows wt ow p) 29) (aC 5 0)=mp (λk=>some (.list (mp fX tz))) (aC 5 0):=by kernel_rfl
 exact aU this (Qb k) (by lia)
def cB(j:Nat):FE:=kid (rhs (plB 0)) [j,0]
def cSt(k j:Nat)(q:Nat->V):=eE (evM cxL (kid (cB j) [0])).1 [157] (qQ cxL (List.drop 2 (yH (cB j)))).2.1 (flr [(14,0),(157,0),(155,2)] (frm (n33 k 40) (ov [(155,.int (.ofNat k)),(149,.ref 29)] q)))
theorem p0a(y:Nat)(J:Hp):mp2 5 5 (λi j=>cSt i 0 q (fX (y,j)) J)=mp2 5 5 (λi j=>some (cs (Nat.beq j i) (some (.int 1)) none,J)):=by kernel_rfl
theorem p0b(y:Nat)(J:Hp):mp2 5 5 (λi j=>cSt i 1 q (fX (j,y)) J)=mp2 5 5 (λi j=>some (cs (Nat.beq j i) (some (.int 1)) none,J)):=by kernel_rfl
end
theorem rZ(f:Nat×Nat->Nat)(g:V->Option V)(k:Nat)(h:∀x,g (fX x)=cs (Nat.beq (f x) k) (some (.int 1)) none):∀l:List (Nat×Nat),len ((mp fX l).filterMap g)=cnt f k l
 |[]=>rfl
 |x::l=>by
  show len ((fX x::mp fX l).filterMap g)=cs (Nat.beq (f x) k) (cnt f k l+1) (cnt f k l);rw[List.filterMap_cons,h x];cases Nat.beq (f x) k with
  |true=>exact congrArg (· +1) (rZ f g k h l)
  |false=>exact rZ f g k h l
def tiN(f:Nat×Nat->Nat)(k:Nat)(v:V):Option V:=bd (vT v) λT=>bd (a2 T) λp=>bd (vI p.1) λa=>bd (vI p.2) λb=>bd (nI a) λx=>bd (nI b) λy=>cs (Nat.beq (f (x,y)) k) (some (.int 1)) none
theorem rE{c b:Type}{f:c->b}:∀{l:List c} {v:b},v∈mp f l->∃x∈l,f x=v
 |a::l,v,h=>by
  rcases Qe (show v∈f a::mp f l from h) with rfl|h
  · exact⟨a,.head _,rfl⟩
  · obtain⟨x,M,B⟩:=rE h
    exact⟨x,.tail _ M,B⟩
theorem aR(h:n≤m)(a:aM m=true):aM n=true:=Qd (Qi h (Qa a))
theorem mS(f:Nat×Nat->Nat)(k:Nat):∀l:List (Nat×Nat),cnt f k l≤len l
 |[]=>Qm _
 |x::l=>by
  show cs (Nat.beq (f x) k) (cnt f k l+1) (cnt f k l)≤len l+1;have:=mS f k l;cases Nat.beq (f x) k with
  |true=>exact Qs this
  |false=>exact Qy this
theorem p0c{k:Nat}{q:Nat->V}{a:List (Nat×Nat)}{J:Hp}(j:Nat)(o:j=0∨j=1)(n:k<5)(i:∀x∈a,x.1<5/\x.2<5)(m:len a≤100)(l:nth J 29=some (.list (mp fX a))):
 ev cxL (frm (n33 k 40) (ov [(155,.int (.ofNat k)),(149,.ref 29)] q)) (kid (rhs (plB 0)) [j]) J=some (.v (.int (.ofNat (cs (Nat.beq j 0) (mJ a k) (mN a k)))),J):=by
 have b:look (frm (n33 k 40) (ov [(155,.int (.ofNat k)),(149,.ref 29)] q)) 149=some (.ref 29):=by
  have:mp (λk=>look (frm (n33 k 40) (ov [(155,.int (.ofNat k)),(149,.ref 29)] q)) 149) (aC 5 0)=mp (λU=>some (.ref 29)) (aC 5 0):=by kernel_rfl
  exact aU this (Qb k) (by lia)
 rcases o with rfl|rfl
 · have L:len ((mp fX a).filterMap (tiN (·.2) k))=mJ a k:=rZ (·.2) (tiN (·.2) k) k (λx=>rfl) a
   have h:aM (len ((mp fX a).filterMap (tiN (·.2) k)))=true:=by rw[L];exact aR (Qi (mS _ _ _) m) rfl
   have C:=tP (cx:=cxL) (e:=kid (cB 0) [0]) (ts:=[157]) (tps:=[0]) (tp:=5116326) (ifs:=List.drop 2 (yH (cB 0))) (sc:=[(14,0),(157,0),(155,2)]) (p:=5117230) (q:=5115458) (g:=tiN (·.2) k) b l (λv c=>by obtain⟨x,M,rfl⟩:=rE c;exact bY (p0a q x.1 J) n (i x M).2) h
   refine(hH (f:= .len) (z:= .v (.int (.ofNat (len ((mp fX a).filterMap (tiN (·.2) k)))))) rfl (bU C) rfl).trans ?_;rw[L];rfl
 · have L:len ((mp fX a).filterMap (tiN (·.1) k))=mN a k:=rZ (·.1) (tiN (·.1) k) k (λx=>rfl) a
   have h:aM (len ((mp fX a).filterMap (tiN (·.1) k)))=true:=by rw[L];exact aR (Qi (mS _ _ _) m) rfl
   have C:=tP (cx:=cxL) (e:=kid (cB 1) [0]) (ts:=[157]) (tps:=[0]) (tp:=5122131) (ifs:=List.drop 2 (yH (cB 1))) (sc:=[(14,0),(157,0),(155,2)]) (p:=5123035) (q:=5121263) (g:=tiN (·.1) k) b l (λv c=>by obtain⟨x,M,rfl⟩:=rE c;exact bY (p0b q x.2 J) n (i x M).1) h
   refine(hH (f:= .len) (z:= .v (.int (.ofNat (len ((mp fX a).filterMap (tiN (·.1) k)))))) rfl (bU C) rfl).trans ?_;rw[L];rfl
theorem yjp(q:Nat->V)(a b:V):mp (λk=>bO [156,62] [a,b] (frm (n33 k 40) (ov [(155,.int (.ofNat k)),(149,.ref 29)] q))) (aC 5 0)=mp (λk=>some (frm (n33 k 42) (ov [(156,a),(62,b),(155,.int (.ofNat k)),(149,.ref 29)] q))) (aC 5 0):=by kernel_rfl
theorem p0(e:k<5)(a:∀x∈tz,x.1<5/\x.2<5)(c:len tz≤100)(b:nth hp 29=some (.list (mp fX tz))):
 ex cxL (plB 0) (frm (n33 k 40) (ov [(155,.int (.ofNat k)),(149,.ref 29)] q)) hp=some (.next,frm (n33 k 42) (ov [(156,.int (.ofNat (mJ tz k))),(62,.int (.ofNat (mN tz k))),(155,.int (.ofNat k)),(149,.ref 29)] q),hp):=
 wK (xs:=[156,62]) (mQ (hp3:=hp) (es:=yH (rhs (plB 0))) (iG (p0c 0 (.inl rfl) e a c b) (bU (p0c 1 (.inr rfl) e a c b))) rfl) (aU (yjp q _ _) (Qb k) (by lia))
section
theorem rG(f:Nat->V):∀l:LN,eF (Nat.beq x) l=true->look (mp (λx=>(x,f x)) l) x=some (f x)
 |[],h=>nomatch h
 |y::l,h=>by
  show Bool.rec (motive:=λU=>Option V) (look (mp (λx=>(x,f x)) l) x) (some (f y)) (Nat.beq y x)=some (f x);have h:cs (Nat.beq x y) true (eF (Nat.beq x) l)=true:=h;cases e:Nat.beq y x with
  |true=>rw[aN e]
  |false=>
   have:Nat.beq x y=false:=by
    cases z:Nat.beq x y with
    |false=>rfl
    |true=>rw[aN z,Nat.beq_refl] at e;cases e
   rw[this] at h;exact rG f l h
theorem fR(h:look I x=some v):ev E I (.var x p) J=some (.v v,J):=by show bd (look I x) _=_;rw[h];rfl
theorem jX(h:eF (Nat.beq x) (tk n jH)=true):ev E (frm n f) (.var x p) J=some (.v (f x),J):=fR (rG f _ h)
theorem zte(M:ev E I a J=some (.l T,e))(B:ev E I b e=some (.v (.int (.ofNat k)),c))(A:aM k=true)(f:aM (len T*k)=true):ev E I (.bin .Mult a b p) J=some (.l (repN T k),c):=by refine hI M B ?_;show orl none (bd (ifb (aM k) (some k)) λk=>orl none (ifb (aM (len T*k)) _))=_;rw[A];show orl none (orl none (ifb (aM (len T*k)) _))=_;rw[f];rfl
theorem ztf(M:ev E I a J=some (.v (.ref n),f))(B:ev E I b f=some (.l e,c))(h:nth c n=some (.list T))(i:aM (len T+len e)=true):ev E I (.bin .Add a b p) J=some (.l (T++e),c):=by refine hI M B ?_;show orl none (orl none (bd (bd (nth c n) oL) λT=>ifb (aM (len T+len e)) (some (RV.l (T++e)))))=_;rw[h];show orl none (orl none (ifb (aM (len T+len e)) _))=_;rw[i];rfl
end
theorem lz(h:a<b):a<0+b:=(Nat.zero_add b).symm▸h
noncomputable def zol:List LN:=[[],[92,40],[92,41],[92,92],[92,34]]
noncomputable def yap:List V:=[.none,.str [],.str [41],.str [34,40],.str [92],.str [92,34,41]]
def bxN(d:Nat):LN:=byO (nth zol (d%5)) id []
def hvG(g:Nat):V:=byO (nth yap g) id .none
section
variable(tz:List (Nat×Nat))(R D wd:Nat->V)(nw:Nat)(rows wt ow:List V)(p:Nat->O)(q:Nat->V)
theorem p1a:mp2 5 5 (λi j=>ev cxL (frm (n33 i 42) (ov [(155,.int (.ofNat i)),(93,.ref 30),(146,.ref 25)] q)) (kid (rhs (plB 1)) [1,0]) (H33 i tz (atV i (.int (.ofNat j)) R) D wd nw rows wt ow p))=mp2 5 5 (λi j=>some (.v (D j),H33 i tz (atV i (.int (.ofNat j)) R) D wd nw rows wt ow p)):=by kernel_rfl
theorem p2a:mp2 5 5 (λi j=>ev cxL (frm (n33 i 43) (ov [(155,.int (.ofNat i)),(93,.ref 30),(146,.ref 25)] q)) (kid (rhs (plB 2)) [1,0]) (H33 i tz (atV i (.int (.ofNat j)) R) D wd nw rows wt ow p))=mp2 5 5 (λi j=>some (.v (D j),H33 i tz (atV i (.int (.ofNat j)) R) D wd nw rows wt ow p)):=by kernel_rfl
end
theorem ykm(J:Hp):mp (λd=>qG .Mod (.v (.int (.ofNat d))) (.v (.int (.ofNat 5))) J) (aC 30 0)=mp (λd=>some (.v (.int (.ofNat (d%5))))) (aC 30 0):=by kernel_rfl
theorem ylb(J:Hp):mp (λd=>qG .FloorDiv (.v (.int (.ofNat d))) (.v (.int (.ofNat 5))) J) (aC 30 0)=mp (λd=>some (.v (.int (.ofNat (d/5))))) (aC 30 0):=by kernel_rfl
theorem yiy(J:Hp):mp (λd=>nB (.l (mp V.str zol)) (.v (.int (.ofNat (d%5)))) J) (aC 30 0)=mp (λd=>some (.v (.str (bxN d)))) (aC 30 0):=by kernel_rfl
theorem yix(J:Hp):mp (λd=>nB (.l yap) (.v (.int (.ofNat (d/5)))) J) (aC 30 0)=mp (λd=>some (.v (hvG (d/5)))) (aC 30 0):=by kernel_rfl
theorem yjo(q:Nat->V)(v:V):mp (λk=>put (frm (n33 k 42) (ov [(155,.int (.ofNat k)),(93,.ref 30),(146,.ref 25)] q)) 158 v) (aC 5 0)=mp (λk=>frm (n33 k 43) (ov [(158,v),(155,.int (.ofNat k)),(93,.ref 30),(146,.ref 25)] q)) (aC 5 0):=by kernel_rfl
theorem yjn(q:Nat->V)(v:V):mp (λk=>put (frm (n33 k 43) (ov [(155,.int (.ofNat k)),(93,.ref 30),(146,.ref 25)] q)) 159 v) (aC 5 0)=mp (λk=>frm (n33 k 44) (ov [(159,v),(155,.int (.ofNat k)),(93,.ref 30),(146,.ref 25)] q)) (aC 5 0):=by kernel_rfl
theorem zot(h:R k=v):atV k v R=R:=by
 funext j;show cs (Nat.beq j k) v (R j)=R j;cases e:Nat.beq j k with
 |false=>rfl
 |true=>rw[aN e,h];rfl
section
theorem p1(e:k<5)(c:kk<5)(f:d<30)(h:R k= .int (.ofNat kk))(i:D kk= .int (.ofNat d)):ex cxL (plB 1) (frm (n33 k 42) (ov [(155,.int (.ofNat k)),(93,.ref 30),(146,.ref 25)] q)) (H33 k tz R D wd nw rows wt ow p)=some (.next,frm (n33 k 43) (ov [(158,.str (bxN d)),(155,.int (.ofNat k)),(93,.ref 30),(146,.ref 25)] q),H33 k tz R D wd nw rows wt ow p):=by have A:=bY (p1a tz R D wd nw rows wt ow p q) e c;rw[zot h,i] at A;have B:=zdy (hp:=H33 k tz R D wd nw rows wt ow p) (a:=kid (rhs (plB 1)) [0]) (p:=5130184) (y:= .l (mp V.str zol)) (by kernel_rfl) (hI (p:=5134535) (b:= .int 5 5137223) A rfl (aU (ykm _) (Qb d) (lz f))) (aU (yiy _) (Qb d) (lz f));rw[←aU (yjo q (.str (bxN d))) (Nat.zero_le k) (lz e)];exact zb6 B
theorem p2(e:k<5)(c:kk<5)(f:d<30)(h:R k= .int (.ofNat kk))(i:D kk= .int (.ofNat d)):ex cxL (plB 2) (frm (n33 k 43) (ov [(155,.int (.ofNat k)),(93,.ref 30),(146,.ref 25)] q)) (H33 k tz R D wd nw rows wt ow p)=some (.next,frm (n33 k 44) (ov [(159,hvG (d/5)),(155,.int (.ofNat k)),(93,.ref 30),(146,.ref 25)] q),H33 k tz R D wd nw rows wt ow p):=by have A:=bY (p2a tz R D wd nw rows wt ow p q) e c;rw[zot h,i] at A;have B:=zdy (hp:=H33 k tz R D wd nw rows wt ow p) (a:=kid (rhs (plB 2)) [0]) (p:=5146445) (y:= .l yap) (by kernel_rfl) (hI (p:=5151436) (b:= .int 5 5154252) A rfl (aU (ylb _) (Qb d) (lz f))) (aU (yix _) (Qb d) (lz f));rw[←aU (yjn q (hvG (d/5))) (Nat.zero_le k) (lz e)];exact zb6 B
end
noncomputable def tX(a b:Nat)(c:LN):LN:=repN [41] a++c++repN [40] b
noncomputable def eqX(g:Nat):LN:=cs (Nat.ble 2 g) [61] []
def gI(a b:Nat)(c:LN)(g:Nat):LN:=tX a b c++[59,32,107,45]++eqX g
def vX(g:Nat):LN:=byO (sS [107,95] (hvG g)) id []
def uQ(a b:Nat)(c:LN)(g:Nat):LN:=aT [59,32] [tX a b c,vX g]
noncomputable def qR(g:Nat):LN:=byO (nth [[],[],[41],[92,34,40],[92,92],[92,92,92,34,41]] g) id []
def zva(a b:Nat)(c:LN)(g:Nat):LN:=cs (Nat.ble 2 g) (gI a b c g++[34]++qR g++[34]) (gI a b c g)
theorem zik(a b:Nat)(c:LN)(f:g<6):zva a b c g=uQ a b c g:=by
 have e:∀g,uQ a b c g=tX a b c++[59,32]++vX g:=λg=>rfl;have h:∀g,g<6->vX g=[107,45]++eqX g++cs (Nat.ble 2 g) ([34]++qR g++[34]) []:=λg f=>by
  have:mp vX (aC 6 0)=mp (λg=>[107,45]++eqX g++cs (Nat.ble 2 g) ([34]++qR g++[34]) []) (aC 6 0):=by kernel_rfl
  exact aU this (Qb g) (lz f)
 rw[e,h g f];unfold zva gI;cases Nat.ble 2 g with
 |true=>show tX a b c++[59,32,107,45]++eqX g++[34]++qR g++[34]=tX a b c++[59,32]++([107,45]++eqX g++([34]++qR g++[34]));simp only[List.append_assoc];rfl
 |false=>show tX a b c++[59,32,107,45]++eqX g=tX a b c++[59,32]++([107,45]++eqX g++[]);simp only[List.append_assoc,List.append_nil];rfl
theorem dB{c:Type}(a b:List c):len (a++b)=len a+len b:=by rw[aK,aK,aK,List.length_append]
theorem cT{a:Type}(x:a):∀n,len (repN [x] n)=n
 |0=>rfl
 |n+1=>by show len (repN [x] n)+1=_;rw[cT x n]
section
theorem tx{A i z h y w e u t:Nat}{r q:String}(H:n=44∨n=45)(C:f 156= .int (.ofNat a))(B:f 158= .str c)(g:f 62= .int (.ofNat b))(d:a≤100)(Q:b≤100)(k:len c≤100):
 ev cxL (frm n f) (.bin .Add (.bin .Add (.bin .Mult (.str r [41] A) (.var 156 i) z) (.var 158 h) y) (.bin .Mult (.str q [40] w) (.var 62 e) u) t) J=some (.v (.str (tX a b c)),J):=by
 have L:∀x,(x=156∨x=158∨x=62)->eF (Nat.beq x) (tk n jH)=true:=λx k=>by rcases H with rfl|rfl<;>rcases k with rfl|rfl|rfl<;>kernel_rfl
 have p:ev cxL (frm n f) (.var 156 i) J=some (.v (.int (.ofNat a)),J):=by rw[←C];exact jX (L _ (.inl rfl))
 have o:ev cxL (frm n f) (.var 158 h) J=some (.v (.str c),J):=by rw[←B];exact jX (L _ (.inr (.inl rfl)))
 have l:ev cxL (frm n f) (.var 62 e) J=some (.v (.int (.ofNat b)),J):=by rw[←g];exact jX (L _ (.inr (.inr rfl)))
 have j:=cT 41 a;have D:=cT 40 b;refine bS (bS (yS (s:=[41]) rfl p (aR d rfl) (aR (m:=100) (by show 1*a≤100;lia) rfl)) o (aR (m:=300) (by rw[j];lia) rfl)) (yS (s:=[40]) rfl l (aR Q rfl) (aR (m:=100) (by show 1*b≤100;lia) rfl)) (aR (m:=600) ?_ rfl);rw[dB,j,D];lia
end
section
variable(tz:List (Nat×Nat))(R D wd rv wv:Nat->V)(ow:List V)(p:Nat->O)(q:Nat->V)
def HK(k a c b:Nat)(tz:List (Nat×Nat))(R D wd rv wv:Nat->V)(ow:List V)(p:Nat->O):Hp:=H33 k tz R D wd a (mp rv (aC c 0)) (mp wv (aC b 0)) ow p
theorem p3w:mp2 5 2 (λi j=>ev cxL (frm (n33 i 44) (ov [(155,.int (.ofNat i)),(147,.ref 28),(151,.ref 31)] q)) (kid (rhs (plB 3)) [1]) (HK i (5+j) i i tz R D wd rv wv ow p))=mp2 5 2 (λi j=>some (.v (wd i),HK i (5+j) i i tz R D wd rv wv ow p)):=by kernel_rfl
theorem p3s(a:Nat)(w T:LN):mp2 5 6 (λi j=>SL 181 [.v (.ref 31),.v (.str w),.v (.str T)] [(160,.v (hvG j))] (HK i a i i tz R D wd rv wv ow p))=
 mp2 5 6 (λi j=>ifb (okc okN w) (ifb (okc okV T) (ifb (pls (mp rv (aC i 0))) (ifb (aM (len (aT [59,32] [T,vX j]))) (some (.v .none,H33 i tz R D wd a (mp rv (aC i 0)++[.tup [.str w,.str (aT [59,32] [T,vX j])]]) (mp wv (aC i 0)) ow p)))))):=by kernel_rfl
theorem p4e(f:Nat->V)(J:Hp):mp2 6 2 (λi j=>ev cxL (frm (44+j) (ov [(159,hvG i)] f)) (kid (rhs (plB 4)) [1]) J)=mp2 6 2 (λi j=>some (.v (.str (eqX i)),J)):=by kernel_rfl
theorem p5n(a c b:Nat):mp (λk=>nth (HK k a c b tz R D wd rv wv ow p) (34+k)) (aC 5 0)=mp (λU=>some (.list ow)) (aC 5 0):=by kernel_rfl
theorem p5h(b e c:Nat)(a:List V):mp (λk=>HK k b e c tz R D wd rv wv ow p++[.list a]) (aC 5 0)=mp (λk=>HK (k+1) b e c tz R D wd rv wv a (ov [(34+k,.list ow)] p)) (aC 5 0):=by kernel_rfl
theorem p5l(a c b:Nat):mp (λk=>V.ref (len (HK k a c b tz R D wd rv wv ow p))) (aC 5 0)=mp (λk=>V.ref (34+(k+1))) (aC 5 0):=by kernel_rfl
theorem p6t(f:Nat->V)(J:Hp):mp (λg=>tr cxL (frm 45 (ov [(159,hvG g)] f)) (rhs (plB 6)) J) (aC 6 0)=mp (λg=>some (Nat.blt g 2,J)) (aC 6 0):=by kernel_rfl
def p6b:List FS:=match plB 6 with| .ife _ _ b _=>b|_=>[]
theorem p6j(f:Nat->V)(J:Hp):mp (λg=>ev cxL (frm 45 (ov [(159,hvG g)] f)) (kid (rhs (byO (nth p6b 0) id (.pass 0))) [1,0,1]) J) (aC 4 2)=mp (λg=>some (.v (.str (qR g)),J)) (aC 4 2):=by kernel_rfl
theorem p6m(a b:Nat)(T:LN):mp (λk=>kC cxL (.lst 33) 0 [.v (.str T)] [] (HK (k+1) a b k tz R D wd rv wv ow p)) (aC 5 0)=mp (λk=>some (.v .none,H33 (k+1) tz R D wd a (mp rv (aC b 0)) (mp wv (aC k 0)++[.str T]) ow p)) (aC 5 0):=by kernel_rfl
end
section
theorem d5{d:Nat}(h:d<30):d/5<6:=Nat.div_lt_of_lt_mul h
theorem le1{a:Nat}(h:a<5):a≤100:=Qi (Wf h) (by decide)
theorem fq{x:Nat}{c:Nat->Bool}(a:n=44∨n=45)(h:aH (eF (Nat.beq x) (tk 44 jH)) (eF (Nat.beq x) (tk 45 jH))=true):eF (Nat.beq x) (tk n jH)=true:=by
 refine aI h λM B=>?_;rcases a with rfl|rfl
 · exact M
 · exact B
theorem xV(k:Nat):n33 k 44=44∨n33 k 44=45:=by
 unfold n33;cases Nat.beq k 0 with
 |true=>exact .inl rfl
 |false=>exact .inr rfl
theorem zki:aP 5 (λa=>aP 5 λb=>aP 30 λd=>aH (okc okV (tX a b (bxN d))) (aH (aM (len (uQ a b (bxN d) (d/5)))) (Nat.ble (len (bxN d)) 2)))=true:=by kernel_rfl
theorem zj7{f:Nat->V}(h:∀j,pl (f j)=true):∀n i,pls (mp f (aC n i))=true
 |0,_=>rfl
 |n+1,i=>by show cs (pl (f i)) (pls (mp f (aC n (i+1)))) false=true;rw[h i,zj7 h n (i+1)];rfl
theorem nH{f g:Nat->V}(h:mp f jH=mp g jH):frm n f=frm n g:=sZ λx j=>by rw[gQ h x (zcn j)]
theorem p3(m:k<5)(n:nw=5∨nw=6)(s:a<5)(r:b<5)(o:d<30)(x:wd k= .str w)(h:okc okN w=true)(y:rv k= .tup [.str w,.str (uQ a b (bxN d) (d/5))])(u:∀j,pl (rv j)=true):
 ex cxL (plB 3) (frm (n33 k 44) (ov [(155,.int (.ofNat k)),(156,.int (.ofNat a)),(62,.int (.ofNat b)),(158,.str (bxN d)),(159,hvG (d/5)),(147,.ref 28),(151,.ref 31)] q)) (HK k nw k k tz R D wd rv wv ow p)=
 some (.next,frm (n33 k 44) (ov [(155,.int (.ofNat k)),(156,.int (.ofNat a)),(62,.int (.ofNat b)),(158,.str (bxN d)),(159,hvG (d/5)),(147,.ref 28),(151,.ref 31)] q),HK k nw (k+1) k tz R D wd rv wv ow p):=by
 refine aI (aG (aG (aG zki a s) b r) d o) λt l=>?_;refine aI l λl i=>?_;have i:=Qa i;have W:=bY (p3w tz R D wd rv wv ow p (ov [(156,.int (.ofNat a)),(62,.int (.ofNat b)),(158,.str (bxN d)),(159,hvG (d/5))] q)) m (show nw-5<2 by rcases n with rfl|rfl<;>decide);rw[show 5+(nw-5)=nw from by rcases n with rfl|rfl<;>rfl,x] at W;have W:ev cxL (frm (n33 k 44) (ov [(155,.int (.ofNat k)),(156,.int (.ofNat a)),(62,.int (.ofNat b)),(158,.str (bxN d)),(159,hvG (d/5)),(147,.ref 28),(151,.ref 31)] q)) (kid (rhs (plB 3)) [1]) (HK k nw k k tz R D wd rv wv ow p)=some (.v (.str w),HK k nw k k tz R D wd rv wv ow p):=Eq.trans (by rw[nH (f:=ov [(155,.int (.ofNat k)),(156,.int (.ofNat a)),(62,.int (.ofNat b)),(158,.str (bxN d)),(159,hvG (d/5)),(147,.ref 28),(151,.ref 31)] q) (g:=ov [(155,.int (.ofNat k)),(147,.ref 28),(151,.ref 31)] (ov [(156,.int (.ofNat a)),(62,.int (.ofNat b)),(158,.str (bxN d)),(159,hvG (d/5))] q)) (by kernel_rfl)]) W;have T:ev cxL (frm (n33 k 44) (ov [(155,.int (.ofNat k)),(156,.int (.ofNat a)),(62,.int (.ofNat b)),(158,.str (bxN d)),(159,hvG (d/5)),(147,.ref 28),(151,.ref 31)] q)) (kid (rhs (plB 3)) [2]) (HK k nw k k tz R D wd rv wv ow p)=some (.v (.str (tX a b (bxN d))),HK k nw k k tz R D wd rv wv ow p):=tx (xV k) rfl rfl rfl (le1 s) (le1 r) (Qi i (by decide));have K:ev cxL (frm (n33 k 44) (ov [(155,.int (.ofNat k)),(156,.int (.ofNat a)),(62,.int (.ofNat b)),(158,.str (bxN d)),(159,hvG (d/5)),(147,.ref 28),(151,.ref 31)] q)) (kid (rhs (plB 3)) [3]) (HK k nw k k tz R D wd rv wv ow p)=some (.v (hvG (d/5)),HK k nw k k tz R D wd rv wv ow p):=jX (fq (c:=λU=>true) (xV k) (by kernel_rfl));have O:ev cxL (frm (n33 k 44) (ov [(155,.int (.ofNat k)),(156,.int (.ofNat a)),(62,.int (.ofNat b)),(158,.str (bxN d)),(159,hvG (d/5)),(147,.ref 28),(151,.ref 31)] q)) (kid (rhs (plB 3)) [0]) (HK k nw k k tz R D wd rv wv ow p)=some (.v (.ref 31),HK k nw k k tz R D wd rv wv ow p):=jX (fq (c:=λU=>true) (xV k) (by kernel_rfl));have MK:fT cxL (.v (.ref 31)) 129 (HK k nw k k tz R D wd rv wv ow p)=some (.fn 181 (.ref 31)):=by
  have:mp (λk=>fT cxL (.v (.ref 31)) 129 (HK k nw k k tz R D wd rv wv ow p)) (aC 5 0)=mp (λU=>some (.fn 181 (.ref 31))) (aC 5 0):=by kernel_rfl
  exact aU this (Qb k) (lz m)
 have M:=zhs (kn:=[160]) (kp:=[5170386]) (ap:=5162007) (q:=5162067) O MK (iG W (bU T)) (bU K);have S:=bY (p3s tz R D wd rv wv ow p nw w (tX a b (bxN d))) m (d5 o);rw[h,t,zj7 u] at S;have S:SL 181 [.v (.ref 31),.v (.str w),.v (.str (tX a b (bxN d)))] [(160,.v (hvG (d/5)))] (HK k nw k k tz R D wd rv wv ow p)=ifb (aM (len (uQ a b (bxN d) (d/5)))) (some (.v .none,H33 k tz R D wd nw (mp rv (aC k 0)++[.tup [.str w,.str (uQ a b (bxN d) (d/5))]]) (mp wv (aC k 0)) ow p)):=S;rw[l,←y] at S;have e:mp rv (aC k 0)++[rv k]=mp rv (aC (k+1) 0):=by rw[vH,Nat.zero_add]
 rw[e] at S;exact ztd (M.trans S)
end
theorem ybe(h:evs E I D J=some (c,a))(e:dT c a=some (G,b)):ev E I (.list D p) J=some (.l G,b):=by show bd (evs E I D J) _=_;rw[h];show bd (dT c a) _=_;rw[e];rfl
section
variable{bx sh rw sn:LN}
theorem p4(c:n=44∨n=45)(j:a<5)(i:b<5)(h:d<30)(s:f 156= .int (.ofNat a))(r:f 158= .str (bxN d))(q:f 62= .int (.ofNat b))(o:f 159=hvG (d/5)):
 ex cxL (plB 4) (frm n f) hp=some (.next,frm 45 (ov [(161,.str (gI a b (bxN d) (d/5)))] f),hp):=by
 refine aI (aG (aG (aG zki a j) b i) d h) λU l=>?_;have k:=Qa (aF l).2;have T:ev cxL (frm n f) (kid (rhs (plB 4)) [0,0]) hp=some (.v (.str (tX a b (bxN d))),hp):=tx c s r q (le1 j) (le1 i) (Qi k (by decide));have u:len (tX a b (bxN d))≤12:=by show len (repN [41] a++bxN d++repN [40] b)≤12;rw[dB,dB,cT,cT];lia
 have E:ev cxL (frm n f) (kid (rhs (plB 4)) [1]) hp=some (.v (.str (eqX (d/5))),hp):=by
  have:=bY (p4e f hp) (d5 h) (show n-44<2 by rcases c with rfl|rfl<;>decide);rw[show 44+(n-44)=n from by rcases c with rfl|rfl<;>rfl,←o] at this;rw[show ov [(159,f 159)] f=f from by
   funext x;show byO (cs (Nat.beq 159 x) (some (f 159)) none) id (f x)=f x;cases e:Nat.beq 159 x with
   |false=>rfl
   |true=>rw[←aN e];rfl] at this
  exact this
 have S:=bS (p:=5179360) (bS (p:=5179320) (b:= .str "; k-" [59,32,107,45] 5183800) (t:=[59,32,107,45]) T rfl (aR (m:=16) (by show len (tX a b (bxN d))+4≤16;lia) rfl)) E (aR (m:=17) (by
  rw[dB];show len (tX a b (bxN d))+4+len (eqX (d/5))≤17;have:len (eqX (d/5))≤1:=by unfold eqX;cases Nat.ble 2 (d/5)<;>decide
  lia) rfl)
 have P:put (frm n f) 161 (.str (gI a b (bxN d) (d/5)))=frm 45 (ov [(161,.str (gI a b (bxN d) (d/5)))] f):=by rcases c with rfl|rfl<;>kernel_rfl
 rw[←P];exact zb6 S
def F5(k a b:Nat)(sn sh rw:LN)(q:Nat->V):L:=frm 45 (ov [(155,.int (.ofNat k)),(156,.int (.ofNat a)),(62,.int (.ofNat b)),(161,.str sn),(153,.str sh),(117,.str rw),(154,.ref (34+k))] q)
theorem zes(f:Nat->V)(x:Nat):∀n,repN [f x] n=mp f (repN [x] n)
 |0=>rfl
 |n+1=>congrArg (f x:: ·) (zes f x n)
theorem p5(c:k<5)(y:a<5)(w:b<5)(u:len sh≤1000)(t:len sn≤1000)(r:len rw≤1000)(o:len ow≤1000):
 ex cxL (plB 5) (F5 k a b sn sh rw q) (HK k nw kr k tz R D wd rv wv ow p)=some (.next,frm 45 (ov [(153,.str (sh++sn)),(117,.str (rw++repN [41] a++repN [40] b)),(154,.ref (34+(k+1))),(155,.int (.ofNat k)),(156,.int (.ofNat a)),(62,.int (.ofNat b)),(161,.str sn)] q),HK (k+1) nw kr k tz R D wd rv wv (ow++repN [.int (.ofNat k)] (a+b)) (ov [(34+k,.list ow)] p)):=by
 have e:=cT 41 a;have f:=cT 40 b;have v:∀(x:Nat) (J:Hp) (ps:Nat),eF (Nat.beq x) (tk 45 jH)=true->ev cxL (F5 k a b sn sh rw q) (.var x ps) J=some (.v (ov [(155,.int (.ofNat k)),(156,.int (.ofNat a)),(62,.int (.ofNat b)),(161,.str sn),(153,.str sh),(117,.str rw),(154,.ref (34+k))] q x),J):=λx J ps h=>jX h;have A:ev cxL (F5 k a b sn sh rw q) (kid (rhs (plB 5)) [0]) (HK k nw kr k tz R D wd rv wv ow p)=some (.v (.str (sh++sn)),HK k nw kr k tz R D wd rv wv ow p):=bS (v 153 _ _ (by kernel_rfl)) (v 161 _ _ (by kernel_rfl)) (aR (m:=2000) (by lia) rfl);have B:ev cxL (F5 k a b sn sh rw q) (kid (rhs (plB 5)) [1]) (HK k nw kr k tz R D wd rv wv ow p)=some (.v (.str (rw++repN [41] a++repN [40] b)),HK k nw kr k tz R D wd rv wv ow p):=
  bS (bS (v 117 _ _ (by kernel_rfl)) (yS (s:=[41]) rfl (v 156 _ _ (by kernel_rfl)) (aR (m:=5) (by lia) rfl) (aR (m:=5) (by show 1*a≤5;lia) rfl)) (aR (m:=2000) (by rw[e];lia) rfl)) (yS (s:=[40]) rfl (v 62 _ _ (by kernel_rfl)) (aR (m:=5) (by lia) rfl) (aR (m:=5) (by show 1*b≤5;lia) rfl)) (aR (m:=3000) (by rw[dB,e,f];lia) rfl)
 have O:=aU (p5n tz R D wd rv wv ow p nw kr k) (Qb k) (lz c);have X:evs cxL (F5 k a b sn sh rw q) [.var 155 5205472] (HK k nw kr k tz R D wd rv wv ow p)=some ([.v (.int (.ofNat k))],HK k nw kr k tz R D wd rv wv ow p):=bU (v 155 _ _ (by kernel_rfl));have X:ev cxL (F5 k a b sn sh rw q) (.list [.var 155 5205472] 5205345) (HK k nw kr k tz R D wd rv wv ow p)=some (.l [.int (.ofNat k)],HK k nw kr k tz R D wd rv wv ow p):=by exact ybe X rfl
 have n:ev cxL (F5 k a b sn sh rw q) (.bin .Add (.var 156 5206762) (.var 62 5207794) 5206770) (HK k nw kr k tz R D wd rv wv ow p)=some (.v (.int (.ofNat (a+b))),HK k nw kr k tz R D wd rv wv ow p):=hI (v 156 _ _ (by kernel_rfl)) (v 62 _ _ (by kernel_rfl)) rfl;have C:ev cxL (F5 k a b sn sh rw q) (kid (rhs (plB 5)) [2]) (HK k nw kr k tz R D wd rv wv ow p)=some (.l (ow++repN [.int (.ofNat k)] (a+b)),HK k nw kr k tz R D wd rv wv ow p):=
  ztf (v 154 _ _ (by kernel_rfl)) (zte X n (aR (m:=10) (by lia) rfl) (aR (m:=10) (by show 1*(a+b)≤10;lia) rfl)) O (aR (m:=2000) (by rw[cT];lia) rfl)
 have j:=aU (p5h tz R D wd rv wv ow p nw kr k (ow++repN [.int (.ofNat k)] (a+b))) (Qb k) (lz c);have i:=aU (p5l tz R D wd rv wv ow p nw kr k) (Qb k) (lz c);have E:=wK (q:=317008317128) (p:=5194780) (ps:=[5194767,5195924,5196572]) (xs:=[153,117,154]) (mQ (p:=317031317128) (iG A (iG B (bU C))) (vs:=[.str (sh++sn),.str (rw++repN [41] a++repN [40] b),.ref (len (HK k nw kr k tz R D wd rv wv ow p))]) (hp3:=HK k nw kr k tz R D wd rv wv ow p++[.list (ow++repN [.int (.ofNat k)] (a+b))]) rfl) (fl2:=frm 45 (ov [(153,.str (sh++sn)),(117,.str (rw++repN [41] a++repN [40] b)),(154,.ref (len (HK k nw kr k tz R D wd rv wv ow p))),(155,.int (.ofNat k)),(156,.int (.ofNat a)),(62,.int (.ofNat b)),(161,.str sn)] q)) (by kernel_rfl);rw[j,i] at E;exact E
theorem p6(u:k<5)(w:g<6)(d:len sn≤1000)(c:wv k= .str (cs (Nat.ble 2 g) (sn++[34]++qR g++[34]) sn)):
 ex cxL (plB 6) (frm 45 (ov [(159,hvG g),(161,.str sn),(152,.ref 33)] q)) (HK (k+1) nw kr k tz R D wd rv wv ow p)=some (.next,frm 45 (ov [(159,hvG g),(161,.str sn),(152,.ref 33)] q),HK (k+1) nw kr (k+1) tz R D wd rv wv ow p):=by
 have C:=aU (p6t (ov [(161,.str sn),(152,.ref 33)] q) (HK (k+1) nw kr k tz R D wd rv wv ow p)) (Qb g) (lz w);have C:tr cxL (frm 45 (ov [(159,hvG g),(161,.str sn),(152,.ref 33)] q)) (rhs (plB 6)) (HK (k+1) nw kr k tz R D wd rv wv ow p)=some (Nat.blt g 2,HK (k+1) nw kr k tz R D wd rv wv ow p):=C;have e:mp wv (aC k 0)++[wv k]=mp wv (aC (k+1) 0):=by rw[vH,Nat.zero_add]
 have v:∀(x:Nat) (a:Hp) (ps:Nat),eF (Nat.beq x) (tk 45 jH)=true->ev cxL (frm 45 (ov [(159,hvG g),(161,.str sn),(152,.ref 33)] q)) (.var x ps) a=some (.v (ov [(159,hvG g),(161,.str sn),(152,.ref 33)] q x),a):=λx a ps h=>jX h;have MK:fT cxL (.v (.ref 33)) 0 (HK (k+1) nw kr k tz R D wd rv wv ow p)=some (.lst 33):=by
  have:mp (λk=>fT cxL (.v (.ref 33)) 0 (HK (k+1) nw kr k tz R D wd rv wv ow p)) (aC 5 0)=mp (λU=>some (.lst 33)) (aC 5 0):=by kernel_rfl
  exact aU this (Qb k) (lz u)
 have H:∀(T:LN) (n:FE) (j i r:Nat),ev cxL (frm 45 (ov [(159,hvG g),(161,.str sn),(152,.ref 33)] q)) n (HK (k+1) nw kr k tz R D wd rv wv ow p)=some (.v (.str T),HK (k+1) nw kr k tz R D wd rv wv ow p)->wv k= .str T->∀p0,ex cxL (.ex (.mcall (.var 152 p0) 0 [n] [] [] [] j i) r) (frm 45 (ov [(159,hvG g),(161,.str sn),(152,.ref 33)] q)) (HK (k+1) nw kr k tz R D wd rv wv ow p)=some (.next,frm 45 (ov [(159,hvG g),(161,.str sn),(152,.ref 33)] q),HK (k+1) nw kr (k+1) tz R D wd rv wv ow p):=λT n j i r h A p0=>by have M:=dL (kp:=[]) (ap:=j) (q:=i) (v 152 (HK (k+1) nw kr k tz R D wd rv wv ow p) p0 (by kernel_rfl)) MK (bU h);have S:=aU (p6m tz R D wd rv wv ow p nw kr T) (Qb k) (lz u);rw[←A,e] at S;rw[←A] at M;exact ztd (M.trans S)
 have o:∀(s:FS) (fl:L) (a:Hp) (y:L×Hp),ex cxL s fl a=some (.next,y)->exs cxL [s] fl a=some (.next,y):=λs fl a y h=>by rw[nT h];rfl
 cases z:Nat.ble 2 g with
 |false=>
  have f:Nat.blt g 2=true:=Qd (by
   have:¬2≤g:=λh=>by rw[Nat.ble_eq_true_of_le h] at z;cases z
   lia)
  rw[f] at C;rw[z] at c;refine(yfw C).trans (o _ _ _ (_,_) (H sn (.var 161 5229854) 5228057 5228063 5228063 (v 161 _ _ (by kernel_rfl)) c 5228050))
 |true=>
  have l:=Qa z;have f:Nat.blt g 2=false:=by
   cases y:Nat.blt g 2 with
   |false=>rfl
   |true=>have:g+1≤2:=Qa y;lia
  rw[f] at C;rw[z] at c;have J:=aU (p6j (ov [(161,.str sn),(152,.ref 33)] q) (HK (k+1) nw kr k tz R D wd rv wv ow p)) (x:=g) l (by lia);have J:ev cxL (frm 45 (ov [(159,hvG g),(161,.str sn),(152,.ref 33)] q)) (kid (rhs (byO (nth p6b 0) id (.pass 0))) [1,0,1]) (HK (k+1) nw kr k tz R D wd rv wv ow p)=some (.v (.str (qR g)),HK (k+1) nw kr k tz R D wd rv wv ow p):=J;have Q:len (qR g)≤5:=by
   have:mp (λg=>Nat.ble (len (qR g)) 5) (aC 6 0)=mp (λU=>true) (aC 6 0):=by kernel_rfl
   exact Qa (aU this (Qb g) (lz w))
  have T:=bS (p:=5262705) (b:= .str "\"" [34] 5273457) (t:=[34]) (bS (p:=5262699) (bS (p:=5262628) (b:= .str "\"" [34] 5263524) (t:=[34]) (v 161 (HK (k+1) nw kr k tz R D wd rv wv ow p) 5262622 (by kernel_rfl)) rfl (aR (m:=1001) (by show len sn+1≤1001;lia) rfl)) J (aR (m:=1010) (by rw[dB];show len sn+1+len (qR g)≤1010;lia) rfl)) rfl (aR (m:=1020) (by rw[dB,dB];show len sn+1+len (qR g)+1≤1020;lia) rfl);exact(tH C).trans (o _ _ _ (_,_) (H _ _ 5260825 5260914 5260914 T c 5260818))
end
theorem yZ{a:Type}(f:Nat->List a):∀n i:Nat,bE f (aC (n+1) i)=bE f (aC n i)++f (i+n)
 |0,i=>by show f i++[]=[]++f i;rw[List.append_nil];rfl
 |n+1,i=>by show f i++bE f (aC (n+1) (i+1))=f i++bE f (aC n (i+1))++f (i+(n+1));rw[yZ f n (i+1),List.append_assoc,show i+1+n=i+(n+1) from by lia]
theorem eQ{a:Type}{f:Nat->List a}{m:Nat}(h:∀j,len (f j)≤m):∀l:LN,len (bE f l)≤m*len l
 |[]=>Qb _
 |x::l=>by
  show len (f x++bE f l)≤m*(len l+1);rw[dB,Nat.mul_add,Nat.mul_one];have:=h x;have:=eQ h l
  lia
theorem cO:∀n i:Nat,len (aC n i)=n
 |0,_=>rfl
 |n+1,i=>congrArg (· +1) (cO n (i+1))
structure PlD where
 tz:List (Nat×Nat)
 rg:Nat->Nat
 dr:Nat->Nat
 wn:Nat->LN
 nw:Nat
 wx:Nat->V
namespace PlD
def a(x:PlD)(j:Nat):Nat:=mJ x.tz j
def b(x:PlD)(j:Nat):Nat:=mN x.tz j
noncomputable def d(x:PlD)(j:Nat):Nat:=x.dr (x.rg j)
def seen(x:PlD)(j:Nat):LN:=gI (x.a j) (x.b j) (bxN (x.d j)) (x.d j/5)
def val(x:PlD)(j:Nat):LN:=uQ (x.a j) (x.b j) (bxN (x.d j)) (x.d j/5)
noncomputable def shP(x:PlD)(k:Nat):LN:=bE x.seen (aC k 0)
noncomputable def rwP(x:PlD)(k:Nat):LN:=bE (λj=>repN [41] (x.a j)++repN [40] (x.b j)) (aC k 0)
noncomputable def owP(x:PlD)(k:Nat):LN:=bE (λj=>repN [j] (x.a j+x.b j)) (aC k 0)
noncomputable def R(x:PlD)(j:Nat):V:= .int (.ofNat (x.rg j))
noncomputable def D(x:PlD)(j:Nat):V:= .int (.ofNat (x.dr j))
noncomputable def rv(x:PlD)(j:Nat):V:= .tup [.str (x.wn j),.str (x.val j)]
noncomputable def wv(x:PlD)(j:Nat):V:= .str (x.val j)
structure ok(x:PlD):Prop where
 tz:∀y∈x.tz,y.1<5/\y.2<5
 tl:len x.tz≤4
 rg:∀j,x.rg j<5
 dr:∀j,x.dr j<30
 nw:x.nw=5∨x.nw=6
 wx:∀j,j<5->x.wx j= .str (x.wn j)
 wn:∀j,j<5->okc okN (x.wn j)=true
end PlD
def zo9(x:PlD)(k:Nat)(q:Nat->V):L:=frm (n33 k 39) (ov [(153,.str (x.shP k)),(117,.str (x.rwP k)),(154,.ref (34+k)),(147,.ref 28),(149,.ref 29),(93,.ref 30),(146,.ref 25),(151,.ref 31),(152,.ref 33)] q)
def dM(x:PlD)(k:Nat)(p:Nat->O):Hp:=HK k x.nw k k x.tz x.R x.D x.wx x.rv x.wv (ivs (x.owP k)) p
theorem b33(f:Nat->V)(J:Hp):mp (λk=>bW cxL (fC 32) (.v (.int (.ofNat k))) (frm (n33 k 39) f) J) (aC 5 0)=mp (λk=>some (frm (n33 k 40) (ov [(155,.int (.ofNat k))] f),J)) (aC 5 0):=by kernel_rfl
def q33(x:PlD)(k:Nat)(q:Nat->V):Nat->V:=ov [(159,hvG (x.d k/5)),(161,.str (x.seen k)),(152,.ref 33)] (ov [(154,.ref (34+(k+1))),(155,.int (.ofNat k)),(156,.int (.ofNat (x.a k))),(62,.int (.ofNat (x.b k)))] (ov [(158,.str (bxN (x.d k)))] q))
def p33(x:PlD)(k:Nat)(p:Nat->O):Nat->O:=ov [(34+k,.list (ivs (x.owP k)))] p
theorem t33{x:PlD}(c:x.ok){k:Nat}(h:k<5)(q:Nat->V)(p:Nat->O):aX cxL (fC 32) (exs cxL (hU 32)) (.int (.ofNat k)) (zo9 x k q) (dM x k p)=some (.next,zo9 x (k+1) (q33 x k q),dM x (k+1) (p33 x k p)):=by
 have l:∀j,x.a j<5:=λj=>Qx (Qi (mS _ _ _) c.tl);have i:∀j,x.b j<5:=λj=>Qx (Qi (mS _ _ _) c.tl);have o:∀j,x.d j<30:=λj=>c.dr _;have s:x.d k/5<6:=by have:=o k;lia
 have z:∀j,len (bxN (x.d j))≤2:=λj=>Qa (aF (aF (aG (aG (aG zki (x.a j) (l j)) (x.b j) (i j)) (x.d j) (o j))).2).2;have r:∀j,len (x.seen j)≤20:=λj=>by
  show len (repN [41] (x.a j)++bxN (x.d j)++repN [40] (x.b j)++[59,32,107,45]++eqX (x.d j/5))≤20;rw[dB,dB,dB,dB,cT,cT];have:len (eqX (x.d j/5))≤1:=by unfold eqX;cases Nat.ble 2 (x.d j/5)<;>decide
  have:=l j;have:=i j;have:=z j;show x.a j+len (bxN (x.d j))+x.b j+4+len (eqX (x.d j/5))≤20
  lia
 have y:len (x.shP k)≤1000:=by have:=eQ r (aC k 0);rw[cO] at this;show len (bE _ _)≤_;lia
 have u:len (x.rwP k)≤1000:=by have:=eQ (f:=λj=>repN [41] (x.a j)++repN [40] (x.b j)) (m:=10) (λj=>by rw[dB,cT,cT];have:=l j;have:=i j;lia) (aC k 0);rw[cO] at this;show len (bE _ _)≤_;lia
 have t:len (ivs (x.owP k))≤1000:=by have:=eQ (f:=λj=>repN [j] (x.a j+x.b j)) (m:=10) (λj=>by rw[cT];have:=l j;have:=i j;lia) (aC k 0);rw[cO] at this;show len (mp _ _)≤_;rw[cZ];show len (bE _ _)≤_;lia
 have B:=aU (b33 (ov [(153,.str (x.shP k)),(117,.str (x.rwP k)),(154,.ref (34+k)),(147,.ref 28),(149,.ref 29),(93,.ref 30),(146,.ref 25),(151,.ref 31),(152,.ref 33)] q) (dM x k p)) (Qb k) (by lia);show bd (bW cxL (fC 32) (.v (.int (.ofNat k))) (frm (n33 k 39) _) (dM x k p)) _=_;rw[B];refine cL (bs:=[plB 1,plB 2,plB 3,plB 4,plB 5,plB 6]) (p0 (k:=k) (q:=ov [(153,.str (x.shP k)),(117,.str (x.rwP k)),(154,.ref (34+k)),(147,.ref 28),(93,.ref 30),(146,.ref 25),(151,.ref 31),(152,.ref 33)] q) (tz:=x.tz) (hp:=dM x k p) h c.tz (Qi c.tl (by lia)) (yez x.tz x.R x.D x.wx x.nw _ _ _ p k h)) (nH (by kernel_rfl)) rfl ?_;refine cL (p1 (k:=k) (kk:=x.rg k) (d:=x.d k) (tz:=x.tz) (R:=x.R) (D:=x.D) (wd:=x.wx) (nw:=x.nw) (rows:=mp x.rv (aC k 0)) (wt:=mp x.wv (aC k 0)) (ow:=ivs (x.owP k)) (p:=p) (q:=ov [(156,.int (.ofNat (x.a k))),(62,.int (.ofNat (x.b k))),(153,.str (x.shP k)),(117,.str (x.rwP k)),(154,.ref (34+k)),(147,.ref 28),(149,.ref 29),(151,.ref 31),(152,.ref 33)] q) h (c.rg k) (o k) rfl rfl) (nH (by kernel_rfl)) rfl ?_;refine cL (p2 (k:=k) (kk:=x.rg k) (d:=x.d k) (tz:=x.tz) (R:=x.R) (D:=x.D) (wd:=x.wx) (nw:=x.nw) (rows:=mp x.rv (aC k 0)) (wt:=mp x.wv (aC k 0)) (ow:=ivs (x.owP k)) (p:=p) (q:=ov [(158,.str (bxN (x.d k))),(156,.int (.ofNat (x.a k))),(62,.int (.ofNat (x.b k))),(153,.str (x.shP k)),(117,.str (x.rwP k)),(154,.ref (34+k)),(147,.ref 28),(149,.ref 29),(151,.ref 31),(152,.ref 33)] q) h (c.rg k) (o k) rfl rfl) (nH (by kernel_rfl)) rfl ?_;refine cL (p3 (k:=k) (a:=x.a k) (b:=x.b k) (d:=x.d k) (tz:=x.tz) (R:=x.R) (D:=x.D) (wd:=x.wx) (nw:=x.nw) (rv:=x.rv) (wv:=x.wv) (w:=x.wn k) (ow:=ivs (x.owP k)) (p:=p) (q:=ov [(153,.str (x.shP k)),(117,.str (x.rwP k)),(154,.ref (34+k)),(149,.ref 29),(93,.ref 30),(146,.ref 25),(152,.ref 33)] q) h c.nw (l k) (i k) (o k) (c.wx k h) (c.wn k h) rfl (λj=>rfl)) (nH (by kernel_rfl)) rfl ?_;refine cL (p4 (n:=n33 k 44) (a:=x.a k) (b:=x.b k) (d:=x.d k) (hp:=HK k x.nw (k+1) k x.tz x.R x.D x.wx x.rv x.wv (ivs (x.owP k)) p) (f:=ov [(155,.int (.ofNat k)),(156,.int (.ofNat (x.a k))),(62,.int (.ofNat (x.b k))),(158,.str (bxN (x.d k))),(159,hvG (x.d k/5)),(147,.ref 28),(151,.ref 31)] (ov [(153,.str (x.shP k)),(117,.str (x.rwP k)),(154,.ref (34+k)),(149,.ref 29),(93,.ref 30),(146,.ref 25),(152,.ref 33)] q)) (xV k) (l k) (i k) (o k) rfl rfl rfl rfl) rfl rfl ?_;refine cL (p5 (k:=k) (a:=x.a k) (b:=x.b k) (sn:=x.seen k) (sh:=x.shP k) (rw:=x.rwP k) (kr:=k+1) (tz:=x.tz) (R:=x.R) (D:=x.D) (wd:=x.wx) (nw:=x.nw) (rv:=x.rv) (wv:=x.wv) (ow:=ivs (x.owP k)) (p:=p) (q:=ov [(158,.str (bxN (x.d k))),(159,hvG (x.d k/5)),(147,.ref 28),(151,.ref 31),(149,.ref 29),(93,.ref 30),(146,.ref 25),(152,.ref 33)] q) h (l k) (i k) y (Qi (r k) (by lia)) u t) (nH (by kernel_rfl)) rfl ?_;refine cL (p6 (k:=k) (g:=x.d k/5) (sn:=x.seen k) (kr:=k+1) (tz:=x.tz) (R:=x.R) (D:=x.D) (wd:=x.wx) (nw:=x.nw) (rv:=x.rv) (wv:=x.wv) (ow:=ivs (x.owP k)++repN [.int (.ofNat k)] (x.a k+x.b k)) (p:=ov [(34+k,.list (ivs (x.owP k)))] p) (q:=ov [(153,.str (x.shP k++x.seen k)),(117,.str (x.rwP k++repN [41] (x.a k)++repN [40] (x.b k))),(154,.ref (34+(k+1))),(155,.int (.ofNat k)),(156,.int (.ofNat (x.a k))),(62,.int (.ofNat (x.b k))),(158,.str (bxN (x.d k))),(147,.ref 28),(151,.ref 31),(149,.ref 29),(93,.ref 30),(146,.ref 25)] q) h s (Qi (r k) (by lia)) (congrArg V.str (zik _ _ _ s).symm)) (nH (by kernel_rfl)) rfl ?_;have Q:x.shP k++x.seen k=x.shP (k+1):=by unfold PlD.shP;rw[yZ,Nat.zero_add]
 have H:x.rwP k++repN [41] (x.a k)++repN [40] (x.b k)=x.rwP (k+1):=by unfold PlD.rwP;rw[yZ,Nat.zero_add,List.append_assoc]
 have A:ivs (x.owP k)++repN [.int (.ofNat k)] (x.a k+x.b k)=ivs (x.owP (k+1)):=by unfold PlD.owP;rw[yZ,Nat.zero_add];show _=mp _ (_++_);rw[tA,←zes (λn=>V.int (.ofNat n))];rfl
 rw[Q,H,A];show some _=some _;have e:frm 45 (ov [(159,hvG (x.d k/5)),(161,.str (x.seen k)),(152,.ref 33)] (ov [(153,.str (x.shP (k+1))),(117,.str (x.rwP (k+1))),(154,.ref (34+(k+1))),(155,.int (.ofNat k)),(156,.int (.ofNat (x.a k))),(62,.int (.ofNat (x.b k))),(158,.str (bxN (x.d k))),(147,.ref 28),(151,.ref 31),(149,.ref 29),(93,.ref 30),(146,.ref 25)] q))=zo9 x (k+1) (ov [(159,hvG (x.d k/5)),(161,.str (x.seen k)),(152,.ref 33)] (ov [(154,.ref (34+(k+1))),(155,.int (.ofNat k)),(156,.int (.ofNat (x.a k))),(62,.int (.ofNat (x.b k)))] (ov [(158,.str (bxN (x.d k)))] q))):=nH (n:=45) (by kernel_rfl);rw[e];rfl
theorem yee(a:x.ok)(q:Nat->V)(p:Nat->O):exs cxL (seg 32 1) (zo9 x 0 q) (dM x 0 p)=some (.next,zo9 x 5 (q33 x 4 (q33 x 3 (q33 x 2 (q33 x 1 (q33 x 0 q))))),dM x 5 (p33 x 4 (p33 x 3 (p33 x 2 (p33 x 1 (p33 x 0 p)))))):=by
 have e:∀(fl:L) (J:Hp),exs cxL (seg 32 1) fl J=bd (bd (bR (aX cxL (fC 32) (exs cxL (hU 32))) 6 (.items [.int (.ofNat 0),.int (.ofNat 1),.int (.ofNat 2),.int (.ofNat 3),.int (.ofNat 4)]) fl J) (iQ (exs cxL []))) λw=>nx w (some (.next,w.2.1,w.2.2)):=λfl J=>by kernel_rfl
 rw[e,eC (t33 a (k:=0) (by lia) q p),eC (t33 a (k:=1) (by lia) _ _),eC (t33 a (k:=2) (by lia) _ _),eC (t33 a (k:=3) (by lia) _ _),eC (t33 a (k:=4) (by lia) _ _)];rfl
noncomputable def vA(a:List U):LN:=List.rec (motive:=λX=>LN) [] (λu X d=>u.2++d) a
theorem nY:∀(l:LN) (i:Nat) (b:Bool) (p:Int),vA (dE l i b p)=cs b [92] []++l
 |[],i,b,p=>by cases b<;>rfl
 |c::r,i,b,p=>by
  cases b with
  |true=>show[92,c]++vA (dE r (i+1) false i)=[92]++c::r;rw[nY r];rfl
  |false=>
   show vA (cs (Nat.beq c 92) (dE r (i+1) true i) ((.ofNat i,[c])::dE r (i+1) false i))=c::r;cases z:Nat.beq c 92 with
   |true=>show vA (dE r (i+1) true i)=_;rw[nY r,aN z];rfl
   |false=>show[c]++vA (dE r (i+1) false i)=_;rw[nY r];rfl
noncomputable def sR:List U->Int->Prop
 |[],_=>True
 |u::r,last=>u.1=last+ .ofNat (len u.2)/\sR r u.1
theorem rA:∀(l:LN) (i:Nat) (b:Bool) (p last:Int),(b=true->p=(i:Int)-1)->last=(i:Int)-1-cs b 1 0->sR (dE l i b p) last
 |[],i,b,p,last,h,e=>by
  cases b with
  |true=>
   refine⟨?_,trivial⟩;show p=last+1;have:=h rfl;have e:last=(i:Int)-1-1:=e
   lia
  |false=>trivial
 |c::r,i,b,p,last,h,e=>by
  cases b with
  |true=>
   have e:last=(i:Int)-1-1:=e;refine⟨?_,rA r (i+1) false i i (λh=>nomatch h) ?_⟩
   · show(i:Int)=last+2;lia
   · show(i:Int)=((i+1:Nat):Int)-1-0;lia
  |false=>
   have e:last=(i:Int)-1-0:=e;show sR (cs (Nat.beq c 92) (dE r (i+1) true i) ((.ofNat i,[c])::dE r (i+1) false i)) last;cases z:Nat.beq c 92 with
   |true=>
    refine rA r (i+1) true i last (λU=>?_) ?_
    · lia
    · show last=((i+1:Nat):Int)-1-1;lia
   |false=>
    refine⟨?_,rA r (i+1) false i i (λh=>nomatch h) ?_⟩
    · show(i:Int)=last+1;lia
    · show(i:Int)=((i+1:Nat):Int)-1-0;lia
noncomputable def inX(x:LN):Bool:=vin (.str x) [.str [40],.str [41]]
def sgX(x:LN):LN:=cs (inX x) x []
def sgU(a:List U):LN:=List.rec (motive:=λX=>LN) [] (λu X d=>sgX u.2++d) a
noncomputable def sgG(l:LN):Bool->LN:=List.rec (motive:=λU=>Bool->LN) (λU=>[]) (λc U d b=>cs b (d false) (cs (Nat.beq c 92) (d true) (cs (Nat.beq c 40) (40::d false) (cs (Nat.beq c 41) (41::d false) (d false))))) l
theorem zl7(a b:LN):leq a b=leq b a:=by
 cases h:leq a b with
 |true=>rw[cN h];exact(kS b).symm
 |false=>
  cases g:leq b a with
  |false=>rfl
  |true=>rw[cN g,kS] at h;cases h
theorem zv4(x:LN):inX x=cs (leq x [40]) true (cs (leq x [41]) true false):=by rw[zl7 x [40],zl7 x [41]];rfl
theorem yfl(c n:Nat):leq [c] [n]=Nat.beq c n:=by show cs (Nat.beq c n) true false=_;cases Nat.beq c n<;>rfl
theorem yky(c:Nat):inX [c]=cs (Nat.beq c 40) true (Nat.beq c 41):=by rw[zv4,yfl,yfl];cases Nat.beq c 40<;>cases Nat.beq c 41<;>rfl
theorem yi0(c:Nat):sgX [c]=cs (Nat.beq c 40) [40] (cs (Nat.beq c 41) [41] []):=by
 unfold sgX;rw[yky];cases a:Nat.beq c 40 with
 |true=>rw[aN a];rfl
 |false=>
  cases b:Nat.beq c 41 with
  |true=>rw[aN b];rfl
  |false=>rfl
theorem nE:∀(l:LN) (i:Nat) (b:Bool) (p:Int),sgU (dE l i b p)=sgG l b
 |[],i,b,p=>by cases b<;>rfl
 |c::r,i,b,p=>by
  cases b with
  |true=>show sgX [92,c]++sgU (dE r (i+1) false i)=sgG r false;rw[nE r];rfl
  |false=>
   show sgU (cs (Nat.beq c 92) (dE r (i+1) true i) ((.ofNat i,[c])::dE r (i+1) false i))=cs (Nat.beq c 92) (sgG r true) (cs (Nat.beq c 40) (40::sgG r false) (cs (Nat.beq c 41) (41::sgG r false) (sgG r false)));cases z:Nat.beq c 92 with
   |true=>exact nE r (i+1) true i
   |false=>show sgX [c]++sgU (dE r (i+1) false i)=_;rw[nE r,yi0];cases Nat.beq c 40<;>cases Nat.beq c 41<;>rfl
noncomputable def ckN(l:LN):Nat->Option Nat:=List.rec (motive:=λU=>Nat->Option Nat) some (λc U d k=>cs (Nat.beq c 40) (d (k+1)) (Nat.rec (motive:=λU=>Option Nat) none (λj U=>d j) k)) l
theorem zfu:∀(c:List U) (k:Nat),ckE c k=ckN (sgU c) k
 |[],k=>rfl
 |u::r,k=>by
  show cs (leq u.2 [40]) (ckE r (k+1)) (cs (leq u.2 [41]) (Nat.rec (motive:=λX=>Option Nat) none (λj X=>ckE r j) k) (ckE r k))=ckN (sgX u.2++sgU r) k;unfold sgX;rw[zv4];cases a:leq u.2 [40] with
  |true=>rw[cN a];exact zfu r (k+1)
  |false=>
   cases b:leq u.2 [41] with
   |true=>
    rw[cN b];show _=Nat.rec (motive:=λX=>Option Nat) none (λj X=>ckN (sgU r) j) k;cases k with
    |zero=>rfl
    |succ k=>exact zfu r k
   |false=>exact zfu r k
theorem ybr(t:LN):ckP t=byO (ckN (sgG t false) 0) (λk=>Nat.beq k 0) false:=by unfold ckP;rw[zfu,nE]
theorem qY:∀(l:LN) (b:Bool) (e a:LN) (f:Option LN),cR l b (e++a) (byO f (λm=>some (e++m)) none)=e++cR l b a f
 |[],b,e,a,f=>rfl
 |c::r,b,e,a,f=>by
  have A:=λ(b:Bool) (x:Nat)=>(congrArg (λy=>cR r b y (byO f (λm=>some (e++m)) none)) (List.append_assoc e a [x])).trans (qY r b e (a++[x]) f);show cs b (cR r false (e++a++[c]) _) (cs (Nat.beq c 92) (cR r true (e++a++[92]) _) (cs (Nat.beq c 34) (byO (byO f (λm=>some (e++m)) none) (λm=>m++cR r false [] none) (cR r false (e++a++[34]) (some (e++a)))) (cR r false (e++a++[c]) _)))=e++cs b (cR r false (a++[c]) f) (cs (Nat.beq c 92) (cR r true (a++[92]) f) (cs (Nat.beq c 34) (byO f (λm=>m++cR r false [] none) (cR r false (a++[34]) (some a))) (cR r false (a++[c]) f)));cases b with
  |true=>exact A false c
  |false=>
   cases Nat.beq c 92 with
   |true=>exact A true 92
   |false=>
    cases Nat.beq c 34 with
    |false=>exact A false c
    |true=>
     cases f with
     |some m=>exact List.append_assoc e m _
     |none=>exact(congrArg (λy=>cR r false y (some (e++a))) (List.append_assoc e a [34])).trans (qY r false e (a++[34]) (some a))
theorem pcA(c:LN):mp2 5 5 (λa b=>mp (λd=>cR (uQ a b (bxN d) (d/5)++c) false [] none) (aC 30 0))=mp2 5 5 (λa b=>mp (λd=>cs (Nat.ble 2 (d/5)) (gI a b (bxN d) (d/5)++cR c false [] none) (cR c false (gI a b (bxN d) (d/5)) none)) (aC 30 0)):=by kernel_rfl
theorem pcB(c:LN):mp2 5 5 (λa b=>mp (λd=>sgG (gI a b (bxN d) (d/5)++c) false) (aC 30 0))=mp2 5 5 (λa b=>mp (λU=>repN [41] a++repN [40] b++sgG c false) (aC 30 0)):=by kernel_rfl
theorem zyn(h:a<5)(f:b<5)(e:d<30)(c:LN):cR (uQ a b (bxN d) (d/5)++c) false [] none=gI a b (bxN d) (d/5)++cR c false [] none:=by
 have:=aU (bY (pcA c) h f) (Qb d) (lz e);rw[this];cases Nat.ble 2 (d/5) with
 |true=>rfl
 |false=>have:=qY c false (gI a b (bxN d) (d/5)) [] none;rw[List.append_nil] at this;exact this
theorem yev(h:a<5)(f:b<5)(e:d<30)(c:LN):sgG (gI a b (bxN d) (d/5)++c) false=repN [41] a++repN [40] b++sgG c false:=by have:=aU (bY (pcB c) h f) (Qb d) (lz e);exact this
namespace PlD
theorem ok.la{x:PlD}(b:x.ok)(j:Nat):x.a j<5:=Qx (Qi (mS _ _ _) b.tl)
theorem ok.lb{x:PlD}(a:x.ok)(j:Nat):x.b j<5:=Qx (Qi (mS _ _ _) a.tl)
theorem ok.ld{x:PlD}(a:x.ok)(j:Nat):x.d j<30:=a.dr _
theorem ok.unq{x:PlD}(b:x.ok)(a:LN):∀l:LN,cR (bE x.val l++a) false [] none=bE x.seen l++cR a false [] none
 |[]=>rfl
 |j::l=>by show cR ((x.val j++bE x.val l)++a) false [] none=(x.seen j++bE x.seen l)++_;rw[List.append_assoc,List.append_assoc,←b.unq a l];exact zyn (b.la j) (b.lb j) (b.ld j) _
theorem ok.sg{x:PlD}(e:x.ok)(c:LN):∀l:LN,sgG (bE x.seen l++c) false=bE (λj=>repN [41] (x.a j)++repN [40] (x.b j)) l++sgG c false
 |[]=>rfl
 |j::l=>by show sgG ((x.seen j++bE x.seen l)++c) false=(repN [41] (x.a j)++repN [40] (x.b j)++bE _ l)++_;rw[List.append_assoc,List.append_assoc,←e.sg c l];exact yev (e.la j) (e.lb j) (e.ld j) _
theorem ok.lval{x:PlD}(c:x.ok)(j:Nat):len (x.val j)≤40:=by
 have:aP 5 (λa=>aP 5 λb=>aP 30 λd=>Nat.ble (len (uQ a b (bxN d) (d/5))) 40)=true:=by kernel_rfl
 exact Qa (aG (aG (aG this _ (c.la j)) _ (c.lb j)) _ (c.ld j))
end PlD
theorem kT{a:Type}(f:Nat->List a):∀l:LN,(mp f l).flatten=bE f l
 |[]=>rfl
 |x::l=>by show f x++(mp f l).flatten=f x++bE f l;rw[kT f l]
section
noncomputable def uP(x:PlD):List V:=mp x.wv (aC 5 0)
theorem yim(x:PlD)(p:Nat->O):SL 141 [.v (.ref 31)] [] (dM x 5 p)=some (.l (uP x),dM x 5 p):=by kernel_rfl
theorem yc6(x:PlD)(J:Hp):kC cxL (.str []) 6 [.l (uP x)] [] J=bd (ifb (aM (len (aT [] (mp x.val (aC 5 0))))) (some (RV.v (.str (aT [] (mp x.val (aC 5 0))))))) (λr=>some (r,J)):=by kernel_rfl
theorem yc9{n:Nat}{f:Nat->V}{i:Nat}(h:eF (Nat.beq 151) (tk n jH)=true)(e:f 151= .ref 31)(c b a:Nat):ev cxL (frm n f) (.mcall (.var 151 c) 134 [] [] [] [] b a) (dM x 5 p)=some (.l (uP x),dM x 5 p):=by
 have O:ev cxL (frm n f) (.var 151 c) (dM x 5 p)=some (.v (.ref 31),dM x 5 p):=by rw[←e];exact jX h
 exact(dL (rs:=[]) (hp2:=dM x 5 p) (kp:=[]) (ap:=b) (q:=a) (m:= .fn 141 (.ref 31)) O (by kernel_rfl) rfl).trans (yim x p)
def F34(x:PlD)(n:Nat)(q:Nat->V):L:=frm n (ov [(151,.ref 31),(152,.ref 33),(153,.str (x.shP 5)),(117,.str (x.rwP 5))] q)
noncomputable def cK(x:PlD):LN:=x.shP 5++[34,92]
theorem s34(a:x.ok):ex cxL (stI 33) (F34 x 45 q) (dM x 5 p)=some (.next,frm 49 (ov [(94,.str (cK x)),(162,.int (.negSucc 0)),(163,.str []),(164,.str []),(151,.ref 31),(152,.ref 33),(153,.str (x.shP 5)),(117,.str (x.rwP 5))] q),dM x 5 p):=by
 have k:=yc9 (x:=x) (p:=p) (n:=45) (f:=ov [(151,.ref 31),(152,.ref 33),(153,.str (x.shP 5)),(117,.str (x.rwP 5))] q) (i:=0) (by kernel_rfl) rfl 5283909 5283916 5283918;have c:len (aT [] (mp x.val (aC 5 0)))≤200:=by rw[iU,kT];have:=eQ a.lval (aC 5 0);rw[cO] at this;exact this
 have J:=yc6 x (dM x 5 p);rw[aR c rfl] at J;have j:=(dL (cx:=cxL) (fl:=F34 x 45 q) (x:=6) (o:= .str "" [] 5282874) (y:= .v (.str [])) (m:= .str []) (kp:=[]) (ap:=5282879) (q:=5282895) (hp:=dM x 5 p) (hp1:=dM x 5 p) rfl rfl (bU k)).trans J;have h:=bS (p:=5282903) (b:= .str "\"\\" [34,92] 5286231) (t:=[34,92]) j rfl (aR (m:=300) (by show len (aT [] (mp x.val (aC 5 0)))+2≤300;lia) rfl);have u:cR (aT [] (mp x.val (aC 5 0))++[34,92]) false [] none=cK x:=by rw[iU,kT,a.unq];rfl
 have S:SL 210 [.v (.str (aT [] (mp x.val (aC 5 0))++[34,92]))] [] (dM x 5 p)=some (.v (.str (cK x)),dM x 5 p):=by show bd (stP (aT [] (mp x.val (aC 5 0))++[34,92])) _=_;rw[zcu (by rw[eG];show len (aT [] (mp x.val (aC 5 0)))+2≤50000;lia),u];rfl
 have e:=(gA (cx:=cxL) (x:=61) (f:=210) (p:=5279799) (q:=5279831) rfl (bU h)).trans S;exact wK (xs:=[94,162,163,164]) (mQ (hp3:=dM x 5 p) (vs:=[.str (cK x),.int (.negSucc 0),.str [],.str []]) (es:=yH (rhs (stI 33))) (p:=5279717) (iG e rfl) rfl) (by kernel_rfl)
end
abbrev u35:=aX cxL (fC 34) (exs cxL (hU 34))
def s35:FS:=byO (nth (hU 34) 0) id (.pass 0)
def yeg:FS:=byO (nth (hU 34) 1) id (.pass 0)
def F35(n:Nat)(c:Int)(a b:LN)(q:Nat->V):L:=frm n (ov [(162,.int c),(163,.str a),(164,.str b)] q)
def G35(c:Int)(a b:LN)(e:Int)(y:LN)(q:Nat->V):L:=frm 51 (ov [(162,.int c),(163,.str a),(164,.str b),(165,.int e),(166,.str y)] q)
theorem ylo(c:Int)(a b y:LN)(e:Int)(q:Nat->V)(J:Hp):bW cxL (fC 34) (.v (itV (e,y))) (F35 49 c a b q) J=some (G35 c a b e y q,J):=by kernel_rfl
theorem yln(c:Int)(a b y f:LN)(e h:Int)(q:Nat->V)(J:Hp):bW cxL (fC 34) (.v (itV (e,y))) (G35 c a b h f q) J=some (G35 c a b e y q,J):=by kernel_rfl
theorem k35(c:Int)(a b y:LN)(e:Int)(q:Nat->V)(J:Hp):ev cxL (G35 c a b e y q) (kid (rhs s35) [2,1]) J=cs (inX y) (some (.v (.str y),J)) (some (.v (.str []),J)):=by kernel_rfl
theorem ygj(i:Int):Z.eqB i i=true:=(Z.eqB_iff i i).mpr rfl
theorem t35(M:len un+len y≤50000)(a:len sg+len (sgX y)≤50000):
 exs cxL (hU 34) (G35 la un sg (la+ .ofNat (len y)) y q) J=some (.next,G35 (la+ .ofNat (len y)) (un++y) (sg++sgX y) (la+ .ofNat (len y)) y q,J):=by
 have v:∀(z ps:Nat),eF (Nat.beq z) (tk 51 jH)=true->ev cxL (G35 la un sg (la+ .ofNat (len y)) y q) (.var z ps) J=some (.v (ov [(162,.int la),(163,.str un),(164,.str sg),(165,.int (la+ .ofNat (len y))),(166,.str y)] q z),J):=λz ps h=>jX h;have A:ev cxL (G35 la un sg (la+ .ofNat (len y)) y q) (kid (rhs s35) [0]) J=some (.v (.int (la+ .ofNat (len y))),J):=
  hI (v 162 _ (by kernel_rfl)) (hH (x:=22) (f:= .len) (z:= .v (.int (.ofNat (len y)))) rfl (bU (v 166 _ (by kernel_rfl))) rfl) rfl
 have B:ev cxL (G35 la un sg (la+ .ofNat (len y)) y q) (kid (rhs s35) [1]) J=some (.v (.str (un++y)),J):=bS (v 163 _ (by kernel_rfl)) (v 166 _ (by kernel_rfl)) (aR M rfl);have E:ev cxL (G35 la un sg (la+ .ofNat (len y)) y q) (kid (rhs s35) [2,1]) J=some (.v (.str (sgX y)),J):=by rw[k35];unfold sgX;cases inX y<;>rfl
 have C:ev cxL (G35 la un sg (la+ .ofNat (len y)) y q) (kid (rhs s35) [2]) J=some (.v (.str (sg++sgX y)),J):=bS (v 164 _ (by kernel_rfl)) E (aR a rfl);have X:ex cxL s35 (G35 la un sg (la+ .ofNat (len y)) y q) J=some (.next,G35 (la+ .ofNat (len y)) (un++y) (sg++sgX y) (la+ .ofNat (len y)) y q,J):=
  wK (xs:=[162,163,164]) (mQ (hp3:=J) (es:=yH (rhs s35)) (iG A (iG B (bU C))) rfl) (by kernel_rfl)
 have w:∀(z ps:Nat),eF (Nat.beq z) (tk 51 jH)=true->ev cxL (G35 (la+ .ofNat (len y)) (un++y) (sg++sgX y) (la+ .ofNat (len y)) y q) (.var z ps) J=some (.v (ov [(162,.int (la+ .ofNat (len y))),(163,.str (un++y)),(164,.str (sg++sgX y)),(165,.int (la+ .ofNat (len y))),(166,.str y)] q z),J):=λz ps h=>jX h;have Y:ex cxL yeg (G35 (la+ .ofNat (len y)) (un++y) (sg++sgX y) (la+ .ofNat (len y)) y q) J=some (.next,G35 (la+ .ofNat (len y)) (un++y) (sg++sgX y) (la+ .ofNat (len y)) y q,J):=by refine tH (gH (w 165 5326222 (by kernel_rfl)) (w 162 5327126 (by kernel_rfl)) ?_);show some (bH (Z.eqB (la+ .ofNat (len y)) (la+ .ofNat (len y))))=_;rw[ygj];rfl
 exact cL (bs:=[yeg]) X rfl rfl (cL (bs:=[]) Y rfl rfl rfl)
theorem zv5(h:F v I J=some (.next,y)):bR F (k+1) (.gen (v::r)) I J=bR F k (.gen r) y.1 y.2:=by show bd (F v I J) _=_;rw[h];rfl
theorem l35:∀(f:List U) (a e:Int) (b c y:LN),sR f a->len b+len (vA f)≤50000->len c+len (sgU f)≤50000->
 ∃i k j,bR u35 (len f+1) (.gen (f.map itV)) (G35 a b c e y q) hp=some (.dry,G35 i (b++vA f) (c++sgU f) k j q,hp)
 |[],a,e,b,c,y,_,_,_=>⟨a,e,y,by show some _=some (_,G35 a (b++[]) (c++[]) e y q,hp);rw[List.append_nil,List.append_nil]⟩
 |u::r,a,e,b,c,y,h,M,h2=>by
  obtain⟨m,l⟩:=(show u.1=a+ .ofNat (len u.2)/\sR r u.1 from h);have M:len b+len (u.2++vA r)≤50000:=M;have h2:len c+len (sgX u.2++sgU r)≤50000:=h2;rw[eG] at M h2;have T:u35 (itV u) (G35 a b c e y q) hp=some (.next,G35 (a+ .ofNat (len u.2)) (b++u.2) (c++sgX u.2) (a+ .ofNat (len u.2)) u.2 q,hp):=by show bd (bW cxL (fC 34) (.v (itV (u.1,u.2))) (G35 a b c e y q) hp) _=_;rw[yln,m];exact t35 (by lia) (by lia)
  rw[m] at l;obtain⟨i,k,j,L⟩:=l35 (q:=q) (hp:=hp) r _ (a+ .ofNat (len u.2)) (b++u.2) (c++sgX u.2) u.2 l (by rw[eG];lia) (by rw[eG];lia);refine⟨i,k,j,?_⟩;show bR u35 ((len r+1)+1) (.gen (itV u::r.map itV)) _ _=_;rw[zv5 T,L,List.append_assoc,List.append_assoc];rfl
theorem zxb(M:tr E I a J=some (false,J))(B:tr E I b J=some (false,J))(A:tr E I c J=some (false,J))(e:tr E I d J=some (false,J)):tr E I (.or [a,b,c,d] p) J=some (false,J):=by show bd (tr E I a J) _=_;rw[M];show bd (tr E I b J) _=_;rw[B];show bd (tr E I c J) _=_;rw[A];show bd (tr E I d J) _=_;rw[e];rfl
def Q34(x:PlD)(q:Nat->V):Nat->V:=ov [(94,.str (cK x)),(151,.ref 31),(152,.ref 33),(153,.str (x.shP 5)),(117,.str (x.rwP 5))] q
theorem yjb(i:x.ok)(q:Nat->V)(J:Hp):∃la e y,ex cxL (stI 34) (F35 49 (.negSucc 0) [] [] (Q34 x q)) J=some (.next,G35 la (cK x) (x.rwP 5) e y (Q34 x q),J):=by
 have c:vA (dE (cK x) 0 false 0)=cK x:=nY _ _ _ _;have k:sgU (dE (cK x) 0 false 0)=x.rwP 5:=by rw[nE];show sgG (bE x.seen (aC 5 0)++[34,92]) false=_;rw[i.sg];show _++[]=_;rw[List.append_nil];rfl
 have s:sR (dE (cK x) 0 false 0) (.negSucc 0):=rA _ 0 false 0 _ (λh=>nomatch h) rfl;have C:len (cK x)≤500:=by
  show len (bE x.seen (aC 5 0)++[34,92])≤500;rw[eG];have:∀j,len (x.seen j)≤40:=λj=>by
   have:aP 5 (λa=>aP 5 λb=>aP 30 λd=>Nat.ble (len (gI a b (bxN d) (d/5))) 40)=true:=by kernel_rfl
   exact Qa (aG (aG (aG this _ (i.la j)) _ (i.lb j)) _ (i.ld j))
  have:=eQ this (aC 5 0);rw[cO] at this;show _+2≤500;lia
 have B:len (x.rwP 5)≤500:=by have:=eQ (f:=λj=>repN [41] (x.a j)++repN [40] (x.b j)) (m:=10) (λj=>by rw[eG,cT,cT];have:=i.la j;have:=i.lb j;lia) (aC 5 0);rw[cO] at this;show len (bE _ _)≤_;lia
 have Q:∀fl J,look fl 94=some (.str (cK x))->ex cxL (stI 34) fl J=bd (bR u35 (len ((dE (cK x) 0 false 0).map itV)+1) (.gen ((dE (cK x) 0 false 0).map itV)) fl J) (iQ (exs cxL [])):=λfl J h=>by rw[←pL];have A:=gA (cx:=cxL) (x:=60) (f:=203) (p:=5294760) (q:=5294766) (fl:=fl) (hp:=J) (hp2:=J) (es:=[.var 94 5297325]) (rs:=[.v (.str (cK x))]) rfl (bU (fR h));show bd (ev cxL fl (.call (.glo 60 5294760) [.var 94 5297325] [] [] [] 5294766) J) _=_;rw[A];rfl
 have o:look (F35 49 (.negSucc 0) [] [] (Q34 x q)) 94=some (.str (cK x)):=by kernel_rfl
 rw[Q _ _ o];cases t:dE (cK x) 0 false 0 with
 |nil=>rw[t] at c;have:cK x=[]:=c.symm;have:=congrArg len this;rw[show cK x=x.shP 5++[34,92] from rfl,eG] at this;cases(show len (x.shP 5)+2=0 from this)
 |cons u r=>
  rw[t] at c k s;obtain⟨z,w⟩:=(show u.1= .negSucc 0+ .ofNat (len u.2)/\sR r u.1 from s);have c:u.2++vA r=cK x:=c;have k:sgX u.2++sgU r=x.rwP 5:=k;have H:=congrArg len c;have l:=congrArg len k;rw[eG] at H l;have T:u35 (itV u) (F35 49 (.negSucc 0) [] [] (Q34 x q)) J=some (.next,G35 (.negSucc 0+ .ofNat (len u.2)) u.2 (sgX u.2) (.negSucc 0+ .ofNat (len u.2)) u.2 (Q34 x q),J):=by show bd (bW cxL (fC 34) (.v (itV (u.1,u.2))) (F35 49 (.negSucc 0) [] [] (Q34 x q)) J) _=_;rw[ylo,z];exact t35 (un:=[]) (sg:=[]) (by show 0+len u.2≤50000;lia) (by show 0+len (sgX u.2)≤50000;lia)
  rw[z] at w;obtain⟨n,g,D,L⟩:=l35 (q:=Q34 x q) (hp:=J) r _ (.negSucc 0+ .ofNat (len u.2)) u.2 (sgX u.2) u.2 w (by lia) (by lia);refine⟨n,g,D,?_⟩;show bd (bR u35 ((len (r.map itV)+1)+1) (.gen (itV u::r.map itV)) _ _) _=_;rw[zv5 T,yF,L,c,k];rfl
theorem s36(q:Nat->V)(p:Nat->O)(a e:Int)(y:LN)(H:len (x.shP 5)≤1000):ex cxL (stI 35) (G35 a (cK x) (x.rwP 5) e y (Q34 x q)) (dM x 5 p)=some (.next,G35 a (cK x) (x.rwP 5) e y (Q34 x q),dM x 5 p):=by
 have v:∀(z ps:Nat),eF (Nat.beq z) (tk 51 jH)=true->ev cxL (G35 a (cK x) (x.rwP 5) e y (Q34 x q)) (.var z ps) (dM x 5 p)=some (.v (ov [(162,.int a),(163,.str (cK x)),(164,.str (x.rwP 5)),(165,.int e),(166,.str y)] (Q34 x q) z),dM x 5 p):=λz ps h=>jX h;have s:=yc9 (x:=x) (p:=p) (n:=51) (f:=ov [(162,.int a),(163,.str (cK x)),(164,.str (x.rwP 5)),(165,.int e),(166,.str y)] (Q34 x q)) (i:=0) (by kernel_rfl) rfl 5358476 5358483 5358485;have W:cY .NotEq (.l (uP x)) (.v (.ref 33)) (dM x 5 p)=some false:=by
  have c:nth (dM x 5 p) 33=some (.list (bF (mp x.val (aC 5 0)))):=by kernel_rfl
  have ev:uP x=bF (mp x.val (aC 5 0)):=by kernel_rfl
  obtain⟨r,k⟩:=xC (mp x.val (aC 5 0));rw[ev];show nb (orl (bd (bd (nth (dM x 5 p) 33) oL) λj=>ifb (pls (bF (mp x.val (aC 5 0)))) (ifb (pls j) (some (vEs (bF (mp x.val (aC 5 0))) j)))) _)=_;rw[c];show nb (orl (ifb (pls (bF (mp x.val (aC 5 0)))) (ifb (pls (bF (mp x.val (aC 5 0)))) (some (vEs (bF (mp x.val (aC 5 0))) (bF (mp x.val (aC 5 0))))))) _)=_;rw[r,k];rfl
 have D:=gH (o:= .NotEq) (p:=5358495) s (v 152 5360799 (by kernel_rfl)) W;have L2:=bS (p:=5363130) (b:= .str "\"\\" [34,92] 5364410) (t:=[34,92]) (v 153 5363122 (by kernel_rfl)) rfl (aR (m:=1002) (by show len (x.shP 5)+2≤1002;lia) rfl);have A:=gH (o:= .NotEq) (p:=5362106) (v 94 5362087 (by kernel_rfl)) L2 xD;have w:=gH (o:= .NotEq) (p:=5365579) (v 163 5365571 (by kernel_rfl)) (v 94 5366731 (by kernel_rfl)) xD;have u:=gH (o:= .NotEq) (p:=5367900) (v 164 5367893 (by kernel_rfl)) (v 117 5369052 (by kernel_rfl)) xD;exact tH (zxb D A w u)
theorem yed(c:x.ok)(q:Nat->V)(p:Nat->O):∃la e y,exs cxL (seg 33 3) (F34 x 45 q) (dM x 5 p)=some (.next,G35 la (cK x) (x.rwP 5) e y (Q34 x q),dM x 5 p):=by
 obtain⟨la,e,y,B⟩:=yjb c q (dM x 5 p);refine⟨la,e,y,?_⟩;have f:len (x.shP 5)≤1000:=by
  have:∀j,len (x.seen j)≤40:=λj=>by
   have:aP 5 (λa=>aP 5 λb=>aP 30 λd=>Nat.ble (len (gI a b (bxN d) (d/5))) 40)=true:=by kernel_rfl
   exact Qa (aG (aG (aG this _ (c.la j)) _ (c.lb j)) _ (c.ld j))
  have:=eQ this (aC 5 0);rw[cO] at this;show len (bE _ _)≤1000;lia
 show exs cxL [stI 33,stI 34,stI 35] _ _=_;exact cL (s34 (q:=q) (p:=p) c) rfl rfl (cL B (nH (n:=49) (by kernel_rfl)) rfl (cL (bs:=[]) (s36 q p la e y f) rfl rfl rfl))
def clG(t k:Nat)(n:Nat):Nat->Nat:=Nat.rec (motive:=λU=>Nat->Nat) (λj=>j) (λU d j=>cs (Nat.ble j k) j (d (upT t j))) n
noncomputable def tW(t j k:Nat):Nat:=clG t k 5 j
theorem ybp(S:SF):mp2 14 5 (λt j=>mp (λk=>F1 S zs7 [.v (.int (.ofNat j)),.v (.int (.ofNat (k+1))),.v (.ref 0)] [] [gG (aW t)]) (aC 4 0))=mp2 14 5 (λt j=>mp (λk=>some (.v (.int (.ofNat (tW t j (k+1)))),[gG (aW t)])) (aC 4 0)):=by kernel_rfl
theorem zqi{S0:List RV->List (Nat×RV)->Hp->Option (RV×Hp)}{a b c:Int}{n:Nat}{e:List V}{J:Hp}(i:nth J n=some (.list e))(f:pls e=true)(h:S0 [.v (.int a),.v (.int b),.v (.ref 0)] [] [.list e]=some (.v (.int c),[.list e])):dU S0 [.v (.int a),.v (.int b),.v (.ref n)] [] J=some (.v (.int c),J):=by
 have g:nQ [.v (.int a),.v (.int b),.v (.ref n)] J 0=some ([.int a,.int b,.ref 0],[.list e]):=by show bd (bd (bd (bd (nth J n) _) _) _) _=_;rw[i];show bd (bd (bd (ifb (pls e) _) _) _) _=_;rw[f];rfl
 have w:wb [.v (.int a),.v (.int b),.v (.ref n)] [.list e] J=some J:=by show ifb (pls e) (some (upd J n (.list e)))=_;rw[f,mY i];rfl
 show bd (nQ [.v (.int a),.v (.int b),.v (.ref n)] J 0) _=_;rw[g];show bd (S0 [.v (.int a),.v (.int b),.v (.ref 0)] [] [.list e]) _=_;rw[h];show bd (wb [.v (.int a),.v (.int b),.v (.ref n)] [.list e] J) _=_;rw[w];rfl
theorem zn5(e:t<14)(h:j<5)(b:0<k/\k<5)(f:nth J 2=some (gG (aW t))):SL 316 [.v (.int (.ofNat j)),.v (.int (.ofNat k)),.v (.ref 2)] [] J=some (.v (.int (.ofNat (tW t j k))),J):=by have a:k-1+1=k:=Qz b.1;have:=aU (bY (ybp (SS 5)) e h) (Qb (k-1)) (lz (Nat.lt_of_succ_lt_succ (a.symm▸b.2)));rw[a] at this;have c:pls (.int (.negSucc 0)::ivs (aW t))=true:=(yK _).1;exact zqi f c this
section
theorem yip(h:tr E I c J=some (B,J)):(qQ E [c]).2.1 I J=some (B,J):=by show bd (tr E I c J) _=_;rw[h];cases B<;>rfl
theorem ybk{b:LN}{a:L->TrT}{e:L->EvT}(f:bindC b v I J=some fl')(c:a fl' J=some (B,J))(h:e fl' J=some (.v z,J)):eE e b a I v J=some (cs B (some z) none,J):=by
 show bd (bindC b v I J) _=_;rw[f];show bd (a fl' J) _=_;rw[c];cases B with
 |false=>rfl
 |true=>show bd (e fl' J) _=_;rw[h];rfl
theorem jQ:∀l:LN,eS (ivs l)=some (l.map Int.ofNat)
 |[]=>rfl
 |c::r=>by show bd (eS (ivs r)) (λl=>some (Int.ofNat c::l))=_;rw[jQ r];rfl
noncomputable def pG(r:LN)(k:Nat):Nat->Nat:=List.rec (motive:=λU=>Nat->Nat) (λi=>i) (λx U d i=>cs (Nat.beq x k) i (d (i+1))) r
theorem zke(k:Nat):∀(r:LN) (i j:Nat),pG r k (i+j)=pG r k i+j
 |[],i,j=>rfl
 |x::r,i,j=>by
  show cs (Nat.beq x k) (i+j) (pG r k (i+j+1))=cs (Nat.beq x k) i (pG r k (i+1))+j;cases Nat.beq x k with
  |true=>rfl
  |false=>show pG r k (i+j+1)=pG r k (i+1)+j;rw[show i+j+1=i+1+j from by lia,zke k r (i+1) j]
theorem zbg(k:Nat):∀r:LN,eF (Nat.beq k) r=true->zbh (.ofNat k) (r.map Int.ofNat)=some (pG r k 0)
 |[],h=>nomatch h
 |x::r,h=>by
  show cs (Z.eqB (.ofNat x) (.ofNat k)) (some 0) (bd (zbh (.ofNat k) (r.map Int.ofNat)) λk=>some (k+1))=some (cs (Nat.beq x k) 0 (pG r k 1));have h:cs (Nat.beq k x) true (eF (Nat.beq k) r)=true:=h;have e:Z.eqB (.ofNat x) (.ofNat k)=Nat.beq x k:=rfl;rw[e];cases z:Nat.beq x k with
  |true=>rfl
  |false=>
   have:Nat.beq k x=false:=by
    cases y:Nat.beq k x with
    |false=>rfl
    |true=>rw[aN y,Nat.beq_refl] at z;cases z
   rw[this] at h;show bd (zbh (.ofNat k) (r.map Int.ofNat)) (λk=>some (k+1))=some (pG r k 1);rw[zbg k r h];show some (pG r k 0+1)=some (pG r k (0+1));rw[zke k r 0 1]
theorem zmw(a:nth J n=some (.list (ivs r)))(b:eF (Nat.beq j) r=true)(c:aM (len (ivs r))=true):kC E (.lst n) 2 [.v (.int (.ofNat j))] [] J=some (.v (.int (.ofNat (lS r j))),J):=by show bd (bd (nth J n) oL) _=_;rw[a];show orl none (orl none (bd (bd (eS (ivs r)) λl=>bd (zbh (.ofNat j) l) λk=>ifb (aM (len (ivs r))) (some (RV.v (.int (.ofNat k))))) λr=>some (r,J)))=_;rw[jQ];show orl none (orl none (bd (bd (zbh (.ofNat j) (r.map Int.ofNat)) λk=>ifb (aM (len (ivs r))) (some (RV.v (.int (.ofNat k))))) λr=>some (r,J)))=_;rw[zbg j r b];show orl none (orl none (bd (ifb (aM (len (ivs r))) (some (RV.v (.int (.ofNat (pG r j 0)))))) λr=>some (r,J)))=_;rw[c];rfl
theorem zqk(b:nth J n=some (.list T))(a:nth T k=some v)(c:Nat.blt k (len T)=true):nB (.v (.ref n)) (.v (.int (.ofNat k))) J=some (.v v):=by show orl none (bd (orl none (bd (nth J n) oL)) λT=>bd (ifb (Nat.blt k (len T)) (some k)) λj=>bd (nth T j) λv=>some (RV.v v))=_;rw[b];show orl none (bd (ifb (Nat.blt k (len T)) (some k)) λj=>bd (nth T j) λv=>some (RV.v v))=_;rw[c];show orl none (bd (nth T k) λv=>some (RV.v v))=_;rw[a];rfl
end
def znk:List LN:=tk 8 (zbx.map (·.2))
def gW:List LN:=zbx.map (·.2)++mp (λk=>zbk (2^k)) (aC 22 10)
def jD(b a:Nat):List LN:=tk 5 (gW.drop b)++cs (Nat.beq a 0) [] [zbk (a*5*2^32)]
def A25(q:Nat->V):L:=frm 31 q
def B27(q:Nat->V):L:=frm 32 (ov [(54,.ref 27)] q)
def I27(p:Nat->O):Hp:=hpm 28 (ov [(26,.list (mp V.str znk)),(27,.list (mp V.str gW))] p)
theorem yd1(q:Nat->V)(p:Nat->O):exs cxL (seg 25 2) (A25 q) (hpm 26 p)=some (.next,B27 q,I27 p):=by kernel_rfl
def A28(i:Nat)(q:Nat->V):L:=frm 32 (ov [(123,.int (.ofNat (i/3))),(124,.int (.ofNat (i%3)))] q)
def B28(i:Nat)(q:Nat->V):L:=frm 33 (ov [(123,.int (.ofNat (i/3))),(124,.int (.ofNat (i%3))),(147,.ref 28)] q)
def I28(i:Nat)(p:Nat->O):Hp:=hpm 29 (ov [(28,.list (mp V.str (jD (i/3) (i%3))))] p)
def yej(q:Nat->V)(p:Nat->O)(i:Nat):Option (Fl×L×Hp):=exs cxL (seg 27 1) (A28 i q) (hpm 28 p)
def ygl(q:Nat->V)(p:Nat->O)(i:Nat):Option (Fl×L×Hp):=some (.next,B28 i q,I28 i p)
theorem yd0(q:Nat->V)(p:Nat->O):mp (yej q p) (aC 84 0)=mp (ygl q p) (aC 84 0):=by kernel_rfl
def orC(i j:Nat):FE:=byO (nth nS i) (λs=>match s with| .ife (.or l _) _ _ _=>byO (nth l j) id (.none 0)|_=> .none 0) (.none 0)
def frK(i:Nat)(q:Nat->V):Nat->V:=ov [(123,.int (.ofNat (i/3))),(124,.int (.ofNat (i%3))),(54,.ref 27),(147,.ref 28)] q
def hpK(i:Nat)(p:Nat->O):Nat->O:=ov [(27,.list (mp V.str gW)),(28,.list (mp V.str (jD (i/3) (i%3))))] p
theorem ydq(q:Nat->V)(p:Nat->O):mp (λi=>tr cxL (frm 33 (frK i q)) (orC 28 1) (hpm 29 (hpK i p))) (aC 84 0)=mp (λi=>some (false,hpm 29 (hpK i p))) (aC 84 0):=by kernel_rfl
def zhi(r:LN)(p:Nat->O):Nat->O:=ov [(22,.list (ivs r)),(25,.list (ivs r))] p
theorem ydr(r:LN)(q:Nat->V)(p:Nat->O):tr cxL (frm 33 (ov [(146,.ref 25),(142,.ref 22)] q)) (orC 28 0) (hpm 29 (zhi r p))=some (false,hpm 29 (zhi r p)):=by
 have e:tr cxL (frm 33 (ov [(146,.ref 25),(142,.ref 22)] q)) (orC 28 0) (hpm 29 (zhi r p))=bd (cY .NotEq (.v (.ref 25)) (.v (.ref 22)) (hpm 29 (zhi r p))) λb=>some (b,hpm 29 (zhi r p)):=by kernel_rfl
 rw[e,zry (xs:=ivs r) (by kernel_rfl) (by kernel_rfl) (yK r).1 (yK r).2];rfl
theorem ye1(M:tr E I a J=some (false,J))(B:tr E I b J=some (false,J)):tr E I (.or [a,b] p) J=some (false,J):=by show tOr (tr E I a) (tOr (tr E I b) _) J=_;show bd (tr E I a J) _=_;rw[M];show bd (tr E I b J) _=_;rw[B];rfl
theorem yao(h:tr E I c J=some (false,J)):ex E (.ife c b [] p) I J=some (.next,I,J):=by show bd (tr E I c J) _=_;rw[h];rfl
theorem zaw{a:Type}:∀{l:List a} {i:Nat} {v:a} (r:List a),nth l i=some v->nth (l++r) i=some v
 |[],i,v,r,h=>nomatch h
 |x::l,0,v,r,h=>h
 |x::l,i+1,v,r,h=>zaw (l:=l) (i:=i) r h
theorem zg8{a:Type}(x:a):∀l:List a,nth (l++[x]) (len l)=some x
 |[]=>rfl
 |y::l=>zg8 x l
def lp(i:Nat):FS:=byO (nth (hU 40) i) id (.pass 0)
def dC(i:Nat):LN:=byO (nth gW i) id []
section
theorem zk0(a:nth J n=some (.list T))(j:Nat.ble x 2=true):fT E (.v (.ref n)) x J=some (.lst n):=by show bd (nth J n) (mkO E n x)=_;rw[a];show ifb (Nat.ble x 2) _=_;rw[j];rfl
noncomputable def smN(l:LN):Nat:=List.rec (motive:=λU=>Nat) 0 (λx U d=>x+d) l
theorem zvi:∀(l:LN) (a:Nat),fE (l.map Int.ofNat) (.ofNat a)= .ofNat (a+smN l)
 |[],a=>rfl
 |x::l,a=>by show fE (l.map Int.ofNat) (.ofNat a+ .ofNat x)= .ofNat (a+(x+smN l));rw[show(Int.ofNat a+Int.ofNat x)=Int.ofNat (a+x) from rfl,zvi l (a+x),Nat.add_assoc]
theorem zxl(l:LN):bic .sum [.l (ivs l)] J=some (.v (.int (.ofNat (smN l)))):=by show bd (eS (ivs l)) (λl=>some (RV.v (.int (fE l 0))))=_;rw[jQ];show some (RV.v (.int (fE (l.map Int.ofNat) (.ofNat 0))))=_;rw[zvi,Nat.zero_add]
theorem zk2(b:nth J n=some (.list (ivs B)))(a:byO (unc (B.map Int.ofNat)) (λp=>Z.eqB (uT p.1 p.2) m) false=true):bic .min [.v (.ref n)] J=some (.v (.int m)):=by
 show bd (bd (bd (nth J n) oL) eS) (λl=>bd (unc l) λp=>some (RV.v (.int (uT p.1 p.2))))=_;rw[b];show bd (eS (ivs B)) _=_;rw[jQ];show bd (unc (B.map Int.ofNat)) _=_;cases e:unc (B.map Int.ofNat) with
 |none=>rw[e] at a;cases a
 |some p=>rw[e] at a;have:uT p.1 p.2=m:=(Z.eqB_iff _ _).mp a;show some (RV.v (.int (uT p.1 p.2)))=_;rw[this]
theorem zzo(a:nth J n=some (.list T)):bic .len [.v (.ref n)] J=some (.v (.int (.ofNat (len T)))):=by show bd (orl none (orl none (bd (bd (nth J n) oL) λT=>some (len T)))) (λn=>some (RV.v (.int (.ofNat n))))=_;rw[a];rfl
theorem zjt(c:nth J n=some (.list T))(h:len T≤60000)(f:i≤len T)(e:j≤len T):hZ (.v (.ref n)) (some (.v (.int (.ofNat i)))) (some (.v (.int (.ofNat j)))) J=some (.l (cut T i j)):=by show orl none (bd (bd (nth J n) oL) λT=>bd (ifb (small (.ofNat i)) (some (bnd (.ofNat i) (len T)))) λa=>bd (ifb (small (.ofNat j)) (some (bnd (.ofNat j) (len T)))) λb=>some (RV.l (cut T a b)))=_;rw[c];show orl none (bd (ifb (small (.ofNat i)) (some (bnd (.ofNat i) (len T)))) λa=>bd (ifb (small (.ofNat j)) (some (bnd (.ofNat j) (len T)))) λb=>some (RV.l (cut T a b)))=_;rw[nD (by lia),nD (by lia),tZ f,tZ e];rfl
theorem ybd{b c:FE}{y u w z:RV}(M:ev E I a J=some (y,J))(B:ev E I b J=some (u,J))(A:ev E I c J=some (w,J))(e:hZ y (some u) (some w) J=some z):ev E I (.sli a (some b) (some c) none p q) J=some (z,J):=by show bd (ev E I a J) _=_;rw[M];show bd (bd (ev E I b J) _) _=_;rw[B];show bd (bd (ev E I c J) _) _=_;rw[A];show bd (hZ y (some u) (some w) J) _=_;rw[e];rfl
theorem yfd(a:nth J n=some (.list (bF l))):cY .NotEq (.v (.ref n)) (.l (bF l)) J=some false:=by obtain⟨c,b⟩:=xC l;show nb (orl (bd (bd (nth J n) oL) λT=>ifb (pls T) (ifb (pls (bF l)) (some (vEs T (bF l))))) _)=_;rw[a];show nb (orl (ifb (pls (bF l)) (ifb (pls (bF l)) (some (vEs (bF l) (bF l))))) _)=_;rw[c,b];rfl
end
noncomputable def zt1(c:Nat->Bool)(v:Nat->Nat)(l:LN):LN:=List.rec (motive:=λU=>LN) [] (λj U d=>cs (c j) (v j::d) d) l
def aV(t:Nat)(r:LN)(k:Nat):LN:=zt1 (λj=>Nat.beq (tW t j k) k) (lS r) [0,1,2,3,4]
theorem nV(b:Bool)(v:Nat)(l:LN):lA (cs b (some (V.int (.ofNat v))) none) (ivs l)=ivs (cs b (v::l) l):=by cases b<;>rfl
def cS0(I:L):=eE (evM cxL (kid (rhs (lp 0)) [0])).1 [112] (qQ cxL [kid (rhs (lp 0)) [2]]).2.1 (flr [(14,0),(112,0),(170,4),(31,2),(146,2),(89,2)] I)
theorem k41(I:L)(J:Hp):ev cxL I (rhs (lp 0)) J=bd (cJ (cS0 I) 6 (.items [.int (.ofNat 0),.int (.ofNat 1),.int (.ofNat 2),.int (.ofNat 3),.int (.ofNat 4)]) J) λx=>ifb (aM (len x.1)) (some (.l x.1,x.2)):=by kernel_rfl
def f0(n j:Nat)(f:Nat->V):L:=put (flr [(14,0),(112,0),(170,4),(31,2),(146,2),(89,2)] (frm n f)) 112 (.int (.ofNat j))
theorem ztb(a:n=53∨n=55)(j:Nat)(f:Nat->V):look (f0 n j f) 31=some (f 31)/\look (f0 n j f) 146=some (f 146)/\look (f0 n j f) 89=some (f 89)/\look (f0 n j f) 112=some (.int (.ofNat j)):=by rcases a with rfl|rfl<;>exact⟨by kernel_rfl,by kernel_rfl,by kernel_rfl,by kernel_rfl⟩
theorem st0(z:t<14)(Q:0<k/\k<5)(H:n=53∨n=55)(M:f 31= .int (.ofNat k))(J:f 146= .ref 25)(I:f 89= .ref 2)(G:nth hp 2=some (gG (aW t)))(a:nth hp 25=some (.list (ivs r)))(D:aP 5 (λj=>eF (Nat.beq j) r)=true)(B:aM (len (ivs r))=true):
 ev cxL (frm n f) (rhs (lp 0)) hp=some (.l (ivs (aV t r k)),hp):=by
 have E:∀j,j<5->cS0 (frm n f) (.int (.ofNat j)) hp=some (cs (Nat.beq (tW t j k) k) (some (.int (.ofNat (lS r j)))) none,hp):=λj m=>by
  obtain⟨b,i,h,e⟩:=ztb H j f;rw[M] at b;rw[J] at i;rw[I] at h;have C:tr cxL (f0 n j f) (kid (rhs (lp 0)) [2]) hp=some (Nat.beq (tW t j k) k,hp):=
   gH (p:=5544526) ((gA (x:=170) (f:=316) (p:=5544510) (q:=5544521) (hp2:=hp) rfl (iG (fR (p:=5545920) e) (iG (fR (p:=5546307) b) (bU (fR (p:=5546696) h))))).trans (zn5 z m Q G)) (fR (p:=5547726) b) rfl
  have A:ev cxL (f0 n j f) (kid (rhs (lp 0)) [0]) hp=some (.v (.int (.ofNat (lS r j))),hp):=
   (dL (x:=2) (kp:=[]) (ap:=5539995) (q:=5539998) (fR (p:=5539989) i) (zk0 a rfl) (bU (fR (p:=5541405) e))).trans (zmw a (aG D j m) B)
  exact ybk (fl':=f0 n j f) rfl (yip C) A
 have C:cJ (cS0 (frm n f)) 6 (.items [.int (.ofNat 0),.int (.ofNat 1),.int (.ofNat 2),.int (.ofNat 3),.int (.ofNat 4)]) hp=some (ivs (aV t r k),hp):=by have o:=tU (E 4 (by lia)) (show cJ (cS0 (frm n f)) 1 (.items []) hp=some (ivs [],hp) from rfl);rw[nV] at o;have s:=tU (E 3 (by lia)) o;rw[nV] at s;have u:=tU (E 2 (by lia)) s;rw[nV] at u;have w:=tU (E 1 (by lia)) u;rw[nV] at w;have y:=tU (E 0 (by lia)) w;rw[nV] at y;exact y
 rw[k41,C];show ifb (aM (len (ivs (aV t r k)))) _=_;have:len (ivs (aV t r k))≤5:=by
  show len (mp _ _)≤5;rw[cZ];have g:∀(c:Nat->Bool) (v:Nat->Nat) (l:LN),len (zt1 c v l)≤len l:=λc v l=>by
   induction l with
   |nil=>exact Qm _
   |cons j l d=>
    show len (cs (c j) (v j::zt1 c v l) (zt1 c v l))≤len l+1;cases c j with
    |true=>exact Qs d
    |false=>exact Qy d
  exact g _ _ [0,1,2,3,4]
 rw[aR this rfl];rfl
noncomputable def plT:List (Nat×Nat):=[(1,1),(1,2),(1,3),(1,4),(2,1),(2,2),(2,3),(2,4),(3,1),(3,2),(3,3),(3,4),(4,1),(4,2),(4,3),(4,4),(5,1),(5,2),(5,3),(5,4),(6,1),(6,2),(6,3),(6,4),(7,1),(7,2),(7,3),(7,4),(8,1),(8,2),(8,3),(8,4),(9,1),(9,2),(9,3),(9,4),(10,1),(10,2),(10,3),(10,4),(11,1),(11,2),(11,3),(11,4),(12,1),(12,2),(12,3),(12,4),(13,1),(13,2),(13,3),(13,4),(14,1),(14,2),(14,3),(14,4),(15,1),(15,2),(15,3),(15,4),(16,1),(16,2),(16,3),(16,4),(17,1),(17,2),(17,3),(17,4),(18,1),(18,2),(18,3),(18,4),(19,1),(19,2),(19,3),(19,4),(20,1),(20,2),(20,3),(20,4),(21,1),(21,2),(21,3),(21,4),(22,1),(22,2),(22,3),(22,4),(23,1),(23,2),(23,3),(23,4),(24,1),(24,2),(24,3),(24,4),(25,1),(25,2),(25,3),(25,4),(26,1),(26,2),(26,3),(26,4),(27,1),(27,2),(27,3),(27,4),(28,1),(28,2),(28,3),(28,4),(29,1),(29,2),(29,3),(30,1),(30,2),(31,1)]
noncomputable def zkz(P l:Nat):Nat:=(2^l-1)*2^P
def wsP(P l:Nat):List LN:=mp dC (aC l P)
theorem zym(S:SF):mp (λx:Nat×Nat=>bd (F1 S zs3 [.v (.int (.ofNat (zkz x.1 x.2)))] [] []) λr=>some r.1) plT=mp (λx:Nat×Nat=>some (.v (.str (aT [44,32] (wsP x.1 x.2))))) plT:=by kernel_rfl
theorem zxu(J:Hp):mp (λx:Nat×Nat=>kC cxL (.str (aT [44,32] (wsP x.1 x.2))) 5 [.v (.str [44,32])] [] J) plT=mp (λx:Nat×Nat=>some (.l (bF (wsP x.1 x.2)),J)) plT:=by kernel_rfl
theorem ztm:mp (λx:Nat×Nat=>cut (mp V.str gW) x.1 (x.1+x.2)) plT=mp (λx:Nat×Nat=>bF (wsP x.1 x.2)) plT:=by kernel_rfl
def ykn(a b:Nat):Bool:=zk7 a b plT
theorem zyl:aP 32 (λP=>aP 5 λl=>cs (aH (aH (Nat.ble 1 P) (Nat.ble 1 l)) (Nat.ble (P+l) 32)) (ykn P l) true)=true:=by kernel_rfl
theorem zj8(M:1≤P)(B:1≤l)(A:l<5)(a:P+l≤32):(P,l)∈plT:=by have h:=aG (aG zyl P (by lia)) l A;rw[show Nat.ble 1 P=true from Nat.ble_eq_true_of_le M,show Nat.ble 1 l=true from Nat.ble_eq_true_of_le B,show Nat.ble (P+l) 32=true from Nat.ble_eq_true_of_le a] at h;exact xW h
theorem yeu(h:(P,l)∈plT)(J:Hp):SL 196 [.v (.int (.ofNat (zkz P l)))] [] J=some (.v (.str (aT [44,32] (wsP P l))),J):=by refine aB (gQ (zym (SS 5)) _ h) λr M B=>?_;have B:r.1= .v (.str (aT [44,32] (wsP P l))):=prf B;exact kI (as:=[.int (.ofNat (zkz P l))]) ⟨r.2,by rw[←B];exact M⟩ rfl rfl J
def shV(a:Nat)(v:V):Option V:=bd (vI v) λi=>bd (nI i) λp=>some (.int (.ofNat (2^(a+p))))
theorem zr6(J:Hp):mp (λn=>qG .LShift (.v (.int (.ofNat 1))) (.v (.int (.ofNat n))) J) (aC 33 0)=mp (λn=>some (.v (.int (.ofNat (2^n))))) (aC 33 0):=by kernel_rfl
def f1(n j:Nat)(f:Nat->V):L:=put (flr [(14,0),(155,0),(123,2)] (frm n f)) 155 (.int (.ofNat j))
theorem zta(a:n=54∨n=55)(j:Nat)(f:Nat->V):look (f1 n j f) 123=some (f 123)/\look (f1 n j f) 155=some (.int (.ofNat j)):=by rcases a with rfl|rfl<;>exact⟨by kernel_rfl,by kernel_rfl⟩
theorem znj(a:Nat):∀B:LN,(ivs B).filterMap (shV a)=ivs (mp (λp=>2^(a+p)) B)
 |[]=>rfl
 |p::B=>by show((V.int (.ofNat p))::ivs B).filterMap (shV a)=V.int (.ofNat (2^(a+p)))::ivs (mp (λp=>2^(a+p)) B);rw[List.filterMap_cons,znj a B];rfl
theorem zjs(a:Nat):∀B:LN,smN (mp (λp=>2^(a+p)) B)=2^a*smN (mp (λp=>2^p) B)
 |[]=>rfl
 |p::B=>by show 2^(a+p)+smN (mp (λp=>2^(a+p)) B)=2^a*(2^p+smN (mp (λp=>2^p) B));rw[zjs a B,Nat.pow_add,Nat.mul_add]
theorem mI(h:eF (Nat.beq x) (tk n jH)=true)(a:f x=v):ev cxL (frm n f) (.var x ps) J=some (.v v,J):=by rw[←a];exact jX h
theorem zds(a:n=54∨n=55)(h:aH (eF (Nat.beq x) (tk 54 jH)) (eF (Nat.beq x) (tk 55 jH))=true):eF (Nat.beq x) (tk n jH)=true:=by
 refine aI h λM B=>?_;rcases a with rfl|rfl
 · exact M
 · exact B
theorem st1{n low lo ln b:Nat}{B:LN}{f:Nat->V}{hp:Hp}(i:n=54∨n=55)(c:f 123= .int (.ofNat low))(Q:f 169= .ref b)(w:nth hp b=some (.list (ivs B)))(D:∀p∈B,p<5)(u:len B≤5)(j:low<28)(E:1≤lo)(H:1≤ln)(d:lo+ln≤5)(s:smN (mp (λp=>2^p) B)=(2^ln-1)*2^lo):
 ev cxL (frm n f) (rhs (lp 1)) hp=some (.l (bF (wsP (low+lo) ln)),hp):=by
 have M:=zj8 (P:=low+lo) (l:=ln) (by lia) H (by lia) (by lia);have k:look (frm n f) 169=some (.ref b):=by rw[←Q];exact rG f _ (zds i (by kernel_rfl))
 have C:=tP (cx:=cxL) (fl:=frm n f) (x:=169) (e:=kid (rhs (lp 1)) [0,0,0,0]) (ts:=[155]) (tps:=[0]) (tp:=5561276) (ifs:=[]) (sc:=[(14,0),(155,0),(123,2)]) (p:=5562437) (q:=5558470) (g:=shV low) k w (λv r=>by
  obtain⟨p,a,rfl⟩:=rE r;have t:=D p a;obtain⟨h,o⟩:=zta i p f;rw[c] at h;have A:ev cxL (f1 n p f) (kid (rhs (lp 1)) [0,0,0,0]) hp=some (.v (.int (.ofNat (2^(low+p)))),hp):=
   hI (y:= .v (.int (.ofNat 1))) rfl (hI (z:= .v (.int (.ofNat (low+p)))) (fR (p:=5559210) h) (fR (p:=5559986) o) rfl) (aU (zr6 hp) (Qb _) (by lia))
  exact zd1 (fl':=f1 n p f) rfl rfl A) (by rw[znj];exact aR (m:=5) (by show len (mp _ _)≤5;rw[cZ,cZ];exact u) rfl)
 rw[znj] at C;have S:=hH (cx:=cxL) (x:=119) (p:=5557920) (q:=5557959) (f:= .sum) rfl (bU C) (zxl _);rw[zjs,s,show 2^low*((2^ln-1)*2^lo)=zkz (low+lo) ln from by unfold zkz;rw[Nat.pow_add,Nat.mul_left_comm]] at S;have P:=(gA (cx:=cxL) (x:=148) (f:=196) (p:=5556252) (q:=5556296) rfl (bU S)).trans (yeu M hp);exact(dL (x:=5) (kp:=[]) (ap:=5556302) (q:=5556308) (m:= .str (aT [44,32] (wsP (low+lo) ln))) (es:=[.str ", " [44,32] 5564371]) P rfl (bU rfl)).trans (gQ (zxu hp) _ M)
theorem st2{n low lo ln b nm:Nat}{B:LN}{f:Nat->V}{hp:Hp}(e:n=54∨n=55)(m:f 123= .int (.ofNat low))(u:f 169= .ref b)(H:f 50= .ref nm)(D:f 54= .ref 27)(t:nth hp b=some (.list (ivs B)))(j:nth hp nm=some (.list (bF (wsP (low+lo) ln))))(k:nth hp 27=some (.list (mp V.str gW)))(s:low<28)(g:1≤lo)(A:1≤ln)(d:lo+ln≤5)(y:len B=ln)(w:byO (unc (B.map Int.ofNat)) (λp=>Z.eqB (uT p.1 p.2) (.ofNat lo)) false=true):
 ex cxL (lp 2) (frm n f) hp=some (.next,frm n f,hp):=by
 have M:=zj8 (P:=low+lo) (l:=ln) (by lia) A (by lia) (by lia);have r:∀p1 p2 p3,ev cxL (frm n f) (.call (.glo 171 p1) [.var 169 p2] [] [] [] p3) hp=some (.v (.int (.ofNat lo)),hp):=λp1 p2 p3=>hH (f:= .min) rfl (bU (mI (zds e (by kernel_rfl)) u)) (zk2 t w);have h:∀p1 p2 p3,ev cxL (frm n f) (.call (.glo 22 p1) [.var 169 p2] [] [] [] p3) hp=some (.v (.int (.ofNat ln)),hp):=λp1 p2 p3=>by have:=hH (cx:=cxL) (x:=22) (f:= .len) (p:=p1) (q:=p3) rfl (bU (mI (ps:=p2) (zds e (by kernel_rfl)) u)) (zzo t);rw[show len (ivs B)=ln from by show len (mp _ _)=ln;rw[cZ];exact y] at this;exact this
 have a:∀ps,ev cxL (frm n f) (.var 123 ps) hp=some (.v (.int (.ofNat low)),hp):=λps=>mI (zds e (by kernel_rfl)) m;have Q:ev cxL (frm n f) (.bin .Add (.var 123 5573917) (.call (.glo 171 5574691) [.var 169 5575209] [] [] [] 5574698) 5573930) hp=some (.v (.int (.ofNat (low+lo))),hp):=hI (a _) (r _ _ _) rfl;have L2:ev cxL (frm n f) (.bin .Add (.bin .Add (.var 123 5576110) (.call (.glo 171 5576884) [.var 169 5577402] [] [] [] 5576891) 5576123) (.call (.glo 22 5578561) [.var 169 5579079] [] [] [] 5578568) 5576136) hp=some (.v (.int (.ofNat (low+lo+ln))),hp):=hI (z:= .v (.int (.ofNat (low+lo+ln)))) (hI (z:= .v (.int (.ofNat (low+lo)))) (a _) (r _ _ _) rfl) (h _ _ _) rfl;have i:len (mp V.str gW)=32:=by kernel_rfl
 have S:=ybd (p:=5573192) (q:=5573193) (mI (ps:=5573145) (zds e (by kernel_rfl)) D) Q L2 (zjt k (by rw[i];lia) (by rw[i];lia) (by rw[i];lia));have c:cut (mp V.str gW) (low+lo) (low+lo+ln)=bF (wsP (low+lo) ln):=gQ ztm _ M;rw[c] at S;exact tH (bs:=[]) (gH (o:= .NotEq) (mI (zds e (by kernel_rfl)) H) S (yfd j))
noncomputable def F2(f:V->Hp->Option (Option V×Hp))(J:Hp):List V->List V->Prop
 |[],[]=>True
 |x::T,y::a=>f x J=some (some y,J)/\F2 f J T a
 |_,_=>False
theorem wI(c:nth J n=some (.list a)):∀(T b:List V) (k i:Nat),a.drop i=T->T.length<k->F2 f J T b->cJ f k (.live n i) J=some (b,J)
 |T,b,0,i,_,h,_=>by cases h
 |[],[],k+1,i,hd,_,_=>by
  have:nth a i=none:=by rw[bX];exact List.getElem?_eq_none (List.drop_eq_nil_iff.mp hd)
  rw[rY,yB c];show byO (bd (nth a i) _) _ _=_;rw[this];rfl
 |[],y::b,k+1,i,_,_,H=>H.elim
 |x::r,[],k+1,i,_,_,H=>H.elim
 |x::r,y::b,k+1,i,hd,h,H=>by
  have M:nth a i=some x:=by
   have:(a.drop i)[0]? =some x:=by rw[hd];rfl
   rw[List.getElem?_drop] at this;rw[bX];exact this
  have B:a.drop (i+1)=r:=by
   have:a.drop (i+1)=(a.drop i).drop 1:=by rw[List.drop_drop]
   rw[this,hd];rfl
  have d:=wI c r b k (i+1) B (by simpa using h) H.2;rw[rY,yB c];show byO (bd (nth a i) _) _ _=_;rw[M];show bd (f x J) _=_;rw[H.1];show bd (cJ f k (.live n (i+1)) J) _=_;rw[d];rfl
theorem zht(j:look I x=some (.ref n))(b:nth J n=some (.list T))(H:F2 (eE (evM cx e).1 ts (qQ cx ifs).2.1 (flr sc I)) J T a)(c:aM (len a)=true):ev cx I (.comp e ts tps tp (.var x p) ifs sc q) J=some (.l a,J):=by show bd (bd (look I x) _) _=_;rw[j];show bd (bd (bd (bd (nth J n) oL) λU=>some (Src.live n 0)) zay) _=_;rw[b];show bd (cJ _ (byO (bd (nth J n) oL) (λT=>len T+1) 0) (.live n 0) J) _=_;rw[b];show bd (cJ (eE (evM cx e).1 ts (qQ cx ifs).2.1 (flr sc I)) (len T+1) (.live n 0) J) _=_;rw[wI b T a (len T+1) 0 rfl (by rw[aK];exact Nat.lt_succ_self _) H];show ifb (aM (len a)) _=_;rw[c];rfl
theorem zr8(J:Hp):mp (λi=>kC cxL (.str (dC i)) 3 [] [] J) (aC 32 0)=mp (λi=>some (.v (.str (low (dC i))),J)) (aC 32 0):=by kernel_rfl
theorem zm6(v:Nat->LN):mp2 28 5 (λa b=>ifb (okc okN (low (low (dC (a+b))))) (pJ (low (low (dC (a+b)))) (mp (λj=>(dC (a+j),v j)) (aC 5 0))))=mp2 28 5 (λU b=>some (v b)):=by kernel_rfl
noncomputable def zc5(x:PlD):List Row:=mp (λj=>(x.wn j,x.val j)) (aC 5 0)
theorem yfy(b:nth J 31=some (.inst 184 [(30,.ref 32)]))(a:nth J 32=some (.list (mp x.rv (aC 5 0)))):zm1 31 J=some (32,zc5 x):=by show bd (bd (nth J 31) oI) _=_;rw[b];show bd (bd (nth J 32) oL) _=_;rw[a];kernel_rfl
theorem yf2{x:PlD}{J:Hp}{a j:Nat}(c:nth J 31=some (.inst 184 [(30,.ref 32)]))(b:nth J 32=some (.list (mp x.rv (aC 5 0))))(f:∀j,x.wn j=dC (a+j))(i:a<28)(k:j<5):SL 131 [.v (.ref 31),.v (.str (low (dC (a+j))))] [] J=some (.v (.str (x.val j)),J):=by
 have h:=bY (zm6 x.val) i k;refine aJ h λM B=>?_;have e:zc5 x=mp (λj=>(dC (a+j),x.val j)) (aC 5 0):=sZ λy U=>by rw[f y]
 show bd (zm1 31 J) _=_;rw[yfy c b];show ifb (okc okN (low (low (dC (a+j))))) (some (byO (pJ (low (low (dC (a+j)))) (zc5 x)) (λv=>RV.v (.str v)) (.v .none),J))=_;rw[M,e,B];rfl
def f3(n:Nat)(s:LN)(f:Nat->V):L:=put (flr [(14,0),(33,0),(151,2)] (frm n f)) 33 (.str s)
theorem zs9(a:n=54∨n=55)(s:LN)(f:Nat->V):look (f3 n s f) 151=some (f 151)/\look (f3 n s f) 33=some (.str s):=by rcases a with rfl|rfl<;>exact⟨by kernel_rfl,by kernel_rfl⟩
def cS3(I:L):=eE (evM cxL (kid (rhs (lp 3)) [1,0])).1 [33] (qQ cxL []).2.1 (flr [(14,0),(33,0),(151,2)] I)
theorem e3{x:PlD}{n a j:Nat}{f:Nat->V}{J:Hp}(k:n=54∨n=55)(r:f 151= .ref 31)(b:nth J 31=some (.inst 184 [(30,.ref 32)]))(c:nth J 32=some (.list (mp x.rv (aC 5 0))))(i:∀j,x.wn j=dC (a+j))(l:a<28)(o:j<5):cS3 (frm n f) (.str (dC (a+j))) J=some (some (.str (x.val j)),J):=by
 obtain⟨e,h⟩:=zs9 k (dC (a+j)) f;rw[r] at e;have L:=(dL (cx:=cxL) (fl:=f3 n (dC (a+j)) f) (x:=3) (hp2:=J) (rs:=[]) (kp:=[]) (ap:=5607724) (q:=5607726) (es:=[]) (m:= .str (dC (a+j))) (fR (p:=5607718) h) rfl rfl).trans (aU (zr8 J) (x:=a+j) (Qb _) (by lia));have MK:fT cxL (.v (.ref 31)) 9 J=some (.fn 131 (.ref 31)):=by show bd (nth J 31) _=_;rw[b];rfl
 have G:ev cxL (f3 n (dC (a+j)) f) (kid (rhs (lp 3)) [1,0]) J=some (.v (.str (x.val j)),J):=(dL (cx:=cxL) (x:=9) (kp:=[]) (ap:=5606433) (q:=5606447) (fR (p:=5606429) e) MK (bU L)).trans (yf2 b c i l o);exact zd1 (fl':=f3 n (dC (a+j)) f) rfl rfl G
theorem asS(l:List LN):iP (bF l)=some l:=by
 induction l with
 |nil=>rfl
 |cons c r d=>show bd (iP (bF r)) (λl=>some (c::l))=_;rw[d];rfl
theorem zsm(h:aM (len l.flatten)=true)(B:aM (len l)=true):kC cxL (.str []) 6 [.l (bF l)] [] hp=some (.v (.str l.flatten),hp):=by show bd (bd (iP (bF l)) λa=>ifb (aM (len (aT [] a))) (ifb (aM (len a)) (some (RV.v (.str (aT [] a)))))) (λr=>some (r,hp))=_;rw[asS];show bd (ifb (aM (len (aT [] l))) (ifb (aM (len l)) (some (RV.v (.str (aT [] l)))))) (λr=>some (r,hp))=_;rw[iU,h,B];rfl
theorem st3{x:PlD}{n lw lo ln nm:Nat}{f:Nat->V}{a:Hp}(w:x.ok)(s:n=54∨n=55)(z:f 151= .ref 31)(r:f 50= .ref nm)(k:nth a 31=some (.inst 184 [(30,.ref 32)]))(h:nth a 32=some (.list (mp x.rv (aC 5 0))))(c:nth a nm=some (.list (bF (wsP (lw+lo) ln))))(u:∀j,x.wn j=dC (lw+j))(y:lw<28)(A:lo+ln≤5):
 ev cxL (frm n f) (rhs (lp 3)) a=some (.v (.str (bE x.val (aC ln lo))),a):=by
 have b:look (frm n f) 50=some (.ref nm):=by rw[←r];exact rG f _ (zds s (by kernel_rfl))
 have F:∀m i,i+m≤5->F2 (cS3 (frm n f)) a (bF (wsP (lw+i) m)) (bF (mp x.val (aC m i))):=λm=>by
  induction m with
  |zero=>exact λi U=>trivial
  |succ m d=>intro i D;refine⟨e3 s z k h u y (by lia),?_⟩;have:=d (i+1) (by lia);exact this
 have C:=zht (cx:=cxL) (e:=kid (rhs (lp 3)) [1,0]) (ts:=[33]) (tps:=[0]) (tp:=5610040) (ifs:=[]) (sc:=[(14,0),(33,0),(151,2)]) (p:=5611073) (q:=5606338) b c (F ln lo A) (by show aM (len (mp _ _))=true;rw[cZ,cZ,cO];exact aR (m:=5) (by lia) rfl)
 have t:=eQ w.lval (aC ln lo);rw[cO] at t;have J:=zsm (l:=mp x.val (aC ln lo)) (hp:=a) (by rw[kT];exact aR (m:=200) (by lia) rfl) (by rw[cZ,cO];exact aR (m:=5) (by lia) rfl);rw[kT] at J;exact(dL (cx:=cxL) (x:=6) (o:= .str "" [] 5605265) (m:= .str []) (kp:=[]) (ap:=5605270) (q:=5605315) rfl rfl (bU C)).trans J
noncomputable def eU(l:LN):Nat:=List.rec (motive:=λU=>Nat) 9 (λx U d=>cs (Nat.ble x d) x d) l
def pW(a:List (Nat×Nat))(c b:Nat):LN:=bE (λj=>repN [41] (mJ a j)++repN [40] (mN a j)) (aC c b)
def zvj(t:Nat)(r:LN)(k:Nat):Bool:=Nat.blt (lS r (upT t k)) (eU (aV t r k))
def ygy(t:Nat)(r:LN)(k:Nat):Bool:=aH (aH (Nat.ble 1 (eU (aV t r k))) (aH (Nat.ble 1 (len (aV t r k))) (Nat.ble (eU (aV t r k)+len (aV t r k)) 5)))
 (aH (aH (Nat.beq (smN (mp (λp=>2^p) (aV t r k))) ((2^len (aV t r k)-1)*2^eU (aV t r k))) (byO (unc ((aV t r k).map Int.ofNat)) (λp=>Z.eqB (uT p.1 p.2) (.ofNat (eU (aV t r k)))) false))
 (aH (zd7 (λp=>Nat.blt p 5) (aV t r k)) (byO (ckN (cs (zvj t r k) (40::pW (zX t r) (len (aV t r k)) (eU (aV t r k))) (pW (zX t r) (len (aV t r k)) (eU (aV t r k))++[41])) 0) (λk=>Nat.beq k 0) false)))
theorem ybt:aP 176 (λi=>aP 4 λk=>ygy (yI i).1 (yI i).2 (k+1))=true:=by kernel_rfl
theorem zh9:aP 176 (λi=>aH (Nat.blt (yI i).1 14) (aH (aP 5 λj=>eF (Nat.beq j) (yI i).2) (aH (Nat.beq (len (yI i).2) 5) (zd7 (λp=>Nat.blt p 5) (yI i).2))))=true:=by kernel_rfl
theorem zpw:aP 14 (λt=>aP 4 λk=>Nat.blt (upT t (k+1)) 5)=true:=by kernel_rfl
theorem yda:mp2 14 4 (λi j=>nth (V.int (.negSucc 0)::ivs (aW i)) (j+1))=mp2 14 4 (λi j=>some (V.int (.ofNat (upT i (j+1))))):=by kernel_rfl
theorem ydb:mp (λt=>len (V.int (.negSucc 0)::ivs (aW t))) (aC 14 0)=mp (λU=>5) (aC 14 0):=by kernel_rfl
theorem st4{t k b lo:Nat}{r B P:LN}{f:Nat->V}{hp:Hp}(c:t<14)(n:0<k/\k<5)(T:f 31= .int (.ofNat k))(N:f 146= .ref 25)(J:f 89= .ref 2)(G:f 169= .ref b)(u:f 172= .str P)(E:nth hp 2=some (gG (aW t)))(a:nth hp 25=some (.list (ivs r)))(g:nth hp b=some (.list (ivs B)))(H:aP 5 (λj=>eF (Nat.beq j) r)=true)(d:aM (len (ivs r))=true)(Q:byO (unc (B.map Int.ofNat)) (λp=>Z.eqB (uT p.1 p.2) (.ofNat lo)) false=true)(Y:len P≤1000):
 ev cxL (frm 55 f) (rhs (lp 4)) hp=some (.v (.str (cs (Nat.blt (lS r (upT t k)) lo) (40::P) (P++[41]))),hp):=by
 have i:k-1+1=k:=Qz n.1;have l:k-1<4:=Nat.lt_of_succ_lt_succ (i.symm▸n.2);have U:=bY yda c l;have y:=Qa (aG (aG zpw t c) (k-1) l);rw[i] at U y;have w:len (V.int (.negSucc 0)::ivs (aW t))=5:=aU ydb (Qb t) (lz c);have v:∀x ps z,eF (Nat.beq x) (tk 55 jH)=true->f x=z->ev cxL (frm 55 f) (.var x ps) hp=some (.v z,hp):=λx ps z h e=>mI h e;have S:=zdy (p:=5624878) (v 89 5624875 _ (by kernel_rfl) J) (v 31 5625389 _ (by kernel_rfl) T) (zqk E U (by rw[w];exact Qd (show k+1≤5 by lia)));have I:=(dL (x:=2) (kp:=[]) (ap:=5623463) (q:=5623471) (v 146 5623457 _ (by kernel_rfl) N) (zk0 a rfl) (bU S)).trans (zmw a (aG H _ (by lia)) d);have M:=hH (cx:=cxL) (x:=171) (f:= .min) (p:=5626165) (q:=5626172) rfl (bU (v 169 5626683 _ (by kernel_rfl) G)) (zk2 g Q);have C:tr cxL (frm 55 f) (kid (rhs (lp 4)) [0]) hp=some (Nat.blt (lS r (upT t k)) lo,hp):=gH (o:= .Lt) I M rfl;have A:ev cxL (frm 55 f) (kid (rhs (lp 4)) [1]) hp=some (.v (.str (40::P)),hp):=bS (s:=[40]) rfl (v 172 _ _ (by kernel_rfl) u) (aR (m:=1001) (by show 1+len P≤1001;lia) rfl);have D:ev cxL (frm 55 f) (kid (rhs (lp 4)) [2]) hp=some (.v (.str (P++[41])),hp):=bS (t:=[41]) (v 172 _ _ (by kernel_rfl) u) rfl (aR (m:=1001) (by show len P+1≤1001;lia) rfl);cases z:Nat.blt (lS r (upT t k)) lo with
 |true=>rw[z] at C;exact ybf C A
 |false=>rw[z] at C;exact ybg C D
theorem st5{x:PlD}(a:x.ok){sd:Bool}{ln lo:Nat}{f:Nat->V}{hp:Hp}(l:lo+ln≤5)(j:f 172= .str (cs sd (40::bE x.val (aC ln lo)) (bE x.val (aC ln lo)++[41])))(i:byO (ckN (cs sd (40::pW x.tz ln lo) (pW x.tz ln lo++[41])) 0) (λk=>Nat.beq k 0) false=true):
 ex cxL (lp 5) (frm 55 f) hp=some (.next,frm 55 f,hp):=by
 have h:=eQ a.lval (aC ln lo);rw[cO] at h;have V:ev cxL (frm 55 f) (.var 172 5639970) hp=some (.v (.str (cs sd (40::bE x.val (aC ln lo)) (bE x.val (aC ln lo)++[41]))),hp):=mI (by kernel_rfl) j;have u:∃z,stP (cs sd (40::bE x.val (aC ln lo)) (bE x.val (aC ln lo)++[41]))=some z/\sgG z false=cs sd (40::pW x.tz ln lo) (pW x.tz ln lo++[41]):=by
  cases sd with
  |true=>
   have e:=a.unq [] (aC ln lo);have s:=a.sg [] (aC ln lo);rw[List.append_nil] at e;have e:cR (bE x.val (aC ln lo)) false [] none=bE x.seen (aC ln lo):=e.trans (List.append_nil _);rw[List.append_nil] at s;have s:sgG (bE x.seen (aC ln lo)) false=pW x.tz ln lo:=s.trans (List.append_nil _);refine⟨40::bE x.seen (aC ln lo),?_,?_⟩
   · refine(zcu (s:=40::bE x.val (aC ln lo)) (by show len (bE x.val (aC ln lo))+1≤50000;lia)).trans ?_
     have q:cR (40::bE x.val (aC ln lo)) false [] none=[40]++cR (bE x.val (aC ln lo)) false [] none:=qY (bE x.val (aC ln lo)) false [40] [] none;rw[q,e];rfl
   · show 40::sgG (bE x.seen (aC ln lo)) false=40::pW x.tz ln lo
     rw[s]
  |false=>refine⟨bE x.seen (aC ln lo)++[41],?_,a.sg [41] (aC ln lo)⟩;refine(zcu (s:=bE x.val (aC ln lo)++[41]) (by rw[eG];show len (bE x.val (aC ln lo))+1≤50000;lia)).trans ?_;rw[a.unq [41]];rfl
 obtain⟨z,c,b⟩:=u;have S:SL 217 [.v (.str (cs sd (40::bE x.val (aC ln lo)) (bE x.val (aC ln lo)++[41])))] [] hp=some (.v (.bool true),hp):=by show bd (stP (cs sd (40::bE x.val (aC ln lo)) (bE x.val (aC ln lo)++[41]))) (λt=>some (RV.v (.bool (ckP t)),hp))=_;rw[c];show some (RV.v (.bool (ckP z)),hp)=_;rw[ybr,b,i]
 exact tH (bs:=[]) (gH (o:= .IsNot) ((gA (x:=118) (f:=217) rfl (bU V)).trans S) rfl rfl)
structure F41(lw:Nat)(f:Nat->V):Prop where
 a:f 89= .ref 2
 b:f 146= .ref 25
 c:f 123= .int (.ofNat lw)
 d:f 54= .ref 27
 e:f 151= .ref 31
structure H41(x:PlD)(t:Nat)(r:LN)(hp:Hp):Prop where
 a:nth hp 2=some (gG (aW t))
 b:nth hp 25=some (.list (ivs r))
 c:nth hp 27=some (.list (mp V.str gW))
 d:nth hp 31=some (.inst 184 [(30,.ref 32)])
 e:nth hp 32=some (.list (mp x.rv (aC 5 0)))
theorem H41.sn(h:H41 x t r J)(o:O):H41 x t r (J++[o]):=⟨zaw _ h.a,zaw _ h.b,zaw _ h.c,zaw _ h.d,zaw _ h.e⟩
theorem b41(a:n=53∨n=55)(v:V)(f:Nat->V)(J:Hp):bW cxL (fC 40) (.v v) (frm n f) J=some (frm n (ov [(31,v)] f),J):=by rcases a with rfl|rfl<;>kernel_rfl
theorem pt0(a:n=53∨n=55)(v:V)(f:Nat->V):∃m,(m=54∨m=55)/\put (frm n f) 169 v=frm m (ov [(169,v)] f):=by
 rcases a with rfl|rfl
 · exact⟨54,.inl rfl,by kernel_rfl⟩
 · exact⟨55,.inr rfl,by kernel_rfl⟩
theorem pt1(a:n=54∨n=55)(v:V)(f:Nat->V):put (frm n f) 50 v=frm n (ov [(50,v)] f):=by rcases a with rfl|rfl<;>kernel_rfl
theorem pt3(a:n=54∨n=55)(v:V)(f:Nat->V):put (frm n f) 172 v=frm 55 (ov [(172,v)] f):=by rcases a with rfl|rfl<;>kernel_rfl
theorem zov(h:ev E I e J=some (.l G,a)):ex E (.asg [.name x p] e q) I J=some (.next,put I x (.ref (len a)),a++[.list G]):=zwh h
theorem t41(g:x.ok)(T:i<176)(hx:x.tz=zX (yI i).1 (yI i).2)(hw:∀j,x.wn j=dC (lw+j))(E:lw<28)(hk:k<4)(C:n=53∨n=55)(o:F41 lw f)(I:H41 x (yI i).1 (yI i).2 J):
 ∃Y z,aX cxL (fC 40) (exs cxL (hU 40)) (.int (.ofNat (k+1))) (frm n f) J=some (.next,frm 55 Y,z)/\F41 lw Y/\H41 x (yI i).1 (yI i).2 z:=by
 refine aI (aG (aG ybt i T) k hk) λy s=>?_;refine aI y λy w=>?_;refine aI w λw u=>?_;refine aI s λs M=>?_;refine aI s λs c6=>?_;refine aI M λM c7=>?_;have y:=Qa y;have w:=Qa w;have u:=Qa u;have s:=aN s;refine aI (aG zh9 i T) λr1 H=>?_;refine aI H λH Q=>?_;refine aI Q λQ U=>?_;have N:(yI i).1<14:=Qa r1;have D:aM (len (ivs (yI i).2))=true:=by rw[show len (ivs (yI i).2)=5 from(cZ _ _).trans (aN Q)];rfl
 have B5:∀p∈aV (yI i).1 (yI i).2 (k+1),p<5:=λp h=>Qa (pP M p h);have S0:=st0 (t:=(yI i).1) (k:=k+1) (n:=n) (r:=(yI i).2) (f:=ov [(31,.int (.ofNat (k+1)))] f) (hp:=J) N ⟨by lia,by lia⟩ C rfl o.b o.a I.a I.b H D;obtain⟨m,A,P0⟩:=pt0 C (.ref (len J)) (ov [(31,.int (.ofNat (k+1)))] f);have A0:ex cxL (lp 0) (frm n (ov [(31,.int (.ofNat (k+1)))] f)) J=some (.next,frm m (ov [(169,.ref (len J))] (ov [(31,.int (.ofNat (k+1)))] f)),J++[.list (ivs (aV (yI i).1 (yI i).2 (k+1)))]):=by rw[←P0];exact zov S0
 have G:=I.sn (.list (ivs (aV (yI i).1 (yI i).2 (k+1))));have S1:=st1 (n:=m) (low:=lw) (lo:=eU (aV (yI i).1 (yI i).2 (k+1))) (ln:=len (aV (yI i).1 (yI i).2 (k+1))) (b:=len J) (B:=aV (yI i).1 (yI i).2 (k+1)) (f:=ov [(169,.ref (len J))] (ov [(31,.int (.ofNat (k+1)))] f)) (hp:=J++[.list (ivs (aV (yI i).1 (yI i).2 (k+1)))]) A o.c rfl (zg8 _ _) B5 (by lia) E y w u s;have A1:ex cxL (lp 1) (frm m (ov [(169,.ref (len J))] (ov [(31,.int (.ofNat (k+1)))] f))) (J++[.list (ivs (aV (yI i).1 (yI i).2 (k+1)))])=some (.next,frm m (ov [(50,.ref (len (J++[.list (ivs (aV (yI i).1 (yI i).2 (k+1)))])))] (ov [(169,.ref (len J))] (ov [(31,.int (.ofNat (k+1)))] f))),J++[.list (ivs (aV (yI i).1 (yI i).2 (k+1)))]++[.list (bF (wsP (lw+eU (aV (yI i).1 (yI i).2 (k+1))) (len (aV (yI i).1 (yI i).2 (k+1)))))]):=by rw[←pt1 A];exact zov S1
 have l:=G.sn (.list (bF (wsP (lw+eU (aV (yI i).1 (yI i).2 (k+1))) (len (aV (yI i).1 (yI i).2 (k+1))))));have A2:=st2 (n:=m) (low:=lw) (lo:=eU (aV (yI i).1 (yI i).2 (k+1))) (ln:=len (aV (yI i).1 (yI i).2 (k+1))) (b:=len J) (nm:=len (J++[.list (ivs (aV (yI i).1 (yI i).2 (k+1)))])) (B:=aV (yI i).1 (yI i).2 (k+1)) (f:=ov [(50,.ref (len (J++[.list (ivs (aV (yI i).1 (yI i).2 (k+1)))])))] (ov [(169,.ref (len J))] (ov [(31,.int (.ofNat (k+1)))] f))) (hp:=J++[.list (ivs (aV (yI i).1 (yI i).2 (k+1)))]++[.list (bF (wsP (lw+eU (aV (yI i).1 (yI i).2 (k+1))) (len (aV (yI i).1 (yI i).2 (k+1)))))]) A o.c rfl rfl o.d (zaw _ (zg8 _ _)) (zg8 _ _) l.c E y w u rfl c6;have S3:=st3 (x:=x) (n:=m) (lw:=lw) (lo:=eU (aV (yI i).1 (yI i).2 (k+1))) (ln:=len (aV (yI i).1 (yI i).2 (k+1))) (nm:=len (J++[.list (ivs (aV (yI i).1 (yI i).2 (k+1)))])) (f:=ov [(50,.ref (len (J++[.list (ivs (aV (yI i).1 (yI i).2 (k+1)))])))] (ov [(169,.ref (len J))] (ov [(31,.int (.ofNat (k+1)))] f))) g A o.e rfl l.d l.e (zg8 _ _) hw E u;have A3:=zb6 (x:=172) (p:=5604364) (q:=5604419) S3;rw[pt3 A] at A3;have lv:=eQ g.lval (aC (len (aV (yI i).1 (yI i).2 (k+1))) (eU (aV (yI i).1 (yI i).2 (k+1))));rw[cO] at lv;have S4:=st4 (t:=(yI i).1) (k:=k+1) (b:=len J) (lo:=eU (aV (yI i).1 (yI i).2 (k+1))) (r:=(yI i).2) (B:=aV (yI i).1 (yI i).2 (k+1)) (P:=bE x.val (aC (len (aV (yI i).1 (yI i).2 (k+1))) (eU (aV (yI i).1 (yI i).2 (k+1))))) (f:=ov [(172,.str (bE x.val (aC (len (aV (yI i).1 (yI i).2 (k+1))) (eU (aV (yI i).1 (yI i).2 (k+1))))))] (ov [(50,.ref (len (J++[.list (ivs (aV (yI i).1 (yI i).2 (k+1)))])))] (ov [(169,.ref (len J))] (ov [(31,.int (.ofNat (k+1)))] f)))) (hp:=J++[.list (ivs (aV (yI i).1 (yI i).2 (k+1)))]++[.list (bF (wsP (lw+eU (aV (yI i).1 (yI i).2 (k+1))) (len (aV (yI i).1 (yI i).2 (k+1)))))]) N ⟨by lia,by lia⟩ rfl o.b o.a rfl rfl l.a l.b (zaw _ (zg8 _ _)) H D c6 (by lia);have A4:=zb6 (x:=172) (p:=5620748) (q:=5620812) S4;rw[pt3 (.inr rfl)] at A4;have A5:=st5 g (sd:=zvj (yI i).1 (yI i).2 (k+1)) (ln:=len (aV (yI i).1 (yI i).2 (k+1))) (lo:=eU (aV (yI i).1 (yI i).2 (k+1))) (f:=ov [(172,.str (cs (Nat.blt (lS (yI i).2 (upT (yI i).1 (k+1))) (eU (aV (yI i).1 (yI i).2 (k+1)))) (40::bE x.val (aC (len (aV (yI i).1 (yI i).2 (k+1))) (eU (aV (yI i).1 (yI i).2 (k+1))))) (bE x.val (aC (len (aV (yI i).1 (yI i).2 (k+1))) (eU (aV (yI i).1 (yI i).2 (k+1))))++[41])))] (ov [(172,.str (bE x.val (aC (len (aV (yI i).1 (yI i).2 (k+1))) (eU (aV (yI i).1 (yI i).2 (k+1))))))] (ov [(50,.ref (len (J++[.list (ivs (aV (yI i).1 (yI i).2 (k+1)))])))] (ov [(169,.ref (len J))] (ov [(31,.int (.ofNat (k+1)))] f))))) (hp:=J++[.list (ivs (aV (yI i).1 (yI i).2 (k+1)))]++[.list (bF (wsP (lw+eU (aV (yI i).1 (yI i).2 (k+1))) (len (aV (yI i).1 (yI i).2 (k+1)))))]) u rfl (by rw[hx];exact c7);refine⟨ov [(172,.str (cs (Nat.blt (lS (yI i).2 (upT (yI i).1 (k+1))) (eU (aV (yI i).1 (yI i).2 (k+1)))) (40::bE x.val (aC (len (aV (yI i).1 (yI i).2 (k+1))) (eU (aV (yI i).1 (yI i).2 (k+1))))) (bE x.val (aC (len (aV (yI i).1 (yI i).2 (k+1))) (eU (aV (yI i).1 (yI i).2 (k+1))))++[41])))] (ov [(172,.str (bE x.val (aC (len (aV (yI i).1 (yI i).2 (k+1))) (eU (aV (yI i).1 (yI i).2 (k+1))))))] (ov [(50,.ref (len (J++[.list (ivs (aV (yI i).1 (yI i).2 (k+1)))])))] (ov [(169,.ref (len J))] (ov [(31,.int (.ofNat (k+1)))] f)))),_,?_,?_,l⟩
 · show bd (bW cxL (fC 40) (.v (.int (.ofNat (k+1)))) (frm n f) J) _=_
   rw[b41 C];exact cL (bs:=[lp 1,lp 2,lp 3,lp 4,lp 5]) A0 rfl rfl (cL A1 rfl rfl (cL A2 rfl rfl (cL A3 rfl rfl (cL A4 rfl rfl (cL (bs:=[]) A5 rfl rfl rfl)))))
 · exact⟨o.a,o.b,o.c,o.d,o.e⟩
theorem yec(c:x.ok)(l:i<176)(a:x.tz=zX (yI i).1 (yI i).2)(b:∀j,x.wn j=dC (lw+j))(h:lw<28)(r:F41 lw f)(q:H41 x (yI i).1 (yI i).2 hp):
 ∃w,exs cxL (seg 40 2) (frm 53 f) hp=some (.ret (.v (.bool true)),w):=by
 obtain⟨E,p,g,D,y⟩:=t41 c l a b h (k:=0) (by lia) (.inl rfl) r q;obtain⟨C,o,d,A,u⟩:=t41 c l a b h (k:=1) (by lia) (.inr rfl) D y;obtain⟨B,n,Q,z,t⟩:=t41 c l a b h (k:=2) (by lia) (.inr rfl) A u;obtain⟨s,m,H,I,G⟩:=t41 c l a b h (k:=3) (by lia) (.inr rfl) z t;refine⟨(frm 55 s,m),?_⟩;have e:∀(fl:L) (hp:Hp),exs cxL (seg 40 2) fl hp=bd (bd (bR (aX cxL (fC 40) (exs cxL (hU 40))) 5 (.items [.int (.ofNat 1),.int (.ofNat 2),.int (.ofNat 3),.int (.ofNat 4)]) fl hp) (iQ (exs cxL []))) λw=>nx w (exs cxL (seg 41 1) w.2.1 w.2.2):=λfl hp=>by kernel_rfl
 rw[e,eC g,eC d,eC Q,eC H];kernel_rfl
noncomputable def upL(a:L):L->L:=List.rec (motive:=λU=>L->L) (λl=>l) (λp U d l=>d (put l p.1 p.2)) a
noncomputable def upH(a:List (Nat×O)):Hp->Hp:=List.rec (motive:=λU=>Hp->Hp) (λl=>l) (λp U d l=>d (cs (Nat.ble (len l) p.1) (l++[p.2]) (upd l p.1 p.2))) a
structure LW where
 c:Nat->Int
 t:Nat
 o:Nat
 r:Nat->Nat
 w:Nat->Nat
 p2:Nat->O
 j:Nat
namespace LW
def wd(x:LW):Nat:=dg (x.c 4) 3
def lw(x:LW):Nat:=dg (dvN (x.c 4) [3]) 28
def ovr(x:LW):Nat:=dg (dvN (x.c 4) [3,28]) 3
def on(x:LW):Nat:=dg (dvN (x.c 4) [3,28,3]) 5
def rn(x:LW):Nat:=dg (dvN (x.c 4) [3,28,3,5]) 3
def tb(x:LW):Nat:=dg (dvN (x.c 4) [3,28,3,5,3]) 2
def mr(x:LW):Nat:=dg (dvN (x.c 4) [3,28,3,5,3,2]) 4
def wo(x:LW):Nat:=dg (dvN (x.c 4) [3,28,3,5,3,2,4]) 30
noncomputable def v(x:LW)(k:Nat):V:= .int (x.c k)
def ld(x:LW)(k:Nat):LN:=cP (rlT x.t x.r k)
def s(x:LW):Nat->LN:=sT x.t x.r x.wd
def cn(x:LW):Nat->LN:=cnT x.t x.r
def ups(x:LW):O:=gG (aW x.t)
noncomputable def dv(x:LW)(k:Nat):V:=cs (Nat.beq k 4) (.int (.ofNat x.wo)) (.int (.ofNat (x.w k)))
def rg(x:LW):LN:=(yI x.j).2
def la(x:LW):LN:=ldT (rlT x.t x.r x.on) x.wd
def al(x:LW):LN:=ldT (fN (eT x.rn x.tb)) x.mr
def pl(x:LW):PlD where
 tz:=tyI x.j
 rg:=λk=>byO (nth x.rg k) id 0
 dr:=λk=>cs (Nat.beq k 0) x.wo (x.w (k-1))
 wn:=λk=>dC (x.lw+k)
 nw:=cs (Nat.beq x.ovr 0) 5 6
 wx:=λk=> .str (byO (nth (jD x.lw x.ovr) k) id [])
structure ok(x:LW):Prop where
 t:x.t<14
 o:x.o<24
 r:∀j,x.r j<3
 w:∀j,x.w j<30
 j:x.j<176
 y:yI x.j=(x.t,vO (aW x.t) (gM x.o))
noncomputable def L2(x:LW):L:=[(96,.ref 0),(89,.ref 2),(91,.ref 4),(92,.ref 5),(93,.ref 6)]
def H2(x:LW):Hp:=[.list (lB x.c),x.p2 1,x.ups,x.p2 3,.list (mp (λj=>V.str (x.ld j)) (aC 5 0)),.list (ivs (gM x.o)),.list (mp (λj=>V.int (.ofNat (x.w j))) (aC 4 0)),x.p2 7]
noncomputable def L3(x:LW):L:=upL [(122,.int (.ofNat x.wd)),(123,.int (.ofNat x.lw)),(124,.int (.ofNat x.ovr)),(116,.int (.ofNat x.on)),(98,.int (.ofNat x.rn)),(125,.int (.ofNat x.tb)),(126,.int (.ofNat x.mr)),(100,.int (.ofNat x.wo))] (x.L2)
noncomputable def H3(x:LW):Hp:=x.H2
noncomputable def L4(x:LW):L:=upL [(127,.ref 8)] (x.L3)
noncomputable def H4(x:LW):Hp:=upH [(8,.inst 184 [(30,.ref 9)]),(9,.list [])] (x.H3)
noncomputable def L5(x:LW):L:=upL [(31,.int 4)] (x.L4)
def H5(x:LW):Hp:=upH [(9,.list (sN x.s 5))] (x.H4)
noncomputable def L6(x:LW):L:=upL [(130,.ref 10),(131,.ref 11)] (x.L5)
def H6(x:LW):Hp:=upH [(9,.list (sN x.s 5++[zkd])),(10,.list []),(11,.list [])] (x.H5)
noncomputable def L8(x:LW):L:=upL [(33,.str [69]),(135,.ref 16)] (x.L6)
def H8(x:LW):Hp:=upH [(10,.list (pv (chT x.t 5))),(11,x.ups),(12,wsL (x.s 0) (x.cn 0) x.wd),(13,wsL (x.s 1) (x.cn 1) x.wd),(14,wsL (x.s 2) (x.cn 2) x.wd),(15,wsL (x.s 3) (x.cn 3) x.wd),(16,wsL (x.s 4) (x.cn 4) x.wd)] (x.H6)
noncomputable def L14(x:LW):L:=upL [(135,.ref 18),(105,.str x.la),(137,.str x.al),(138,.ref 17),(79,.ref 19)] (x.L8)
def H14(x:LW):Hp:=upH [(17,.list (tV x.la x.al)),(18,o18 (rlT x.t x.r x.on) x.wd),(19,o19 (eT x.rn x.tb) x.mr)] (x.H8)
noncomputable def L16(x:LW):L:=upL [(140,.ref 20),(115,.ref 21)] (x.L14)
def H16(x:LW):Hp:=upH [(20,.list (zeq.map bI)),(21,.inst 184 [(30,.ref 20)])] (x.H14)
def L25(x:LW):L:=upL [(31,.int (.ofNat (zvy (aW x.t) (gM x.o)))),(109,.int 3),(50,.str [65,66,67,68,69]),(142,.ref 22),(143,.ref 23),(145,.ref 24),(146,.ref 25)] (x.L16)
def H25(x:LW):Hp:=upH [(20,ztk (aW x.t) (gM x.o)),(22,.list (ivs x.rg)),(23,ztk (aW x.t) (gM x.o)),(24,.list ((znr (aW x.t) (gM x.o)).map bI++[.tup [.str [97],.str [122]]])),(25,.list (ivs x.rg))] (x.H16)
noncomputable def L27(x:LW):L:=upL [(54,.ref 27)] (x.L25)
def H27(x:LW):Hp:=upH [(26,.list (mp V.str znk)),(27,.list (mp V.str gW))] (x.H25)
noncomputable def L28(x:LW):L:=upL [(147,.ref 28)] (x.L27)
def H28(x:LW):Hp:=upH [(28,.list (mp V.str (jD x.lw x.ovr)))] (x.H27)
noncomputable def L30(x:LW):L:=upL [(149,.ref 29)] (x.L28)
def H30(x:LW):Hp:=upH [(29,.list (mp fX (tyI x.j)))] (x.H28)
noncomputable def L32(x:LW):L:=upL [(93,.ref 30),(151,.ref 31),(152,.ref 33),(153,.str []),(117,.str []),(154,.ref 34)] (x.L30)
noncomputable def H32(x:LW):Hp:=upH [(30,.list [x.dv 4,x.dv 0,x.dv 1,x.dv 2,x.dv 3]),(31,.inst 184 [(30,.ref 32)]),(32,.list []),(33,.list []),(34,.list [])] (x.H30)
noncomputable def L32q(x:LW):L:=x.L32
noncomputable def H32q(x:LW):Hp:=upH [(25,.list (mp x.pl.R (aC 5 0))),(28,.list (mp x.pl.wx (aC x.pl.nw 0))),(30,.list (mp x.pl.D (aC 5 0)))] (x.H32)
def L33(x:LW):L:=upL [(153,.str (x.pl.shP 5)),(117,.str (x.pl.rwP 5)),(154,.ref 39),(155,.int 4),(156,.int (.ofNat (x.pl.a 4))),(62,.int (.ofNat (x.pl.b 4))),(158,.str (bxN (x.pl.d 4))),(159,hvG (x.pl.d 4/5)),(161,.str (x.pl.seen 4))] (x.L32q)
def H33(x:LW):Hp:=upH [(32,.list (mp x.pl.rv (aC 5 0))),(33,.list (mp x.pl.wv (aC 5 0))),(34,.list (ivs (x.pl.owP 0))),(35,.list (ivs (x.pl.owP 1))),(36,.list (ivs (x.pl.owP 2))),(37,.list (ivs (x.pl.owP 3))),(38,.list (ivs (x.pl.owP 4))),(39,.list (ivs (x.pl.owP 5)))] (x.H32q)
def L36(x:LW)(a e:Int)(y:LN):L:=upL [(94,.str (cK x.pl)),(162,.int a),(163,.str (cK x.pl)),(164,.str (x.pl.rwP 5)),(165,.int e),(166,.str y)] (x.L33)
noncomputable def H36(x:LW)(a e:Int)(y:LN):Hp:=x.H33
noncomputable def L38(x:LW)(a e:Int)(y:LN):L:=upL [(167,.ref 40),(51,.int 7)] (x.L36 a e y)
def H38(x:LW)(a e:Int)(y:LN):Hp:=upH [(40,.list (mp fX (pB (tyI x.j))))] (x.H36 a e y)
end LW
noncomputable def rd(l:L)(z:Nat):V:=byO (look l z) id .none
noncomputable def rh(l:Hp)(i:Nat):O:=byO (nth l i) id (.list [])
theorem yf6(x:LW)(q:Nat->V):frG (x.c 4) q=ov [(96,.ref 0),(122,.int (.ofNat x.wd)),(123,.int (.ofNat x.lw)),(124,.int (.ofNat x.ovr)),(116,.int (.ofNat x.on)),(98,.int (.ofNat x.rn)),(125,.int (.ofNat x.tb)),(126,.int (.ofNat x.mr)),(100,.int (.ofNat x.wo))] q:=by have e:∀(c:Int) (b:Nat),0<b->Int.fmod c (.ofNat b)= .ofNat (dg c b):=λc b h=>(eD c h).1;unfold LW.wd LW.lw LW.ovr LW.on LW.rn LW.tb LW.mr LW.wo;rw[←e _ 3 (by lia),←e _ 28 (by lia),←e _ 3 (by lia),←e _ 5 (by lia),←e _ 3 (by lia),←e _ 2 (by lia),←e _ 4 (by lia),←e _ 30 (by lia)];rfl
def lR(t:Nat)(q:Nat->V)(p:Nat->O)(o:Nat):Option (Fl×L×Hp):=exs cxL (seg 16 9) (A16 q) (H17 (aW t) (gM o) p)
def lT(t:Nat)(q:Nat->V)(p:Nat->O)(o:Nat):Option (Fl×L×Hp):=some (.next,B25 (aW t) (gM o) q,I25 (aW t) (gM o) p)
theorem yeb(q:Nat->V)(p:Nat->O):mp (lR 0 q p) (aC 24 0)=mp (lT 0 q p) (aC 24 0):=by kernel_rfl
theorem yea(q:Nat->V)(p:Nat->O):mp (lR 1 q p) (aC 24 0)=mp (lT 1 q p) (aC 24 0):=by kernel_rfl
theorem yd9(q:Nat->V)(p:Nat->O):mp (lR 2 q p) (aC 24 0)=mp (lT 2 q p) (aC 24 0):=by kernel_rfl
theorem yd8(q:Nat->V)(p:Nat->O):mp (lR 3 q p) (aC 24 0)=mp (lT 3 q p) (aC 24 0):=by kernel_rfl
theorem yd7(q:Nat->V)(p:Nat->O):mp (lR 4 q p) (aC 24 0)=mp (lT 4 q p) (aC 24 0):=by kernel_rfl
theorem yd6(q:Nat->V)(p:Nat->O):mp (lR 5 q p) (aC 24 0)=mp (lT 5 q p) (aC 24 0):=by kernel_rfl
theorem yd5(q:Nat->V)(p:Nat->O):mp (lR 6 q p) (aC 24 0)=mp (lT 6 q p) (aC 24 0):=by kernel_rfl
theorem yd4(q:Nat->V)(p:Nat->O):mp (lR 7 q p) (aC 24 0)=mp (lT 7 q p) (aC 24 0):=by kernel_rfl
theorem yd3(q:Nat->V)(p:Nat->O):mp (lR 8 q p) (aC 24 0)=mp (lT 8 q p) (aC 24 0):=by kernel_rfl
theorem yd2(q:Nat->V)(p:Nat->O):mp (lR 9 q p) (aC 24 0)=mp (lT 9 q p) (aC 24 0):=by kernel_rfl
theorem zx3(q:Nat->V)(p:Nat->O):mp (lR 10 q p) (aC 24 0)=mp (lT 10 q p) (aC 24 0):=by kernel_rfl
theorem zx2(q:Nat->V)(p:Nat->O):mp (lR 11 q p) (aC 24 0)=mp (lT 11 q p) (aC 24 0):=by kernel_rfl
theorem zx1(q:Nat->V)(p:Nat->O):mp (lR 12 q p) (aC 24 0)=mp (lT 12 q p) (aC 24 0):=by kernel_rfl
theorem zx0(q:Nat->V)(p:Nat->O):mp (lR 13 q p) (aC 24 0)=mp (lT 13 q p) (aC 24 0):=by kernel_rfl
theorem eR{P:Nat->Prop}{n:Nat}(h:∀t,t<n->P t)(k:P n)(t:Nat)(a:t<n+1):P t:=(Nat.lt_or_eq_of_le (Wa a)).elim (h t) λe=>e▸k
theorem yi7{t o:Nat}(a:t<14)(b:o<24)(q:Nat->V)(p:Nat->O):lR t q p o=lT t q p o:=
 gQ (eR (P:=λt=>mp (lR t q p) (aC 24 0)=mp (lT t q p) (aC 24 0)) (eR (eR (eR (eR (eR (eR (eR (eR (eR (eR (eR (eR (eR (λt h=>absurd h (Nat.not_lt_zero t)) (yeb q p)) (yea q p)) (yd9 q p)) (yd8 q p)) (yd7 q p)) (yd6 q p)) (yd5 q p)) (yd4 q p)) (yd3 q p)) (yd2 q p)) (zx3 q p)) (zx2 q p)) (zx1 q p)) (zx0 q p) t a) o (sH (Qb _) (by omega))
section
theorem ydc:aP 176 (λi=>aH (zd7 (λy:Nat×Nat=>aH (Nat.blt y.1 5) (Nat.blt y.2 5)) (tyI i)) (Nat.ble (len (tyI i)) 4))=true:=by kernel_rfl
theorem yf9:aP 33 (λi=>okc okN (dC i))=true:=by kernel_rfl
theorem zwv:mp (λi=>mp V.str (jD (i/3) (i%3))) (aC 84 0)=mp (λi=>mp (λk=>V.str (byO (nth (jD (i/3) (i%3)) k) id [])) (aC (cs (Nat.beq (i%3) 0) 5 6) 0)) (aC 84 0):=by kernel_rfl
theorem zwu:aP 84 (λi=>aP 5 λk=>leq (byO (nth (jD (i/3) (i%3)) k) id []) (dC (i/3+k)))=true:=by kernel_rfl
theorem zx9:mp (λi=>ivs (yI i).2) (aC 176 0)=mp (λi=>mp (λk=>V.int (.ofNat (byO (nth (yI i).2 k) id 0))) (aC 5 0)) (aC 176 0):=by kernel_rfl
theorem yfb{a:Type}:∀{l:List a} {i:Nat} {v:a},nth l i=some v->v∈l
 |[],i,v,h=>nomatch h
 |x::l,0,v,h=>by rw[←prf (show some x=some v from h)];exact .head _
 |x::l,i+1,v,h=> .tail _ (yfb (l:=l) (i:=i) h)
namespace LW
variable{x:LW}
theorem b_wd(x:LW):x.wd<3:=(eD _ (by lia)).2
theorem b_lw(x:LW):x.lw<28:=(eD _ (by lia)).2
theorem b_ov(x:LW):x.ovr<3:=(eD _ (by lia)).2
theorem b_on(x:LW):x.on<5:=(eD _ (by lia)).2
theorem b_rn(x:LW):x.rn<3:=(eD _ (by lia)).2
theorem b_tb(x:LW):x.tb<2:=(eD _ (by lia)).2
theorem b_mr(x:LW):x.mr<4:=(eD _ (by lia)).2
theorem b_wo(x:LW):x.wo<30:=(eD _ (by lia)).2
theorem i28(x:LW):(x.lw*3+x.ovr)/3=x.lw/\(x.lw*3+x.ovr)%3=x.ovr/\x.lw*3+x.ovr<0+84:=by have:=x.b_lw;have:=x.b_ov;lia
theorem e_words(x:LW):mp V.str (jD x.lw x.ovr)=mp x.pl.wx (aC x.pl.nw 0):=by have:=aU zwv (x:=x.lw*3+x.ovr) (Qb _) x.i28.2.2;rw[x.i28.1,x.i28.2.1] at this;exact this
theorem ok.e_rg(h:x.ok):ivs x.rg=mp x.pl.R (aC 5 0):=aU zx9 (Qb x.j) (by have:=h.j;lia)
theorem ok.pl(h:x.ok):x.pl.ok:=by
 have i:=h.j;refine aI (aG ydc x.j i) λn m=>?_;refine aI (aG zh9 x.j i) λU c=>?_;refine aI c λU c=>?_;refine aI c λU l=>?_;refine⟨λy p=>?_,Qa m,λk=>?_,λk=>?_,?_,λk f=>?_,λk f=>?_⟩
 · refine aI (pP n y p) λa b=>?_
   exact⟨Qa a,Qa b⟩
 · show byO (nth x.rg k) id 0<5
   cases e:nth x.rg k with
   |none=>show 0<5;lia
   |some v=>exact Qa (pP l v (yfb e))
 · show cs (Nat.beq k 0) x.wo (x.w (k-1))<30
   cases Nat.beq k 0 with
   |true=>exact x.b_wo
   |false=>exact h.w _
 · show cs (Nat.beq x.ovr 0) 5 6=5∨_
   show cs (Nat.beq x.ovr 0) 5 6=5∨cs (Nat.beq x.ovr 0) 5 6=6;cases Nat.beq x.ovr 0 with
   |true=>exact .inl rfl
   |false=>exact .inr rfl
 · have:=aG (aG zwu (x.lw*3+x.ovr) (by have:=x.i28.2.2;lia)) k f
   rw[x.i28.1,x.i28.2.1] at this;exact congrArg V.str (cN this)
 · exact aG yf9 (x.lw+k) (by have:=x.b_lw;lia)
end LW
open LW
section
variable{x:LW}
theorem lnk(h:exs cxL A k e=some (.next,i,b))(p:I=k)(n:J=e)(m:i=f)(l:b=a):exs cxL A I J=some (.next,f,a):=by subst p;subst n;subst m;subst l;exact h
theorem S3(x:LW):exs cxL (seg 2 1) x.L2 x.H2=some (.next,x.L3,x.H3):=by have h:=yi4 (rd x.L2) x.v (rh x.H2) (x.c 4);rw[yf6] at h;exact lnk h (by kernel_rfl) (by kernel_rfl) (by kernel_rfl) (by kernel_rfl)
theorem S4(x:LW):exs cxL (seg 3 1) x.L3 x.H3=some (.next,x.L4,x.H4):=lnk (ydp (rd x.L3) (rh x.H3)) (by kernel_rfl) (by kernel_rfl) (by kernel_rfl) (by kernel_rfl)
theorem S5(h:x.ok):exs cxL (seg 4 1) x.L4 x.H4=some (.next,x.L5,x.H5):=
 lnk (yi9 (t:=x.t) (w:=x.wd) (r:=x.r) h.t x.b_wd h.r (rd x.L4) (rh x.H4)) (by kernel_rfl) (by kernel_rfl) (by kernel_rfl) (by kernel_rfl)
theorem S6(x:LW):exs cxL (seg 5 2) x.L5 x.H5=some (.next,x.L6,x.H6):=lnk (zxz (rd x.L5) (rh x.H5) x.s) (by kernel_rfl) (by kernel_rfl) (by kernel_rfl) (by kernel_rfl)
theorem S8(h:x.ok):exs cxL (seg 7 1) x.L6 x.H6=some (.next,x.L8,x.H8):=by
 have e:hp8 17 5 (chT x.t 5) (sT x.t x.r x.wd) (cnT x.t x.r) x.wd (tvT x.t) (rh x.H6)=x.H8:=by have t:V.int (.negSucc 0)::ivs (aW x.t)=mp (tvT x.t) (aC 5 0):=(aU zp3 (Qb x.t) (by have:=h.t;lia)).symm;have u:x.ups= .list (mp (tvT x.t) (aC 5 0)):=congrArg O.list t;unfold hp8;rw[←u];kernel_rfl
 exact lnk (yi8 (t:=x.t) (w:=x.wd) (r:=x.r) h.t x.b_wd h.r (rd x.L6) (rh x.H6)) (by kernel_rfl) (by kernel_rfl) (by kernel_rfl) e
theorem S9(h:x.ok):exs cxL (seg 8 1) x.L8 x.H8=some (.next,x.L8,x.H8):=
 lnk (aU (yi2 (rd x.L8) (rh x.H8)) (Qb x.t) (by have:=h.t;lia)) (by kernel_rfl) (by kernel_rfl) (by kernel_rfl) (by kernel_rfl)
theorem S10(h:x.ok):exs cxL (seg 9 5) x.L8 x.H8=some (.next,x.L14,x.H14):=
 lnk (yef (rs:=rlT x.t x.r x.on) (l:=x.ld) (kQ h.r _) (by rw[rlT,cZ];exact Qa (aG (aG zey x.t h.t) x.on x.b_on)) rfl x.b_on x.b_wd x.b_rn x.b_tb x.b_mr (rd x.L8) (rh x.H8)) (by kernel_rfl) (by kernel_rfl) (by kernel_rfl) (by kernel_rfl)
theorem S15(x:LW):exs cxL (seg 14 2) x.L14 x.H14=some (.next,x.L16,x.H16):=lnk (yi1 (rd x.L14) (rh x.H14)) (by kernel_rfl) (by kernel_rfl) (by kernel_rfl) (by kernel_rfl)
theorem S17(h:x.ok):exs cxL (seg 16 9) x.L16 x.H16=some (.next,x.L25,x.H25):=by
 have e:x.rg=vO (aW x.t) (gM x.o):=congrArg (·.2) h.y;have a:I25 (aW x.t) (gM x.o) (rh x.H16)=x.H25:=by unfold H25;rw[e];kernel_rfl
 exact lnk (yi7 h.t h.o (rd x.L16) (rh x.H16)) (by kernel_rfl) (by kernel_rfl) (by kernel_rfl) a
theorem S26(x:LW):exs cxL (seg 25 2) x.L25 x.H25=some (.next,x.L27,x.H27):=lnk (yd1 (rd x.L25) (rh x.H25)) (by kernel_rfl) (by kernel_rfl) (by kernel_rfl) (by kernel_rfl)
theorem S28(x:LW):exs cxL (seg 27 1) x.L27 x.H27=some (.next,x.L28,x.H28):=by have h:=aU (yd0 (rd x.L27) (rh x.H27)) (x:=x.lw*3+x.ovr) (Qb _) x.i28.2.2;unfold yej ygl A28 B28 I28 at h;rw[x.i28.1,x.i28.2.1] at h;exact lnk h (by kernel_rfl) (by kernel_rfl) (by kernel_rfl) (by kernel_rfl)
theorem S29(x:LW):exs cxL (seg 28 1) x.L28 x.H28=some (.next,x.L28,x.H28):=by
 have a:=ydr x.rg (rd x.L28) (rh x.H28);have i:frm 33 (ov [(146,.ref 25),(142,.ref 22)] (rd x.L28))=x.L28:=by kernel_rfl
 have h:hpm 29 (zhi x.rg (rh x.H28))=x.H28:=by kernel_rfl
 rw[i,h] at a;have b:=aU (ydq (rd x.L28) (rh x.H28)) (x:=x.lw*3+x.ovr) (Qb _) x.i28.2.2;unfold frK hpK at b;have f:frm 33 (ov [(123,.int (.ofNat x.lw)),(124,.int (.ofNat x.ovr)),(54,.ref 27),(147,.ref 28)] (rd x.L28))=x.L28:=by kernel_rfl
 have e:hpm 29 (ov [(27,.list (mp V.str gW)),(28,.list (mp V.str (jD x.lw x.ovr)))] (rh x.H28))=x.H28:=by kernel_rfl
 rw[x.i28.1,x.i28.2.1,f,e] at b;exact cL (bs:=[]) (yao (ye1 a b)) rfl rfl rfl
theorem S30(h:x.ok):exs cxL (seg 29 1) x.L28 x.H28=some (.next,x.L30,x.H30):=by
 have e:x.ups=gG (aW (yI x.j).1):=by rw[h.y];rfl
 have b:x.H28=hpm 29 (ov [(2,gG (aW (yI x.j).1)),(25,.list (ivs (yI x.j).2))] (rh x.H28)):=by rw[←e];kernel_rfl
 have a:hpm 30 (ov [(2,gG (aW (yI x.j).1)),(25,.list (ivs (yI x.j).2)),(29,.list (mp fX (tyI x.j)))] (rh x.H28))=x.H30:=by rw[←e];kernel_rfl
 exact lnk (yi6 h.j (rd x.L28) (rh x.H28)) (by kernel_rfl) b (by kernel_rfl) a
theorem S31(x:LW):exs cxL (seg 30 2) x.L30 x.H30=some (.next,x.L32,x.H32):=lnk (yi5 (rd x.L30) x.dv (rh x.H30)) (by kernel_rfl) (by kernel_rfl) (by kernel_rfl) (by kernel_rfl)
end
end
section
open LW
section
variable{x:LW}
theorem S33(h:x.ok):exs cxL (seg 32 1) x.L32 x.H32=some (.next,x.L33,dM x.pl 5 (rh x.H33)):=by
 have a:x.H32=x.H32q:=by show _=_;unfold H32 H32q;rw[←h.e_rg,←x.e_words];kernel_rfl
 exact lnk (yee h.pl (rd x.L32) (rh x.H32q)) (by kernel_rfl) (a.trans (by kernel_rfl)) (by kernel_rfl) (by kernel_rfl)
theorem zlb(M:oR a=oR b)(B:sU a=sU b):pB a=pB b:=by unfold pB;rw[M,B]
theorem S34(h:x.ok):∃w,exs cxL (seg 33 9) x.L33 (dM x.pl 5 (rh x.H33))=some (.ret (.v (.bool true)),w):=by
 obtain⟨a,e,y,A⟩:=yed h.pl (rd x.L33) (rh x.H33);have A:exs cxL (seg 33 3) x.L33 (dM x.pl 5 (rh x.H33))=some (.next,x.L36 a e y,x.H36 a e y):=lnk A (by kernel_rfl) rfl (by kernel_rfl) (by kernel_rfl);obtain⟨r,n,k,l⟩:=zyb h.j;have erw:x.pl.rwP 5=oR (tR r):=k;have b:x.pl.owP 5=sU (tR r):=l;have B:=aU (ydw (rd (x.L36 a e y)) (rh (x.H36 a e y))) (Qb r) (by lia);unfold yei ygk frI hpI at B;rw[←erw,←b,←zlb k l] at B;have B:exs cxL (seg 36 2) (x.L36 a e y) (x.H36 a e y)=some (.next,x.L38 a e y,x.H38 a e y):=lnk B (by kernel_rfl) (by kernel_rfl) (by kernel_rfl) (by kernel_rfl);have C:exs cxL (seg 38 1) (x.L38 a e y) (x.H38 a e y)=some (.next,x.L38 a e y,x.H38 a e y):=lnk (yi3 h.j (rd (x.L38 a e y)) (rh (x.H38 a e y))) (by kernel_rfl) (by kernel_rfl) (by kernel_rfl) (by kernel_rfl);have D:=aU (ydv (rd (x.L38 a e y)) (rh (x.H38 a e y))) (Qb r) (by lia);unfold zvk frI at D;rw[←erw] at D;have D:exs cxL (seg 39 1) (x.L38 a e y) (x.H38 a e y)=some (.next,x.L38 a e y,x.H38 a e y):=lnk D (by kernel_rfl) (by kernel_rfl) (by kernel_rfl) (by kernel_rfl);have m:(yI x.j).1=x.t:=congrArg (·.1) h.y;obtain⟨w,E⟩:=yec h.pl (lw:=x.lw) (i:=x.j) (f:=rd (x.L38 a e y)) (hp:=x.H38 a e y) h.j rfl (λU=>rfl) x.b_lw ⟨by kernel_rfl,by kernel_rfl,by kernel_rfl,by kernel_rfl,by kernel_rfl⟩ ⟨by rw[m];kernel_rfl,by show _=some (O.list (ivs x.rg));rw[h.e_rg];kernel_rfl,by kernel_rfl,by kernel_rfl,by kernel_rfl⟩
 refine⟨w,?_⟩;have E:exs cxL (seg 40 2) (x.L38 a e y) (x.H38 a e y)=some (.ret (.v (.bool true)),w):=by rw[show frm 53 (rd (x.L38 a e y))=x.L38 a e y by kernel_rfl] at E;exact E
 have s:seg 33 9=seg 33 3++(seg 36 2++(seg 38 1++(seg 39 1++seg 40 2))):=by kernel_rfl
 rw[s];exact cC A rfl rfl (cC B rfl rfl (cC C rfl rfl (cC D rfl rfl E)))
theorem zsg(h:x.ok):∃w,exs cxL (seg 2 40) x.L2 x.H2=some (.ret (.v (.bool true)),w):=by
 obtain⟨w,E⟩:=S34 h;refine⟨w,?_⟩;have s:seg 2 40=seg 2 1++(seg 3 1++(seg 4 1++(seg 5 2++(seg 7 1++(seg 8 1++(seg 9 5++(seg 14 2++(seg 16 9++(seg 25 2++(seg 27 1++(seg 28 1++(seg 29 1++(seg 30 2++(seg 32 1++seg 33 9)))))))))))))):=by kernel_rfl
 rw[s];exact cC (S3 x) rfl rfl (cC (S4 x) rfl rfl (cC (S5 h) rfl rfl (cC (S6 x) rfl rfl (cC (S8 h) rfl rfl (cC (S9 h) rfl rfl (cC (S10 h) rfl rfl (cC (S15 x) rfl rfl (cC (S17 h) rfl rfl (cC (S26 x) rfl rfl (cC (S28 x) rfl rfl (cC (S29 x) rfl rfl (cC (S30 h) rfl rfl (cC (S31 x) rfl rfl (cC (S33 h) rfl rfl E))))))))))))))
end
theorem zsf(c:Nat->Int):∃w,exs cxL (seg 1 41) [(96,.ref 0)] [.list (lB c)]=some (.ret (.v (.bool true)),w):=by
 obtain⟨t,o,r,w,e,a,b,h,f,A⟩:=yja c (λU=> .none) (λU=> .list []);obtain⟨j,i,k⟩:=yig a b;obtain⟨u,E⟩:=zsg (x:=⟨c,t,o,r,w,e,j⟩) ⟨a,b,h,f,i,k⟩;refine⟨u,?_⟩;have s:seg 1 41=seg 1 1++seg 2 40:=by kernel_rfl
 rw[s];exact cC A (by kernel_rfl) (by kernel_rfl) E
end
section
noncomputable def cxF(a:Addr)(T:List Int):Cx:={cxL with frz:=[(a,T)]}
noncomputable def eW(T:List Int)(k:Int):List Int:=(sliceRange (sliceBounds (some k) none (some (Int.ofNat 5)) T.length).1 (sliceBounds (some k) none (some (Int.ofNat 5)) T.length).2.1 (sliceBounds (some k) none (some (Int.ofNat 5)) T.length).2.2).filterMap (T[·]?)
theorem uC:∀l:List Int,eS (l.map V.int)=some l
 |[]=>rfl
 |x::r=>by show bd (eS (r.map V.int)) _=_;rw[uC r];rfl
noncomputable def e0:FE:= .bin .Add (.var 57 4261522) (.call (.glo 119 4262552) [.sli (.var 120 4263071) (some (.var 31 4263969)) none (some (.int 5 4264356)) 4263972 4263077] [] [] [] 4262566) 4261542
noncomputable def it0:FE:= .call (.glo 20 4266944) [.list [.int 40 4268356,.int 283 4268873,.int 133 4269518,.int 186 4270163,.int 332242 4270811] 4268252] [] [] [] 4266973
noncomputable def sc0:List (Nat×Nat):=[(14,0),(31,0),(57,0),(119,4),(120,2)]
def rJ:List FS:=seg 1 41
def l1:FS:= .asg [.name 96 4260361] (.comp e0 [31,57] [4265388,4265779] 4265395 it0 [] sc0 4261470) 4260446
theorem yfq:l1= .asg [.name 96 4260361] (.comp e0 [31,57] [4265388,4265779] 4265395 it0 [] sc0 4261470) 4260446:=rfl
theorem zno:nS=l1::rJ:=by kernel_rfl
noncomputable def xs0:List V:=[.int (.ofNat 40),.int (.ofNat 283),.int (.ofNat 133),.int (.ofNat 186),.int (.ofNat 332242)]
theorem zxq(a:Addr)(T:List Int)(k:Int):xF (cxF a T) (.v (.top a)) (some (.v (.int k))) none (.int 5 4264356)=some (.l (vW T k 5)):=by show bd (cs (Nat.beq a a) (some T) none) _=_;rw[Nat.beq_refl];rfl
theorem ybh(a:Addr)(T:List Int)(k b:Int)(J:Hp):ev (cxF a T) (put (put [(120,.top a)] 31 (.int k)) 57 (.int b)) e0 J=some (.v (.int (b+fE (eW T k) 0)),J):=by have f:look (cxF a T).glo 119=some (.bi .sum):=rfl;have e:vW T k 5=(eW T k).map V.int:=rfl;simp only[e0,dY,qP,Mine.h2,za9,uY,uU,uX,fH,jT,cF,lZ,same,zy1,zy3,zy7,zy8,zy9,jA,zcd,zpb,zq5,zq6,zq8,zR,uO,gF,iK,zpf,zQ,fV,eY,yhx,hM,hK,yht,yhr,List.zip_nil_left,f,zxq,e,uC,Nat.beq]
abbrev g0F(a:Addr)(T:List Int):V->Hp->Option (Option V×Hp):=eE (λI=>ev (cxF a T) I e0) [31,57] (λI=>trA (cxF a T) I []) (flr sc0 [(120,.top a)])
theorem tJ(a:Addr)(T:List Int)(k b:Int):g0F a T (.tup [.int k,.int b]) []=some (some (.int (b+fE (eW T k) 0)),[]):=by show bd (ev (cxF a T) (put (put [(120,.top a)] 31 (.int k)) 57 (.int b)) e0 []) _=_;rw[ybh];rfl
theorem ygq(a:Addr)(T:List Int):cJ (g0F a T) (mA (.items (wH 0 xs0)) []) (.items (wH 0 xs0)) []=some ([.int (.ofNat 40+fE (eW T (.ofNat 0)) 0),.int (.ofNat 283+fE (eW T (.ofNat 1)) 0),.int (.ofNat 133+fE (eW T (.ofNat 2)) 0),.int (.ofNat 186+fE (eW T (.ofNat 3)) 0),.int (.ofNat 332242+fE (eW T (.ofNat 4)) 0)],[]):=
 iL (tJ a T _ _) (iL (tJ a T _ _) (iL (tJ a T _ _) (iL (tJ a T _ _) (iL (tJ a T _ _) rfl))))
noncomputable section
theorem yaz(F:FR N C l I f s)(h:∀y v,look e y=some v->look I y=some v):FR N C l e f s:=by refine⟨F.kind,F.glob,F.blt,λx v a=>F.ids x v (h x v a),?_,λx v a b=>F.cel x v (h x v a) b,F.loc,F.disj,F.live⟩;obtain⟨m,i,k⟩:=F.ns;exact⟨m,i,λx v a b=>k x v (h x v a) b⟩
section
variable{s₁:Shared}
theorem ctF(X:(K1 P).In s₁.heap)(f:s₁.heap.NoLimit)(e:∃n k,s₁.heap.Ns mainGlobals n/\s₁.heap.Ns builtinsNs k/\∀x:Str,x≠"__name__"->k x=bootBuiltins x)(p:zga (OG prog w s₁.heap) a i):CT (OG prog w s₁.heap) (cxF a i) (Rm 14):=by
 have T:=tb1 (prog:=prog) (w:=w) (W:=(OG prog w s₁.heap).Wk) X f e SL;refine zza (K:=K1 P) ⟨T.X,T.lim,T.nm,T.inj,T.dbg,T.top,T.glo,T.cls,T.catt,T.pat,T.dct,T.nset,T.ndel,λb l h=>?_⟩ (zj2 14) (wk1 X f e 12) (zi8 (cx:=cxF a i) (ydj X f e));rcases fZ (show look [(a,i)] b=some l from h) with⟨q,m⟩|h
 · rw[←q,←m];exact p
 · exact nn h
theorem zme(P:Params):(K1 P).lookup 335=some ⟨(obA (K1 P) 335).cls,(obA (K1 P) 335).dict,.func (fnA (K1 P) 335 (tSs nm nS) (scM nm bK (fdA (K1 P) 335).scope.more)),(obA (K1 P) 335).slots⟩:=by kernel_rfl
theorem zmf(P:Params):codeIn (K1 P) (fdA (K1 P) 335).code (fdA (K1 P) 335).qualname=true:=by kernel_rfl
theorem zmg(a:Heap)(s:Shared)(v:Value)(e:List Stmt)(b:Scope):BindsTo s (fnA (K1 P) 335 e b) ⟨[v],[]⟩ (([120].map (aA (OG prog w a))).zip [v]):=by refine BindsTo.of_eq ?_;kernel_rfl
theorem zzw:yP nmL.length bK []=true:=by decide+kernel
theorem zmd:wE nmL.length bK (.comp e0 [31,57] [4265388,4265779] 4265395 it0 [] sc0 4261470)=true:=by decide+kernel
theorem zzu:wE nmL.length bK (.list [.int 40 4268356,.int 283 4268873,.int 133 4269518,.int 186 4270163,.int 332242 4270811] 4268252)=true:=by decide+kernel
theorem yfp:wSs nmL.length bK rJ=true:=by decide+kernel
abbrev vs0(T:List Int):List V:=[.int (.ofNat 40+fE (eW T (.ofNat 0)) 0),.int (.ofNat 283+fE (eW T (.ofNat 1)) 0),.int (.ofNat 133+fE (eW T (.ofNat 2)) 0),.int (.ofNat 186+fE (eW T (.ofNat 3)) 0),.int (.ofNat 332242+fE (eW T (.ofNat 4)) 0)]
theorem zzv:jE nmL.length bK 96=true:=by decide+kernel
theorem ygc(E:Cx)(I:L)(J:Hp):ev E I (.list [.int 40 4268356,.int 283 4268873,.int 133 4269518,.int 186 4270163,.int 332242 4270811] 4268252) J=some (.l xs0,J):=rfl
theorem zzx(CF:CT (OG b w s₁.heap) (cxF a T) (Rm 14))(h:HereS (OG b w s₁.heap) (Rm 14) ⟨C,bK,e,A,E'⟩ [(120,.top a)] [] f s)
 (g:wN (OG b w s₁.heap) (Rm 14) ⟨C,bK,e,A,E'⟩ f s (put [(120,.top a)] 96 (.ref 0),[.list (vs0 T)]) Q):WP (OG b w s₁.heap) ⟨C,bK,e,A,E'⟩ (exec (tS (aA (OG b w s₁.heap)) l1) C) Q s:=by
 rw[yfq];have l:EOk (OG b w s₁.heap) (cxF a T) (Rm 14) e0:=(both CF e0).1;have i:∀c∈([]:List FE),TOk (OG b w s₁.heap) (cxF a T) (Rm 14) c:=λc h=>absurd h Qj;exact zb7 (D:=⟨C,bK,e,A,E'⟩) (vs:=vs0 T) (h2:=[]) (o:=(put [(120,.top a)] 96 (.ref 0),[.list (vs0 T)])) CF (λk=>pM (D:=⟨C,bK,e,A,E'⟩) (src:= .items (wH 0 xs0)) (h1:=[]) CF l i zmd (zn6 h.h.A.hd ⟨_,_,_,rfl⟩) (znt (D:=⟨C,bK,e,A,E'⟩) CF rfl zzu rfl (ygc _ _ _) h.h) (ygq a T) (show 5≤65536 by decide) h.h k) zmd zzv rfl h g
set_option maxHeartbeats 4000000 in
theorem law_call(X:(K1 P).In s₁.heap)(m:s₁.heap.NoLimit)(p:∃mg E,s₁.heap.Ns mainGlobals mg/\s₁.heap.Ns builtinsNs E/\∀x:Str,x≠"__name__"->E x=bootBuiltins x)(hg:s₁.gens=#[])(B:0<s₁.toks)(hL:s₁.heap.IsList a vs.toArray)(Y:IntsAre vs T)(N:T.length≤63)(hA:Rm 15 A)
 (hR:∀g,(∀b o,s₁.heap.get? b=some o->g.heap.get? b=some o)->g.os=s₁.os->AllBare g.gens->R (.ok (.ret (.bool true))) g):codeAny (model i w) A (.call (.ref 335) ⟨[.ref a],[]⟩) R s₁:=by
 have J:∀{vs:List Value} {T:List Int},IntsAre vs T->(∀ρ h,VRs ρ h (T.map V.int) vs)/\vs.length=T.length:=by
  intro vs T h;induction h with
  |nil=>exact⟨λU U=>VRs.nil,rfl⟩
  |cons n t _ I=>exact⟨λρ h=>VRs.cons ⟨_,rfl⟩ (I.1 ρ h),by simp[I.2]⟩
 have hz:zga (OG i w s₁.heap) a T:=⟨vs,hL,(J Y).1,by rw[(J Y).2];lia⟩;have CF:=ctF (prog:=i) (w:=w) X m p hz;have CL:=ctL (prog:=i) (w:=w) X m p;have H0:HS (OG i w s₁.heap) [] [] s₁:=⟨λU U e=>e,λa ha=>absurd ha Qj,List.nodup_nil,rfl,λn o e h=>nn (show none=some o from h),AllBare.of_eq hg,B⟩;obtain⟨⟨fl',hp'⟩,z⟩:=zsf λk=>byO (nth ([.ofNat 40+fE (eW T (.ofNat 0)) 0,.ofNat 283+fE (eW T (.ofNat 1)) 0,.ofNat 133+fE (eW T (.ofNat 2)) 0,.ofNat 186+fE (eW T (.ofNat 3)) 0,.ofNat 332242+fE (eW T (.ofNat 4)) 0]:List Int) k) id 0;have p1:Pars (OG i w s₁.heap) bK [120]:=⟨zzw,by decide,by decide⟩;have k:=tK (Ω:=OG i w s₁.heap) (ρ:=[]) (hp:=[]) (s:=s₁) (sB:=s₁) (A:=A) CL.apart (Qq (Nat.le_add_right _ _) hA.dp) X m (zme P) (zmf P) p1 H0 (args:=⟨[.ref a],[]⟩) (us:=[.ref a]) (vs:=[.top a]) (λA' E' Q q=>zmg (P:=P) (prog:=i) (w:=w) s₁.heap s₁ (.ref a) (tSs nm nS) (scM (aA (OG i w s₁.heap)) bK (fdA (K1 P) 335).scope.more) (OG i w s₁.heap).M A' E' Q q)
  (VRs.cons (x:= .top a) (v:= .ref a) rfl VRs.nil) (R:=R)
 refine k λl s2 E' F=>?_;have h:HereS (OG i w s₁.heap) (Rm 14) ⟨l,bK,l.locals::faC (OG i w s₁.heap) l,A.deeper l,E'⟩ [(120,.top a)] [] [] s2:=⟨⟨F.K,hA.deeper _,F.H,F.F⟩,F.C⟩;rw[zno];show wpAny _ _ (execs (tS nm l1::tSs nm rJ) l) _ _ _;refine wpAny_execs_cons ?_;refine zzx CF h λρ3 s3 d G3=>?_;refine zec (D:=⟨l,bK,l.locals::faC (OG i w s₁.heap) l,A.deeper l,E'⟩) CL rJ yfp (hp:=[.list (vs0 T)]) (fl:=[(96,.ref 0)]) ⟨⟨d.h.K,d.h.A,d.h.H,yaz d.h.F λy v q=>?_⟩,d.C⟩ z λρ4 s4 f h4 G4 r=>?_
 · rcases fZ q with⟨q1,q2⟩|q
   · rw[←q1,←q2];rfl
   · exact nn q
 · obtain⟨u,q,hu⟩:=r
   rw[q,show u= .bool true from hu];exact hR s4 h4.h.H.base ((G4.os.trans G3.os).trans F.G.os) h4.h.H.gens
end
end
end
noncomputable section
open PySem PySem.W PyProof.Rows PySem.Calls
set_option maxHeartbeats 8000000
noncomputable def q01:Program:={PySem.Challenge.pw_wn0122_01 with main:={PySem.Challenge.pw_wn0122_01.main with body:=[0,25].filterMap (PySem.Challenge.pw_wn0122_01.main.body[·]?)}}
noncomputable def nM:List Str:=["_wall","tspecials","_name_disallowed_re","_value_disallowed_re","_formatparam","Headers","COMPILER_FLAG_NAMES","pretty_flags","_iter_escaped_chars","_strip_quoted_realnames","_check_parenthesis","Whitespace","_law_digits","_law_outline","_law_column","_law_ring","_law_climb","_law_exchange","_law_mate"].map Str.ofString
noncomputable def yha:List Addr:=[2,3,42,43,47,48,52,53,54,60,61,69,75,76,82,83,96,97,101,102,124,130,131,140,141,147,148,180,181,183,184,189,195,196,202,203,209,210,216,217,233,234,240,241,247,248,268,269,278,279,289,290,294,295,301,302,308,309,315,316,322,323,329,330,334,335]
theorem yg9(P:Params):yha=(K1 P).map (·.1):=by kernel_rfl
abbrev H01:Hook:=kHook K1 yha yg9
noncomputable abbrev r01:RowW:=OpenRow.toRowW (OpenLaw.row PySem.Challenge.rw_wn0122_01)
abbrev obT(s:Shared):=(H01.obs s,decide (0<s.toks))
abbrev vaT(w:World):=(H01.val w,true)
abbrev zc1(s:Shared):=(openSeen q01 nM (importedModules PySem.Challenge.pw_wn0122_01.main.body) (λs=>xlAt q01 [] s&&recOk (RowW.records r01) s) true s,obT s)
noncomputable abbrev Br(b:Bool):Prop:=∀w:World,(fencedOpening treeTable PySem.Challenge.pw_wn0122_01 w 4264).map (λs₀=>
 (topFrom treeTable PySem.Challenge.pw_wn0122_01 (w.withFollow "special-get-raises" b) 4264 s₀).map zc1)=some (some (openGood q01 nM,vaT (w.withFollow "special-get-raises" b)))
theorem ylm:Br false:=by unfold Br zc1;rw[Fast.te4187177175401517315,Fast.te5923862056798008813,Fast.te14364793385576792824];intro w;kernel_rfl
theorem yll:Br true:=by unfold Br zc1;rw[Fast.te4187177175401517315,Fast.te5923862056798008813,Fast.te14364793385576792824];intro w;kernel_rfl
theorem ykz:LeftO r01.prog q01 nM (λs=>xlAt q01 [] s&&recOk (RowW.records r01) s) obT vaT 4264:=by
 refine LeftO.of_split "special-get-raises" λw=>?_;have f:=ylm w;have t:=yll w;revert f t;show Option.map _ (fencedOpening treeTable PySem.Challenge.pw_wn0122_01 w 4264)=_->Option.map _ (fencedOpening treeTable PySem.Challenge.pw_wn0122_01 w 4264)=_->Option.map _ (fencedOpening treeTable PySem.Challenge.pw_wn0122_01 w 4264)=_;cases fencedOpening treeTable PySem.Challenge.pw_wn0122_01 w 4264 with
 |none=>exact λf U=>nomatch f
 |some Y=>exact λf t=>congrArg some (Prod.ext (Option.some.inj f) (Option.some.inj t))
end
noncomputable section
open PySem PySem.W PyProof.Rows PySem.Calls
set_option maxHeartbeats 8000000
theorem yke:PySem.Challenge.rw_wn0122_01.wellSaid=true:=by kernel_rfl
theorem ygn:(defOf q01 (Str.ofString "law")).isSome=true:=by kernel_rfl
noncomputable def lU:DefRec×List (Str×PySem.Expr):=(defOf q01 (Str.ofString "law")).get ygn
abbrev ylr(s:Shared):Bool:=xlAt q01 [] s&&recOk (RowW.records r01) s
noncomputable abbrev yhd(a:Str->Option Value)(h:Heap):Prop:=XL q01 [] a h/\RecFacts (RowW.records r01) h
theorem yih(s:Shared)(e:ylr s=true):yhd (s.heap.nsMap mainGlobals) s.heap:=⟨xl_of s (Wc e).1,recFacts_of (Wc e).2⟩
noncomputable def ycb:Prop:=∀(w:World) (s₀ z:Shared) (b m:Str->Option Value),0<z.toks->Ground q01 nM (RowW.records r01) (XL q01 []) w s₀ b m z.heap->Hook.says H01 w z.heap->∀(a:Addr) (o:Obj) (l k f i h:Value),z.heap.get? a=some o->
 o.data= .func {PySem.Calls.docDef lU.1.name lU.1.params lU.1.body lU.1.scope l k f with defaults:=i,kwdefaults:=h}->z.heap.CodeRec k lU.1.name->Dflts b z.heap lU.1.params lU.2 i h->b lU.1.name=some (.ref a)->z.gens=#[]->
 ∀(args:List WData) (uP:List Value) (as:List Addr),r01.claim.pre args=true->WData.layableAll args=true->ReadsAllW (RowW.records r01) (classAt s₀.heap) z.heap uP args as->WellAll w.params z.heap uP args->(∀a∈as,(a==sysModules)=false)->
  wpAny (model r01.prog w) callerA (PySem.call (.ref a) uP) (λv s'=>GoodWG r01.claim (classAt s₀.heap) (ExcName.means s₀.heap) args z (.ok (.ret v)) s')
   (λe s'=>GoodWG r01.claim (classAt s₀.heap) (ExcName.means s₀.heap) args z (.error e) s') z
theorem zne:r01.same=none/\r01.under=⟨true,true,true⟩/\r01.after=⟨true,true,true⟩/\r01.apart=false/\r01.makers=[]/\r01.within=[]:=⟨rfl,rfl,rfl,rfl,rfl,rfl⟩
theorem zij:(chainsOk q01&&opensWell r01.prog&&(frees r01&&r01.within.isEmpty))=true:=by kernel_rfl
theorem zkw:defOf q01 (RowW.name r01)=some (lU.1,lU.2):=(Option.some_get ygn).symm
theorem yc3:∃args,r01.claim.pre args=true/\WData.layableAll args=true:=⟨[.list []],by decide+kernel,by decide+kernel⟩
theorem zyh:RowW.promised r01:=⟨[.list []],by decide+kernel,by decide+kernel⟩
theorem ygo:r01.prog.theDef (RowW.name r01)=some (lU.1.params,lU.1.body,lU.1.scope):=by kernel_rfl
theorem ykw:kwWritten? lU.1.params.kwonlyargs lU.1.params.kw_defaults=some lU.2:=by kernel_rfl
theorem hd(call:ycb):PySem.Challenge.rw_wn0122_01.Holds:=by
 have m:chainsOk q01=true:=(Wc (Wc zij).1).1;refine holds_law yke λh=>⟨h,zyh,⟨⟨⟨rfl,rfl,rfl,rfl,rfl,by kernel_rfl⟩,(Wc (Wc zij).1).2,rfl⟩,yc3,λw=>?_⟩⟩;have B:=ykz.behind (XP:=yhd) yih m w;refine⟨B.1,λu l=>?_⟩;obtain⟨Y,b1,b2,s,T,z,b3,x,V,y⟩:=B.2 u l;have C:s.gens=#[]:=Array.eq_empty_of_size_eq_zero (beq_iff_eq.mp b3);have J:Ground q01 nM [] (XL q01 []) w s (s.heap.nsMap mainGlobals) (s.heap.nsMap builtinsNs) s.heap:=⟨V.T,V.B,V.D,V.TE,V.TD,V.W,V.X.1,V.cls,V.has,V.apart,V.once,V.K⟩;have G:=V.X.2.ground J;refine⟨Y,b1,b2,s,T,λn hn=>?_,V.X.2.1,V.X.2.2.1,ClaimW.callFrom_of_specG (c:=r01.claim) z C λargs d Q i H=>?_⟩
 · obtain rfl:n=RowW.name r01:=by split at hn<;>simp_all
   exact pinned_of_view x J zkw ygo ykw
 · obtain⟨⟨k,b⟩,e⟩:=Option.isSome_iff_exists.mp (layAllW_isSome (P:=w.params) (ord:=i) G.has args (RowW.args r01) s (pre_splitW d).1)
   have f:=layAllW_grows _ _ _ e;obtain⟨E,I,a2,a3⟩:=reads_layAllW H _ _ _ e Q b.heap λU U e=>e;have L:Laid (RowW.records r01) w s b args k E:=⟨⟨i,H,e⟩,I,a2,a3,f.keeps,f.alike.1.trans C,f.alike.2.2.1⟩;have N:0<b.toks:=Qp (of_decide_eq_true (congrArg (·.2) y)) f.toks;have A:=G.keeps XL.keeps f.keeps;obtain⟨a,o,pm,cd,p,dV,kV,M,h2,h3,h4,h5⟩:=A.fn zkw;have W:=call w s b _ _ N A (Hook.keeps H01 w _ _ (Hook.of H01 w s (Prod.mk.inj y).1) f.keeps) a o pm cd p dV kV h2 h3 h4 h5 M L.gens args k E d Q I L.well (L.low G.low);have F:∀r u,GoodWG r01.claim (classAt s.heap) (ExcName.means s.heap) args b r u->r01.claim.Ends s args k b r u/\u.os=s.os/\AllBare u.gens:=λr u g=>g.laid (c:=r01.claim) zne.1 zne.2.2.2.2.2 (ident_freeW zne.2.1 zne.2.2.1 zne.2.2.2.1) L;refine⟨k,b,e,Qg (wpAny_nsGet A.T.g ?_)⟩;rw[show _=some (Value.ref a) from M];refine Qg (Qv W (λv u g=>Qh ⟨_,rfl,?_⟩) λe u g=>?_)
   · have z:=F _ _ g
     exact⟨z.1,z.2.1,z.2.2,λq=>⟨namesKept_of T x _ f.keeps g.2.1.old,noTable rfl q⟩⟩
   · have z:=F _ _ g
     exact⟨z.1,z.2.1,z.2.2,λq=>⟨namesKept_of T x _ f.keeps g.2.1.old,noTable rfl q⟩⟩
end
end
end Mine
end
noncomputable section
open PySem PySem.W PyProof.Rows PySem.Calls
set_option maxHeartbeats 8000000
theorem Mine.good_end{c:ClaimW}{i:Str->Option Addr}{a:ExcName->Option Value}{args:List WData}{z u:Shared}(f:∀cls,c.raises args cls=false)(J:c.post args (.bool true) args=true)(k:∀b o,z.heap.get? b=some o->u.heap.get? b=some o)(e:u.os=z.os)(h:AllBare u.gens):GoodWG c i a args z (.ok (.ret (.bool true))) u:=
 ⟨.inl ⟨_,.bool true,[],rfl,f,.bool true,J,unshared_nil⟩,.of_keep k,e,h⟩
theorem Mine.tt:PySem.Challenge.rw_wn0122_01.Holds:=by
 refine Mine.hd ?_;intro w l z m x u G Y p o N cd I dV kV ho hd C hD i Q args uP as a e h f k;have q:=kIn_of Y;have X:=(Ground.X G).1;have V:=(Ground.X G).2;refine Ground.open G ?_;intro T B D TE TW
 try (refine guard_noD D (by decide+kernel) ?_;clear D)
 wrow_args a e h f k
 all_goals (
  first|refine callC_kw (enter_call ?_)|refine enter_call ?_|refine callC_kw (enter_callW ?_)|refine enter_callW ?_
  w_top on)
 have d:p=335:=by have M:=mg_of q (Top.g T) (n:=Str.ofString "law") (v:= .ref 335) (by kernel_rfl);have E:m (Str.ofString "law")=some (.ref p):=i;rw[E] at M;cases M;rfl
 subst d;refine Mine.law_call q (Top.nolimit T) ⟨m,x,Top.g T,Top.b T,Top.builtins T⟩ Q u (by assumption) (by assumption) ?_ ?_ λJ H A y=>Mine.good_end (λU=>rfl) (by wrow_post) H A y
 · lia
 · exact⟨rfl,by decide,by decide⟩
end
theorem PySem.Challenge.cw_wn0122_01_holds : PySem.Challenge.rw_wn0122_01.Holds := by
 exact Mine.tt
