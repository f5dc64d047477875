import PyProof.Rows.All
import Wide.All
import OpenK.AllK
import Wide.FinOn
import KE.KTabLook
import PySem.Challenge.RW_wn0122_02
set_option Elab.async false
set_option linter.all false
set_option bootstrap.genMatcherCode false
set_option genInjectivity false
set_option maxRecDepth 100000
noncomputable section
open PySem PySem.W PyProof.Rows
namespace Mine
section

inductive Bi where
 | len | range | max | min | sum | sorted | hex | divmod | abs | tuple | type | list | str | enumerate

inductive V where
 | none
 | bool (b : Bool)
 | int (i : Int)
 | str (s : List Nat)
 | tup (xs : List V)
 | ref (n : Nat)
 | top (a : Nat)
 | bi (b : Bi)
 | rng (a b c : Int)

inductive O where
 | list (xs : List V)
 | inst (c : Nat) (d : List (Nat × V))
 | dict (es : List (List Nat × V))

inductive RV where
 | v (x : V)
 | l (xs : List V)
 | g (xs : List V)

inductive FE where
 | none (p : Nat)
 | tru (p : Nat)
 | fls (p : Nat)
 | int (i : Nat) (p : Nat)
 | str (s : String) (l : List Nat) (p : Nat)
 | var (x : Nat) (p : Nat)
 | glo (x : Nat) (p : Nat)
 | dbg (p : Nat)
 | bin (o : Operator) (a b : FE) (p : Nat)
 | neg (a : Nat) (q p : Nat)
 | not (a : FE) (p : Nat)
 | and (es : List FE) (p : Nat)
 | or (es : List FE) (p : Nat)
 | cmp (o : CmpOp) (a b : FE) (p : Nat)
 | ife (t a b : FE) (p : Nat)
 | list (es : List FE) (p : Nat)
 | tup (es : List FE) (p : Nat)
 | sub (a i : FE) (p : Nat)
 | sli (a : FE) (lo hi st : Option FE) (q p : Nat)
 | att (a : FE) (x : Nat) (p : Nat)
 | call (f : FE) (as : List FE) (kn : List Nat) (ks : List FE) (kp : List Nat) (p : Nat)
 | mcall (o : FE) (x : Nat) (as : List FE) (kn : List Nat) (ks : List FE) (kp : List Nat) (ap p : Nat)
 | fmt (e : FE) (c p : Nat)
 | jst (es : List FE) (p : Nat)
 | comp (e : FE) (ts : List Nat) (tps : List Nat) (tp : Nat) (it : FE) (ifs : List FE) (sc : List (Nat × Nat)) (p : Nat)

inductive Tg where
 | name (x : Nat) (p : Nat)
 | tup (xs : List Nat) (ps : List Nat) (p : Nat)
 | att (o : FE) (x : Nat) (p : Nat)
 | sub (o i : FE) (p : Nat)
 | all (o : FE) (q p : Nat)

inductive FS where
 | asg (ts : List Tg) (e : FE) (p : Nat)
 | ex (e : FE) (p : Nat)
 | aug (x : Nat) (q : Nat) (o : Operator) (e : FE) (p : Nat)
 | ife (t : FE) (a b : List FS) (p : Nat)
 | whl (t : FE) (b : List FS) (p : Nat)
 | for_ (t : Tg) (it : FE) (b o : List FS) (p : Nat)
 | ret (e : FE) (p : Nat)
 | ret0 (p : Nat)
 | brk (p : Nat)
 | pass (p : Nat)
 | del (o i : FE) (q p : Nat)
 | dead (s : Stmt)

inductive Fl where
 | next | brk | cont
 | ret (r : RV)

noncomputable abbrev L := List (Nat × V)
noncomputable abbrev Hp := List O

structure Cx where
 glo : List (Nat × V)
 meth : List (Nat × List (Nat × Nat))
 cattr : List (Nat × List (Nat × V))
 pat : List (Nat × (Nat -> Bool))
 dct : List (Nat × List (Int × List Nat))
 S : Nat -> List RV -> List (Nat × RV) -> Hp -> Option (RV × Hp)
 nSet : Nat
 nDel : Nat
 frz : List (Nat × List Int) := []


noncomputable def look {α : Type} : List (Nat × α) -> Nat -> Option α
 | [], _ => none
 | p :: r, x => match Nat.beq p.1 x with | true => some p.2 | false => look r x
noncomputable def put {α : Type} : List (Nat × α) -> Nat -> α -> List (Nat × α)
 | [], x, v => [(x, v)]
 | p :: r, x, v => match Nat.beq p.1 x with | true => (x, v) :: r | false => p :: put r x v
noncomputable def nth {α : Type} : List α -> Nat -> Option α
 | [], _ => none
 | x :: _, 0 => some x
 | _ :: r, n + 1 => nth r n
noncomputable def upd {α : Type} : List α -> Nat -> α -> List α
 | [], _, _ => []
 | _ :: r, 0, v => v :: r
 | x :: r, n + 1, v => x :: upd r n v
noncomputable def leq : List Nat -> List Nat -> Bool
 | [], [] => true
 | a :: r, b :: t => match Nat.beq a b with | true => leq r t | false => false
 | _, _ => false
noncomputable def len {α : Type} : List α -> Nat
 | [] => 0
 | _ :: r => len r + 1

noncomputable def bd {α β : Type} (o : Option α) (f : α -> Option β) : Option β := match o with | some a => f a | none => none
noncomputable def ifb {α : Type} (b : Bool) (o : Option α) : Option α := match b with | true => o | false => none
noncomputable def orl {α : Type} (a b : Option α) : Option α := match a with | some x => some x | none => b
noncomputable def cs {α : Type} (b : Bool) (x y : α) : α := match b with | true => x | false => y
noncomputable def byO {α β : Type} (o : Option α) (f : α -> β) (g : β) : β := match o with | some a => f a | none => g
theorem nn {α : Type} {a : α} {G : Prop} (h : none = some a) : G := nomatch h
theorem ff {G : Prop} (h : false = true) : G := nomatch h
theorem prf {α : Type} {a b : α} (h : some a = some b) : a = b := Option.some.inj h
theorem bd_t {α β : Type} {o : Option α} {f : α -> Option β} {r : β} (h : bd o f = some r) : ∃ a, o = some a /\ f a = some r := by
 cases o with
 | some a => exact ⟨a, rfl, h⟩
 | none => exact nn h
theorem zae {α : Type} {b : Bool} {o : Option α} {r : α} (h : ifb b o = some r) : b = true /\ o = some r := by
 cases b with
 | true => exact ⟨rfl, h⟩
 | false => exact nn h
theorem zcs {α : Type} {a b : Option α} {r : α} (h : orl a b = some r) : a = some r ∨ b = some r := by
 cases a with
 | some a => exact .inl h
 | none => exact .inr h
noncomputable def rV (r : RV) : Option V := match r with | .v x => some x | .l _ => none | .g _ => none
noncomputable def vI (v : V) : Option Int := match v with | .int i => some i | _ => none
noncomputable def vS (v : V) : Option (List Nat) := match v with | .str i => some i | _ => none
noncomputable def vR (v : V) : Option Nat := match v with | .ref i => some i | _ => none
noncomputable def vT (v : V) : Option (List V) := match v with | .tup i => some i | _ => none
noncomputable def vTop (v : V) : Option Nat := match v with | .top i => some i | _ => none
noncomputable def vB (v : V) : Option Bool := match v with | .bool i => some i | _ => none
noncomputable def vBi (v : V) : Option Bi := match v with | .bi i => some i | _ => none
noncomputable def vN (v : V) : Bool := match v with | .none => true | _ => false
noncomputable def oL (o : O) : Option (List V) := match o with | .list xs => some xs | .inst _ _ => none | .dict _ => none
noncomputable def oI (o : O) : Option (Nat × List (Nat × V)) := match o with | .inst c d => some (c, d) | .list _ => none | .dict _ => none
noncomputable def iN (i : Int) : Option Nat := match i with | .ofNat n => some n | .negSucc _ => none
noncomputable def eI (e : FE) : Option Nat := match e with | .int i _ => some i | _ => none
noncomputable def unc {α : Type} (l : List α) : Option (α × List α) := match l with | x :: r => some (x, r) | [] => none
noncomputable def emp {α : Type} (l : List α) : Bool := match l with | [] => true | _ :: _ => false
noncomputable def zjn {α : Type} (o : Option α) : Bool := match o with | none => true | some _ => false
noncomputable def a1 {α : Type} (l : List α) : Option α := bd (unc l) fun p => ifb (emp p.2) (some p.1)
noncomputable def a2 {α : Type} (l : List α) : Option (α × α) := bd (unc l) fun p => bd (a1 p.2) fun y => some (p.1, y)
noncomputable def a3 {α : Type} (l : List α) : Option (α × α × α) := bd (unc l) fun p => bd (a2 p.2) fun y => some (p.1, y)
noncomputable def rI (r : RV) : Option Int := bd (rV r) vI
noncomputable def rS (r : RV) : Option (List Nat) := bd (rV r) vS
noncomputable def rR (r : RV) : Option Nat := bd (rV r) vR
noncomputable def rTop (r : RV) : Option Nat := bd (rV r) vTop
noncomputable def rN (r : RV) : Bool := byO (rV r) vN false
theorem rV_t {r : RV} {x : V} (h : rV r = some x) : r = .v x := by cases r <;> first | exact nn h | exact congrArg _ (prf h)
theorem vI_t {r : V} {x : Int} (h : vI r = some x) : r = .int x := by cases r <;> first | exact nn h | exact congrArg _ (prf h)
theorem vS_t {r : V} {x : List Nat} (h : vS r = some x) : r = .str x := by cases r <;> first | exact nn h | exact congrArg _ (prf h)
theorem vR_t {r : V} {x : Nat} (h : vR r = some x) : r = .ref x := by cases r <;> first | exact nn h | exact congrArg _ (prf h)
theorem vT_t {r : V} {x : List V} (h : vT r = some x) : r = .tup x := by cases r <;> first | exact nn h | exact congrArg _ (prf h)
theorem vTop_t {r : V} {x : Nat} (h : vTop r = some x) : r = .top x := by cases r <;> first | exact nn h | exact congrArg _ (prf h)
theorem vB_t {r : V} {x : Bool} (h : vB r = some x) : r = .bool x := by cases r <;> first | exact nn h | exact congrArg _ (prf h)
theorem vBi_t {r : V} {x : Bi} (h : vBi r = some x) : r = .bi x := by cases r <;> first | exact nn h | exact congrArg _ (prf h)
theorem vN_t {r : V} (h : vN r = true) : r = .none := by cases r <;> first | exact ff h | rfl
theorem oL_t {r : O} {x : List V} (h : oL r = some x) : r = .list x := by cases r <;> first | exact nn h | exact congrArg _ (prf h)
theorem oI_t {r : O} {x : Nat × List (Nat × V)} (h : oI r = some x) : r = .inst x.1 x.2 := by cases r <;> first | exact nn h | exact prf h ▸ rfl
theorem iN_t {r : Int} {x : Nat} (h : iN r = some x) : r = .ofNat x := by cases r <;> first | exact nn h | exact congrArg _ (prf h)
theorem eI_t {r : FE} {x : Nat} (h : eI r = some x) : ∃ p, r = .int x p := by cases r <;> first | exact nn h | exact ⟨_, congrArg (fun i => FE.int i _) (prf h)⟩
theorem zgr {α : Type} {l : List α} {x : α × List α} (h : unc l = some x) : l = x.1 :: x.2 := by cases l <;> first | exact nn h | exact prf h ▸ rfl
theorem ztf {α : Type} {l : List α} (h : emp l = true) : l = [] := by cases l with | nil => rfl | cons _ _ => exact ff h
theorem zjm {α : Type} {l : Option α} (h : zjn l = true) : l = none := by cases l with | none => rfl | some _ => exact ff h
theorem a1_t {α : Type} {l : List α} {x : α} (h : a1 l = some x) : l = [x] := by
 obtain ⟨p, h1, h⟩ := bd_t h
 obtain ⟨h2, h⟩ := zae h
 rw [zgr h1, ztf h2, prf h]
theorem a2_t {α : Type} {l : List α} {x : α × α} (h : a2 l = some x) : l = [x.1, x.2] := by
 obtain ⟨p, h1, h⟩ := bd_t h
 obtain ⟨y, h2, h⟩ := bd_t h
 rw [zgr h1, a1_t h2, ← prf h]
theorem a3_t {α : Type} {l : List α} {x : α × α × α} (h : a3 l = some x) : l = [x.1, x.2.1, x.2.2] := by
 obtain ⟨p, h1, h⟩ := bd_t h
 obtain ⟨y, h2, h⟩ := bd_t h
 rw [zgr h1, a2_t h2, ← prf h]
theorem r_t {α : Type} {f : V -> Option α} {r : RV} {x : α} (h : bd (rV r) f = some x) : ∃ v, r = .v v /\ f v = some x := by
 obtain ⟨v, h1, h2⟩ := bd_t h
 exact ⟨v, rV_t h1, h2⟩
theorem rI_t {r : RV} {x : Int} (h : rI r = some x) : r = .v (.int x) := by obtain ⟨v, rfl, h⟩ := r_t h; exact congrArg _ (vI_t h)
theorem rS_t {r : RV} {x : List Nat} (h : rS r = some x) : r = .v (.str x) := by obtain ⟨v, rfl, h⟩ := r_t h; exact congrArg _ (vS_t h)
theorem rR_t {r : RV} {x : Nat} (h : rR r = some x) : r = .v (.ref x) := by obtain ⟨v, rfl, h⟩ := r_t h; exact congrArg _ (vR_t h)
theorem rTop_t {r : RV} {x : Nat} (h : rTop r = some x) : r = .v (.top x) := by obtain ⟨v, rfl, h⟩ := r_t h; exact congrArg _ (vTop_t h)
theorem rN_t {r : RV} (h : rN r = true) : r = .v .none := by cases r with | v x => exact congrArg _ (vN_t h) | _ => exact ff h

noncomputable def zem (r : RV) (hp : Hp) : Option (V × Hp) := match r with
 | .v x => some (x, hp)
 | .l xs => some (.ref (len hp), hp ++ [.list xs])
 | .g _ => none
noncomputable def zcq : List RV -> Hp -> Option (List V × Hp)
 | [], hp => some ([], hp)
 | r :: rs, hp => bd (zem r hp) fun x => bd (zcq rs x.2) fun y => some (x.1 :: y.1, y.2)
noncomputable def lisA (n : Nat) (hp : Hp) : Option (List V) := bd (nth hp n) oL
noncomputable def insA (n : Nat) (hp : Hp) : Option (Nat × List (Nat × V)) := bd (nth hp n) oI
noncomputable def contV (x : V) (hp : Hp) : Option (List V) := bd (vR x) fun n => lisA n hp
noncomputable def cont (r : RV) (hp : Hp) : Option (List V) := match r with
 | .l xs => some xs
 | .v x => contV x hp
 | .g _ => none
noncomputable def zff (r : RV) (hp : Hp) : Option (List V) := match r with
 | .l xs => some xs
 | .v x => orl (vT x) (contV x hp)
 | .g _ => none
noncomputable def zd9 : List V -> Option (List Int)
 | [] => some []
 | x :: r => bd (vI x) fun i => bd (zd9 r) fun l => some (i :: l)
noncomputable def zf6 : List V -> Option (List (List Nat))
 | [] => some []
 | x :: r => bd (vS x) fun i => bd (zf6 r) fun l => some (i :: l)
noncomputable def bnot (b : Bool) : Bool := match b with | true => false | false => true
noncomputable def LIM : Nat := 65536
noncomputable def fits (n : Nat) : Bool := Nat.ble n LIM
noncomputable def small (i : Int) : Bool := Nat.blt i.natAbs 4611686018427387904

noncomputable def pla : V -> Bool
 | .none => true
 | .bool _ => true
 | .int _ => true
 | .str _ => true
 | _ => false
noncomputable def plas : List V -> Bool
 | [] => true
 | x :: r => match pla x with | true => plas r | false => false
noncomputable def pl : V -> Bool
 | .tup xs => plas xs
 | x => pla x
noncomputable def pls : List V -> Bool
 | [] => true
 | x :: r => match pl x with | true => pls r | false => false
noncomputable def beqB (a b : Bool) : Bool := match a with | true => b | false => bnot b
noncomputable def aE (x y : V) : Bool := match x with
 | .none => vN y
 | .bool a => byO (vB y) (beqB a) (byO (vI y) (Z.eqB (cs a 1 0)) false)
 | .int a => byO (vI y) (Z.eqB a) (byO (vB y) (fun b => Z.eqB a (cs b 1 0)) false)
 | .str a => byO (vS y) (leq a) false
 | _ => false
noncomputable def aEs : List V -> List V -> Bool
 | [], ys => emp ys
 | a :: r, ys => byO (unc ys) (fun p => cs (aE a p.1) (aEs r p.2) false) false
noncomputable def vE (x y : V) : Bool := match x with
 | .tup a => byO (vT y) (aEs a) false
 | x => aE x y
noncomputable def vEs : List V -> List V -> Bool
 | [], ys => emp ys
 | a :: r, ys => byO (unc ys) (fun p => cs (vE a p.1) (vEs r p.2) false) false
noncomputable def vin (x : V) : List V -> Bool
 | [] => false
 | y :: r => cs (vE y x) true (vin x r)
noncomputable def memc (c : Nat) : List Nat -> Bool
 | [] => false
 | x :: r => match Nat.beq x c with | true => true | false => memc c r
noncomputable def lowc (c : Nat) : Nat := match Nat.ble 65 c with | true => (match Nat.ble c 90 with | true => c + 32 | false => c) | false => c
noncomputable def uppc (c : Nat) : Nat := match Nat.ble 97 c with | true => (match Nat.ble c 122 with | true => c - 32 | false => c) | false => c
noncomputable def zce (sep : List Nat) : List (List Nat) -> List Nat
 | [] => []
 | [x] => x
 | x :: r => x ++ sep ++ zce sep r
noncomputable def repN {α : Type} (xs : List α) : Nat -> List α
 | 0 => []
 | n + 1 => xs ++ repN xs n
noncomputable def zan (a b : Nat) : List Nat -> List Nat -> List (List Nat)
 | acc, [] => [acc]
 | acc, [c] => [acc ++ [c]]
 | acc, c :: d :: r => match Nat.beq c a with
  | true => (match Nat.beq d b with | true => acc :: zan a b [] r | false => zan a b (acc ++ [c]) (d :: r))
  | false => zan a b (acc ++ [c]) (d :: r)
noncomputable def hexD (n : Nat) : Nat := match Nat.blt n 10 with | true => n + 48 | false => n + 87
noncomputable def zfu : Nat -> Nat -> List Nat -> List Nat
 | 0, _, acc => acc
 | k + 1, n, acc => match Nat.beq n 0 with | true => acc | false => zfu k (n / 16) (hexD (n % 16) :: acc)
noncomputable def hexL (n : Nat) : List Nat := match Nat.beq n 0 with | true => [48, 120, 48] | false => 48 :: 120 :: zfu 64 n []

noncomputable def idx (i : Int) (n : Nat) : Option Nat := match i with
 | .ofNat k => (match Nat.blt k n with | true => some k | false => none)
 | .negSucc k => (match Nat.blt k n with | true => some (n - (k + 1)) | false => none)
noncomputable def bnd (i : Int) (n : Nat) : Nat := match i with
 | .ofNat k => (match Nat.ble k n with | true => k | false => n)
 | .negSucc k => n - (k + 1)
noncomputable def cut {α : Type} (xs : List α) (lo hi : Nat) : List α := (xs.drop lo).take (hi - lo)
noncomputable def zhs (r : Option RV) (n : Nat) : Option Nat := byO r (fun r => bd (rI r) fun i => ifb (small i) (some (bnd i n))) (some 0)
noncomputable def zht (r : Option RV) (n : Nat) : Option Nat := byO r (fun r => bd (rI r) fun i => ifb (small i) (some (bnd i n))) (some n)
noncomputable def zdo (r : RV) (lo hi : Option RV) (hp : Hp) : Option RV :=
 orl (bd (rS r) fun s => bd (zhs lo (len s)) fun a => bd (zht hi (len s)) fun b => some (.v (.str (cut s a b))))
  (bd (cont r hp) fun xs => bd (zhs lo (len xs)) fun a => bd (zht hi (len xs)) fun b => some (.l (cut xs a b)))
noncomputable def zes (r : RV) (i : RV) (hp : Hp) : Option RV := bd (rI i) fun k =>
 orl (bd (rS r) fun s => bd (idx k (len s)) fun j => bd (nth s j) fun c => some (.v (.str [c])))
  (bd (zff r hp) fun xs => bd (idx k (len xs)) fun j => bd (nth xs j) fun v => some (.v v))

noncomputable def powI (a b : Int) : Option Int := bd (iN a) fun m => bd (iN b) fun n => ifb (Nat.beq m 2) (ifb (Nat.blt n 64) (some (.ofNat (Nat.pow 2 n))))
noncomputable def lshI (a b : Int) : Option Int := bd (iN a) fun m => bd (iN b) fun n => ifb (Nat.blt m 18446744073709551616) (ifb (Nat.blt n 64) (some (.ofNat (m * Nat.pow 2 n))))
noncomputable def binI (o : Operator) (a b : Int) : Option Int := match o with
 | .Add => some (a + b)
 | .Sub => some (a - b)
 | .Mult => ifb (small a) (ifb (small b) (some (a * b)))
 | .FloorDiv => ifb (bnot (Z.eqB b 0)) (ifb (small b) (some (Int.fdiv a b)))
 | .Mod => ifb (bnot (Z.eqB b 0)) (ifb (small b) (some (Int.fmod a b)))
 | .Pow => powI a b
 | .LShift => lshI a b
 | .BitAnd => some (Builtin.bitAnd a b)
 | .BitXor => some (Builtin.bitXor a b)
 | _ => none
noncomputable def repI (i : Int) : Option Nat := match i with
 | .ofNat n => ifb (fits n) (some n)
 | .negSucc k => ifb (fits k) (some 0)
noncomputable def opk {α : Type} (o : Operator) (x y : Option α) : Option α := match o with | .Add => x | .Mult => y | _ => none
theorem opk_t {α : Type} {o : Operator} {x y : Option α} {r : α} (h : opk o x y = some r) : (o = .Add /\ x = some r) ∨ (o = .Mult /\ y = some r) := by
 cases o <;> first | exact nn h | exact .inl ⟨rfl, h⟩ | exact .inr ⟨rfl, h⟩
noncomputable def addR (a b : RV) (hp : Hp) : Option RV :=
 orl (bd (rS a) fun x => bd (rS b) fun y => ifb (fits (len x + len y)) (some (.v (.str (x ++ y)))))
  (bd (cont a hp) fun xs => bd (cont b hp) fun ys => ifb (fits (len xs + len ys)) (some (.l (xs ++ ys))))
noncomputable def mulR (a b : RV) (hp : Hp) : Option RV := bd (rI b) fun n => bd (repI n) fun k =>
 orl (bd (rS a) fun x => ifb (fits (len x * k)) (some (.v (.str (repN x k)))))
  (bd (cont a hp) fun xs => ifb (fits (len xs * k)) (some (.l (repN xs k))))
noncomputable def zev (o : Operator) (a b : RV) (hp : Hp) : Option RV :=
 orl (bd (rI a) fun x => bd (rI b) fun y => bd (binI o x y) fun z => some (.v (.int z))) (opk o (addR a b hp) (mulR a b hp))

noncomputable def isN (x : V) : Option Bool := match x with
 | .none => some true
 | .str _ => some false
 | .int _ => some false
 | .ref _ => some false
 | .bool _ => some false
 | _ => none
noncomputable def isB (x : V) (y : Bool) : Option Bool := orl (bd (vB x) fun b => some (beqB b y)) (ifb (vN x) (some false))
noncomputable def isT (x y : Bi) : Option Bool := match x with
 | .list => (match y with | .list => some true | _ => none)
 | .str => (match y with | .str => some true | _ => none)
 | _ => none
noncomputable def isV (x y : V) : Option Bool := match y with
 | .none => isN x
 | .bool b => isB x b
 | .bi b => bd (vBi x) fun a => isT a b
 | _ => none
noncomputable def zou (a b : RV) : Option Bool := bd (rV b) fun y => match a with
 | .v x => isV x y
 | .l _ => ifb (vN y) (some false)
 | .g _ => none
noncomputable def eqR (a b : RV) (hp : Hp) : Option Bool :=
 orl (bd (cont a hp) fun xs => bd (cont b hp) fun ys => ifb (pls xs) (ifb (pls ys) (some (vEs xs ys))))
  (bd (rV a) fun x => bd (rV b) fun y => ifb (pl x) (ifb (pl y) (some (vE x y))))
noncomputable def inR (a b : RV) (hp : Hp) : Option Bool := bd (rV a) fun x =>
 orl (bd (rS b) fun y => bd (vS x) fun t => bd (a1 t) fun c => some (memc c y))
  (orl (bd (bd (rV b) vT) fun ys => ifb (pl x) (ifb (plas ys) (some (vin x ys))))
   (bd (cont b hp) fun ys => ifb (pl x) (ifb (pls ys) (some (vin x ys)))))
noncomputable def nb (o : Option Bool) : Option Bool := bd o fun b => some (bnot b)
noncomputable def zov (f : Int -> Int -> Bool) (a b : RV) : Option Bool := bd (rI a) fun x => bd (rI b) fun y => some (f x y)
noncomputable def zco (o : CmpOp) (a b : RV) (hp : Hp) : Option Bool := match o with
 | .Eq => eqR a b hp
 | .NotEq => nb (eqR a b hp)
 | .Is => zou a b
 | .IsNot => nb (zou a b)
 | .In => inR a b hp
 | .NotIn => nb (inR a b hp)
 | .Lt => zov Z.ltB a b
 | .LtE => zov Z.leB a b
 | .Gt => zov (fun x y => Z.ltB y x) a b
 | .GtE => zov (fun x y => Z.leB y x) a b
noncomputable def truX (x : V) (hp : Hp) : Option Bool := match x with
 | .none => some false
 | .bool b => some b
 | .int i => some (bnot (Z.eqB i 0))
 | .str s => some (bnot (emp s))
 | .ref n => bd (lisA n hp) fun xs => some (bnot (emp xs))
 | _ => none
noncomputable def truV (r : RV) (hp : Hp) : Option Bool := bd (rV r) fun x => truX x hp

noncomputable def sumI : List Int -> Int -> Int
 | [], a => a
 | x :: r, a => sumI r (a + x)
noncomputable def maxI : Int -> List Int -> Int
 | m, [] => m
 | m, x :: r => maxI (match Z.ltB m x with | true => x | false => m) r
noncomputable def minI : Int -> List Int -> Int
 | m, [] => m
 | m, x :: r => minI (match Z.ltB x m with | true => x | false => m) r
noncomputable def lenR (r : RV) (hp : Hp) : Option Nat := orl (bd (rS r) fun s => some (len s)) (orl (bd (bd (rV r) vT) fun xs => some (len xs)) (bd (cont r hp) fun xs => some (len xs)))
noncomputable def bLen (as : List RV) (hp : Hp) : Option RV := bd (a1 as) fun r => bd (lenR r hp) fun n => some (.v (.int (.ofNat n)))
noncomputable def ran (a b c : Int) : Option RV := ifb (small a) (ifb (small b) (some (.v (.rng a b c))))
noncomputable def zgl (as : List RV) : Option RV :=
 orl (bd (a1 as) fun r => bd (rI r) fun n => ran 0 n 1)
  (orl (bd (a2 as) fun p => bd (rI p.1) fun a => bd (rI p.2) fun b => ran a b 1)
   (bd (a3 as) fun p => bd (rI p.1) fun a => bd (rI p.2.1) fun b => bd (rI p.2.2) fun c => ifb (Z.eqB c 1 || Z.eqB c (-1)) (ran a b c)))
noncomputable def zik (r : RV) (hp : Hp) : Option (List Int) := bd (cont r hp) zd9
noncomputable def bMax (as : List RV) (hp : Hp) : Option RV :=
 orl (bd (a2 as) fun p => bd (rI p.1) fun a => bd (rI p.2) fun b => some (.v (.int (cs (Z.ltB a b) b a))))
  (bd (a1 as) fun r => bd (zik r hp) fun l => bd (unc l) fun p => some (.v (.int (maxI p.1 p.2))))
noncomputable def bMin (as : List RV) (hp : Hp) : Option RV := bd (a1 as) fun r => bd (zik r hp) fun l => bd (unc l) fun p => some (.v (.int (minI p.1 p.2)))
noncomputable def bSum (as : List RV) (hp : Hp) : Option RV := bd (a1 as) fun r => bd (zik r hp) fun l => some (.v (.int (sumI l 0)))
noncomputable def bHex (as : List RV) : Option RV := bd (a1 as) fun r => bd (rI r) fun i => bd (iN i) fun n => ifb (Nat.blt n 340282366920938463463374607431768211456) (some (.v (.str (hexL n))))
noncomputable def bDiv (as : List RV) : Option RV := bd (a2 as) fun p => bd (rI p.1) fun a => bd (rI p.2) fun b => ifb (bnot (Z.eqB b 0)) (ifb (small b) (some (.v (.tup [.int (Int.fdiv a b), .int (Int.fmod a b)]))))
noncomputable def bAbs (as : List RV) : Option RV := bd (a1 as) fun r => bd (rI r) fun i => some (.v (.int (.ofNat i.natAbs)))
noncomputable def bTup (as : List RV) (hp : Hp) : Option RV := bd (a1 as) fun r => bd (cont r hp) fun xs => ifb (fits (len xs)) (some (.v (.tup xs)))
noncomputable def zp1 (as : List RV) (hp : Hp) : Option RV := bd (a1 as) fun r => orl (bd (rS r) fun _ => some (.v (.bi .str))) (bd (cont r hp) fun _ => some (.v (.bi .list)))
noncomputable def bic (b : Bi) (as : List RV) (hp : Hp) : Option RV := match b with
 | .len => bLen as hp
 | .range => zgl as
 | .max => bMax as hp
 | .min => bMin as hp
 | .sum => bSum as hp
 | .hex => bHex as
 | .divmod => bDiv as
 | .abs => bAbs as
 | .tuple => bTup as hp
 | .type => zp1 as hp
 | _ => none

inductive MK where
 | fn (f : Nat) (self : V)
 | lst (n : Nat)
 | str (s : List Nat)
 | top (a : Nat)
 | dict (n : Nat)
noncomputable def mkO (cx : Cx) (n : Nat) (x : Nat) (o : O) : Option MK := match o with
 | .inst c d => ifb (zjn (look d x)) (bd (look cx.meth c) fun t => bd (look t x) fun f => some (.fn f (.ref n)))
 | .list _ => ifb (Nat.beq x 0) (some (.lst n))
 | .dict _ => some (.dict n)
noncomputable def zr3 (cx : Cx) (a : Nat) (x : Nat) : Option MK := orl (ifb (Nat.beq x 8) (bd (look cx.pat a) fun _ => some (.top a))) (ifb (Nat.beq x 9) (bd (look cx.dct a) fun _ => some (.top a)))
noncomputable def zl1 (cx : Cx) (r : RV) (x : Nat) (hp : Hp) : Option MK := bd (rV r) fun y => match y with
 | .ref n => bd (nth hp n) (mkO cx n x)
 | .str s => ifb (Nat.ble 3 x) (ifb (Nat.ble x 6) (some (.str s)))
 | .top a => zr3 cx a x
 | _ => none

noncomputable def zfo : List (Int × List Nat) -> Int -> Option (List Nat)
 | [], _ => none
 | p :: r, x => match Z.eqB p.1 x with | true => some p.2 | false => zfo r x
noncomputable def okc (p : Nat -> Bool) : List Nat -> Bool
 | [] => true
 | c :: r => match p c with | true => okc p r | false => false

noncomputable def mLst (n x : Nat) (as : List RV) (hp : Hp) : Option (RV × Hp) := bd (lisA n hp) fun xs => ifb (Nat.beq x 0) (bd (a1 as) fun r => ifb (fits (len xs)) (bd (zem r hp) fun p => some (.v .none, upd p.2 n (.list (xs ++ [p.1])))))
noncomputable def zqx (r : RV) (hp : Hp) : Option (List (List Nat)) := bd (cont r hp) zf6
noncomputable def mStr (s : List Nat) (x : Nat) (as : List RV) (hp : Hp) : Option RV := match x with
 | 3 => ifb (emp as) (some (.v (.str (s.map lowc))))
 | 4 => ifb (emp as) (some (.v (.str (s.map uppc))))
 | 5 => bd (a1 as) fun r => bd (rS r) fun t => bd (a2 t) fun p => some (.l ((zan p.1 p.2 [] s).map V.str))
 | 6 => bd (a1 as) fun r => bd (zqx r hp) fun l => ifb (fits (len (zce s l))) (ifb (fits (len l)) (some (.v (.str (zce s l)))))
 | _ => none
noncomputable def mTop (cx : Cx) (a x : Nat) (as : List RV) : Option RV :=
 orl (ifb (Nat.beq x 8) (bd (a1 as) fun r => bd (rS r) fun s => bd (look cx.pat a) fun p => ifb (okc p s) (some (.v .none))))
  (ifb (Nat.beq x 9) (bd (a2 as) fun p => bd (rI p.1) fun i => bd (rS p.2) fun d => bd (look cx.dct a) fun t => some (.v (.str (byO (zfo t i) id d)))))
noncomputable def same (hp : Hp) (o : Option RV) : Option (RV × Hp) := bd o fun r => some (r, hp)
noncomputable def mapp (cx : Cx) (k : MK) (x : Nat) (as : List RV) (ks : List (Nat × RV)) (hp : Hp) : Option (RV × Hp) := match k with
 | .fn f self => cx.S f (.v self :: as) ks hp
 | .lst n => ifb (emp ks) (mLst n x as hp)
 | .str s => ifb (emp ks) (same hp (mStr s x as hp))
 | .top a => ifb (emp ks) (same hp (mTop cx a x as))
 | .dict _ => none

noncomputable def ztx (cx : Cx) (r : RV) (x : Nat) (hp : Hp) : Option RV := bd (rV r) fun y => match y with
 | .ref n => bd (insA n hp) fun cd => bd (look cx.meth cd.1) fun _ => bd (look cd.2 x) fun v => some (.v v)
 | .top c => bd (look cx.cattr c) fun t => bd (look t x) fun v => some (.v v)
 | _ => none
noncomputable def zpu (cx : Cx) (f : RV) (as : List RV) (ks : List (Nat × RV)) (hp : Hp) : Option (RV × Hp) := bd (rV f) fun y => match y with
 | .top a => cx.S a as ks hp
 | .bi b => ifb (emp ks) (same hp (bic b as hp))
 | _ => none

noncomputable def zby : Nat -> Int -> List V
 | 0, _ => []
 | n + 1, a => .int a :: zby n (a + 1)
noncomputable def zrk : Nat -> Int -> List V
 | 0, _ => []
 | n + 1, a => .int a :: zrk n (a - 1)
inductive Src where
 | items (xs : List V)
 | live (n i : Nat)
 | gen (xs : List V)
noncomputable def srcR (a b c : Int) : Option Src := match Z.eqB c 1 with
 | true => some (.items (zby (b - a).toNat a))
 | false => ifb (Z.eqB c (-1)) (some (.items (zrk (a - b).toNat a)))
noncomputable def srcV (x : V) (hp : Hp) : Option Src := match x with
 | .tup xs => some (.items xs)
 | .str s => some (.items (s.map fun c => V.str [c]))
 | .rng a b c => srcR a b c
 | .ref n => bd (lisA n hp) fun _ => some (.live n 0)
 | _ => none
noncomputable def zm2 (r : RV) (hp : Hp) : Option Src := match r with
 | .l xs => some (.items xs)
 | .g xs => some (.gen xs)
 | .v x => srcV x hp
noncomputable def zru (s : Src) : Option Src := match s with
 | .items xs => some (.items xs)
 | .live n i => some (.live n i)
 | .gen _ => none
noncomputable def srcC (r : RV) (hp : Hp) : Option Src := bd (zm2 r hp) zru
noncomputable def za7 : List Nat -> List V -> L -> Option L
 | [], [], fl => some fl
 | x :: r, v :: t, fl => za7 r t (put fl x v)
 | _, _, _ => none
noncomputable def bindC (ts : List Nat) (v : V) (fl : L) (hp : Hp) : Option L := byO (a1 ts) (fun x => some (put fl x v)) (bd (zff (.v v) hp) fun xs => za7 ts xs fl)

noncomputable def catR : List RV -> Option (List Nat)
 | [] => some []
 | x :: r => bd (rS x) fun s => bd (catR r) fun t => some (s ++ t)
noncomputable def hdS (mk : List V -> Src) (xs : List V) : Option (V × Src) := match xs with
 | [] => none
 | x :: r => some (x, mk r)
noncomputable def zie (s : Src) (hp : Hp) : Option (Option (V × Src)) := match s with
 | .items xs => some (hdS .items xs)
 | .gen xs => some (hdS .gen xs)
 | .live n i => bd (lisA n hp) fun xs => some (bd (nth xs i) fun v => some (v, .live n (i + 1)))
noncomputable def zhl (s : Src) (hp : Hp) : Nat := match s with
 | .items xs => len xs + 1
 | .gen xs => len xs + 1
 | .live n _ => byO (lisA n hp) (fun xs => len xs + 1) 0
noncomputable def zbn (o : Option V) (l : List V) : List V := match o with | some y => y :: l | none => l
noncomputable def zbf (f : V -> Hp -> Option (Option V × Hp)) : Nat -> Src -> Hp -> Option (List V × Hp)
 | 0, _, _ => none
 | k + 1, s, hp => bd (zie s hp) fun o => byO o (fun p => bd (f p.1 hp) fun q => bd (zbf f k p.2 q.2) fun l => some (zbn q.1 l.1, l.2)) (some ([], hp))

noncomputable abbrev EvT := Hp -> Option (RV × Hp)
noncomputable abbrev EsT := Hp -> Option (List RV × Hp)
noncomputable abbrev TrT := Hp -> Option (Bool × Hp)
noncomputable def hVar (fl : L) (x : Nat) (hp : Hp) : Option (RV × Hp) := bd (look fl x) fun v => some (.v v, hp)
noncomputable def hGlo (cx : Cx) (x : Nat) (hp : Hp) : Option (RV × Hp) := bd (look cx.glo x) fun v => some (.v v, hp)
noncomputable def h2 {α : Type} (a b : EvT) (k : RV -> RV -> Hp -> Option α) (hp : Hp) : Option α := bd (a hp) fun x => bd (b x.2) fun y => k x.1 y.1 y.2
noncomputable def kBin (o : Operator) (x y : RV) (hp : Hp) : Option (RV × Hp) := same hp (zev o x y hp)
noncomputable def kCmp (o : CmpOp) (x y : RV) (hp : Hp) : Option (Bool × Hp) := bd (zco o x y hp) fun r => some (r, hp)
noncomputable def kSub (x y : RV) (hp : Hp) : Option (RV × Hp) := same hp (zes x y hp)
noncomputable def hBin (o : Operator) (a b : EvT) (hp : Hp) : Option (RV × Hp) := h2 a b (kBin o) hp
noncomputable def tCmp (o : CmpOp) (a b : EvT) (hp : Hp) : Option (Bool × Hp) := h2 a b (kCmp o) hp
noncomputable def hCmp (o : CmpOp) (a b : EvT) (hp : Hp) : Option (RV × Hp) := bd (tCmp o a b hp) fun r => some (.v (.bool r.1), r.2)
noncomputable def hIfe (t : TrT) (a b : EvT) (hp : Hp) : Option (RV × Hp) := bd (t hp) fun x => cs x.1 (a x.2) (b x.2)
noncomputable def hLst (es : EsT) (hp : Hp) : Option (RV × Hp) := bd (es hp) fun x => bd (zcq x.1 x.2) fun y => some (.l y.1, y.2)
noncomputable def hTup (es : EsT) (hp : Hp) : Option (RV × Hp) := bd (es hp) fun x => bd (zcq x.1 x.2) fun y => some (.v (.tup y.1), y.2)
noncomputable def hSub (a i : EvT) (hp : Hp) : Option (RV × Hp) := h2 a i kSub hp
noncomputable def zl0 (xs : List Int) (k : Int) (st : Nat) : List V :=
 ((sliceRange (sliceBounds (some k) none (some (Int.ofNat st)) xs.length).1 (sliceBounds (some k) none (some (Int.ofNat st)) xs.length).2.1 (sliceBounds (some k) none (some (Int.ofNat st)) xs.length).2.2).filterMap (xs[·]?)).map V.int
noncomputable def zkh (cx : Cx) (x : RV) (y z : Option RV) (e : FE) : Option RV := bd (rTop x) fun a => bd (bd y rI) fun k => ifb (zjn z) (bd (eI e) fun st => bd (look cx.frz a) fun xs => ifb (Nat.blt 0 st) (some (.l (zl0 xs k st))))
noncomputable def kSli (cx : Cx) (st : Option FE) (x : RV) (y z : Option RV) (hp : Hp) : Option RV := byO st (zkh cx x y z) (zdo x y z hp)
noncomputable def hSli (cx : Cx) (a : EvT) (lo hi : Hp -> Option (Option RV × Hp)) (st : Option FE) (hp : Hp) : Option (RV × Hp) := bd (a hp) fun x => bd (lo x.2) fun y => bd (hi y.2) fun z => same z.2 (kSli cx st x.1 y.1 z.1 z.2)
noncomputable def hAtt (cx : Cx) (a : EvT) (x : Nat) (hp : Hp) : Option (RV × Hp) := bd (a hp) fun r => same r.2 (ztx cx r.1 x r.2)
noncomputable def hArg (as ks : EsT) (k : List RV -> List RV -> Hp -> Option (RV × Hp)) (hp : Hp) : Option (RV × Hp) := bd (as hp) fun xs => bd (ks xs.2) fun ys => k xs.1 ys.1 ys.2
noncomputable def zbc (cx : Cx) (f : EvT) (as : EsT) (kn : List Nat) (ks : EsT) (hp : Hp) : Option (RV × Hp) := bd (f hp) fun g => hArg as ks (fun xs ys h => zpu cx g.1 xs (kn.zip ys) h) g.2
noncomputable def zau (cx : Cx) (o : EvT) (x : Nat) (as : EsT) (kn : List Nat) (ks : EsT) (hp : Hp) : Option (RV × Hp) := bd (o hp) fun r => bd (zl1 cx r.1 x r.2) fun k => hArg as ks (fun xs ys h => mapp cx k x xs (kn.zip ys) h) r.2
noncomputable def hFmt (e : EvT) (hp : Hp) : Option (RV × Hp) := bd (e hp) fun x => bd (rS x.1) fun s => some (.v (.str s), x.2)
noncomputable def hJst (es : EsT) (hp : Hp) : Option (RV × Hp) := bd (es hp) fun x => bd (catR x.1) fun s => ifb (fits (len s)) (some (.v (.str s), x.2))
noncomputable def is0 (o : Option Nat) : Bool := byO o (Nat.beq 0) false
noncomputable def flr (sc' : List (Nat × Nat)) : L -> L
 | [] => []
 | p :: r => cs (is0 (look sc' p.1)) (flr sc' r) (p :: flr sc' r)
noncomputable def zcp (e : L -> EvT) (ts : List Nat) (ifs : L -> TrT) (fl : L) (v : V) (hp : Hp) : Option (Option V × Hp) := bd (bindC ts v fl hp) fun fl' => bd (ifs fl' hp) fun b => cs b.1 (bd (e fl' b.2) fun y => bd (rV y.1) fun v => some (some v, y.2)) (some (none, b.2))
noncomputable def zdu (e : L -> EvT) (ts : List Nat) (it : EvT) (ifs : L -> TrT) (fl : L) (hp : Hp) : Option (RV × Hp) := bd (it hp) fun r => bd (srcC r.1 r.2) fun s => bd (zbf (zcp e ts ifs fl) (zhl s r.2) s r.2) fun x => ifb (fits (len x.1)) (some (.l x.1, x.2))
noncomputable def zal (e : EvT) (r : EsT) (hp : Hp) : Option (List RV × Hp) := bd (e hp) fun x => bd (r x.2) fun xs => some (x.1 :: xs.1, xs.2)
noncomputable def zma (e : EvT) (hp : Hp) : Option (Option RV × Hp) := bd (e hp) fun x => some (some x.1, x.2)
noncomputable def tNot (a : TrT) (hp : Hp) : Option (Bool × Hp) := bd (a hp) fun x => some (bnot x.1, x.2)
noncomputable def hTru (a : EvT) (hp : Hp) : Option (Bool × Hp) := bd (a hp) fun x => bd (truV x.1 x.2) fun t => some (t, x.2)
noncomputable def tAnd (e r : TrT) (hp : Hp) : Option (Bool × Hp) := bd (e hp) fun x => cs x.1 (r x.2) (some (false, x.2))
noncomputable def tOr (e r : TrT) (hp : Hp) : Option (Bool × Hp) := bd (e hp) fun x => cs x.1 (some (true, x.2)) (r x.2)
mutual
noncomputable def ev (cx : Cx) (fl : L) : FE -> Hp -> Option (RV × Hp)
 | .none _, hp => some (.v .none, hp)
 | .tru _, hp => some (.v (.bool true), hp)
 | .fls _, hp => some (.v (.bool false), hp)
 | .int i _, hp => some (.v (.int (.ofNat i)), hp)
 | .str _ l _, hp => some (.v (.str l), hp)
 | .var x _, hp => hVar fl x hp
 | .glo x _, hp => hGlo cx x hp
 | .dbg _, hp => some (.v (.bool true), hp)
 | .bin o a b _, hp => hBin o (ev cx fl a) (ev cx fl b) hp
 | .neg a _ _, hp => some (.v (.int (Int.neg (.ofNat a))), hp)
 | .not _ _, _ => none
 | .and _ _, _ => none
 | .or _ _, _ => none
 | .cmp o a b _, hp => hCmp o (ev cx fl a) (ev cx fl b) hp
 | .ife t a b _, hp => hIfe (tr cx fl t) (ev cx fl a) (ev cx fl b) hp
 | .list es _, hp => hLst (evs cx fl es) hp
 | .tup es _, hp => hTup (evs cx fl es) hp
 | .sub a i _, hp => hSub (ev cx fl a) (ev cx fl i) hp
 | .sli a lo hi st _ _, hp => hSli cx (ev cx fl a) (evo cx fl lo) (evo cx fl hi) st hp
 | .att a x _, hp => hAtt cx (ev cx fl a) x hp
 | .call f as kn ks _ _, hp => zbc cx (ev cx fl f) (evs cx fl as) kn (evs cx fl ks) hp
 | .mcall o x as kn ks _ _ _, hp => zau cx (ev cx fl o) x (evs cx fl as) kn (evs cx fl ks) hp
 | .fmt e _ _, hp => hFmt (ev cx fl e) hp
 | .jst es _, hp => hJst (evs cx fl es) hp
 | .comp e ts _ _ it ifs sc _, hp => zdu (fun fl => ev cx fl e) ts (ev cx fl it) (fun fl => trA cx fl ifs) (flr sc fl) hp
noncomputable def evs (cx : Cx) (fl : L) : List FE -> Hp -> Option (List RV × Hp)
 | [], hp => some ([], hp)
 | e :: r, hp => zal (ev cx fl e) (evs cx fl r) hp
noncomputable def evo (cx : Cx) (fl : L) : Option FE -> Hp -> Option (Option RV × Hp)
 | none, hp => some (none, hp)
 | some e, hp => zma (ev cx fl e) hp
noncomputable def tr (cx : Cx) (fl : L) : FE -> Hp -> Option (Bool × Hp)
 | .not a _, hp => tNot (tr cx fl a) hp
 | .and es _, hp => trA cx fl es hp
 | .or es _, hp => trO cx fl es hp
 | .cmp o a b _, hp => tCmp o (ev cx fl a) (ev cx fl b) hp
 | .var x _, hp => hTru (hVar fl x) hp
 | .dbg _, hp => some (true, hp)
 | .tru _, hp => some (true, hp)
 | .bin o a b _, hp => hTru (hBin o (ev cx fl a) (ev cx fl b)) hp
 | .mcall o x as kn ks _ _ _, hp => hTru (zau cx (ev cx fl o) x (evs cx fl as) kn (evs cx fl ks)) hp
 | _, _ => none
noncomputable def trA (cx : Cx) (fl : L) : List FE -> Hp -> Option (Bool × Hp)
 | [], hp => some (true, hp)
 | e :: r, hp => tAnd (tr cx fl e) (trA cx fl r) hp
noncomputable def trO (cx : Cx) (fl : L) : List FE -> Hp -> Option (Bool × Hp)
 | [], hp => some (false, hp)
 | e :: r, hp => tOr (tr cx fl e) (trO cx fl r) hp
end

noncomputable def zaz (x : Nat) (r : RV) (fl : L) (hp : Hp) : Option (L × Hp) := bd (zem r hp) fun v => some (put fl x v.1, v.2)
noncomputable def bTpl (xs : List Nat) (r : RV) (fl : L) (hp : Hp) : Option (L × Hp) := bd (zff r hp) fun vs => bd (za7 xs vs fl) fun fl' => some (fl', hp)
noncomputable def bAtt (cx : Cx) (o : EvT) (x : Nat) (r : RV) (fl : L) (hp : Hp) : Option (L × Hp) := bd (o hp) fun q => bd (rR q.1) fun n => bd (zem r q.2) fun v => bd (insA n v.2) fun cd => bd (look cx.meth cd.1) fun _ =>
 ifb (Nat.ble (len (put cd.2 x v.1)) 100) (some (fl, upd v.2 n (.inst cd.1 (put cd.2 x v.1))))
noncomputable def bSet (cx : Cx) (n : Nat) (k v : V) (fl : L) (hp : Hp) : Option (L × Hp) :=
 orl (bd (lisA n hp) fun xs => bd (bd (vI k) iN) fun j => ifb (Nat.blt j (len xs)) (some (fl, upd hp n (.list (upd xs j v)))))
  (bd (insA n hp) fun cd => bd (look cx.meth cd.1) fun t => bd (look t cx.nSet) fun f => bd (cx.S f [.v (.ref n), .v k, .v v] [] hp) fun w => ifb (rN w.1) (some (fl, w.2)))
noncomputable def bSub (cx : Cx) (o i : EvT) (r : RV) (fl : L) (hp : Hp) : Option (L × Hp) := bd (rV r) fun v => bd (o hp) fun q => bd (rR q.1) fun n => bd (i q.2) fun j => bd (rV j.1) fun k => bSet cx n k v fl j.2
noncomputable def bAll (o : EvT) (r : RV) (fl : L) (hp : Hp) : Option (L × Hp) := bd (cont r hp) fun ys => bd (o hp) fun q => bd (rR q.1) fun n => bd (lisA n q.2) fun _ => some (fl, upd q.2 n (.list ys))
noncomputable def zc1 (cx : Cx) (t : Tg) (r : RV) (fl : L) (hp : Hp) : Option (L × Hp) := match t with
 | .name x _ => zaz x r fl hp
 | .tup xs _ _ => bTpl xs r fl hp
 | .att o x _ => bAtt cx (ev cx fl o) x r fl hp
 | .sub o i _ => bSub cx (ev cx fl o) (ev cx fl i) r fl hp
 | .all o _ _ => bAll (ev cx fl o) r fl hp
noncomputable def zf5 (cx : Cx) : List Tg -> V -> L -> Hp -> Option (L × Hp)
 | [], _, fl, hp => some (fl, hp)
 | t :: r, v, fl, hp => bd (zc1 cx t (.v v) fl hp) fun x => zf5 cx r v x.1 x.2
inductive LE where
 | dry | brk
 | ret (r : RV)
noncomputable def nxt (w : Fl × L × Hp) (more : Option (LE × L × Hp)) : Option (LE × L × Hp) := match w.1 with
 | .next => more
 | .cont => more
 | .brk => some (.brk, w.2)
 | .ret x => some (.ret x, w.2)
noncomputable def forS (f : V -> L -> Hp -> Option (Fl × L × Hp)) : Nat -> Src -> L -> Hp -> Option (LE × L × Hp)
 | 0, _, _, _ => none
 | k + 1, s, fl, hp => bd (zie s hp) fun o => byO o (fun p => bd (f p.1 fl hp) fun w => nxt w (forS f k p.2 w.2.1 w.2.2)) (some (.dry, fl, hp))
noncomputable def zvy (t : L -> Hp -> Option (Bool × Hp)) (f : L -> Hp -> Option (Fl × L × Hp)) : Nat -> L -> Hp -> Option (LE × L × Hp)
 | 0, _, _ => none
 | k + 1, fl, hp => bd (t fl hp) fun b => cs b.1 (bd (f fl b.2) fun w => nxt w (zvy t f k w.2.1 w.2.2)) (some (.dry, fl, b.2))
noncomputable def FUEL : Nat := 1000
noncomputable abbrev ExT := L -> Hp -> Option (Fl × L × Hp)
noncomputable def goN (o : Option (L × Hp)) : Option (Fl × L × Hp) := bd o fun x => some (.next, x)
noncomputable def xAsg (cx : Cx) (ts : List Tg) (e : L -> EvT) (fl : L) (hp : Hp) : Option (Fl × L × Hp) := bd (e fl hp) fun r => goN (byO (a1 ts) (fun t => zc1 cx t r.1 fl r.2) (bd (zem r.1 r.2) fun v => zf5 cx ts v.1 fl v.2))
noncomputable def xEx (e : L -> EvT) (fl : L) (hp : Hp) : Option (Fl × L × Hp) := bd (e fl hp) fun r => some (.next, fl, r.2)
noncomputable def xAug (x : Nat) (o : Operator) (e : L -> EvT) (fl : L) (hp : Hp) : Option (Fl × L × Hp) := bd (look fl x) fun u => bd (e fl hp) fun r => bd (vI u) fun a => bd (rI r.1) fun b => bd (binI o a b) fun c => some (.next, put fl x (.int c), r.2)
noncomputable def xIfe (t : L -> TrT) (a b : ExT) (fl : L) (hp : Hp) : Option (Fl × L × Hp) := bd (t fl hp) fun x => cs x.1 (a fl x.2) (b fl x.2)
noncomputable def aftL (o : ExT) (w : LE × L × Hp) : Option (Fl × L × Hp) := match w.1 with
 | .dry => o w.2.1 w.2.2
 | .brk => some (.next, w.2)
 | .ret r => some (.ret r, w.2)
noncomputable def xWhl (t : L -> TrT) (b : ExT) (fl : L) (hp : Hp) : Option (Fl × L × Hp) := bd (zvy t b FUEL fl hp) (aftL fun fl hp => some (.next, fl, hp))
noncomputable def zca (cx : Cx) (t : Tg) (b : ExT) (v : V) (fl : L) (hp : Hp) : Option (Fl × L × Hp) := bd (zc1 cx t (.v v) fl hp) fun x => b x.1 x.2
noncomputable def xFor (cx : Cx) (t : Tg) (it : L -> EvT) (b o : ExT) (fl : L) (hp : Hp) : Option (Fl × L × Hp) := bd (it fl hp) fun r => bd (zm2 r.1 r.2) fun s => bd (forS (zca cx t b) (zhl s r.2) s fl r.2) (aftL o)
noncomputable def xRet (e : L -> EvT) (fl : L) (hp : Hp) : Option (Fl × L × Hp) := bd (e fl hp) fun r => some (.ret r.1, fl, r.2)
noncomputable def xDel (cx : Cx) (o i : L -> EvT) (fl : L) (hp : Hp) : Option (Fl × L × Hp) := bd (o fl hp) fun q => bd (rR q.1) fun n => bd (i fl q.2) fun j => bd (rV j.1) fun k => bd (insA n j.2) fun cd => bd (look cx.meth cd.1) fun t => bd (look t cx.nDel) fun f =>
 bd (cx.S f [.v (.ref n), .v k] [] j.2) fun w => ifb (rN w.1) (some (.next, fl, w.2))
noncomputable def nx (w : Fl × L × Hp) (r : Option (Fl × L × Hp)) : Option (Fl × L × Hp) := match w.1 with
 | .next => r
 | .brk => some (.brk, w.2)
 | .cont => some (.cont, w.2)
 | .ret x => some (.ret x, w.2)
noncomputable def zbx (s r : ExT) (fl : L) (hp : Hp) : Option (Fl × L × Hp) := bd (s fl hp) fun w => nx w (r w.2.1 w.2.2)
mutual
noncomputable def ex (cx : Cx) : FS -> L -> Hp -> Option (Fl × L × Hp)
 | .asg ts e _, fl, hp => xAsg cx ts (fun fl => ev cx fl e) fl hp
 | .ex e _, fl, hp => xEx (fun fl => ev cx fl e) fl hp
 | .aug x _ o e _, fl, hp => xAug x o (fun fl => ev cx fl e) fl hp
 | .ife t a b _, fl, hp => xIfe (fun fl => tr cx fl t) (exs cx a) (exs cx b) fl hp
 | .whl t b _, fl, hp => xWhl (fun fl h => tr cx fl t h) (fun fl h => exs cx b fl h) fl hp
 | .for_ t it b o _, fl, hp => xFor cx t (fun fl => ev cx fl it) (exs cx b) (exs cx o) fl hp
 | .ret e _, fl, hp => xRet (fun fl => ev cx fl e) fl hp
 | .ret0 _, fl, hp => some (.ret (.v .none), fl, hp)
 | .brk _, fl, hp => some (.brk, fl, hp)
 | .pass _, fl, hp => some (.next, fl, hp)
 | .del o i _ _, fl, hp => xDel cx (fun fl => ev cx fl o) (fun fl => ev cx fl i) fl hp
 | .dead _, _, _ => none
noncomputable def exs (cx : Cx) : List FS -> L -> Hp -> Option (Fl × L × Hp)
 | [], fl, hp => some (.next, fl, hp)
 | s :: r, fl, hp => zbx (ex cx s) (exs cx r) fl hp
end
noncomputable def outB (w : Fl × L × Hp) : Option (RV × Hp) := match w.1 with
 | .next => some (.v .none, w.2.2)
 | .ret r => some (r, w.2.2)
 | .brk => none
 | .cont => none
noncomputable def body (cx : Cx) (b : List FS) (fl : L) (hp : Hp) : Option (RV × Hp) := bd (exs cx b fl hp) outB

noncomputable def pos (p : Nat) : Pos := ⟨p / 1000000000, p / 1000000 % 1000, p / 1000 % 1000, p % 1000⟩
noncomputable def zdt (k : Nat) : NameKind := match k with
 | 0 => .local | 1 => .cell | 2 => .free | 3 => .globalExplicit | _ => .globalImplicit
noncomputable def scN (nm : Nat -> Str) (sc : List (Nat × Nat)) : List (Str × NameKind) := sc.map fun p => (nm p.1, zdt p.2)
noncomputable def scF (nm : Nat -> Str) (sc : List (Nat × Nat)) : Scope := { kind := .function, names := scN nm sc, isGenerator := false, isCoroutine := false }
noncomputable def names (nm : Nat -> Str) : List Nat -> List Nat -> List Expr
 | [], _ => []
 | x :: r, [] => .Name (nm x) (pos 0) :: names nm r []
 | x :: r, p :: t => .Name (nm x) (pos p) :: names nm r t
noncomputable def kwds (nm : Nat -> Str) : List Nat -> List Expr -> List Nat -> List Keyword
 | x :: r, e :: t, p :: q => ⟨some (nm x), e, pos p⟩ :: kwds nm r t q
 | _, _, _ => []
noncomputable def tgC (nm : Nat -> Str) (ts tps : List Nat) (tp : Nat) : Expr := match ts with
 | [x] => .Name (nm x) (pos tp)
 | ts => .Tuple (names nm ts tps) 0 (pos tp)
mutual
noncomputable def tE (nm : Nat -> Str) : FE -> Expr
 | .none p => .Constant .none 0 (pos p)
 | .tru p => .Constant (.bool true) 0 (pos p)
 | .fls p => .Constant (.bool false) 0 (pos p)
 | .int i p => .Constant (.int (.ofNat i)) 0 (pos p)
 | .str s _ p => .Constant (.str (Str.ofString s)) 0 (pos p)
 | .var x p => .Name (nm x) (pos p)
 | .glo x p => .Name (nm x) (pos p)
 | .dbg p => .Name (Str.ofString "__debug__") (pos p)
 | .bin o a b p => .BinOp (tE nm a) o (tE nm b) (pos p)
 | .neg a q p => .UnaryOp .USub (.Constant (.int (.ofNat a)) 0 (pos q)) (pos p)
 | .not a p => .UnaryOp .Not (tE nm a) (pos p)
 | .and es p => .BoolOp .And (tEs nm es) (pos p)
 | .or es p => .BoolOp .Or (tEs nm es) (pos p)
 | .cmp o a b p => .Compare (tE nm a) [o] [tE nm b] (pos p)
 | .ife t a b p => .IfExp (tE nm t) (tE nm a) (tE nm b) (pos p)
 | .list es p => .List (tEs nm es) (pos p)
 | .tup es p => .Tuple (tEs nm es) 0 (pos p)
 | .sub a i p => .Subscript (tE nm a) (tE nm i) (pos p)
 | .sli a lo hi st q p => .Subscript (tE nm a) (.Slice (tO nm lo) (tO nm hi) (tO nm st) (pos q)) (pos p)
 | .att a x p => .Attribute (tE nm a) (nm x) (pos p)
 | .call f as kn ks kp p => .Call (tE nm f) (tEs nm as) (kwds nm kn (tEs nm ks) kp) (pos p)
 | .mcall o x as kn ks kp ap p => .Call (.Attribute (tE nm o) (nm x) (pos ap)) (tEs nm as) (kwds nm kn (tEs nm ks) kp) (pos p)
 | .fmt e c p => .FormattedValue (tE nm e) (.ofNat c) none (pos p)
 | .jst es p => .JoinedStr (tEs nm es) (pos p)
 | .comp e ts tps tp it ifs sc p => .ListComp (tE nm e) [⟨tgC nm ts tps tp, tE nm it, tEs nm ifs, 0⟩] (scF nm sc) (pos p)
noncomputable def tEs (nm : Nat -> Str) : List FE -> List Expr
 | [] => []
 | e :: r => tE nm e :: tEs nm r
noncomputable def tO (nm : Nat -> Str) : Option FE -> Option Expr
 | none => none
 | some e => some (tE nm e)
end
noncomputable def tT (nm : Nat -> Str) : Tg -> Expr
 | .name x p => .Name (nm x) (pos p)
 | .tup xs ps p => .Tuple (names nm xs ps) 0 (pos p)
 | .att o x p => .Attribute (tE nm o) (nm x) (pos p)
 | .sub o i p => .Subscript (tE nm o) (tE nm i) (pos p)
 | .all o q p => .Subscript (tE nm o) (.Slice none none none (pos q)) (pos p)
noncomputable def tTs (nm : Nat -> Str) : List Tg -> List Expr
 | [] => []
 | t :: r => tT nm t :: tTs nm r
mutual
noncomputable def tS (nm : Nat -> Str) : FS -> Stmt
 | .asg ts e p => .Assign (tTs nm ts) (tE nm e) (pos p)
 | .ex e p => .Expr (tE nm e) (pos p)
 | .aug x q o e p => .AugAssign (.Name (nm x) (pos q)) o (tE nm e) (pos p)
 | .ife t a b p => .If (tE nm t) (tSs nm a) (tSs nm b) (pos p)
 | .whl t b p => .While (tE nm t) (tSs nm b) [] (pos p)
 | .for_ t it b o p => .For (tT nm t) (tE nm it) (tSs nm b) (tSs nm o) (pos p)
 | .ret e p => .Return (some (tE nm e)) (pos p)
 | .ret0 p => .Return none (pos p)
 | .brk p => .Break (pos p)
 | .pass p => .Pass (pos p)
 | .del o i q p => .Delete [.Subscript (tE nm o) (tE nm i) (pos q)] (pos p)
 | .dead s => s
noncomputable def tSs (nm : Nat -> Str) : List FS -> List Stmt
 | [] => []
 | s :: r => tS nm s :: tSs nm r
end
end
end Mine
end
noncomputable section
open PySem PySem.W PyProof.Rows
namespace Mine
section

noncomputable def Bi.val : Bi -> Value
 | .len => .builtin "len"
 | .range => .type "range"
 | .max => .builtin "max"
 | .min => .builtin "min"
 | .sum => .builtin "sum"
 | .sorted => .builtin "sorted"
 | .hex => .builtin "hex"
 | .divmod => .builtin "divmod"
 | .abs => .builtin "abs"
 | .tuple => .type "tuple"
 | .type => .type "type"
 | .list => .type "list"
 | .str => .type "str"
 | .enumerate => .type "enumerate"

noncomputable def asc : List Nat -> Bool
 | [] => true
 | c :: r => match Nat.blt c 128 with | true => asc r | false => false
noncomputable def sOk (s : List Nat) : Prop := asc s = true /\ s.length ≤ 65536
noncomputable abbrev St (s : List Nat) : Str := ⟨s.toArray⟩

noncomputable abbrev tupO (vs : List Value) (n : Nat) : Obj := { cls := .type "tuple", data := .seq vs.toArray n }
noncomputable abbrev lstO (vs : List Value) (n : Nat) : Obj := { cls := .type "list", data := .seq vs.toArray n }
noncomputable abbrev rngO (a b c : Int) (t u v : Tok) : Obj := { cls := .type "range", data := .fields #[.int a t, .int b u, .int c v] }

noncomputable def Imm (o : Obj) : Prop := (o.cls = .type "tuple" /\ ∃ xs n, o.data = .seq xs n) ∨ (o.cls = .type "range" /\ ∃ vs, o.data = .fields vs)

noncomputable abbrev Rho := List (List Addr)

mutual
noncomputable def VR (ρ : Rho) (h : Heap) : V -> Value -> Prop
 | .none, v => v = .none
 | .bool b, v => v = .bool b
 | .int i, v => ∃ t, v = .int i t
 | .str s, v => (∃ t, v = .str (St s) t) /\ sOk s
 | .tup xs, v => ∃ a vs n, v = .ref a /\ h.get? a = some (tupO vs n) /\ VRs ρ h xs vs /\ vs.length ≤ 65536
 | .ref n, v => ∃ a r, nth ρ n = some (a :: r) /\ v = .ref a
 | .top a, v => v = .ref a
 | .bi b, v => v = b.val
 | .rng a b c, v => ∃ x t u w, v = .ref x /\ h.get? x = some (rngO a b c t u w) /\ Builtin.Range.small a b c = true
noncomputable def VRs (ρ : Rho) (h : Heap) : List V -> List Value -> Prop
 | [], vs => vs = []
 | x :: r, vs => ∃ v t, vs = v :: t /\ VR ρ h x v /\ VRs ρ h r t
end

theorem zb8 {α : Type} : ∀ (l : List α) (x : α), nth (l ++ [x]) (len l) = some x
 | [], _ => rfl
 | _ :: r, x => zb8 r x
theorem zag {α : Type} : ∀ l : List α, len l = l.length
 | [] => rfl
 | _ :: r => by rw [len, zag r, List.length_cons]
theorem zbd {α : Type} : ∀ (l : List α) (n : Nat), nth l n = l[n]?
 | [], _ => by simp [nth]
 | _ :: _, 0 => by simp [nth]
 | _ :: r, n + 1 => by simp [nth, zbd r n]
theorem zai {α : Type} {l : List α} {n : Nat} {x : α} (r : List α) (h : nth l n = some x) : nth (l ++ r) n = some x := by
 rw [zbd] at *
 rw [List.getElem?_append_left (List.getElem?_eq_some_iff.mp h).1]; exact h
theorem zdk {α : Type} {l : List α} {n : Nat} {x : α} (h : nth l n = some x) : n < l.length := by
 rw [zbd] at h; exact (List.getElem?_eq_some_iff.mp h).1
theorem zjl {α : Type} {l : List α} {n : Nat} {x : α} (h : nth l n = some x) : x ∈ l := by
 rw [zbd] at h; exact List.mem_of_getElem? h
theorem zkd {α : Type} : ∀ (l : List α) (n : Nat) (v : α), upd l n v = l.set n v
 | [], _, _ => rfl
 | _ :: _, 0, _ => rfl
 | x :: r, n + 1, v => by rw [upd, zkd r, List.set_cons_succ]
theorem zhc {α : Type} (l : List α) (n : Nat) (v : α) : (upd l n v).length = l.length := by rw [zkd, List.length_set]
theorem zay {α : Type} {l : List α} {n : Nat} {x : α} (v : α) (h : nth l n = some x) : nth (upd l n v) n = some v := by
 rw [zbd, zkd, List.getElem?_set_self (zdk h)]
theorem zbh {α : Type} {l : List α} {n m : Nat} (v : α) (h : n ≠ m) : nth (upd l n v) m = nth l m := by
 rw [zbd, zbd, zkd, List.getElem?_set_ne h]
theorem zam {a b : Nat} (h : Nat.beq a b = true) : a = b := Nat.eq_of_beq_eq_true h
theorem zdy {a b : Nat} (h : Nat.beq a b = false) : a ≠ b := Nat.ne_of_beq_eq_false h
theorem zaa {α : Type} : ∀ (l : List (Nat × α)) (x : Nat) (v : α) (y : Nat), look (put l x v) y = if y = x then some v else look l y
 | [], x, v, y => by
  simp only [put, look]
  cases h : Nat.beq x y with
  | true => simp [zam h]
  | false => simp [Ne.symm (zdy h)]
 | p :: r, x, v, y => by
  simp only [put]
  cases h : Nat.beq p.1 x with
  | true =>
   simp only [look]
   cases h' : Nat.beq x y with
   | true => simp [zam h']
   | false =>
    have : p.1 ≠ y := zam h ▸ zdy h'
    have e : Nat.beq p.1 y = false := by cases q : Nat.beq p.1 y with | true => exact absurd (zam q) this | false => rfl
    simp [Ne.symm (zdy h'), e]
  | false =>
   simp only [look]
   cases h' : Nat.beq p.1 y with
   | true =>
    have : y ≠ x := fun e => zdy h ((zam h').trans e)
    simp [this]
   | false => simpa using zaa r x v y
theorem zrt {α : Type} {l : List α} {n : Nat} (h : nth l n = none) : l.length ≤ n := by
 rw [zbd] at h; exact List.getElem?_eq_none_iff.mp h

noncomputable def Ext (ρ ρ' : Rho) : Prop := ∀ n e, nth ρ n = some e -> nth ρ' n = some e
theorem Ext.refl (ρ : Rho) : Ext ρ ρ := fun _ _ h => h
theorem Ext.trans {a b c : Rho} (x : Ext a b) (y : Ext b c) : Ext a c := fun n e h => y n e (x n e h)
theorem Ext.append (ρ nw : Rho) : Ext ρ (ρ ++ nw) := fun _ _ h => zai nw h
noncomputable def ImmK (h h' : Heap) : Prop := ∀ b o, h.get? b = some o -> Imm o -> h'.get? b = some o
section
variable {ρ ρ' : Rho} {h h' : Heap}
theorem VR.both (e : Ext ρ ρ') (k : ImmK h h') (x : V) : (∀ v, VR ρ h x v -> VR ρ' h' x v) :=
 V.rec (motive_1 := fun x => ∀ v, VR ρ h x v -> VR ρ' h' x v) (motive_2 := fun xs => ∀ vs, VRs ρ h xs vs -> VRs ρ' h' xs vs)
  (fun _ H => H) (fun _ _ H => H) (fun _ _ H => H) (fun _ _ H => H)
  (fun _ ih _ ⟨a, vs, n, q, ho, hx, hl⟩ => ⟨a, vs, n, q, k _ _ ho (.inl ⟨rfl, _, _, rfl⟩), ih vs hx, hl⟩)
  (fun _ _ ⟨a, r, hn, hv⟩ => ⟨a, r, e _ _ hn, hv⟩) (fun _ _ H => H) (fun _ _ H => H)
  (fun _ _ _ _ ⟨x, t, u, w, q, ho, hs⟩ => ⟨x, t, u, w, q, k _ _ ho (.inr ⟨rfl, _, rfl⟩), hs⟩)
  (fun _ H => H) (fun _ _ i1 i2 _ ⟨v, t, q, hx, hr⟩ => ⟨v, t, q, i1 v hx, i2 t hr⟩) x
theorem VR.mono (e : Ext ρ ρ') (k : ImmK h h') (x : V) (v : Value) : VR ρ h x v -> VR ρ' h' x v := VR.both e k x v
theorem VRs.mono (e : Ext ρ ρ') (k : ImmK h h') (xs : List V) : ∀ (vs : List Value), VRs ρ h xs vs -> VRs ρ' h' xs vs := by
 induction xs with
 | nil => exact fun _ H => H
 | cons x r ih => exact fun _ ⟨v, t, q, hx, hr⟩ => ⟨v, t, q, VR.mono e k x v hx, ih t hr⟩
theorem VRs.len {xs : List V} : ∀ {vs : List Value}, VRs ρ h xs vs -> vs.length = xs.length := by
 induction xs with
 | nil => exact fun H => congrArg List.length (show _ = [] from H)
 | cons x r ih => exact fun ⟨v, t, q, hx, hr⟩ => (congrArg List.length q).trans (congrArg (· + 1) (ih hr))
theorem VRs.nil : VRs ρ h [] [] := rfl
theorem VRs.cons {x : V} {v : Value} {xs : List V} {vs : List Value} (a : VR ρ h x v) (b : VRs ρ h xs vs) : VRs ρ h (x :: xs) (v :: vs) := ⟨v, vs, rfl, a, b⟩
theorem VRs.app {xs ys : List V} {ws : List Value} (b : VRs ρ h ys ws) : ∀ {vs : List Value}, VRs ρ h xs vs -> VRs ρ h (xs ++ ys) (vs ++ ws) := by
 induction xs with
 | nil => exact fun a => by rw [show _ = [] from a]; exact b
 | cons x r ih => exact fun ⟨v, t, q, hx, hr⟩ => ⟨v, t ++ ws, congrArg (· ++ ws) q, hx, ih hr⟩
theorem VRs.append {xs ys : List V} {vs ws : List Value} (a : VRs ρ h xs vs) (b : VRs ρ h ys ws) : VRs ρ h (xs ++ ys) (vs ++ ws) := b.app a
theorem VRs.nth {xs : List V} {x : V} : ∀ {vs : List Value} {n : Nat}, VRs ρ h xs vs -> Mine.nth xs n = some x -> ∃ v, vs[n]? = some v /\ VR ρ h x v := by
 induction xs with
 | nil => exact fun {_ n} _ e => nn (show none = some x from e)
 | cons y r ih =>
  intro vs n ⟨v, t, q, hx, hr⟩ e
  cases n with
  | zero => exact ⟨v, q ▸ rfl, prf e ▸ hx⟩
  | succ n => obtain ⟨u, h1, h2⟩ := ih hr e; exact ⟨u, q ▸ h1, h2⟩
end

noncomputable abbrev WkT := List V -> Addr -> List (Addr × Obj) -> Nat -> GenState -> Prop
structure Bx where
 prog : Program
 w : World
 nms : List Str
 h₀ : Heap
 Wk : WkT
@[reducible] noncomputable def Bx.wk (Ω : Bx) (W : WkT) : Bx := ⟨Ω.prog, Ω.w, Ω.nms, Ω.h₀, W⟩
@[reducible] noncomputable def Bx.M (Ω : Bx) : Model := model Ω.prog Ω.w

section
variable (Ω : Bx)
noncomputable def nmOf (i : Nat) : Str := Ω.nms.getD i (Str.ofString "__debug__")
noncomputable def DE (ρ : Rho) (h : Heap) : List (Nat × V) -> List DictEntry -> Prop
 | [], es => es = []
 | p :: d, es => ∃ e r, es = e :: r /\ p.1 < Ω.nms.length /\ (∃ t, e.key = .str (nmOf Ω p.1) t) /\ VR ρ h p.2 e.val /\ DE ρ h d r
noncomputable def OR (ρ : Rho) (h : Heap) : O -> List Addr -> Prop
 | .list xs, e => ∃ a vs n, e = [a] /\ h.get? a = some (lstO vs n) /\ VRs ρ h xs vs /\ vs.length ≤ 65537
 | .inst c d, e => ∃ a b es n, e = [a, b] /\ h.get? a = some (instObj c b) /\ h.get? b = some (dictOf es n) /\ DE Ω ρ h d es /\ len d ≤ 100
 | .dict _, _ => False

structure HS (ρ : Rho) (hp : Hp) (s : Shared) : Prop where
 base : ∀ b o, Ω.h₀.get? b = some o -> s.heap.get? b = some o
 fresh : ∀ a ∈ ρ.flatten, Ω.h₀.get? a = none
 nodup : ρ.flatten.Nodup
 len : hp.length = ρ.length
 obj : ∀ n o e, nth hp n = some o -> nth ρ n = some e -> OR Ω ρ s.heap o e
 gens : AllBare s.gens

structure Go (fa : List Addr) (ρ : Rho) (s : Shared) (ρ' : Rho) (s' : Shared) : Prop where
 ext : ∃ nw, ρ' = ρ ++ nw /\ ∀ a ∈ nw.flatten, s.heap.get? a = none
 keep : ∀ b o, s.heap.get? b = some o -> b ∉ ρ.flatten -> b ∉ fa -> s'.heap.get? b = some o
 imm : ImmK s.heap s'.heap
 grow : ∀ b o, s.heap.get? b = some o -> ∃ o', s'.heap.get? b = some o'
 gens : ∀ (g : Nat) (st : GenState), s.gens[g]? = some st -> s'.gens[g]? = some st
 os : s'.os = s.os
end
theorem Go.refl (fa : List Addr) (ρ : Rho) (s : Shared) : Go fa ρ s ρ s :=
 ⟨⟨[], by simp, by simp⟩, fun _ _ e _ _ => e, fun _ _ e _ => e, fun _ o e => ⟨o, e⟩, fun _ _ e => e, rfl⟩
theorem Go.Ext {fa : List Addr} {ρ ρ' : Rho} {s s' : Shared} (g : Go fa ρ s ρ' s') : Ext ρ ρ' := by
 obtain ⟨nw, rfl, _⟩ := g.ext; exact Ext.append ρ nw
theorem Go.trans {fa fb : List Addr} {ρ ρ₁ ρ₂ : Rho} {s s₁ s₂ : Shared} (x : Go fa ρ s ρ₁ s₁) (y : Go fb ρ₁ s₁ ρ₂ s₂) (hf : ∀ a ∈ fb, a ∈ fa ∨ s.heap.get? a = none) : Go fa ρ s ρ₂ s₂ := by
 obtain ⟨nw, rfl, hn⟩ := x.ext
 obtain ⟨nw', rfl, hn'⟩ := y.ext
 refine ⟨⟨nw ++ nw', by rw [List.append_assoc], fun a ha => ?_⟩, fun b o e n1 n2 => ?_, fun b o e i => y.imm b o (x.imm b o e i) i, fun b o e => ?_, fun g st e => y.gens g st (x.gens g st e), y.os.trans x.os⟩
 · rw [List.flatten_append, List.mem_append] at ha
   rcases ha with ha | ha
   · exact hn a ha
   · cases q : s.heap.get? a with
     | none => rfl
     | some o => obtain ⟨o', e'⟩ := x.grow a o q; rw [hn' a ha] at e'; cases e'
 · refine y.keep b o (x.keep b o e n1 n2) ?_ fun hb => ?_
   · rw [List.flatten_append, List.mem_append]
     rintro (h | h)
     · exact n1 h
     · rw [hn b h] at e; cases e
   · rcases hf b hb with h | h
     · exact n2 h
     · rw [h] at e; cases e
 · obtain ⟨o', e'⟩ := x.grow b o e
   exact y.grow b o' e'
theorem Go.trans0 {fa : List Addr} {ρ ρ₁ ρ₂ : Rho} {s s₁ s₂ : Shared} (x : Go fa ρ s ρ₁ s₁) (y : Go [] ρ₁ s₁ ρ₂ s₂) : Go fa ρ s ρ₂ s₂ := x.trans y (by simp)
theorem Go.transS {fa : List Addr} {ρ ρ₁ ρ₂ : Rho} {s s₁ s₂ : Shared} (x : Go fa ρ s ρ₁ s₁) (y : Go fa ρ₁ s₁ ρ₂ s₂) : Go fa ρ s ρ₂ s₂ := x.trans y fun _ h => .inl h
theorem Go.wide {fa fb : List Addr} {ρ ρ' : Rho} {s s' : Shared} (x : Go fa ρ s ρ' s') (h : ∀ a ∈ fa, a ∈ fb) : Go fb ρ s ρ' s' :=
 ⟨x.ext, fun b o e n1 n2 => x.keep b o e n1 fun q => n2 (h b q), x.imm, x.grow, x.gens, x.os⟩
theorem Go.any {fa : List Addr} {ρ ρ' : Rho} {s s' : Shared} (x : Go [] ρ s ρ' s') : Go fa ρ s ρ' s' := x.wide (by simp)
theorem Go.vr {fa : List Addr} {ρ ρ' : Rho} {s s' : Shared} (g : Go fa ρ s ρ' s') {x : V} {v : Value} (h : VR ρ s.heap x v) : VR ρ' s'.heap x v := VR.mono g.Ext g.imm x v h
theorem Go.vrs {fa : List Addr} {ρ ρ' : Rho} {s s' : Shared} (g : Go fa ρ s ρ' s') {x : List V} {v : List Value} (h : VRs ρ s.heap x v) : VRs ρ' s'.heap x v := VRs.mono g.Ext g.imm x v h
theorem Go.tok (fa : List Addr) (ρ : Rho) (s : Shared) (t : Nat) : Go fa ρ s ρ { s with toks := t } :=
 ⟨⟨[], by simp, by simp⟩, fun _ _ e _ _ => e, fun _ _ e _ => e, fun _ o e => ⟨o, e⟩, fun _ _ e => e, rfl⟩
theorem Go.keeps (fa : List Addr) (ρ : Rho) (s : Shared) {h' : Heap} {t : Nat} (k : ∀ b o, s.heap.get? b = some o -> h'.get? b = some o) : Go fa ρ s ρ { s with heap := h', toks := t } :=
 ⟨⟨[], by simp, by simp⟩, fun b o e _ _ => k b o e, fun b o e _ => k b o e, fun b o e => ⟨o, k b o e⟩, fun _ _ e => e, rfl⟩
theorem Go.push (fa : List Addr) (ρ : Rho) (s : Shared) (o : Obj) (t : Nat) : Go fa ρ s ρ { s with heap := s.heap.push o, toks := t } :=
 Go.keeps fa ρ s fun _ _ e => Heap.get?_push_of_some o e

theorem DE.mono {Ω : Bx} {ρ ρ' : Rho} {h h' : Heap} (e : Ext ρ ρ') (k : ImmK h h') {d : List (Nat × V)} : ∀ {es : List DictEntry}, DE Ω ρ h d es -> DE Ω ρ' h' d es := by
 induction d with
 | nil => exact fun x => x
 | cons p d ih => exact fun ⟨a, r, q, h1, h2, h3, h4⟩ => ⟨a, r, q, h1, h2, VR.mono e k _ _ h3, ih h4⟩
theorem OR.mono {Ω : Bx} {ρ ρ' : Rho} {h h' : Heap} {o : O} {e : List Addr} (x : Ext ρ ρ') (i : ImmK h h') (k : ∀ a ∈ e, ∀ ob, h.get? a = some ob -> h'.get? a = some ob) (H : OR Ω ρ h o e) : OR Ω ρ' h' o e := by
 cases o with
 | list xs =>
  obtain ⟨a, vs, n, q, ho, hv, hl⟩ := H
  exact ⟨a, vs, n, q, k a (q ▸ .head _) _ ho, VRs.mono x i _ _ hv, hl⟩
 | inst c d =>
  obtain ⟨a, b, es, n, q, ho, hb, hd, hl⟩ := H
  exact ⟨a, b, es, n, q, k a (q ▸ .head _) _ ho, k b (q ▸ .tail _ (.head _)) _ hb, hd.mono x i, hl⟩
 | dict es => exact H
theorem mem1 {α : Type} {a : α} {p : α -> Prop} (h : p a) : ∀ b ∈ [a], p b := fun _ hb => List.mem_singleton.mp hb ▸ h
theorem mem2 {α : Type} {a b : α} {p : α -> Prop} (h : p a) (h' : p b) : ∀ c ∈ [a, b], p c := fun _ hc => (List.mem_cons.mp hc).elim (fun e => e ▸ h) (mem1 h' _)
theorem ni_of {o : Obj} (h1 : o.cls ≠ .type "tuple") (h2 : o.cls ≠ .type "range") : ¬ Imm o := fun h => h.elim (fun h => h1 h.1) fun h => h2 h.1
theorem zfm {vs : List Value} {n : Nat} : ¬ Imm (lstO vs n) := ni_of (fun h => absurd (Value.type.inj h) (by decide)) (fun h => absurd (Value.type.inj h) (by decide))
theorem OR.live {Ω : Bx} {ρ : Rho} {h : Heap} {o : O} {e : List Addr} (H : OR Ω ρ h o e) : ∀ a ∈ e, ∃ ob, h.get? a = some ob /\ ¬ Imm ob := by
 cases o with
 | list xs =>
  obtain ⟨a, vs, n, q, ho, hv, hl⟩ := H
  rw [q]
  exact mem1 ⟨_, ho, zfm⟩
 | inst c d =>
  obtain ⟨a, b, es, n, q, ho, hb, hd, hl⟩ := H
  rw [q]
  exact mem2 ⟨_, ho, by simp [Imm]⟩ ⟨_, hb, by simp [Imm]⟩
 | dict es => exact H.elim
end
end Mine
end
noncomputable section
open PySem PySem.W PyProof.Rows
namespace Mine
section

section
variable {Ω : Bx} {ρ ρ' : Rho} {hp hp' : Hp} {s s' : Shared} {n : Nat} {o : O} {e : List Addr} {x a : Addr}

theorem sn {α : Type} {o : Option α} {b : α} {G : Prop} (h : o = none) (h' : o = some b) : G := nn (h.symm.trans h')
theorem zc5 {α β : Type} {o : Option α} {p : Option β} (k : ∀ x, p = some x -> ∃ y, o = some y) (h : o = none) : p = none := by
 cases p with
 | none => rfl
 | some x => exact (k x rfl).elim fun _ e => sn h e
theorem zbu {ρ : Rho} (h : nth ρ n = some e) (ha : a ∈ e) : a ∈ ρ.flatten := List.mem_flatten.mpr ⟨e, zjl h, ha⟩
theorem zeh {f : List Addr} {ρ : Rho} : ∀ {n m : Nat}, ρ.flatten.Nodup -> nth ρ n = some e -> nth ρ m = some f -> a ∈ e -> a ∈ f -> n = m := by
 induction ρ with
 | nil => exact fun {n _} _ h _ _ _ => nn (show none = some e from h)
 | cons y r ih =>
  intro n m hd h1 h2 ha hb
  have hd := List.nodup_append.mp (List.flatten_cons ▸ hd)
  cases n with
  | zero => cases m with
   | zero => rfl
   | succ m => exact absurd rfl (hd.2.2 a (prf h1 ▸ ha) a (zbu h2 hb))
  | succ n => cases m with
   | zero => exact absurd rfl (hd.2.2 a (prf h2 ▸ hb) a (zbu h1 ha))
   | succ m => exact congrArg (· + 1) (ih hd.2.1 h1 h2 ha hb)
theorem ze4 {α : Type} {l : List α} {n : Nat} (h : n < l.length) : nth l n = some l[n] := (zbd l n).trans (List.getElem?_eq_getElem h)
theorem HS.at (H : HS Ω ρ hp s) (h : nth hp n = some o) : ∃ e, nth ρ n = some e /\ OR Ω ρ s.heap o e :=
 have this := ze4 (H.len ▸ zdk h)
 ⟨_, this, H.obj n o _ h this⟩
theorem HS.live (H : HS Ω ρ hp s) (ha : a ∈ ρ.flatten) : ∃ ob, s.heap.get? a = some ob /\ ¬ Imm ob := by
 obtain ⟨e, he, hae⟩ := List.mem_flatten.mp ha
 obtain ⟨n, hn, q⟩ := List.getElem_of_mem he
 exact (H.obj n _ e (ze4 (H.len.symm ▸ hn)) (q ▸ ze4 hn)).live a hae
theorem HS.notIn (H : HS Ω ρ hp s) (h : s.heap.get? a = none) : a ∉ ρ.flatten := fun q => (H.live q).elim fun _ e => sn h e.1
theorem HS.base_none (H : HS Ω ρ hp s) (h : s.heap.get? a = none) : Ω.h₀.get? a = none := zc5 (fun o e => ⟨o, H.base a o e⟩) h
theorem HS.out (H : HS Ω ρ hp s) {o : Obj} (ha : a ∈ ρ.flatten) (hb : Ω.h₀.get? a = some o) {G : Prop} : G := sn (H.fresh a ha) hb

theorem HS.keeps (H : HS Ω ρ hp s) (k : ∀ b o, s.heap.get? b = some o -> s'.heap.get? b = some o) (hg : AllBare s'.gens) : HS Ω ρ hp s' :=
 ⟨fun b o e => k _ _ (H.base b o e), H.fresh, H.nodup, H.len, fun n o e h1 h2 => (H.obj n o e h1 h2).mono (Ext.refl ρ) (fun b o e _ => k b o e) fun a _ ob e => k a ob e, hg⟩
theorem HS.heap (H : HS Ω ρ hp s) {h' : Heap} {t : Nat} (k : ∀ b o, s.heap.get? b = some o -> h'.get? b = some o) : HS Ω ρ hp { s with heap := h', toks := t } := H.keeps k H.gens
theorem HS.tok (H : HS Ω ρ hp s) (t : Nat) : HS Ω ρ hp { s with toks := t } := H.keeps (fun _ _ e => e) H.gens
theorem HS.push (H : HS Ω ρ hp s) (o : Obj) (t : Nat) : HS Ω ρ hp { s with heap := s.heap.push o, toks := t } := H.heap fun _ _ e => Heap.get?_push_of_some o e

theorem za8 (ρ : Rho) (e : List Addr) : (ρ ++ [e]).flatten = ρ.flatten ++ e := by rw [List.flatten_append]; exact congrArg (ρ.flatten ++ ·) (List.append_nil e)
theorem zbv {α : Type} {l : List α} {x y : α} : ∀ {n : Nat}, nth (l ++ [x]) n = some y -> nth l n = some y ∨ (n = l.length /\ y = x) := by
 induction l with
 | nil => exact fun {n} h => match n, h with
  | 0, h => .inr ⟨rfl, (prf h).symm⟩
  | _ + 1, h => nn h
 | cons z r ih => exact fun {n} h => match n, h with
  | 0, h => .inl h
  | _ + 1, h => (ih h).imp id fun h => ⟨congrArg (· + 1) h.1, h.2⟩
theorem HS.take (H : HS Ω ρ hp s) (ho : OR Ω (ρ ++ [e]) s.heap o e) (hn : e.Nodup) (hd : ∀ a ∈ e, a ∉ ρ.flatten) (hb : ∀ a ∈ e, Ω.h₀.get? a = none) : HS Ω (ρ ++ [e]) (hp ++ [o]) s := by
 refine ⟨H.base, fun a ha => ?_, ?_, ?_, fun n o' e' h1 h2 => ?_, H.gens⟩
 · exact (List.mem_append.mp (za8 ρ e ▸ ha)).elim (H.fresh a) (hb a)
 · rw [za8]
   exact List.nodup_append.mpr ⟨H.nodup, hn, fun a ha b hb q => hd b hb (q ▸ ha)⟩
 · rw [List.length_append, List.length_append, H.len]; rfl
 · rcases zbv (x := o) (y := o') h1 with q | ⟨q, q'⟩
   · rcases zbv (x := e) (y := e') h2 with r | ⟨r, _⟩
     · exact (H.obj n o' e' q r).mono (Ext.append _ _) (fun _ _ e _ => e) fun _ _ _ e => e
     · exact absurd (Nat.lt_of_lt_of_eq (zdk q) (H.len.trans r.symm)) (Nat.lt_irrefl _)
   · rcases zbv (x := e) (y := e') h2 with r | ⟨_, r'⟩
     · exact absurd (Nat.lt_of_lt_of_eq (zdk r) (H.len.symm.trans q.symm)) (Nat.lt_irrefl _)
     · subst q'; subst r'; exact ho
theorem HS.set (H : HS Ω ρ hp s) (hn : nth ρ n = some e) (hx : x ∈ e) (k : ∀ b ob, b ≠ x -> s.heap.get? b = some ob -> s'.heap.get? b = some ob)
 (ho : OR Ω ρ s'.heap o e) (hg : AllBare s'.gens) : HS Ω ρ (upd hp n o) s' := by
 have hxf := zbu hn hx
 obtain ⟨obx, hob, hni⟩ := H.live hxf
 refine ⟨fun b ob eb => k b ob (fun q => H.out hxf (q ▸ eb)) (H.base b ob eb), H.fresh, H.nodup, (zhc hp n o).trans H.len, fun m o' e' h1 h2 => ?_, hg⟩
 by_cases hm : n = m
 · have h1 : nth (upd hp n o) n = some o' := hm ▸ h1
   rw [zay _ (ze4 (H.len.symm ▸ zdk hn))] at h1
   have h2 : nth ρ n = some e' := hm ▸ h2
   exact prf h1 ▸ prf (hn.symm.trans h2) ▸ ho
 · rw [zbh _ hm] at h1
   exact (H.obj m o' e' h1 h2).mono (Ext.refl ρ) (fun b ob eb i => k b ob (fun q => hni (prf (hob.symm.trans (q ▸ eb)) ▸ i)) eb) fun a ha ob ea => k a ob (fun q => hm (zeh H.nodup hn h2 hx (q ▸ ha))) ea
theorem zo3 (fa : List Addr) (k : ∀ b o, s.heap.get? b = some o -> b ∉ ρ.flatten -> b ∉ fa -> s'.heap.get? b = some o) (i : ImmK s.heap s'.heap) (g : ∀ b o, s.heap.get? b = some o -> ∃ o', s'.heap.get? b = some o')
 (hg : s'.gens = s.gens) (ho : s'.os = s.os) : Go fa ρ s ρ s' := ⟨⟨[], (List.append_nil ρ).symm, nofun⟩, k, i, g, fun _ _ e => hg ▸ e, ho⟩
theorem zlh {h h' : Heap} (hs : Heap.SameBut x h h') (hl : ∃ o, h'.get? x = some o) (b : Addr) (o : Obj) (e : h.get? b = some o) : ∃ o', h'.get? b = some o' := by
 by_cases q : b = x
 · rw [q]; exact hl
 · exact ⟨o, (hs.2 b q).trans e⟩
theorem zf2 {h h' : Heap} (hs : Heap.SameBut x h h') {ob : Obj} (ho : h.get? x = some ob) (hi : ¬ Imm ob) : ImmK h h' := fun b o e i => (hs.2 b fun q => hi (prf (ho.symm.trans (q ▸ e)) ▸ i)).trans e
theorem HS.goSet (H : HS Ω ρ hp s) {h' : Heap} {t : Nat} (hn : nth ρ n = some e) (hx : x ∈ e) (hs : Heap.SameBut x s.heap h') (fa : List Addr) (hl : ∃ o, h'.get? x = some o) : Go fa ρ s ρ { s with heap := h', toks := t } :=
 have hxf := zbu hn hx
 (H.live hxf).elim fun _ ho => zo3 fa (fun b _ e n1 _ => (hs.2 b fun q => n1 (q ▸ hxf)).trans e) (zf2 hs ho.1 ho.2) (zlh hs hl) rfl rfl

noncomputable def GenR (Ω : Bx) (ρ : Rho) (s₀ s : Shared) (xs : List V) (a : Addr) : Prop :=
 ∃ os g st, (∀ p ∈ os, s.heap.get? p.1 = some p.2 /\ p.1 ∉ ρ.flatten /\ s₀.heap.get? p.1 = none) /\ s.gens[g]? = some st /\ s₀.gens.size ≤ g /\ Ω.Wk xs a os g st
noncomputable def RVR (Ω : Bx) (ρ : Rho) (s₀ s : Shared) (r : RV) (v : Value) : Prop := match r with
 | .v x => VR ρ s.heap x v
 | .l xs => ∃ a vs n, v = .ref a /\ s.heap.get? a = some (lstO vs n) /\ VRs ρ s.heap xs vs /\ vs.length ≤ 65537 /\ s₀.heap.get? a = none /\ a ∉ ρ.flatten
 | .g xs => ∃ a, v = .ref a /\ GenR Ω ρ s₀ s xs a
theorem Go.none {fa : List Addr} (g : Go fa ρ s ρ' s') (h : s'.heap.get? a = none) : s.heap.get? a = none := zc5 (g.grow a) h
theorem Go.notIn {fa : List Addr} (g : Go fa ρ s ρ' s') {o : Obj} (h : s.heap.get? a = some o) (hn : a ∉ ρ.flatten) : a ∉ ρ'.flatten := by
 obtain ⟨nw, q, hw⟩ := g.ext
 rw [q, List.flatten_append]
 exact fun q => (List.mem_append.mp q).elim hn fun q => sn (hw a q) h
theorem Go.gsize {fa : List Addr} (g : Go fa ρ s ρ' s') : s.gens.size ≤ s'.gens.size :=
 Nat.le_of_not_lt fun q => sn (Array.getElem?_eq_none (Nat.le_refl _)) (g.gens _ _ (Array.getElem?_eq_getElem q))
theorem RVR.go {s₀ : Shared} {r : RV} {v : Value} (H : RVR Ω ρ s₀ s r v) (g : Go [] ρ s ρ' s') : RVR Ω ρ' s₀ s' r v := by
 cases r with
 | v x => exact g.vr H
 | l xs =>
  obtain ⟨a, vs, n, q, ho, hv, hl, hn, hi⟩ := H
  exact ⟨a, vs, n, q, g.keep _ _ ho hi nofun, g.vrs hv, hl, hn, g.notIn ho hi⟩
 | g xs =>
  obtain ⟨a, q, os, k, st, h1, h2, h⟩ := H
  exact ⟨a, q, os, k, st, fun p hp => ⟨g.keep _ _ (h1 p hp).1 (h1 p hp).2.1 nofun, g.notIn (h1 p hp).1 (h1 p hp).2.1, (h1 p hp).2.2⟩, g.gens _ _ h2, h⟩
theorem RVR.wk {s₀ s₁ : Shared} {r : RV} {v : Value} (H : RVR Ω ρ s₁ s r v) (n : ∀ a, s₁.heap.get? a = none -> s₀.heap.get? a = none) (g : s₀.gens.size ≤ s₁.gens.size) : RVR Ω ρ s₀ s r v := by
 cases r with
 | v x => exact H
 | l xs =>
  obtain ⟨a, vs, k, q, ho, hv, hl, hn, hi⟩ := H
  exact ⟨a, vs, k, q, ho, hv, hl, n _ hn, hi⟩
 | g xs =>
  obtain ⟨a, q, os, k, st, h1, h2, h3, h4⟩ := H
  exact ⟨a, q, os, k, st, fun p hp => ⟨(h1 p hp).1, (h1 p hp).2.1, n _ (h1 p hp).2.2⟩, h2, Nat.le_trans g h3, h4⟩
theorem RVR.weak {ρ₁ : Rho} {s₀ s₁ : Shared} {fa : List Addr} {r : RV} {v : Value} (H : RVR Ω ρ s₁ s r v) (g : Go fa ρ₁ s₀ ρ s₁) : RVR Ω ρ s₀ s r v := H.wk (fun _ h => g.none h) g.gsize
noncomputable def RVRs (Ω : Bx) (ρ : Rho) (s₀ s : Shared) : List RV -> List Value -> Prop
 | [], vs => vs = []
 | r :: rs, vs => ∃ v t, vs = v :: t /\ RVR Ω ρ s₀ s r v /\ RVRs Ω ρ s₀ s rs t
theorem RVRs.go {s₀ : Shared} {rs : List RV} (g : Go [] ρ s ρ' s') : ∀ {vs : List Value}, RVRs Ω ρ s₀ s rs vs -> RVRs Ω ρ' s₀ s' rs vs := by
 induction rs with
 | nil => exact fun H => H
 | cons r rs ih => exact fun ⟨v, t, q, h1, h2⟩ => ⟨v, t, q, h1.go g, ih h2⟩
end

structure FR (Ω : Bx) (env : Env) (fa : List Addr) (fl : L) (ρ : Rho) (s : Shared) : Prop where
 kind : env.scope.kind = .function
 glob : env.globals = mainGlobals
 blt : env.builtins = builtinsNs
 ids : ∀ x v, look fl x = some v -> x < Ω.nms.length
 ns : ∃ m, s.heap.Ns env.locals m /\ ∀ x v, look fl x = some v -> env.kindOf (nmOf Ω x) = some .local -> ∃ v', m (nmOf Ω x) = some v' /\ VR ρ s.heap v v'
 cel : ∀ x v, look fl x = some v -> env.kindOf (nmOf Ω x) = some .cell ∨ env.kindOf (nmOf Ω x) = some .free ->
  ∃ c v', env.cells.lookup (nmOf Ω x) = some c /\ s.heap.IsCell c (some v') /\ c ∈ fa /\ c ≠ env.locals /\ VR ρ s.heap v v'
 loc : env.locals ∈ fa
 disj : ∀ a ∈ fa, a ∉ ρ.flatten
 live : ∀ a ∈ fa, ∃ o, s.heap.get? a = some o /\ ¬ Imm o
structure FC (Ω : Bx) (env : Env) (fa : List Addr) (s : Shared) : Prop where
 own : ∀ x c, x < Ω.nms.length -> env.cells.lookup (nmOf Ω x) = some c -> c ∈ fa /\ c ≠ env.locals /\ ∃ v, s.heap.IsCell c v
 apart : ∀ x y c, x < Ω.nms.length -> y < Ω.nms.length -> env.cells.lookup (nmOf Ω x) = some c -> env.cells.lookup (nmOf Ω y) = some c -> x = y
 has : ∀ x, x < Ω.nms.length -> env.kindOf (nmOf Ω x) = some .cell -> ∃ c, env.cells.lookup (nmOf Ω x) = some c
 base : ∀ a ∈ fa, Ω.h₀.get? a = none
section
variable {Ω : Bx} {env : Env} {fa : List Addr} {fl : L} {ρ ρ' : Rho} {s s' : Shared}
theorem FR.kept (F : FR Ω env fa fl ρ s) (k : ∀ a ∈ fa, ∀ o, s.heap.get? a = some o -> s'.heap.get? a = some o) (x : Ext ρ ρ') (i : ImmK s.heap s'.heap) (d : ∀ a ∈ fa, a ∉ ρ'.flatten) : FR Ω env fa fl ρ' s' := by
 obtain ⟨m, ⟨o, es, ep, ho, hr⟩, hm⟩ := F.ns
 refine ⟨F.kind, F.glob, F.blt, F.ids, ⟨m, ⟨o, es, ep, k _ F.loc _ ho, hr⟩, fun x v h1 h2 => ?_⟩, fun x v h1 h2 => ?_, F.loc, d, fun a ha => (F.live a ha).elim fun o h => ⟨o, k a ha o h.1, h.2⟩⟩
 · obtain ⟨v', h3, h4⟩ := hm x v h1 h2
   exact ⟨v', h3, VR.mono ‹_› i _ _ h4⟩
 · obtain ⟨c, v', h3, ⟨oc, hc, hd⟩, h5, h7, h6⟩ := F.cel x v h1 h2
   exact ⟨c, v', h3, ⟨oc, k _ h5 _ hc, hd⟩, h5, h7, VR.mono ‹_› i _ _ h6⟩
theorem FC.kept (F : FC Ω env fa s) (k : ∀ a ∈ fa, ∀ o, s.heap.get? a = some o -> s'.heap.get? a = some o) : FC Ω env fa s' :=
 ⟨fun x c h1 h2 => have ⟨h3, h4, v, o, ho, hv⟩ := F.own x c h1 h2; ⟨h3, h4, v, o, k c h3 o ho, hv⟩, F.apart, F.has, F.base⟩
theorem FR.go (F : FR Ω env fa fl ρ s) (g : Go [] ρ s ρ' s') : FR Ω env fa fl ρ' s' :=
 F.kept (fun a ha o ho => g.keep a o ho (F.disj a ha) nofun) g.Ext g.imm fun a ha => (F.live a ha).elim fun _ h => g.notIn h.1 (F.disj a ha)
theorem FC.go (F : FC Ω env fa s) (hd : ∀ a ∈ fa, a ∉ ρ.flatten) (g : Go [] ρ s ρ' s') : FC Ω env fa s' := F.kept fun a ha o ho => g.keep a o ho (hd a ha) nofun
end
end
end Mine
end
noncomputable section
open PySem PySem.W PyProof.Rows
namespace Mine
section

noncomputable abbrev Kq (Ω : Bx) (ρ : Rho) (s₀ s : Shared) (r : RV) (Q : Value -> Shared -> Prop) : Prop :=
 ∀ v h' t, (∀ b o, s.heap.get? b = some o -> h'.get? b = some o) -> RVR Ω ρ s₀ { s with heap := h', toks := t } r v -> Q v { s with heap := h', toks := t }

theorem zbm {n : Nat} (h : fits n = true) : n ≤ 65536 := Nat.le_of_ble_eq_true h
theorem zj6 (b : Bool) : bnot b = !b := by cases b <;> rfl
theorem zba : ∀ {l : List Nat}, asc l = true -> ∀ c ∈ l, c < 128 := by
 intro l
 induction l with
 | nil => intro _ c h; cases h
 | cons c r ih =>
  intro h x hx
  have h : (match Nat.blt c 128 with | true => asc r | false => false) = true := h
  cases q : Nat.blt c 128 with
  | false => rw [q] at h; exact ff h
  | true =>
   rw [q] at h
   rcases List.mem_cons.mp hx with rfl | hx
   · exact Nat.le_of_ble_eq_true q
   · exact ih h x hx
theorem zdm : ∀ {l : List Nat}, (∀ c ∈ l, c < 128) -> asc l = true
 | [], _ => rfl
 | c :: r, h => by
  unfold asc
  have : Nat.blt c 128 = true := Nat.ble_eq_true_of_le (h c (by simp))
  rw [this]
  exact zdm fun x hx => h x (by simp [hx])
theorem zdg {a b : List Nat} (x : asc a = true) (y : asc b = true) : asc (a ++ b) = true :=
 zdm fun c hc => (List.mem_append.mp hc).elim (zba x c) (zba y c)
theorem zkn {α : Type} {xs : List α} : ∀ {n : Nat} {x : α}, x ∈ repN xs n -> x ∈ xs
 | 0, _, h => by cases h
 | n + 1, x, h => by
  rw [repN, List.mem_append] at h
  exact h.elim id zkn
theorem zg2 {α : Type} (xs : List α) : ∀ n : Nat, (repN xs n).length = xs.length * n
 | 0 => rfl
 | n + 1 => by rw [repN, List.length_append, zg2 xs n, Nat.mul_succ]; omega
theorem zfw {α : Type} (xs : List α) : ∀ (n : Nat) (acc : Array α), (List.replicate n xs.toArray).foldl (fun x y => x ++ y) acc = acc ++ (repN xs n).toArray
 | 0, acc => by simp [repN]
 | n + 1, acc => by
  rw [List.replicate_succ, List.foldl_cons, zfw xs n, repN]
  simp
theorem VRs.repN {ρ : Rho} {h : Heap} {xs : List V} {vs : List Value} (a : VRs ρ h xs vs) : ∀ n, VRs ρ h (Mine.repN xs n) (Mine.repN vs n)
 | 0 => VRs.nil
 | n + 1 => VRs.append a (VRs.repN a n)

section
variable {Ω : Bx} {ρ : Rho} {hp : Hp} {s₀ s : Shared} {A : Around} {E : Value -> Shared -> Prop} {Q : Value -> Shared -> Prop}

theorem zuu {i : Int} {v : Value} (hQ : Kq Ω ρ s₀ s (.v (.int i)) Q) (t k : Nat) (e : v = .int i t) : Q v { s with toks := k } := by
 subst e
 have := hQ (.int i t) s.heap k (fun _ _ e => e) (by simp [RVR, VR])
 exact this
theorem zd8 {x : List Nat} (hx : sOk x) (hQ : Kq Ω ρ s₀ s (.v (.str x)) Q) (t k : Nat) : Q (.str (St x) t) { s with toks := k } :=
 hQ (.str (St x) t) s.heap k (fun _ _ e => e) (by simp only [RVR, VR]; exact ⟨⟨t, rfl⟩, hx⟩)
theorem zhe (H : HS Ω ρ hp s) (hs : ∀ a, s.heap.get? a = none -> s₀.heap.get? a = none) {xs : List V} {vs : List Value} (hv : VRs ρ s.heap xs vs) (hl : vs.length ≤ 65537) (hQ : Kq Ω ρ s₀ s (.l xs) Q) (t : Nat) :
 Q (.ref s.heap.objs.size) { s with heap := s.heap.push (lstO vs 0), toks := t } := by
 have hn : s.heap.get? s.heap.objs.size = none := by
  cases q : s.heap.get? s.heap.objs.size with
  | none => rfl
  | some o => exact absurd (Heap.lt_size q) (Nat.lt_irrefl _)
 exact hQ _ _ t (fun _ _ e => Heap.get?_push_of_some _ e) ⟨_, vs, 0, rfl, Heap.get?_push_size _ rfl, VRs.mono (Ext.refl ρ) (fun b o e _ => Heap.get?_push_of_some _ e) _ _ hv, hl, hs _ hn, H.notIn hn⟩

theorem zfa {i : Int} (h : small i = true) : i.natAbs < 4611686018427387904 := Nat.le_of_ble_eq_true h
theorem zm4 {a b : Int} (h : small a = true) : IntMulOk a b := by
 have h1 := zfa h
 exact .of_left (intBits_le_64 (by omega) (by omega))
theorem zpc {b : Int} (h : bnot (Z.eqB b 0) = true) : b ≠ 0 := by rintro rfl; cases h
theorem zfb {a b : Int} (h : small b = true) : Builtin.divisionGoesByPylong a b = false := by
 refine PyProof.noPylong_of_log2 ?_
 have h1 := zfa h
 by_cases h0 : b.natAbs = 0
 · rw [h0]; decide +kernel
 · have : b.natAbs.log2 < 64 := (Nat.log2_lt h0).mpr (by omega)
   omega
theorem kq_i {a c : Int} {t k : Nat} (hQ : Kq Ω ρ s₀ s (.v (.int c)) Q) (e : a = c) : Q (.int a t) { s with toks := k } := zuu hQ t k (congrArg (Value.int · t) e)
theorem powI_e {a b c : Int} (e : powI a b = some c) {G : Prop} (k : ∀ n : Nat, a = 2 -> b = .ofNat n -> n < 64 -> (2 : Int) ^ n = c -> G) : G := by
 obtain ⟨m, h1, e⟩ := bd_t e
 obtain ⟨n, h2, e⟩ := bd_t e
 obtain ⟨h3, e⟩ := zae e
 obtain ⟨h4, e⟩ := zae e
 exact k n ((iN_t h1).trans (congrArg _ (zam h3))) (iN_t h2) (Nat.le_of_ble_eq_true h4) ((Int.natCast_pow 2 n).symm.trans (prf e))
theorem lshI_e {a b c : Int} (e : lshI a b = some c) {G : Prop} (k : ∀ n : Nat, a.natAbs < 2 ^ 64 -> b = .ofNat n -> n < 64 -> a * 2 ^ n = c -> G) : G := by
 obtain ⟨m, h1, e⟩ := bd_t e
 obtain ⟨n, h2, e⟩ := bd_t e
 obtain ⟨h3, e⟩ := zae e
 obtain ⟨h4, e⟩ := zae e
 have h1 := iN_t h1
 have e : Int.ofNat (m * 2 ^ n) = c := prf e
 refine k n (by rw [h1]; exact Nat.le_of_ble_eq_true h3) (iN_t h2) (Nat.le_of_ble_eq_true h4) (h1 ▸ Eq.trans ?_ e)
 exact ((congrArg (Int.ofNat m * ·) (Int.natCast_pow 2 n).symm).trans (Int.natCast_mul m (2 ^ n)).symm)
theorem n_ok {b : Int} {n : Nat} (hb : b = .ofNat n) (hn : n < 64) : 0 ≤ b /\ b ≤ 1000000 /\ b.toNat = n := by subst hb; exact ⟨Int.natCast_nonneg n, by show (n : Int) ≤ _; omega, rfl⟩
theorem binI_ok {o : Operator} {a b c : Int} {t u : Tok} (e : binI o a b = some c) (hQ : Kq Ω ρ s₀ s (.v (.int c)) Q) : wpAny Ω.M A (binaryOp o (.int a t) (.int b u)) Q E s := by
 cases o with
 | Add => exact PyProof.Rows.add_int (kq_i hQ (prf e))
 | Sub => exact PyProof.Rows.sub_int (kq_i hQ (prf e))
 | Mult => exact PyProof.Rows.mul_int (kq_i hQ (prf (zae (zae e).2).2)) (zm4 (zae e).1)
 | Mod => exact PyProof.Rows.mod_int' (zpc (zae e).1) (kq_i hQ (prf (zae (zae e).2).2))
 | FloorDiv => exact PyProof.Rows.floordiv_int (zpc (zae e).1) (kq_i hQ (prf (zae (zae e).2).2)) (.inl (zfb (zae (zae e).2).1))
 | Pow => exact powI_e e fun n h1 h2 h3 h4 => pow_int_small (n_ok h2 h3).1 (n_ok h2 h3).2.1 (by rw [h1]; decide) (kq_i hQ (by rw [(n_ok h2 h3).2.2, h1]; exact h4))
 | LShift => exact lshI_e e fun n h1 h2 h3 h4 => lshift_int_small (n_ok h2 h3).1 (n_ok h2 h3).2.1 h1 (kq_i hQ (by rw [(n_ok h2 h3).2.2]; exact h4))
 | BitXor => exact PyProof.Rows.xor_int (kq_i hQ (prf e))
 | BitAnd => exact PyProof.Rows.and_int (kq_i hQ (prf e))
 | _ => exact nn e
noncomputable def augs (o : Operator) : Bool := match o with | .Add => true | .Sub => true | .BitXor => true | _ => false
theorem augI_ok {o : Operator} {a b c : Int} {t u : Tok} (ho : augs o = true) (e : binI o a b = some c) (hQ : Kq Ω ρ s₀ s (.v (.int c)) Q) : wpAny Ω.M A (inplaceOp o (.int a t) (.int b u)) Q E s := by
 cases o with
 | Add => exact PyProof.Rows.iadd_int (kq_i hQ (prf e))
 | Sub => exact PyProof.Rows.isub_int (kq_i hQ (prf e))
 | BitXor => exact PyProof.Rows.ixor_int (kq_i hQ (prf e))
 | _ => exact ff ho

theorem zcr (x y : List Nat) : St x ++ St y = St (x ++ y) := by
 show Str.mk (x.toArray ++ y.toArray) = _
 simp
theorem zak (x : List Nat) : (St x).length = x.length := by show x.toArray.size = _; simp
theorem Kq.here {r : RV} {v : Value} (hQ : Kq Ω ρ s₀ s r Q) (h : RVR Ω ρ s₀ s r v) : Q v s := hQ v s.heap s.toks (fun _ _ e => e) h

theorem ze3 {i : Int} {k : Nat} (h : repI i = some k) : i.toNat = k /\ (i < 1 -> k = 0) /\ k ≤ 65536 /\ i < 65537 /\ -65538 < i := by
 cases i with
 | ofNat n =>
  obtain ⟨h1, h⟩ := zae h
  have := zbm h1
  cases prf h
  refine ⟨rfl, fun h => ?_, this, ?_, ?_⟩ <;> simp only [Int.ofNat_eq_natCast] at * <;> omega
 | negSucc n =>
  obtain ⟨h1, h⟩ := zae h
  have := zbm h1
  cases prf h
  exact ⟨rfl, fun _ => rfl, by omega, by omega, by omega⟩
theorem zkm {α : Type} (k : Nat) : repN ([] : List α) k = [] := by
 induction k with
 | zero => rfl
 | succ k ih => exact ih
theorem zwa {x : List Nat} {n : Int} {k : Nat} (hk : repI n = some k) : Txt.mul (St x) n = St (repN x k) := by
 obtain ⟨h1, h2, h3, h4, h5⟩ := ze3 hk
 unfold Txt.mul
 split
 · rename_i q; rw [h2 q]; rfl
 · split
   · rename_i q2
     rcases (Bool.or_eq_true _ _).mp q2 with q2 | q2
     · have : n = 1 := eq_of_beq q2
       subst this
       cases h1
       exact congrArg (fun l => St l) (List.append_nil x).symm
     · have : x = [] := List.eq_nil_of_length_eq_zero ((zak x).symm.trans (eq_of_beq q2))
       subst this
       rw [zkm]
   · rw [h1]
     show Str.mk ((List.replicate k x.toArray).foldl (fun x y => x ++ y) #[]) = _
     rw [zfw]; simp
theorem zr2 {x : List Nat} {n : Int} {k : Nat} (hx : x.length ≤ 65536) (hk : repI n = some k) (hf : x.length * k ≤ 65536) : MulOk (St x) n := by
 obtain ⟨h1, h2, h3, h4, h5⟩ := ze3 hk
 refine ⟨?_, ?_, ?_⟩
 · rw [Bool.or_eq_false_iff]; exact ⟨decide_eq_false (by omega), decide_eq_false (by omega)⟩
 · intro q _ z
   rw [zak] at z
   have : (9223372036854775807 : Int) / n ≥ 65537 := by
    apply Int.le_ediv_of_mul_le (by omega)
    omega
   have e : ((2 : Int) ^ 63 - 1) = 9223372036854775807 := by decide
   rw [e] at z
   omega
 · intro _ _
   rw [h1, zak]
   unfold Builtin.Str.tooLong
   exact decide_eq_false (by rw [sizeLine_eq]; omega)
theorem repN_ok {x : List Nat} {k : Nat} (hx : sOk x) (hf : x.length * k ≤ 65536) : sOk (repN x k) := ⟨zdm fun c hc => zba hx.1 c (zkn hc), by rw [zg2]; exact hf⟩
theorem zmy {x : List Nat} {n : Int} {k : Nat} {t u : Tok} (hx : sOk x) (hk : repI n = some k) (hf : x.length * k ≤ 65536) (hQ : Kq Ω ρ s₀ s (.v (.str (repN x k))) Q) :
 wpAny Ω.M A (binaryOp .Mult (.str (St x) t) (.int n u)) Q E s :=
 SB.mul (zr2 hx.2 hk hf) fun t' k' => (zwa hk).symm ▸ zd8 (repN_ok hx hf) hQ t' k'
theorem zwr {x y : List Nat} {t u : Tok} (hx : sOk x) (hy : sOk y) (hf : x.length + y.length ≤ 65536) (hQ : Kq Ω ρ s₀ s (.v (.str (x ++ y))) Q) : wpAny Ω.M A (binaryOp .Add (.str (St x) t) (.str (St y) u)) Q E s := by
 refine PyProof.Rows.add_str (fun t' k => ?_) (by rw [zak, zak, sizeLine_eq]; exact Nat.le_trans hf (by decide))
 rw [zcr]
 exact zd8 ⟨zdg hx.1 hy.1, by rw [List.length_append]; exact hf⟩ hQ _ _

theorem tyL {a : Addr} {vs : List Value} {n : Nat} (h : s.heap.get? a = some (lstO vs n)) : s.TypeIs (.ref a) "list" := ⟨_, h, rfl⟩
theorem tyT {a : Addr} {vs : List Value} {n : Nat} (h : s.heap.get? a = some (tupO vs n)) : s.TypeIs (.ref a) "tuple" := ⟨_, h, rfl⟩
theorem zl5 (H : HS Ω ρ hp s) (hs : ∀ a, s.heap.get? a = none -> s₀.heap.get? a = none) {a b : Addr} {xs ys : List V} {vs ws : List Value} {n m : Nat} (ha : s.heap.get? a = some (lstO vs n)) (hb : s.heap.get? b = some (lstO ws m))
 (hx : VRs ρ s.heap xs vs) (hy : VRs ρ s.heap ys ws) (hl : vs.length + ws.length ≤ 65536) (hQ : Kq Ω ρ s₀ s (.l (xs ++ ys)) Q) : wpAny Ω.M A (binaryOp .Add (.ref a) (.ref b)) Q E s := by
 have e : vs.toArray ++ ws.toArray = (vs ++ ws).toArray := by simp
 refine concat_meets (tyL ha) (tyL hb) noFill_list_add seq_list_add PySem.F.slot_list_add PySem.F.entry_list_add (PySem.F.args_list_add_2 _ _)
  (list_addW a b vs.toArray ws.toArray n m none none #[] #[] (by rw [sizeLine_eq]; simp only [List.size_toArray]; omega)) ⟨ha, hb, ?_⟩
 rw [e]
 exact zhe H hs (hx.append hy) (by rw [List.length_append]; omega) hQ _
theorem znh {vs : List Value} {i : Int} {k : Nat} (h1 : i.toNat = k) : List.foldl (fun x1 x2 => x1 ++ x2) #[] (List.replicate (if vs.toArray.isEmpty = true then 0 else i.toNat) vs.toArray) = (repN vs k).toArray := by
 split
 · rename_i q
   have : vs = [] := by simpa using q
   subst this
   rw [zkm]; rfl
 · rw [h1, zfw]; simp
theorem zni {i : Int} {k : Nat} (hk : repI i = some k) : ¬ (!Builtin.List.listFitsIndex i) = true := by
 obtain ⟨h1, h2, h3, h4, h5⟩ := ze3 hk
 simp [Builtin.List.listFitsIndex]; omega
theorem zia {n k : Nat} {i : Int} (hk : i.toNat = k) (hl : n * k ≤ 65536) : ¬ n * i.toNat > (2 ^ 63 - 1) / 8 /\ ¬ Builtin.List.listTooLong (n * i.toNat) = true := by
 rw [hk]
 exact ⟨by omega, by simp [Builtin.List.listTooLong, sizeLine]; omega⟩
theorem zl4 (H : HS Ω ρ hp s) (hs : ∀ a, s.heap.get? a = none -> s₀.heap.get? a = none) {a : Addr} {xs : List V} {vs : List Value} {n k : Nat} {i : Int} {u : Tok} (ha : s.heap.get? a = some (lstO vs n))
 (hx : VRs ρ s.heap xs vs) (hk : repI i = some k) (hl : vs.length * k ≤ 65536) (hQ : Kq Ω ρ s₀ s (.l (repN xs k)) Q) : wpAny Ω.M A (binaryOp .Mult (.ref a) (.int i u)) Q E s :=
 have h1 := (ze3 hk).1
 wpAny_binaryOp_repeat_ref (T := "list") (U := "int") (by decide) (tyL ha) (fun s' => typeIs_int s' i u) noFill_list_mul PySem.F.fills_int_mul PySem.F.slot_int_rmul repeat_list PySem.F.slot_int_index.lookup
  (call_meets PySem.F.slot_int_rmul (typeIs_int s i u) PySem.F.entry_int_rmul (PySem.F.args_int_rmul_2 _ _) (int___rmul___int_list i u a vs.toArray n)
   ⟨ha, rfl, ⟨_, ha, rfl⟩, call_meets PySem.F.slot_list_mul (tyL ha) PySem.F.entry_list_mul (PySem.F.args_list_mul_2 _ _)
    (AutoListH.list___mul___list_int_3 a vs.toArray n i u (zni hk) (zia h1 hl).1 (zia h1 hl).2)
    ⟨ha, (znh h1).symm ▸ zhe H hs (hx.repN k) (zg2 vs k ▸ Nat.le_succ_of_le hl) hQ _⟩⟩)
theorem rvI {r : RV} {v : Value} {i : Int} (e : rI r = some i) (R : RVR Ω ρ s₀ s r v) : ∃ t, v = .int i t := by rw [rI_t e] at R; exact R
theorem rvS {r : RV} {v : Value} {x : List Nat} (e : rS r = some x) (R : RVR Ω ρ s₀ s r v) : (∃ t, v = .str (St x) t) /\ sOk x := by rw [rS_t e] at R; exact R
theorem rvV {r : RV} {v : Value} {x : V} (e : rV r = some x) (R : RVR Ω ρ s₀ s r v) : VR ρ s.heap x v := by rw [rV_t e] at R; exact R
theorem zgh (H : HS Ω ρ hp s) {n : Nat} {v : Value} {xs : List V} (e : lisA n hp = some xs) (R : VR ρ s.heap (.ref n) v) : ∃ a vs k, v = .ref a /\ nth ρ n = some [a] /\ s.heap.get? a = some (lstO vs k) /\ VRs ρ s.heap xs vs /\ vs.length ≤ 65537 := by
 obtain ⟨o, e1, e2⟩ := bd_t e
 rw [oL_t e2] at e1
 obtain ⟨a, r, hn, hv⟩ := R
 obtain ⟨a', vs, k, he, h2, h3, h4⟩ := H.obj _ _ _ e1 hn
 rw [he] at hn
 cases he
 exact ⟨a, vs, k, hv, hn, h2, h3, h4⟩
theorem cont_at (H : HS Ω ρ hp s) {r : RV} {v : Value} {xs : List V} (e : cont r hp = some xs) (R : RVR Ω ρ s₀ s r v) : ∃ a vs n, v = .ref a /\ s.heap.get? a = some (lstO vs n) /\ VRs ρ s.heap xs vs /\ vs.length ≤ 65537 := by
 cases r with
 | l ys =>
  obtain ⟨a, vs, n, h1, h2, h3, h4, _⟩ := R
  exact ⟨a, vs, n, h1, h2, prf e ▸ h3, h4⟩
 | v x =>
  obtain ⟨n, e1, e2⟩ := bd_t e
  rw [vR_t e1] at R
  obtain ⟨a, vs, k, h1, _, h2⟩ := zgh H e2 R
  exact ⟨a, vs, k, h1, h2⟩
 | g ys => exact nn e
theorem addR_e {a b r : RV} (e : addR a b hp = some r) {G : Prop} (k1 : ∀ x y, rS a = some x -> rS b = some y -> x.length + y.length ≤ 65536 -> .v (.str (x ++ y)) = r -> G)
 (k2 : ∀ xs ys, cont a hp = some xs -> cont b hp = some ys -> xs.length + ys.length ≤ 65536 -> .l (xs ++ ys) = r -> G) : G := by
 rcases zcs e with e | e
 · obtain ⟨x, ea, e⟩ := bd_t e
   obtain ⟨y, eb, e⟩ := bd_t e
   exact k1 x y ea eb (zag x ▸ zag y ▸ zbm (zae e).1) (prf (zae e).2)
 · obtain ⟨x, ea, e⟩ := bd_t e
   obtain ⟨y, eb, e⟩ := bd_t e
   exact k2 x y ea eb (zag x ▸ zag y ▸ zbm (zae e).1) (prf (zae e).2)
theorem mulR_e {a b r : RV} (e : mulR a b hp = some r) {G : Prop} (k1 : ∀ x n k, rI b = some n -> repI n = some k -> rS a = some x -> x.length * k ≤ 65536 -> .v (.str (repN x k)) = r -> G)
 (k2 : ∀ xs n k, rI b = some n -> repI n = some k -> cont a hp = some xs -> xs.length * k ≤ 65536 -> .l (repN xs k) = r -> G) : G := by
 obtain ⟨n, eb, e⟩ := bd_t e
 obtain ⟨k, ek, e⟩ := bd_t e
 rcases zcs e with e | e
 · obtain ⟨x, ea, e⟩ := bd_t e
   exact k1 x n k eb ek ea (zag x ▸ zbm (zae e).1) (prf (zae e).2)
 · obtain ⟨x, ea, e⟩ := bd_t e
   exact k2 x n k eb ek ea (zag x ▸ zbm (zae e).1) (prf (zae e).2)
@[elab_as_elim] theorem rvI_e {r : RV} {v : Value} {i : Int} (e : rI r = some i) (R : RVR Ω ρ s₀ s r v) {P : Value -> Prop} (k : ∀ t, P (.int i t)) : P v := by
 obtain ⟨t, rfl⟩ := rvI e R
 exact k t
@[elab_as_elim] theorem rvS_e {r : RV} {v : Value} {x : List Nat} (e : rS r = some x) (R : RVR Ω ρ s₀ s r v) {P : Value -> Prop} (k : ∀ t, sOk x -> P (.str (St x) t)) : P v := by
 obtain ⟨⟨t, rfl⟩, h⟩ := rvS e R
 exact k t h
@[elab_as_elim] theorem cont_e (H : HS Ω ρ hp s) {r : RV} {v : Value} {xs : List V} (e : cont r hp = some xs) (R : RVR Ω ρ s₀ s r v) {P : Value -> Prop} (k : ∀ a vs n, s.heap.get? a = some (lstO vs n) -> VRs ρ s.heap xs vs -> vs.length ≤ 65537 -> P (.ref a)) : P v := by
 obtain ⟨a, vs, n, rfl, h1, h2, h3⟩ := cont_at H e R
 exact k a vs n h1 h2 h3
theorem addR_ok (H : HS Ω ρ hp s) (hs : ∀ a, s.heap.get? a = none -> s₀.heap.get? a = none) {a b r : RV} {va vb : Value} (e : addR a b hp = some r) (ra : RVR Ω ρ s₀ s a va) (rb : RVR Ω ρ s₀ s b vb)
 (hQ : Kq Ω ρ s₀ s r Q) : wpAny Ω.M A (binaryOp .Add va vb) Q E s :=
 addR_e e (fun _ _ ea eb hf hr => rvS_e ea ra fun _ hx => rvS_e eb rb fun _ hy => zwr hx hy hf (hr ▸ hQ))
  (fun _ _ ea eb hf hr => cont_e H ea ra fun _ _ _ g1 g2 _ => cont_e H eb rb fun _ _ _ g3 g4 _ => zl5 H hs g1 g3 g2 g4 (g2.len ▸ g4.len ▸ hf) (hr ▸ hQ))
theorem mulR_ok (H : HS Ω ρ hp s) (hs : ∀ a, s.heap.get? a = none -> s₀.heap.get? a = none) {a b r : RV} {va vb : Value} (e : mulR a b hp = some r) (ra : RVR Ω ρ s₀ s a va) (rb : RVR Ω ρ s₀ s b vb)
 (hQ : Kq Ω ρ s₀ s r Q) : wpAny Ω.M A (binaryOp .Mult va vb) Q E s :=
 mulR_e e (fun _ _ _ eb ek ea hf hr => rvI_e eb rb fun _ => rvS_e ea ra fun _ hx => zmy hx ek hf (hr ▸ hQ))
  (fun _ _ _ eb ek ea hf hr => rvI_e eb rb fun _ => cont_e H ea ra fun _ _ _ g1 g2 _ => zl4 H hs g1 g2 ek (g2.len ▸ hf) (hr ▸ hQ))
theorem intR_e {o : Operator} {a b r : RV} (e : (bd (rI a) fun x => bd (rI b) fun y => bd (binI o x y) fun z => some (RV.v (.int z))) = some r) {G : Prop} (k : ∀ x y z, rI a = some x -> rI b = some y -> binI o x y = some z -> .v (.int z) = r -> G) : G := by
 obtain ⟨x, ea, e⟩ := bd_t e
 obtain ⟨y, eb, e⟩ := bd_t e
 obtain ⟨z, ec, e⟩ := bd_t e
 exact k x y z ea eb ec (prf e)
theorem zto (H : HS Ω ρ hp s) (hs : ∀ a, s.heap.get? a = none -> s₀.heap.get? a = none) {o : Operator} {a b r : RV} {va vb : Value} (e : zev o a b hp = some r) (ra : RVR Ω ρ s₀ s a va) (rb : RVR Ω ρ s₀ s b vb)
 (hQ : Kq Ω ρ s₀ s r Q) : wpAny Ω.M A (binaryOp o va vb) Q E s := by
 rcases zcs e with e | e
 · exact intR_e e fun _ _ _ ea eb ec hr => rvI_e ea ra fun _ => rvI_e eb rb fun _ => binI_ok ec (hr ▸ hQ)
 · rcases opk_t e with ⟨rfl, e⟩ | ⟨rfl, e⟩
   · exact addR_ok H hs e ra rb hQ
   · exact mulR_ok H hs e ra rb hQ
end
end
end Mine
end
noncomputable section
open PySem PySem.W PyProof.Rows
namespace Mine
section

noncomputable def aD (x : V) : PyData := match x with
 | .none => .none
 | .bool b => .bool b
 | .int i => .int i
 | .str s => .str (St s)
 | _ => .none
noncomputable def vD (x : V) : PyData := match x with
 | .tup xs => .tuple (xs.map aD)
 | x => aD x
theorem cs2_t {a b : Bool} (h : (match a with | true => b | false => false) = true) : a = true /\ b = true := by
 cases a with
 | true => exact ⟨rfl, h⟩
 | false => exact ff h
theorem zbz {x : V} {r : List V} (h : plas (x :: r) = true) : pla x = true /\ plas r = true := cs2_t h
theorem zcc {x : V} {r : List V} (h : pls (x :: r) = true) : pl x = true /\ pls r = true := cs2_t h
@[elab_as_elim] theorem pla_e {P : V -> Prop} {x : V} (h : pla x = true) (h1 : P .none) (h2 : ∀ b, P (.bool b)) (h3 : ∀ i, P (.int i)) (h4 : ∀ s, P (.str s)) : P x := by
 cases x <;> first | exact ff h | exact h1 | exact h2 _ | exact h3 _ | exact h4 _
@[elab_as_elim] theorem pl_e {P : V -> Prop} {x : V} (h : pl x = true) (h0 : ∀ xs, plas xs = true -> P (.tup xs)) (h1 : P .none) (h2 : ∀ b, P (.bool b)) (h3 : ∀ i, P (.int i)) (h4 : ∀ s, P (.str s)) : P x := by
 cases x <;> first | exact ff h | exact h1 | exact h2 _ | exact h3 _ | exact h4 _ | exact h0 _ h
theorem zse : ∀ a : List Nat, leq a a = true := by
 intro a
 induction a with
 | nil => rfl
 | cons x r ih => show (match Nat.beq x x with | true => leq r r | false => false) = true; rw [Nat.beq_refl]; exact ih
theorem zl6 {a b : List Nat} : leq a b = true -> a = b := by
 induction a generalizing b with
 | nil => intro h; cases b with | nil => rfl | cons _ _ => exact ff h
 | cons x r ih =>
  intro h
  cases b with
  | nil => exact ff h
  | cons y t =>
   obtain ⟨h1, h2⟩ := cs2_t (a := Nat.beq x y) (b := leq r t) h
   rw [zam h1, ih h2]
theorem zof (a b : List Nat) : leq a b = true ↔ a = b := ⟨zl6, fun h => h ▸ zse a⟩
theorem eqB_iff' (a b : Int) : Z.eqB a b = (a == b) := by
 rw [Bool.eq_iff_iff, Z.eqB_iff, beq_iff_eq]
theorem zoe (a b : List Nat) : leq a b = (St a == St b) := by
 rw [Bool.eq_iff_iff, zof, beq_iff_eq]
 exact ⟨fun h => h ▸ rfl, fun h => congrArg (fun x : Str => x.cps.toList) h⟩
theorem zlk {x y : V} (hx : pla x = true) (hy : pla y = true) : aE x y = PyData.eqv (aD x) (aD y) :=
 pla_e hx (pla_e hy rfl (fun _ => rfl) (fun _ => rfl) (fun _ => rfl))
  (fun a => pla_e hy rfl (fun b => by cases a <;> cases b <;> rfl) (fun b => (eqB_iff' _ _).trans (by cases a <;> rfl)) (fun _ => rfl))
  (fun a => pla_e hy rfl (fun b => (eqB_iff' _ _).trans (by cases b <;> rfl)) (fun b => eqB_iff' a b) (fun _ => rfl))
  (fun a => pla_e hy rfl (fun _ => rfl) (fun _ => rfl) (fun b => zoe a b))
theorem zve (a b : Bool) : cs a b false = (a && b) := by cases a <;> rfl
theorem aEs_eqv {x y : List V} : plas x = true -> plas y = true -> aEs x y = PyData.eqvAll (x.map aD) (y.map aD) := by
 induction x generalizing y with
 | nil => intro _ _; cases y <;> rfl
 | cons a r ih =>
  intro hx hy
  cases y with
  | nil => rfl
  | cons b t => exact ((zve _ _).trans (congr (congrArg _ (zlk (zbz hx).1 (zbz hy).1)) (ih (zbz hx).2 (zbz hy).2)))
theorem zmp {x y : V} (hx : pl x = true) (hy : pl y = true) : vE x y = PyData.eqv (vD x) (vD y) :=
 pl_e hx (fun a ha => pl_e hy (fun b hb => aEs_eqv ha hb) rfl (fun _ => rfl) (fun _ => rfl) (fun _ => rfl))
  (pl_e hy (fun _ _ => rfl) rfl (fun _ => rfl) (fun _ => rfl) (fun _ => rfl))
  (fun a => pl_e hy (fun _ _ => rfl) rfl (fun b => zlk (x := .bool a) (y := .bool b) rfl rfl) (fun b => zlk (x := .bool a) (y := .int b) rfl rfl) (fun _ => rfl))
  (fun a => pl_e hy (fun _ _ => rfl) rfl (fun b => zlk (x := .int a) (y := .bool b) rfl rfl) (fun b => eqB_iff' a b) (fun _ => rfl))
  (fun a => pl_e hy (fun _ _ => rfl) rfl (fun _ => rfl) (fun _ => rfl) (fun b => zoe a b))
theorem zv6 {x y : List V} : pls x = true -> pls y = true -> vEs x y = PyData.eqvAll (x.map vD) (y.map vD) := by
 induction x generalizing y with
 | nil => intro _ _; cases y <;> rfl
 | cons a r ih =>
  intro hx hy
  cases y with
  | nil => rfl
  | cons b t => exact ((zve _ _).trans (congr (congrArg _ (zmp (zcc hx).1 (zcc hy).1)) (ih (zcc hx).2 (zcc hy).2)))
theorem zgp {x : V} (hx : pl x = true) {ys : List V} : pls ys = true -> vin x ys = (ys.map vD).any fun y => PyData.eqv y (vD x) := by
 induction ys with
 | nil => intro _; rfl
 | cons y r ih =>
  intro h
  show cs (vE y x) true (vin x r) = (PyData.eqv (vD y) (vD x) || (r.map vD).any fun y => PyData.eqv y (vD x))
  rw [← ih (zcc h).2, ← zmp (zcc h).1 hx]
  cases vE y x <;> rfl
theorem pla_pl {x : V} (h : pla x = true) : pl x = true := pla_e h rfl (fun _ => rfl) (fun _ => rfl) (fun _ => rfl)
theorem zkp {xs : List V} : plas xs = true -> pls xs = true := by
 induction xs with
 | nil => intro _; rfl
 | cons x r ih =>
  intro h
  show (match pl x with | true => pls r | false => false) = true
  rw [pla_pl (zbz h).1]
  exact ih (zbz h).2

section
variable {ρ : Rho} {h : Heap}
@[elab_as_elim] theorem vrs_e {P : List Value -> Prop} {x : V} {r : List V} {vs : List Value} (R : VRs ρ h (x :: r) vs) (k : ∀ v t, VR ρ h x v -> VRs ρ h r t -> P (v :: t)) : P vs := by
 obtain ⟨v, t, rfl, h1, h2⟩ := R
 exact k v t h1 h2
@[elab_as_elim] theorem vrs_n {P : List Value -> Prop} {vs : List Value} (R : VRs ρ h [] vs) (k : P []) : P vs := by
 cases (show vs = [] from R); exact k
theorem ziy {x : V} {v : Value} (hx : pla x = true) : VR ρ h x v -> Reads h v (aD x) [] :=
 pla_e hx (fun R => (show v = .none from R) ▸ .none) (fun b R => (show v = .bool b from R) ▸ .bool _) (fun i R => by obtain ⟨t, rfl⟩ := R; exact .int _ _) (fun i R => by obtain ⟨⟨t, rfl⟩, _⟩ := R; exact .str _ _)
theorem zp6 {xs : List V} {vs : List Value} : plas xs = true -> VRs ρ h xs vs -> ReadsAll h vs (xs.map aD) [] := by
 induction xs generalizing vs with
 | nil => exact fun _ R => vrs_n R .nil
 | cons x r ih => exact fun hx R => vrs_e R fun v t h1 h2 => .cons (as := []) (bs := []) (ziy (zbz hx).1 h1) (ih (zbz hx).2 h2)
theorem zgc {x : V} {v : Value} (hx : pl x = true) : VR ρ h x v -> Reads h v (vD x) [] :=
 pl_e hx (fun xs hxs R => by obtain ⟨a, vs, n, rfl, ho, hv, _⟩ := R; exact .tuple ho rfl rfl (zp6 hxs hv))
  (ziy (x := .none) rfl) (fun b => ziy (x := .bool b) rfl) (fun b => ziy (x := .int b) rfl) (fun b => ziy (x := .str b) rfl)
theorem zhz {xs : List V} {vs : List Value} : pls xs = true -> VRs ρ h xs vs -> ReadsAll h vs (xs.map vD) [] := by
 induction xs generalizing vs with
 | nil => exact fun _ R => vrs_n R .nil
 | cons x r ih => exact fun hx R => vrs_e R fun v t h1 h2 => .cons (as := []) (bs := []) (zgc (zcc hx).1 h1) (ih (zcc hx).2 h2)
theorem zud {l : List Nat} (q : sOk l) : (PyData.str (St l)).canLay0 = true := by
 rw [PyData.canLay0]
 unfold PyData.strOk
 rw [Array.all_eq_true_iff_forall_mem]
 intro c hc
 have := zba q.1 c (by simpa using hc)
 exact decide_eq_true (by omega)
theorem aLay {x : V} {v : Value} (R : VR ρ h x v) : (aD x).canLay0 = true /\ (aD x).depth = 0 := by
 cases x with
 | str l => exact ⟨zud R.2, rfl⟩
 | _ => exact ⟨rfl, rfl⟩
theorem zp7 {xs : List V} {vs : List Value} : VRs ρ h xs vs -> PyData.canLayAll0 (xs.map aD) = true /\ PyData.depthAll (xs.map aD) = 0 := by
 induction xs generalizing vs with
 | nil => exact fun _ => ⟨rfl, rfl⟩
 | cons x r ih =>
  intro R
  refine vrs_e R fun v t h1 h2 => ⟨?_, ?_⟩
  · show (PyData.canLay0 (aD x) && PyData.canLayAll0 (r.map aD)) = true
    rw [(aLay h1).1, (ih h2).1]; rfl
  · show max (aD x).depth (PyData.depthAll (r.map aD)) = 0
    rw [(aLay h1).2, (ih h2).2]; rfl
theorem vLay {x : V} {v : Value} (R : VR ρ h x v) : (vD x).canLay0 = true /\ (vD x).depth ≤ 1 := by
 cases x with
 | str l => exact ⟨zud R.2, Nat.zero_le _⟩
 | tup xs =>
  obtain ⟨a, vs, n, rfl, ho, hv, _⟩ := R
  refine ⟨(zp7 hv).1, ?_⟩
  show PyData.depthAll (xs.map aD) + 1 ≤ 1
  rw [(zp7 hv).2]; exact Nat.le_refl _
 | _ => exact ⟨rfl, Nat.zero_le _⟩
theorem zgq {xs : List V} {vs : List Value} : VRs ρ h xs vs -> PyData.canLayAll0 (xs.map vD) = true /\ PyData.depthAll (xs.map vD) ≤ 1 := by
 induction xs generalizing vs with
 | nil => exact fun _ => ⟨rfl, Nat.zero_le _⟩
 | cons x r ih =>
  intro R
  refine vrs_e R fun v t h1 h2 => ⟨?_, Nat.max_le.mpr ⟨(vLay h1).2, (ih h2).2⟩⟩
  show (PyData.canLay0 (vD x) && PyData.canLayAll0 (r.map vD)) = true
  rw [(vLay h1).1, (ih h2).1]; rfl
end

section
variable {Ω : Bx} {ρ : Rho} {hp : Hp} {s₀ s : Shared} {A : Around} {E : Value -> Shared -> Prop} {Q : Value -> Shared -> Prop}

structure Rd (h : Heap) (v : Value) (d : PyData) : Prop where
 rd : ∃ as, Reads h v d as
 lay : d.canLay0 = true
 dep : d.depth ≤ 2
theorem zje {v : Value} {xs : List V} {a : Addr} {vs : List Value} {n : Nat} (g1 : s.heap.get? a = some (lstO vs n)) (g2 : VRs ρ s.heap xs vs) (hp : pls xs = true) : Rd s.heap (.ref a) (.list (xs.map vD)) :=
 ⟨⟨_, .list g1 rfl rfl (zhz hp g2)⟩, (zgq g2).1, Nat.succ_le_succ (zgq g2).2⟩
theorem rd_tup {xs : List V} {a : Addr} {vs : List Value} {n : Nat} (g1 : s.heap.get? a = some (tupO vs n)) (g2 : VRs ρ s.heap xs vs) (hp : plas xs = true) : Rd s.heap (.ref a) (.tuple (xs.map vD)) :=
 ⟨⟨_, .tuple g1 rfl rfl (zhz (zkp hp) g2)⟩, (zgq g2).1, Nat.succ_le_succ (zgq g2).2⟩
theorem rd_v {v : Value} {x : V} (hx : pl x = true) (R : VR ρ s.heap x v) : Rd s.heap v (vD x) := ⟨⟨_, zgc hx R⟩, (vLay R).1, Nat.le_succ_of_le (vLay R).2⟩
theorem zvb {a b : PyData} (h : b.depth ≤ 2) {n : Nat} (hu : n + 70 < cLine) : n + min a.depth b.depth < cLine :=
 Nat.lt_of_le_of_lt (Nat.add_le_add_left (Nat.le_trans (Nat.min_le_right _ _) (Nat.le_trans h (by decide))) n) hu
theorem eqR_e {a b : RV} {r : Bool} (e : eqR a b hp = some r) {G : Prop} (k1 : ∀ xs ys, cont a hp = some xs -> cont b hp = some ys -> pls xs = true -> pls ys = true -> vEs xs ys = r -> G)
 (k2 : ∀ x y, rV a = some x -> rV b = some y -> pl x = true -> pl y = true -> vE x y = r -> G) : G := by
 rcases zcs e with e | e
 · obtain ⟨xs, h1, e⟩ := bd_t e
   obtain ⟨ys, h2, e⟩ := bd_t e
   exact k1 xs ys h1 h2 (zae e).1 (zae (zae e).2).1 (prf (zae (zae e).2).2)
 · obtain ⟨xs, h1, e⟩ := bd_t e
   obtain ⟨ys, h2, e⟩ := bd_t e
   exact k2 xs ys h1 h2 (zae e).1 (zae (zae e).2).1 (prf (zae (zae e).2).2)
theorem zva (H : HS Ω ρ hp s) {a b : RV} {r : Bool} {va vb : Value} (e : eqR a b hp = some r) (ra : RVR Ω ρ s₀ s a va) (rb : RVR Ω ρ s₀ s b vb) {G : Prop}
 (k : ∀ da db, Rd s.heap va da -> Rd s.heap vb db -> PyData.eqv da db = r -> G) : G :=
 eqR_e e (fun _ _ h1 h2 p1 p2 hr => cont_e H h1 ra (P := fun va => (∀ da db, Rd s.heap va da -> Rd s.heap vb db -> PyData.eqv da db = r -> G) -> G) (fun _ _ _ g1 g2 _ k => cont_e H h2 rb (P := fun vb => (∀ da db, Rd s.heap _ da -> Rd s.heap vb db -> PyData.eqv da db = r -> G) -> G)
  (fun _ _ _ g3 g4 _ k => k _ _ (zje (v := .none) g1 g2 p1) (zje (v := .none) g3 g4 p2) ((zv6 p1 p2).symm.trans hr)) k) k)
  (fun _ _ h1 h2 p1 p2 hr => k _ _ (rd_v p1 (rvV h1 ra)) (rd_v p2 (rvV h2 rb)) ((zmp p1 p2).symm.trans hr))
theorem eq_ok (hu : A.units + 70 < cLine) {va vb : Value} {da db : PyData} (h1 : Rd s.heap va da) (h2 : Rd s.heap vb db) :
 (Q (.bool (PyData.eqv da db)) s -> wpAny Ω.M A (compareOp .Eq va vb) Q E s) /\ (Q (.bool (!PyData.eqv da db)) s -> wpAny Ω.M A (compareOp .NotEq va vb) Q E s) :=
 h1.rd.elim fun _ r1 => h2.rd.elim fun _ r2 => ⟨fun h => PySem.SeqAt.compareEq_reads r1 r2 h1.lay h2.lay (zvb h2.dep hu) h, fun h => PySem.SeqAt.compareNe_reads r1 r2 h1.lay h2.lay (zvb h2.dep hu) h⟩

theorem zr4 (c : Nat) (l : List Nat) : memc c l = decide (c ∈ l) := by
 induction l with
 | nil => rfl
 | cons x r ih =>
  show (match Nat.beq x c with | true => true | false => memc c r) = _
  cases q : Nat.beq x c with
  | true => rw [zam q]; simp
  | false =>
   have := zdy q
   rw [ih]
   simp [Ne.symm this]
theorem zfz (c : Nat) (l : List Nat) : Txt.contains (St l) (St [c]) = memc c l := by
 unfold Txt.contains
 have := StrLaws.found_one (St l) c
 rw [show (⟨#[c]⟩ : Str) = St [c] from rfl] at this
 rw [this, zr4]
theorem inR_e {a b : RV} {r : Bool} (e : inR a b hp = some r) {G : Prop} (k1 : ∀ c y, rS a = some [c] -> rS b = some y -> memc c y = r -> G)
 (k2 : ∀ x ys, rV a = some x -> rV b = some (.tup ys) -> pl x = true -> plas ys = true -> vin x ys = r -> G)
 (k3 : ∀ x ys, rV a = some x -> cont b hp = some ys -> pl x = true -> pls ys = true -> vin x ys = r -> G) : G := by
 obtain ⟨x, h1, e⟩ := bd_t e
 rcases zcs e with e | e
 · obtain ⟨y, h2, e⟩ := bd_t e
   obtain ⟨t, h3, e⟩ := bd_t e
   obtain ⟨c, h4, e⟩ := bd_t e
   rw [a1_t h4] at h3
   exact k1 c y (by rw [rV_t h1, vS_t h3]; rfl) h2 (prf e)
 · rcases zcs e with e | e
   · obtain ⟨y, h2, e⟩ := bd_t e
     obtain ⟨t, h3, h4⟩ := bd_t h2
     rw [vT_t h4] at h3
     exact k2 x y h1 h3 (zae e).1 (zae (zae e).2).1 (prf (zae (zae e).2).2)
   · obtain ⟨y, h2, e⟩ := bd_t e
     exact k3 x y h1 h2 (zae e).1 (zae (zae e).2).1 (prf (zae (zae e).2).2)
noncomputable abbrev Two (Ω : Bx) (A : Around) (E Q : Value -> Shared -> Prop) (s : Shared) (o p : CmpOp) (va vb : Value) (r : Bool) : Prop :=
 (Q (.bool r) s -> wpAny Ω.M A (compareOp o va vb) Q E s) /\ (Q (.bool (!r)) s -> wpAny Ω.M A (compareOp p va vb) Q E s)
theorem dep1 {a b : PyData} (h : b.depth ≤ 1) {d : Nat} {n : Nat} (hu : n + 70 < cLine) : n + 1 + min d b.depth < cLine := by
 have := Nat.min_le_right d b.depth
 omega
theorem in_tup (hu : A.units + 70 < cLine) {c v : Value} {xs : List V} (h1 : Rd s.heap c (.tuple (xs.map vD))) {x : V} {r : Bool} (hx : pl x = true) (R : VR ρ s.heap x v) (hs : pls xs = true) (e : vin x xs = r) : Two Ω A E Q s .In .NotIn v c r :=
 h1.rd.elim fun _ r1 => ⟨fun h => PySem.SeqAt.in_tuple_reads r1 (zgc hx R) h1.lay (vLay R).1 (dep1 (a := .none) (vLay R).2 hu) (zgp hx hs ▸ e ▸ h), fun h => PySem.SeqAt.notIn_tuple_reads r1 (zgc hx R) h1.lay (vLay R).1 (dep1 (a := .none) (vLay R).2 hu) (zgp hx hs ▸ e ▸ h)⟩
theorem in_lis (hu : A.units + 70 < cLine) {c v : Value} {xs : List V} (h1 : Rd s.heap c (.list (xs.map vD))) {x : V} {r : Bool} (hx : pl x = true) (R : VR ρ s.heap x v) (hs : pls xs = true) (e : vin x xs = r) : Two Ω A E Q s .In .NotIn v c r :=
 h1.rd.elim fun _ r1 => ⟨fun h => PySem.SeqAt.in_list_reads r1 (zgc hx R) h1.lay (vLay R).1 (dep1 (a := .none) (vLay R).2 hu) (zgp hx hs ▸ e ▸ h), fun h => PySem.SeqAt.notIn_list_reads r1 (zgc hx R) h1.lay (vLay R).1 (dep1 (a := .none) (vLay R).2 hu) (zgp hx hs ▸ e ▸ h)⟩
@[elab_as_elim] theorem rvT_e {b : RV} {v : Value} {ys : List V} (e : rV b = some (.tup ys)) (R : RVR Ω ρ s₀ s b v) {P : Value -> Prop} (k : ∀ a vs n, s.heap.get? a = some (tupO vs n) -> VRs ρ s.heap ys vs -> vs.length ≤ 65536 -> P (.ref a)) : P v := by
 have R : VR ρ s.heap (.tup ys) v := rvV e R
 obtain ⟨a, vs, n, rfl, h1, h2, h3⟩ := R
 exact k a vs n h1 h2 h3
theorem zux (H : HS Ω ρ hp s) (hu : A.units + 70 < cLine) {a b : RV} {r : Bool} {va vb : Value} (e : inR a b hp = some r) (ra : RVR Ω ρ s₀ s a va) (rb : RVR Ω ρ s₀ s b vb) : Two Ω A E Q s .In .NotIn va vb r :=
 inR_e e (fun c y h1 h2 hr => rvS_e h1 ra fun _ _ => rvS_e h2 rb fun _ _ => ⟨fun h => SB.contains (by rw [zfz, hr]; exact h), fun h => SB.notContains (by rw [zfz, hr]; exact h)⟩)
  (fun x ys h1 h2 p1 p2 hr => rvT_e h2 rb fun _ _ _ g1 g2 _ => in_tup hu (rd_tup g1 g2 p2) p1 (rvV h1 ra) (zkp p2) hr)
  (fun x ys h1 h2 p1 p2 hr => cont_e H h2 rb fun _ _ _ g1 g2 _ => in_lis hu (zje (v := .none) g1 g2 p2) p1 (rvV h1 ra) p2 hr)
theorem zcv {va vb : Value} (h1 : plainIs va vb = true) (h2 : va ≠ vb) : Two Ω A E Q s .Is .IsNot va vb false := ⟨fun h => wpAny_is_other h1 h2 h, fun h => wpAny_isNot_other h1 h2 h⟩
theorem zhh {va : Value} (h1 : plainIs va va = true) : Two Ω A E Q s .Is .IsNot va va true := ⟨fun h => wpAny_is_self h1 h, fun h => wpAny_isNot_self h1 h⟩
theorem isN_ok {x : V} {r : Bool} {va : Value} (e : isN x = some r) (ra : VR ρ s.heap x va) : Two Ω A E Q s .Is .IsNot va .none r := by
 cases x with
 | none => cases (show va = .none from ra); exact prf e ▸ zhh rfl
 | bool b => exact prf e ▸ (show va = .bool b from ra) ▸ zcv rfl nofun
 | int i => obtain ⟨t, rfl⟩ := ra; exact prf e ▸ zcv rfl nofun
 | str i => obtain ⟨⟨t, rfl⟩, _⟩ := ra; exact prf e ▸ zcv rfl nofun
 | ref i => obtain ⟨a, _, _, rfl⟩ := ra; exact prf e ▸ zcv rfl nofun
 | _ => exact nn e
theorem isB_ok {x : V} {y r : Bool} {va : Value} (e : isB x y = some r) (ra : VR ρ s.heap x va) : Two Ω A E Q s .Is .IsNot va (.bool y) r := by
 rcases zcs e with e | e
 · obtain ⟨b, h1, e⟩ := bd_t e
   rw [vB_t h1] at ra
   cases (show va = .bool b from ra)
   cases prf e
   cases b <;> cases y <;> first | exact zhh rfl | exact zcv rfl nofun
 · obtain ⟨h1, e⟩ := zae e
   rw [vN_t h1] at ra
   exact prf e ▸ (show va = .none from ra) ▸ zcv rfl nofun
theorem isT_ok {x y : Bi} {r : Bool} (e : isT x y = some r) : Two Ω A E Q s .Is .IsNot x.val y.val r := by
 cases x with
 | list => cases y with | list => exact prf e ▸ zhh rfl | _ => exact nn e
 | str => cases y with | str => exact prf e ▸ zhh rfl | _ => exact nn e
 | _ => exact nn e
theorem isV_ok {x y : V} {r : Bool} {va vb : Value} (e : isV x y = some r) (ra : VR ρ s.heap x va) (rb : VR ρ s.heap y vb) : Two Ω A E Q s .Is .IsNot va vb r := by
 cases y with
 | none => exact (show vb = .none from rb) ▸ isN_ok e ra
 | bool b => exact (show vb = .bool b from rb) ▸ isB_ok e ra
 | bi b =>
  obtain ⟨a, h1, e⟩ := bd_t e
  rw [vBi_t h1] at ra
  exact (show va = a.val from ra) ▸ (show vb = b.val from rb) ▸ isT_ok e
 | _ => exact nn e
theorem zij {a b : RV} {r : Bool} {va vb : Value} (e : zou a b = some r) (ra : RVR Ω ρ s₀ s a va) (rb : RVR Ω ρ s₀ s b vb) : Two Ω A E Q s .Is .IsNot va vb r := by
 obtain ⟨y, h1, e⟩ := bd_t e
 have rb := rvV h1 rb
 cases a with
 | v x => exact isV_ok e ra rb
 | l xs =>
  obtain ⟨h2, e⟩ := zae e
  rw [vN_t h2] at rb
  obtain ⟨a, _, _, rfl, _⟩ := ra
  exact prf e ▸ (show vb = .none from rb) ▸ zcv rfl nofun
 | g xs => exact nn e
theorem zhj {f : Int -> Int -> Bool} {a b : RV} {r : Bool} {va vb : Value} (e : zov f a b = some r) (ra : RVR Ω ρ s₀ s a va) (rb : RVR Ω ρ s₀ s b vb) {P : Value -> Value -> Bool -> Prop} (k : ∀ x y t u, P (.int x t) (.int y u) (f x y)) : P va vb r := by
 obtain ⟨x, h1, e⟩ := bd_t e
 obtain ⟨y, h2, e⟩ := bd_t e
 exact rvI_e h1 ra fun t => rvI_e h2 rb fun u => prf e ▸ k x y t u
theorem ltZ (x y : Int) : Z.ltB x y = decide (x < y) := by rw [Bool.eq_iff_iff, Z.ltB_iff, decide_eq_true_eq]
theorem leZ (x y : Int) : Z.leB x y = decide (x ≤ y) := by rw [Bool.eq_iff_iff, Z.leB_iff, decide_eq_true_eq]
@[elab_as_elim] theorem nb_e {o : Option Bool} {r : Bool} (e : nb o = some r) {P : Bool -> Prop} (k : ∀ b, o = some b -> P (!b)) : P r := by
 obtain ⟨b, h1, e⟩ := bd_t e
 exact prf e ▸ zj6 b ▸ k b h1
theorem zlg (H : HS Ω ρ hp s) (hu : A.units + 70 < cLine) {o : CmpOp} {a b : RV} {r : Bool} {va vb : Value} (e : zco o a b hp = some r) (ra : RVR Ω ρ s₀ s a va) (rb : RVR Ω ρ s₀ s b vb) : Q (.bool r) s -> wpAny Ω.M A (compareOp o va vb) Q E s := by
 cases o with
 | Eq => exact zva (Ω := Ω) H e ra rb fun _ _ d1 d2 hr => hr ▸ (eq_ok hu d1 d2).1
 | NotEq => exact nb_e e fun b e => zva (Ω := Ω) H e ra rb fun _ _ d1 d2 hr => hr ▸ (eq_ok hu d1 d2).2
 | Lt => exact zhj (P := fun va vb r => Q (.bool r) s -> wpAny Ω.M A (compareOp .Lt va vb) Q E s) e ra rb fun x y _ _ h => PyProof.Rows.lt_int (ltZ x y ▸ h)
 | LtE => exact zhj (P := fun va vb r => Q (.bool r) s -> wpAny Ω.M A (compareOp .LtE va vb) Q E s) e ra rb fun x y _ _ h => PyProof.Rows.le_int (leZ x y ▸ h)
 | Gt => exact zhj (P := fun va vb r => Q (.bool r) s -> wpAny Ω.M A (compareOp .Gt va vb) Q E s) e ra rb fun x y _ _ h => PyProof.Rows.gt_int (ltZ y x ▸ h)
 | GtE => exact zhj (P := fun va vb r => Q (.bool r) s -> wpAny Ω.M A (compareOp .GtE va vb) Q E s) e ra rb fun x y _ _ h => PyProof.Rows.ge_int (leZ y x ▸ h)
 | Is => exact (zij e ra rb).1
 | IsNot => exact nb_e e fun b e => (zij e ra rb).2
 | In => exact (zux H hu e ra rb).1
 | NotIn => exact nb_e e fun b e => (zux H hu e ra rb).2
end
end
end Mine
end
noncomputable section
open PySem PySem.W PyProof.Rows
namespace Mine
section

section
variable {Ω : Bx} {ρ : Rho} {hp : Hp} {s₀ s : Shared} {A : Around} {E : Value -> Shared -> Prop} {Q : Value -> Shared -> Prop}

theorem nz_eq (i : Int) : bnot (Z.eqB i 0) = (i != 0) := by rw [zj6, eqB_iff']; rfl
theorem emp_len {α : Type} (x : List α) : bnot (emp x) = ((x.length : Int) != 0) := by cases x <;> rfl
theorem zqk {x : List Nat} {t : Tok} {QB : Bool -> Shared -> Prop} (hx : sOk x) (hQ : ∀ t, QB (bnot (emp x)) { s with toks := t }) : wpAny Ω.M A (truthy (.str (St x) t)) QB E s := by
 refine P.truthy_str ?_ ?_
 · rw [zak]; have := hx.2; omega
 · rw [zak, ← emp_len]; exact hQ _
theorem zql {a : Addr} {vs : List Value} {n : Nat} {QB : Bool -> Shared -> Prop} (g : s.heap.get? a = some (lstO vs n)) (hl : vs.length ≤ 65537) (hQ : ∀ t, QB (bnot (emp vs)) { s with toks := t }) : wpAny Ω.M A (truthy (.ref a)) QB E s := by
 refine wpAny_truthy_list (items := vs.toArray) ⟨_, g, rfl, _, rfl⟩ ?_ ?_
 · simp only [List.size_toArray]; omega
 · cases vs <;> exact hQ _
theorem emp_vrs {h : Heap} {xs : List V} {vs : List Value} (R : VRs ρ h xs vs) : emp vs = emp xs := by
 cases xs with
 | nil => exact vrs_n R rfl
 | cons x r => exact vrs_e R fun _ _ _ _ => rfl
theorem zwc (H : HS Ω ρ hp s) {r : RV} {v : Value} {b : Bool} {QB : Bool -> Shared -> Prop} (e : truV r hp = some b) (R : RVR Ω ρ s₀ s r v) (hQ : ∀ t, QB b { s with toks := t }) : wpAny Ω.M A (truthy v) QB E s := by
 obtain ⟨x, h1, e⟩ := bd_t e
 have R := rvV h1 R
 cases x with
 | none => cases (show v = .none from R); exact truthy_none (prf e ▸ hQ s.toks)
 | bool c => cases (show v = .bool c from R); exact wpAny_truthy_bool (prf e ▸ hQ s.toks)
 | int i => obtain ⟨t, rfl⟩ := R; exact PyProof.Rows.truthy_int (nz_eq i ▸ prf e ▸ hQ s.toks)
 | str x => obtain ⟨⟨t, rfl⟩, hx⟩ := R; exact zqk hx (prf e ▸ hQ)
 | ref n =>
  obtain ⟨xs, e1, e⟩ := bd_t e
  obtain ⟨a, vs, k, rfl, _, h2, h3, h4⟩ := zgh H e1 R
  exact zql h2 h4 (emp_vrs h3 ▸ prf e ▸ hQ)
 | _ => exact nn e

theorem zlt {k n : Nat} (h : k < n) : seqIndex? (Int.ofNat k) n = some k := by
 unfold seqIndex?
 rw [if_neg (show ¬ Int.ofNat k < 0 from Int.not_lt.mpr (Int.natCast_nonneg k))]
 exact if_pos (by simp; exact h)
theorem zlu {k n : Nat} (h : k < n) : seqIndex? (Int.negSucc k) n = some (n - (k + 1)) := by
 unfold seqIndex?
 rw [if_pos (Int.negSucc_lt_zero k), show Int.negSucc k + (n : Int) = ((n - (k + 1) : Nat) : Int) by omega]
 exact if_pos (by simp; omega)
theorem zjx {i : Int} {n j : Nat} (h : idx i n = some j) : seqIndex? i n = some j /\ j < n /\ i.natAbs ≤ n := by
 cases i with
 | ofNat k =>
  have h : ifb (Nat.blt k n) (some k) = some j := h
  obtain ⟨h1, h⟩ := zae h
  cases prf h
  exact ⟨zlt (Nat.le_of_ble_eq_true h1), Nat.le_of_ble_eq_true h1, Nat.le_of_lt (Nat.le_of_ble_eq_true h1)⟩
 | negSucc k =>
  have h : ifb (Nat.blt k n) (some (n - (k + 1))) = some j := h
  obtain ⟨h1, h⟩ := zae h
  have h1 : k < n := Nat.le_of_ble_eq_true h1
  cases prf h
  exact ⟨zlu h1, Nat.sub_lt (Nat.lt_of_le_of_lt (Nat.zero_le k) h1) (Nat.succ_pos k), h1⟩
theorem VRs.nth' {ρ : Rho} {h : Heap} {xs : List V} {vs : List Value} (R : VRs ρ h xs vs) {j : Nat} {x : V} (e : Mine.nth xs j = some x) : ∃ v, vs.toArray[j]? = some v /\ VR ρ h x v := by
 obtain ⟨v, h1, h2⟩ := R.nth e
 exact ⟨v, by simpa using h1, h2⟩

theorem znx (H : HS Ω ρ hp s) {r : RV} {v : Value} {xs : List V} (e : zff r hp = some xs) (R : RVR Ω ρ s₀ s r v) {P : Value -> Prop}
 (k1 : ∀ a vs n, s.heap.get? a = some (lstO vs n) -> VRs ρ s.heap xs vs -> vs.length ≤ 65537 -> P (.ref a)) (k2 : ∀ a vs n, s.heap.get? a = some (tupO vs n) -> VRs ρ s.heap xs vs -> vs.length ≤ 65537 -> P (.ref a)) : P v := by
 cases r with
 | l ys => exact cont_e (P := P) (r := .l ys) H e R k1
 | v x =>
  rcases zcs e with e | e
  · rw [vT_t e] at R
    obtain ⟨a, vs, n, rfl, h2, h3, h4⟩ := R
    exact k2 a vs n h2 h3 (Nat.le_succ_of_le h4)
  · exact cont_e (P := P) (r := .v x) H e R k1
 | g ys => exact nn e
theorem zrp (H : HS Ω ρ hp s) {r : RV} {v : Value} {xs : List V} (e : zff r hp = some xs) (R : RVR Ω ρ s₀ s r v) :
 ∃ a vs n, v = .ref a /\ (s.heap.get? a = some (lstO vs n) ∨ s.heap.get? a = some (tupO vs n)) /\ VRs ρ s.heap xs vs /\ vs.length ≤ 65537 :=
 znx H e R (P := fun v => ∃ a vs n, v = .ref a /\ (s.heap.get? a = some (lstO vs n) ∨ s.heap.get? a = some (tupO vs n)) /\ VRs ρ s.heap xs vs /\ vs.length ≤ 65537) (fun a vs n h1 h2 h3 => ⟨a, vs, n, rfl, .inl h1, h2, h3⟩) (fun a vs n h1 h2 h3 => ⟨a, vs, n, rfl, .inr h1, h2, h3⟩)

inductive Subs (Ω : Bx) (A : Around) (E Q : Value -> Shared -> Prop) (s : Shared) (va vi : Value) : Prop
 | mk {T id : String} (hT : s.TypeIs va T) (hl : typeLookup (.type T) "__getitem__" = pure (some (.builtin id))) (hg : wpAny Ω.M A (getItem va vi) Q E s) : Subs Ω A E Q s va vi
theorem zwk {x : List Nat} {k : Int} {j c : Nat} {t u : Tok} (h1 : idx k (len x) = some j) (h2 : nth x j = some c) (hx : sOk x) (hQ : Kq Ω ρ s₀ s (.v (.str [c])) Q) : Subs Ω A E Q s (.str (St x) t) (.int k u) := by
 rw [zag] at h1
 obtain ⟨i1, i2, i3⟩ := zjx h1
 have hx2 := hx.2
 rw [zbd] at h2
 refine .mk (typeIs_str _ _ _) PySem.F.slot_str_getitem.lookup (P.getItem_str (c := c) ?_ ?_ ?_)
 · rw [Bool.or_eq_false_iff]; exact ⟨decide_eq_false (by omega), decide_eq_false (by omega)⟩
 · rw [zak, i1]
   show x.toArray[j]? = some c
   simpa using h2
 · exact zd8 (x := [c]) ⟨zdm fun d hd => List.mem_singleton.mp hd ▸ zba hx.1 _ (List.mem_of_getElem? h2), by simp⟩ hQ _ _
theorem at_pos {k : Int} {n j : Nat} (z : ¬ k < 0) (i1 : seqIndex? k n = some j) : k.toNat = j := by
 unfold seqIndex? at i1
 simp only [z, if_false] at i1
 split at i1
 · exact prf i1
 · exact nn i1
theorem at_neg {k : Int} {n j : Nat} (z : k < 0) (i1 : seqIndex? k n = some j) : (k + n).toNat = j := by
 unfold seqIndex? at i1
 simp only [z, if_true] at i1
 split at i1
 · exact prf i1
 · exact nn i1
theorem zqt {a : Addr} {vs : List Value} {n : Nat} {k : Int} {j : Nat} {v : Value} {u : Tok} (g : s.heap.get? a = some (lstO vs n)) (hl : vs.length ≤ 65537) (h1 : idx k vs.length = some j) (h2 : vs.toArray[j]? = some v) (hQ : Q v s) : Subs Ω A E Q s (.ref a) (.int k u) := by
 obtain ⟨i1, i2, i3⟩ := zjx h1
 refine .mk (tyL g) PySem.F.slot_list_getitem.lookup ?_
 by_cases z : k < 0
 · exact wpAny_getItem_list_neg (items := vs.toArray) ⟨_, g, rfl, _, rfl⟩ z (by simp; omega) (by omega) (x := v) (at_neg z i1 ▸ h2) hQ
 · exact wpAny_getItem_list (items := vs.toArray) ⟨_, g, rfl, _, rfl⟩ (by omega) (by omega) (x := v) (at_pos z i1 ▸ h2) hQ
theorem zwj {a : Addr} {vs : List Value} {n : Nat} {k : Int} {j : Nat} {v : Value} {u : Tok} (g : s.heap.get? a = some (tupO vs n)) (hl : vs.length ≤ 65537) (h1 : idx k vs.length = some j) (h2 : vs.toArray[j]? = some v) (hQ : Q v s) : Subs Ω A E Q s (.ref a) (.int k u) := by
 obtain ⟨i1, i2, i3⟩ := zjx h1
 exact .mk (tyT g) slot_tuple_getitem.lookup (P.getItem_tuple (items := vs.toArray) g (by omega) (by omega) (by simpa using i1) h2 hQ)
theorem zwo {a i r : RV} (e : zes a i hp = some r) {G : Prop} (k1 : ∀ k x j c, rI i = some k -> rS a = some x -> idx k (len x) = some j -> nth x j = some c -> .v (.str [c]) = r -> G)
 (k2 : ∀ k xs j v, rI i = some k -> zff a hp = some xs -> idx k (len xs) = some j -> nth xs j = some v -> .v v = r -> G) : G := by
 obtain ⟨k, h1, e⟩ := bd_t e
 rcases zcs e with e | e
 · obtain ⟨x, h2, e⟩ := bd_t e
   obtain ⟨j, h3, e⟩ := bd_t e
   obtain ⟨c, h4, e⟩ := bd_t e
   exact k1 k x j c h1 h2 h3 h4 (prf e)
 · obtain ⟨x, h2, e⟩ := bd_t e
   obtain ⟨j, h3, e⟩ := bd_t e
   obtain ⟨c, h4, e⟩ := bd_t e
   exact k2 k x j c h1 h2 h3 h4 (prf e)
theorem zqw (H : HS Ω ρ hp s) {a i r : RV} {va vi : Value} (e : zes a i hp = some r) (ra : RVR Ω ρ s₀ s a va) (ri : RVR Ω ρ s₀ s i vi) (hQ : Kq Ω ρ s₀ s r Q) : Subs Ω A E Q s va vi :=
 zwo e (fun _ _ _ _ h1 h2 h3 h4 hr => rvI_e h1 ri fun _ => rvS_e h2 ra fun _ hx => zwk h3 h4 hx (hr ▸ hQ))
  (fun _ _ _ _ h1 h2 h3 h4 hr => rvI_e h1 ri fun _ => znx H h2 ra (P := fun va => Subs Ω A E Q s va _)
   (fun _ _ _ g1 g2 g3 => (g2.nth' h4).elim fun _ hv => zqt g1 g3 (g2.len ▸ zag _ ▸ h3) hv.1 ((show Kq Ω ρ s₀ s (.v _) Q from hr ▸ hQ).here hv.2))
   (fun _ _ _ g1 g2 g3 => (g2.nth' h4).elim fun _ hv => zwj g1 g3 (g2.len ▸ zag _ ▸ h3) hv.1 ((show Kq Ω ρ s₀ s (.v _) Q from hr ▸ hQ).here hv.2)))

theorem zom (v : Option Int) (n : Nat) : kms_hi v n ≤ n := by
 cases v with
 | none => exact Nat.le_refl n
 | some y =>
  show (if y < 0 then n - (-y).toNat else min y.toNat n) ≤ n
  by_cases h : y < 0
  · rw [if_pos h]; exact Nat.sub_le _ _
  · rw [if_neg h]; exact Nat.min_le_right _ _
theorem zvi (i : Int) (n : Nat) : bnd i n = (if i < 0 then n - (-i).toNat else min i.toNat n) := by
 cases i with
 | ofNat k =>
  rw [if_neg (show ¬ Int.ofNat k < 0 from Int.not_lt.mpr (Int.natCast_nonneg k))]
  show (match Nat.ble k n with | true => k | false => n) = min k n
  cases q : Nat.ble k n with
  | true => exact (Nat.min_eq_left (Nat.le_of_ble_eq_true q)).symm
  | false => exact (Nat.min_eq_right (Nat.le_of_lt (Nat.lt_of_not_le fun h => by rw [Nat.ble_eq_true_of_le h] at q; cases q))).symm
 | negSucc k => exact (if_pos (Int.negSucc_lt_zero k)).symm
noncomputable def zfg (Ω : Bx) (ρ : Rho) (s₀ s : Shared) (o : Option RV) (v : Value) : Prop := match o with
 | none => v = .none
 | some r => RVR Ω ρ s₀ s r v
@[elab_as_elim] theorem bndLo_e {r : Option RV} {n a : Nat} (h : zhs r n = some a) {v : Value} (R : zfg Ω ρ s₀ s r v) {P : Value -> Prop} (k : ∀ q : Option (Int × Tok), IsPart (partValue q) (q.map (·.1)) -> a = kms_lo (q.map (·.1)) n -> P (partValue q)) : P v := by
 cases r with
 | none => cases (show v = .none from R); exact k none .none (prf h).symm
 | some r =>
  obtain ⟨i, h1, h⟩ := bd_t h
  obtain ⟨t, rfl⟩ := rvI h1 R
  exact k (some (i, t)) (.int i t) ((prf (zae h).2).symm.trans (zvi i n))
@[elab_as_elim] theorem bndHi_e {r : Option RV} {n a : Nat} (h : zht r n = some a) {v : Value} (R : zfg Ω ρ s₀ s r v) {P : Value -> Prop} (k : ∀ q : Option (Int × Tok), IsPart (partValue q) (q.map (·.1)) -> a = kms_hi (q.map (·.1)) n -> P (partValue q)) : P v := by
 cases r with
 | none => cases (show v = .none from R); exact k none .none (prf h).symm
 | some r =>
  obtain ⟨i, h1, h⟩ := bd_t h
  obtain ⟨t, rfl⟩ := rvI h1 R
  exact k (some (i, t)) (.int i t) ((prf (zae h).2).symm.trans (zvi i n))
theorem zhp {α : Type} {xs : List α} {a b : Nat} {x : α} (h : x ∈ (xs.drop a).take b) : x ∈ xs := List.mem_of_mem_drop (List.mem_of_mem_take h)
theorem VRs.drop {ρ : Rho} {h : Heap} {xs : List V} {vs : List Value} (n : Nat) (R : VRs ρ h xs vs) : VRs ρ h (xs.drop n) (vs.drop n) := by
 induction n generalizing xs vs with
 | zero => exact R
 | succ n ih =>
  cases xs with
  | nil => exact vrs_n R VRs.nil
  | cons x r => exact vrs_e R fun v t _ hr => ih hr
theorem VRs.take {ρ : Rho} {h : Heap} {xs : List V} {vs : List Value} (n : Nat) (R : VRs ρ h xs vs) : VRs ρ h (xs.take n) (vs.take n) := by
 induction n generalizing xs vs with
 | zero => exact VRs.nil
 | succ n ih =>
  cases xs with
  | nil => exact vrs_n R VRs.nil
  | cons x r => exact vrs_e R fun v t hx hr => VRs.cons hx (ih hr)
theorem znq (x : Str) (l u : Option Int) : (Builtin.Str.strSliceIndices l u 1 x.length).filterMap (x.cps[·]?) = (x.cps.toList.drop (kms_lo l x.length)).take (kms_hi u x.length - kms_lo l x.length) ∧
 (Builtin.Str.strSliceIndices l u 1 x.length).length = kms_hi u x.length - kms_lo l x.length := by
 have e : Builtin.Str.strSliceIndices l u 1 x.length = (List.range (kms_hi u x.length - kms_lo l x.length)).map (kms_lo l x.length + ·) := by
  show sliceRange (sliceBounds l u none x.length).1 (sliceBounds l u none x.length).2.1 1 = _
  rw [kms_bounds]
  exact sliceRange_one _ _
 rw [e]
 exact ⟨pick_run _ _ _, by rw [List.length_map, List.length_range]⟩
theorem zph {α : Type} (xs : List α) (p q : Nat) {n : Nat} (h : xs.length ≤ n) : (cut xs p q).length ≤ n :=
 Nat.le_trans (List.length_take_le' _ _) (Nat.le_trans (List.length_drop ▸ Nat.sub_le _ _) h)
theorem cut_all {x : List Nat} {p q : Nat} (h : q - p = x.length) (hq : q ≤ x.length) : cut x p q = x := by
 cases p with
 | zero => exact List.take_of_length_le (Nat.le_of_eq h.symm)
 | succ p =>
  have h1 : x = [] := List.eq_nil_of_length_eq_zero (by omega)
  subst h1; exact (congrArg _ List.drop_nil).trans List.take_nil
theorem zvd {x : List Nat} (hx : sOk x) (p q : Nat) : sOk (cut x p q) := ⟨zdm fun c hc => zba hx.1 c (zhp hc), zph x p q hx.2⟩
theorem made_eq {x : List Nat} {ql qu : Option (Int × Tok)} {c : Prop} [Decidable c] (hc : c -> (Builtin.Str.strSliceIndices (ql.map (·.1)) (qu.map (·.1)) 1 (St x).length).length = (St x).length) :
 (if c then St x else Str.mk ((Builtin.Str.strSliceIndices (ql.map (·.1)) (qu.map (·.1)) 1 (St x).length).filterMap ((St x).cps[·]?)).toArray) = St (cut x (kms_lo (ql.map (·.1)) x.length) (kms_hi (qu.map (·.1)) x.length)) := by
 obtain ⟨g1, g2⟩ := znq (St x) (ql.map (·.1)) (qu.map (·.1))
 rw [zak] at *
 by_cases z : c
 · rw [if_pos z, cut_all (g2.symm.trans (hc z)) (zom _ _)]
 · rw [if_neg z, g1]; rfl
theorem made_ok {x : List Nat} {t : Tok} {ql qu : Option (Int × Tok)} (hx : sOk x) (k : ∀ t' k, Q (.str (St (cut x (kms_lo (ql.map (·.1)) x.length) (kms_hi (qu.map (·.1)) x.length))) t') { s with toks := k }) : (sliceMade (St x) t ql qu none).post Q s := by
 unfold sliceMade slicePicked
 refine post_val_or_str ?_
 have e := made_eq (x := x) (ql := ql) (qu := qu) (c := (((1 : Int) == 1) && (Builtin.Str.strSliceIndices (ql.map (·.1)) (qu.map (·.1)) 1 (St x).length).length == (St x).length) = true) fun h => by simpa using h
 have hl := (zvd hx (kms_lo (ql.map (·.1)) x.length) (kms_hi (qu.map (·.1)) x.length)).2
 rw [← e] at k
 rw [← zak, ← e] at hl
 exact ⟨Nat.le_trans hl (by decide), k⟩
noncomputable abbrev slcH (s : Shared) (vl vu : Value) : Shared := { s with heap := s.heap.push { cls := .type "slice", data := .fields #[vl, vu, .none] } }
theorem zm5 {x : List Nat} {t : Tok} {ql qu : Option (Int × Tok)} (hx : sOk x) (hQ : Kq Ω ρ s₀ s (.v (.str (cut x (kms_lo (ql.map (·.1)) x.length) (kms_hi (qu.map (·.1)) x.length)))) Q) : Subs Ω A E Q (slcH s (partValue ql) (partValue qu)) (.str (St x) t) (.ref s.heap.objs.size) :=
 .mk (typeIs_str _ _ _) PySem.F.slot_str_getitem.lookup (wpAny_getItem_str_slice (l := ql) (u := qu) (st := none) ⟨_, Heap.get?_push_size _ rfl, rfl, rfl⟩ rfl
  (made_ok hx fun t' k => hQ _ _ k (fun _ _ e => Heap.get?_push_of_some _ e) ⟨⟨t', rfl⟩, zvd hx _ _⟩))
theorem zfe {h : Heap} {o : Obj} {a : Addr} (z : (h.push o).get? a = none) : h.get? a = none := by
 cases y : h.get? a with
 | none => rfl
 | some ob => rw [Heap.get?_push_of_some _ y] at z; cases z
theorem zb7 (h : Heap) : h.get? h.objs.size = none := by
 cases z : h.get? h.objs.size with
 | none => rfl
 | some o => exact absurd (Heap.lt_size z) (Nat.lt_irrefl _)
theorem zsu (H : HS Ω ρ hp s) (hs : ∀ a, s.heap.get? a = none -> s₀.heap.get? a = none) {o : Obj} {xs : List V} {vs : List Value} (hv : VRs ρ s.heap xs vs) (hl : vs.length ≤ 65537) (hQ : Kq Ω ρ s₀ s (.l xs) Q) (t : Nat) :
 Q (.ref (s.heap.push o).objs.size) { s with heap := (s.heap.push o).push (lstO vs 0), toks := t } :=
 hQ _ _ t (fun _ _ e => Heap.get?_push_of_some _ (Heap.get?_push_of_some _ e)) ⟨_, vs, 0, rfl, Heap.get?_push_size _ rfl,
  VRs.mono (Ext.refl ρ) (fun b o e _ => Heap.get?_push_of_some _ (Heap.get?_push_of_some _ e)) _ _ hv, hl, hs _ (zfe (zb7 _)), H.notIn (zfe (zb7 _))⟩
theorem zlo (H : HS Ω ρ hp s) (hs : ∀ a, s.heap.get? a = none -> s₀.heap.get? a = none) {a : Addr} {xs : List V} {vs : List Value} {n : Nat} {ql qu : Option (Int × Tok)} (g1 : s.heap.get? a = some (lstO vs n)) (g2 : VRs ρ s.heap xs vs) (g3 : vs.length ≤ 65537)
 (pl : IsPart (partValue ql) (ql.map (·.1))) (pu : IsPart (partValue qu) (qu.map (·.1))) (hQ : Kq Ω ρ s₀ s (.l (cut xs (kms_lo (ql.map (·.1)) vs.length) (kms_hi (qu.map (·.1)) vs.length))) Q) : Subs Ω A E Q (slcH s (partValue ql) (partValue qu)) (.ref a) (.ref s.heap.objs.size) := by
 refine .mk (tyL (Heap.get?_push_of_some _ g1)) PySem.F.slot_list_getitem.lookup (wpAny_getItem_list_slice (items := vs.toArray) (vs := .none) (st := none) ⟨_, Heap.get?_push_of_some _ g1, rfl, _, rfl⟩ ⟨_, Heap.get?_push_size _ rfl, rfl, rfl⟩ pl pu .none nofun ?_ (by rw [sizeLine_eq, List.size_toArray]; omega))
 rw [kms_pick_eq]
 exact zsu H hs ((g2.drop _).take _) (zph vs _ _ g3) hQ _
theorem zm6 {a r : RV} {lo hi : Option RV} (e : zdo a lo hi hp = some r) {G : Prop} (k1 : ∀ x p q, rS a = some x -> zhs lo (len x) = some p -> zht hi (len x) = some q -> .v (.str (cut x p q)) = r -> G)
 (k2 : ∀ xs p q, cont a hp = some xs -> zhs lo (len xs) = some p -> zht hi (len xs) = some q -> .l (cut xs p q) = r -> G) : G := by
 rcases zcs e with e | e
 · obtain ⟨x, h2, e⟩ := bd_t e
   obtain ⟨j, h3, e⟩ := bd_t e
   obtain ⟨c, h4, e⟩ := bd_t e
   exact k1 x j c h2 h3 h4 (prf e)
 · obtain ⟨x, h2, e⟩ := bd_t e
   obtain ⟨j, h3, e⟩ := bd_t e
   obtain ⟨c, h4, e⟩ := bd_t e
   exact k2 x j c h2 h3 h4 (prf e)
theorem zlp (H : HS Ω ρ hp s) (hs : ∀ a, s.heap.get? a = none -> s₀.heap.get? a = none) {a r : RV} {lo hi : Option RV} {va vl vu : Value} (e : zdo a lo hi hp = some r) (ra : RVR Ω ρ s₀ s a va) (rl : zfg Ω ρ s₀ s lo vl) (ru : zfg Ω ρ s₀ s hi vu) (hQ : Kq Ω ρ s₀ s r Q) :
 Subs Ω A E Q (slcH s vl vu) va (.ref s.heap.objs.size) :=
 zm6 e (fun _ _ _ h1 h2 h3 hr => rvS_e h1 ra fun _ hx => bndLo_e h2 rl fun _ _ e1 => bndHi_e h3 ru fun _ _ e2 => zm5 hx (zag _ ▸ e1 ▸ e2 ▸ hr ▸ hQ))
  (fun _ _ _ h1 h2 h3 hr => cont_e H h1 ra fun _ _ _ g1 g2 g3 => bndLo_e h2 rl fun _ pl e1 => bndHi_e h3 ru fun _ pu e2 => zlo H hs g1 g2 g3 pl pu (g2.len ▸ zag _ ▸ e1 ▸ e2 ▸ hr ▸ hQ))
end
end
end Mine
end
noncomputable section
open PySem PySem.W PyProof.Rows
namespace Mine
section

theorem zox : ∀ d : Fin 16, hexD d.1 = (Nat.digitChar d.1).toNat := by decide
theorem zvk {a b : Nat} (h : a ≠ b) : Nat.beq a b = false := by cases q : Nat.beq a b with | true => exact absurd (zam q) h | false => rfl
theorem zl9 (k : Nat) (ds : List Nat) : zfu k 0 ds = ds := by cases k <;> rfl
theorem zim (k n : Nat) (ds : List Nat) (h : n ≠ 0) : zfu (k + 1) n ds = zfu k (n / 16) (hexD (n % 16) :: ds) := by
 show (match Nat.beq n 0 with | true => ds | false => zfu k (n / 16) (hexD (n % 16) :: ds)) = _
 rw [zvk h]
theorem zs2 (k : Nat) : ∀ (fuel n : Nat) (ds : List Char), n < 16 ^ k -> 0 < n -> n < fuel -> (Nat.toDigitsCore 16 fuel n ds).map Char.toNat = zfu k n (ds.map Char.toNat) := by
 induction k with
 | zero => exact fun _ n _ h h0 _ => absurd h0 (Nat.not_lt.mpr (Nat.le_of_lt_succ h))
 | succ k ih =>
  intro fuel n ds h h0 hf
  cases fuel with
  | zero => exact absurd hf (Nat.not_lt_zero n)
  | succ fuel =>
   have hd := zox ⟨n % 16, Nat.mod_lt _ (by decide)⟩
   rw [Nat.toDigitsCore, zim k n _ (Nat.ne_of_gt h0), show hexD (n % 16) = _ from hd]
   have hk : n / 16 < 16 ^ k := Nat.div_lt_of_lt_mul (by rw [Nat.pow_succ, Nat.mul_comm] at h; exact h)
   by_cases z : n / 16 = 0
   · rw [if_pos z, z, zl9]; rfl
   · rw [if_neg z]
     exact ih fuel (n / 16) (Nat.digitChar (n % 16) :: ds) hk (Nat.pos_of_ne_zero z) (Nat.lt_of_lt_of_le (Nat.div_lt_self h0 (by decide)) (Nat.le_of_lt_succ hf))
theorem zjk (l : List Char) : Str.ofString (String.ofList l) = St (l.map Char.toNat) := by
 rw [Str.ofString_eq_toList]; simp
theorem zk9 {n : Nat} (h : n ≠ 0) : hexL n = 48 :: 120 :: zfu 64 n [] := by
 show (match Nat.beq n 0 with | true => [48, 120, 48] | false => 48 :: 120 :: zfu 64 n []) = _
 rw [zvk h]
theorem zjy {n : Nat} (h : n < 340282366920938463463374607431768211456) : hexL n = [48, 120] ++ (Nat.toDigits 16 n).map Char.toNat := by
 by_cases z : n = 0
 · subst z; rfl
 · rw [zk9 z]
   unfold Nat.toDigits
   rw [zs2 64 (n + 1) n [] (Nat.lt_trans h (by decide)) (Nat.pos_of_ne_zero z) (Nat.lt_succ_self n)]
   rfl
theorem zuy {n : Nat} (h : n < 340282366920938463463374607431768211456) : baseText "0x" 16 (Int.ofNat n) = St (hexL n) := by
 unfold baseText
 rw [if_neg (show ¬ Int.ofNat n < 0 from Int.not_lt.mpr (Int.natCast_nonneg n)), zjk (Nat.toDigits _ _), show Str.ofString "" = St [] from rfl, show Str.ofString "0x" = St [48, 120] from rfl, zcr, zcr, zjy h]
 rfl
theorem zs1 (k : Nat) : ∀ (n : Nat) (acc : List Nat), (∀ c ∈ acc, c < 128) -> (zfu k n acc).length ≤ acc.length + k /\ ∀ c ∈ zfu k n acc, c < 128 := by
 induction k with
 | zero => exact fun _ _ h => ⟨Nat.le_refl _, h⟩
 | succ k ih =>
  intro n acc h
  by_cases z : n = 0
  · subst z; exact ⟨Nat.le_add_right _ _, h⟩
  · rw [zim k n acc z]
    have hd := zox ⟨n % 16, Nat.mod_lt _ (by decide)⟩
    have hd : hexD (n % 16) < 128 := (by decide : ∀ d : Fin 16, hexD d.1 < 128) ⟨n % 16, Nat.mod_lt _ (by decide)⟩
    obtain ⟨h1, h2⟩ := ih (n / 16) (hexD (n % 16) :: acc) fun c hc => (List.mem_cons.mp hc).elim (fun q => q ▸ hd) (h c)
    exact ⟨Nat.le_trans h1 (by rw [List.length_cons]; omega), h2⟩
theorem zow (n : Nat) : sOk (hexL n) := by
 by_cases z : n = 0
 · subst z; exact ⟨rfl, by decide⟩
 · rw [zk9 z]
   obtain ⟨h1, h2⟩ := zs1 64 n [] nofun
   refine ⟨zdm fun c hc => ?_, Nat.le_trans (Nat.succ_le_succ (Nat.succ_le_succ h1)) (by decide)⟩
   rcases List.mem_cons.mp hc with rfl | hc
   · decide
   · rcases List.mem_cons.mp hc with rfl | hc
     · decide
     · exact h2 c hc

noncomputable abbrev psV (ps : List (Int × Tok)) : List Value := ps.map fun p => Value.int p.1 p.2
theorem ints_of {ρ : Rho} {h : Heap} {xs : List V} : ∀ {vs : List Value} {l : List Int}, zd9 xs = some l -> VRs ρ h xs vs -> ∃ ps : List (Int × Tok), vs = psV ps /\ ps.map (·.1) = l := by
 induction xs with
 | nil => exact fun e R => vrs_n R ⟨[], rfl, prf e⟩
 | cons x r ih =>
  intro vs l e R
  obtain ⟨i, h1, e⟩ := bd_t e
  obtain ⟨l', h2, e⟩ := bd_t e
  rw [vI_t h1] at R
  refine vrs_e R fun v t hx hr => ?_
  obtain ⟨ps, rfl, h3⟩ := ih h2 hr
  obtain ⟨u, rfl⟩ := hx
  exact ⟨(i, u) :: ps, rfl, (congrArg (i :: ·) h3).trans (prf e)⟩
theorem zeu (ps : List (Int × Tok)) : (psV ps).toArray = intItems ps.toArray := by simp [intItems]
theorem znm (f : Nat -> Int) (n : Nat) : preSum f n = ((List.range n).map f).sum := by
 induction n with
 | zero => rfl
 | succ n ih => rw [preSum, ih, List.range_succ]; simp
theorem zwh (l : List Int) : ∀ a : Int, sumI l a = a + l.sum := by
 induction l with
 | nil => intro a; exact (Int.add_zero a).symm
 | cons x r ih => intro a; rw [List.sum_cons, ← Int.add_assoc]; exact ih _
theorem sum_ps (ps : List (Int × Tok)) : preSum (numAt ps.toArray) ps.toArray.size = sumI (ps.map (·.1)) 0 := by
 rw [znm, zwh, Int.zero_add]
 congr 1
 apply List.ext_getElem
 · simp
 · intro i h1 h2
   simp [numAt]
   have : i < ps.length := by simpa using h2
   simp [List.getElem?_eq_getElem this]
noncomputable def zew (c : Int -> Int -> Bool) : Int -> List Int -> Int
 | m, [] => m
 | m, x :: r => zew c (cs (c x m) x m) r
theorem zp0 (c : Int -> Int -> Bool) (x : Int) (l : List Int) : ∀ m, zew c m (l ++ [x]) = cs (c x (zew c m l)) x (zew c m l) := by
 induction l with
 | nil => exact fun _ => rfl
 | cons a r ih => exact fun m => ih _
theorem maxI_eq (l : List Int) : ∀ m, maxI m l = zew (fun x m => decide (x > m)) m l := by
 induction l with
 | nil => exact fun _ => rfl
 | cons x r ih => exact fun m => (ih _).trans (by show zew _ (cs (Z.ltB m x) x m) r = _; rw [ltZ]; rfl)
theorem minI_eq (l : List Int) : ∀ m, minI m l = zew (fun x m => decide (x < m)) m l := by
 induction l with
 | nil => exact fun _ => rfl
 | cons x r ih => exact fun m => (ih _).trans (by show zew _ (cs (Z.ltB x m) x m) r = _; rw [ltZ]; rfl)
theorem num_suc (ps : List (Int × Tok)) (m : Int × Tok) {k : Nat} (h : k < ps.length) : numAt (m :: ps).toArray (k + 1) = ps[k].1 := by simp [numAt, List.getElem?_eq_getElem h]
theorem argB (c : Int -> Int -> Bool) (ps : List (Int × Tok)) (m : Int × Tok) (k : Nat) : k ≤ ps.length -> numAt (m :: ps).toArray (argBest (fun i j => c (numAt (m :: ps).toArray i) (numAt (m :: ps).toArray j)) k) = zew c m.1 ((ps.take k).map (·.1)) := by
 induction k with
 | zero => intro _; simp [argBest, zew, numAt]
 | succ k ih =>
  intro h
  have ih := ih (Nat.le_of_succ_le h)
  rw [List.take_succ_eq_append_getElem h, List.map_append, List.map_singleton, zp0, ← ih, ← num_suc ps m h, argBest]
  cases c (numAt (m :: ps).toArray (k + 1)) (numAt (m :: ps).toArray (argBest (fun i j => c (numAt (m :: ps).toArray i) (numAt (m :: ps).toArray j)) k)) <;> rfl
theorem best_at (c : Int -> Int -> Bool) {ps : List (Int × Tok)} {m : Int × Tok} {v : Value} (h : (intItems (m :: ps).toArray)[argBest (fun i j => c (numAt (m :: ps).toArray i) (numAt (m :: ps).toArray j)) ((m :: ps).toArray.size - 1)]? = some v) : ∃ t, v = .int (zew c m.1 (ps.map (·.1))) t := by
 have e := argB c ps m ps.length (Nat.le_refl _)
 rw [List.take_length] at e
 rw [← e]
 exact intItems_at h
theorem zcb {a : Int} (h : small a = true) : -(2 ^ 62) ≤ a /\ a < 2 ^ 62 := by
 have h1 := zfa h
 omega
theorem zi9 {a b c : Int} (ha : small a = true) (hb : small b = true) (hc : c = 1 ∨ c = -1) : Builtin.Range.small a b c = true := by
 rcases hc with rfl | rfl
 · exact small_one (zcb ha).1 (zcb ha).2 (zcb hb).1 (zcb hb).2
 · exact PySem.W.small_down (zcb ha).1 (zcb ha).2 (zcb hb).1 (zcb hb).2

section
variable {Ω : Bx} {ρ : Rho} {hp : Hp} {s₀ s : Shared} {A : Around} {E : Value -> Shared -> Prop} {Q : Value -> Shared -> Prop} {as : List RV} {r : RV} {vs : List Value}

@[elab_as_elim] theorem as1_e {q : RV} (e : a1 as = some q) (R : RVRs Ω ρ s₀ s as vs) {P : List Value -> Prop} (k : ∀ v, RVR Ω ρ s₀ s q v -> P [v]) : P vs := by
 rw [a1_t e] at R
 obtain ⟨v, t, rfl, h1, h2⟩ := R
 cases (show t = [] from h2)
 exact k v h1
@[elab_as_elim] theorem as2_e {q : RV × RV} (e : a2 as = some q) (R : RVRs Ω ρ s₀ s as vs) {P : List Value -> Prop} (k : ∀ v u, RVR Ω ρ s₀ s q.1 v -> RVR Ω ρ s₀ s q.2 u -> P [v, u]) : P vs := by
 rw [a2_t e] at R
 obtain ⟨v, t, rfl, h1, h2⟩ := R
 exact as1_e (P := fun t => P (v :: t)) rfl h2 fun u h2 => k v u h1 h2
@[elab_as_elim] theorem as3_e {q : RV × RV × RV} (e : a3 as = some q) (R : RVRs Ω ρ s₀ s as vs) {P : List Value -> Prop} (k : ∀ v u y, RVR Ω ρ s₀ s q.1 v -> RVR Ω ρ s₀ s q.2.1 u -> RVR Ω ρ s₀ s q.2.2 y -> P [v, u, y]) : P vs := by
 rw [a3_t e] at R
 obtain ⟨v, t, rfl, h1, h2⟩ := R
 exact as2_e (q := q.2) (P := fun t => P (v :: t)) rfl h2 fun u y h2 h3 => k v u y h1 h2 h3
theorem zok {n m : Nat} {k : Nat} {t : Tok} (hQ : Kq Ω ρ s₀ s (.v (.int (.ofNat n))) Q) (e : m = n) : Q (.int (m : Int) t) { s with toks := k } := zuu hQ t k (congrArg (fun n : Nat => Value.int (n : Int) t) e)
theorem lenR_e {n : Nat} (e : lenR r hp = some n) {G : Prop} (k1 : ∀ x, rS r = some x -> len x = n -> G) (k2 : ∀ xs, rV r = some (.tup xs) -> len xs = n -> G) (k3 : ∀ xs, cont r hp = some xs -> len xs = n -> G) : G := by
 rcases zcs e with e | e
 · obtain ⟨x, h, e⟩ := bd_t e; exact k1 x h (prf e)
 · rcases zcs e with e | e
   · obtain ⟨x, h, e⟩ := bd_t e
     obtain ⟨y, h1, h⟩ := bd_t h
     exact k2 x (vT_t h ▸ h1) (prf e)
   · obtain ⟨x, h, e⟩ := bd_t e; exact k3 x h (prf e)
theorem len_ok (H : HS Ω ρ hp s) {n : Nat} {v : Value} (e : lenR r hp = some n) (R : RVR Ω ρ s₀ s r v) (hQ : Kq Ω ρ s₀ s (.v (.int (.ofNat n))) Q) : wpAny Ω.M A (call (.builtin "len") [v]) Q E s :=
 lenR_e e (fun x h hn => rvS_e h R fun t hx => P.len_str (by rw [zak]; have := hx.2; omega) (zok hQ ((zak x).trans ((zag x).symm.trans hn))))
  (fun xs h hn => rvT_e h R fun a vs k g1 g2 g3 => len_tuple (items := vs.toArray) ⟨_, g1, rfl, _, rfl⟩ (by simp only [List.size_toArray]; omega) (zok hQ (g2.len.trans ((zag xs).symm.trans hn))))
  (fun xs h hn => cont_e H h R fun a vs k g1 g2 g3 => PySem.Calls.call_len_list (items := vs.toArray) ⟨_, g1, rfl, _, rfl⟩ (by simp only [List.size_toArray]; omega) (zok hQ (g2.len.trans ((zag xs).symm.trans hn))))
theorem bLen_ok (H : HS Ω ρ hp s) (e : bLen as hp = some r) (R : RVRs Ω ρ s₀ s as vs) (hQ : Kq Ω ρ s₀ s r Q) : wpAny Ω.M A (call (.builtin "len") vs) Q E s := by
 obtain ⟨q, h1, e⟩ := bd_t e
 obtain ⟨n, h2, e⟩ := bd_t e
 exact as1_e h1 R fun v hv => len_ok H h2 hv (prf e ▸ hQ)
theorem zoj {a b c : Int} {t u w : Tok} {k : Nat} (hs : Builtin.Range.small a b c = true) (hQ : Kq Ω ρ s₀ s (.v (.rng a b c)) Q) : Q (.ref s.heap.objs.size) { s with heap := s.heap.push { cls := .type "range", data := .fields #[.int a t, .int b u, .int c w] }, toks := k } :=
 hQ _ _ k (fun _ _ e => Heap.get?_push_of_some _ e) ⟨_, t, u, w, rfl, Heap.get?_push_size _ rfl, hs⟩
theorem zlw {a b c : Int} (e : ran a b c = some r) (hc : c = 1 ∨ c = -1) : Builtin.Range.small a b c = true /\ RV.v (.rng a b c) = r := ⟨zi9 (zae e).1 (zae (zae e).2).1 hc, prf (zae (zae e).2).2⟩
theorem one_t {c : Int} (h : (Z.eqB c 1 || Z.eqB c (-1)) = true) : c = 1 ∨ c = -1 := ((Bool.or_eq_true _ _).mp h).imp (Z.eqB_iff c 1).mp (Z.eqB_iff c (-1)).mp
theorem ztw (e : zgl as = some r) {G : Prop} (k1 : ∀ q n, a1 as = some q -> rI q = some n -> ran 0 n 1 = some r -> G) (k2 : ∀ q a b, a2 as = some q -> rI q.1 = some a -> rI q.2 = some b -> ran a b 1 = some r -> G)
 (k3 : ∀ q a b c, a3 as = some q -> rI q.1 = some a -> rI q.2.1 = some b -> rI q.2.2 = some c -> (c = 1 ∨ c = -1) -> ran a b c = some r -> G) : G := by
 rcases zcs e with e | e
 · obtain ⟨q, h, e⟩ := bd_t e
   obtain ⟨n, h1, e⟩ := bd_t e
   exact k1 q n h h1 e
 · rcases zcs e with e | e
   · obtain ⟨q, h, e⟩ := bd_t e
     obtain ⟨n, h1, e⟩ := bd_t e
     obtain ⟨m, h2, e⟩ := bd_t e
     exact k2 q n m h h1 h2 e
   · obtain ⟨q, h, e⟩ := bd_t e
     obtain ⟨n, h1, e⟩ := bd_t e
     obtain ⟨m, h2, e⟩ := bd_t e
     obtain ⟨k, h3, e⟩ := bd_t e
     exact k3 q n m k h h1 h2 h3 (one_t (zae e).1) (zae e).2
theorem zp2 (e : zgl as = some r) (R : RVRs Ω ρ s₀ s as vs) (hQ : Kq Ω ρ s₀ s r Q) : wpAny Ω.M A (call (.type "range") vs) Q E s :=
 ztw e (fun q n h h1 e => as1_e h R fun v hv => rvI_e h1 hv fun t => call_range_1 (zoj (zlw e (.inl rfl)).1 ((zlw e (.inl rfl)).2 ▸ hQ)))
  (fun q a b h h1 h2 e => as2_e h R fun v u hv hu => rvI_e h1 hv fun t => rvI_e h2 hu fun t' => call_range_2 (zoj (zlw e (.inl rfl)).1 ((zlw e (.inl rfl)).2 ▸ hQ)))
  (fun q a b c h h1 h2 h3 hc e => as3_e h R fun v u y hv hu hy => rvI_e h1 hv fun t => rvI_e h2 hu fun t' => rvI_e h3 hy fun t'' =>
   call_range_3 (by rcases hc with rfl | rfl <;> decide) (zoj (zlw e hc).1 ((zlw e hc).2 ▸ hQ)) (.inl (zfb (by rcases hc with rfl | rfl <;> rfl))))
theorem zju (H : HS Ω ρ hp s) {q : RV} {v : Value} {l : List Int} (e : zik q hp = some l) (R : RVR Ω ρ s₀ s q v) {P : Value -> Prop} (k : ∀ a (ps : List (Int × Tok)), ps.map (·.1) = l -> s.heap.IsList a (intItems ps.toArray) -> P (.ref a)) : P v := by
 obtain ⟨xs, h1, e⟩ := bd_t e
 exact cont_e (P := P) H h1 R fun a vs n g1 g2 g3 => by
  obtain ⟨ps, rfl, hps⟩ := ints_of e g2
  exact k a ps hps ⟨_, g1, rfl, n, by rw [← zeu]⟩
theorem kq_b {c : Int -> Int -> Bool} {ps : List (Int × Tok)} {m : Int × Tok} {v : Value} (h : (intItems (m :: ps).toArray)[argBest (fun i j => c (numAt (m :: ps).toArray i) (numAt (m :: ps).toArray j)) ((m :: ps).toArray.size - 1)]? = some v) {h' : Heap} {tk : Nat} (hk : ∀ b o, s.heap.get? b = some o -> h'.get? b = some o)
 (hQ : Kq Ω ρ s₀ s (.v (.int (zew c m.1 (ps.map (·.1))))) Q) : Q v { s with heap := h', toks := tk } := hQ v h' tk hk (best_at c h)
theorem max_ok (H : HS Ω ρ hp s) (hh : A.handled = none) {q : RV} {v : Value} {l : List Int} {p : Int × List Int} (e : zik q hp = some l) (e2 : unc l = some p) (R : RVR Ω ρ s₀ s q v) (hQ : Kq Ω ρ s₀ s (.v (.int (maxI p.1 p.2))) Q) : wpAny Ω.M A (call (.builtin "max") [v]) Q E s :=
 zju H e R (P := fun v => wpAny Ω.M A (call (.builtin "max") [v]) Q E s) fun a ps hps g => by
  rw [zgr e2] at hps
  cases ps with
  | nil => cases hps
  | cons m ps =>
   have h1 : m.1 = p.1 := (List.cons.inj hps).1
   have h2 : ps.map (·.1) = p.2 := (List.cons.inj hps).2
   rw [maxI_eq, ← h1, ← h2] at hQ
   exact max_intList (xs := (m :: ps).toArray) hh g (Nat.succ_pos _) fun v h' tk hv hk => kq_b (c := fun x m => decide (x > m)) hv hk hQ
theorem min_ok (H : HS Ω ρ hp s) (hh : A.handled = none) {q : RV} {v : Value} {l : List Int} {p : Int × List Int} (e : zik q hp = some l) (e2 : unc l = some p) (R : RVR Ω ρ s₀ s q v) (hQ : Kq Ω ρ s₀ s (.v (.int (minI p.1 p.2))) Q) : wpAny Ω.M A (call (.builtin "min") [v]) Q E s :=
 zju H e R (P := fun v => wpAny Ω.M A (call (.builtin "min") [v]) Q E s) fun a ps hps g => by
  rw [zgr e2] at hps
  cases ps with
  | nil => cases hps
  | cons m ps =>
   have h1 : m.1 = p.1 := (List.cons.inj hps).1
   have h2 : ps.map (·.1) = p.2 := (List.cons.inj hps).2
   rw [minI_eq, ← h1, ← h2] at hQ
   exact min_intList (xs := (m :: ps).toArray) hh g (Nat.succ_pos _) fun v h' tk hv hk => kq_b (c := fun x m => decide (x < m)) hv hk hQ
theorem max2_ok (hh : A.handled = none) {a b : Int} {t u : Tok} (hQ : Kq Ω ρ s₀ s (.v (.int (cs (Z.ltB a b) b a))) Q) : wpAny Ω.M A (call (.builtin "max") [.int a t, .int b u]) Q E s := by
 refine max_two_ints hh fun h' tk hk => hQ _ h' tk hk ?_
 rw [ltZ]
 by_cases z : a < b
 · rw [if_pos z, decide_eq_true z]; exact ⟨_, rfl⟩
 · rw [if_neg z, decide_eq_false z]; exact ⟨_, rfl⟩
theorem bMax_ok (H : HS Ω ρ hp s) (hh : A.handled = none) (e : bMax as hp = some r) (R : RVRs Ω ρ s₀ s as vs) (hQ : Kq Ω ρ s₀ s r Q) : wpAny Ω.M A (call (.builtin "max") vs) Q E s := by
 rcases zcs e with e | e
 · obtain ⟨q, h, e⟩ := bd_t e
   obtain ⟨a, h1, e⟩ := bd_t e
   obtain ⟨b, h2, e⟩ := bd_t e
   exact as2_e h R fun v u hv hu => rvI_e h1 hv fun t => rvI_e h2 hu fun t' => max2_ok hh (prf e ▸ hQ)
 · obtain ⟨q, h, e⟩ := bd_t e
   obtain ⟨l, h1, e⟩ := bd_t e
   obtain ⟨p, h2, e⟩ := bd_t e
   exact as1_e h R fun v hv => max_ok H hh h1 h2 hv (prf e ▸ hQ)
theorem bMin_ok (H : HS Ω ρ hp s) (hh : A.handled = none) (e : bMin as hp = some r) (R : RVRs Ω ρ s₀ s as vs) (hQ : Kq Ω ρ s₀ s r Q) : wpAny Ω.M A (call (.builtin "min") vs) Q E s := by
 obtain ⟨q, h, e⟩ := bd_t e
 obtain ⟨l, h1, e⟩ := bd_t e
 obtain ⟨p, h2, e⟩ := bd_t e
 exact as1_e h R fun v hv => min_ok H hh h1 h2 hv (prf e ▸ hQ)
theorem bSum_ok (H : HS Ω ρ hp s) (hh : A.handled = none) (e : bSum as hp = some r) (R : RVRs Ω ρ s₀ s as vs) (hQ : Kq Ω ρ s₀ s r Q) : wpAny Ω.M A (call (.builtin "sum") vs) Q E s := by
 obtain ⟨q, h, e⟩ := bd_t e
 obtain ⟨l, h1, e⟩ := bd_t e
 refine as1_e h R fun v hv => zju H h1 hv (P := fun v => wpAny Ω.M A (call (.builtin "sum") [v]) Q E s) fun a ps hps g => sum_intListG hh g fun h' tk t' hk => ?_
 rw [sum_ps, hps]
 exact (show Kq Ω ρ s₀ s (.v (.int (sumI l 0))) Q from prf e ▸ hQ) _ h' tk hk ⟨_, rfl⟩
theorem hex_ok {n : Nat} {t : Tok} (q : n < 340282366920938463463374607431768211456) (hQ : Kq Ω ρ s₀ s (.v (.str (hexL n))) Q) : wpAny Ω.M A (call (.builtin "hex") [.int (.ofNat n) t]) Q E s :=
 P.hex_of_int (i := .ofNat n) (by rw [zuy q]; exact zd8 (zow n) hQ _ _) (by rw [zuy q, zak]; exact Nat.le_trans (zow n).2 (by decide))
theorem bHex_ok (e : bHex as = some r) (R : RVRs Ω ρ s₀ s as vs) (hQ : Kq Ω ρ s₀ s r Q) : wpAny Ω.M A (call (.builtin "hex") vs) Q E s := by
 obtain ⟨q, h, e⟩ := bd_t e
 obtain ⟨i, h1, e⟩ := bd_t e
 obtain ⟨n, h2, e⟩ := bd_t e
 rw [iN_t h2] at h1
 exact as1_e h R fun v hv => rvI_e h1 hv fun t => hex_ok (Nat.le_of_ble_eq_true (zae e).1) (prf (zae e).2 ▸ hQ)
theorem div_ok {a b : Int} {t u : Tok} (h1 : bnot (Z.eqB b 0) = true) (h2 : small b = true) (hQ : Kq Ω ρ s₀ s (.v (.tup [.int (Int.fdiv a b), .int (Int.fmod a b)])) Q) : wpAny Ω.M A (call (.builtin "divmod") [.int a t, .int b u]) Q E s :=
 divmod_int (zpc h1) (hQ _ _ _ (fun _ _ e => Heap.get?_push_of_some _ e) ⟨_, [.int (a.fdiv b) s.toks, .int (a.fmod b) (s.toks + 1)], 0, rfl, Heap.get?_push_size _ rfl, VRs.cons ⟨_, rfl⟩ (VRs.cons ⟨_, rfl⟩ VRs.nil), (by decide : 2 ≤ 65536)⟩) (.inl (zfb h2))
theorem bDiv_ok (e : bDiv as = some r) (R : RVRs Ω ρ s₀ s as vs) (hQ : Kq Ω ρ s₀ s r Q) : wpAny Ω.M A (call (.builtin "divmod") vs) Q E s := by
 obtain ⟨q, h, e⟩ := bd_t e
 obtain ⟨a, h1, e⟩ := bd_t e
 obtain ⟨b, h2, e⟩ := bd_t e
 exact as2_e h R fun v u hv hu => rvI_e h1 hv fun t => rvI_e h2 hu fun t' => div_ok (zae e).1 (zae (zae e).2).1 (prf (zae (zae e).2).2 ▸ hQ)
theorem abs_eq (i : Int) : (if i < 0 then -i else i) = .ofNat i.natAbs := by
 cases i with
 | ofNat n => exact if_neg (Int.not_lt.mpr (Int.natCast_nonneg n))
 | negSucc n => exact if_pos (Int.negSucc_lt_zero n)
theorem bAbs_ok (e : bAbs as = some r) (R : RVRs Ω ρ s₀ s as vs) (hQ : Kq Ω ρ s₀ s r Q) : wpAny Ω.M A (call (.builtin "abs") vs) Q E s := by
 obtain ⟨q, h, e⟩ := bd_t e
 obtain ⟨i, h1, e⟩ := bd_t e
 exact as1_e h R fun v hv => rvI_e h1 hv fun t => call_abs_int fun u tk => kq_i (prf e ▸ hQ) (abs_eq i)
theorem tup_ok {a : Addr} {xs : List V} {vs : List Value} {n : Nat} (g1 : s.heap.get? a = some (lstO vs n)) (g2 : VRs ρ s.heap xs vs) (h : fits (len xs) = true) (hQ : Kq Ω ρ s₀ s (.v (.tup xs)) Q) : wpAny Ω.M A (call (.type "tuple") [.ref a]) Q E s := by
 have h : vs.length ≤ 65536 := g2.len ▸ zag xs ▸ zbm h
 exact call_tuple_list (items := vs.toArray) ⟨_, g1, rfl, n, rfl⟩ (fun h' hk => hQ _ _ s.toks (fun b o e => Heap.get?_push_of_some _ (hk b o e)) ⟨_, vs, 0, rfl, Heap.get?_push_size _ rfl, VRs.mono (Ext.refl ρ) (fun b o e _ => Heap.get?_push_of_some _ (hk b o e)) _ _ g2, h⟩)
  (by rw [sizeLine_eq, List.size_toArray]; omega)
theorem bTup_ok (H : HS Ω ρ hp s) (e : bTup as hp = some r) (R : RVRs Ω ρ s₀ s as vs) (hQ : Kq Ω ρ s₀ s r Q) : wpAny Ω.M A (call (.type "tuple") vs) Q E s := by
 obtain ⟨q, h, e⟩ := bd_t e
 obtain ⟨xs, h1, e⟩ := bd_t e
 exact as1_e h R fun v hv => cont_e H h1 hv fun a vs n g1 g2 g3 => tup_ok g1 g2 (zae e).1 (prf (zae e).2 ▸ hQ)
theorem ztv (H : HS Ω ρ hp s) (e : zp1 as hp = some r) (R : RVRs Ω ρ s₀ s as vs) (hQ : Kq Ω ρ s₀ s r Q) : wpAny Ω.M A (call (.type "type") vs) Q E s := by
 obtain ⟨q, h, e⟩ := bd_t e
 rcases zcs e with e | e
 · obtain ⟨x, h1, e⟩ := bd_t e
   exact as1_e h R fun v hv => rvS_e h1 hv fun t _ => call_type_of (typeIs_str _ _ _) (by decide) (Kq.here (r := .v (.bi .str)) (prf e ▸ hQ) rfl)
 · obtain ⟨x, h1, e⟩ := bd_t e
   exact as1_e h R fun v hv => cont_e H h1 hv fun a vs n g1 g2 g3 => call_type_of (tyL g1) (by decide) (Kq.here (r := .v (.bi .list)) (prf e ▸ hQ) rfl)
theorem bic_ok (H : HS Ω ρ hp s) (hh : A.handled = none) {b : Bi} (e : bic b as hp = some r) (R : RVRs Ω ρ s₀ s as vs) (hQ : Kq Ω ρ s₀ s r Q) : wpAny Ω.M A (call b.val vs) Q E s := by
 cases b with
 | len => exact bLen_ok H e R hQ
 | range => exact zp2 e R hQ
 | max => exact bMax_ok H hh e R hQ
 | min => exact bMin_ok H hh e R hQ
 | sum => exact bSum_ok H hh e R hQ
 | hex => exact bHex_ok e R hQ
 | divmod => exact bDiv_ok e R hQ
 | abs => exact bAbs_ok e R hQ
 | tuple => exact bTup_ok H e R hQ
 | type => exact ztv H e R hQ
 | _ => exact nn e
end
end
end Mine
end
noncomputable section
open PySem PySem.W PyProof.Rows
namespace Mine
section

structure Ch (ads : List Addr) (gi : List Nat) (s s' : Shared) : Prop where
 keep : ∀ b o, s.heap.get? b = some o -> b ∉ ads -> s'.heap.get? b = some o
 imm : ImmK s.heap s'.heap
 gens : ∀ (g : Nat) (st : GenState), g ∉ gi -> s.gens[g]? = some st -> s'.gens[g]? = some st
 bare : AllBare s'.gens
 os : s'.os = s.os
noncomputable def owns (n : String) : Bool := ["enumerate", "zip", "dict_itemiterator", "dict_reverseitemiterator", "odict_iterator", "itertools.zip_longest", "itertools.pairwise"].contains n
structure Al (it : Addr) (ads : List Addr) (s : Shared) : Prop where
 al : ∀ a ∈ ads, ∃ o, s.heap.get? a = some o /\ ¬ Imm o
 own : ∃ o n, s.heap.get? it = some o /\ o.cls = .type n /\ owns n = false
 mem : it ∈ ads
structure Kp (Ω : Bx) (ads : List Addr) (gi : List Nat) (ρ : Rho) (s : Shared) (ρ' : Rho) (s' : Shared) : Prop where
 ext : Ext ρ ρ'
 imm : ImmK s.heap s'.heap
 keep : ∀ a ∈ ads, ∀ o, s.heap.get? a = some o -> s'.heap.get? a = some o
 gens : ∀ g ∈ gi, ∀ (st : GenState), s.gens[g]? = some st -> s'.gens[g]? = some st
 bare : AllBare s'.gens
 base : ∀ b o, Ω.h₀.get? b = some o -> s'.heap.get? b = some o

section
variable {Ω : Bx} {A : Around} {it : Addr} {ads : List Addr} {gi : List Nat} {ρ ρ' ρ₁ ρ₂ : Rho} {s s' s₁ s₂ : Shared}
theorem Kp.trans (x : Kp Ω ads gi ρ s ρ₁ s₁) (y : Kp Ω ads gi ρ₁ s₁ ρ₂ s₂) : Kp Ω ads gi ρ s ρ₂ s₂ :=
 ⟨x.ext.trans y.ext, fun b o e i => y.imm b o (x.imm b o e i) i, fun a h o e => y.keep a h o (x.keep a h o e), fun g h st e => y.gens g h st (x.gens g h st e), y.bare, y.base⟩
noncomputable def Dry (Ω : Bx) (A : Around) (it : Addr) (ads : List Addr) (gi : List Nat) (s : Shared) : Prop := ∀ (Q : Option Value -> Shared -> Prop) (E : Value -> Shared -> Prop), (∀ s'', Ch ads gi s s'' -> Q none s'') -> wpAny Ω.M A (pyNext (.ref it)) Q E s
noncomputable def ItrS (Ω : Bx) (A : Around) (it : Addr) (ads : List Addr) (gi : List Nat) : List V -> Rho -> Shared -> Prop
 | [], ρ, s => ∀ (ρ' : Rho) (s' : Shared), Kp Ω ads gi ρ s ρ' s' -> Dry Ω A it ads gi s'
 | x :: r, ρ, s => ∀ (ρ' : Rho) (s' : Shared), Kp Ω ads gi ρ s ρ' s' -> ∀ (Q : Option Value -> Shared -> Prop) (E : Value -> Shared -> Prop),
  (∀ v s'', Ch ads gi s' s'' -> Al it ads s'' -> VR ρ' s''.heap x v -> ItrS Ω A it ads gi r ρ' s'' -> Q (some v) s'') -> wpAny Ω.M A (pyNext (.ref it)) Q E s'
theorem ItrS.kp {xs : List V} (H : ItrS Ω A it ads gi xs ρ s) (k : Kp Ω ads gi ρ s ρ' s') : ItrS Ω A it ads gi xs ρ' s' := by
 cases xs with
 | nil => exact fun ρ₂ s₂ k₂ => H ρ₂ s₂ (k.trans k₂)
 | cons x r => exact fun ρ₂ s₂ k₂ => H ρ₂ s₂ (k.trans k₂)
noncomputable def ItrG (Ω : Bx) (A : Around) (it : Addr) (gi : List Nat) : List V -> List Addr -> Rho -> Shared -> Prop
 | [], ads, ρ, s => ∀ (ρ' : Rho) (s' : Shared), Kp Ω ads gi ρ s ρ' s' -> Dry Ω A it ads gi s'
 | x :: r, ads, ρ, s => ∀ (ρ' : Rho) (s' : Shared), Kp Ω ads gi ρ s ρ' s' -> ∀ (Q : Option Value -> Shared -> Prop) (E : Value -> Shared -> Prop),
  (∀ v s'' ads', (∀ a ∈ ads', a ∈ ads ∨ s'.heap.get? a = none) -> Ch ads gi s' s'' -> Al it ads' s'' -> VR ρ' s''.heap x v -> ItrG Ω A it gi r ads' ρ' s'' -> Q (some v) s'') -> wpAny Ω.M A (pyNext (.ref it)) Q E s'
theorem ItrG.kp {xs : List V} (H : ItrG Ω A it gi xs ads ρ s) (k : Kp Ω ads gi ρ s ρ' s') : ItrG Ω A it gi xs ads ρ' s' := by
 cases xs with
 | nil => exact fun ρ₂ s₂ k₂ => H ρ₂ s₂ (k.trans k₂)
 | cons x r => exact fun ρ₂ s₂ k₂ => H ρ₂ s₂ (k.trans k₂)

theorem zj5 {h' : Heap} {t : Nat} {o : Obj} (hm : it ∈ ads) (ho : s.heap.get? it = some o) (hi : ¬ Imm o) (hs : ∀ b o, b ≠ it -> s.heap.get? b = some o -> h'.get? b = some o)
 (hb : AllBare s.gens) : Ch ads gi s { s with heap := h', toks := t } :=
 ⟨fun b o e hn => hs b o (fun q => hn (q ▸ hm)) e, fun b o' e i => hs b o' (fun q => hi (prf (ho.symm.trans (q ▸ e)) ▸ i)) e, fun _ _ _ e => e, hb, rfl⟩
theorem zbs {o : Obj} {vs : Array Value} {T : String} (hc : o.cls = .type T) (hd : o.data = .fields vs) (h : T ≠ "range") : ¬ Imm o :=
 fun i => i.elim (fun i => i.2.elim fun xs i => i.elim fun n i => nomatch (hd.symm.trans i : Data.fields vs = .seq xs n)) fun i => h (Value.type.inj (hc.symm.trans i.1))
noncomputable def itn (n : String) : Bool := !owns n && n != "tuple" && n != "range"
noncomputable def Itb (h : Heap) (it : Addr) : Prop := ∃ o n, h.get? it = some o /\ o.cls = .type n /\ itn n = true
theorem Itb.ni {h : Heap} (x : Itb h it) : ∃ o, h.get? it = some o /\ ¬ Imm o := by
 obtain ⟨o, n, h1, h2, h3⟩ := x
 have h3 := (Bool.and_eq_true _ _).mp h3
 exact ⟨o, h1, ni_of (fun e => bne_iff_ne.mp ((Bool.and_eq_true _ _).mp h3.1).2 (Value.type.inj (h2.symm.trans e))) fun e => bne_iff_ne.mp h3.2 (Value.type.inj (h2.symm.trans e))⟩
theorem Itb.own {h : Heap} (x : Itb h it) : ∃ o n, h.get? it = some o /\ o.cls = .type n /\ owns n = false := by
 obtain ⟨o, n, h1, h2, h3⟩ := x
 exact ⟨o, n, h1, h2, (Bool.not_eq_true' _).mp ((Bool.and_eq_true _ _).mp ((Bool.and_eq_true _ _).mp h3).1).1⟩
theorem zga {h' : Heap} {t : Nat} (x : Itb s.heap it) (hm : it ∈ ads) (hs : Heap.ExtBut it s.heap h') (hb : AllBare s.gens) : Ch ads gi s { s with heap := h', toks := t } :=
 x.ni.elim fun _ h => zj5 hm h.1 h.2 (fun b o q e => hs b o q e) hb
theorem al_it (x : Itb s.heap it) (h : ∀ a ∈ ads, a ≠ it -> ∃ o, s.heap.get? a = some o /\ ¬ Imm o) (hm : it ∈ ads) : Al it ads s :=
 ⟨fun a ha => (Decidable.em (a = it)).elim (fun q => q ▸ x.ni) (h a ha), x.own, hm⟩
theorem al_1 (x : Itb s.heap it) : Al it [it] s := al_it x (fun a ha q => absurd (List.mem_singleton.mp ha) q) (.head _)
section
variable {h : Heap} {l : Addr} {i : Nat}
theorem li_b (x : h.IsListIter it l i) : Itb h it := x.elim fun o h => ⟨o, _, h.1, h.2.1, by decide +kernel⟩
theorem ti_b (x : h.IsTupleIter it l i) : Itb h it := x.elim fun o h => ⟨o, _, h.1, h.2.1, by decide +kernel⟩
theorem si_b {x : Str} {t : Tok} (y : h.IsStrIter it "str_ascii_iterator" x t i) : Itb h it := y.elim fun o h => ⟨o, _, h.1, h.2.1, by decide +kernel⟩
theorem ri_b {x l c : Int} (y : IsRangeIter h it x l c) : Itb h it := ⟨_, _, y, rfl, by decide +kernel⟩
theorem li_ni (x : h.IsListIter it l i) : ∃ o, h.get? it = some o /\ ¬ Imm o := (li_b x).ni
theorem zrd {x : Str} {t : Tok} (y : h.IsStrIter it "str_ascii_iterator" x t i) : ∃ o, h.get? it = some o /\ ¬ Imm o := (si_b y).ni
end

structure Stp (Ω : Bx) (A : Around) (it : Addr) (ads : List Addr) (I : List V -> Rho -> Shared -> Prop) : Prop where
 kp : ∀ {xs ρ s ρ' s'}, I xs ρ s -> Kp Ω ads [] ρ s ρ' s' -> I xs ρ' s'
 nil : ∀ {ρ s}, I [] ρ s -> AllBare s.gens -> Dry Ω A it ads [] s
 cons : ∀ {x r ρ s} {Q : Option Value -> Shared -> Prop} {E : Value -> Shared -> Prop}, I (x :: r) ρ s -> AllBare s.gens -> (∀ v s'', Ch ads [] s s'' -> Al it ads s'' -> VR ρ s''.heap x v -> I r ρ s'' -> Q (some v) s'') -> wpAny Ω.M A (pyNext (.ref it)) Q E s
theorem Stp.itr {I : List V -> Rho -> Shared -> Prop} (S : Stp Ω A it ads I) {xs : List V} : ∀ {ρ s}, I xs ρ s -> ItrS Ω A it ads [] xs ρ s := by
 induction xs with
 | nil => exact fun h ρ' s' k => S.nil (S.kp h k) k.bare
 | cons x r ih => exact fun h ρ' s' k Q E hQ => S.cons (S.kp h k) k.bare fun v s'' c a R i => hQ v s'' c a R (ih i)
theorem zbl {α : Type} {vs : List α} {i : Nat} {v : α} {r : List α} (h : vs.drop i = v :: r) : vs[i]? = some v /\ vs.drop (i + 1) = r := by
 have h1 : (vs.drop i)[0]? = some v := congrArg (·[0]?) h
 rw [List.getElem?_drop] at h1
 exact ⟨h1, (List.drop_drop (i := 1) (j := i) (l := vs)).symm.trans (congrArg (List.drop 1) h)⟩
theorem zg7 {α : Type} {vs : List α} {i : Nat} (h : vs.drop i = []) : vs.toArray[i]? = none := Array.getElem?_eq_none (List.drop_eq_nil_iff.mp h)
theorem zgt {α : Type} {vs : List α} {i : Nat} {v : α} {r : List α} (h : vs.drop i = v :: r) : vs.toArray[i]? = some v := (List.getElem?_toArray ..).trans (zbl h).1
theorem zoo {l : Addr} (k : Kp Ω ads [] ρ s ρ' s') (h : l ∈ ads) {p : Obj -> Prop} (x : ∃ o, s.heap.get? l = some o /\ p o) : ∃ o, s'.heap.get? l = some o /\ p o := x.elim fun o x => ⟨o, k.keep l h o x.1, x.2⟩
theorem zqy (hh : A.handled = none) {l : Addr} (hne : l ≠ it) {vs : List Value} {n : Nat} : Stp Ω A it [it, l] fun xs ρ s => ∃ i, s.heap.IsListIter it l i /\ s.heap.get? l = some (lstO vs n) /\ VRs ρ s.heap xs (vs.drop i) := by
 refine ⟨fun {_ _ _ _ s'} h k => ?_, fun {_ s} h hb Q E hQ => ?_, fun {_ _ _ s _ _} h hb hQ => ?_⟩
 · obtain ⟨i, h1, h2, h3⟩ := h
   exact ⟨i, zoo k (.head _) h1, k.keep l (.tail _ (.head _)) _ h2, VRs.mono k.ext k.imm _ _ h3⟩
 · obtain ⟨i, h1, h2, h3⟩ := h
   exact wpAny_pyNext_list_end (items := vs.toArray) hh h1 ⟨_, h2, rfl, _, rfl⟩ (zg7 h3) fun h' he => hQ _ (zga (li_b h1) (.head _) he hb)
 · obtain ⟨i, h1, h2, v, t, q, h3, h4⟩ := h
   refine wpAny_pyNext_list_item (items := vs.toArray) h1 ⟨_, h2, rfl, _, rfl⟩ (zgt q) fun h' hi2 hs => ?_
   have ch : Ch [it, l] [] s { s with heap := h' } := zga (li_b h1) (.head _) hs.extBut hb
   have h5 := (hs.2 l hne).trans h2
   exact hQ v _ ch (al_it (li_b hi2) (mem2 (fun q => absurd rfl q) fun _ => ⟨_, h5, zfm⟩) (.head _)) (VR.mono (Ext.refl _) ch.imm _ _ h3) ⟨i + 1, hi2, h5, (zbl q).2 ▸ VRs.mono (Ext.refl _) ch.imm _ _ h4⟩
theorem zmz (hh : A.handled = none) {l : Addr} (hne : l ≠ it) {vs : List Value} {n : Nat} : Stp Ω A it [it] fun xs ρ s => ∃ i, s.heap.IsTupleIter it l i /\ s.heap.get? l = some (tupO vs n) /\ VRs ρ s.heap xs (vs.drop i) := by
 refine ⟨fun {_ _ _ _ s'} h k => ?_, fun {_ s} h hb Q E hQ => ?_, fun {_ _ _ s _ _} h hb hQ => ?_⟩
 · obtain ⟨i, h1, h2, h3⟩ := h
   exact ⟨i, zoo k (.head _) h1, k.imm l _ h2 (.inl ⟨rfl, _, _, rfl⟩), VRs.mono k.ext k.imm _ _ h3⟩
 · obtain ⟨i, h1, h2, h3⟩ := h
   exact wpAny_pyNext_tuple_end (items := vs.toArray) hh h1 ⟨_, h2, rfl, _, rfl⟩ (zg7 h3) fun h' he => hQ _ (zga (ti_b h1) (.head _) he hb)
 · obtain ⟨i, h1, h2, v, t, q, h3, h4⟩ := h
   refine wpAny_pyNext_tuple_item (items := vs.toArray) h1 ⟨_, h2, rfl, _, rfl⟩ (zgt q) fun h' hi2 hs => ?_
   have ch : Ch [it] [] s { s with heap := h' } := zga (ti_b h1) (.head _) hs.extBut hb
   exact hQ v _ ch (al_1 (ti_b hi2)) (VR.mono (Ext.refl _) ch.imm _ _ h3) ⟨i + 1, hi2, (hs.2 l hne).trans h2, (zbl q).2 ▸ VRs.mono (Ext.refl _) ch.imm _ _ h4⟩
noncomputable def chV (c : Nat) : V := .str [c]
theorem zws (hh : A.handled = none) {x : List Nat} {t : Tok} (hx : sOk x) : Stp Ω A it [it] fun xs ρ s => ∃ i, s.heap.IsStrIter it "str_ascii_iterator" (St x) t i /\ xs = (x.drop i).map chV := by
 refine ⟨fun {_ _ _ _ s'} h k => ?_, fun {_ s} h hb Q E hQ => ?_, fun {_ _ _ s _ _} h hb hQ => ?_⟩
 · obtain ⟨i, h1, h2⟩ := h
   exact ⟨i, zoo k (.head _) h1, h2⟩
 · obtain ⟨i, h1, h2⟩ := h
   exact wpAny_pyNext_ascii_end hh h1 (zg7 (List.map_eq_nil_iff.mp h2.symm)) fun h' he => hQ _ (zga (si_b h1) (.head _) he hb)
 · obtain ⟨i, h1, h2⟩ := h
   cases q : x.drop i with
   | nil => rw [q] at h2; cases h2
   | cons c l =>
    rw [q] at h2
    have e := List.cons.inj h2
    rw [e.1] at hQ
    refine wpAny_pyNext_ascii_item h1 (c := c) (zgt q) fun h' hi2 hs => ?_
    exact hQ _ _ (zga (si_b h1) (.head _) hs.extBut hb) (al_1 (si_b hi2)) ⟨⟨_, rfl⟩, zdm (mem1 (zba hx.1 _ (List.mem_of_getElem? (zbl q).1))), (by decide : 1 ≤ 65536)⟩ ⟨i + 1, hi2, e.2.trans (congrArg (List.map chV) (zbl q).2.symm)⟩
theorem zrj (n : Nat) : (((n + 1 : Nat) : Int) - 1) = (n : Int) := show (n : Int) + 1 - 1 = n from Int.add_sub_cancel _ _
theorem zwt (hh : A.handled = none) {c : Int} {f : Nat -> Int -> List V} (f0 : ∀ a, f 0 a = []) (f1 : ∀ n a, f (n + 1) a = .int a :: f n (a + c)) : Stp Ω A it [it] fun xs ρ s => ∃ n a, IsRangeIter s.heap it a ((n : Nat) : Int) c /\ xs = f n a := by
 refine ⟨fun {_ _ _ _ s'} h k => ?_, fun {_ s} h hb Q E hQ => ?_, fun {_ _ _ s _ _} h hb hQ => ?_⟩
 · obtain ⟨n, a, h1, h2⟩ := h
   exact ⟨n, a, k.keep it (.head _) _ h1, h2⟩
 · obtain ⟨n, a, h1, h2⟩ := h
   cases n with
   | zero => exact wpAny_pyNext_range_end hh h1 (Int.le_refl _) fun h' he => hQ _ (zga (ri_b h1) (.head _) he hb)
   | succ n => rw [f1] at h2; cases h2
 · obtain ⟨n, a, h1, h2⟩ := h
   cases n with
   | zero => rw [f0] at h2; cases h2
   | succ n =>
    rw [f1] at h2
    have e := List.cons.inj h2
    rw [e.1] at hQ
    refine wpAny_pyNext_range_item h1 (Int.natCast_pos.mpr (Nat.succ_pos n)) fun h' hi2 hs => ?_
    rw [zrj] at hi2
    exact hQ _ _ (zga (ri_b h1) (.head _) hs.extBut hb) (al_1 (ri_b hi2)) ⟨_, rfl⟩ ⟨n, _, hi2, e.2⟩
end

section
variable {Ω : Bx} {ρ : Rho} {hp : Hp} {s₀ s : Shared} {A : Around} {E : Value -> Shared -> Prop} {Q : Value -> Shared -> Prop} {it : Addr} {ads : List Addr} {gi : List Nat} {src : Src}

noncomputable def zey (Ω : Bx) (A : Around) (it : Addr) (ads : List Addr) (gi : List Nat) (src : Src) (ρ : Rho) (s : Shared) : Prop := match src with
 | .items xs => ItrS Ω A it ads gi xs ρ s
 | .live n i => ∃ l, nth ρ n = some [l] /\ s.heap.IsListIter it l i /\ ads = [it] /\ gi = []
 | .gen xs => gi ≠ [] /\ ItrG Ω A it gi xs ads ρ s
structure AdOk (Ω : Bx) (it : Addr) (ads : List Addr) (gi : List Nat) (ρ : Rho) (s₀ s : Shared) : Prop where
 al : Al it ads s
 out : ∀ a ∈ ads, a ∉ ρ.flatten
 fresh : ∀ a ∈ ads, s₀.heap.get? a = none
 gen : ∀ g ∈ gi, s₀.gens.size ≤ g
noncomputable def ziz (Ω : Bx) (A : Around) (it : Addr) (ads : List Addr) (s : Shared) : Prop :=
 ∀ s' : Shared, (∀ a ∈ ads, ∀ o, s.heap.get? a = some o -> s'.heap.get? a = some o) -> ∀ (Q E : Value -> Shared -> Prop), Q (.ref it) s' -> wpAny Ω.M A (pyIter (.ref it)) Q E s'
noncomputable def Wk0 (Ω : Bx) (Rm : Around -> Prop) : Prop := ∀ {A : Around} {xs : List V} {a : Addr} {os : List (Addr × Obj)} {g : Nat} {st : GenState} {ρ : Rho} {s : Shared} {E : Value -> Shared -> Prop} {Q : Value -> Shared -> Prop},
 Rm A -> Ω.Wk xs a os g st -> (∀ p ∈ os, s.heap.get? p.1 = some p.2) -> s.gens[g]? = some st -> AllBare s.gens -> (∀ b o, Ω.h₀.get? b = some o -> s.heap.get? b = some o) ->
 ((∀ p ∈ os, ¬ Imm p.2) -> a ∈ os.map Prod.fst -> (∃ o n, s.heap.get? a = some o /\ o.cls = .type n /\ owns n = false) -> ziz Ω A a (os.map Prod.fst) s -> ItrG Ω A a [g] xs (os.map Prod.fst) ρ s -> Q (.ref a) s) -> wpAny Ω.M A (pyIter (.ref a)) Q E s

theorem zbi (s : Shared) : s.heap.get? s.heap.objs.size = none := zb7 s.heap
structure Made (Ω : Bx) (A : Around) (s₀ s : Shared) (src : Src) (ρ : Rho) (it : Addr) (ads : List Addr) (gi : List Nat) (s' : Shared) : Prop where
 self : ziz Ω A it ads s'
 at_ : zey Ω A it ads gi src ρ s'
 ad : AdOk Ω it ads gi ρ s₀ s'
 ng : (∀ xs, src ≠ .gen xs) -> gi = []
noncomputable abbrev Up (s : Shared) (h' : Heap) : Prop := ∀ b o, s.heap.get? b = some o -> h'.get? b = some o
noncomputable abbrev zi0 (Ω : Bx) (A : Around) (s₀ s : Shared) (src : Src) (ρ : Rho) (Q : Value -> Shared -> Prop) : Prop := ∀ it ads gi h', Up s h' -> Made Ω A s₀ s src ρ it ads gi { s with heap := h' } -> Q (.ref it) { s with heap := h' }
theorem one_at (H : HS Ω ρ hp s) (hs : ∀ a, s.heap.get? a = none -> s₀.heap.get? a = none) {o : Obj} (hb : Itb (s.heap.push o) s.heap.objs.size) : AdOk Ω s.heap.objs.size [s.heap.objs.size] [] ρ s₀ { s with heap := s.heap.push o } :=
 ⟨al_1 hb, mem1 (H.notIn (zbi s)), mem1 (hs _ (zbi s)), nofun⟩
theorem zk0 (H : HS Ω ρ hp s) (hs : ∀ a, s.heap.get? a = none -> s₀.heap.get? a = none) (hng : ∀ xs, src ≠ .gen xs) (hQ : zi0 Ω A s₀ s src ρ Q) {o : Obj} (hf : o.isFreed = false) (hb : (s.heap.push o).get? s.heap.objs.size = some o -> Itb (s.heap.push o) s.heap.objs.size)
 (hself : ∀ s' : Shared, s'.heap.get? s.heap.objs.size = some o -> ∀ (Q E : Value -> Shared -> Prop), Q (.ref s.heap.objs.size) s' -> wpAny Ω.M A (pyIter (.ref s.heap.objs.size)) Q E s')
 (hsrc : (s.heap.push o).get? s.heap.objs.size = some o -> zey Ω A s.heap.objs.size [s.heap.objs.size] [] src ρ { s with heap := s.heap.push o }) : Q (.ref s.heap.objs.size) { s with heap := s.heap.push o } :=
 have hg := Heap.get?_push_size s.heap hf
 hQ _ [_] [] _ (fun _ _ e => Heap.get?_push_of_some _ e) ⟨fun s' k => hself s' (k _ (.head _) _ hg), hsrc hg, one_at H hs (hb hg), fun _ => rfl⟩
theorem zh4 {l : Addr} (s' : Shared) (h : s'.heap.get? it = some { cls := .type "list_iterator", data := .fields #[.ref l, .int 0 0] }) (Q E : Value -> Shared -> Prop) (q : Q (.ref it) s') : wpAny Ω.M A (pyIter (.ref it)) Q E s' := wpAny_pyIter_listiter (l := l) (i := 0) ⟨_, h, rfl, rfl⟩ q
theorem iter_l (hh : A.handled = none) (H : HS Ω ρ hp s) (hs : ∀ a, s.heap.get? a = none -> s₀.heap.get? a = none) {a : Addr} {xs : List V} {vs : List Value} {n : Nat} (ho : s.heap.get? a = some (lstO vs n)) (hv : VRs ρ s.heap xs vs) (hf : s₀.heap.get? a = none) (hn : a ∉ ρ.flatten)
 (hQ : zi0 Ω A s₀ s (.items xs) ρ Q) : wpAny Ω.M A (pyIter (.ref a)) Q E s := by
 have n1 := zbi s
 have up : Up s (s.heap.push { cls := .type "list_iterator", data := .fields #[.ref a, .int 0 0] }) := fun _ _ e => Heap.get?_push_of_some _ e
 have hg := Heap.get?_push_size s.heap (o := { cls := .type "list_iterator", data := .fields #[.ref a, .int 0 0] }) rfl
 have hi : (s.heap.push _).IsListIter s.heap.objs.size a 0 := ⟨_, hg, rfl, rfl⟩
 exact wpAny_pyIter_list (items := vs.toArray) ⟨_, ho, rfl, _, rfl⟩ (hQ _ [_, a] [] _ up ⟨fun s' k => zh4 s' (k _ (.head _) _ hg), (zqy hh (fun q => sn n1 (q ▸ ho))).itr ⟨0, hi, up _ _ ho, VRs.mono (Ext.refl ρ) (fun b o e _ => up b o e) _ _ hv⟩,
  ⟨al_it (li_b hi) (mem2 (fun q => absurd rfl q) fun _ => ⟨_, up _ _ ho, zfm⟩) (.head _), mem2 (H.notIn n1) hn, mem2 (hs _ n1) hf, nofun⟩, fun _ => rfl⟩)
theorem ze5 {xs : List V} (ys : List V) : Src.items xs ≠ .gen ys := fun h => nomatch h
theorem zod {n i : Nat} (ys : List V) : Src.live n i ≠ .gen ys := fun h => nomatch h
theorem iter_t (hh : A.handled = none) (H : HS Ω ρ hp s) (hs : ∀ a, s.heap.get? a = none -> s₀.heap.get? a = none) {a : Addr} {xs : List V} {vs : List Value} {n : Nat} (ho : s.heap.get? a = some (tupO vs n)) (hv : VRs ρ s.heap xs vs)
 (hQ : zi0 Ω A s₀ s (.items xs) ρ Q) : wpAny Ω.M A (pyIter (.ref a)) Q E s :=
 wpAny_pyIter_tuple (items := vs.toArray) ⟨_, ho, rfl, _, rfl⟩ (zk0 H hs ze5 hQ rfl (fun h => ti_b (l := a) (i := 0) ⟨_, h, rfl, rfl⟩) (fun s' h Q E q => wpAny_pyIter_tupleiter (t := a) (i := 0) ⟨_, h, rfl, rfl⟩ q)
  fun h => (zmz hh (fun q => sn (zbi s) (q ▸ ho))).itr ⟨0, ⟨_, h, rfl, rfl⟩, Heap.get?_push_of_some _ ho, VRs.mono (Ext.refl ρ) (fun b o e _ => Heap.get?_push_of_some _ e) _ _ hv⟩)
theorem iter_s (hh : A.handled = none) (H : HS Ω ρ hp s) (hs : ∀ a, s.heap.get? a = none -> s₀.heap.get? a = none) {x : List Nat} {t : Tok} (hx : sOk x) (hQ : zi0 Ω A s₀ s (.items (x.map chV)) ρ Q) : wpAny Ω.M A (pyIter (.str (St x) t)) Q E s :=
 wpAny_pyIter_ascii ((Array.all_eq_true_iff_forall_mem).mpr fun c hc => decide_eq_true (zba hx.1 c (List.mem_toArray.mp hc))) (zk0 H hs ze5 hQ rfl (fun h => si_b (x := St x) (t := t) (i := 0) ⟨_, h, rfl, rfl⟩)
  (fun s' h Q E q => wpAny_pyIter_striter_ascii (x := St x) (t := t) (i := 0) ⟨_, h, rfl, rfl⟩ q) fun h => (zws hh hx).itr ⟨0, ⟨_, h, rfl, rfl⟩, rfl⟩)
theorem zuv (hh : A.handled = none) (H : HS Ω ρ hp s) (hs : ∀ a, s.heap.get? a = none -> s₀.heap.get? a = none) {a b c : Int} {t u v : Tok} {r : Addr} {n : Nat} {f : Nat -> Int -> List V} (f0 : ∀ a, f 0 a = []) (f1 : ∀ n a, f (n + 1) a = .int a :: f n (a + c)) (ho : s.heap.get? r = some (rngO a b c t u v)) (hsm : Builtin.Range.small a b c = true) (hn : Builtin.Range.rangeSize a b c = (n : Int))
 (hQ : zi0 Ω A s₀ s (.items (f n a)) ρ Q) : wpAny Ω.M A (pyIter (.ref r)) Q E s :=
 wpAny_pyIter_range ho hsm (by
  rw [hn]
  exact zk0 H hs ze5 hQ rfl (fun h => ri_b h) (fun s' h Q E q => wpAny_pyIter_rangeiter h q) fun h => (zwt hh f0 f1).itr ⟨n, a, h, rfl⟩)
theorem zot (H : HS Ω ρ hp s) (hs : ∀ a, s.heap.get? a = none -> s₀.heap.get? a = none) {n k : Nat} {a : Addr} {vs : List Value} (hn : nth ρ n = some [a]) (ho : s.heap.get? a = some (lstO vs k)) (hQ : zi0 Ω A s₀ s (.live n 0) ρ Q) : wpAny Ω.M A (pyIter (.ref a)) Q E s :=
 wpAny_pyIter_list (items := vs.toArray) ⟨_, ho, rfl, _, rfl⟩ (zk0 H hs zod hQ rfl (fun h => li_b (l := a) (i := 0) ⟨_, h, rfl, rfl⟩) (fun s' h => zh4 s' h) fun h => ⟨a, hn, ⟨_, h, rfl, rfl⟩, rfl, rfl⟩)
theorem zv9 (a b : Int) : Builtin.Range.rangeSize a b 1 = (((b - a).toNat : Nat) : Int) := by rw [rangeSize_one]; split <;> omega
theorem iter_g {Rm : Around -> Prop} (hWk : Wk0 Ω Rm) (hA : Rm A) (H : HS Ω ρ hp s) {a : Addr} {xs : List V} (G : GenR Ω ρ s₀ s xs a) (hQ : zi0 Ω A s₀ s (.gen xs) ρ Q) : wpAny Ω.M A (pyIter (.ref a)) Q E s := by
 obtain ⟨os, g, st, h1, h2, h3, h4⟩ := G
 have all : ∀ {p : Addr -> Prop}, (∀ x ∈ os, p x.1) -> ∀ a ∈ os.map Prod.fst, p a := fun h a ha => (List.mem_map.mp ha).elim fun x q => q.2 ▸ h x q.1
 exact hWk (ρ := ρ) hA h4 (fun p hp => (h1 p hp).1) h2 H.gens H.base fun hi hM hO hS hI =>
  hQ a (os.map Prod.fst) [g] s.heap (fun _ _ e => e) ⟨hS, ⟨nofun, hI⟩, ⟨⟨all fun p hp => ⟨_, (h1 p hp).1, hi p hp⟩, hO, hM⟩, all fun p hp => (h1 p hp).2.1, all fun p hp => (h1 p hp).2.2, mem1 h3⟩, fun z => absurd rfl (z _)⟩
theorem zos {Rm : Around -> Prop} (hRm : ∀ A, Rm A -> A.handled = none) (hWk : Wk0 Ω Rm) (hA : Rm A) (H : HS Ω ρ hp s) (hs : ∀ a, s.heap.get? a = none -> s₀.heap.get? a = none) {r : RV} {v : Value} (e : zm2 r hp = some src) (R : RVR Ω ρ s₀ s r v)
 (hQ : zi0 Ω A s₀ s src ρ Q) : wpAny Ω.M A (pyIter v) Q E s := by
 have hh := hRm A hA
 cases r with
 | l xs =>
  rw [← prf e] at hQ
  obtain ⟨a, vs, n, q, ho, hv, hl, hf, hn⟩ := R
  exact q ▸ iter_l hh H hs ho hv hf hn hQ
 | g xs =>
  rw [← prf e] at hQ
  obtain ⟨a, q, G⟩ := R
  exact q ▸ iter_g hWk hA H G hQ
 | v x =>
  cases x with
  | tup xs =>
   rw [← prf e] at hQ
   obtain ⟨a, vs, n, q, ho, hv, _⟩ := R
   exact q ▸ iter_t hh H hs ho hv hQ
  | str x =>
   rw [← prf e] at hQ
   obtain ⟨⟨t, q⟩, hx⟩ := R
   exact q ▸ iter_s hh H hs hx hQ
  | rng a b c =>
   have e : cs (Z.eqB c 1) (some (Src.items (zby (b - a).toNat a))) (ifb (Z.eqB c (-1)) (some (.items (zrk (a - b).toNat a)))) = some src := e
   obtain ⟨x, t, u, v, q, ho, hsm⟩ := R
   rw [q]
   cases z : Z.eqB c 1 with
   | true =>
    rw [z] at e
    rw [← prf e] at hQ
    have z := (Z.eqB_iff c 1).mp z
    exact zuv hh H hs (f := zby) (fun _ => rfl) (fun _ _ => z ▸ rfl) ho hsm (z ▸ zv9 a b) hQ
   | false =>
    rw [z] at e
    obtain ⟨z, e⟩ := zae e
    rw [← prf e] at hQ
    have z := (Z.eqB_iff c (-1)).mp z
    exact zuv hh H hs (f := zrk) (fun _ => rfl) (fun _ _ => z ▸ rfl) ho hsm (z ▸ (PySem.W.rangeSize_downNat ..)) hQ
  | ref n =>
   obtain ⟨xs, q, e⟩ := bd_t e
   rw [← prf e] at hQ
   obtain ⟨a, vs, k, q2, hn, h2, _⟩ := zgh H q R
   exact q2 ▸ zot H hs hn h2 hQ
  | _ => exact nn e

theorem zid (hh : A.handled = none) (H : HS Ω ρ hp s) {n i : Nat} {o : Option (V × Src)} {QN : Option Value -> Shared -> Prop} (e : zie (.live n i) hp = some o) {l : Addr} (hn : nth ρ n = some [l]) (hi : s.heap.IsListIter it l i)
 (hN : o = none -> ∀ s', Ch [it] [] s s' -> QN none s')
 (hQ : ∀ x src', o = some (x, src') -> ∀ v s', Ch [it] [] s s' -> Al it [it] s' -> VR ρ s'.heap x v -> zey Ω A it [it] [] src' ρ s' -> QN (some v) s') : wpAny Ω.M A (pyNext (.ref it)) QN E s := by
 obtain ⟨xs, q, e⟩ := bd_t e
 obtain ⟨a', vs, k, he, hn', h2, h3, h4⟩ := zgh H q ⟨l, [], hn, rfl⟩
 rw [← Value.ref.inj he] at h2
 cases q2 : nth xs i with
 | none =>
  rw [q2] at e
  exact wpAny_pyNext_list_end (items := vs.toArray) hh hi ⟨_, h2, rfl, _, rfl⟩ (Array.getElem?_eq_none (show vs.length ≤ i from h3.len ▸ zrt q2)) fun h' he => hN (prf e).symm _ (zga (li_b hi) (.head _) he H.gens)
 | some v =>
  rw [q2] at e
  obtain ⟨u, g3, g4⟩ := h3.nth' q2
  refine wpAny_pyNext_list_item (items := vs.toArray) hi ⟨_, h2, rfl, _, rfl⟩ g3 fun h' hi2 hs => ?_
  have ch : Ch [it] [] s { s with heap := h' } := zga (li_b hi) (.head _) hs.extBut H.gens
  exact hQ _ _ (prf e).symm u _ ch (al_1 (li_b hi2)) (VR.mono (Ext.refl ρ) ch.imm _ _ g4) ⟨l, hn, hi2, rfl, rfl⟩
theorem zeg (H : HS Ω ρ hp s) : Kp Ω ads gi ρ s ρ s := ⟨Ext.refl ρ, fun _ _ e _ => e, fun _ _ _ e => e, fun _ _ _ e => e, H.gens, H.base⟩
theorem zn1 (hh : A.handled = none) (H : HS Ω ρ hp s) {o : Option (V × Src)} {QN : Option Value -> Shared -> Prop} (e : zie src hp = some o) (S : zey Ω A it ads gi src ρ s)
 (hN : o = none -> ∀ s', Ch ads gi s s' -> QN none s')
 (hQ : ∀ x src', o = some (x, src') -> ∀ v s' ads', (∀ a ∈ ads', a ∈ ads ∨ s.heap.get? a = none) -> Ch ads gi s s' -> Al it ads' s' -> VR ρ s'.heap x v -> zey Ω A it ads' gi src' ρ s' -> QN (some v) s') : wpAny Ω.M A (pyNext (.ref it)) QN E s := by
 cases src with
 | items xs =>
  cases xs with
  | nil => exact S ρ s (zeg H) QN E (hN (prf e).symm)
  | cons x r => exact S ρ s (zeg H) QN E fun v s' => hQ _ _ (prf e).symm v s' ads fun _ h => .inl h
 | gen xs =>
  cases xs with
  | nil => exact S.2 ρ s (zeg H) QN E (hN (prf e).symm)
  | cons x r => exact S.2 ρ s (zeg H) QN E fun v s' ads' g c al r i => hQ _ _ (prf e).symm v s' ads' g c al r ⟨S.1, i⟩
 | live n i =>
  obtain ⟨l, hn, hi, rfl, rfl⟩ := S
  exact zid hh H e hn hi hN fun x src' h v s' => hQ x src' h v s' _ fun _ h => .inl h
theorem zrx (hh : A.handled = none) (H : HS Ω ρ hp s) {o : Option (V × Src)} {QN : Option Value -> Shared -> Prop} (e : zie src hp = some o) (S : zey Ω A it ads [] src ρ s)
 (hN : o = none -> ∀ s', Ch ads [] s s' -> QN none s')
 (hQ : ∀ x src', o = some (x, src') -> ∀ v s', Ch ads [] s s' -> Al it ads s' -> VR ρ s'.heap x v -> zey Ω A it ads [] src' ρ s' -> QN (some v) s') : wpAny Ω.M A (pyNext (.ref it)) QN E s := by
 cases src with
 | items xs =>
  cases xs with
  | nil => exact S ρ s (zeg H) QN E (hN (prf e).symm)
  | cons x r => exact S ρ s (zeg H) QN E (hQ _ _ (prf e).symm)
 | gen xs => exact absurd rfl S.1
 | live n i =>
  obtain ⟨l, hn, hi, rfl, _⟩ := S
  exact zid hh H e hn hi hN hQ

theorem zo4 {fa : List Addr} {ρ₀ : Rho} {s' : Shared} (g : Go fa ρ₀ s₀ ρ s) (c : Ch ads gi s s') (hf : ∀ a ∈ ads, s₀.heap.get? a = none) (hg : ∀ i ∈ gi, s₀.gens.size ≤ i) : Go fa ρ₀ s₀ ρ s' :=
 have out : ∀ b o, s₀.heap.get? b = some o -> b ∉ ads := fun b o e q => sn (hf b q) e
 ⟨g.ext, fun b o e n1 n2 => c.keep b o (g.keep b o e n1 n2) (out b o e), fun b o e i => c.imm b o (g.imm b o e i) i, fun b o e => (g.grow b o e).elim fun o' e' => ⟨o', c.keep b o' e' (out b o e)⟩,
  fun k st e => c.gens k st (fun q => sn (Array.getElem?_eq_none (hg k q)) e) (g.gens k st e), c.os.trans g.os⟩
theorem zil {s' : Shared} (H : HS Ω ρ hp s) (c : Ch ads gi s s') (ho : ∀ a ∈ ads, a ∉ ρ.flatten) (hb : ∀ a ∈ ads, Ω.h₀.get? a = none) : HS Ω ρ hp s' :=
 ⟨fun b o e => c.keep b o (H.base b o e) (fun q => sn (hb b q) e), H.fresh, H.nodup, H.len, fun n o e h1 h2 => (H.obj n o e h1 h2).mono (Ext.refl ρ) c.imm fun a ha ob e => c.keep a ob e fun q => ho a q (zbu h2 ha), c.bare⟩
theorem fr_ch {env : Env} {fa : List Addr} {fl : L} {s' : Shared} (F : FR Ω env fa fl ρ s) (c : Ch ads gi s s') (ho : ∀ a ∈ ads, a ∉ fa) : FR Ω env fa fl ρ s' :=
 F.kept (fun a ha o e => c.keep a o e fun q => ho a q ha) (Ext.refl ρ) c.imm F.disj
theorem fc_ch {env : Env} {fa : List Addr} {s' : Shared} (F : FC Ω env fa s) (c : Ch ads gi s s') (ho : ∀ a ∈ ads, a ∉ fa) : FC Ω env fa s' := F.kept fun a ha o e => c.keep a o e fun q => ho a q ha
end
end
end Mine
end
noncomputable section
open PySem PySem.W PyProof.Rows
namespace Mine
section

structure Lt (s s₁ : Shared) : Prop where
 n : ∀ a, s₁.heap.get? a = none -> s.heap.get? a = none
 g : s.gens.size ≤ s₁.gens.size
theorem Lt.refl (s : Shared) : Lt s s := ⟨fun _ h => h, Nat.le_refl _⟩
theorem Lt.trans {s s₁ s₂ : Shared} (x : Lt s s₁) (y : Lt s₁ s₂) : Lt s s₂ := ⟨fun a h => x.n a (y.n a h), Nat.le_trans x.g y.g⟩
theorem goLt {fa : List Addr} {ρ ρ' : Rho} {s s' : Shared} (g : Go fa ρ s ρ' s') : Lt s s' := ⟨fun _ h => g.none h, g.gsize⟩
theorem zh5 {Ω : Bx} {ρ : Rho} {s₀ s₁ s : Shared} {r : RV} {v : Value} (l : Lt s₀ s₁) (H : RVR Ω ρ s₁ s r v) : RVR Ω ρ s₀ s r v := H.wk l.n l.g

noncomputable def RVRc (Ω : Bx) (ρ : Rho) (s : Shared) : Shared -> List RV -> List Value -> Prop
 | _, [], vs => vs = []
 | s₀, r :: rs, vs => ∃ v t s₁, vs = v :: t /\ RVR Ω ρ s₀ s r v /\ Lt s₀ s₁ /\ Lt s₁ s /\ (∀ xs, r = .l xs -> ∀ a, v = .ref a -> s₁.heap.get? a ≠ none) /\ RVRc Ω ρ s s₁ rs t
section
variable {Ω : Bx} {ρ ρ' : Rho} {s s' s₀ s₁ : Shared} {rs qs : List RV} {vs us : List Value}
theorem RVRc.weak (l : Lt s₀ s₁) (H : RVRc Ω ρ s s₁ rs vs) : RVRc Ω ρ s s₀ rs vs := by
 cases rs with
 | nil => exact H
 | cons r rs =>
  obtain ⟨v, t, s₂, e, h1, h2, h⟩ := H
  exact ⟨v, t, s₂, e, zh5 l h1, l.trans h2, h⟩
theorem RVRc.go (g : Go [] ρ s ρ' s') : ∀ {s₀ : Shared} {vs : List Value}, RVRc Ω ρ s s₀ rs vs -> RVRc Ω ρ' s' s₀ rs vs := by
 induction rs with
 | nil => exact fun H => H
 | cons r rs ih =>
  intro _ _ H
  obtain ⟨v, t, s₂, e, h1, h2, h3, h4, h5⟩ := H
  exact ⟨v, t, s₂, e, h1.go g, h2, h3.trans (goLt g), h4, ih h5⟩
theorem RVRc.toRs : ∀ {s₀ : Shared} {vs : List Value}, RVRc Ω ρ s s₀ rs vs -> RVRs Ω ρ s₀ s rs vs := by
 induction rs with
 | nil => exact fun H => H
 | cons r rs ih =>
  intro _ _ H
  obtain ⟨v, t, s₂, e, h1, h2, h3, h4, h5⟩ := H
  exact ⟨v, t, e, h1, ih (h5.weak h2)⟩
theorem RVRc.append (g : Go [] ρ s ρ' s') (h : RVRc Ω ρ' s' s qs us) : ∀ {s₀ : Shared} {vs : List Value}, RVRc Ω ρ s s₀ rs vs -> Lt s₀ s -> RVRc Ω ρ' s' s₀ (rs ++ qs) (vs ++ us) := by
 induction rs with
 | nil =>
  intro _ vs H l
  cases (show vs = [] from H)
  exact h.weak l
 | cons r rs ih =>
  intro _ _ H l
  obtain ⟨v, t, s₂, e, h1, h2, h3, h4, h5⟩ := H
  exact ⟨v, _, s₂, congrArg (· ++ us) e, h1.go g, h2, h3.trans (goLt g), h4, ih h5 h3⟩
theorem RVRc.len : ∀ {s₀ : Shared} {vs : List Value}, RVRc Ω ρ s s₀ rs vs -> vs.length = rs.length := by
 induction rs with
 | nil => exact fun H => congrArg List.length (show _ = [] from H)
 | cons r rs ih =>
  intro _ _ H
  obtain ⟨v, t, s₂, e, h1, h2, h3, h4, h5⟩ := H
  exact (congrArg List.length e).trans (congrArg (· + 1) (ih h5))
end

section
variable {Ω : Bx} {ρ ρ₀ : Rho} {hp hp' : Hp} {s₀ s : Shared}

theorem zhv (H : HS Ω ρ hp s) {sb : Shared} {fa : List Addr} (G : Go fa ρ₀ sb ρ s) (hb : ∀ a, s₀.heap.get? a = none -> Ω.h₀.get? a = none) (l : Lt sb s₀) {r : RV} {v : Value} {y : V × Hp} (e : zem r hp = some y) (R : RVR Ω ρ s₀ s r v) :
 ∃ ρ', HS Ω ρ' y.2 s /\ Go fa ρ₀ sb ρ' s /\ VR ρ' s.heap y.1 v /\ (ρ' = ρ ∨ ∃ xs a, r = .l xs /\ v = .ref a /\ ρ' = ρ ++ [[a]]) := by
 cases r with
 | v x => rw [← prf e]; exact ⟨ρ, H, G, R, .inl rfl⟩
 | g xs => exact nn e
 | l xs =>
  rw [← prf e]
  obtain ⟨a, vs, n, e, ho, hv, hl, hn, hi⟩ := R
  have ext : Ext ρ (ρ ++ [[a]]) := Ext.append ρ _
  refine ⟨ρ ++ [[a]], H.take ⟨a, vs, n, rfl, ho, VRs.mono ext (fun _ _ e _ => e) _ _ hv, hl⟩ (List.nodup_cons.mpr ⟨List.not_mem_nil, List.nodup_nil⟩) (mem1 hi) (mem1 (hb _ hn)), ⟨?_, G.keep, G.imm, G.grow, G.gens, G.os⟩, ⟨a, [], ?_, e⟩, .inr ⟨xs, a, rfl, e, rfl⟩⟩
  · obtain ⟨nw, hw, hw2⟩ := G.ext
    exact ⟨nw ++ [[a]], hw ▸ List.append_assoc _ _ _, fun b hb => (List.mem_append.mp (za8 nw [a] ▸ hb)).elim (hw2 b) (mem1 (p := fun b => sb.heap.get? b = none) (l.n _ hn) b)⟩
  · rw [zag, H.len, ← zag]
    exact zb8 ρ [a]
theorem RVR.took {a : Addr} (ha : s₀.heap.get? a ≠ none) {r : RV} {v : Value} (H : RVR Ω ρ s₀ s r v) : RVR Ω (ρ ++ [[a]]) s₀ s r v := by
 have ext : Ext ρ (ρ ++ [[a]]) := Ext.append ρ _
 have out : ∀ {b : Addr}, b ∉ ρ.flatten -> s₀.heap.get? b = none -> b ∉ (ρ ++ [[a]]).flatten := fun {b} h1 h2 q => (List.mem_append.mp (show b ∈ ρ.flatten ++ [a] from za8 ρ [a] ▸ q)).elim h1 fun q => ha ((List.mem_singleton.mp q) ▸ h2)
 cases r with
 | v x => exact VR.mono ext (fun _ _ e _ => e) _ _ H
 | l xs =>
  obtain ⟨b, vs, n, e, ho, hv, hl, hn, hi⟩ := H
  exact ⟨b, vs, n, e, ho, VRs.mono ext (fun _ _ e _ => e) _ _ hv, hl, hn, out hi hn⟩
 | g xs =>
  obtain ⟨b, e, os, k, st, g1, g⟩ := H
  exact ⟨b, e, os, k, st, fun p hp => ⟨(g1 p hp).1, out (g1 p hp).2.1 (g1 p hp).2.2, (g1 p hp).2.2⟩, g⟩
theorem RVRc.took {s₁ : Shared} {a : Addr} (ha : s₁.heap.get? a ≠ none) {rs : List RV} : ∀ {s₀ : Shared} {vs : List Value}, Lt s₁ s₀ -> RVRc Ω ρ s s₀ rs vs -> RVRc Ω (ρ ++ [[a]]) s s₀ rs vs := by
 induction rs with
 | nil => exact fun _ H => H
 | cons r rs ih =>
  intro _ _ l H
  obtain ⟨v, t, s₂, e, h1, h2, h3, h4, h5⟩ := H
  exact ⟨v, t, s₂, e, h1.took fun q => ha (l.n _ q), h2, h3, h4, ih (l.trans h2) h5⟩
theorem zix {sb : Shared} {fa : List Addr} {rs : List RV} : ∀ {vs : List Value} {y : List V × Hp} {ρ : Rho} {hp : Hp} {s₀ : Shared}, HS Ω ρ hp s -> Go fa ρ₀ sb ρ s -> (∀ a, s₀.heap.get? a = none -> Ω.h₀.get? a = none) -> Lt sb s₀ -> zcq rs hp = some y -> RVRc Ω ρ s s₀ rs vs ->
 ∃ ρ', HS Ω ρ' y.2 s /\ Go fa ρ₀ sb ρ' s /\ VRs ρ' s.heap y.1 vs /\ Ext ρ ρ' := by
 induction rs with
 | nil =>
  intro vs y ρ hp s₀ H G hb l e R
  rw [show vs = [] from R, ← prf e]
  exact ⟨ρ, H, G, VRs.nil, Ext.refl ρ⟩
 | cons r rs ih =>
  intro vs y ρ hp s₀ H G hb l e R
  obtain ⟨x, q1, e⟩ := bd_t e
  obtain ⟨xs, q2, e⟩ := bd_t e
  obtain ⟨v, t, s₁, ev, g1, g2, g3, g4, g5⟩ := R
  obtain ⟨ρ₁, H1, G1, V1, hρ⟩ := zhv H G hb l q1 g1
  have g5' : RVRc Ω ρ₁ s s₁ rs t /\ Ext ρ ρ₁ := by
   rcases hρ with h | ⟨ys, a, h1, h2, h⟩
   · rw [h]; exact ⟨g5, Ext.refl _⟩
   · rw [h]; exact ⟨g5.took (g4 _ h1 a h2) (Lt.refl s₁), Ext.append _ _⟩
  obtain ⟨ρ₂, H2, G2, V2, E2⟩ := ih H1 G1 (fun a h => hb a (g2.n a h)) (l.trans g2) q2 g5'.1
  rw [← prf e, ev]
  exact ⟨ρ₂, H2, G2, VRs.cons (VR.mono E2 (fun _ _ e _ => e) _ _ V1) V2, g5'.2.trans E2⟩
end

structure KN (Ω : Bx) (env : Env) (sc : List (Nat × Nat)) : Prop where
 loc : ∀ x, look sc x = some 0 -> env.kindOf (nmOf Ω x) = some .local
 one : ∀ x, look sc x = some 1 -> env.kindOf (nmOf Ω x) = some .cell
 cel : ∀ x, (look sc x = some 1 ∨ look sc x = some 2) -> (env.kindOf (nmOf Ω x) = some .cell ∨ env.kindOf (nmOf Ω x) = some .free) /\ ∃ c, env.cells.lookup (nmOf Ω x) = some c
 glo : ∀ x, x < Ω.nms.length -> look sc x = some 4 -> env.kindOf (nmOf Ω x) = some .globalImplicit
 no : ∀ x, x < Ω.nms.length -> look sc x = none -> env.kindOf (nmOf Ω x) = none

noncomputable def zbb (M : Model) (h : Heap) (f : Value) : Prop := ∃ k, (k = Keeper.frame ∨ k = Keeper.machine ∨ k = Keeper.boundFrame) /\ Looks M h (keeperOf f) k
noncomputable abbrev Post (Ω : Bx) (ρ₀ : Rho) (s₀ : Shared) (r : RV) (hp' : Hp) (Q : Value -> Shared -> Prop) : Prop :=
 ∀ ρ' s' v, HS Ω ρ' hp' s' -> Go [] ρ₀ s₀ ρ' s' -> RVR Ω ρ' s₀ s' r v -> Q v s'
noncomputable def lname : Nat -> String
 | 0 => "list.append" | 1 => "list.pop" | _ => "list.index"
noncomputable def zln : Nat -> String
 | 3 => "str.lower" | 4 => "str.upper" | 5 => "str.split" | 6 => "str.join" | _ => "str.replace"
noncomputable def zqm : Nat -> String
 | 8 => "re.Pattern.search" | _ => "dict.get"
noncomputable def MR (ρ : Rho) (h : Heap) (k : MK) (x : Nat) (f : Value) (first : List Value) : Prop := match k with
 | .fn g self => f = .ref g /\ ∃ v, first = [v] /\ VR ρ h self v
 | .lst n => f = .builtin (lname x) /\ ∃ a, nth ρ n = some [a] /\ first = [.ref a]
 | .str s => f = .builtin (zln x) /\ sOk s /\ ∃ t, first = [.str (St s) t]
 | .top a => f = .builtin (zqm x) /\ first = [.ref a]
 | .dict _ => False
theorem MR.go {ρ ρ' : Rho} {s s' : Shared} {k : MK} {x : Nat} {f : Value} {first : List Value} (g : Go [] ρ s ρ' s') (H : MR ρ s.heap k x f first) : MR ρ' s'.heap k x f first := by
 cases k with
 | fn a self => obtain ⟨h1, v, h2, h3⟩ := H; exact ⟨h1, v, h2, g.vr h3⟩
 | lst n => obtain ⟨h1, a, h2, h3⟩ := H; exact ⟨h1, a, g.Ext _ _ h2, h3⟩
 | str s => exact H
 | top a => exact H
 | dict n => exact H

noncomputable def zt2 (Ω : Bx) (a : Addr) (xs : List Int) : Prop := ∃ vs : List Value, Ω.h₀.IsList a vs.toArray /\ (∀ ρ h, VRs ρ h (xs.map V.int) vs) /\ vs.length ≤ 65536
structure CT (Ω : Bx) (cx : Cx) (Rm : Around -> Prop) : Prop where
 rm : ∀ A, Rm A -> A.handled = none /\ A.units + 70 < cLine
 wk : Wk0 Ω Rm
 frz : ∀ a xs, look cx.frz a = some xs -> zt2 Ω a xs
 inj : ∀ x y, x < Ω.nms.length -> y < Ω.nms.length -> nmOf Ω x = nmOf Ω y -> x = y
 dbg : ∀ x, x < Ω.nms.length -> (nmOf Ω x == ("__debug__" : Str)) = false /\ (nmOf Ω x == ("__classdict__" : Str)) = false
 glo : ∀ x v, look cx.glo x = some v -> x < Ω.nms.length /\ ∃ v', (∀ ρ h, VR ρ h v v') /\ ∀ {A : Around} {E Q : Value -> Shared -> Prop} {env : Env} {s : Shared}, env.globals = mainGlobals -> env.builtins = builtinsNs -> (∀ b o, Ω.h₀.get? b = some o -> s.heap.get? b = some o) ->
  Q v' s -> wpAny Ω.M A (loadGlobal env (nmOf Ω x)) Q E s
 att : ∀ {ρ : Rho} {hp : Hp} {s₀ s : Shared} {A : Around} {E Q : Value -> Shared -> Prop} {r q : RV} {v : Value} {x : Nat}, x < Ω.nms.length -> ztx cx r x hp = some q -> HS Ω ρ hp s -> RVR Ω ρ s₀ s r v -> (∀ u t, RVR Ω ρ s₀ s q u -> Q u { s with toks := t }) ->
  wpAny Ω.M A (getAttr v (nmOf Ω x) true) Q E s
 cal : ∀ {ρ₀ ρ : Rho} {hp hp' : Hp} {s₀ s : Shared} {A : Around} {E Q : Value -> Shared -> Prop} {g r : RV} {vg : Value} {as : List RV} {ks : List (Nat × RV)} {vs kvs : List Value}, Rm A -> HS Ω ρ hp s -> Go [] ρ₀ s₀ ρ s -> (∀ a, s₀.heap.get? a = none -> Ω.h₀.get? a = none) ->
  (∀ p ∈ ks, p.1 < Ω.nms.length) -> zpu cx g as ks hp = some (r, hp') -> RVR Ω ρ s₀ s g vg -> RVRc Ω ρ s s₀ (as ++ ks.map (·.2)) (vs ++ kvs) -> vs.length = as.length -> Post Ω ρ₀ s₀ r hp' Q ->
  zbb Ω.M s.heap vg /\ wpAny Ω.M A (call vg vs ((ks.map fun p => nmOf Ω p.1).zip kvs)) Q E s
 seta : ∀ {ρ : Rho} {hp : Hp} {s : Shared} {A : Around} {E : Value -> Shared -> Prop} {Q : Unit -> Shared -> Prop} {n x c : Nat} {d : List (Nat × V)} {a : Addr} {e : List Addr} {v : V} {u : Value} {t : List (Nat × Nat)}, Rm A -> x < Ω.nms.length -> nth hp n = some (.inst c d) -> look cx.meth c = some t -> nth ρ n = some (a :: e) ->
  len (put d x v) ≤ 100 -> HS Ω ρ hp s -> VR ρ s.heap v u -> (∀ s', HS Ω ρ (upd hp n (.inst c (put d x v))) s' -> Go [] ρ s ρ s' -> Q () s') -> wpAny Ω.M A (setAttr (.ref a) (nmOf Ω x) u) Q E s
 seti : ∀ {ρ₀ ρ : Rho} {hp hp' : Hp} {s₀ s : Shared} {A : Around} {E : Value -> Shared -> Prop} {Q : Unit -> Shared -> Prop} {n c f : Nat} {d : List (Nat × V)} {k v : V} {vo ki u : Value} {t : List (Nat × Nat)}, Rm A -> nth hp n = some (.inst c d) -> look cx.meth c = some t -> look t cx.nSet = some f -> cx.S f [.v (.ref n), .v k, .v v] [] hp = some (.v .none, hp') ->
  HS Ω ρ hp s -> Go [] ρ₀ s₀ ρ s -> (∀ a, s₀.heap.get? a = none -> Ω.h₀.get? a = none) -> VR ρ s.heap (.ref n) vo -> VR ρ s.heap k ki -> VR ρ s.heap v u -> (∀ ρ' s', HS Ω ρ' hp' s' -> Go [] ρ₀ s₀ ρ' s' -> Q () s') -> wpAny Ω.M A (setItem vo ki u) Q E s
 meth : ∀ {ρ : Rho} {hp : Hp} {s₀ s : Shared} {r : RV} {v : Value} {x : Nat} {k : MK}, x < Ω.nms.length -> zl1 cx r x hp = some k -> HS Ω ρ hp s -> RVR Ω ρ s₀ s r v ->
  ∃ f first, MR ρ s.heap k x f first /\ ∀ {A : Around} {E : Value -> Shared -> Prop} {Q : Value × List Value -> Shared -> Prop} {pl : Sem Bool}, Q (f, first) s -> wpAny Ω.M A (getMethod v (nmOf Ω x) pl) Q E s
 mcall : ∀ {ρ₀ ρ : Rho} {hp hp' : Hp} {s₀ s : Shared} {A : Around} {E Q : Value -> Shared -> Prop} {k : MK} {x : Nat} {r : RV} {f : Value} {first : List Value} {as : List RV} {ks : List (Nat × RV)} {vs kvs : List Value}, Rm A -> HS Ω ρ hp s -> Go [] ρ₀ s₀ ρ s -> (∀ a, s₀.heap.get? a = none -> Ω.h₀.get? a = none) ->
  (∀ p ∈ ks, p.1 < Ω.nms.length) -> mapp cx k x as ks hp = some (r, hp') -> MR ρ s.heap k x f first -> RVRc Ω ρ s s₀ (as ++ ks.map (·.2)) (vs ++ kvs) -> vs.length = as.length -> Post Ω ρ₀ s₀ r hp' Q ->
  zbb Ω.M s.heap f /\ wpAny Ω.M A (call f (first ++ vs) ((ks.map fun p => nmOf Ω p.1).zip kvs)) Q E s
end
end Mine
end
noncomputable section
open PySem PySem.W PyProof.Rows
namespace Mine
section

noncomputable def isIn (x : Nat) : List Nat -> Bool
 | [] => false
 | y :: r => match Nat.beq y x with | true => true | false => isIn x r
noncomputable def and2 (a b : Bool) : Bool := match a with | true => b | false => false
noncomputable def or2 (a b : Bool) : Bool := match a with | true => true | false => b
noncomputable def lv (sc : List (Nat × Nat)) (x : Nat) : Bool := byO (look sc x) (fun k => Nat.ble k 2) false
noncomputable def ltB (a b : Nat) : Bool := Nat.blt a b
noncomputable def allB {α : Type} (f : α -> Bool) : List α -> Bool
 | [] => true
 | x :: r => and2 (f x) (allB f r)
noncomputable def is_ (k : Nat) (o : Option Nat) : Bool := byO o (Nat.beq k) false
noncomputable def scOk (n : Nat) (sc : List (Nat × Nat)) (ts : List Nat) : List (Nat × Nat) -> List Nat -> Bool
 | [], _ => true
 | p :: r, seen => and2 (ltB p.1 n) (and2 (bnot (isIn p.1 seen)) (and2 (or2 (Nat.beq p.2 0) (or2 (and2 (Nat.beq p.2 2) (or2 (is_ 1 (look sc p.1)) (is_ 2 (look sc p.1)))) (Nat.beq p.2 4))) (scOk n sc ts r (p.1 :: seen))))
noncomputable def strL (s : String) (l : List Nat) : Bool := and2 (leq (s.toList.map Char.toNat) l) (and2 (asc l) (fits (len l)))
noncomputable def zkz : FE -> Bool
 | .call _ as _ _ _ _ => (match as with | [] => false | _ => true)
 | _ => true
noncomputable def zuw : FE -> Bool
 | .var _ _ => true
 | .glo _ _ => true
 | _ => false
mutual
noncomputable def wE (n : Nat) (sc : List (Nat × Nat)) : FE -> Bool
 | .none _ => true
 | .tru _ => true
 | .fls _ => true
 | .int _ _ => true
 | .str s l _ => strL s l
 | .var x _ => and2 (ltB x n) (lv sc x)
 | .glo x _ => and2 (ltB x n) (is_ 4 (look sc x))
 | .dbg _ => true
 | .bin _ a b _ => and2 (wE n sc a) (wE n sc b)
 | .neg _ _ _ => true
 | .not a _ => wE n sc a
 | .and es _ => wEs n sc es
 | .or es _ => wEs n sc es
 | .cmp _ a b _ => and2 (wE n sc a) (wE n sc b)
 | .ife t a b _ => and2 (wE n sc t) (and2 (wE n sc a) (wE n sc b))
 | .list es _ => and2 (fits (len es)) (wEs n sc es)
 | .tup es _ => and2 (fits (len es)) (wEs n sc es)
 | .sub a i _ => and2 (wE n sc a) (wE n sc i)
 | .sli a lo hi st _ _ => and2 (wE n sc a) (and2 (wO n sc lo) (and2 (wO n sc hi) (wO n sc st)))
 | .att a x _ => and2 (ltB x n) (and2 (zkz a) (wE n sc a))
 | .call f as kn ks kp _ => and2 (zuw f) (and2 (wE n sc f) (and2 (wEs n sc as) (and2 (wEs n sc ks) (and2 (Nat.beq (len kn) (len ks)) (and2 (Nat.beq (len kp) (len ks)) (allB (fun x => ltB x n) kn))))))
 | .mcall o x as kn ks kp ap p => and2 (ltB x n) (and2 (zkz o) (and2 (wE n sc o) (and2 (wEs n sc as) (and2 (wEs n sc ks) (and2 (Nat.beq (len kn) (len ks)) (and2 (Nat.beq (len kp) (len ks)) (and2 (allB (fun x => ltB x n) kn) (and2 (ltB (len as + len ks + 1) 30) (Nat.beq (pos ap).endLine (pos p).line)))))))))
 | .fmt e c _ => and2 (Nat.beq c 115) (wE n sc e)
 | .jst es _ => and2 (fits (len es)) (wEs n sc es)
 | .comp e ts tps _ it ifs sc' _ => and2 (wE n sc it) (and2 (scOk n sc ts sc' []) (and2 (allB (fun t => is_ 0 (look sc' t)) ts) (and2 (Nat.beq (len tps) (len ts)) (and2 (bnot (Nat.beq (len ts) 0)) (and2 (wE n sc' e) (wEs n sc' ifs))))))
noncomputable def wEs (n : Nat) (sc : List (Nat × Nat)) : List FE -> Bool
 | [] => true
 | e :: r => and2 (wE n sc e) (wEs n sc r)
noncomputable def wO (n : Nat) (sc : List (Nat × Nat)) : Option FE -> Bool
 | none => true
 | some e => wE n sc e
end
theorem zab {a b : Bool} (h : and2 a b = true) : a = true /\ b = true := by cases a <;> cases b <;> first | exact ⟨rfl, rfl⟩ | cases h
theorem zjj {a b : Bool} (h : or2 a b = true) : a = true ∨ b = true := by cases a with | true => exact .inl rfl | false => exact .inr h
theorem is_t {k : Nat} {o : Option Nat} (h : is_ k o = true) : o = some k := by cases o with | none => exact ff h | some j => exact congrArg some (zam h).symm
theorem zfl {a b : Nat} (h : ltB a b = true) : a < b := Nat.le_of_ble_eq_true h
theorem zvz {n : Nat} {sc : List (Nat × Nat)} {es : List FE} (h : wEs n sc es = true) : ∀ e ∈ es, wE n sc e = true := by
 induction es with
 | nil => exact nofun
 | cons e r ih => exact fun x hx => (List.mem_cons.mp hx).elim (fun q => q ▸ (zab h).1) (ih (zab h).2 x)
theorem ziw {α : Type} {f : α -> Bool} {l : List α} (h : allB f l = true) : ∀ x ∈ l, f x = true := by
 induction l with
 | nil => exact nofun
 | cons e r ih =>
  have h : and2 (f e) (allB f r) = true := h
  exact fun x hx => (List.mem_cons.mp hx).elim (fun q => q ▸ (zab h).1) (ih (zab h).2 x)
theorem strL_t {s : String} {l : List Nat} (h : strL s l = true) : Str.ofString s = St l /\ sOk l := by
 obtain ⟨h1, h2⟩ := zab h
 obtain ⟨h2, h3⟩ := zab h2
 have := zbm h3
 rw [zag] at this
 exact ⟨by rw [Str.ofString_eq_toList, zl6 h1], h2, this⟩

theorem zi7 (nm : Nat -> Str) (e : FE) (rest : List Expr) (env : Env) : starEach (tE nm e :: rest) env = (false, eval (tE nm e) env) :: starEach rest env := by
 cases e <;> rfl
theorem zki (nm : Nat -> Str) (env : Env) : ∀ es : List FE, starEach (tEs nm es) env = es.map fun e => (false, eval (tE nm e) env)
 | [] => rfl
 | e :: r => by rw [tEs, zi7, zki nm env r]; rfl
theorem zek (pos : Pos) (nm : Nat -> Str) (env : Env) (es : List FE) : (backTo pos (starEach (tEs nm es) env)).any (·.1) = false := by
 rw [zki]
 unfold backTo
 induction es with
 | nil => rfl
 | cons e r ih => simpa using ih
theorem zog (nm : Nat -> Str) : ∀ es : List FE, (tEs nm es).length = es.length
 | [] => rfl
 | e :: r => by rw [tEs, List.length_cons, zog nm r]; rfl
end
end Mine
end
noncomputable section
open PySem PySem.W PyProof.Rows PySem.Calls
namespace Mine
section

structure Dx where
 env : Env
 sc : List (Nat × Nat)
 fa : List Addr
 A : Around
 E : Value -> Shared -> Prop
structure Here (Ω : Bx) (Rm : Around -> Prop) (D : Dx) (fl : L) (hp : Hp) (ρ : Rho) (s : Shared) : Prop where
 K : KN Ω D.env D.sc
 A : Rm D.A
 H : HS Ω ρ hp s
 F : FR Ω D.env D.fa fl ρ s
noncomputable abbrev WP {α : Type} (Ω : Bx) (D : Dx) (m : Sem α) (Q : α -> Shared -> Prop) (s : Shared) : Prop := wpAny Ω.M D.A m Q D.E s
noncomputable abbrev EV (Ω : Bx) (D : Dx) (e : FE) (Q : Value -> Shared -> Prop) (s : Shared) : Prop := wpAny Ω.M D.A (eval (tE (nmOf Ω) e) D.env) Q D.E s
noncomputable abbrev zj9 (Ω : Bx) (Rm : Around -> Prop) (D : Dx) (fl : L) (ρ₀ : Rho) (s₀ : Shared) (r : RV × Hp) (Q : Value -> Shared -> Prop) : Prop :=
 ∀ ρ' s' v, Here Ω Rm D fl r.2 ρ' s' -> Go [] ρ₀ s₀ ρ' s' -> RVR Ω ρ' s₀ s' r.1 v -> Q v s'
noncomputable def EOk (Ω : Bx) (cx : Cx) (Rm : Around -> Prop) (e : FE) : Prop :=
 ∀ {D : Dx} {fl : L} {hp : Hp} {r : RV × Hp} {ρ : Rho} {s : Shared} {Q : Value -> Shared -> Prop}, wE Ω.nms.length D.sc e = true -> Here Ω Rm D fl hp ρ s -> ev cx fl e hp = some r -> zj9 Ω Rm D fl ρ s r Q -> EV Ω D e Q s
noncomputable abbrev zp8 (Ω : Bx) (Rm : Around -> Prop) (D : Dx) (fl : L) (ρ₀ : Rho) (s₀ : Shared) (b : Bool × Hp) (Q : Bool -> Shared -> Prop) : Prop :=
 ∀ ρ' s', Here Ω Rm D fl b.2 ρ' s' -> Go [] ρ₀ s₀ ρ' s' -> Q b.1 s'
noncomputable def TOk (Ω : Bx) (cx : Cx) (Rm : Around -> Prop) (e : FE) : Prop :=
 ∀ {D : Dx} {fl : L} {hp : Hp} {b : Bool × Hp} {ρ : Rho} {s : Shared} {Q : Bool -> Shared -> Prop}, wE Ω.nms.length D.sc e = true -> Here Ω Rm D fl hp ρ s -> tr cx fl e hp = some b -> zp8 Ω Rm D fl ρ s b Q -> WP Ω D (isTrue (tE (nmOf Ω) e) D.env (eval (tE (nmOf Ω) e) D.env)) Q s
noncomputable abbrev Both (Ω : Bx) (cx : Cx) (Rm : Around -> Prop) (e : FE) : Prop := EOk Ω cx Rm e /\ TOk Ω cx Rm e
noncomputable abbrev PostL (Ω : Bx) (Rm : Around -> Prop) (D : Dx) (fl : L) (ρ₀ : Rho) (s₀ : Shared) (rs : List RV × Hp) (Q : List Value -> Shared -> Prop) : Prop :=
 ∀ ρ' s' vs, Here Ω Rm D fl rs.2 ρ' s' -> Go [] ρ₀ s₀ ρ' s' -> RVRc Ω ρ' s' s₀ rs.1 vs -> Q vs s'

section
variable {Ω : Bx} {cx : Cx} {Rm : Around -> Prop} {D : Dx} {fl : L} {hp hp' : Hp} {ρ ρ₀ ρ' : Rho} {s s₀ s' : Shared}

theorem Here.go (h : Here Ω Rm D fl hp ρ s) (g : Go [] ρ s ρ' s') (H : HS Ω ρ' hp' s') : Here Ω Rm D fl hp' ρ' s' := ⟨h.K, h.A, H, h.F.go g⟩
theorem Here.tok (h : Here Ω Rm D fl hp ρ s) (t : Nat) : Here Ω Rm D fl hp ρ { s with toks := t } := h.go (Go.tok _ _ _ _) (h.H.tok t)
theorem notL {r : RV} {v : Value} (R : RVR Ω ρ s₀ s r v) : ∀ xs, r = .l xs -> ∀ a, v = .ref a -> s.heap.get? a ≠ none := fun xs q a q2 z => by
 rw [q] at R
 obtain ⟨b, vs, n, e, ho, _⟩ := R
 exact sn z (Value.ref.inj (q2.symm.trans e) ▸ ho)
theorem znk {r : RV} {v : Value} {rs : List RV} {vs : List Value} {ρ1 : Rho} {s1 : Shared} (R : RVR Ω ρ1 s s1 r v) (G1 : Go [] ρ s ρ1 s1) (G2 : Go [] ρ1 s1 ρ' s') (R2 : RVRc Ω ρ' s' s1 rs vs) : RVRc Ω ρ' s' s (r :: rs) (v :: vs) :=
 ⟨v, vs, s1, rfl, R.go G2, goLt G1, goLt G2, notL R, R2⟩
theorem zpb {e : FE} {es : List FE} {r : List RV × Hp} (h : evs cx fl (e :: es) hp = some r) {G : Prop} (k : ∀ x xs, ev cx fl e hp = some x -> evs cx fl es x.2 = some xs -> (x.1 :: xs.1, xs.2) = r -> G) : G := by
 obtain ⟨x, h1, h⟩ := bd_t h
 obtain ⟨xs, h2, h⟩ := bd_t h
 exact k x xs h1 h2 (prf h)
theorem zuf {pos : Pos} {es : List FE} : ∀ {hp : Hp} {rs : List RV × Hp} {ρ : Rho} {s : Shared} {Q : List Value -> Shared -> Prop}, (∀ e ∈ es, EOk Ω cx Rm e) -> wEs Ω.nms.length D.sc es = true -> Here Ω Rm D fl hp ρ s -> evs cx fl es hp = some rs ->
 PostL Ω Rm D fl ρ s rs Q -> WP Ω D (spliced (backTo pos (starEach (tEs (nmOf Ω) es) D.env))) Q s := by
 induction es with
 | nil => exact fun _ _ h e hQ => wpAny_items_nil (hQ _ _ [] (prf e ▸ h) (Go.refl _ _ _) (prf e ▸ rfl))
 | cons e es ih =>
  exact fun I W h he hQ => zpb he fun x xs q1 q2 q => wpAny_items_cons (I e (.head _) (zab W).1 h q1 fun ρ1 s1 v h1 G1 R1 => ih (fun e' h => I e' (.tail _ h)) (zab W).2 h1 q2 fun ρ2 s2 vs h2 G2 R2 =>
   hQ ρ2 s2 (v :: vs) (q ▸ h2) (G1.trans0 G2) (q ▸ znk R1 G1 G2 R2)) (zi7 _ e _ D.env)
theorem zsf {α β : Type} {l : List α} {e : β} {es : List β} (h : Nat.beq (len l) (len (e :: es)) = true) {G : List α -> Prop} (k : ∀ x t, Nat.beq (len t) (len es) = true -> G (x :: t)) : G l := by
 cases l with
 | nil => exact ff h
 | cons x t => exact k x t h
theorem len_n {α β : Type} {l : List α} (h : Nat.beq (len l) (len ([] : List β)) = true) {G : List α -> Prop} (k : G []) : G l := by
 cases l with
 | nil => exact k
 | cons x t => exact ff h
noncomputable abbrev KW (Ω : Bx) (pos : Pos) (env : Env) (kn : List Nat) (es : List FE) (kp : List Nat) : List (Option Str × Sem Value) := backToKw pos (keywordEach (kwds (nmOf Ω) kn (tEs (nmOf Ω) es) kp) env)
theorem kws_ok {pos : Pos} {es : List FE} : ∀ {kn kp : List Nat} {hp : Hp} {rs : List RV × Hp} {ρ : Rho} {s : Shared} {Q : List Value -> Shared -> Prop}, Nat.beq (len kn) (len es) = true -> Nat.beq (len kp) (len es) = true -> (∀ e ∈ es, EOk Ω cx Rm e) -> wEs Ω.nms.length D.sc es = true -> Here Ω Rm D fl hp ρ s -> evs cx fl es hp = some rs ->
 PostL Ω Rm D fl ρ s rs Q -> WP Ω D (evalAll ((KW Ω pos D.env kn es kp).map (·.2))) Q s := by
 induction es with
 | nil => exact fun {kn kp} _ _ _ _ Q l1 l2 _ _ h e hQ => len_n (G := fun kn => WP Ω D (evalAll ((KW Ω pos D.env kn [] kp).map (·.2))) Q _) l1 (kwAll_nil (hQ _ _ [] (prf e ▸ h) (Go.refl _ _ _) (prf e ▸ rfl)))
 | cons e es ih =>
  exact fun {kn kp} _ _ _ _ Q l1 l2 I W h he hQ => zpb he fun x xs q1 q2 q => zsf (G := fun kn => WP Ω D (evalAll ((KW Ω pos D.env kn (e :: es) kp).map (·.2))) Q _) l1 fun y kn l1 => zsf (G := fun kp => WP Ω D (evalAll ((KW Ω pos D.env (y :: kn) (e :: es) kp).map (·.2))) Q _) l2 fun p kp l2 =>
   kwAll_cons (I e (.head _) (zab W).1 h q1 fun ρ1 s1 v h1 G1 R1 => ih l1 l2 (fun e' h => I e' (.tail _ h)) (zab W).2 h1 q2 fun ρ2 s2 vs h2 G2 R2 =>
    hQ ρ2 s2 (v :: vs) (q ▸ h2) (G1.trans0 G2) (q ▸ znk R1 G1 G2 R2))
theorem zb5 {α β : Type} {l : List (Option α × β)} : ∀ {m : List α}, l.map (·.1) = m.map some -> l.filterMap (·.1) = m /\ l.all (·.1.isSome) = true /\ l.any (·.1.isNone) = false /\ l.length = m.length := by
 induction l with
 | nil => intro m h; cases m with | nil => exact ⟨rfl, rfl, rfl, rfl⟩ | cons _ _ => cases h
 | cons x l ih =>
  intro m h
  cases m with
  | nil => cases h
  | cons y m =>
   obtain ⟨h1, h2, h3, h4⟩ := ih (List.cons.inj h).2
   have e := (List.cons.inj h).1
   refine ⟨?_, ?_, ?_, congrArg (· + 1) h4⟩
   · rw [List.filterMap_cons, show x.1 = some y from e, h1]
   · rw [List.all_cons, show x.1 = some y from e, h2]; rfl
   · rw [List.any_cons, show x.1 = some y from e, h3]; rfl
theorem zgi {pos : Pos} {env : Env} {es : List FE} : ∀ {kn kp : List Nat}, Nat.beq (len kn) (len es) = true -> Nat.beq (len kp) (len es) = true -> (KW Ω pos env kn es kp).map (·.1) = (kn.map (nmOf Ω)).map some := by
 induction es with
 | nil => exact fun {kn kp} l1 l2 => len_n (G := fun kn => (KW Ω pos env kn [] kp).map (·.1) = (kn.map (nmOf Ω)).map some) l1 rfl
 | cons e es ih => exact fun {kn kp} l1 l2 => zsf (G := fun kn => (KW Ω pos env kn (e :: es) kp).map (·.1) = (kn.map (nmOf Ω)).map some) l1 fun y kn l1 => zsf (G := fun kp => (KW Ω pos env (y :: kn) (e :: es) kp).map (·.1) = ((y :: kn).map (nmOf Ω)).map some) l2 fun p kp l2 => congrArg (some (nmOf Ω y) :: ·) (ih l1 l2)
theorem kw_len {pos : Pos} {env : Env} {es : List FE} {kn kp : List Nat} (l1 : Nat.beq (len kn) (len es) = true) (l2 : Nat.beq (len kp) (len es) = true) : (KW Ω pos env kn es kp).length = es.length := by
 rw [(zb5 (zgi l1 l2)).2.2.2, List.length_map, ← zag, ← zag]; exact zam l1
theorem zp3 {pos : Pos} {f : Value} {es ks : List FE} {kn kp : List Nat} {xs ys : List RV × Hp} {Q : Args -> Shared -> Prop} (l1 : Nat.beq (len kn) (len ks) = true) (l2 : Nat.beq (len kp) (len ks) = true)
 (I : ∀ e ∈ es, EOk Ω cx Rm e) (I' : ∀ e ∈ ks, EOk Ω cx Rm e) (W : wEs Ω.nms.length D.sc es = true) (W' : wEs Ω.nms.length D.sc ks = true) (h : Here Ω Rm D fl hp ρ s)
 (e1 : evs cx fl es hp = some xs) (e2 : evs cx fl ks xs.2 = some ys)
 (hQ : ∀ ρ' s' vs us, Here Ω Rm D fl ys.2 ρ' s' -> Go [] ρ s ρ' s' -> RVRc Ω ρ' s' s (xs.1 ++ ys.1) (vs ++ us) -> vs.length = xs.1.length -> Q ⟨vs, (kn.map (nmOf Ω)).zip us⟩ s') :
 WP Ω D (evalArgs f true (backTo pos (starEach (tEs (nmOf Ω) es) D.env)) (KW Ω pos D.env kn ks kp)) Q s := by
 have rest : ∀ {ρ1 : Rho} {s1 : Shared} {vs : List Value}, Here Ω Rm D fl xs.2 ρ1 s1 -> Go [] ρ s ρ1 s1 -> RVRc Ω ρ1 s1 s xs.1 vs -> WP Ω D (evalAll ((KW Ω pos D.env kn ks kp).map (·.2))) (fun us s2 => Q ⟨vs, ((KW Ω pos D.env kn ks kp).filterMap (·.1)).zip us⟩ s2) s1 := fun h1 G1 R1 =>
  kws_ok l1 l2 I' W' h1 e2 fun ρ2 s2 us h2 G2 R2 => (zb5 (zgi l1 l2)).1 ▸ hQ ρ2 s2 _ us h2 (G1.trans0 G2) (RVRc.append G2 R2 R1 (goLt G1)) R1.len
 cases es with
 | nil => exact evalArgs_kw2_nil (zb5 (zgi l1 l2)).2.1 (rest (prf e1 ▸ h) (Go.refl _ _ _) (prf e1 ▸ rfl))
 | cons e es => exact evalArgs_kw2 (zb5 (zgi l1 l2)).2.1 (zuf I W h e1 fun ρ1 s1 vs h1 G1 R1 => rest h1 G1 R1) (zi7 _ e _ D.env)

theorem k2_t {o : Option Nat} (h : byO o (fun k => Nat.ble k 2) false = true) : o = some 0 ∨ o = some 1 ∨ o = some 2 := by
 cases o with
 | none => exact ff h
 | some k => match k, h with
  | 0, _ => exact .inl rfl
  | 1, _ => exact .inr (.inl rfl)
  | 2, _ => exact .inr (.inr rfl)
theorem lv_t {sc : List (Nat × Nat)} {x : Nat} (h : lv sc x = true) : look sc x = some 0 ∨ look sc x = some 1 ∨ look sc x = some 2 := k2_t h
theorem call_by {M : Model} {A : Around} {E : Value -> Shared -> Prop} {nm : Nat -> Str} {env : Env} {f : FE} {args : List Expr} {kws : List Keyword} {p : Pos} {Q : Value -> Shared -> Prop} (w : zuw f = true)
 (h : wpAny M A (eval (tE nm f) env) (fun v s1 => wpAny M A (callWith p v [] (backTo p (starEach args env)) (backToKw p (keywordEach kws env))) Q E s1) E s) : wpAny M A (eval (.Call (tE nm f) args kws p) env) Q E s := by
 cases f with
 | var x q => exact wpAny_Call_Name_kw h
 | glo x q => exact wpAny_Call_Name_kw h
 | _ => exact ff w
section
variable {env : Env} {sc : List (Nat × Nat)} {fa : List Addr} {A : Around} {E : Value -> Shared -> Prop} {Q : Value -> Shared -> Prop} {x p : Nat} {v : V}
theorem zn4 (C : CT Ω cx Rm) (hl : look fl x = some v) (hlv : lv sc x = true) (K : KN Ω env sc) (F : FR Ω env fa fl ρ s) (hQ : ∀ u, VR ρ s.heap v u -> Q u s) :
 wpAny Ω.M A (loadName env (nmOf Ω x)) Q E s := by
 have hx := F.ids x v hl
 have cell : (env.kindOf (nmOf Ω x) = some .cell ∨ env.kindOf (nmOf Ω x) = some .free) -> wpAny Ω.M A (loadName env (nmOf Ω x)) Q E s := by
  intro hk
  obtain ⟨c, u, h1, h2, _, _, h5⟩ := F.cel x v hl hk
  exact hk.elim (fun hk => wpAny_loadName_cell F.kind hk h1 h2 (hQ u h5)) fun hk => wpAny_loadName_free F.kind hk h1 h2 (hQ u h5) (C.dbg x hx).2
 rcases lv_t hlv with q | q
 · obtain ⟨m, hn, hm⟩ := F.ns
   obtain ⟨u, h1, h2⟩ := hm x v hl (K.loc x q)
   exact wpAny_loadName_local F.kind (K.loc x q) hn h1 (hQ u h2)
 · exact cell (K.cel x q).1
theorem zka (C : CT Ω cx Rm) (hl : look fl x = some v) (hlv : lv sc x = true) (K : KN Ω env sc) (F : FR Ω env fa fl ρ s) (hQ : ∀ u, VR ρ s.heap v u -> Q u s) :
 wpAny Ω.M A (eval (.Name (nmOf Ω x) (pos p)) env) Q E s :=
 wpAny_Name (zn4 C hl hlv K F hQ) (C.dbg x (F.ids x v hl)).1
theorem zqa (C : CT Ω cx Rm) (hl : look cx.glo x = some v) (hg : look sc x = some 4) (K : KN Ω env sc) (H : HS Ω ρ hp s) (F : FR Ω env fa fl ρ s) (hQ : ∀ u, VR ρ s.heap v u -> Q u s) :
 wpAny Ω.M A (eval (.Name (nmOf Ω x) (pos p)) env) Q E s := by
 obtain ⟨hx, u, hu, hld⟩ := C.glo x v hl
 exact wpAny_Name ((loadName_read F.kind (K.glo x hx hg)).symm ▸ hld F.glob F.blt H.base (hQ u (hu _ _))) (C.dbg x hx).1
theorem zfv {fa : List Addr} (G : Go fa ρ₀ s₀ ρ s) {h' : Heap} {t : Nat} (k : ∀ b o, s.heap.get? b = some o -> h'.get? b = some o) : Go fa ρ₀ s₀ ρ { s with heap := h', toks := t } := G.trans0 (Go.keeps [] ρ s k)
theorem zef {r : RV × Hp} (h : Here Ω Rm D fl r.2 ρ s) (G : Go [] ρ₀ s₀ ρ s) (hQ : zj9 Ω Rm D fl ρ₀ s₀ r Q) : Kq Ω ρ s₀ s r.1 Q :=
 fun v h' t k R => hQ ρ _ v (h.go (Go.keeps [] ρ s k) (h.H.heap k)) (zfv G k) R
theorem base_none (H : HS Ω ρ hp s) : ∀ a, s.heap.get? a = none -> Ω.h₀.get? a = none := fun a h => H.base_none h
theorem zdr {o : FE} (h : zkz o = true) (x : Str) (env : Env) (m : Sem Value) : attributeBase (tE (nmOf Ω) o) x env m = m := by
 cases o with
 | call f as kn ks kp p => cases as with
  | cons a as => cases f <;> rfl
  | nil => exact ff h
 | _ => rfl
theorem zi4 {value slice : Expr} {o i : Value} {T id : String} (hT : s.TypeIs o T) (hl : typeLookup (.type T) "__getitem__" = pure (some (.builtin id))) (h : wpAny Ω.M A (getItem o i) Q E s)
 (hs : subscripted slice false o i = operate [o, i] (getItem o i) ∨ subscripted slice false o i = operate [i, o] (getItem o i)) : wpAny Ω.M A (subscriptTail value slice o i) Q E s := by
 unfold subscriptTail
 refine wpAny_bind ?_
 rw [getitemInPython_of_ne hT.not_modules]
 refine wpAny_bind (wpAny_specialOf hT hl ?_)
 have fin : wpAny Ω.M A (subscripted slice false o i) (fun r s₃ => wpAny Ω.M A (letTemporaryGo value o r >>= fun _ => pure r) Q E s₃) E s := by
  rcases hs with hs | hs <;> rw [hs] <;> exact wpAny_operating (wpAny_mono h (fun r s₃ h₃ => wpAny_bind (wpAny_letTemporaryGo (wpAny_pure h₃))) fun _ _ x => x)
 first
  | exact wpAny_pure (wpAny_bind fin)
  | exact wpAny_bind (wpAny_pure (wpAny_bind fin))
  | exact wpAny_bind fin
theorem zmv (nm : Nat -> Str) (i : FE) (o v : Value) : subscripted (tE nm i) false o v = operate [o, v] (getItem o v) := by cases i <;> rfl
end
theorem ziq (nm : Nat -> Str) (e : FE) (env : Env) (x : Value) : foldedSetIterable (tE nm e) env x = pure x := by cases e <;> rfl
theorem few_ok {pos : Pos} {env : Env} {es ks : List FE} {kn kp : List Nat} (l1 : Nat.beq (len kn) (len ks) = true) (l2 : Nat.beq (len kp) (len ks) = true) (h : ltB (len es + len ks + 1) 30 = true) :
 methodCallForm (es.length + ks.length) (backTo pos (starEach (tEs (nmOf Ω) es) env)) (KW Ω pos env kn ks kp) = true := by
 have h : es.length + ks.length + 1 < 30 := by rw [← zag, ← zag]; exact zfl h
 unfold methodCallForm
 rw [(zb5 (zgi l1 l2)).2.1, List.all_eq_not_any_not, show (backTo pos (starEach (tEs (nmOf Ω) es) env)).any (fun x => !!x.1) = false from (congrArg (fun f => List.any _ f) (funext fun x => Bool.not_not _)).trans (zek pos (nmOf Ω) env es)]
 refine decide_eq_true (Nat.lt_of_le_of_lt (Nat.add_le_add_left ?_ _) h)
 split
 · exact Nat.zero_le 1
 · exact Nat.le_refl 1
theorem zjp {kn : List Nat} : ∀ {ys : List RV}, Nat.beq (len kn) (len ys) = true -> (kn.zip ys).map (fun p => nmOf Ω p.1) = kn.map (nmOf Ω) /\ (kn.zip ys).map (·.2) = ys := by
 induction kn with
 | nil => intro ys h; cases ys with | nil => exact ⟨rfl, rfl⟩ | cons _ _ => exact ff h
 | cons x kn ih =>
  intro ys h
  cases ys with
  | nil => exact ff h
  | cons y ys => exact ⟨congrArg (nmOf Ω x :: ·) (ih h).1, congrArg (y :: ·) (ih h).2⟩
theorem zpa {es : List FE} : ∀ {hp : Hp} {rs : List RV × Hp}, evs cx fl es hp = some rs -> len rs.1 = len es := by
 induction es with
 | nil => exact fun h => prf h ▸ rfl
 | cons e es ih => exact fun h => zpb h fun x xs q1 q2 q => q ▸ congrArg (· + 1) (ih q2)
theorem arg_e {as ks : EsT} {k : List RV -> List RV -> Hp -> Option (RV × Hp)} {r : RV × Hp} (h : hArg as ks k hp = some r) {G : Prop} (f : ∀ xs ys, as hp = some xs -> ks xs.2 = some ys -> k xs.1 ys.1 ys.2 = some r -> G) : G := by
 obtain ⟨xs, h1, h⟩ := bd_t h
 obtain ⟨ys, h2, h⟩ := bd_t h
 exact f xs ys h1 h2 h
theorem znp {env : Env} {pos : Pos} {as ks : List FE} {kn kp : List Nat} (l1 : Nat.beq (len kn) (len ks) = true) (l2 : Nat.beq (len kp) (len ks) = true) : ((backTo pos (starEach (tEs (nmOf Ω) as) env)).any (·.1) || (KW Ω pos env kn ks kp).any (·.1.isNone)) = false := by
 rw [zek, (zb5 (zgi l1 l2)).2.2.1]; rfl
theorem cw_ok {pos : Pos} {f : Value} {first : List Value} {as ks : List FE} {kn kp : List Nat} {xs ys : List RV × Hp} {Q : Value -> Shared -> Prop} (l1 : Nat.beq (len kn) (len ks) = true) (l2 : Nat.beq (len kp) (len ks) = true) (I : ∀ e ∈ as, EOk Ω cx Rm e) (I' : ∀ e ∈ ks, EOk Ω cx Rm e)
 (W : wEs Ω.nms.length D.sc as = true) (W' : wEs Ω.nms.length D.sc ks = true) (w : allB (fun x => ltB x Ω.nms.length) kn = true) (h : Here Ω Rm D fl hp ρ s) (e1 : evs cx fl as hp = some xs) (e2 : evs cx fl ks xs.2 = some ys)
 (k : ∀ {ρ2 s2 vs us}, Here Ω Rm D fl ys.2 ρ2 s2 -> Go [] ρ s ρ2 s2 -> (∀ p ∈ kn.zip ys.1, p.1 < Ω.nms.length) -> RVRc Ω ρ2 s2 s (xs.1 ++ (kn.zip ys.1).map (·.2)) (vs ++ us) -> vs.length = xs.1.length -> zbb Ω.M s2.heap f /\ WP Ω D (call f (first ++ vs) (((kn.zip ys.1).map fun p => nmOf Ω p.1).zip us)) Q s2) :
 WP Ω D (callWith pos f first (backTo pos (starEach (tEs (nmOf Ω) as) D.env)) (KW Ω pos D.env kn ks kp)) Q s :=
 have m := zjp (Ω := Ω) (kn := kn) (ys := ys.1) (by rw [zpa e2]; exact l1)
 callWith_of (P := fun h => zbb Ω.M h f) (znp l1 l2) (fun h x => x) (zp3 l1 l2 I I' W W' h e1 e2 fun ρ2 s2 vs us h2 G2 R2 q1 =>
  m.1 ▸ k h2 G2 (fun p hp => zfl (ziw w _ (List.of_mem_zip hp).1)) (m.2.symm ▸ R2) q1)
theorem znn (h : Here Ω Rm D fl hp ρ s) {r : RV × Hp} {Q : Value -> Shared -> Prop} (hQ : zj9 Ω Rm D fl ρ s r Q) : Post Ω ρ s r.1 r.2 Q := fun ρ' s' v H G R => hQ ρ' s' v (h.go G H) G R
theorem call_ok (C : CT Ω cx Rm) {f : FE} {as ks : List FE} {kn kp : List Nat} {p : Nat} (If : EOk Ω cx Rm f) (I : ∀ e ∈ as, EOk Ω cx Rm e) (I' : ∀ e ∈ ks, EOk Ω cx Rm e) : EOk Ω cx Rm (.call f as kn ks kp p) := by
 intro D fl hp r ρ s Q W h he hQ
 obtain ⟨w1, W⟩ := zab W
 obtain ⟨w2, W⟩ := zab W
 obtain ⟨w3, W⟩ := zab W
 obtain ⟨w4, W⟩ := zab W
 obtain ⟨w5, W⟩ := zab W
 obtain ⟨w6, w7⟩ := zab W
 obtain ⟨g, q1, he⟩ := bd_t he
 exact call_by w1 (If w2 h q1 fun ρ1 s1 v h1 G1 R1 => arg_e he fun xs ys q2 q3 he => cw_ok w5 w6 I I' w3 w4 w7 h1 q2 q3 fun h2 G2 a R2 e1 =>
  C.cal h.A h2.H (G1.trans0 G2) (base_none h.H) a he (R1.go G2) (R2.weak (goLt G1)) e1 (znn h hQ))
theorem zr7 {o : FE} {x : Nat} {as ks : List FE} {kn kp : List Nat} {ap p : Nat} {env : Env} (w1 : zkz o = true) (l1 : Nat.beq (len kn) (len ks) = true) (l2 : Nat.beq (len kp) (len ks) = true) (w8 : ltB (len as + len ks + 1) 30 = true) (w9 : Nat.beq (pos ap).endLine (pos p).line = true) :
 eval (tE (nmOf Ω) (.mcall o x as kn ks kp ap p)) env = (do
  let ov ← eval (tE (nmOf Ω) o) env
  standAt (pos ap).atName
  let (f, first) ← holding [ov] (getMethod ov (nmOf Ω x) (do return (← importBound (tE (nmOf Ω) o) env).getD true))
  callWith (pos p) f first (backTo (pos p) (starEach (tEs (nmOf Ω) as) env)) (KW Ω (pos p) env kn ks kp)) := by
 have e1 : (tEs (nmOf Ω) as).length + (kwds (nmOf Ω) kn (tEs (nmOf Ω) ks) kp).length = as.length + ks.length := by
  have : (keywordEach (kwds (nmOf Ω) kn (tEs (nmOf Ω) ks) kp) env).length = (kwds (nmOf Ω) kn (tEs (nmOf Ω) ks) kp).length := by
   generalize kwds (nmOf Ω) kn (tEs (nmOf Ω) ks) kp = l
   induction l with
   | nil => rfl
   | cons a l ih => cases a; exact congrArg (· + 1) ih
  rw [zog, ← this, ← kw_len (Ω := Ω) (pos := pos p) (env := env) l1 l2]
  exact congrArg (as.length + ·) (List.length_map _).symm
 have e3 : methodCallPos true (tE (nmOf Ω) o) env (pos ap) (pos p) = pure (pos p) := by
  unfold methodCallPos
  rw [zam w9]
  exact if_pos ((Bool.or_eq_true _ _).mpr (.inr (beq_self_eq_true _)))
 show (do
  let ov ← attributeBase (tE (nmOf Ω) o) (nmOf Ω x) env (eval (tE (nmOf Ω) o) env)
  standAt (pos ap).atName
  methodCall (tE (nmOf Ω) o) (nmOf Ω x) (pos ap) (pos p) env ov ((tEs (nmOf Ω) as).length + (kwds (nmOf Ω) kn (tEs (nmOf Ω) ks) kp).length) (backTo (pos p) (starEach (tEs (nmOf Ω) as) env)) (KW Ω (pos p) env kn ks kp)) = _
 rw [zdr w1, e1]
 unfold methodCall
 rw [few_ok l1 l2 w8, e3]
 rfl
theorem zr6 (C : CT Ω cx Rm) {o : FE} {x : Nat} {as ks : List FE} {kn kp : List Nat} {ap p : Nat} (If : EOk Ω cx Rm o) (I : ∀ e ∈ as, EOk Ω cx Rm e) (I' : ∀ e ∈ ks, EOk Ω cx Rm e) : EOk Ω cx Rm (.mcall o x as kn ks kp ap p) := by
 intro D fl hp r ρ s Q W h he hQ
 obtain ⟨w0, W⟩ := zab W
 obtain ⟨w1, W⟩ := zab W
 obtain ⟨w2, W⟩ := zab W
 obtain ⟨w3, W⟩ := zab W
 obtain ⟨w4, W⟩ := zab W
 obtain ⟨w5, W⟩ := zab W
 obtain ⟨w6, W⟩ := zab W
 obtain ⟨w7, W⟩ := zab W
 obtain ⟨w8, w9⟩ := zab W
 obtain ⟨g, q1, he⟩ := bd_t he
 obtain ⟨k, qk, he⟩ := bd_t he
 show WP Ω D (eval _ D.env) Q s
 rw [zr7 w1 w5 w6 w8 w9]
 refine wpAny_bind (If w2 h q1 fun ρ1 s1 v h1 G1 R1 => ?_)
 obtain ⟨f, first, hm, hget⟩ := C.meth (zfl w0) qk h1.H R1
 exact wpAny_bind (wpAny_standAt (wpAny_bind (wpAny_holding (hget (arg_e he fun xs ys q2 q3 he => cw_ok w5 w6 I I' w3 w4 w7 h1 q2 q3 fun h2 G2 a R2 e1 =>
  C.mcall h.A h2.H (G1.trans0 G2) (base_none h.H) a he (hm.go G2) (R2.weak (goLt G1)) e1 (znn h hQ))))))
end
end
section

section
variable {Ω : Bx} {cx : Cx} {Rm : Around -> Prop} {env : Env} {sc : List (Nat × Nat)} {fl fl' : L} {fa : List Addr} {hp : Hp} {ρ ρ₀ : Rho} {s s' s₀ : Shared} {A : Around} {E : Value -> Shared -> Prop} {x : Nat} {v : V} {u : Value}

theorem znl {y : Nat} {v' : V} (h : look (put fl x v) y = some v') : (y = x /\ v = v') ∨ (y ≠ x /\ look fl y = some v') := by
 rw [zaa] at h
 by_cases q : y = x
 · rw [if_pos q] at h; exact .inl ⟨q, prf h⟩
 · rw [if_neg q] at h; exact .inr ⟨q, h⟩
theorem zgg {x : Addr} {h' : Heap} {t : Nat} {o : Obj} (ho : s.heap.get? x = some o) (hi : ¬ Imm o) (hs : Heap.SameBut x s.heap h') (hb : AllBare s.gens) : Ch [x] [] s { s with heap := h', toks := t } :=
 zj5 (.head _) ho hi (fun b o q e => (hs.2 b q).trans e) hb
theorem zuk {x : Addr} {h' : Heap} {t : Nat} {o : Obj} (ho : s.heap.get? x = some o) (hi : ¬ Imm o) (hs : Heap.SameBut x s.heap h') (hx : x ∈ fa) (hl : ∃ o, h'.get? x = some o) : Go fa ρ s ρ { s with heap := h', toks := t } :=
 zo3 fa (fun b o e _ n2 => (hs.2 b fun q => n2 (q ▸ hx)).trans e) (zf2 hs ho hi) (zlh hs hl) rfl rfl
theorem zk3 {x : Addr} {h' : Heap} (F : FR Ω env fa fl ρ s) (hs : Heap.SameBut x s.heap h') (hx : ∃ o, h'.get? x = some o /\ ¬ Imm o) : ∀ a ∈ fa, ∃ o, h'.get? a = some o /\ ¬ Imm o := fun a ha => by
 by_cases q : a = x
 · rw [q]; exact hx
 · exact (F.live a ha).elim fun o h => ⟨o, (hs.2 a q).trans h.1, h.2⟩
noncomputable def LocR (Ω : Bx) (ρ : Rho) (h : Heap) (m : Str -> Option Value) (x : Nat) (v : V) : Prop := ∃ v', m (nmOf Ω x) = some v' /\ VR ρ h v v'
noncomputable def CelR (Ω : Bx) (env : Env) (fa : List Addr) (ρ : Rho) (h : Heap) (x : Nat) (v : V) : Prop := ∃ c v', env.cells.lookup (nmOf Ω x) = some c /\ h.IsCell c (some v') /\ c ∈ fa /\ c ≠ env.locals /\ VR ρ h v v'
theorem zuz (F : FR Ω env fa fl ρ s) (hx : x < Ω.nms.length) (live : ∀ a ∈ fa, ∃ o, s'.heap.get? a = some o /\ ¬ Imm o) {m : Str -> Option Value} (hn : s'.heap.Ns env.locals m)
 (h1 : env.kindOf (nmOf Ω x) = some .local -> LocR Ω ρ s'.heap m x v) (h2 : ∀ y v, y ≠ x -> look fl y = some v -> env.kindOf (nmOf Ω y) = some .local -> LocR Ω ρ s'.heap m y v)
 (h3 : env.kindOf (nmOf Ω x) = some .cell ∨ env.kindOf (nmOf Ω x) = some .free -> CelR Ω env fa ρ s'.heap x v) (h4 : ∀ y v, y ≠ x -> look fl y = some v -> env.kindOf (nmOf Ω y) = some .cell ∨ env.kindOf (nmOf Ω y) = some .free -> CelR Ω env fa ρ s'.heap y v) : FR Ω env fa (put fl x v) ρ s' :=
 ⟨F.kind, F.glob, F.blt, fun y v' h => (znl h).elim (fun q => q.1 ▸ hx) fun q => F.ids y v' q.2,
  ⟨m, hn, fun y v' h hy => (znl h).elim (fun q => by rw [← q.2, q.1]; exact h1 (q.1 ▸ hy)) fun q => h2 y v' q.1 q.2 hy⟩,
  fun y v' h hy => (znl h).elim (fun q => by rw [← q.2, q.1]; exact h3 (q.1 ▸ hy)) fun q => h4 y v' q.1 q.2 hy, F.loc, F.disj, live⟩
theorem zee {h : Heap} {a : Addr} {m : Str -> Option Value} (hn : h.Ns a m) : ∃ o, h.get? a = some o /\ ¬ Imm o := by
 obtain ⟨o, es, ep, ho, hr⟩ := hn
 exact ⟨o, ho, by simp [Imm, hr.1]⟩
theorem ziu {h : Heap} {a : Addr} {v : Option Value} (hn : h.IsCell a v) : ∃ o, h.get? a = some o /\ ¬ Imm o := by
 obtain ⟨o, ho, hd⟩ := hn
 exact ⟨o, ho, by simp [Imm, hd]⟩
theorem ze7 (C : CT Ω cx Rm) (hb : Ω.h₀.get? env.locals = none) (K : KN Ω env sc) (hx : x < Ω.nms.length) (hk : look sc x = some 0) (H : HS Ω ρ hp s) (F : FR Ω env fa fl ρ s) (R : VR ρ s.heap v u) {Q : Unit -> Shared -> Prop}
 (hQ : ∀ h' t, Heap.SameBut env.locals s.heap h' -> HS Ω ρ hp { s with heap := h', toks := t } -> Go fa ρ s ρ { s with heap := h', toks := t } -> FR Ω env fa (put fl x v) ρ { s with heap := h', toks := t } -> Q () { s with heap := h', toks := t }) :
 wpAny Ω.M A (storeName env (nmOf Ω x) u) Q E s := by
 obtain ⟨m, hn, hm⟩ := F.ns
 obtain ⟨ol, hol, hil⟩ := F.live _ F.loc
 have kl := K.loc x hk
 refine wpAny_storeName_local kl hn (fun h' hn' hs => ?_) (by rw [F.kind]; rfl)
 have ch := zgg (t := s.toks + 1) hol hil hs H.gens
 have lv := zee hn'
 refine hQ h' _ hs (zil H ch (mem1 (F.disj _ F.loc)) (mem1 hb)) (zuk hol hil hs F.loc (lv.elim fun o h => ⟨o, h.1⟩)) (zuz F hx (zk3 F hs lv) hn' (fun _ => ⟨u, if_pos rfl, VR.mono (Ext.refl ρ) ch.imm _ _ R⟩) (fun y v' q h hy => ?_) (fun hy => ?_) fun y v' q h hy => ?_)
 · obtain ⟨w, h1, h2⟩ := hm y v' h hy
   exact ⟨w, (if_neg fun e => q (C.inj y x (F.ids y v' h) hx e)).trans h1, VR.mono (Ext.refl ρ) ch.imm _ _ h2⟩
 · rw [kl] at hy; exact hy.elim nofun nofun
 · obtain ⟨c, w, h1, ⟨oc, h2, h2'⟩, h3, h4, h5⟩ := F.cel y v' h hy
   exact ⟨c, w, h1, ⟨oc, (hs.2 c h4).trans h2, h2'⟩, h3, h4, VR.mono (Ext.refl ρ) ch.imm _ _ h5⟩
theorem zqz (C : CT Ω cx Rm) (K : KN Ω env sc) (hx : x < Ω.nms.length) (hk : look sc x = some 0 ∨ look sc x = some 1) (H : HS Ω ρ hp s) (F : FR Ω env fa fl ρ s) (FF : FC Ω env fa s) (R : VR ρ s.heap v u) {Q : Unit -> Shared -> Prop}
 (hQ : ∀ s', HS Ω ρ hp s' -> Go fa ρ s ρ s' -> FR Ω env fa (put fl x v) ρ s' -> FC Ω env fa s' -> Q () s') :
 wpAny Ω.M A (storeName env (nmOf Ω x) u) Q E s := by
 rcases hk with hk | hk
 · refine ze7 C (FF.base _ F.loc) K hx hk H F R fun h' t hs H' G' F' => hQ _ H' G' F' ⟨fun y c h1 h2 => ?_, FF.apart, FF.has, FF.base⟩
   obtain ⟨h3, h4, v, o, h5, h6⟩ := FF.own y c h1 h2
   exact ⟨h3, h4, v, o, (hs.2 c h4).trans h5, h6⟩
 · have hkc := K.one x hk
   obtain ⟨c, hc⟩ := FF.has x hx hkc
   obtain ⟨h3, h4, v0, hv0⟩ := FF.own x c hx hc
   obtain ⟨oc, hoc, hic⟩ := F.live c h3
   refine wpAny_storeName_cell F.kind hkc hc hv0 fun h' hcell hs => ?_
   have ch := zgg (t := s.toks) hoc hic hs H.gens
   have lv := ziu hcell
   obtain ⟨m, hn, hm⟩ := F.ns
   refine hQ { s with heap := h' } (zil H ch (mem1 (F.disj _ h3)) (mem1 (FF.base _ h3))) (zuk (t := s.toks) hoc hic hs h3 (lv.elim fun o h => ⟨o, h.1⟩))
    (zuz F hx (zk3 F hs lv) (hn.sameBut hs (Ne.symm h4)) (fun hy => ?_) (fun y v' q h hy => ?_) (fun _ => ⟨c, u, hc, hcell, h3, h4, VR.mono (Ext.refl ρ) ch.imm _ _ R⟩) fun y v' q h hy => ?_) ⟨fun y d h1 h2 => ?_, FF.apart, FF.has, FF.base⟩
   · rw [hkc] at hy; exact absurd hy nofun
   · obtain ⟨w, h1, h2⟩ := hm y v' h hy
     exact ⟨w, h1, VR.mono (Ext.refl ρ) ch.imm _ _ h2⟩
   · obtain ⟨d, w, h1, ⟨od, h2, h2'⟩, h3', h4', h5⟩ := F.cel y v' h hy
     exact ⟨d, w, h1, ⟨od, (hs.2 d fun e => q (FF.apart y x d (F.ids y v' h) hx h1 (e ▸ hc))).trans h2, h2'⟩, h3', h4', VR.mono (Ext.refl ρ) ch.imm _ _ h5⟩
   · obtain ⟨g1, g2, w, o, g3, g4⟩ := FF.own y d h1 h2
     by_cases q : d = c
     · rw [q]; exact ⟨h3, h4, _, hcell⟩
     · exact ⟨g1, g2, w, o, (hs.2 d q).trans g3, g4⟩

theorem zpf {it l : Addr} {vs : List Value} {n : Nat} (hne : l ≠ it) (k : Nat) : ∀ (i : Nat) (s : Shared) (Q : List Value -> Shared -> Prop), s.heap.IsListIter it l i -> s.heap.get? l = some (lstO vs n) -> i + k ≤ vs.length ->
 (∀ h', h'.IsListIter it l (i + k) -> Heap.SameBut it s.heap h' -> Q ((vs.drop i).take k) { s with heap := h' }) -> wpAny Ω.M A (draw (.ref it) k) Q E s := by
 induction k with
 | zero => exact fun i s Q hit _ _ hQ => wpAny_pure (hQ s.heap hit (Heap.SameBut.refl ..))
 | succ k ih =>
  intro i s Q hit hl hle hQ
  have hlt : i < vs.length := Nat.lt_of_lt_of_le (Nat.lt_add_of_pos_right (Nat.succ_pos k)) hle
  have e : i + (k + 1) = i + 1 + k := (Nat.add_assoc i k 1).symm.trans (Nat.add_right_comm i k 1)
  show wpAny _ _ (pyNext (.ref it) >>= _) Q E s
  refine wpAny_bind (wpAny_pyNext_list_item (items := vs.toArray) hit ⟨_, hl, rfl, _, rfl⟩ (x := vs[i]) ((List.getElem?_toArray ..).trans (List.getElem?_eq_getElem hlt)) fun h₁ hit₁ hs₁ => ?_)
  refine wpAny_bind (wpAny_holding (ih (i + 1) _ _ hit₁ ((hs₁.2 l hne).trans hl) (e ▸ hle) fun h₂ hit₂ hs₂ => wpAny_pure ?_))
  rw [List.drop_eq_getElem_cons hlt, List.take_succ_cons, e] at hQ
  exact hQ h₂ hit₂ (hs₁.trans hs₂)
theorem zi3 (hh : A.handled = none) {a : Addr} {vs : List Value} {n : Nat} (ho : s.heap.get? a = some (lstO vs n)) {Q : List Value -> Shared -> Prop} (hQ : ∀ h', (∀ b o, s.heap.get? b = some o -> h'.get? b = some o) -> Q vs { s with heap := h' }) :
 wpAny Ω.M A (unpackItems (.ref a) vs.length none) Q E s := by
 have n1 := zbi s
 have hne : a ≠ s.heap.objs.size := fun q => sn n1 (q ▸ ho)
 unfold unpackItems
 refine wpAny_bind ?_
 unfold notIterableAtAll
 refine wpAny_bind (wpAny_specialOf (tyL ho) PySem.F.slot_list_iter.lookup (wpAny_pure ?_))
 simp only [Bool.false_eq_true, if_false]
 refine wpAny_bind (wpAny_holding (wpAny_pyIter_list (items := vs.toArray) ⟨_, ho, rfl, _, rfl⟩ ?_))
 refine wpAny_bind (wpAny_holding (zpf hne vs.length 0 _ _ ⟨_, Heap.get?_push_size _ rfl, rfl, rfl⟩ (Heap.get?_push_of_some _ ho) (Nat.le_of_eq (Nat.zero_add _)) fun h₁ hit₁ hs₁ => ?_))
 rw [List.drop_zero, List.take_length, if_neg (Nat.lt_irrefl _)]
 refine wpAny_bind (wpAny_holding (wpAny_pyNext_list_end (items := vs.toArray) hh hit₁ ⟨_, (hs₁.2 a hne).trans (Heap.get?_push_of_some _ ho), rfl, _, rfl⟩ (Array.getElem?_eq_none (Nat.le_of_eq (Nat.zero_add _).symm)) fun h₂ he₂ => ?_))
 simp only [Option.isSome_none, Bool.false_eq_true, if_false]
 exact wpAny_pure (hQ h₂ fun b o e => have hb : b ≠ s.heap.objs.size := fun q => sn n1 (q ▸ e); he₂ b o hb (hs₁.extBut b o hb (Heap.get?_push_of_some _ e)))
theorem ze6 (hh : A.handled = none) (H : HS Ω ρ hp s) {r : RV} {xs : List V} (e : zff r hp = some xs) (R : RVR Ω ρ s₀ s r u) {Q : List Value -> Shared -> Prop}
 (hQ : ∀ vs h', (∀ b o, s.heap.get? b = some o -> h'.get? b = some o) -> VRs ρ s.heap xs vs -> Q vs { s with heap := h' }) :
 wpAny Ω.M A (unpackItems u xs.length none) Q E s := by
 obtain ⟨a, vs, n, rfl, ho, hv, _⟩ := zrp H e R
 rw [← hv.len]
 rcases ho with ho | ho
 · exact zi3 hh ho fun h' k => hQ vs h' k hv
 · exact wpAny_unpackItems_tuple (t := a) (items := vs.toArray) hh ⟨_, ho, rfl, _, rfl⟩ fun h' he => hQ vs h' (fun b o e => he b o (fun q => sn (zbi s) (q ▸ e)) e) hv

noncomputable def Sto (Ω : Bx) (env : Env) : List (Value -> Sem Unit) -> List Nat -> Prop
 | fs, [] => fs = []
 | fs, x :: xs => ∃ f r, fs = f :: r /\ (∀ v, f v = bindName env (nmOf Ω x) v ∨ ∃ p, f v = (do standAt p; bindName env (nmOf Ω x) v)) /\ Sto Ω env r xs
theorem zkf {xs : List Nat} : ∀ {ps : List Nat}, Sto Ω env ((assignEach (names (nmOf Ω) xs ps) env).map (·.2)) xs /\ (assignEach (names (nmOf Ω) xs ps) env).length = xs.length /\ (assignEach (names (nmOf Ω) xs ps) env).findIdx? (·.1) = none := by
 induction xs with
 | nil => exact ⟨rfl, rfl, rfl⟩
 | cons x r ih =>
  intro ps
  have one : ∀ {p : Pos} {ps : List Nat}, Sto Ω env ((assignEach (.Name (nmOf Ω x) p :: names (nmOf Ω) r ps) env).map (·.2)) (x :: r) /\ (assignEach (.Name (nmOf Ω x) p :: names (nmOf Ω) r ps) env).length = (x :: r).length /\ (assignEach (.Name (nmOf Ω x) p :: names (nmOf Ω) r ps) env).findIdx? (·.1) = none :=
   ⟨⟨_, _, rfl, fun v => .inr ⟨_, rfl⟩, (ih (ps := _)).1⟩, congrArg (· + 1) ih.2.1, (List.findIdx?_cons ..).trans (congrArg (Option.map (· + 1)) ih.2.2)⟩
  cases ps with
  | nil => exact one
  | cons p t => exact one
theorem zm0 {xs : List Nat} : Sto Ω env ((xs.map (nmOf Ω)).map fun n => bindName env n) xs := by
 induction xs with
 | nil => exact rfl
 | cons x r ih => exact ⟨_, _, rfl, fun v => .inl rfl, ih⟩
theorem zlx {xs : List Nat} {vs : List V} (h : za7 (x :: xs) vs fl = some fl') {G : List V -> Prop} (k : ∀ v t, za7 xs t (put fl x v) = some fl' -> G (v :: t)) : G vs := by
 cases vs with
 | nil => exact nn h
 | cons v t => exact k v t h
theorem zed {xs : List Nat} : ∀ {vs : List V} {fl : L}, za7 xs vs fl = some fl' -> vs.length = xs.length := by
 induction xs with
 | nil => intro vs fl h; cases vs with | nil => rfl | cons _ _ => exact nn h
 | cons x r ih => exact fun {vs _} h => zlx (G := fun vs => vs.length = (x :: r).length) h fun v t h => congrArg (· + 1) (ih h)
theorem zfh {I : L -> Shared -> Prop} {P : Nat -> Prop} (step : ∀ {x fl s v u} {Q : Unit -> Shared -> Prop}, P x -> I fl s -> VR ρ s.heap v u -> (∀ s', I (put fl x v) s' -> ImmK s.heap s'.heap -> Q () s') -> wpAny Ω.M A (storeName env (nmOf Ω x) u) Q E s)
 {xs : List Nat} : ∀ {fs : List (Value -> Sem Unit)} {vs : List V} {us : List Value} {fl : L} {s : Shared} {Q : Unit -> Shared -> Prop}, Sto Ω env fs xs -> (∀ x ∈ xs, P x) -> za7 xs vs fl = some fl' -> I fl s -> VRs ρ s.heap vs us -> (∀ s', I fl' s' -> Q () s') -> wpAny Ω.M A (assignInOrder fs us) Q E s := by
 induction xs with
 | nil =>
  intro fs vs us fl s Q hs hx h i R hQ
  cases vs with
  | cons _ _ => exact nn h
  | nil =>
   rw [show fs = [] from hs, show us = [] from R]
   exact wpAny_assignInOrder_none (hQ s (prf h ▸ i))
 | cons x r ih =>
  intro fs vs us fl s Q hs hx h i R hQ
  obtain ⟨f, fs', rfl, hf, hs⟩ := hs
  refine zlx (G := fun vs => VRs ρ s.heap vs us -> wpAny Ω.M A (assignInOrder (f :: fs') us) Q E s) h (fun v t h R => vrs_e R fun u us h1 h2 => wpAny_assignInOrder_more ?_) R
  have st : wpAny Ω.M A (bindName env (nmOf Ω x) u) (fun _ s₁ => wpAny Ω.M A (assignInOrder fs' us) Q E s₁) E s :=
   wpAny_bindName (step (hx x (.head _)) i h1 fun s1 i1 k1 => ih hs (fun y hy => hx y (.tail _ hy)) h i1 (VRs.mono (Ext.refl ρ) k1 _ _ h2) hQ)
  rcases hf u with q | ⟨p, q⟩
  · exact q ▸ st
  · exact q ▸ wpAny_bind (wpAny_standAt st)
end
end
section

section
variable {Ω : Bx} {cx : Cx} {Rm : Around -> Prop}
variable {env : Env} {sc : List (Nat × Nat)} {fl : L} {fa : List Addr} {hp hp' : Hp} {ρ ρ₀ : Rho} {s s₀ : Shared} {A : Around} {E : Value -> Shared -> Prop}

noncomputable def CTurn (M : Model) (A : Around) (target : Expr) (env : Env) (tests : Sem Bool) (elt : Sem Value) (it acc : Value) (N : Shared -> Prop) (Z : Shared -> Prop) (E' : Value -> Shared -> Prop) (s : Shared) : Prop :=
 wpAny M A (pyNext it) (fun r s₁ => byO r (fun v => wpAny M A (letOwnedTupleGo target it v) (fun _ s₁' => wpAny M A (assign target env v) (fun _ s₂ => wpAny M A tests (fun ok s₃ =>
  if ok = true then wpAny M A elt (fun x s₄ => wpAny M A (call (.builtin "list.append") [acc, x]) (fun _ s₅ => Z s₅) E' s₄) E' s₃ else Z s₃) E' s₂) E' s₁') E' s₁) (N s₁)) E' s
noncomputable abbrev zua (ifs : List Expr) (env : Env) : Sem Bool := forIn ifs true fun c r => if r = true then do let ok ← isTrue c env (eval c env); pure (ForInStep.yield ok) else pure (ForInStep.yield r)
theorem zis {elt target iter : Expr} {ifs : List Expr} {scope : Scope} {pos : Pos} {it acc : Value} {R : Result -> Shared -> Prop} (I : Nat -> Shared -> Prop)
 (turn : ∀ n s, I n s -> CTurn Ω.M A target env (zua ifs env) (eval elt env) it acc (R (.ok .next)) (fun s₅ => ∃ m, m < n /\ I m s₅) (notedBy Ω.M A env fun e s' => R (.error e) s') s)
 (n : Nat) (h : I n s) : codeAny Ω.M A (.compLoop (.ListComp elt [⟨target, iter, ifs, 0⟩] scope pos) 0 it acc env) R s := by
 refine codeAny_loop rfl I (fun n s hI => ?_) n h
 have turn := turn n s hI
 show wpAny _ A ((compTurn (.ListComp elt [⟨target, iter, ifs, 0⟩] scope pos) 0 it acc env).onRaise (fun x => do noteFrame x env; theTreesLotGoes x)) _ _ s
 refine wpAny_noted ?_
 rw [compTurn_list]
 refine wpAny_bind (wpAny_standAt (wpAny_bind (wpAny_mono turn (fun r s₁ h₁ => ?_) fun _ _ h' => h')))
 cases r with
 | none => exact wpAny_pure h₁
 | some v =>
  refine wpAny_bind (wpAny_mono h₁ (fun _ s₁' h₁' => ?_) fun _ _ h' => h')
  refine wpAny_bind (wpAny_mono h₁' (fun _ s₂ h₂ => wpAny_bind (wpAny_mono h₂ (fun ok s₃ h₃ => ?_) fun _ _ h' => h')) fun _ _ h' => h')
  cases ok with
  | false => exact wpAny_pure ⟨rfl, h₃⟩
  | true => exact wpAny_bind (wpAny_bind (wpAny_mono h₃ (fun x s₄ h₄ => wpAny_bind (wpAny_mono h₄ (fun _ s₅ h₅ => wpAny_pure (wpAny_pure ⟨rfl, h₅⟩)) fun _ _ h' => h')) fun _ _ h' => h'))

theorem zfp {it : Addr} {o : Obj} {n : String} (ho : s.heap.get? it = some o) (hc : o.cls = .type n) (hn : owns n = false) {target : Expr} {v : Value} {Q : Unit -> Shared -> Prop} (hQ : Q () s) : wpAny Ω.M A (letOwnedTupleGo target (.ref it) v) Q E s := by
 have key : wpAny Ω.M A (letOwnedTupleGo (.Tuple [] 0 default) (.ref it) v) Q E s := by
  cases v with
  | ref a =>
   refine wpAny_bind (wpAny_load ho ?_)
   rw [hc]
   cases o.data with
   | fields vs =>
    show wpAny _ _ (if (owns n && _) = true then _ else _) _ _ _
    rw [hn]
    exact wpAny_pure hQ
   | _ => exact wpAny_pure hQ
  | _ => exact wpAny_pure hQ
 cases target with
 | Tuple _ _ _ => exact key
 | List _ _ => exact key
 | _ => exact wpAny_pure hQ

noncomputable def kN (env : Env) (nm : Str) (k : NameKind) : NameKind := if (k == .free && env.scope.kind == .function && env.kindOf nm == some .cell) then .cell else k
theorem zsw (x : Nat) (l : List Nat) : isIn x l = true ↔ x ∈ l := by
 induction l with
 | nil => exact ⟨fun h => ff h, nofun⟩
 | cons y r ih =>
  show cs (Nat.beq y x) true (isIn x r) = true ↔ _
  cases h : Nat.beq y x with
  | true => exact ⟨fun _ => zam h ▸ .head _, fun _ => rfl⟩
  | false => exact ⟨fun q => .tail _ (ih.mp q), fun q => (List.mem_cons.mp q).elim (fun e => absurd e.symm (zdy h)) ih.mpr⟩
theorem zg6 {x : Nat} {l : List Nat} (h : bnot (isIn x l) = true) : x ∉ l := fun hm => by rw [(zsw x l).mpr hm] at h; exact ff h
theorem sc_t {n : Nat} {ts : List Nat} {p : Nat × Nat} {r : List (Nat × Nat)} {seen : List Nat} (h : scOk n sc ts (p :: r) seen = true) :
 p.1 < n /\ p.1 ∉ seen /\ (p.2 = 0 ∨ (p.2 = 2 /\ (look sc p.1 = some 1 ∨ look sc p.1 = some 2)) ∨ p.2 = 4) /\ scOk n sc ts r (p.1 :: seen) = true :=
 have h1 := zab h
 have h2 := zab h1.2
 have h3 := zab h2.2
 ⟨zfl h1.1, zg6 h2.1, (zjj h3.1).imp zam fun q => (zjj q).imp (fun q => ⟨zam (zab q).1, (zjj (zab q).2).imp is_t is_t⟩) zam, h3.2⟩
theorem zcu {α : Type} {p : Nat × α} {r : List (Nat × α)} {x : Nat} {v : α} (h : look (p :: r) x = some v) : (p.1 = x /\ p.2 = v) ∨ look r x = some v := by
 have h : cs (Nat.beq p.1 x) (some p.2) (look r x) = some v := h
 cases q : Nat.beq p.1 x with
 | true => rw [q] at h; exact .inl ⟨zam q, prf h⟩
 | false => rw [q] at h; exact .inr h
theorem za0 {n : Nat} {ts : List Nat} {x k : Nat} {sc' : List (Nat × Nat)} : ∀ {seen : List Nat}, scOk n sc ts sc' seen = true -> look sc' x = some k -> x < n /\ x ∉ seen /\ (k = 0 ∨ (k = 2 /\ (look sc x = some 1 ∨ look sc x = some 2)) ∨ k = 4) := by
 induction sc' with
 | nil => exact fun _ h => nn h
 | cons p r ih =>
  intro seen h hl
  obtain ⟨h1, h2, h3, h4⟩ := sc_t h
  rcases zcu hl with ⟨q, q'⟩ | hl
  · exact q ▸ q' ▸ ⟨h1, h2, h3⟩
  · obtain ⟨a, b, c⟩ := ih h4 hl
    exact ⟨a, fun hm => b (.tail _ hm), c⟩
theorem zk2 (inj : ∀ x y, x < Ω.nms.length -> y < Ω.nms.length -> nmOf Ω x = nmOf Ω y -> x = y) {ts : List Nat} (g : Str -> NameKind -> NameKind) {x : Nat} (hx : x < Ω.nms.length) {sc' : List (Nat × Nat)} : ∀ {seen : List Nat}, scOk Ω.nms.length sc ts sc' seen = true ->
 List.lookup (nmOf Ω x) ((scN (nmOf Ω) sc').map fun p => (p.1, g p.1 p.2)) = (look sc' x).map fun k => g (nmOf Ω x) (zdt k) := by
 induction sc' with
 | nil => exact fun _ => rfl
 | cons p r ih =>
  intro seen h
  obtain ⟨h1, h2, h3, h4⟩ := sc_t h
  show List.lookup _ ((nmOf Ω p.1, g (nmOf Ω p.1) (zdt p.2)) :: _) = Option.map _ (cs (Nat.beq p.1 x) (some p.2) (look r x))
  rw [List.lookup_cons]
  cases q : Nat.beq p.1 x with
  | true => rw [zam q, beq_self_eq_true]; rfl
  | false => rw [beq_eq_false_iff_ne.mpr fun e => zdy q (inj x p.1 hx h1 e).symm]; exact ih h4
theorem zob (inj : ∀ x y, x < Ω.nms.length -> y < Ω.nms.length -> nmOf Ω x = nmOf Ω y -> x = y) {ts : List Nat} {sc' : List (Nat × Nat)} {seen : List Nat} (h : scOk Ω.nms.length sc ts sc' seen = true) (x : Nat) (hx : x < Ω.nms.length) :
 List.lookup (nmOf Ω x) ((scN (nmOf Ω) sc').map fun (n, k) => if (k == .free && env.scope.kind == .function && env.kindOf n == some .cell) then (n, .cell) else (n, k)) = (look sc' x).map (fun k => kN env (nmOf Ω x) (zdt k)) :=
 Eq.trans (congrArg (fun f => List.lookup (nmOf Ω x) ((scN (nmOf Ω) sc').map f)) (funext fun p => (apply_ite (Prod.mk p.1) _ _ _).symm)) (zk2 inj (kN env) hx h)
theorem zoc (inj : ∀ x y, x < Ω.nms.length -> y < Ω.nms.length -> nmOf Ω x = nmOf Ω y -> x = y) {ts : List Nat} {sc' : List (Nat × Nat)} {seen : List Nat} (h : scOk Ω.nms.length sc ts sc' seen = true) {x : Nat} (hx : x < Ω.nms.length) :
 List.lookup (nmOf Ω x) (scN (nmOf Ω) sc') = (look sc' x).map zdt := Eq.trans (congrArg (List.lookup (nmOf Ω x)) (List.map_id' _).symm) (zk2 inj (fun _ k => k) hx h)
noncomputable def clo (Ω : Bx) (env : Env) : List (Nat × Nat) -> List (Str × Addr) -> List (Str × Addr)
 | [], acc => acc
 | p :: r, acc => clo Ω env r (cs (Nat.beq p.2 2) (byO (env.cells.lookup (nmOf Ω p.1)) (fun c => (nmOf Ω p.1, c) :: acc) acc) acc)
theorem clo_eq (K : KN Ω env sc) {n : Nat} {ts : List Nat} {sc' : List (Nat × Nat)} : ∀ {seen : List Nat} {acc : List (Str × Addr)}, scOk n sc ts sc' seen = true ->
 (forIn (scN (nmOf Ω) sc') acc fun (x : Str × NameKind) cs => (if (x.2 == .free) = true then do let c ← cellOf env x.1; pure (ForInStep.yield ((x.1, c) :: cs)) else pure (ForInStep.yield cs) : Sem (ForInStep (List (Str × Addr))))) = pure (clo Ω env sc' acc) := by
 induction sc' with
 | nil => exact fun _ => rfl
 | cons p r ih =>
  intro seen acc h
  obtain ⟨h1, h2, h3, h4⟩ := sc_t h
  show (forIn ((nmOf Ω p.1, zdt p.2) :: scN (nmOf Ω) r) acc _) = pure (clo Ω env r (cs (Nat.beq p.2 2) _ acc))
  rw [List.forIn_cons, ← ih h4]
  rcases h3 with e | ⟨e, h3⟩ | e
  · rw [e]; rfl
  · obtain ⟨c, hc⟩ := (K.cel _ h3).2
    have hc2 : cellOf env (nmOf Ω p.1) = pure c := by unfold cellOf; rw [hc]
    rw [e, hc]
    show ((if (NameKind.free == NameKind.free) = true then _ else _) >>= _) = _
    rw [if_pos (by decide), hc2]; rfl
  · rw [e]; rfl
theorem seen_no {n : Nat} {ts : List Nat} {r : List (Nat × Nat)} {x : Nat} {seen : List Nat} (h : scOk n sc ts r (x :: seen) = true) : look r x = none := by
 cases q : look r x with
 | none => rfl
 | some k => exact absurd (.head _) (za0 h q).2.1
theorem ztk (inj : ∀ x y, x < Ω.nms.length -> y < Ω.nms.length -> nmOf Ω x = nmOf Ω y -> x = y) {ts : List Nat} {x : Nat} (hx : x < Ω.nms.length) {sc' : List (Nat × Nat)} : ∀ {seen : List Nat} {acc : List (Str × Addr)}, scOk Ω.nms.length sc ts sc' seen = true ->
 (clo Ω env sc' acc).lookup (nmOf Ω x) = orl (ifb (is_ 2 (look sc' x)) (env.cells.lookup (nmOf Ω x))) (acc.lookup (nmOf Ω x)) := by
 induction sc' with
 | nil => exact fun _ => rfl
 | cons p r ih =>
  intro seen acc h
  obtain ⟨h1, h2, h3, h4⟩ := sc_t h
  refine (ih h4).trans ?_
  show _ = orl (ifb (is_ 2 (cs (Nat.beq p.1 x) (some p.2) (look r x))) _) _
  cases q : Nat.beq p.1 x with
  | true =>
   rw [← zam q, seen_no h4]
   show List.lookup _ (cs (Nat.beq p.2 2) _ acc) = orl (ifb (Nat.beq 2 p.2) _) _
   rcases h3 with e | ⟨e, _⟩ | e
   · rw [e]; rfl
   · rw [e]
     cases z : env.cells.lookup (nmOf Ω p.1) with
     | none => rfl
     | some c => exact List.lookup_cons_self
   · rw [e]; rfl
  | false =>
   refine congrArg (orl _) ?_
   cases Nat.beq p.2 2 with
   | false => rfl
   | true => cases env.cells.lookup (nmOf Ω p.1) with
    | none => rfl
    | some c => exact (List.lookup_cons ..).trans (by rw [beq_eq_false_iff_ne.mpr fun e => zdy q (inj x p.1 hx h1 e).symm])
theorem zvg (inj : ∀ x y, x < Ω.nms.length -> y < Ω.nms.length -> nmOf Ω x = nmOf Ω y -> x = y) {ts : List Nat} {x : Nat} (hx : x < Ω.nms.length) {sc' : List (Nat × Nat)} {seen : List Nat} {c : Addr} (h : scOk Ω.nms.length sc ts sc' seen = true) (h2 : look sc' x = some 2) (hc : env.cells.lookup (nmOf Ω x) = some c) : (clo Ω env sc' []).lookup (nmOf Ω x) = some c :=
 (ztk inj hx h).trans (by rw [h2, hc]; rfl)
end
end
section

section
variable {Ω : Bx} {cx : Cx} {Rm : Around -> Prop} {D : Dx} {fl fl' : L} {hp hp' : Hp} {ρ ρ₀ ρ' : Rho} {s s₀ s' : Shared}
variable {env : Env} {sc sc' : List (Nat × Nat)} {fa : List Addr} {A : Around} {E : Value -> Shared -> Prop}

theorem zhr {ads : List Addr} {gi : List Nat} {s s₁ s₂ : Shared} (x : Ch ads gi s s₁) (y : Ch ads gi s₁ s₂) : Ch ads gi s s₂ :=
 ⟨fun b o e n => y.keep b o (x.keep b o e n) n, fun b o e i => y.imm b o (x.imm b o e i) i, fun g st n e => y.gens g st n (x.gens g st n e), y.bare, y.os.trans x.os⟩
theorem ch_up {ads : List Addr} {gi : List Nat} (hb : AllBare s.gens) {h' : Heap} {t : Nat} (k : Up s h') : Ch ads gi s { s with heap := h', toks := t } := ⟨fun b o e _ => k b o e, fun b o e _ => k b o e, fun _ _ _ e => e, hb, rfl⟩
theorem zps {ads : List Addr} {gi : List Nat} (hb : AllBare s.gens) : Ch ads gi s s := ch_up hb fun _ _ e => e
noncomputable abbrev inE (Ω : Bx) (env : Env) (sc' : List (Nat × Nat)) (cc : Addr) : Env := compEnvC (scF (nmOf Ω) sc') (clo Ω env sc' []) cc env
section
variable (C : CT Ω cx Rm) (K : KN Ω env sc) {ts : List Nat} (h : scOk Ω.nms.length sc ts sc' [] = true) {cc : Addr} {x : Nat}
include C h in
theorem kd (hx : x < Ω.nms.length) : (inE Ω env sc' cc).kindOf (nmOf Ω x) = (look sc' x).map fun k => kN env (nmOf Ω x) (zdt k) := zob C.inj h x hx
include C h in
theorem zhg {k : Nat} (hk : look sc' x = some k) : (inE Ω env sc' cc).kindOf (nmOf Ω x) = some (kN env (nmOf Ω x) (zdt k)) := by rw [kd C h (za0 h hk).1, hk]; rfl
theorem zol (nm : Str) : kN env nm .free = .cell ∨ kN env nm .free = .free := by
 unfold kN
 split
 · exact .inl rfl
 · exact .inr rfl
include h in
theorem zt8 (hk : look sc' x = some 2) : look sc x = some 1 ∨ look sc x = some 2 := (za0 h hk).2.2.elim nofun fun q => q.elim (fun q => q.2) nofun
include C K h in
theorem kn_comp (cc : Addr) : KN Ω (inE Ω env sc' cc) sc' := by
 refine ⟨fun x hk => zhg C h hk, fun x hk => ?_, fun x hk => ?_, fun x _ hk => zhg C h hk, fun x hx hk => (kd C h hx).trans (by rw [hk]; rfl)⟩
 · exact (za0 h hk).2.2.elim nofun fun q => q.elim (fun q => nomatch q.1) nofun
 · have hk2 : look sc' x = some 2 := hk.elim (fun hk => (za0 h hk).2.2.elim nofun fun q => q.elim (fun q => nomatch q.1) nofun) id
   obtain ⟨c, hc⟩ := (K.cel x (zt8 h hk2)).2
   exact ⟨(zol (nmOf Ω x)).imp (fun e => (zhg C h hk2).trans (congrArg some e)) fun e => (zhg C h hk2).trans (congrArg some e), c, zvg C.inj (za0 h hk2).1 h hk2 hc⟩
theorem zhb (sc' : List (Nat × Nat)) (y : Nat) {v : V} {fl : L} (hl : look (flr sc' fl) y = some v) : look sc' y ≠ some 0 /\ look fl y = some v := by
 induction fl with
 | nil => exact nn hl
 | cons p r ih =>
  have hl : look (cs (is0 (look sc' p.1)) (flr sc' r) (p :: flr sc' r)) y = some v := hl
  show look sc' y ≠ some 0 /\ cs (Nat.beq p.1 y) (some p.2) (look r y) = some v
  cases q : Nat.beq p.1 y with
  | true =>
   have e := zam q
   cases z : is0 (look sc' p.1) with
   | true =>
    rw [z] at hl
    exact absurd (e ▸ is_t z) (ih hl).1
   | false =>
    rw [z] at hl
    have hl : cs (Nat.beq p.1 y) (some p.2) (look (flr sc' r) y) = some v := hl
    rw [q] at hl
    exact ⟨fun w => by rw [e, w] at z; exact ff z.symm, hl⟩
  | false =>
   cases z : is0 (look sc' p.1) with
   | true => rw [z] at hl; exact ih hl
   | false =>
    rw [z] at hl
    have hl : cs (Nat.beq p.1 y) (some p.2) (look (flr sc' r) y) = some v := hl
    rw [q] at hl
    exact ih hl
theorem fr_look (F : FR Ω env fa fl ρ s) (h : ∀ y, look fl' y = look fl y) : FR Ω env fa fl' ρ s :=
 ⟨F.kind, F.glob, F.blt, fun x v hl => F.ids x v ((h x).symm.trans hl), F.ns.elim fun m hm => ⟨m, hm.1, fun x v hl hk => hm.2 x v ((h x).symm.trans hl) hk⟩, fun x v hl hk => F.cel x v ((h x).symm.trans hl) hk, F.loc, F.disj, F.live⟩
include C K h in
theorem zs8 {m : Str -> Option Value} (F : FR Ω env fa fl ρ s) (hn : s.heap.Ns cc m) (h1 : cc ∉ fa) (h2 : cc ∉ ρ.flatten) : FR Ω (inE Ω env sc' cc) (cc :: fa) (flr sc' fl) ρ s := by
 refine ⟨rfl, F.glob, F.blt, fun x v hl => F.ids x v (zhb sc' x hl).2, ⟨m, hn, fun x v hl hk => ?_⟩, fun x v hl hk => ?_, .head _, fun a ha => (List.mem_cons.mp ha).elim (fun q => q ▸ h2) (F.disj a), fun a ha => (List.mem_cons.mp ha).elim (fun q => q ▸ zee hn) (F.live a)⟩
 · obtain ⟨l1, l2⟩ := zhb sc' x hl
   rw [kd C h (F.ids x v l2)] at hk
   cases q : look sc' x with
   | none => rw [q] at hk; exact nn hk
   | some k =>
    rw [q] at hk
    have hk := prf hk
    rcases (za0 h q).2.2 with h3 | ⟨h3, _⟩ | h3
    · exact absurd (h3 ▸ q) l1
    · rw [h3] at hk
      rcases zol (env := env) (nmOf Ω x) with z | z
      · exact nomatch (z.symm.trans hk)
      · exact nomatch (z.symm.trans hk)
    · rw [h3] at hk; exact nomatch hk
 · obtain ⟨l1, l2⟩ := zhb sc' x hl
   have hx := F.ids x v l2
   rw [kd C h hx] at hk
   have q2 : look sc' x = some 2 := by
    cases q : look sc' x with
    | none => rw [q] at hk; exact hk.elim (fun h => nn h) fun h => nn h
    | some k =>
     rcases (za0 h q).2.2 with h3 | ⟨h3, _⟩ | h3
     · exact absurd (h3 ▸ q) l1
     · rw [h3]
     · rw [q, h3] at hk; exact hk.elim (fun h => nomatch (prf h)) fun h => nomatch (prf h)
   obtain ⟨c, v', g1, g2, g3, g4, g5⟩ := F.cel x v l2 (K.cel x (zt8 h q2)).1
   exact ⟨c, v', zvg C.inj hx h q2 g1, g2, .tail _ g3, fun e => h1 ((show c = cc from e) ▸ g3), g5⟩
end
structure HereC (Ω : Bx) (Rm : Around -> Prop) (D : Dx) (s0 : Shared) (fl : L) (hp : Hp) (ρ : Rho) (s : Shared) : Prop where
 h : Here Ω Rm D fl hp ρ s
 c : Ch [D.env.locals] [] s0 s
theorem stepC (C : CT Ω cx Rm) (hb : Ω.h₀.get? D.env.locals = none) {s0 : Shared} {x : Nat} {v : V} {u : Value} {Q : Unit -> Shared -> Prop} (hx : x < Ω.nms.length /\ look D.sc x = some 0) (h : HereC Ω Rm D s0 fl hp ρ s) (R : VR ρ s.heap v u)
 (hQ : ∀ s', HereC Ω Rm D s0 (put fl x v) hp ρ s' -> ImmK s.heap s'.heap -> Q () s') : wpAny Ω.M D.A (storeName D.env (nmOf Ω x) u) Q D.E s := by
 obtain ⟨ol, hol, hil⟩ := h.h.F.live _ h.h.F.loc
 exact ze7 C hb h.h.K hx.1 hx.2 h.h.H h.h.F R fun h' t hs H1 G1 F1 => hQ _ ⟨⟨h.h.K, h.h.A, H1, F1⟩, zhr h.c (zgg hol hil hs h.h.H.gens)⟩ G1.imm
theorem ztt (C : CT Ω cx Rm) (hb : Ω.h₀.get? D.env.locals = none) {ts tps : List Nat} {tp : Nat} (hts : ∀ x ∈ ts, x < Ω.nms.length /\ look D.sc x = some 0) {v : V} {u : Value} (e : bindC ts v fl hp = some fl') (h : Here Ω Rm D fl hp ρ s) (R : VR ρ s.heap v u) {Q : Unit -> Shared -> Prop}
 (hQ : ∀ s', HereC Ω Rm D s fl' hp ρ s' -> Q () s') : WP Ω D (assign (tgC (nmOf Ω) ts tps tp) D.env u) Q s := by
 have many : ∀ {tps : List Nat} {p : Pos}, (bd (zff (.v v) hp) fun xs => za7 ts xs fl) = some fl' -> WP Ω D (assign (.Tuple (names (nmOf Ω) ts tps) 0 p) D.env u) Q s := by
  intro tps p e
  obtain ⟨xs, q, e⟩ := bd_t e
  rw [arm_assign_Tuple]
  refine wpAny_bind (wpAny_standAt ?_)
  unfold unpack
  have l := zkf (Ω := Ω) (env := D.env) (xs := ts) (ps := tps)
  rw [l.2.1, l.2.2, ← zed e]
  refine wpAny_bind (wpAny_holding (ze6 (C.rm D.A h.A).1 (Ω := Ω) (s₀ := s) (r := .v v) h.H q R fun vs h' k hv => ?_))
  exact zfh (I := fun fl s' => HereC Ω Rm D s fl hp ρ s') (stepC C hb) l.1 hts e ⟨h.go (Go.keeps [] ρ s (t := s.toks) k) (h.H.heap (t := s.toks) k), ch_up (t := s.toks) h.H.gens k⟩ (VRs.mono (Ext.refl ρ) (fun b o e _ => k b o e) _ _ hv) hQ
 cases ts with
 | nil => exact many e
 | cons x r =>
  cases r with
  | cons y r => exact many e
  | nil => exact wpAny_assign_Name (stepC C hb (hts x (.head _)) ⟨h, zps h.H.gens⟩ R fun s' h' _ => hQ s' (prf e ▸ h'))
theorem zny {env : Env} (l : List Expr) : (forIn l false fun c r => if r = true then do let ok ← isTrue c env (eval c env); pure (ForInStep.yield ok) else pure (ForInStep.yield r) : Sem Bool) = pure false := by
 induction l with
 | nil => rfl
 | cons c l ih => rw [List.forIn_cons, if_neg Bool.false_ne_true]; exact ih
noncomputable abbrev zmt (Ω : Bx) (env : Env) (ifs : List FE) : Sem Bool := zua (tEs (nmOf Ω) ifs) env
theorem zqn {ifs : List FE} : ∀ {hp : Hp} {b : Bool × Hp} {ρ : Rho} {s : Shared} {Q : Bool -> Shared -> Prop}, (∀ c ∈ ifs, TOk Ω cx Rm c) -> wEs Ω.nms.length D.sc ifs = true -> Here Ω Rm D fl hp ρ s -> trA cx fl ifs hp = some b -> zp8 Ω Rm D fl ρ s b Q -> WP Ω D (zmt Ω D.env ifs) Q s := by
 induction ifs with
 | nil => exact fun _ _ h e hQ => by cases prf e; exact wpAny_tests_nil (hQ _ _ h (Go.refl _ _ _))
 | cons c r ih =>
  intro hp b ρ s Q I W h e hQ
  obtain ⟨x, q, e⟩ := bd_t e
  show wpAny _ _ (forIn (tE (nmOf Ω) c :: tEs (nmOf Ω) r) true _) _ _ _
  rw [List.forIn_cons, if_pos rfl]
  refine wpAny_bind (wpAny_bind (I c (.head _) (zab W).1 h q fun ρ1 s1 h1 G1 => wpAny_pure ?_))
  cases z : x.1 with
  | true =>
   rw [z] at e
   exact ih (fun c h => I c (.tail _ h)) (zab W).2 h1 e fun ρ2 s2 h2 G2 => hQ ρ2 s2 h2 (G1.trans0 G2)
  | false =>
   rw [z] at e
   show wpAny _ _ (forIn (tEs (nmOf Ω) r) false _) _ _ _
   rw [zny]
   cases prf e
   exact wpAny_pure (hQ ρ1 s1 h1 G1)
theorem zmf (K : KN Ω env sc) {n : Nat} {ts : List Nat} {seen : List Nat} (h : scOk n sc ts sc' seen = true) : closureFor (scF (nmOf Ω) sc') env = pure (clo Ω env sc' []) := by
 have := clo_eq (acc := []) K h
 unfold closureFor
 show (forIn (scN (nmOf Ω) sc') [] _ >>= _) = _
 refine Eq.trans (congrArg (· >>= _) (Eq.trans ?_ this)) ?_
 · congr 1
   try (funext x cs; obtain ⟨a, b⟩ := x; dsimp only; split <;> rfl)
 · rfl
theorem zr5 {ts : List Nat} {q : Nat × Nat} {l : List (Nat × Nat)} : ∀ {seen : List Nat}, scOk Ω.nms.length sc ts l seen = true -> q ∈ l -> look l q.1 = some q.2 := by
 induction l with
 | nil => exact fun _ h => nomatch h
 | cons a l ih =>
  intro seen hs hm
  have hs := (sc_t hs).2.2.2
  show cs (Nat.beq a.1 q.1) (some a.2) (look l q.1) = _
  rcases List.mem_cons.mp hm with e | hm
  · rw [e, Nat.beq_refl]; rfl
  · cases z : Nat.beq a.1 q.1 with
    | true => exact absurd (zam z ▸ .head _) (za0 hs (ih hs hm)).2.1
    | false => exact ih hs hm
theorem srcKp {it : Addr} {ads : List Addr} {gi : List Nat} {src : Src} (S : zey Ω A it ads gi src ρ s) (k : Kp Ω ads gi ρ s ρ' s') : zey Ω A it ads gi src ρ' s' := by
 cases src with
 | items xs => exact ItrS.kp S k
 | gen xs => exact ⟨S.1, ItrG.kp S.2 k⟩
 | live n i =>
  obtain ⟨l, h1, h2, rfl, rfl⟩ := S
  exact ⟨l, k.ext _ _ h1, h2.at fun o e => k.keep it (.head _) o e, rfl, rfl⟩

structure CIt (Ω : Bx) (A : Around) (T : Expr) (P : Addr -> List Addr -> Src -> Rho -> Shared -> Prop) : Prop where
 step : ∀ {ea ads src ρ hp s o} {Q : Option Value -> Shared -> Prop} {E : Value -> Shared -> Prop}, P ea ads src ρ s -> HS Ω ρ hp s -> zie src hp = some o -> (o = none -> ∀ s', Ch ads [] s s' -> Q none s') ->
  (∀ x src', o = some (x, src') -> ∀ v s1, (∀ (Q' : Unit -> Shared -> Prop) (E' : Value -> Shared -> Prop), (∀ s', Ch ads [] s s' -> VR ρ s'.heap x v -> P ea ads src' ρ s' -> Q' () s') -> wpAny Ω.M A (letOwnedTupleGo T (.ref ea) v) Q' E' s1) -> Q (some v) s1) -> wpAny Ω.M A (pyNext (.ref ea)) Q E s
 kp : ∀ {ea ads src ρ s ρ' s'}, P ea ads src ρ s -> Kp Ω ads [] ρ s ρ' s' -> P ea ads src ρ' s'
 live : ∀ {ea ads src ρ s}, P ea ads src ρ s -> ∀ a ∈ ads, ∃ o, s.heap.get? a = some o /\ ¬ Imm o
noncomputable def SrcP (Ω : Bx) (A : Around) (it : Addr) (ads : List Addr) (src : Src) (ρ : Rho) (s : Shared) : Prop := zey Ω A it ads [] src ρ s /\ Al it ads s
theorem zpq (hh : A.handled = none) (T : Expr) : CIt Ω A T (SrcP Ω A) := by
 refine ⟨fun S H e hN hQ => zrx hh H e S.1 hN fun x src' z v s' c al R S' => hQ x src' z v s' fun Q' E' q => ?_, fun S k => ⟨srcKp S.1 k, fun a ha => (S.2.al a ha).elim fun o h => ⟨o, k.keep a ha o h.1, h.2⟩, ?_, S.2.mem⟩, fun S => S.2.al⟩
 · obtain ⟨io, ic, ho, hc, hw⟩ := al.own
   exact zfp ho hc hw (q s' c R ⟨S', al⟩)
 · obtain ⟨io, ic, ho, h⟩ := S.2.own
   exact ⟨io, ic, k.keep _ S.2.mem io ho, h⟩
noncomputable def LsAt (ρ : Rho) (h : Heap) (a : Addr) (xs : List V) : Prop := ∃ ys k, h.get? a = some (lstO ys k) /\ VRs ρ h xs ys
structure CB where
 P : Addr -> List Addr -> Src -> Rho -> Shared -> Prop
 ia : Addr
 ads : List Addr
 dd : Addr
 cc : Addr
structure CF (Ω : Bx) (D : Dx) (s : Shared) (B : CB) : Prop where
 fr : ∀ a ∈ B.ads, s.heap.get? a = none
 d0 : s.heap.get? B.dd = none
 c0 : s.heap.get? B.cc = none
 da : B.dd ∉ B.ads
 ca : B.cc ∉ B.ads
 cd : B.cc ≠ B.dd
structure CI (Ω : Bx) (B : CB) (ρ : Rho) (s : Shared) (ρ5 : Rho) (hp5 : Hp) (src : Src) (acc : List V) (s5 : Shared) : Prop where
 H : HS Ω ρ5 hp5 s5
 G : Go [] ρ s ρ5 s5
 S : B.P B.ia B.ads src ρ5 s5
 out : ∀ a ∈ B.ads, a ∉ ρ5.flatten
 ls : LsAt ρ5 s5.heap B.dd acc
 dn : B.dd ∉ ρ5.flatten
 N : ∃ m, s5.heap.Ns B.cc m
 cn : B.cc ∉ ρ5.flatten
section
variable {B : CB} {ρ5 ρ8 : Rho} {hp5 hp8 : Hp} {src src' : Src} {acc acc' vs rest : List V} {s5 s8 : Shared} {T : Expr}
theorem zg9 {a : Addr} (x : LsAt ρ5 s5.heap a acc) (k : ∀ o, s5.heap.get? a = some o -> s8.heap.get? a = some o) (e : Ext ρ5 ρ8) (i : ImmK s5.heap s8.heap) : LsAt ρ8 s8.heap a acc := by
 obtain ⟨ys, n, h1, h2⟩ := x
 exact ⟨ys, n, k _ h1, VRs.mono e i _ _ h2⟩
theorem zfk {a : Addr} (x : ∃ m, s5.heap.Ns a m) (k : ∀ o, s5.heap.get? a = some o -> s8.heap.get? a = some o) : ∃ m, s8.heap.Ns a m := by
 obtain ⟨m, o, es, ep, ho, hr⟩ := x
 exact ⟨m, o, es, ep, k o ho, hr⟩
theorem CI.go (I : CIt Ω A T B.P) (c : CI Ω B ρ s ρ5 hp5 src acc s5) (G : Go [] ρ5 s5 ρ8 s8) (H : HS Ω ρ8 hp8 s8) : CI Ω B ρ s ρ8 hp8 src acc s8 :=
 ⟨H, c.G.trans0 G, I.kp c.S ⟨G.Ext, G.imm, fun a ha o e => G.keep a o e (c.out a ha) nofun, nofun, H.gens, H.base⟩, fun a ha => (I.live c.S a ha).elim fun _ h => G.notIn h.1 (c.out a ha), zg9 c.ls (fun o e => G.keep _ o e c.dn nofun) G.Ext G.imm,
  c.ls.elim fun _ h => h.elim fun _ h => G.notIn h.1 c.dn, zfk c.N fun o e => G.keep _ o e c.cn nofun, c.N.elim fun _ h => (zee h).elim fun _ h => G.notIn h.1 c.cn⟩
theorem CI.ch {X : List Addr} (c : CI Ω B ρ s ρ5 hp5 src acc s5) (h : Ch X [] s5 s8) (H : HS Ω ρ5 hp5 s8) (hx : ∀ a ∈ X, s.heap.get? a = none) (S : B.P B.ia B.ads src' ρ5 s8) (L : LsAt ρ5 s8.heap B.dd acc') (N : ∃ m, s8.heap.Ns B.cc m) : CI Ω B ρ s ρ5 hp5 src' acc' s8 :=
 ⟨H, zo4 c.G h hx nofun, S, c.out, L, c.dn, N, c.cn⟩
theorem kp_ch {X : List Addr} (h : Ch X [] s5 s8) (H : HS Ω ρ5 hp5 s8) (hx : ∀ a ∈ B.ads, a ∉ X) : Kp Ω B.ads [] ρ5 s5 ρ5 s8 := ⟨Ext.refl _, h.imm, fun a ha o e => h.keep a o e (hx a ha), nofun, H.gens, H.base⟩
theorem zkb {h : Heap} {x : V} {u : Value} {ys : List Value} (a : VRs ρ h acc ys) (b : VR ρ h x u) : VRs ρ h (acc ++ [x]) (ys ++ [u]) := VRs.append a (VRs.cons b VRs.nil)
theorem CI.add (I : CIt Ω A T B.P) (f : CF Ω D s B) (c : CI Ω B ρ s ρ5 hp5 src acc s5) (hb : Ω.h₀.get? B.dd = none) {x : V} {u : Value} (R : VR ρ5 s5.heap x u) (hl : acc.length ≤ 65536) {Q : Value -> Shared -> Prop}
 (hQ : ∀ v s9, CI Ω B ρ s ρ5 hp5 src (acc ++ [x]) s9 -> Q v s9) : wpAny Ω.M A (call (.builtin "list.append") [.ref B.dd, u]) Q E s5 := by
 obtain ⟨ys, k, h1, h2⟩ := c.ls
 refine wpAny_list_append_plain ⟨k, h1⟩ (fun h10 hpl hs10 => ?_) (by rw [sizeLine_eq, List.size_toArray, h2.len]; exact Nat.le_trans hl (show 65536 ≤ 16777216 by decide))
 obtain ⟨k', hpl⟩ := hpl
 have ch : Ch [B.dd] [] s5 { s5 with heap := h10 } := zgg (t := s5.toks) h1 zfm hs10 c.H.gens
 have H := zil c.H ch (mem1 c.dn) (mem1 hb)
 exact hQ _ _ (c.ch ch H (mem1 f.d0) (I.kp c.S (kp_ch ch H fun a ha q => f.da (List.mem_singleton.mp q ▸ ha))) ⟨ys ++ [u], k', by simpa using hpl, zkb (VRs.mono (Ext.refl _) ch.imm _ _ h2) (VR.mono (Ext.refl _) ch.imm _ _ R)⟩ (zfk c.N fun o e => ch.keep _ o e fun q => f.cd (List.mem_singleton.mp q)))
theorem zwb (C : CT Ω cx Rm) (I : CIt Ω D.A T B.P) (f : CF Ω D s B) (hB : ∀ a, s.heap.get? a = none -> Ω.h₀.get? a = none) (hF : ∀ a ∈ D.fa, s.heap.get? a ≠ none) {e : FE} {ts tps : List Nat} {tp : Nat} {ifs : List FE} (Ie : EOk Ω cx Rm e) (It : ∀ c ∈ ifs, TOk Ω cx Rm c)
 (w2 : scOk Ω.nms.length D.sc ts sc' [] = true) (hts : ∀ x ∈ ts, x < Ω.nms.length /\ look sc' x = some 0) (w6 : wE Ω.nms.length sc' e = true) (w7 : wEs Ω.nms.length sc' ifs = true) (K : KN Ω D.env D.sc) (hA : Rm D.A) {x : V} {v : Value} {o : Option V × Hp}
 (qf : zcp (fun fl => ev cx fl e) ts (fun fl => trA cx fl ifs) (flr sc' fl) x hp5 = some o) (c : CI Ω B ρ s ρ5 hp5 src acc s5) (F : FR Ω D.env D.fa fl ρ5 s5) (R : VR ρ5 s5.heap x v) (hl : acc.length ≤ 65536) {Z : Shared -> Prop} {E' : Value -> Shared -> Prop}
 (hQ : ∀ ρ8 s9, CI Ω B ρ s ρ8 o.2 src (acc ++ zbn o.1 []) s9 -> Z s9) :
 wpAny Ω.M D.A (assign (tgC (nmOf Ω) ts tps tp) (inE Ω D.env sc' B.cc) v) (fun _ s₂ => wpAny Ω.M D.A (zmt Ω (inE Ω D.env sc' B.cc) ifs) (fun ok s₃ =>
  if ok = true then wpAny Ω.M D.A (eval (tE (nmOf Ω) e) (inE Ω D.env sc' B.cc)) (fun x s₄ => wpAny Ω.M D.A (call (.builtin "list.append") [.ref B.dd, x]) (fun _ s₅ => Z s₅) E' s₄) E' s₃ else Z s₃) E' s₂) E' s5 := by
 obtain ⟨fl1, qb, qf⟩ := bd_t qf
 obtain ⟨b, qt, qf⟩ := bd_t qf
 obtain ⟨m, hm⟩ := c.N
 have hc0 : B.cc ∉ D.fa := fun q => hF _ q f.c0
 refine ztt (D := ⟨inE Ω D.env sc' B.cc, sc', B.cc :: D.fa, D.A, E'⟩) C (hB _ f.c0) hts qb ⟨kn_comp C K w2 B.cc, hA, c.H, zs8 C K w2 F hm hc0 c.cn⟩ R fun s7 h7 => ?_
 have c7 : Ch [B.cc] [] s5 s7 := h7.c
 have i7 := c.ch c7 h7.h.H (mem1 f.c0) (I.kp c.S (kp_ch c7 h7.h.H fun a ha q => f.ca (List.mem_singleton.mp q ▸ ha))) (zg9 c.ls (fun o e => c7.keep _ o e fun q => f.cd (List.mem_singleton.mp q).symm) (Ext.refl _) c7.imm) (h7.h.F.ns.elim fun m h => ⟨m, h.1⟩)
 refine zqn It w7 h7.h qt fun ρ8 s8 h8 G8 => ?_
 have i8 := i7.go I G8 h8.H
 cases z : b.1 with
 | false =>
  rw [z] at qf
  rw [if_neg Bool.false_ne_true]
  have q := prf qf
  exact hQ ρ8 s8 (by rw [← q, show acc ++ zbn none [] = acc from List.append_nil acc]; exact i8)
 | true =>
  rw [z] at qf
  rw [if_pos rfl]
  obtain ⟨y, qe, qf⟩ := bd_t qf
  obtain ⟨w, qw, qf⟩ := bd_t qf
  exact Ie w6 h8 qe fun ρ9 s9 u h9 G9 R9 => (i8.go I G9 h9.H).add I f (hB _ f.d0) (rvV qw R9) hl fun _ s10 i10 => hQ ρ9 s10 (by rw [← prf qf]; exact i10)
noncomputable def CInv (Ω : Bx) (B : CB) (ρ : Rho) (s : Shared) (f : V -> Hp -> Option (Option V × Hp)) (vs : List V) (h2 : Hp) (n : Nat) (s5 : Shared) : Prop :=
 ∃ ρ5 hp5 src5 acc rest, zbf f n src5 hp5 = some (rest, h2) /\ vs = acc ++ rest /\ CI Ω B ρ s ρ5 hp5 src5 acc s5
noncomputable def CEnd (Ω : Bx) (B : CB) (ρ : Rho) (s : Shared) (vs : List V) (h2 : Hp) (s' : Shared) : Prop := ∃ ρ', HS Ω ρ' h2 s' /\ Go [] ρ s ρ' s' /\ RVR Ω ρ' s s' (.l vs) (.ref B.dd) /\ (∃ m, s'.heap.Ns B.cc m) /\ B.cc ∉ ρ'.flatten
theorem ci_end (f : CF Ω D s B) (hB : ∀ a, s.heap.get? a = none -> Ω.h₀.get? a = none) (hfit : acc.length ≤ 65536) (c : CI Ω B ρ s ρ5 hp5 src acc s5) (h : Ch B.ads [] s5 s8) : CEnd Ω B ρ s acc hp5 s8 := by
 obtain ⟨ys, k, g1, g2⟩ := zg9 c.ls (fun o e => h.keep _ o e f.da) (Ext.refl _) h.imm
 exact ⟨ρ5, zil c.H h c.out fun a ha => hB _ (f.fr a ha), zo4 c.G h f.fr nofun, ⟨B.dd, ys, k, rfl, g1, g2, g2.len ▸ Nat.le_succ_of_le hfit, f.d0, c.dn⟩, zfk c.N fun o e => h.keep _ o e f.ca, c.cn⟩
theorem zm3 (acc : List V) (o : Option V) (l : List V) : acc ++ zbn o l = acc ++ zbn o [] ++ l := by
 rw [List.append_assoc]; cases o <;> rfl
theorem zri (C : CT Ω cx Rm) {e : FE} {ts tps : List Nat} {tp : Nat} {ifs : List FE} (I : CIt Ω D.A (tgC (nmOf Ω) ts tps tp) B.P) (f : CF Ω D s B) (Ie : EOk Ω cx Rm e) (It : ∀ c ∈ ifs, TOk Ω cx Rm c)
 (w2 : scOk Ω.nms.length D.sc ts sc' [] = true) (hts : ∀ x ∈ ts, x < Ω.nms.length /\ look sc' x = some 0) (w6 : wE Ω.nms.length sc' e = true) (w7 : wEs Ω.nms.length sc' ifs = true) (h : Here Ω Rm D fl hp ρ s) {h2 : Hp} (hfit : vs.length ≤ 65536) {n : Nat} {E' : Value -> Shared -> Prop}
 (i : CInv Ω B ρ s (zcp (fun fl => ev cx fl e) ts (fun fl => trA cx fl ifs) (flr sc' fl)) vs h2 n s5) {N : Shared -> Prop} (hN : ∀ s', CEnd Ω B ρ s vs h2 s' -> N s') :
 CTurn Ω.M D.A (tgC (nmOf Ω) ts tps tp) (inE Ω D.env sc' B.cc) (zmt Ω (inE Ω D.env sc' B.cc) ifs) (eval (tE (nmOf Ω) e) (inE Ω D.env sc' B.cc)) (.ref B.ia) (.ref B.dd) N
  (fun s₅ => ∃ m, m < n /\ CInv Ω B ρ s (zcp (fun fl => ev cx fl e) ts (fun fl => trA cx fl ifs) (flr sc' fl)) vs h2 m s₅) E' s5 := by
 obtain ⟨ρ5, hp5, src5, acc, rest, q0, q1, c⟩ := i
 cases n with
 | zero => exact nn q0
 | succ n =>
  obtain ⟨o, qn, q0⟩ := bd_t q0
  cases o with
  | none =>
   have q := Prod.mk.inj (prf q0)
   rw [← q.1, List.append_nil] at q1
   exact I.step c.S c.H qn (fun _ s6 c6 => hN s6 (q.2 ▸ q1 ▸ ci_end f (base_none h.H) (q1 ▸ hfit) c c6)) fun x src' z => nn z
  | some w =>
   obtain ⟨o, qf, q0⟩ := bd_t q0
   obtain ⟨l, ql, q0⟩ := bd_t q0
   have q := Prod.mk.inj (prf q0)
   rw [← q.1] at q1
   refine I.step c.S c.H qn (fun z => nn z.symm) fun x src' z v s1 hl => hl _ _ fun s6 c6 R6 S6 => ?_
   have zz := Prod.mk.inj (prf z)
   have i6 := c.ch c6 (zil c.H c6 c.out fun a ha => h.H.base_none (f.fr a ha)) f.fr S6 (zg9 c.ls (fun o e => c6.keep _ o e f.da) (Ext.refl _) c6.imm) (zfk c.N fun o e => c6.keep _ o e f.ca)
   exact zwb C I f (base_none h.H) (fun a ha z => (h.F.live a ha).elim fun _ h => sn z h.1) Ie It w2 hts w6 w7 h.K h.A (zz.1 ▸ qf) i6 (h.F.go i6.G) R6 (Nat.le_trans (by rw [q1, List.length_append]; exact Nat.le_add_right _ _) hfit)
    fun ρ8 s9 i9 => ⟨n, Nat.lt_succ_self n, ρ8, o.2, src', acc ++ zbn o.1 [], l.1, q.2 ▸ zz.2 ▸ ql, q1.trans (zm3 acc o.1 l.1), i9⟩
end
theorem znc (C : CT Ω cx Rm) {ts : List Nat} (w2 : scOk Ω.nms.length sc ts sc' [] = true) {n : Str} {k : NameKind} (hx : (n, k) ∈ scN (nmOf Ω) sc') : ∃ q : Nat × Nat, look sc' q.1 = some q.2 /\ nmOf Ω q.1 = n /\ zdt q.2 = k :=
 (List.mem_map.mp hx).elim fun q hq => ⟨q, zr5 w2 hq.1, (Prod.mk.inj hq.2).1, (Prod.mk.inj hq.2).2⟩
theorem sc_loc (C : CT Ω cx Rm) {ts : List Nat} (w2 : scOk Ω.nms.length sc ts sc' [] = true) {n : Str} {k : NameKind} (hx : (n, k) ∈ scN (nmOf Ω) sc') (hk : k = .local) : List.lookup n (scN (nmOf Ω) sc') = some .local := by
 obtain ⟨q, h0, h1, h2⟩ := znc C w2 hx
 rw [← h1, zoc C.inj w2 (za0 w2 h0).1, h0]
 exact congrArg some (h2.trans hk)
theorem sc_cell (C : CT Ω cx Rm) {ts : List Nat} (w2 : scOk Ω.nms.length sc ts sc' [] = true) {n : Str} {k : NameKind} (hx : (n, k) ∈ scN (nmOf Ω) sc') (hk : k = .cell) : False := by
 obtain ⟨q, h0, h1, h2⟩ := znc C w2 hx
 rw [hk] at h2
 rcases (za0 w2 h0).2.2 with z | ⟨z, _⟩ | z <;> (rw [z] at h2; exact nomatch h2)
theorem zsa {h3 : Heap} {oD : Obj} {m : Str -> Option Value} (H1 : HS Ω ρ hp s) {P : Addr -> List Addr -> Src -> Rho -> Shared -> Prop} {T : Expr} (I : CIt Ω A T P) {src : Src} {ia : Addr} {ads : List Addr} (hP : P ia ads src ρ s) {dd cc : Addr} (hDl : oD = lstO [] 0) (hDD : s.heap.objs.size = dd) (hCC : (s.heap.push oD).objs.size = cc)
 (hns : h3.Ns cc m) {oC : Obj} (hsb : Heap.SameBut cc ((s.heap.push oD).push oC) h3) : Up s h3 /\ h3.get? dd = some (lstO [] 0) /\ s.heap.get? dd = none /\ s.heap.get? cc = none /\ dd ∉ ads /\ cc ∉ ads /\ cc ≠ dd := by
 have hDC : cc = dd + 1 := by rw [← hCC, Heap.size_push, hDD]
 have n1 : s.heap.get? dd = none := hDD ▸ zbi s
 have CD : cc ≠ dd := fun q => Nat.succ_ne_self dd (hDC.symm.trans q)
 have n2 : s.heap.get? cc = none := zc5 (o := (none : Option Obj)) (fun o e => absurd (Nat.lt_of_lt_of_eq (Heap.lt_size e) hDD) (Nat.not_lt.mpr (hDC ▸ Nat.le_succ dd))) rfl
 have nads : ∀ b, s.heap.get? b = none -> b ∉ ads := fun b hb hm => (I.live hP b hm).elim fun _ h => sn hb h.1
 exact ⟨fun b o e => (hsb.2 b fun q => sn n2 (q ▸ e)).trans (Heap.get?_push_of_some _ (Heap.get?_push_of_some _ e)), hDl ▸ (hsb.2 dd (Ne.symm CD)).trans (Heap.get?_push_of_some _ (hDD ▸ Heap.get?_push_size _ (hDl ▸ rfl))), n1, n2, nads _ n1, nads _ n2, CD⟩
theorem zf0 (C : CT Ω cx Rm) {e it : FE} {ts tps : List Nat} {tp : Nat} {ifs : List FE} {p : Nat} {src : Src} {h1 h2 : Hp} {vs : List V} {P : Addr -> List Addr -> Src -> Rho -> Shared -> Prop} (Ie : EOk Ω cx Rm e) (It : ∀ c ∈ ifs, TOk Ω cx Rm c)
 (W : wE Ω.nms.length D.sc (.comp e ts tps tp it ifs sc' p) = true) (I : CIt Ω D.A (tgC (nmOf Ω) ts tps tp) P)
 (hIt : ∀ {Q : Value -> Shared -> Prop} {E' : Value -> Shared -> Prop}, (∀ ρ1 s1 ea ads, HS Ω ρ1 h1 s1 -> Go [] ρ s ρ1 s1 -> P ea ads src ρ1 s1 -> (∀ a ∈ ads, a ∉ ρ1.flatten) -> (∀ a ∈ ads, s.heap.get? a = none) -> ziz Ω D.A ea ads s1 -> Q (.ref ea) s1) -> wpAny Ω.M D.A (eval (tE (nmOf Ω) it) D.env) (fun v s1 => wpAny Ω.M D.A (pyIter v) Q E' s1) D.E s)
 (e3 : zbf (zcp (fun fl => ev cx fl e) ts (fun fl => trA cx fl ifs) (flr sc' fl)) (zhl src h1) src h1 = some (vs, h2)) (hfit : vs.length ≤ 65536) (h : Here Ω Rm D fl hp ρ s) {use : Option (Value -> Sem Unit)} {Q : Value -> Shared -> Prop}
 (hQ : ∀ s' B, CF Ω D s B -> CEnd Ω B ρ s vs h2 s' -> compPost Ω.M D.A D.E use Q (.ref B.dd) B.cc (.ok .next) s') :
 WP Ω D (comprehension (tE (nmOf Ω) (.comp e ts tps tp it ifs sc' p)) (scF (nmOf Ω) sc') D.env (tE (nmOf Ω) it).pos (newList []) false (eval (tE (nmOf Ω) it) D.env) use) Q s := by
 have W2 := zab (zab W).2
 have W4 := zab (zab (zab W2.2).2).2
 have w6 := zab W4.2
 have hts : ∀ x ∈ ts, x < Ω.nms.length /\ look sc' x = some 0 := fun x hx => have q := is_t (ziw (zab W2.2).1 x hx); ⟨(za0 W2.1 q).1, q⟩
 refine wpAny_comprehension_free (cl := clo Ω D.env sc' []) (use := use) rfl (ziq _ it _) (zmf h.K W2.1) rfl (fun p hx hk => sc_loc C W2.1 hx hk) ?_
 refine hIt fun ρ1 s1 ia ads H1 G1 hP hOut hFr hSelf => ?_
 refine wpAny_newObj_type (hd := by size_fits) (wpAny_newFunctionEnv (fun p hx hk => sc_cell C W2.1 hx hk) nofun (fun h3 hns hsb => ?_) rfl)
 have m := zsa H1 I hP rfl rfl rfl hns hsb
 have f : CF Ω D s ⟨P, ia, ads, _, _⟩ := ⟨hFr, G1.none m.2.2.1, G1.none m.2.2.2.1, m.2.2.2.2.1, m.2.2.2.2.2.1, m.2.2.2.2.2.2⟩
 have start : codeAny Ω.M D.A (.compLoop (tE (nmOf Ω) (.comp e ts tps tp it ifs sc' p)) 0 (.ref ia) (.ref _) (inE Ω D.env sc' _)) (compPost Ω.M D.A D.E use Q (.ref _) _) { s1 with heap := h3 } :=
  zis (CInv Ω ⟨P, ia, ads, _, _⟩ ρ s (zcp (fun fl => ev cx fl e) ts (fun fl => trA cx fl ifs) (flr sc' fl)) vs h2) (fun n s5 i => zri C I f Ie It W2.1 hts w6.1 w6.2 h hfit i fun s' c => hQ s' _ f c) (zhl src h1)
   ⟨ρ1, h1, src, [], vs, e3, rfl, H1.heap (t := s1.toks) m.1, zfv G1 (t := s1.toks) m.1, I.kp hP ⟨Ext.refl _, fun b o e _ => m.1 b o e, fun a _ o e => m.1 a o e, nofun, H1.gens, fun b o e => m.1 b o (H1.base b o e)⟩, hOut, ⟨[], 0, m.2.1, VRs.nil⟩, H1.notIn m.2.2.1, ⟨_, hns⟩, H1.notIn m.2.2.2.1⟩
 exact codeAny_compStart_list start (hSelf _ (fun a ha o e => m.1 a o e) _ _ start)
end
end
section

section
variable {Ω : Bx} {cx : Cx} {Rm : Around -> Prop} {D : Dx} {fl : L} {hp : Hp} {ρ ρ₀ ρ' : Rho} {s s₀ s' : Shared}

theorem rvr_ch {r : RV} {v : Value} {ads : List Addr} {gi : List Nat} (R : RVR Ω ρ s₀ s r v) (c : Ch ads gi s s') (hv : ∀ xs, r = .l xs -> ∀ a, v = .ref a -> a ∉ ads) (hg : ∀ xs, r ≠ .g xs) : RVR Ω ρ s₀ s' r v := by
 cases r with
 | v x => exact VR.mono (Ext.refl _) c.imm _ _ R
 | l xs =>
  obtain ⟨a, vs, n, q, ho, hv', h⟩ := R
  exact ⟨a, vs, n, q, c.keep _ _ ho (hv xs rfl a q), VRs.mono (Ext.refl _) c.imm _ _ hv', h⟩
 | g xs => exact absurd rfl (hg xs)
theorem nogen_t {s src : Src} (h : zru s = some src) : s = src /\ ∀ xs, src ≠ .gen xs := by
 cases s with
 | items xs => exact prf h ▸ ⟨rfl, ze5⟩
 | live n i => exact prf h ▸ ⟨rfl, zod⟩
 | gen xs => exact nn h
theorem zvf {e it : FE} {ts tps : List Nat} {tp : Nat} {ifs : List FE} {sc' : List (Nat × Nat)} {p : Nat} {r : RV × Hp} (h : ev cx fl (.comp e ts tps tp it ifs sc' p) hp = some r) {G : Prop}
 (k : ∀ (r1 : RV × Hp) (src : Src) (x : List V × Hp), ev cx fl it hp = some r1 -> srcC r1.1 r1.2 = some src -> zbf (zcp (fun fl => ev cx fl e) ts (fun fl => trA cx fl ifs) (flr sc' fl)) (zhl src r1.2) src r1.2 = some (x.1, x.2) -> x.1.length ≤ 65536 -> (.l x.1, x.2) = r -> G) : G := by
 obtain ⟨r1, h1, h⟩ := bd_t h
 obtain ⟨src, h2, h⟩ := bd_t h
 obtain ⟨x, h3, h⟩ := bd_t h
 obtain ⟨h4, h⟩ := zae h
 exact k r1 src x h1 h2 h3 (zag x.1 ▸ zbm h4) (prf h)
theorem zue (C : CT Ω cx Rm) {it : FE} (Ii : EOk Ω cx Rm it) (W : wE Ω.nms.length D.sc it = true) (h : Here Ω Rm D fl hp ρ s) {r : RV × Hp} {src : Src} (e1 : ev cx fl it hp = some r) (e2 : srcC r.1 r.2 = some src) {Q : Value -> Shared -> Prop} {E' : Value -> Shared -> Prop}
 (hQ : ∀ ρ1 s1 ea ads, HS Ω ρ1 r.2 s1 -> Go [] ρ s ρ1 s1 -> SrcP Ω D.A ea ads src ρ1 s1 -> (∀ a ∈ ads, a ∉ ρ1.flatten) -> (∀ a ∈ ads, s.heap.get? a = none) -> ziz Ω D.A ea ads s1 -> Q (.ref ea) s1) : wpAny Ω.M D.A (eval (tE (nmOf Ω) it) D.env) (fun v s1 => wpAny Ω.M D.A (pyIter v) Q E' s1) D.E s := by
 obtain ⟨s0, e2, e3⟩ := bd_t e2
 obtain ⟨q, ng⟩ := nogen_t e3
 exact Ii W h e1 fun ρ1 s1 v h1 G1 R1 => zos (fun A h => (C.rm A h).1) C.wk h.A h1.H (goLt G1).n (q ▸ e2) R1 fun ia ads gi h' k M => have z := M.ng ng; hQ ρ1 _ ia ads (h1.H.heap (t := s1.toks) k) (zfv G1 (t := s1.toks) k) ⟨z ▸ M.at_, M.ad.al⟩ M.ad.out M.ad.fresh M.self
theorem zpt {B : CB} {vs : List V} {h2 : Hp} (f : CF Ω D s B) (h : Here Ω Rm D fl hp ρ s) (c : CEnd Ω B ρ s vs h2 s') : ∃ m, s'.heap.Ns B.cc m /\ ∀ h', Heap.SameBut B.cc s'.heap h' -> ∃ ρ', Here Ω Rm D fl h2 ρ' { s' with heap := h' } /\ Go [] ρ s ρ' { s' with heap := h' } /\ RVR Ω ρ' s { s' with heap := h' } (.l vs) (.ref B.dd) := by
 obtain ⟨ρ', H, G, R, ⟨m, hm⟩, hc⟩ := c
 obtain ⟨o, ho, hi⟩ := zee hm
 refine ⟨m, hm, fun h' hs => ?_⟩
 have ch : Ch [B.cc] [] s' { s' with heap := h' } := zgg (t := s'.toks) ho hi hs H.gens
 have G2 := zo4 G ch (mem1 f.c0) nofun
 exact ⟨ρ', h.go G2 (zil H ch (mem1 hc) (mem1 (h.H.base_none f.c0))), G2, rvr_ch R ch (fun xs _ a ha q => f.cd ((List.mem_singleton.mp q).symm.trans (Value.ref.inj ha).symm)) fun xs h => nomatch h⟩
theorem comp_ok (C : CT Ω cx Rm) {e it : FE} {ts tps : List Nat} {tp : Nat} {ifs : List FE} {sc' : List (Nat × Nat)} {p : Nat} (Ii : EOk Ω cx Rm it) (Ie : EOk Ω cx Rm e) (It : ∀ c ∈ ifs, TOk Ω cx Rm c) : EOk Ω cx Rm (.comp e ts tps tp it ifs sc' p) :=
 fun W h he hQ => zvf he fun r1 src x e1 e2 e3 e4 q => zf0 C Ie It W (zpq (C.rm _ h.A).1 _) (zue C Ii (zab W).1 h e1 e2) e3 e4 h (use := none) fun s' B f c => by
  obtain ⟨m, hm, k⟩ := zpt f h c
  exact ⟨m, hm, fun h' hs => (k h' hs).elim fun ρ' k => hQ ρ' _ _ (q ▸ k.1) k.2.1 (q ▸ k.2.2)⟩

theorem and_ok {es : List FE} : ∀ {hp : Hp} {b : Bool × Hp} {ρ : Rho} {s : Shared} {p : Pos} {whole : Sem Value} {Q : Bool -> Shared -> Prop}, (∀ c ∈ es, TOk Ω cx Rm c) -> wEs Ω.nms.length D.sc es = true -> Here Ω Rm D fl hp ρ s -> trA cx fl es hp = some b ->
 zp8 Ω Rm D fl ρ s b Q -> WP Ω D (isTrue (.BoolOp .And (tEs (nmOf Ω) es) p) D.env whole) Q s := by
 induction es with
 | nil => exact fun _ _ h e hQ => by cases prf e; exact isTrue_and_nil (hQ _ _ h (Go.refl _ _ _))
 | cons c r ih =>
  intro hp b ρ s p whole Q I W h e hQ
  obtain ⟨x, q, e⟩ := bd_t e
  refine isTrue_and (I c (.head _) (zab W).1 h q fun ρ1 s1 h1 G1 => ?_)
  cases z : x.1 with
  | true =>
   rw [z] at e
   exact (if_pos rfl).symm ▸ ih (fun c h => I c (.tail _ h)) (zab W).2 h1 e fun ρ2 s2 h2 G2 => hQ ρ2 s2 h2 (G1.trans0 G2)
  | false =>
   rw [z] at e
   cases prf e
   exact (if_neg Bool.false_ne_true).symm ▸ hQ ρ1 s1 h1 G1
theorem or_ok {es : List FE} : ∀ {hp : Hp} {b : Bool × Hp} {ρ : Rho} {s : Shared} {p : Pos} {whole : Sem Value} {Q : Bool -> Shared -> Prop}, (∀ c ∈ es, TOk Ω cx Rm c) -> wEs Ω.nms.length D.sc es = true -> Here Ω Rm D fl hp ρ s -> trO cx fl es hp = some b ->
 zp8 Ω Rm D fl ρ s b Q -> WP Ω D (isTrue (.BoolOp .Or (tEs (nmOf Ω) es) p) D.env whole) Q s := by
 induction es with
 | nil => exact fun _ _ h e hQ => by cases prf e; exact isTrue_or_nil (hQ _ _ h (Go.refl _ _ _))
 | cons c r ih =>
  intro hp b ρ s p whole Q I W h e hQ
  obtain ⟨x, q, e⟩ := bd_t e
  refine isTrue_or (I c (.head _) (zab W).1 h q fun ρ1 s1 h1 G1 => ?_)
  cases z : x.1 with
  | true =>
   rw [z] at e
   cases prf e
   exact (if_pos rfl).symm ▸ hQ ρ1 s1 h1 G1
  | false =>
   rw [z] at e
   exact (if_neg Bool.false_ne_true).symm ▸ ih (fun c h => I c (.tail _ h)) (zab W).2 h1 e fun ρ2 s2 h2 G2 => hQ ρ2 s2 h2 (G1.trans0 G2)
theorem zer (nm : Nat -> Str) (o : CmpOp) (e : FE) : behindInMarks o (tE nm e) = false := by cases e <;> rfl
theorem zh1 {a b : FE} {x y : RV × Hp} (Ia : EOk Ω cx Rm a) (Ib : EOk Ω cx Rm b) (W : and2 (wE Ω.nms.length D.sc a) (wE Ω.nms.length D.sc b) = true) (h : Here Ω Rm D fl hp ρ s) (ea : ev cx fl a hp = some x) (eb : ev cx fl b x.2 = some y) {P : Value -> Value -> Shared -> Prop}
 (k : ∀ ρ2 s2 va vb, Here Ω Rm D fl y.2 ρ2 s2 -> Go [] ρ s ρ2 s2 -> RVR Ω ρ2 s s2 x.1 va -> RVR Ω ρ2 s s2 y.1 vb -> P va vb s2) : EV Ω D a (fun va s1 => EV Ω D b (fun vb s2 => P va vb s2) s1) s :=
 Ia (zab W).1 h ea fun ρ1 s1 va h1 G1 R1 => Ib (zab W).2 h1 eb fun ρ2 s2 vb h2 G2 R2 => k ρ2 s2 va vb h2 (G1.trans0 G2) (R1.go G2) (zh5 (goLt G1) R2)
theorem h2_e {α : Type} {a b : EvT} {k : RV -> RV -> Hp -> Option α} {r : α} (h : h2 a b k hp = some r) {G : Prop} (f : ∀ x y, a hp = some x -> b x.2 = some y -> k x.1 y.1 y.2 = some r -> G) : G := by
 obtain ⟨x, h1, h⟩ := bd_t h
 obtain ⟨y, h2, h⟩ := bd_t h
 exact f x y h1 h2 h
theorem zne {o : Option RV} {r : RV × Hp} (h : same hp o = some r) {G : RV × Hp -> Prop} (f : ∀ x, o = some x -> G (x, hp)) : G r := by
 obtain ⟨x, h1, h⟩ := bd_t h
 exact prf h ▸ f x h1
theorem zvj {o : Operator} {a b : FE} {p : Nat} (Ia : EOk Ω cx Rm a) (Ib : EOk Ω cx Rm b) : EOk Ω cx Rm (.bin o a b p) :=
 fun {D fl hp r ρ s Q} W h he hQ => h2_e (show h2 _ _ (kBin o) hp = some r from he) fun x y q1 q2 q3 => wpAny_BinOp (zh1 Ia Ib W h q1 q2 fun ρ2 s2 va vb h2 G2 R1 R2 => zne (G := fun r => zj9 Ω Rm D fl ρ s r Q -> wpAny _ _ _ _ _ _) q3 (fun z q3 hQ => zto h2.H (goLt G2).n q3 R1 R2 (zef (r := (z, _)) h2 G2 hQ)) hQ)
theorem zub {o : CmpOp} {a b : FE} {r : Bool × Hp} (h : tCmp o (ev cx fl a) (ev cx fl b) hp = some r) {G : Bool × Hp -> Prop} (f : ∀ x y z, ev cx fl a hp = some x -> ev cx fl b x.2 = some y -> zco o x.1 y.1 y.2 = some z -> G (z, y.2)) : G r :=
 h2_e (show h2 _ _ (kCmp o) hp = some r from h) fun x y q1 q2 q3 => by
  obtain ⟨z, q3, q⟩ := bd_t q3
  exact prf q ▸ f x y z q1 q2 q3
theorem cmp_ok (C : CT Ω cx Rm) {o : CmpOp} {a b : FE} {p : Nat} (Ia : EOk Ω cx Rm a) (Ib : EOk Ω cx Rm b) : EOk Ω cx Rm (.cmp o a b p) := fun {D fl hp r ρ s Q} W h he hQ => by
 obtain ⟨r', he, q⟩ := bd_t he
 refine zub (G := fun r' => (RV.v (.bool r'.1), r'.2) = r -> EV Ω D _ Q s) he (fun x y z q1 q2 q3 q => wpAny_Compare1 (zh1 Ia Ib W h q1 q2 fun ρ2 s2 va vb h2 G2 R1 R2 => zlg h2.H (C.rm _ h.A).2 q3 R1 R2 (hQ ρ2 s2 _ (q ▸ h2) G2 (q ▸ rfl))) (zer _ _ _)) (prf q)
theorem zwd (C : CT Ω cx Rm) {o : CmpOp} {a b : FE} {p : Nat} (Ia : EOk Ω cx Rm a) (Ib : EOk Ω cx Rm b) : TOk Ω cx Rm (.cmp o a b p) := fun {D fl hp r ρ s Q} W h he hQ =>
 zub (G := fun r => zp8 Ω Rm D fl ρ s r Q -> WP Ω D _ Q s) he (fun x y z q1 q2 q3 hQ => wpAny_isTrue_Compare1 (zh1 Ia Ib W h q1 q2 fun ρ2 s2 va vb h2 G2 R1 R2 => zlg h2.H (C.rm _ h.A).2 q3 R1 R2 (wpAny_truthy_bool (hQ ρ2 s2 h2 G2))) (zer _ _ _)) hQ
theorem ife_ok {t a b : FE} {p : Nat} (It : TOk Ω cx Rm t) (Ia : EOk Ω cx Rm a) (Ib : EOk Ω cx Rm b) : EOk Ω cx Rm (.ife t a b p) := fun {D fl hp r ρ s Q} W h he hQ => by
 obtain ⟨x, q1, he⟩ := bd_t he
 have w := zab (zab W).2
 refine IfExp_ (It (zab W).1 h q1 fun ρ1 s1 h1 G1 => ?_)
 cases z : x.1 with
 | true =>
  rw [z] at he
  exact (if_pos rfl).symm ▸ Ia w.1 h1 he fun ρ2 s2 v h2 G2 R2 => hQ ρ2 s2 v h2 (G1.trans0 G2) (zh5 (goLt G1) R2)
 | false =>
  rw [z] at he
  exact (if_neg Bool.false_ne_true).symm ▸ Ib w.2 h1 he fun ρ2 s2 v h2 G2 R2 => hQ ρ2 s2 v h2 (G1.trans0 G2) (zh5 (goLt G1) R2)
theorem lst_e {es : List FE} {k : List V -> RV} {r : RV × Hp} (h : (bd (evs cx fl es hp) fun x => bd (zcq x.1 x.2) fun y => some (k y.1, y.2)) = some r) {G : Prop} (f : ∀ x y, evs cx fl es hp = some x -> zcq x.1 x.2 = some y -> (k y.1, y.2) = r -> G) : G := by
 obtain ⟨x, h1, h⟩ := bd_t h
 obtain ⟨y, h2, h⟩ := bd_t h
 exact f x y h1 h2 (prf h)
theorem zks {es : List FE} {x : List RV × Hp} {y : List V × Hp} (I : ∀ c ∈ es, EOk Ω cx Rm c) (W : and2 (fits (len es)) (wEs Ω.nms.length D.sc es) = true) (h : Here Ω Rm D fl hp ρ s) (q1 : evs cx fl es hp = some x) (q2 : zcq x.1 x.2 = some y) {pos : Pos} {Q : List Value -> Shared -> Prop}
 (hQ : ∀ ρ2 s2 us, Here Ω Rm D fl y.2 ρ2 s2 -> Go [] ρ s ρ2 s2 -> VRs ρ2 s2.heap y.1 us -> us.length ≤ 65536 -> us.length ≤ sizeLine /\ Q us s2) : WP Ω D (spliced (backTo pos (starEach (tEs (nmOf Ω) es) D.env))) (fun vs s => vs.length ≤ sizeLine /\ Q vs s) s :=
 zuf I (zab W).2 h q1 fun ρ1 s1 us h1 G1 R1 => by
  obtain ⟨ρ2, H2, G2, V2, _⟩ := zix h1.H G1 (base_none h.H) (Lt.refl s) q2 R1
  exact hQ ρ2 s1 us (h.go G2 H2) G2 V2 (by rw [R1.len, ← zag, zpa q1]; exact zbm (zab W).1)
theorem zgu {n : Nat} (h : n ≤ 65536) : n ≤ sizeLine := by rw [sizeLine_eq]; exact Nat.le_trans h (show 65536 ≤ 16777216 by decide)
theorem list_ok {es : List FE} {p : Nat} (I : ∀ c ∈ es, EOk Ω cx Rm c) : EOk Ω cx Rm (.list es p) := fun {D fl hp r ρ s Q} W h he hQ =>
 lst_e (k := RV.l) he fun x y q1 q2 q => wpAny_List (zks I W h q1 q2 fun ρ2 s2 us h2 G2 V2 hl => ⟨zgu hl, (show Q _ _ from zhe (Ω := Ω) h2.H (goLt G2).n V2 (Nat.le_succ_of_le hl) (zef (r := (.l y.1, y.2)) h2 G2 (q ▸ hQ)) s2.toks)⟩)
theorem tup_ok' {es : List FE} {p : Nat} (I : ∀ c ∈ es, EOk Ω cx Rm c) : EOk Ω cx Rm (.tup es p) := fun {D fl hp r ρ s Q} W h he hQ =>
 lst_e (k := fun y => .v (.tup y)) he fun x y q1 q2 q => wpAny_Tuple (zks I W h q1 q2 fun ρ2 s2 us h2 G2 V2 hl => ⟨zgu hl, (show Q _ _ from zef (r := (.v (.tup y.1), y.2)) h2 G2 (q ▸ hQ) _ _ s2.toks (fun _ _ e => Heap.get?_push_of_some _ e)
  ⟨_, us, 0, rfl, Heap.get?_push_size _ rfl, VRs.mono (Ext.refl _) (fun b o e _ => Heap.get?_push_of_some _ e) _ _ V2, hl⟩)⟩)
theorem sub_ok {a i : FE} {p : Nat} (Ia : EOk Ω cx Rm a) (Ib : EOk Ω cx Rm i) : EOk Ω cx Rm (.sub a i p) := fun {D fl hp r ρ s Q} W h he hQ =>
 h2_e (show h2 _ _ kSub hp = some r from he) fun x y q1 q2 q3 => Subscript_ (zh1 Ia Ib W h q1 q2 fun ρ2 s2 va vb h2 G2 R1 R2 => zne (G := fun r => zj9 Ω Rm D fl ρ s r Q -> wpAny _ _ _ _ _ _) q3 (fun z q3 hQ => by
  obtain ⟨hT, hl, hg⟩ := zqw (Ω := Ω) (A := D.A) (E := D.E) h2.H q3 R1 R2 (zef (r := (z, _)) h2 G2 hQ)
  exact zi4 hT hl hg (.inl (zmv _ _ _ _))) hQ)

theorem zro {ρ : Rho} {h : Heap} {xs : List Int} {vs : List Value} (g : VRs ρ h (xs.map V.int) vs) (is : List Nat) : VRs ρ h ((is.filterMap (xs[·]?)).map V.int) ((is.filterMap (vs.toArray[·]?)).toArray).toList := by
 induction is with
 | nil => exact VRs.nil
 | cons i is ih =>
  simp only [List.filterMap_cons, List.getElem?_toArray] at ih ⊢
  cases z : xs[i]? with
  | none =>
   have l : vs.length = xs.length := g.len.trans (List.length_map _)
   rw [List.getElem?_eq_none (l ▸ List.getElem?_eq_none_iff.mp z)]; exact ih
  | some x =>
   obtain ⟨v, h2, h3⟩ := VRs.nth g (show nth (xs.map V.int) i = some (.int x) by rw [zbd, List.getElem?_map, z]; rfl)
   rw [h2]
   exact VRs.cons h3 ih
theorem zkg {x : RV} {y z : Option RV} {e : FE} {r : RV} (h : zkh cx x y z e = some r) {G : Prop} (f : ∀ k st p a xs, x = .v (.top a) -> y = some (.v (.int k)) -> z = none -> e = .int st p -> look cx.frz a = some xs -> 0 < st -> .l (zl0 xs k st) = r -> G) : G := by
 obtain ⟨a, h1, h⟩ := bd_t h
 obtain ⟨k, h2, h⟩ := bd_t h
 obtain ⟨h3, h⟩ := zae h
 obtain ⟨st, h4, h⟩ := bd_t h
 obtain ⟨xs, h5, h⟩ := bd_t h
 obtain ⟨h6, h⟩ := zae h
 obtain ⟨y', h2, h2'⟩ := bd_t h2
 obtain ⟨p, h4⟩ := eI_t h4
 exact f k st p a xs (rTop_t h1) (h2.trans (congrArg some (rI_t h2'))) (zjm h3) h4 h5 (Nat.le_of_ble_eq_true h6) (prf h)
theorem zji {o : Option FE} {y : Option RV × Hp} (I : ∀ x, o = some x -> EOk Ω cx Rm x) (W : wO Ω.nms.length D.sc o = true) (h : Here Ω Rm D fl hp ρ s) (e : evo cx fl o hp = some y) {Q : Value -> Shared -> Prop}
 (hQ : ∀ ρ' s' v, Here Ω Rm D fl y.2 ρ' s' -> Go [] ρ s ρ' s' -> zfg Ω ρ' s s' y.1 v -> Q v s') : WP Ω D (evalPart (tO (nmOf Ω) o) D.env) Q s := by
 cases o with
 | none => cases prf e; exact wpAny_pure (hQ ρ s _ h (Go.refl _ _ _) rfl)
 | some x =>
  obtain ⟨r, q, e⟩ := bd_t e
  cases prf e
  exact I x rfl W h q hQ
theorem zku {o : Option RV} {v : Value} (R : zfg Ω ρ s₀ s o v) (g : Go [] ρ s ρ' s') : zfg Ω ρ' s₀ s' o v := by
 cases o with
 | none => exact R
 | some r => exact RVR.go R g
theorem zkt {o : Option RV} {v : Value} {s₁ : Shared} (l : Lt s₀ s₁) (R : zfg Ω ρ s₁ s o v) : zfg Ω ρ s₀ s o v := by
 cases o with
 | none => exact R
 | some r => exact zh5 l R
theorem zwu (C : CT Ω cx Rm) {x : RV} {y z : Option RV} {e : FE} {value : Expr} {lo hi : Option FE} {sp : Pos} {va vl vu : Value} {r' : RV × Hp} {tt : Tok} {Q : Value -> Shared -> Prop} {stp : Nat} {p2 : Nat} (q4 : zkh cx x y z e = some r'.1) (he : e = .int stp p2) (h : Here Ω Rm D fl r'.2 ρ s) (G : Go [] ρ₀ s₀ ρ s) (R1 : RVR Ω ρ s₀ s x va) (R2 : zfg Ω ρ s₀ s y vl) (R3 : zfg Ω ρ s₀ s z vu) (hQ : zj9 Ω Rm D fl ρ₀ s₀ r' Q) :
 WP Ω D (subscriptTail value (.Slice (tO (nmOf Ω) lo) (tO (nmOf Ω) hi) (tO (nmOf Ω) (some e)) sp) va (.ref s.heap.objs.size)) Q { s with heap := s.heap.push { cls := .type "slice", data := .fields #[vl, vu, .int (.ofNat stp) tt] } } := by
 refine zkg q4 fun k stp' p3 aa xs ex ey ez ee hf hst q => ?_
 have es : stp = stp' := prf (congrArg eI (he.symm.trans ee))
 rw [← es] at hst q
 rw [ex] at R1
 rw [ey] at R2
 rw [ez] at R3
 obtain ⟨vs, ⟨ol, g0, gc, nl, gd⟩, g2, g3⟩ := C.frz _ _ hf
 obtain ⟨tl, e2⟩ := R2
 rw [show va = .ref aa from R1, e2, show vu = .none from R3]
 have g1 := h.H.base _ _ g0
 refine zi4 ⟨ol, Heap.get?_push_of_some _ g1, gc⟩ PySem.F.slot_list_getitem.lookup ?_ (.inl rfl)
 have hsz : vs.toArray.size = xs.length := by rw [List.size_toArray, (g2 [] Ω.h₀).len, List.length_map]
 refine wpAny_getItem_list_slice (items := vs.toArray) (vs := .int (.ofNat stp) tt) (st := some (.ofNat stp)) ⟨ol, Heap.get?_push_of_some _ g1, gc, nl, gd⟩ ⟨_, Heap.get?_push_size _ rfl, rfl, rfl⟩ (.int _ _) .none (.int _ _)
  (fun z => absurd (Int.ofNat.inj (Option.some.inj z)) (Nat.ne_of_gt hst)) ?_ (by rw [sizeLine_eq]; simp only [List.size_toArray]; omega)
 have hx : VRs ρ s.heap (zl0 xs k stp) (slicePick vs.toArray (some k) none (some (.ofNat stp))).toList := by
  unfold zl0 slicePick
  rw [hsz]
  exact zro (g2 _ _) _
 have hl2 : (slicePick vs.toArray (some k) none (some (.ofNat stp))).toList.length ≤ 65537 := by
  rw [Array.length_toList]
  exact Nat.le_succ_of_le (Nat.le_trans (slicePick_size_le vs.toArray (some k) none (some (.ofNat stp))) (show vs.toArray.size ≤ 65536 from g3))
 have hn := zfe (zb7 (s.heap.push { cls := .type "slice", data := .fields #[.int k tl, .none, .int (.ofNat stp) tt] }))
 refine zef h G hQ _ _ s.toks (fun _ _ e => Heap.get?_push_of_some _ (Heap.get?_push_of_some _ e)) (q ▸ ⟨_, (slicePick vs.toArray (some k) none (some (.ofNat stp))).toList, 0, rfl, ?_,
  VRs.mono (Ext.refl ρ) (fun b o e _ => Heap.get?_push_of_some _ (Heap.get?_push_of_some _ e)) _ _ hx, hl2, (goLt G).n _ hn, h.H.notIn hn⟩)
 exact Heap.get?_push_size _ rfl
theorem sli_e {a : FE} {lo hi st : Option FE} {q p : Nat} {r : RV × Hp} (h : ev cx fl (.sli a lo hi st q p) hp = some r) {G : Prop} (f : ∀ x y z, ev cx fl a hp = some x -> evo cx fl lo x.2 = some y -> evo cx fl hi y.2 = some z -> kSli cx st x.1 y.1 z.1 z.2 = some r.1 -> z.2 = r.2 -> G) : G := by
 obtain ⟨x, h1, h⟩ := bd_t h
 obtain ⟨y, h2, h⟩ := bd_t h
 obtain ⟨z, h3, h⟩ := bd_t h
 obtain ⟨w, h4, h⟩ := bd_t h
 cases prf h
 exact f x y z h1 h2 h3 h4 rfl
theorem sli_ok (C : CT Ω cx Rm) {a : FE} {lo hi st : Option FE} {q p : Nat} (Ia : EOk Ω cx Rm a) (Il : ∀ x, lo = some x -> EOk Ω cx Rm x) (Ih : ∀ x, hi = some x -> EOk Ω cx Rm x) (Is : ∀ x, st = some x -> EOk Ω cx Rm x) : EOk Ω cx Rm (.sli a lo hi st q p) := fun {D fl hp r ρ s Q} W h he hQ =>
 sli_e he fun x y z q1 q2 q3 q4 q5 => by
  have w := zab (zab W).2
  have w2 := zab w.2
  refine Subscript_ (Ia (zab W).1 h q1 fun ρ1 s1 va h1 G1 R1 => wpAny_Slice (zji Il w.1 h1 q2 fun ρ2 s2 vl h2 G2 R2 => zji Ih w2.1 h2 q3 fun ρ3 s3 vu h3 G3 R3 => ?_))
  rw [q5] at h3
  have G12 := G1.trans0 G2
  have G := G12.trans0 G3
  cases st with
  | none =>
   obtain ⟨hT, hl, hg⟩ := zlp (Ω := Ω) (A := D.A) (E := D.E) (Q := Q) (s₀ := s) h3.H (goLt G).n (q5 ▸ q4) ((R1.go G2).go G3) (zkt (goLt G1) (zku R2 G3)) (zkt (goLt G12) R3) (zef h3 G hQ)
   exact wpAny_pure (zi4 hT hl hg (.inr rfl))
  | some e2 =>
   refine zkg q4 fun k stp p2 aa xs _ _ _ ee _ _ _ => ?_
   refine zji Is w2.2 (y := (some (.v (.int (.ofNat stp))), r.2)) h3 (by rw [ee]; rfl) fun ρ4 s4 vt h4 G4 R4 => ?_
   obtain ⟨tt, e4⟩ := (show ∃ t, vt = .int (.ofNat stp) t from R4)
   rw [e4]
   exact zwu C q4 ee h4 (G.trans0 G4) (((R1.go G2).go G3).go G4) (zkt (goLt G1) (zku (zku R2 G3) G4)) (zkt (goLt G12) (zku R3 G4)) hQ
theorem att_ok (C : CT Ω cx Rm) {a : FE} {x p : Nat} (Ia : EOk Ω cx Rm a) : EOk Ω cx Rm (.att a x p) := fun {D fl hp r ρ s Q} W h he hQ => by
 obtain ⟨y, q1, he⟩ := bd_t he
 have w := zab (zab W).2
 refine Attribute_any_ (Ia w.2 h q1 fun ρ1 s1 v h1 G1 R1 => zne (G := fun r => zj9 Ω Rm D fl ρ s r Q -> wpAny _ _ _ _ _ _) he (fun z q2 hQ => C.att (zfl (zab W).1) q2 h1.H R1 fun u t R => hQ ρ1 _ u (h1.tok t) (G1.trans0 (Go.tok _ _ _ t)) (R.go (Go.tok _ _ _ t))) hQ) ?_
 show (do
  let o ← attributeBase (tE (nmOf Ω) a) (nmOf Ω x) D.env (eval (tE (nmOf Ω) a) D.env)
  standAt (pos p).atName
  let r ← holding [o] (getAttr o (nmOf Ω x) true)
  letTemporaryGo (tE (nmOf Ω) a) o r
  pure r) = _
 rw [zdr w.1]
theorem zd0 {x : List Nat} (hx : sOk x) : (St x).length ≤ sizeLine := by rw [zak]; exact zgu hx.2
theorem fmt_ok {e : FE} {c p : Nat} (Ia : EOk Ω cx Rm e) : EOk Ω cx Rm (.fmt e c p) := fun {D fl hp r ρ s Q} W h he hQ => by
 obtain ⟨x, q1, he⟩ := bd_t he
 obtain ⟨t, q2, he⟩ := bd_t he
 cases prf he
 have w := zam (zab W).1
 subst w
 exact wpAny_FormattedValue_s (Ia (zab W).2 h q1 fun ρ1 s1 v h1 G1 R1 => rvS_e q2 R1 fun tk hx =>
  habitSame_str (fun t1 k1 => formatField_str (fun t2 k2 => hQ ρ1 _ _ ((h1.tok k1).tok k2) ((G1.trans0 (Go.tok _ _ _ k1)).trans0 (Go.tok _ _ _ k2)) ⟨⟨_, rfl⟩, hx⟩) (zd0 hx)) (zd0 hx))
theorem cat_e {r : RV} {rs : List RV} {t : List Nat} (h : catR (r :: rs) = some t) {G : Prop} (f : ∀ a b, rS r = some a -> catR rs = some b -> a ++ b = t -> G) : G := by
 obtain ⟨a, h1, h⟩ := bd_t h
 obtain ⟨b, h2, h⟩ := bd_t h
 exact f a b h1 h2 (prf h)
theorem join_ok {es : List FE} : ∀ {hp : Hp} {rs : List RV × Hp} {t u : List Nat} {ρ : Rho} {s : Shared} {Q : Value -> Shared -> Prop}, (∀ e ∈ es, EOk Ω cx Rm e) -> wEs Ω.nms.length D.sc es = true -> Here Ω Rm D fl hp ρ s -> evs cx fl es hp = some rs -> catR rs.1 = some t -> sOk u -> (u ++ t).length ≤ 65536 ->
 (∀ ρ' s' v, Here Ω Rm D fl rs.2 ρ' s' -> Go [] ρ s ρ' s' -> VR ρ' s'.heap (.str (u ++ t)) v -> Q v s') -> WP Ω D (joinParts (St u) (evalEach (tEs (nmOf Ω) es) D.env)) Q s := by
 induction es with
 | nil =>
  intro hp rs t u ρ s Q _ _ h e ec hu hl hQ
  cases prf e
  cases prf ec
  rw [List.append_nil] at hQ
  exact joinParts_nil (hQ ρ _ _ (h.tok _) (Go.tok _ _ _ _) ⟨⟨_, rfl⟩, hu⟩) (zd0 hu)
 | cons e es ih =>
  intro hp rs t u ρ s Q I W h he ec hu hl hQ
  refine zpb he fun x xs q1 q2 q => cat_e (q ▸ ec) fun a b q3 q4 q5 => joinParts_cons (I e (.head _) (zab W).1 h q1 fun ρ1 s1 v h1 G1 R1 => rvS_e q3 R1 fun tk hx => ?_)
  rw [← q5, ← List.append_assoc] at hl
  have hl2 : (u ++ a).length ≤ 65536 := Nat.le_trans (by rw [List.length_append (as := u ++ a)]; exact Nat.le_add_right _ _) hl
  have hua : sOk (u ++ a) := ⟨zdg hu.1 hx.1, hl2⟩
  show (St u ++ St a).length ≤ sizeLine /\ WP Ω D (joinParts (St u ++ St a) _) Q s1
  rw [zcr]
  exact ⟨zd0 hua, ih (fun e' h => I e' (.tail _ h)) (zab W).2 h1 q2 q4 hua hl fun ρ2 s2 v h2 G2 R2 => hQ ρ2 s2 v (q ▸ h2) (G1.trans0 G2) (by rw [← q5, ← List.append_assoc]; exact R2)⟩
theorem jst_ok {es : List FE} {p : Nat} (I : ∀ c ∈ es, EOk Ω cx Rm c) : EOk Ω cx Rm (.jst es p) := fun {D fl hp r ρ s Q} W h he hQ => by
 obtain ⟨rs, q1, he⟩ := bd_t he
 obtain ⟨t, q2, he⟩ := bd_t he
 obtain ⟨q3, he⟩ := zae he
 cases prf he
 have hl := zag t ▸ zbm q3
 have many : WP Ω D (joinParts (St []) (evalEach (tEs (nmOf Ω) es) D.env)) Q s := join_ok (u := []) I (zab W).2 h q1 q2 ⟨rfl, Nat.zero_le _⟩ hl hQ
 cases es with
 | nil => exact many
 | cons e es =>
  cases es with
  | nil =>
   refine zpb q1 fun x xs q4 q5 q => cat_e (q ▸ q2) fun a b q6 q7 q8 => ?_
   have q5 := prf q5
   rw [← q5] at q7
   have e2 : a = t := (List.append_nil a).symm.trans (by rw [prf q7]; exact q8)
   exact I e (.head _) (zab (zab W).2).1 h q4 fun ρ1 s1 v h1 G1 R1 => hQ ρ1 s1 v (by rw [← q, ← q5]; exact h1) G1 (by rw [rS_t q6, e2] at R1; exact R1)
  | cons e' es => exact many
theorem zd4 {e : FE} (I : EOk Ω cx Rm e) (ht : ∀ {fl hp b}, tr cx fl e hp = some b -> hTru (ev cx fl e) hp = some b) (hp : ∀ env, isTrue (tE (nmOf Ω) e) env (eval (tE (nmOf Ω) e) env) = (do let v ← eval (tE (nmOf Ω) e) env; standAt (tE (nmOf Ω) e).pos; holding [v] (truthy v))) : TOk Ω cx Rm e := fun {D fl hp' b ρ s Q} W h he hQ => by
 obtain ⟨r, q1, he⟩ := bd_t (ht he)
 obtain ⟨t, q2, he⟩ := bd_t he
 cases prf he
 exact isTrue_plain (I W h q1 fun ρ1 s1 v h1 G1 R1 => zwc h1.H q2 R1 fun t => hQ ρ1 _ (h1.tok t) (G1.trans0 (Go.tok [] ρ1 s1 t))) (hp _)
theorem zf3 {e : FE} {b : Bool} (h : ∀ {env : Env} {s : Shared} {A : Around} {E Q : Value -> Shared -> Prop}, Q (.bool b) s -> wpAny Ω.M A (eval (tE (nmOf Ω) e) env) Q E s) (he : ∀ {fl hp}, ev cx fl e hp = some (.v (.bool b), hp)) : EOk Ω cx Rm e := fun {D fl hp r ρ s Q} W hh e hQ => by
 cases prf (he.symm.trans e)
 exact h (hQ ρ s _ hh (Go.refl _ _ _) rfl)
theorem zvc {p : Nat} {env : Env} {A : Around} {E Q : Value -> Shared -> Prop} (hQ : Q (.bool true) s) : wpAny Ω.M A (eval (tE (nmOf Ω) (.dbg p)) env) Q E s := by
 show wpAny _ _ (do standAt (pos p); if (Str.ofString "__debug__" == ("__debug__" : Str)) = true then debugConstant else loadName env (Str.ofString "__debug__")) _ _ _
 rw [if_pos (by decide)]
 exact wpAny_bind (wpAny_standAt (wpAny_bind (wpAny_rule (wpAny_pure hQ))))
theorem zt6 (C : CT Ω cx Rm) {x p : Nat} : EOk Ω cx Rm (.var x p) := fun {D fl hp r ρ s Q} W h he hQ => by
 obtain ⟨v, q, he⟩ := bd_t he
 cases prf he
 exact zka C q (zab W).2 h.K h.F fun u R => hQ ρ s u h (Go.refl _ _ _) R
theorem glo_ok (C : CT Ω cx Rm) {x p : Nat} : EOk Ω cx Rm (.glo x p) := fun {D fl hp r ρ s Q} W h he hQ => by
 obtain ⟨v, q, he⟩ := bd_t he
 cases prf he
 exact zqa C q (is_t (zab W).2) h.K h.H h.F fun u R => hQ ρ s u h (Go.refl _ _ _) R
theorem int_ok {i p : Nat} : EOk Ω cx Rm (.int i p) := fun {D fl hp r ρ s Q} W h he hQ => by
 cases prf he
 exact wpAny_Constant_int (hQ ρ _ _ (h.tok _) (Go.tok _ _ _ _) ⟨_, rfl⟩)
theorem neg_ok {a q p : Nat} : EOk Ω cx Rm (.neg a q p) := fun {D fl hp r ρ s Q} W h he hQ => by
 cases prf he
 exact UnaryOp_ (wpAny_Constant_int (neg_int (hQ ρ _ _ ((h.tok _).tok _) ((Go.tok _ _ _ _).trans0 (Go.tok _ _ _ _)) ⟨_, rfl⟩)))
theorem str_ok {t : String} {l : List Nat} {p : Nat} : EOk Ω cx Rm (.str t l p) := fun {D fl hp r ρ s Q} W h he hQ => by
 cases prf he
 obtain ⟨w1, w2⟩ := strL_t W
 exact wpAny_Constant_str (hQ ρ _ _ (h.tok _) (Go.tok _ _ _ _) ⟨⟨_, by rw [w1]⟩, w2⟩)
theorem none_ok {p : Nat} : EOk Ω cx Rm (.none p) := fun {D fl hp r ρ s Q} W h he hQ => by
 cases prf he
 exact wpAny_Constant_none (hQ ρ s _ h (Go.refl _ _ _) rfl)
theorem not_ok {a : FE} {p : Nat} (Ia : TOk Ω cx Rm a) : TOk Ω cx Rm (.not a p) := fun {D fl hp r ρ s Q} W h he hQ => by
 obtain ⟨x, q, he⟩ := bd_t he
 cases prf he
 exact isTrue_not (Ia W h q fun ρ1 s1 h1 G1 => zj6 x.1 ▸ hQ ρ1 s1 h1 G1)
theorem both (C : CT Ω cx Rm) (e : FE) : Both Ω cx Rm e :=
 FE.rec (motive_1 := fun e => Both Ω cx Rm e) (motive_2 := fun es => ∀ e ∈ es, Both Ω cx Rm e) (motive_3 := fun o => ∀ e, o = some e -> Both Ω cx Rm e)
  (fun p => ⟨none_ok, fun _ _ he _ => nn he⟩)
  (fun p => ⟨zf3 wpAny_Constant_bool rfl, zd4 (e := .tru p) (zf3 wpAny_Constant_bool rfl) (fun h => h) fun _ => rfl⟩)
  (fun p => ⟨zf3 wpAny_Constant_bool rfl, fun _ _ he _ => nn he⟩)
  (fun i p => ⟨int_ok, fun _ _ he _ => nn he⟩)
  (fun t l p => ⟨str_ok, fun _ _ he _ => nn he⟩)
  (fun x p => ⟨zt6 C, zd4 (e := .var x p) (zt6 C) (fun h => h) fun _ => rfl⟩)
  (fun x p => ⟨glo_ok C, fun _ _ he _ => nn he⟩)
  (fun p => ⟨zf3 zvc rfl, zd4 (e := .dbg p) (zf3 zvc rfl) (fun h => h) fun _ => rfl⟩)
  (fun o a b p ia ib => ⟨zvj ia.1 ib.1, zd4 (e := .bin o a b p) (zvj ia.1 ib.1) (fun h => h) fun _ => rfl⟩)
  (fun a q p => ⟨neg_ok, fun _ _ he _ => nn he⟩)
  (fun a p ia => ⟨fun _ _ he _ => nn he, not_ok ia.2⟩)
  (fun es p i => ⟨fun _ _ he _ => nn he, fun W h he hQ => and_ok (fun c hc => (i c hc).2) W h he hQ⟩)
  (fun es p i => ⟨fun _ _ he _ => nn he, fun W h he hQ => or_ok (fun c hc => (i c hc).2) W h he hQ⟩)
  (fun o a b p ia ib => ⟨cmp_ok C ia.1 ib.1, zwd C ia.1 ib.1⟩)
  (fun t a b p it ia ib => ⟨ife_ok it.2 ia.1 ib.1, fun _ _ he _ => nn he⟩)
  (fun es p i => ⟨list_ok fun c hc => (i c hc).1, fun _ _ he _ => nn he⟩)
  (fun es p i => ⟨tup_ok' fun c hc => (i c hc).1, fun _ _ he _ => nn he⟩)
  (fun a i p ia ii => ⟨sub_ok ia.1 ii.1, fun _ _ he _ => nn he⟩)
  (fun a lo hi st q p ia il ih is => ⟨sli_ok C ia.1 (fun x hx => (il x hx).1) (fun x hx => (ih x hx).1) fun x hx => (is x hx).1, fun _ _ he _ => nn he⟩)
  (fun a x p ia => ⟨att_ok C ia.1, fun _ _ he _ => nn he⟩)
  (fun f as kn ks kp p jf i j => ⟨call_ok C jf.1 (fun c hc => (i c hc).1) fun c hc => (j c hc).1, fun _ _ he _ => nn he⟩)
  (fun o x as kn ks kp ap p jo i j => have I : EOk Ω cx Rm (.mcall o x as kn ks kp ap p) := zr6 C jo.1 (fun c hc => (i c hc).1) fun c hc => (j c hc).1; ⟨I, zd4 (e := .mcall o x as kn ks kp ap p) I (fun h => h) fun _ => rfl⟩)
  (fun e c p i => ⟨fmt_ok i.1, fun _ _ he _ => nn he⟩)
  (fun es p i => ⟨jst_ok fun c hc => (i c hc).1, fun _ _ he _ => nn he⟩)
  (fun e ts tps tp it ifs sc' p ie ii j => ⟨comp_ok C ii.1 ie.1 fun c hc => (j c hc).2, fun _ _ he _ => nn he⟩)
  nofun (fun e r ie ir x hx => (List.mem_cons.mp hx).elim (fun q => q ▸ ie) (ir x)) (fun e h => nn h) (fun e ie x hx => prf hx ▸ ie) e
end
end
section

noncomputable def stOk (n : Nat) (sc : List (Nat × Nat)) (x : Nat) : Bool := and2 (ltB x n) (byO (look sc x) (fun k => Nat.ble k 1) false)
noncomputable def zdq : List Nat -> Bool
 | [] => true
 | x :: r => and2 (bnot (isIn x r)) (zdq r)
noncomputable def lit : FE -> Bool
 | .none _ | .tru _ | .fls _ | .int _ _ | .str _ _ _ | .neg _ _ _ => true
 | _ => false
noncomputable def isVar : FE -> Bool
 | .var _ _ => true
 | _ => false
noncomputable def zrb : FE -> Bool
 | .var _ _ | .glo _ _ | .list _ _ | .call _ _ _ _ _ _ | .mcall _ _ _ _ _ _ _ _ | .att _ _ _ | .comp _ _ _ _ _ _ _ _ | .ife _ _ _ _ | .cmp _ _ _ _ | .sli _ _ _ _ _ _ => true
 | .bin _ a _ _ => isVar a
 | _ => false
noncomputable def anyB {α : Type} (f : α -> Bool) : List α -> Bool
 | [] => false
 | x :: r => or2 (f x) (anyB f r)
noncomputable def zk6 : FE -> Bool
 | .comp _ _ _ _ _ _ _ _ => true
 | _ => false
noncomputable def tupE : FE -> Option (List FE)
 | .tup es _ => some es
 | _ => none
noncomputable def wT (n : Nat) (sc : List (Nat × Nat)) (t : Tg) : Bool := match t with
 | .name x _ => stOk n sc x
 | .tup xs ps _ => and2 (allB (stOk n sc) xs) (zdq xs)
 | .att o x _ => and2 (ltB x n) (wE n sc o)
 | .sub o i _ => and2 (wE n sc o) (wE n sc i)
 | .all _ _ _ => false
noncomputable def isNm (t : Tg) : Bool := match t with
 | .name _ _ => true
 | _ => false
noncomputable def tgTup (t : Tg) : Bool := match t with
 | .tup _ _ _ => true
 | _ => false
noncomputable def nmOk (n : Nat) (sc : List (Nat × Nat)) (t : Tg) : Bool := match t with
 | .name x _ => stOk n sc x
 | _ => false
noncomputable def swOk (t : Tg) (e : FE) : Bool := or2 (bnot (tgTup t)) (byO (tupE e) (fun es => or2 (allB lit es) (anyB zrb es)) true)
mutual
noncomputable def wS (n : Nat) (sc : List (Nat × Nat)) : FS -> Bool
 | .asg ts e _ => and2 (wE n sc e) (byO (a1 ts) (fun t => and2 (wT n sc t) (swOk t e)) (allB (nmOk n sc) ts))
 | .ex e _ => and2 (bnot (zk6 e)) (wE n sc e)
 | .aug x _ o e _ => and2 (stOk n sc x) (and2 (augs o) (wE n sc e))
 | .ife t a b _ => and2 (wE n sc t) (and2 (wSs n sc a) (wSs n sc b))
 | .whl t b _ => and2 (wE n sc t) (wSs n sc b)
 | .for_ t it b o _ => and2 (wT n sc t) (and2 (wE n sc it) (and2 (wSs n sc b) (wSs n sc o)))
 | .ret e _ => wE n sc e
 | .ret0 _ => true
 | .brk _ => true
 | .pass _ => true
 | .del _ _ _ _ => false
 | .dead _ => true
noncomputable def wSs (n : Nat) (sc : List (Nat × Nat)) : List FS -> Bool
 | [] => true
 | s :: r => and2 (wS n sc s) (wSs n sc r)
end
theorem zm1 {n : Nat} {sc : List (Nat × Nat)} {x : Nat} (h : stOk n sc x = true) : x < n /\ (look sc x = some 0 ∨ look sc x = some 1) := by
 obtain ⟨h1, h2⟩ := zab h
 refine ⟨zfl h1, ?_⟩
 cases q : look sc x with
 | none => rw [q] at h2; exact ff h2
 | some k =>
  rw [q] at h2
  match k, h2 with
  | 0, _ => exact .inl rfl
  | 1, _ => exact .inr rfl
theorem zn0 {l : List Nat} (h : zdq l = true) : l.Nodup := by
 induction l with
 | nil => exact List.nodup_nil
 | cons x r ih => exact List.nodup_cons.mpr ⟨zg6 (zab h).1, ih (zab h).2⟩
theorem anyB_t {α : Type} {f : α -> Bool} {l : List α} (h : anyB f l = true) : ∃ x ∈ l, f x = true := by
 induction l with
 | nil => exact ff h
 | cons y r ih => exact (zjj h).elim (fun q => ⟨y, .head _, q⟩) fun q => (ih q).elim fun x h => ⟨x, .tail _ h.1, h.2⟩

section
variable {Ω : Bx} {env : Env} {fl fl' fl2 : L}
noncomputable def zez (a b : L) : Prop := ∀ y, look a y = look b y
theorem zez.put (h : zez fl fl2) (x : Nat) (v : V) : zez (put fl x v) (put fl2 x v) := fun y => by rw [zaa, zaa, h y]
theorem zrl (fl : L) {x y : Nat} (h : x ≠ y) (v w : V) : zez (put (put fl x v) y w) (put (put fl y w) x v) := fun z => by
 rw [zaa, zaa, zaa, zaa]
 by_cases q : z = y
 · rw [if_pos q, if_neg (fun e => h (e.symm.trans q)), if_pos q]
 · rw [if_neg q, if_neg q]
theorem zib {xs : List Nat} : ∀ {vs : List V} {fl fl2 fl' : L}, zez fl fl2 -> za7 xs vs fl = some fl' -> ∃ b, za7 xs vs fl2 = some b /\ zez fl' b := by
 induction xs with
 | nil => intro vs fl fl2 fl' h e; cases vs with | nil => exact ⟨fl2, rfl, prf e ▸ h⟩ | cons _ _ => exact nn e
 | cons x r ih => exact fun {vs _ fl2 fl'} h e => zlx (G := fun vs => ∃ b, za7 (x :: r) vs fl2 = some b /\ zez fl' b) e fun v t e => ih (h.put x v) e
theorem zlz {xs : List Nat} {x : Nat} {v : V} : ∀ {vs : List V} {fl fl' : L}, x ∉ xs -> za7 xs vs (put fl x v) = some fl' -> ∃ b, za7 xs vs fl = some b /\ zez fl' (put b x v) := by
 induction xs with
 | nil => intro vs fl fl' h e; cases vs with | nil => exact ⟨fl, rfl, prf e ▸ fun _ => rfl⟩ | cons _ _ => exact nn e
 | cons y r ih =>
  exact fun {vs fl fl'} h e => zlx (G := fun vs => ∃ b, za7 (y :: r) vs fl = some b /\ zez fl' (put b x v)) e fun w t e => by
   obtain ⟨b, h1, h2⟩ := zib (zrl fl (fun q => h (List.mem_cons.mpr (.inl q))) v w) e
   obtain ⟨c, h3, h4⟩ := ih (fun q => h (.tail _ q)) h1
   exact ⟨c, h3, fun z => (h2 z).trans (h4 z)⟩
theorem zjg {xs : List Nat} {x : Nat} {v : V} : ∀ {vs : List V} {fl fl' : L}, za7 xs vs fl = some fl' -> za7 (xs ++ [x]) (vs ++ [v]) fl = some (put fl' x v) := by
 induction xs with
 | nil => intro vs fl fl' e; cases vs with | nil => exact prf e ▸ rfl | cons _ _ => exact nn e
 | cons y r ih => exact fun {vs fl fl'} e => zlx (G := fun vs => za7 (y :: r ++ [x]) (vs ++ [v]) fl = some (put fl' x v)) e fun w t e => ih e
theorem zly {xs : List Nat} : ∀ {vs : List V} {fl' : L}, xs.Nodup -> za7 xs vs fl = some fl' -> ∃ fl2, za7 xs.reverse vs.reverse fl = some fl2 /\ zez fl' fl2 := by
 induction xs with
 | nil => intro vs fl' _ e; cases vs with | nil => exact ⟨fl, rfl, prf e ▸ fun _ => rfl⟩ | cons _ _ => exact nn e
 | cons x r ih =>
  exact fun {vs fl'} h e => zlx (G := fun vs => ∃ fl2, za7 (x :: r).reverse vs.reverse fl = some fl2 /\ zez fl' fl2) e fun v t e => by
   obtain ⟨h1, h2⟩ := List.nodup_cons.mp h
   obtain ⟨b, h3, h4⟩ := zlz h1 e
   obtain ⟨c, h5, h6⟩ := ih h2 h3
   rw [List.reverse_cons, List.reverse_cons]
   exact ⟨put c x v, zjg h5, fun z => (h4 z).trans (h6.put x v z)⟩

theorem zl3 (nm : Nat -> Str) {e : FE} (h : lit e = true) : foldedForSure 8 (tE nm e) = true := by
 cases e with
 | none _ => rfl
 | tru _ => rfl
 | fls _ => rfl
 | int _ _ => rfl
 | str _ _ _ => rfl
 | neg _ _ _ => rfl
 | _ => exact ff h
theorem all_lit (nm : Nat -> Str) {es : List FE} (h : allB lit es = true) : (tEs nm es).all (foldedForSure 8) = true := by
 induction es with
 | nil => rfl
 | cons e es ih => exact (Bool.and_eq_true _ _).mpr ⟨zl3 nm (zab h).1, ih (zab h).2⟩
theorem all_not (nm : Nat -> Str) {f : Expr -> Bool} {es : List FE} {x : FE} (hx : x ∈ es) (hf : f (tE nm x) = false) : (tEs nm es).all f = false := by
 induction es with
 | nil => cases hx
 | cons e es ih => exact (Bool.and_eq_false_iff).mpr ((List.mem_cons.mp hx).imp (fun q : x = e => (congrArg (fun e => f (tE nm e)) q.symm).trans hf) ih)
theorem len_fm {α β : Type} (f : α -> Option β) (x : α) (r : List α) (hl : ((x :: r).filterMap f).length = (x :: r).length) : ∃ y, f x = some y /\ (x :: r).filterMap f = y :: r.filterMap f /\ (r.filterMap f).length = r.length := by
 cases z : f x with
 | none =>
  rw [List.filterMap_cons_none z] at hl
  exact absurd (hl ▸ List.length_filterMap_le f r) (Nat.not_succ_le_self _)
 | some y => rw [List.filterMap_cons_some z] at hl ⊢; exact ⟨y, rfl, rfl, Nat.succ.inj hl⟩
theorem zry {f : Expr -> Option Str} (hf : ∀ x p id, f (.Name x p) = some id -> id = x) {xs : List Nat} : ∀ {ps : List Nat}, ((names (nmOf Ω) xs ps).filterMap f).length = (names (nmOf Ω) xs ps).length -> (names (nmOf Ω) xs ps).filterMap f = xs.map (nmOf Ω) := by
 induction xs with
 | nil => exact fun _ => rfl
 | cons x r ih =>
  intro ps hl
  have key : ∀ {p : Pos} {ps : List Nat}, ((Expr.Name (nmOf Ω x) p :: names (nmOf Ω) r ps).filterMap f).length = (Expr.Name (nmOf Ω x) p :: names (nmOf Ω) r ps).length -> (Expr.Name (nmOf Ω x) p :: names (nmOf Ω) r ps).filterMap f = (x :: r).map (nmOf Ω) := fun hl => by
   obtain ⟨y, h1, h2, h3⟩ := len_fm f _ _ hl
   rw [h2, hf _ _ _ h1, ih h3]; rfl
  cases ps with
  | nil => exact key hl
  | cons p ps => exact key hl
noncomputable abbrev nameF (env : Env) (ts : List Expr) : Expr -> Option Str := fun
 | .Name id pos => if env.kindOf id == some .local && pos.line == (ts.head?.map (·.pos.line)).getD 0 then some id else none
 | _ => none
theorem zqq {ts vs : List Expr} {k k' : Nat} {p p' : Pos} (h : vs.all (foldedForSure 8) = true ∨ vs.all (constantsAlone 8) = false) : swappedStores [.Tuple ts k p] (.Tuple vs k' p') env = pure none ∨
 (((ts.filterMap (nameF env ts)).length != ts.length) = false /\ swappedStores [.Tuple ts k p] (.Tuple vs k' p') env = pure (some (ts.filterMap (nameF env ts)))) := by
 unfold swappedStores
 dsimp only
 split
 · exact .inl rfl
 split
 · exact .inl rfl
 split
 · exact .inl rfl
 rename_i hn
 split
 · exact .inl rfl
 rename_i h1
 split
 · rename_i h2
   exact h.elim (fun h => absurd h h1) fun h => ff (h.symm.trans h2)
 · exact .inr ⟨((Bool.or_eq_false_iff).mp (Bool.not_eq_true _ ▸ hn)).1, rfl⟩
theorem zr1 {ts : List Expr} (x : Str) (p : Pos) (id : Str) (h : nameF env ts (.Name x p) = some id) : id = x := by
 have h : (if (env.kindOf x == some .local && p.line == (ts.head?.map (·.pos.line)).getD 0) = true then some x else none) = some id := h
 split at h
 · exact (prf h).symm
 · exact nn h
theorem zqr {ts : List Expr} {k : Nat} {p : Pos} {nm : Nat -> Str} {e : FE} (h : tupE e = none) : swappedStores [.Tuple ts k p] (tE nm e) env = pure none := by
 cases e with
 | tup es p => exact nn h.symm
 | _ => rfl
theorem zt9 {e : FE} {es : List FE} (h : tupE e = some es) : ∃ p, e = .tup es p := by
 cases e with
 | tup es p => exact ⟨p, congrArg (fun es => FE.tup es p) (prf h)⟩
 | _ => exact nn h
theorem zlm {xs ps : List Nat} {q : Nat} {e : FE} (hs : swOk (.tup xs ps q) e = true) (hd : ∀ es, tupE e = some es -> ∀ e ∈ es, zrb e = true -> constantsAlone 8 (tE (nmOf Ω) e) = false) :
 swappedStores [tT (nmOf Ω) (.tup xs ps q)] (tE (nmOf Ω) e) env = pure none ∨ swappedStores [tT (nmOf Ω) (.tup xs ps q)] (tE (nmOf Ω) e) env = pure (some (xs.map (nmOf Ω))) := by
 have hs : byO (tupE e) (fun es => or2 (allB lit es) (anyB zrb es)) true = true := hs
 cases z : tupE e with
 | none => exact .inl (zqr z)
 | some es =>
  rw [z] at hs
  obtain ⟨p, q⟩ := zt9 z
  rw [q]
  have hall : (tEs (nmOf Ω) es).all (foldedForSure 8) = true ∨ (tEs (nmOf Ω) es).all (constantsAlone 8) = false := (zjj hs).imp (all_lit _) fun h => (anyB_t h).elim fun x hx => all_not _ hx.1 (hd es z x hx.1 hx.2)
  refine (zqq (env := env) (ts := names (nmOf Ω) xs ps) (k := 0) (p := pos _) (k' := 0) (p' := pos p) hall).imp id fun h => h.2.trans ?_
  rw [zry zr1 (bne_eq_false_iff_eq.mp h.1)]
end
end
section

structure HereS (Ω : Bx) (Rm : Around -> Prop) (D : Dx) (fl : L) (hp : Hp) (ρ : Rho) (s : Shared) : Prop where
 h : Here Ω Rm D fl hp ρ s
 C : FC Ω D.env D.fa s
structure Since (Ω : Bx) (D : Dx) (ρ₀ : Rho) (s₀ : Shared) (ρ : Rho) (s : Shared) : Prop where
 G : Go D.fa ρ₀ s₀ ρ s
 fa : ∀ b ∈ D.fa, s₀.heap.get? b ≠ none
 b : ∀ a, s₀.heap.get? a = none -> Ω.h₀.get? a = none

section
variable {Ω : Bx} {cx : Cx} {Rm : Around -> Prop} {D : Dx} {fl fl' : L} {hp hp' : Hp} {ρ ρ₀ ρ' : Rho} {s s₀ s' : Shared} {A : Around} {E : Value -> Shared -> Prop}

theorem zls {l : Addr} {vs : List Value} {n j : Nat} {k : Int} (hk : k = (j : Int)) {t : Tok} {v : Value} {Q : Unit -> Shared -> Prop} (ho : s.heap.get? l = some (lstO vs n)) (hj : j < vs.length) (hl : vs.length ≤ 65537)
 (hQ : ∀ h' m, h'.get? l = some (lstO (vs.set j v) m) -> Heap.SameBut l s.heap h' -> Q () { s with heap := h' }) : wpAny Ω.M A (setItem (.ref l) (.int k t) v) Q E s := by
 have hfit := fitsIndex_of (k := k) (hk ▸ Int.natCast_nonneg j) (hk ▸ Int.ofNat_lt.mpr (Nat.lt_trans (Nat.lt_of_lt_of_le hj hl) (show 65537 < 9223372036854775808 by decide)))
 unfold setItem
 try with_reducible refine wpAny_holding ?_
 first | refine wpAny_bind (wpAny_pure ?_) | skip
 refine wpAny_bind (wpAny_sequenceKey (tyL ho) (by decide) ?_)
 refine wpAny_bind (wpAny_callSpecial?_slot (name := Str.ofString "__setitem__") (tyL ho) slot_list_setitem
  (wpAny_call_entry slot_list_setitem (tyL ho) entry_list_setitem ?_ (args_list_setitem _ _ _)))
 show wpAny _ _ (Builtin.List.listSubscript? (.int k t) >>= _) _ _ s
 refine wpAny_bind (wpAny_listSubscript_int hfit ?_)
 clear hfit
 subst hk
 have hx' : vs.toArray[j]? = some vs.toArray[j] := Array.getElem?_eq_getElem hj
 show wpAny _ _ ((seqItemAt l j >>= fun r => pure (r.map (j, ·))) >>= _) _ _ s
 refine wpAny_bind (wpAny_bind (wpAny_seqItemAt ho rfl (wpAny_pure ?_)))
 rw [hx']
 show wpAny _ _ (setSeqItemAt l j v >>= _) _ _ s
 have hm : ∃ m, Obj.mapSeq (·.setIfInBounds j v) (lstO vs n) = lstO (vs.set j v) m := ⟨_, by
  unfold Obj.mapSeq
  dsimp only
  rw [List.setIfInBounds_toArray]⟩
 obtain ⟨m, hm⟩ := hm
 have hfin : (s.heap.update l (Obj.mapSeq (·.setIfInBounds j v))).get? l = some (lstO (vs.set j v) m) := by
  rw [Heap.get?_update_self _ ho (by rw [hm]; rfl), hm]
 refine wpAny_bind (wpAny_setSeqItemAt ho rfl ?_)
 first
  | exact wpAny_bind (wpAny_pure (wpAny_pure ⟨.none, rfl, wpAny_pure (hQ _ m hfin (Heap.SameBut.update ..))⟩))
  | exact wpAny_pure ⟨.none, rfl, wpAny_pure (hQ _ m hfin (Heap.SameBut.update ..))⟩
theorem HereS.go (h : HereS Ω Rm D fl hp ρ s) (g : Go [] ρ s ρ' s') (H : HS Ω ρ' hp' s') : HereS Ω Rm D fl hp' ρ' s' := ⟨h.h.go g H, h.C.go h.h.F.disj g⟩
theorem HereS.of (h : HereS Ω Rm D fl hp ρ s) (g : Go [] ρ s ρ' s') (h' : Here Ω Rm D fl hp' ρ' s') : HereS Ω Rm D fl hp' ρ' s' := ⟨h', h.C.go h.h.F.disj g⟩
theorem HereS.live (h : HereS Ω Rm D fl hp ρ s) : ∀ b ∈ D.fa, s.heap.get? b ≠ none := fun b hb z => (h.h.F.live b hb).elim fun _ h => sn z h.1
theorem HereS.since (h : HereS Ω Rm D fl hp ρ s) : Since Ω D ρ s ρ s := ⟨Go.refl _ _ _, h.live, base_none h.h.H⟩
theorem Since.go {s₁ : Shared} {ρ₁ : Rho} (S : Since Ω D ρ₀ s₀ ρ s) (g : Go [] ρ s ρ₁ s₁) : Since Ω D ρ₀ s₀ ρ₁ s₁ := ⟨S.G.trans0 g, S.fa, S.b⟩
theorem zea (h : HereS Ω Rm D fl hp ρ s) (S : Since Ω D ρ₀ s₀ ρ s) {r : RV} {v : Value} {y : V × Hp} (e : zem r hp = some y) (R : RVR Ω ρ s₀ s r v) :
 ∃ ρ', HereS Ω Rm D fl y.2 ρ' s /\ Since Ω D ρ₀ s₀ ρ' s /\ VR ρ' s.heap y.1 v /\ Ext ρ ρ' /\ (ρ' = ρ ∨ ∃ xs a, r = .l xs /\ v = .ref a /\ ρ' = ρ ++ [[a]]) := by
 obtain ⟨ρ', H', G', R', hρ⟩ := zhv h.h.H S.G S.b (Lt.refl s₀) e R
 have k : Ext ρ ρ' /\ ∀ b ∈ D.fa, b ∉ ρ'.flatten := by
  rcases hρ with q | ⟨xs, a, q1, q2, q⟩
  · rw [q]; exact ⟨Ext.refl _, h.h.F.disj⟩
  · rw [q1] at R
    obtain ⟨b, vs, n, hab, _, _, _, hn, _⟩ := R
    rw [q]
    exact ⟨Ext.append _ _, fun c hc z => (List.mem_append.mp (za8 ρ [a] ▸ z)).elim (h.h.F.disj c hc) fun z => S.fa c hc (by rw [List.mem_singleton.mp z, Value.ref.inj (q2.symm.trans hab)]; exact hn)⟩
 exact ⟨ρ', ⟨⟨h.h.K, h.h.A, H', h.h.F.kept (fun _ _ _ e => e) k.1 (fun _ _ e _ => e) k.2⟩, h.C⟩, ⟨G', S.fa, S.b⟩, R', k.1, hρ⟩
theorem stS (C : CT Ω cx Rm) {x : Nat} {v : V} {u : Value} {Q : Unit -> Shared -> Prop} (w : stOk Ω.nms.length D.sc x = true) (h : HereS Ω Rm D fl hp ρ s) (R : VR ρ s.heap v u) (hQ : ∀ s', HereS Ω Rm D (put fl x v) hp ρ s' -> Go D.fa ρ s ρ s' -> Q () s') :
 WP Ω D (storeName D.env (nmOf Ω x) u) Q s := zqz C h.h.K (zm1 w).1 (zm1 w).2 h.h.H h.h.F h.C R fun s1 H1 G1 F1 FF1 => hQ s1 ⟨⟨h.h.K, h.h.A, H1, F1⟩, FF1⟩ G1
theorem stepS (C : CT Ω cx Rm) {s0 : Shared} {x : Nat} {fl : L} {s : Shared} {v : V} {u : Value} {Q : Unit -> Shared -> Prop} (w : stOk Ω.nms.length D.sc x = true) (h : HereS Ω Rm D fl hp ρ s /\ Go D.fa ρ s0 ρ s) (R : VR ρ s.heap v u)
 (hQ : ∀ s', (HereS Ω Rm D (put fl x v) hp ρ s' /\ Go D.fa ρ s0 ρ s') -> ImmK s.heap s'.heap -> Q () s') : WP Ω D (storeName D.env (nmOf Ω x) u) Q s := stS C w h.1 R fun s1 h1 G1 => hQ s1 ⟨h1, h.2.transS G1⟩ G1.imm
noncomputable abbrev zj8 (Ω : Bx) (Rm : Around -> Prop) (D : Dx) (ρ₀ : Rho) (s₀ : Shared) (o : L × Hp) (Q : Unit -> Shared -> Prop) : Prop := ∀ ρ' s', HereS Ω Rm D o.1 o.2 ρ' s' -> Go D.fa ρ₀ s₀ ρ' s' -> Q () s'
theorem zpv (C : CT Ω cx Rm) {x p : Nat} {r : RV} {v : Value} {o : L × Hp} (W : stOk Ω.nms.length D.sc x = true) (e : zaz x r fl hp = some o) (h : HereS Ω Rm D fl hp ρ s) (S : Since Ω D ρ₀ s₀ ρ s) (R : RVR Ω ρ s₀ s r v) {Q : Unit -> Shared -> Prop} (hQ : zj8 Ω Rm D ρ₀ s₀ o Q) :
 WP Ω D (assign (.Name (nmOf Ω x) (pos p)) D.env v) Q s := by
 obtain ⟨y, q1, e⟩ := bd_t e
 obtain ⟨ρ1, h1, S1, R1, _⟩ := zea h S q1 R
 exact wpAny_assign_Name (stS C W h1 R1 fun s2 h2 G2 => hQ ρ1 s2 (prf e ▸ h2) (S1.G.transS G2))
theorem ztp (C : CT Ω cx Rm) {xs ps : List Nat} {p : Nat} {r : RV} {v : Value} {o : L × Hp} (W : allB (stOk Ω.nms.length D.sc) xs = true) (e : bTpl xs r fl hp = some o) (h : HereS Ω Rm D fl hp ρ s) (S : Since Ω D ρ₀ s₀ ρ s) (R : RVR Ω ρ s₀ s r v) {Q : Unit -> Shared -> Prop} (hQ : zj8 Ω Rm D ρ₀ s₀ o Q) :
 WP Ω D (assign (.Tuple (names (nmOf Ω) xs ps) 0 (pos p)) D.env v) Q s := by
 obtain ⟨vs, q1, e⟩ := bd_t e
 obtain ⟨fl2, q2, e⟩ := bd_t e
 rw [arm_assign_Tuple]
 refine wpAny_bind (wpAny_standAt ?_)
 unfold unpack
 have l := zkf (Ω := Ω) (env := D.env) (xs := xs) (ps := ps)
 rw [l.2.1, l.2.2, ← zed q2]
 refine wpAny_bind (wpAny_holding (ze6 (C.rm D.A h.h.A).1 h.h.H q1 R fun us h' k hv => ?_))
 have G1 := Go.keeps [] ρ s (t := s.toks) k
 exact zfh (I := fun fl s' => HereS Ω Rm D fl hp ρ s' /\ Go D.fa ρ { s with heap := h' } ρ s') (stepS C) l.1 (ziw W) q2 ⟨h.go G1 (h.h.H.heap (t := s.toks) k), Go.refl _ _ _⟩ (G1.vrs hv) fun s2 h2 => hQ ρ s2 (prf e ▸ h2.1) ((S.go G1).G.transS h2.2)
theorem zk8 {n : Nat} {cd : Nat × List (Nat × V)} (h : insA n hp = some cd) : nth hp n = some (.inst cd.1 cd.2) := by
 obtain ⟨o, h1, h2⟩ := bd_t h
 exact h1.trans (congrArg some (oI_t h2))
theorem rvRef {r : RV} {n : Nat} {v : Value} (e : rR r = some n) (R : RVR Ω ρ s₀ s r v) : VR ρ s.heap (.ref n) v := by rw [rR_t e] at R; exact R
theorem ztr (C : CT Ω cx Rm) {oe : FE} {x p : Nat} {r : RV} {v : Value} {o : L × Hp} (W : and2 (ltB x Ω.nms.length) (wE Ω.nms.length D.sc oe) = true) (e : bAtt cx (ev cx fl oe) x r fl hp = some o) (h : HereS Ω Rm D fl hp ρ s) (S : Since Ω D ρ₀ s₀ ρ s) (R : RVR Ω ρ s₀ s r v) {Q : Unit -> Shared -> Prop} (hQ : zj8 Ω Rm D ρ₀ s₀ o Q) :
 WP Ω D (assign (.Attribute (tE (nmOf Ω) oe) (nmOf Ω x) (pos p)) D.env v) Q s := by
 obtain ⟨q, q1, e⟩ := bd_t e
 obtain ⟨n, qn, e⟩ := bd_t e
 obtain ⟨y, q2, e⟩ := bd_t e
 obtain ⟨cd, q3, e⟩ := bd_t e
 obtain ⟨tb, q4, e⟩ := bd_t e
 obtain ⟨q5, e⟩ := zae e
 rw [← prf e] at hQ
 show wpAny _ _ (do
  let ov ← holding [v] (eval (tE (nmOf Ω) oe) D.env)
  standAt (pos p).atName
  holding [v, ov] (setAttr ov (nmOf Ω x) v)
  release [v, ov] []) _ _ _
 refine wpAny_bind (wpAny_holding ((both C oe).1 (zab W).2 h.h q1 fun ρ1 s1 ov h1 G1 R1 => wpAny_bind (wpAny_standAt ?_)))
 obtain ⟨ρ2, h2, S2, R2, e12, _⟩ := zea (h.of G1 h1) (S.go G1) q2 (R.go G1)
 rw [rR_t qn] at R1
 obtain ⟨a, ad, hn, eo⟩ := R1
 rw [eo]
 exact wpAny_bind (wpAny_holding (C.seta h.h.A (zfl (zab W).1) (zk8 q3) q4 (e12 _ _ hn) (Nat.le_of_ble_eq_true q5) h2.h.H R2 fun s3 H3 G3 => wpAny_release (hQ ρ2 s3 (h2.go G3 H3) (S2.go G3).G)))
theorem zv0 {h : Heap} {xs : List V} {y : V} {v : Value} (Rv : VR ρ h y v) : ∀ {vs : List Value} {j : Nat}, VRs ρ h xs vs -> VRs ρ h (upd xs j y) (vs.set j v) := by
 induction xs with
 | nil => exact fun {vs j} R => vrs_n (P := fun vs => VRs ρ h [] (vs.set j v)) R rfl
 | cons x r ih =>
  exact fun {vs j} R => vrs_e (P := fun vs => VRs ρ h (upd (x :: r) j y) (vs.set j v)) R fun u t g1 g2 => by
   cases j with
   | zero => exact VRs.cons Rv g2
   | succ j => exact VRs.cons g1 (ih g2)
theorem zre (C : CT Ω cx Rm) {n j : Nat} {xs : List V} {y : V} {ov iv v : Value} (q3 : lisA n hp = some xs) (q4 : j < xs.length) (h : HereS Ω Rm D fl hp ρ s) (R1 : VR ρ s.heap (.ref n) ov) (R2 : VR ρ s.heap (.int (.ofNat j)) iv) (Rv : VR ρ s.heap y v) {Q : Unit -> Shared -> Prop}
 (hQ : ∀ s', HereS Ω Rm D fl (upd hp n (.list (upd xs j y))) ρ s' -> Go [] ρ s ρ s' -> Q () s') : WP Ω D (setItem ov iv v) Q s := by
 obtain ⟨a, vs, m, e1, hn, h2, h3, h4⟩ := zgh h.h.H q3 R1
 obtain ⟨t, e2⟩ := R2
 rw [e1, e2]
 refine zls (k := Int.ofNat j) rfl h2 (h3.len.symm ▸ q4) h4 fun h' m' hl' hs' => ?_
 have im : ImmK s.heap h' := zf2 hs' h2 zfm
 have G3 : Go [] ρ s ρ { s with heap := h' } := h.h.H.goSet (t := s.toks) hn (.head _) hs' [] ⟨_, hl'⟩
 exact hQ _ (h.go G3 (h.h.H.set hn (.head _) (fun b ob q e => (hs'.2 b q).trans e) ⟨a, _, m', rfl, hl', zv0 (VR.mono (Ext.refl _) im _ _ Rv) (VRs.mono (Ext.refl _) im _ _ h3), (List.length_set ..).symm ▸ h4⟩ h.h.H.gens)) G3
theorem set_ok (C : CT Ω cx Rm) {n : Nat} {k y : V} {ov iv v : Value} {o : L × Hp} (e : bSet cx n k y fl hp = some o) (h : HereS Ω Rm D fl hp ρ s) (S : Since Ω D ρ₀ s₀ ρ s) (R1 : VR ρ s.heap (.ref n) ov) (R2 : VR ρ s.heap k iv) (Rv : VR ρ s.heap y v) {Q : Unit -> Shared -> Prop} (hQ : zj8 Ω Rm D ρ₀ s₀ o Q) : WP Ω D (setItem ov iv v) Q s := by
 rcases zcs e with e | e
 · obtain ⟨xs, q3, e⟩ := bd_t e
   obtain ⟨j, qj, e⟩ := bd_t e
   obtain ⟨q4, e⟩ := zae e
   obtain ⟨i, qi, qj⟩ := bd_t qj
   rw [vI_t qi, iN_t qj] at R2
   exact zre C q3 (zag xs ▸ Nat.le_of_ble_eq_true q4) h R1 R2 Rv fun s' h' G' => hQ ρ s' (prf e ▸ h') (S.go G').G
 · obtain ⟨cd, q3, e⟩ := bd_t e
   obtain ⟨tb, q4, e⟩ := bd_t e
   obtain ⟨f, q5, e⟩ := bd_t e
   obtain ⟨w, q6, e⟩ := bd_t e
   obtain ⟨q7, e⟩ := zae e
   exact C.seti (ρ₀ := ρ) (s₀ := s) h.h.A (zk8 q3) q4 q5 (q6.trans (congrArg some (Prod.ext (rN_t q7) rfl))) h.h.H (Go.refl [] ρ s) (base_none h.h.H) R1 R2 Rv fun ρ3 s3 H3 G3 => hQ ρ3 s3 (prf e ▸ h.go G3 H3) (S.go G3).G
theorem ztq (C : CT Ω cx Rm) {oe i : FE} {p : Nat} {r : RV} {v : Value} {o : L × Hp} (W : and2 (wE Ω.nms.length D.sc oe) (wE Ω.nms.length D.sc i) = true) (e : bSub cx (ev cx fl oe) (ev cx fl i) r fl hp = some o) (h : HereS Ω Rm D fl hp ρ s) (S : Since Ω D ρ₀ s₀ ρ s) (R : RVR Ω ρ s₀ s r v) {Q : Unit -> Shared -> Prop} (hQ : zj8 Ω Rm D ρ₀ s₀ o Q) :
 WP Ω D (assign (.Subscript (tE (nmOf Ω) oe) (tE (nmOf Ω) i) (pos p)) D.env v) Q s := by
 obtain ⟨y, qy, e⟩ := bd_t e
 obtain ⟨q, q1, e⟩ := bd_t e
 obtain ⟨n, qn, e⟩ := bd_t e
 obtain ⟨j, q2, e⟩ := bd_t e
 obtain ⟨k, qk, e⟩ := bd_t e
 have base : EV Ω D oe (fun ov s1 => EV Ω D i (fun iv s2 => WP Ω D (setItem ov iv v) Q s2) s1) s :=
  zh1 (both C oe).1 (both C i).1 W h.h q1 q2 fun ρ2 s2 va vb h2 G2 R1 R2 => set_ok C e (h.of G2 h2) (S.go G2) (rvRef qn R1) (rvV qk R2) (G2.vr (rvV qy R)) hQ
 show wpAny _ _ (do
  let ov ← holding [v] (eval (tE (nmOf Ω) oe) D.env)
  let iv ← holding [v, ov] (eval (tE (nmOf Ω) i) D.env)
  standAt (pos p)
  holding [v, ov, iv] (setItem ov iv v)
  release (match tE (nmOf Ω) i with | .Slice _ _ none _ => [iv, v, ov] | _ => [v, ov, iv]) []) _ _ _
 exact wpAny_bind (wpAny_holding (wpAny_mono base (fun ov s1 h1 => wpAny_bind (wpAny_holding (wpAny_mono h1 (fun iv s2 hh => wpAny_bind (wpAny_standAt (wpAny_bind (wpAny_holding (wpAny_mono hh (fun _ _ x => wpAny_release x) fun _ _ x => x))))) fun _ _ x => x))) fun _ _ x => x))
theorem zj7 (C : CT Ω cx Rm) {t : Tg} {r : RV} {v : Value} {o : L × Hp} (W : wT Ω.nms.length D.sc t = true) (e : zc1 cx t r fl hp = some o) (h : HereS Ω Rm D fl hp ρ s) (S : Since Ω D ρ₀ s₀ ρ s) (R : RVR Ω ρ s₀ s r v) {Q : Unit -> Shared -> Prop} (hQ : zj8 Ω Rm D ρ₀ s₀ o Q) : WP Ω D (assign (tT (nmOf Ω) t) D.env v) Q s := by
 cases t with
 | name x p => exact zpv C W e h S R hQ
 | tup xs ps p => exact ztp C (zab W).1 e h S R hQ
 | att o x p => exact ztr C W e h S R hQ
 | sub o i p => exact ztq C W e h S R hQ
 | all o q p => exact ff W
end
end
section

noncomputable def FlR (Ω : Bx) (ρ : Rho) (s₀ s : Shared) (o : Fl) (f : Flow) : Prop := match o with
 | .next => f = .next
 | .brk => f = .brk
 | .cont => f = .cont
 | .ret r => ∃ v, f = .ret v /\ RVR Ω ρ s₀ s r v
noncomputable abbrev zmg (Ω : Bx) (Rm : Around -> Prop) (D : Dx) (ρ₀ : Rho) (s₀ : Shared) (o : Fl × L × Hp) (Q : Flow -> Shared -> Prop) : Prop :=
 ∀ ρ' s' f, HereS Ω Rm D o.2.1 o.2.2 ρ' s' -> Go D.fa ρ₀ s₀ ρ' s' -> FlR Ω ρ' s₀ s' o.1 f -> Q f s'
noncomputable def XOk (Ω : Bx) (cx : Cx) (Rm : Around -> Prop) (st : FS) : Prop :=
 ∀ {D : Dx} {fl : L} {hp : Hp} {o : Fl × L × Hp} {ρ : Rho} {s : Shared} {Q : Flow -> Shared -> Prop}, wS Ω.nms.length D.sc st = true -> HereS Ω Rm D fl hp ρ s -> ex cx st fl hp = some o -> zmg Ω Rm D ρ s o Q -> WP Ω D (exec (tS (nmOf Ω) st) D.env) Q s
noncomputable def XsOk (Ω : Bx) (cx : Cx) (Rm : Around -> Prop) (b : List FS) : Prop :=
 ∀ {D : Dx} {fl : L} {hp : Hp} {o : Fl × L × Hp} {ρ : Rho} {s : Shared} {Q : Flow -> Shared -> Prop}, wSs Ω.nms.length D.sc b = true -> HereS Ω Rm D fl hp ρ s -> exs cx b fl hp = some o -> zmg Ω Rm D ρ s o Q -> WP Ω D (execs (tSs (nmOf Ω) b) D.env) Q s

section
variable {Ω : Bx} {cx : Cx} {Rm : Around -> Prop} {D : Dx} {fl fl' : L} {hp hp' : Hp} {ρ ρ₀ ρ' : Rho} {s s₀ s' : Shared} {env : Env}

theorem flLt {s₁ : Shared} {o : Fl} {f : Flow} (l : Lt s₀ s₁) (r : FlR Ω ρ s₁ s o f) : FlR Ω ρ s₀ s o f := by
 cases o with
 | ret v => exact r.elim fun u h => ⟨u, h.1, zh5 l h.2⟩
 | _ => exact r
theorem zmj {st : FS} {b : List FS} (Is : XOk Ω cx Rm st) (Ib : XsOk Ω cx Rm b) : XsOk Ω cx Rm (st :: b) := fun W h e hQ => by
 obtain ⟨⟨fo, w⟩, q, e⟩ := bd_t e
 refine wpAny_execs_cons (Is (zab W).1 h q fun ρ1 s1 f h1 G1 r => ?_)
 cases fo with
 | next => cases (show f = .next from r); exact Ib (zab W).2 h1 e fun ρ2 s2 f2 h2 G2 r2 => hQ ρ2 s2 f2 h2 (G1.transS G2) (flLt (goLt G1) r2)
 | brk => cases (show f = .brk from r); cases prf e; exact hQ ρ1 s1 .brk h1 G1 rfl
 | cont => cases (show f = .cont from r); cases prf e; exact hQ ρ1 s1 .cont h1 G1 rfl
 | ret v => cases prf e; obtain ⟨u, q, r⟩ := r; cases q; exact hQ ρ1 s1 (.ret u) h1 G1 ⟨u, rfl, r⟩
theorem zt3 : XsOk Ω cx Rm [] := fun W h e hQ => by cases prf e; exact wpAny_execs_nil (hQ _ _ _ h (Go.refl _ _ _) rfl)

theorem zqp (line : Nat) {e : FE} {t : Tg} (h : (zk6 e && isNm t) = false) : swapsWithSole [tT (nmOf Ω) t] (tE (nmOf Ω) e) line env = pure false := by
 cases e with
 | comp _ _ _ _ _ _ _ _ => cases t with
  | name x p => exact ff h.symm
  | _ => rfl
 | _ => rfl
theorem no_one {ts : List Tg} {e : FE} (z : a1 ts = none) (line : Nat) : swapsWithSole (tTs (nmOf Ω) ts) (tE (nmOf Ω) e) line env = pure false /\ swappedStores (tTs (nmOf Ω) ts) (tE (nmOf Ω) e) env = pure none := by
 cases ts with
 | nil => exact ⟨rfl, rfl⟩
 | cons a r => cases r with
  | nil => exact nn z.symm
  | cons b r => exact ⟨rfl, by cases a <;> rfl⟩
theorem zll (line : Nat) {e it : FE} {ts tps : List Nat} {tp : Nat} {ifs : List FE} {sc' : List (Nat × Nat)} {pc x px : Nat} : ∃ b, swapsWithSole [tT (nmOf Ω) (.name x px)] (tE (nmOf Ω) (.comp e ts tps tp it ifs sc' pc)) line env = pure b := ⟨_, rfl⟩
theorem swNone (e : FE) {t : Tg} (h : tgTup t = false) : swappedStores [tT (nmOf Ω) t] (tE (nmOf Ω) e) env = pure none := by
 cases t with
 | tup xs ps q => exact ff h.symm
 | _ => rfl
theorem ztg (t : Tg) : (assignEach [tT (nmOf Ω) t] env).map (·.2) = [assign (tT (nmOf Ω) t) env] := by cases t <;> rfl
theorem zme {ts : List Tg} : (assignEach (tTs (nmOf Ω) ts) env).map (·.2) = ts.map fun t => assign (tT (nmOf Ω) t) env := by
 induction ts with
 | nil => rfl
 | cons t r ih => exact (by cases t <;> rfl : _ = assign (tT (nmOf Ω) t) env :: (assignEach (tTs (nmOf Ω) r) env).map (·.2)).trans (congrArg _ ih)
theorem zra (C : CT Ω cx Rm) {sc : List (Nat × Nat)} {e : FE} (W : wE Ω.nms.length sc e = true) (hs : zrb e = true) : constantsAlone 8 (tE (nmOf Ω) e) = false := by
 have nm : ∀ {x : Nat}, x < Ω.nms.length -> (nmOf Ω x == ("__debug__" : Str)) = false := fun h => (C.dbg _ h).1
 cases e with
 | var x q => exact nm (zfl (zab W).1)
 | glo x q => exact nm (zfl (zab W).1)
 | bin o a b q => cases a with
  | var x q2 => exact (congrArg (· && constantsAlone 7 (tE (nmOf Ω) b)) (nm (zfl (zab (zab W).1).1) : constantsAlone 7 (tE (nmOf Ω) (.var x q2)) = false)).trans (Bool.false_and _)
  | _ => exact ff hs
 | none _ => exact ff hs
 | tru _ => exact ff hs
 | fls _ => exact ff hs
 | int _ _ => exact ff hs
 | str _ _ _ => exact ff hs
 | dbg _ => exact ff hs
 | neg _ _ _ => exact ff hs
 | not _ _ => exact ff hs
 | and _ _ => exact ff hs
 | or _ _ => exact ff hs
 | tup _ _ => exact ff hs
 | sub _ _ _ => exact ff hs
 | fmt _ _ _ => exact ff hs
 | jst _ _ => exact ff hs
 | sli _ _ _ _ _ _ => exact Bool.and_false _
 | _ => rfl
theorem HereS.look (h : HereS Ω Rm D fl hp ρ s) (k : zez fl' fl) : HereS Ω Rm D fl' hp ρ s := ⟨⟨h.h.K, h.h.A, h.h.H, fr_look h.h.F k⟩, h.C⟩
theorem zv2 {h : Heap} {xs : List V} : ∀ {us : List Value}, VRs ρ h xs us -> VRs ρ h xs.reverse us.reverse := by
 induction xs with
 | nil => exact fun {us} R => vrs_n (P := fun us => VRs ρ h [] us.reverse) R rfl
 | cons x r ih =>
  exact fun {us} R => vrs_e (P := fun us => VRs ρ h (x :: r).reverse us.reverse) R fun u t g1 g2 => by
   rw [List.reverse_cons, List.reverse_cons]
   exact (ih g2).append (VRs.cons g1 VRs.nil)
noncomputable abbrev zmh (Ω : Bx) (Rm : Around -> Prop) (D : Dx) (ρ₀ : Rho) (s₀ : Shared) (o : L × Hp) (Q : Flow -> Shared -> Prop) : Prop := zj8 Ω Rm D ρ₀ s₀ o fun _ => Q .next
theorem back_ok (C : CT Ω cx Rm) {xs : List Nat} {r : RV} {v : Value} {o : L × Hp} (W : allB (stOk Ω.nms.length D.sc) xs = true) (W' : zdq xs = true) (e : bTpl xs r fl hp = some o) (h : HereS Ω Rm D fl hp ρ s) (S : Since Ω D ρ₀ s₀ ρ s) (R : RVR Ω ρ s₀ s r v) {Q : Flow -> Shared -> Prop} (hQ : zmh Ω Rm D ρ₀ s₀ o Q) {stores : List (Value -> Sem Unit)} :
 WP Ω D (assignStores D.env v (some (xs.map (nmOf Ω))) stores) Q s := by
 obtain ⟨vs, q1, e⟩ := bd_t e
 obtain ⟨fl2, q2, e⟩ := bd_t e
 obtain ⟨fl4, q5, hl⟩ := zly (zn0 W') q2
 show wpAny _ _ (do
  rule "assign.swapped-stores"
  let items ← unpackItems v (xs.map (nmOf Ω)).length none
  assignInOrder ((xs.map (nmOf Ω)).reverse.map fun n => bindName D.env n) items.reverse
  pure .next) Q _ s
 refine wpAny_bind (wpAny_rule ?_)
 rw [List.length_map, ← zed q2]
 refine wpAny_bind (ze6 (C.rm D.A h.h.A).1 h.h.H q1 R fun us h' k hv => wpAny_bind ?_)
 have G1 := Go.keeps [] ρ s (t := s.toks) k
 rw [← List.map_reverse]
 exact zfh (I := fun fl s' => HereS Ω Rm D fl hp ρ s' /\ Go D.fa ρ { s with heap := h' } ρ s') (stepS C) zm0 (fun x hx => ziw W x (List.mem_reverse.mp hx)) q5 ⟨h.go G1 (h.h.H.heap (t := s.toks) k), Go.refl _ _ _⟩ (zv2 (G1.vrs hv)) fun s2 h2 =>
  wpAny_pure (hQ ρ s2 (prf e ▸ h2.1.look hl) ((S.go G1).G.transS h2.2))
theorem zh2 (C : CT Ω cx Rm) {t : Tg} {e : FE} {r : RV} {v : Value} {o : L × Hp} (w1 : wE Ω.nms.length D.sc e = true) (w2 : and2 (wT Ω.nms.length D.sc t) (swOk t e) = true) (q2 : zc1 cx t r fl hp = some o) (h : HereS Ω Rm D fl hp ρ s) (S : Since Ω D ρ₀ s₀ ρ s) (R : RVR Ω ρ s₀ s r v) {Q : Flow -> Shared -> Prop} (hQ : zmh Ω Rm D ρ₀ s₀ o Q) :
 WP Ω D (do assignStores D.env v (← swappedStores [tT (nmOf Ω) t] (tE (nmOf Ω) e) D.env) ((assignEach [tT (nmOf Ω) t] D.env).map (·.2))) Q s := by
 have usual : swappedStores [tT (nmOf Ω) t] (tE (nmOf Ω) e) D.env = pure none -> WP Ω D (do assignStores D.env v (← swappedStores [tT (nmOf Ω) t] (tE (nmOf Ω) e) D.env) ((assignEach [tT (nmOf Ω) t] D.env).map (·.2))) Q s := by
  intro hw
  rw [hw]
  refine wpAny_bind (wpAny_pure ?_)
  show wpAny _ _ (do assignAll v ((assignEach [tT (nmOf Ω) t] D.env).map (·.2)); pure .next) Q _ s
  rw [ztg]
  exact wpAny_bind (wpAny_mono (zj7 C (zab w2).1 q2 h S R hQ) (fun _ _ x => wpAny_pure x) fun _ _ x => x)
 cases t with
 | tup xs ps q =>
  rcases zlm (env := D.env) (zab w2).2 (fun es z e' hm hs => by
   obtain ⟨p, z⟩ := zt9 z
   rw [z] at w1
   exact zra C (zvz (zab w1).2 e' hm) hs) with hw | hw
  · exact usual hw
  · rw [hw]
    exact wpAny_bind (wpAny_pure (back_ok C (zab (zab w2).1).1 (zab (zab w2).1).2 q2 h S R hQ))
 | _ => exact usual (swNone e rfl)
theorem zqg {e it : FE} {ts tps : List Nat} {tp : Nat} {ifs : List FE} {sc' : List (Nat × Nat)} {p : Nat} (use : Value -> Sem Unit) : evalThenUse (tE (nmOf Ω) (.comp e ts tps tp it ifs sc' p)) env use =
 (do let _ ← comprehension (tE (nmOf Ω) (.comp e ts tps tp it ifs sc' p)) (scF (nmOf Ω) sc') env (tE (nmOf Ω) it).pos (newList []) false (eval (tE (nmOf Ω) it) env) (some use)) := rfl
noncomputable abbrev Core (Ω : Bx) (D : Dx) (e : FE) (ts tps : List Nat) (tp : Nat) (it : FE) (ifs : List FE) (sc' : List (Nat × Nat)) (pc : Nat) (ρ : Rho) (s : Shared) (vs : List V) (h2 : Hp) : Prop := ∀ {use : Option (Value -> Sem Unit)} {Q : Value -> Shared -> Prop},
 (∀ s' B, CF Ω D s B -> CEnd Ω B ρ s vs h2 s' -> compPost Ω.M D.A D.E use Q (.ref B.dd) B.cc (.ok .next) s') -> WP Ω D (comprehension (tE (nmOf Ω) (.comp e ts tps tp it ifs sc' pc)) (scF (nmOf Ω) sc') D.env (tE (nmOf Ω) it).pos (newList []) false (eval (tE (nmOf Ω) it) D.env) use) Q s
theorem zww (C : CT Ω cx Rm) {B : CB} {x px : Nat} {vs : List V} {h2 : Hp} {o : L × Hp} (w : stOk Ω.nms.length D.sc x = true) (q : zaz x (.l vs) fl h2 = some o) (h : HereS Ω Rm D fl hp ρ s) (f : CF Ω D s B) (c : CEnd Ω B ρ s vs h2 s') {Q : Flow -> Shared -> Prop} (hQ : zmh Ω Rm D ρ s o Q) :
 WP Ω D (assign (.Name (nmOf Ω x) (pos px)) D.env (.ref B.dd)) (fun _ s'' => ∃ m, s''.heap.Ns B.cc m /\ ∀ h', Heap.SameBut B.cc s''.heap h' -> Q .next { s'' with heap := h' }) s' := by
 obtain ⟨ρ1, H1, G1, R1, ⟨m, hm⟩, hc⟩ := c
 obtain ⟨y, q1, e⟩ := bd_t q
 obtain ⟨ρ2, h2', S2, R2, _, hρ⟩ := zea (h.go G1 H1) (h.since.go G1) q1 R1
 have hnf : B.cc ∉ D.fa := fun hm => h.live _ hm f.c0
 have hc2 : B.cc ∉ ρ2.flatten := by
  rcases hρ with q | ⟨xs, a, _, ha, q⟩
  · rw [q]; exact hc
  · rw [q, za8]
    exact fun z => (List.mem_append.mp z).elim hc fun z => f.cd ((List.mem_singleton.mp z).trans (Value.ref.inj ha).symm)
 refine wpAny_assign_Name (stS C w h2' R2 fun s2 h3 G3 => ?_)
 obtain ⟨m2, hm2⟩ := zfk ⟨m, hm⟩ fun o e => G3.keep _ o e hc2 hnf
 obtain ⟨o', ho, hi⟩ := zee hm2
 refine ⟨m2, hm2, fun h' hs => ?_⟩
 have ch : Ch [B.cc] [] s2 { s2 with heap := h' } := zgg (t := s2.toks) ho hi hs h3.h.H.gens
 exact hQ ρ2 _ (prf e ▸ ⟨⟨h3.h.K, h3.h.A, zil h3.h.H ch (mem1 hc2) (mem1 (h.h.H.base_none f.c0)), fr_ch h3.h.F ch (mem1 hnf)⟩, fc_ch h3.C ch (mem1 hnf)⟩) (zo4 (S2.G.transS G3) ch (mem1 f.c0) nofun)
theorem zlj (C : CT Ω cx Rm) {e it : FE} {ts tps : List Nat} {tp : Nat} {ifs : List FE} {sc' : List (Nat × Nat)} {pc x px p : Nat} {vs : List V} {h2 : Hp} {o : L × Hp} (core : Core Ω D e ts tps tp it ifs sc' pc ρ s vs h2) (w1 : wE Ω.nms.length D.sc (.comp e ts tps tp it ifs sc' pc) = true) (w : stOk Ω.nms.length D.sc x = true) (q : zaz x (.l vs) fl h2 = some o) (h : HereS Ω Rm D fl hp ρ s) {Q : Flow -> Shared -> Prop} (hQ : zmh Ω Rm D ρ s o Q) :
 WP Ω D (exec (tS (nmOf Ω) (.asg [.name x px] (.comp e ts tps tp it ifs sc' pc) p)) D.env) Q s := by
 show wpAny _ _ (exec (.Assign [tT (nmOf Ω) (.name x px)] (tE (nmOf Ω) (.comp e ts tps tp it ifs sc' pc)) (pos p)) D.env) _ _ _
 rw [exec_Assign_arm]
 refine wpAny_bind (wpAny_standAt ?_)
 obtain ⟨b, hsw⟩ := zll (Ω := Ω) (env := D.env) (pos p).line (e := e) (it := it) (ts := ts) (tps := tps) (tp := tp) (ifs := ifs) (sc' := sc') (pc := pc) (x := x) (px := px)
 rw [hsw]
 refine wpAny_bind (wpAny_pure ?_)
 cases b with
 | false =>
  rw [if_neg Bool.false_ne_true]
  refine wpAny_bind (core (use := none) fun s' B f c => ?_)
  obtain ⟨m, hm, k⟩ := zpt f h.h c
  exact ⟨m, hm, fun h' hs => (k h' hs).elim fun ρ' k => zh2 C (t := .name x px) w1 (show and2 (stOk Ω.nms.length D.sc x) true = true by rw [w]; rfl) q (h.of k.2.1 k.1) (h.since.go k.2.1) k.2.2 hQ⟩
 | true =>
  rw [if_pos rfl]
  refine wpAny_bind ?_
  rw [zqg]
  refine wpAny_bind (wpAny_mono (Q := fun _ s' => Q .next s') (E := D.E) ?_ (fun _ s' hq => wpAny_pure (wpAny_pure hq)) fun _ _ e => e)
  refine core fun s' B f c => ?_
  show wpAny _ D.A (assign (.Name (nmOf Ω x) (pos px)) D.env (.ref B.dd)) _ _ _
  exact zww C w q h f c hQ
theorem zsx {e : FE} (h : zk6 e = true) : ∃ a b c d f g h i, e = .comp a b c d f g h i := by
 cases e with
 | comp _ _ _ _ _ _ _ _ => exact ⟨_, _, _, _, _, _, _, _, rfl⟩
 | _ => exact ff h
theorem isNm_t {t : Tg} (h : isNm t = true) : ∃ x p, t = .name x p := by
 cases t with
 | name x p => exact ⟨x, p, rfl⟩
 | _ => exact ff h
theorem asg1_ok (C : CT Ω cx Rm) {t : Tg} {e : FE} {p : Nat} : XOk Ω cx Rm (.asg [t] e p) := fun {D fl hp o ρ s Q} W h he hQ => by
 obtain ⟨r, q1, he⟩ := bd_t he
 obtain ⟨x, q2, he⟩ := bd_t he
 cases prf he
 have fin : zmh Ω Rm D ρ s x Q := fun ρ' s' h' G' => hQ ρ' s' .next h' G' rfl
 cases z : (zk6 e && isNm t) with
 | false =>
  show wpAny _ _ (exec (.Assign [tT (nmOf Ω) t] (tE (nmOf Ω) e) (pos p)) D.env) _ _ _
  rw [exec_Assign_arm]
  refine wpAny_bind (wpAny_standAt ?_)
  rw [zqp _ z]
  refine wpAny_bind (wpAny_pure ?_)
  rw [if_neg Bool.false_ne_true]
  exact wpAny_bind ((both C e).1 (zab W).1 h.h q1 fun ρ1 s1 v h1 G1 R1 => zh2 C (zab W).1 (zab W).2 q2 (h.of G1 h1) (h.since.go G1) R1 fin)
 | true =>
  obtain ⟨a, b, c, d, it, ifs, sc', pc, e1⟩ := zsx ((Bool.and_eq_true _ _).mp z).1
  obtain ⟨y, py, e2⟩ := isNm_t ((Bool.and_eq_true _ _).mp z).2
  rw [e1, e2] at W
  rw [e1] at q1
  rw [e2] at q2
  rw [e1, e2]
  refine zvf q1 fun r1 src y' g1 g2 g3 g4 g5 => ?_
  rw [← g5] at q2
  exact zlj C (fun k => zf0 C (both C a).1 (fun c hc => (both C c).2) (zab W).1 (zpq (C.rm _ h.h.A).1 _) (zue C (both C it).1 (zab (zab W).1).1 h.h g1 g2) g3 g4 h.h k) (zab W).1 (zab (zab W).2).1 q2 h fin
theorem nmOk_t {n : Nat} {sc : List (Nat × Nat)} {t : Tg} (h : nmOk n sc t = true) : ∃ x p, t = .name x p /\ stOk n sc x = true := by
 cases t with
 | name x p => exact ⟨x, p, rfl, h⟩
 | _ => exact ff h
theorem asgs_ok (C : CT Ω cx Rm) {ts : List Tg} : ∀ {v : V} {u : Value} {fl : L} {o : L × Hp} {s : Shared} {Q : Unit -> Shared -> Prop}, allB (nmOk Ω.nms.length D.sc) ts = true -> zf5 cx ts v fl hp = some o -> HereS Ω Rm D fl hp ρ s -> VR ρ s.heap v u ->
 (∀ s', HereS Ω Rm D o.1 o.2 ρ s' -> Go D.fa ρ s ρ s' -> Q () s') -> WP Ω D (assignAll u (ts.map fun t => assign (tT (nmOf Ω) t) D.env)) Q s := by
 induction ts with
 | nil => exact fun W e h R hQ => wpAny_pure (hQ _ (prf e ▸ h) (Go.refl _ _ _))
 | cons t r ih =>
  intro v u fl o s Q W e h R hQ
  obtain ⟨x, p, q, w⟩ := nmOk_t (zab W).1
  subst q
  obtain ⟨y, e1, e⟩ := bd_t e
  cases prf e1
  cases r with
  | nil => exact wpAny_assign_Name (stS C w h R fun s1 h1 G1 => hQ s1 (prf e ▸ h1) G1)
  | cons t2 r => exact wpAny_bind (wpAny_holding (wpAny_assign_Name (stS C w h R fun s1 h1 G1 => ih (zab W).2 e h1 (G1.vr R) fun s2 h2 G2 => hQ s2 h2 (G1.transS G2))))
theorem asg_ok (C : CT Ω cx Rm) {ts : List Tg} {e : FE} {p : Nat} : XOk Ω cx Rm (.asg ts e p) := by
 cases z : a1 ts with
 | some t => rw [a1_t z]; exact asg1_ok C
 | none =>
  intro D fl hp o ρ s Q W h he hQ
  have W : and2 (wE Ω.nms.length D.sc e) (byO (a1 ts) (fun t => and2 (wT Ω.nms.length D.sc t) (swOk t e)) (allB (nmOk Ω.nms.length D.sc) ts)) = true := W
  rw [z] at W
  have he : (bd (ev cx fl e hp) fun r => goN (byO (a1 ts) (fun t => zc1 cx t r.1 fl r.2) (bd (zem r.1 r.2) fun v => zf5 cx ts v.1 fl v.2))) = some o := he
  rw [z] at he
  obtain ⟨r, q1, he⟩ := bd_t he
  obtain ⟨x, he, q⟩ := bd_t he
  obtain ⟨y, q2, q3⟩ := bd_t he
  cases prf q
  have hsw := no_one (Ω := Ω) (env := D.env) (e := e) z (pos p).line
  refine wpAny_Assign_stores ((both C e).1 (zab W).1 h.h q1 fun ρ1 s1 u h1 G1 R1 => ?_) hsw.1 hsw.2
  obtain ⟨ρ2, h2, S2, R2, _⟩ := zea (h.of G1 h1) (h.since.go G1) q2 R1
  rw [zme]
  exact asgs_ok C (zab W).2 q3 h2 R2 fun s3 h3 G3 => hQ ρ2 s3 .next h3 (S2.G.transS G3) rfl
end
end
section

section
variable {Ω : Bx} {cx : Cx} {Rm : Around -> Prop} {D : Dx} {fl : L} {hp hp5 : Hp} {ρ ρ₀ ρ' ρ5 : Rho} {s s₀ s' s5 : Shared}

theorem HereS.E {E' : Value -> Shared -> Prop} (h : HereS Ω Rm D fl hp ρ s) : HereS Ω Rm ⟨D.env, D.sc, D.fa, D.A, E'⟩ fl hp ρ s := ⟨⟨h.h.K, h.h.A, h.h.H, h.h.F⟩, h.C⟩
theorem HereS.E' {E' : Value -> Shared -> Prop} (h : HereS Ω Rm ⟨D.env, D.sc, D.fa, D.A, E'⟩ fl hp ρ s) : HereS Ω Rm D fl hp ρ s := ⟨⟨h.h.K, h.h.A, h.h.H, h.h.F⟩, h.C⟩
theorem aft_brk {oe : ExT} {w : LE × L × Hp} {o : Fl × L × Hp} (e : aftL oe w = some o) {x : L × Hp} (h : w = (.brk, x)) : o = (.next, x) := by cases h; exact (prf e).symm
theorem aft_ret {oe : ExT} {w : LE × L × Hp} {o : Fl × L × Hp} (e : aftL oe w = some o) {r : RV} {x : L × Hp} (h : w = (.ret r, x)) : o = (.ret r, x) := by cases h; exact (prf e).symm
theorem zp5 {oe : ExT} {w : LE × L × Hp} {o : Fl × L × Hp} (e : aftL oe w = some o) {x : L × Hp} (h : w = (.dry, x)) : oe x.1 x.2 = some o := by cases h; exact e
theorem zul {z : Fl × L × Hp} {more : Option (LE × L × Hp)} {w : LE × L × Hp} {oe : ExT} {o : Fl × L × Hp} (e : nxt z more = some w) (ea : aftL oe w = some o) {f : Flow} {ρ7 : Rho} {s7 : Shared} (r : FlR Ω ρ7 s s7 z.1 f) (h : HereS Ω Rm D z.2.1 z.2.2 ρ7 s7) (G : Go D.fa ρ s ρ7 s7) {Q : Flow -> Shared -> Prop} (hQ : zmg Ω Rm D ρ s o Q) {N : Prop} (h1 : more = some w -> N) :
 Flow.casesOn (motive := fun _ => Prop) f N (Q .next s7) N (fun v => Q (.ret v) s7) := by
 obtain ⟨z, y⟩ := z
 cases z with
 | next => cases (show f = .next from r); exact h1 e
 | cont => cases (show f = .cont from r); exact h1 e
 | brk => cases (show f = .brk from r); cases aft_brk ea (prf e).symm; exact hQ ρ7 s7 .next h G rfl
 | ret x => obtain ⟨v, q, r⟩ := r; cases q; cases aft_ret ea (prf e).symm; exact hQ ρ7 s7 (.ret v) h G ⟨v, rfl, r⟩
noncomputable def WInv (Ω : Bx) (Rm : Around -> Prop) (D : Dx) (ρ : Rho) (s : Shared) (T : L -> TrT) (B : ExT) (w : LE × L × Hp) (n : Nat) (s5 : Shared) : Prop :=
 ∃ ρ5 hp5 fl5, zvy T B n fl5 hp5 = some w /\ HereS Ω Rm D fl5 hp5 ρ5 s5 /\ Go D.fa ρ s ρ5 s5
theorem zqd (C : CT Ω cx Rm) {t : FE} {b : List FS} (Ib : XsOk Ω cx Rm b) (w1 : wE Ω.nms.length D.sc t = true) (w2 : wSs Ω.nms.length D.sc b = true) {w : LE × L × Hp} {o : Fl × L × Hp} (ea : aftL (fun fl hp => some (.next, fl, hp)) w = some o) {n : Nat} {E' : Value -> Shared -> Prop} {Q : Flow -> Shared -> Prop} (hQ : zmg Ω Rm D ρ s o Q)
 (i : WInv Ω Rm D ρ s (fun fl h => tr cx fl t h) (fun fl h => exs cx b fl h) w n s5) : wpAny Ω.M D.A (isTrue (tE (nmOf Ω) t) D.env (eval (tE (nmOf Ω) t) D.env)) (fun c s₂ =>
  if c then wpAny Ω.M D.A (execs (tSs (nmOf Ω) b) D.env) (fun f s₃ => Flow.casesOn (motive := fun _ => Prop) f (∃ m, m < n /\ WInv Ω Rm D ρ s (fun fl h => tr cx fl t h) (fun fl h => exs cx b fl h) w m s₃) (Q .next s₃) (∃ m, m < n /\ WInv Ω Rm D ρ s (fun fl h => tr cx fl t h) (fun fl h => exs cx b fl h) w m s₃) (fun v => Q (.ret v) s₃)) E' s₂
  else wpAny Ω.M D.A (execs [] D.env) (fun f s₃ => Q f s₃) E' s₂) E' s5 := by
 obtain ⟨ρ5, hp5, fl5, q0, h5, G5⟩ := i
 cases n with
 | zero => exact nn q0
 | succ n =>
  obtain ⟨c, q1, q0⟩ := bd_t q0
  refine (both C t).2 (D := ⟨D.env, D.sc, D.fa, D.A, E'⟩) w1 h5.E.h q1 fun ρ6 s6 h6 G6 => ?_
  have h6' := h5.E.of G6 h6
  have G56 := G5.trans0 G6
  cases z : c.1 with
  | true =>
   rw [z] at q0
   obtain ⟨y, q2, q0⟩ := bd_t q0
   exact (if_pos rfl).symm ▸ Ib (D := ⟨D.env, D.sc, D.fa, D.A, E'⟩) w2 h6' q2 fun ρ7 s7 f h7 G7 r => zul q0 ea (flLt (goLt G56) r) h7.E' (G56.transS G7) hQ fun q => ⟨n, Nat.lt_succ_self n, ρ7, y.2.2, y.2.1, q, h7.E', G56.transS G7⟩
  | false =>
   rw [z] at q0
   exact (if_neg Bool.false_ne_true).symm ▸ wpAny_execs_nil (by cases prf (zp5 ea (prf q0).symm); exact hQ ρ6 s6 .next h6'.E' G56 rfl)
theorem whl_ok (C : CT Ω cx Rm) {t : FE} {b : List FS} {p : Nat} (Ib : XsOk Ω cx Rm b) : XOk Ω cx Rm (.whl t b p) := fun {D fl hp o ρ s Q} W h he hQ => by
 obtain ⟨w, q, ea⟩ := bd_t he
 exact wpAny_While (codeAny_whileLoop (WInv Ω Rm D ρ s (fun fl h => tr cx fl t h) (fun fl h => exs cx b fl h) w) (fun n s5 i => wpAny_mono (zqd C Ib (zab W).1 (zab W).2 ea hQ i) (fun c s x => by
  cases c with
  | false => exact x
  | true => exact wpAny_mono x (fun f s x => by cases f <;> exact x) fun _ _ x => x) fun _ _ x => x) FUEL ⟨ρ, hp, fl, q, h, Go.refl _ _ _⟩)
structure ForI (Ω : Bx) (Rm : Around -> Prop) (D : Dx) (ρ : Rho) (s : Shared) (ia : Addr) (ads : List Addr) (gi : List Nat) (src : Src) (ρ5 : Rho) (hp5 : Hp) (fl5 : L) (s5 : Shared) : Prop where
 h : HereS Ω Rm D fl5 hp5 ρ5 s5
 G : Go D.fa ρ s ρ5 s5
 S : zey Ω D.A ia ads gi src ρ5 s5
 al : Al ia ads s5
 out : ∀ a ∈ ads, a ∉ ρ5.flatten
 fr : ∀ a ∈ ads, s.heap.get? a = none
section
variable {ia : Addr} {ads ads6 : List Addr} {gi : List Nat} {src src' : Src} {fl5 fl8 : L} {hp8 : Hp} {ρ8 : Rho} {s6 s8 : Shared}
theorem ForI.ch (i : ForI Ω Rm D ρ s ia ads gi src ρ5 hp5 fl5 s5) (h : HereS Ω Rm D fl hp ρ s) (hg : ∀ g ∈ gi, s.gens.size ≤ g) (c : Ch ads gi s5 s6) : HereS Ω Rm D fl5 hp5 ρ5 s6 /\ Go D.fa ρ s ρ5 s6 :=
 have nfa : ∀ a ∈ ads, a ∉ D.fa := fun a ha hm => h.live a hm (i.fr a ha)
 ⟨⟨⟨i.h.h.K, i.h.h.A, zil i.h.h.H c i.out fun a ha => h.h.H.base_none (i.fr a ha), fr_ch i.h.h.F c nfa⟩, fc_ch i.h.C c nfa⟩, zo4 i.G c i.fr hg⟩
theorem ForI.on (h : HereS Ω Rm D fl hp ρ s) (h6 : HereS Ω Rm D fl5 hp5 ρ5 s6) (G6 : Go D.fa ρ s ρ5 s6) (S6 : zey Ω D.A ia ads gi src ρ5 s6) (al6 : Al ia ads s6) (o6 : ∀ a ∈ ads, a ∉ ρ5.flatten) (f6 : ∀ a ∈ ads, s.heap.get? a = none) (h8 : HereS Ω Rm D fl8 hp8 ρ8 s8) (G : Go D.fa ρ5 s6 ρ8 s8) : ForI Ω Rm D ρ s ia ads gi src ρ8 hp8 fl8 s8 := by
 have ka : ∀ a ∈ ads, ∀ o, s6.heap.get? a = some o -> s8.heap.get? a = some o := fun a ha o e => G.keep a o e (o6 a ha) fun hm => h.live a hm (f6 a ha)
 obtain ⟨io, ic, ho, hc⟩ := al6.own
 exact ⟨h8, G6.transS G, srcKp S6 ⟨G.Ext, G.imm, ka, fun g _ st e => G.gens g st e, h8.h.H.gens, h8.h.H.base⟩, ⟨fun a ha => (al6.al a ha).elim fun o h => ⟨o, ka a ha o h.1, h.2⟩, ⟨io, ic, ka ia al6.mem io ho, hc⟩, al6.mem⟩,
  fun a ha => (al6.al a ha).elim fun _ h => G.notIn h.1 (o6 a ha), f6⟩
end
noncomputable def FInv (Ω : Bx) (Rm : Around -> Prop) (D : Dx) (ρ : Rho) (s : Shared) (ia : Addr) (gi : List Nat) (f : V -> L -> Hp -> Option (Fl × L × Hp)) (w : LE × L × Hp) (n : Nat) (s5 : Shared) : Prop :=
 ∃ ρ5 hp5 src5 fl5 ads, forS f n src5 fl5 hp5 = some w /\ ForI Ω Rm D ρ s ia ads gi src5 ρ5 hp5 fl5 s5
noncomputable def FTurn (Ω : Bx) (D : Dx) (T : Expr) (b oe : List Stmt) (it : Value) (N : Shared -> Prop) (Q : Flow -> Shared -> Prop) (E' : Value -> Shared -> Prop) (s : Shared) : Prop :=
 wpAny Ω.M D.A (pyNext it) (fun r s₁ => byO r (fun v => wpAny Ω.M D.A (letOwnedTupleGo T it v) (fun _ s₁' => wpAny Ω.M D.A (assign T D.env v) (fun _ s₂ => wpAny Ω.M D.A (execs b D.env) (fun f s₃ => Flow.casesOn (motive := fun _ => Prop) f (N s₃) (Q .next s₃) (N s₃) (fun v => Q (.ret v) s₃)) E' s₂) E' s₁') E' s₁)
  (wpAny Ω.M D.A (execs oe D.env) (fun f s₃ => Q f s₃) E' s₁)) E' s
theorem zs9 (C : CT Ω cx Rm) {t : Tg} {b oe : List FS} (Ib : XsOk Ω cx Rm b) (Io : XsOk Ω cx Rm oe) (w1 : wT Ω.nms.length D.sc t = true) (w3 : wSs Ω.nms.length D.sc b = true) (w4 : wSs Ω.nms.length D.sc oe = true) {w : LE × L × Hp} {o : Fl × L × Hp} (ea : aftL (exs cx oe) w = some o) (h : HereS Ω Rm D fl hp ρ s) {gi : List Nat} (hg : ∀ g ∈ gi, s.gens.size ≤ g) {ia : Addr} {n : Nat} {E' : Value -> Shared -> Prop} {Q : Flow -> Shared -> Prop} (hQ : zmg Ω Rm D ρ s o Q)
 (i : FInv Ω Rm D ρ s ia gi (zca cx t (exs cx b)) w n s5) : FTurn Ω D (tT (nmOf Ω) t) (tSs (nmOf Ω) b) (tSs (nmOf Ω) oe) (.ref ia) (fun s₃ => ∃ m, m < n /\ FInv Ω Rm D ρ s ia gi (zca cx t (exs cx b)) w m s₃) Q E' s5 := by
 obtain ⟨ρ5, hp5, src5, fl5, ads, q0, i⟩ := i
 cases n with
 | zero => exact nn q0
 | succ n =>
  obtain ⟨z, qn, q0⟩ := bd_t q0
  cases z with
  | none =>
   refine zn1 (C.rm _ h.h.A).1 i.h.h.H qn i.S (fun _ s6 c6 => ?_) fun x src' z => nn z
   obtain ⟨h6, G6⟩ := i.ch h hg c6
   exact Io (D := ⟨D.env, D.sc, D.fa, D.A, E'⟩) w4 h6.E (zp5 ea (prf q0).symm) fun ρ7 s7 f h7 G7 r => hQ ρ7 s7 f h7.E' (G6.transS G7) (flLt (goLt G6) r)
  | some y =>
   obtain ⟨u, q2, q0⟩ := bd_t q0
   obtain ⟨x, qb, q2⟩ := bd_t q2
   refine zn1 (C.rm _ h.h.A).1 i.h.h.H qn i.S (fun z => nn z.symm) fun x' src'' z v s6 ads6 g6 c6 al6 R6 S6 => ?_
   have zz := Prod.mk.inj (prf z)
   obtain ⟨h6, G6⟩ := i.ch h hg c6
   obtain ⟨io, ic, ho, hc, hw⟩ := al6.own
   refine zfp ho hc hw ?_
   refine zj7 (D := ⟨D.env, D.sc, D.fa, D.A, E'⟩) C w1 qb h6.E h6.E.since (r := .v y.1) (zz.1 ▸ R6) fun ρ7 s7 h7 G7 => ?_
   exact Ib (D := ⟨D.env, D.sc, D.fa, D.A, E'⟩) w3 h7 q2 fun ρ8 s8 f h8 G8 r => zul q0 ea (flLt (goLt (G6.transS G7)) r) h8.E' (G6.transS (G7.transS G8)) hQ fun q => ⟨n, Nat.lt_succ_self n, ρ8, u.2.2, src'', u.2.1, ads6, zz.2 ▸ q,
    ForI.on h h6 G6 S6 al6 (fun a ha => (g6 a ha).elim (i.out a) fun z => i.h.h.H.notIn z) (fun a ha => (g6 a ha).elim (i.fr a) fun z => i.G.none z) h8.E' (G7.transS G8)⟩
theorem zld {T : Expr} {b oe : List Stmt} {it : Value} {R : Result -> Shared -> Prop} (I : Nat -> Shared -> Prop) (turn : ∀ n s, I n s -> FTurn Ω D T b oe it (fun s => ∃ m, m < n /\ I m s) (fun f => R (.ok f)) (notedBy Ω.M D.A D.env fun e s' => R (.error e) s') s) (n : Nat) (h : I n s) : codeAny Ω.M D.A (.forLoop T it b oe D.env) R s :=
 codeAny_forLoop_any I (fun n s i => wpAny_mono (turn n s i) (fun r s x => by
  cases r with
  | none => exact x
  | some v => exact wpAny_mono x (fun _ s x => wpAny_mono x (fun _ s x => wpAny_mono x (fun f s x => by cases f <;> exact x) fun _ _ x => x) fun _ _ x => x) fun _ _ x => x) fun _ _ x => x) n h
theorem for_ok (C : CT Ω cx Rm) {t : Tg} {it : FE} {b oe : List FS} {p : Nat} (Ib : XsOk Ω cx Rm b) (Io : XsOk Ω cx Rm oe) : XOk Ω cx Rm (.for_ t it b oe p) := fun {D fl hp o ρ s Q} W h he hQ => by
 obtain ⟨r, q1, he⟩ := bd_t he
 obtain ⟨src, q2, he⟩ := bd_t he
 obtain ⟨w, q3, ea⟩ := bd_t he
 have W2 := zab (zab W).2
 refine wpAny_For ((both C it).1 W2.1 h.h q1 fun ρ1 s1 v h1 G1 R1 => zos (fun A h => (C.rm A h).1) C.wk h1.A h1.H (goLt G1).n q2 R1 fun ia ads gi h' k M => ?_) (ziq _ it _)
 have h2 := (h.of G1 h1).go (Go.keeps [] ρ1 s1 (t := s1.toks) k) (h1.H.heap (t := s1.toks) k)
 exact zld (FInv Ω Rm D ρ s ia gi (zca cx t (exs cx b)) w) (fun n s5 i => zs9 C Ib Io (zab W).1 (zab W2.2).1 (zab W2.2).2 ea h M.ad.gen hQ i) (zhl src r.2) ⟨ρ1, r.2, src, fl, ads, q3, h2, (zfv G1 (t := s1.toks) k).any, M.at_, M.ad.al, M.ad.out, M.ad.fresh⟩
theorem ex_ok (C : CT Ω cx Rm) {e : FE} {p : Nat} : XOk Ω cx Rm (.ex e p) := fun {D fl hp o ρ s Q} W h he hQ => by
 obtain ⟨r, q, he⟩ := bd_t he
 cases prf he
 refine wpAny_Expr_any ((both C e).1 (zab W).2 h.h q fun ρ1 s1 v h1 G1 R1 => hQ ρ1 s1 .next (h.of G1 h1) G1.any rfl) ?_ ?_
 · unfold interactive
   rw [h.h.F.kind]; rfl
 · have w := (zab W).1
   clear W q
   cases e with
   | comp _ _ _ _ _ _ _ _ => exact ff w
   | _ => rfl
theorem aug_ok (C : CT Ω cx Rm) {x q : Nat} {op : Operator} {e : FE} {p : Nat} : XOk Ω cx Rm (.aug x q op e p) := fun {D fl hp o ρ s Q} W h he hQ => by
 obtain ⟨u, q1, he⟩ := bd_t he
 obtain ⟨r, q2, he⟩ := bd_t he
 obtain ⟨a, qa, he⟩ := bd_t he
 obtain ⟨b, qb, he⟩ := bd_t he
 obtain ⟨c, q3, he⟩ := bd_t he
 cases prf he
 have w := zab (zab W).2
 have hlv : lv D.sc x = true := by
  unfold lv
  rcases (zm1 (zab W).1).2 with g | g <;> rw [g] <;> rfl
 refine wpAny_AugAssign_Name (zn4 C q1 hlv h.h.K h.h.F fun u' Ru => ?_)
 rw [vI_t qa] at Ru
 obtain ⟨t, e1⟩ := Ru
 rw [e1]
 exact (both C e).1 w.2 h.h q2 fun ρ1 s1 v h1 G1 R1 => rvI_e qb R1 fun t' => augI_ok (Ω := Ω) (ρ := ρ1) (s₀ := s) w.1 q3 fun v h' t k R =>
  have g := Go.keeps [] ρ1 s1 (t := t) k
  stS C (zab W).1 ((h.of G1 h1).go g (h1.H.heap (t := t) k)) R fun s3 h3 G3 => hQ ρ1 s3 .next h3 ((G1.trans0 g).any.transS G3) rfl
theorem if_ok (C : CT Ω cx Rm) {t : FE} {a b : List FS} {p : Nat} (Ia : XsOk Ω cx Rm a) (Ib : XsOk Ω cx Rm b) : XOk Ω cx Rm (.ife t a b p) := fun {D fl hp o ρ s Q} W h he hQ => by
 obtain ⟨x, q, he⟩ := bd_t he
 have w := zab (zab W).2
 refine wpAny_If ((both C t).2 (zab W).1 h.h q fun ρ1 s1 h1 G1 => ?_)
 have k : zmg Ω Rm D ρ1 s1 o Q := fun ρ2 s2 f h2 G2 r => hQ ρ2 s2 f h2 (G1.any.transS G2) (flLt (goLt G1) r)
 cases z : x.1 with
 | true => rw [z] at he; exact (if_pos rfl).symm ▸ Ia w.1 (h.of G1 h1) he k
 | false => rw [z] at he; exact (if_neg Bool.false_ne_true).symm ▸ Ib w.2 (h.of G1 h1) he k
theorem ret_ok (C : CT Ω cx Rm) {e : FE} {p : Nat} : XOk Ω cx Rm (.ret e p) := fun {D fl hp o ρ s Q} W h he hQ => by
 obtain ⟨r, q, he⟩ := bd_t he
 cases prf he
 exact wpAny_Return_some ((both C e).1 W h.h q fun ρ1 s1 v h1 G1 R1 => hQ ρ1 s1 (.ret v) (h.of G1 h1) G1.any ⟨v, rfl, R1⟩)
theorem x_ok (C : CT Ω cx Rm) (st : FS) : XOk Ω cx Rm st :=
 FS.rec (motive_1 := fun st => XOk Ω cx Rm st) (motive_2 := fun b => XsOk Ω cx Rm b)
  (fun ts e p => asg_ok C) (fun e p => ex_ok C) (fun x q op e p => aug_ok C) (fun t a b p ia ib => if_ok C ia ib) (fun t b p ib => whl_ok C ib) (fun t it b oe p ib io => for_ok C ib io) (fun e p => ret_ok C)
  (fun p {D fl hp o ρ s Q} W h he hQ => by cases prf he; exact wpAny_Return_none (hQ _ _ (.ret .none) h (Go.refl _ _ _) ⟨.none, rfl, rfl⟩))
  (fun p {D fl hp o ρ s Q} W h he hQ => by cases prf he; exact fun _ _ _ => hQ _ _ .brk h (Go.refl _ _ _) rfl)
  (fun p {D fl hp o ρ s Q} W h he hQ => by cases prf he; exact wpAny_Pass (hQ _ _ .next h (Go.refl _ _ _) rfl))
  (fun o i q p {D fl hp o ρ s Q} W => ff W) (fun st {D fl hp o ρ s Q} W h he => nn he) zt3 (fun st b i j => zmj i j) st
theorem zvs (C : CT Ω cx Rm) (b : List FS) : XsOk Ω cx Rm b := by
 induction b with
 | nil => exact zt3
 | cons st b ih => exact zmj (x_ok C st) ih
end
end
section

structure Rm (d : Nat) (A : Around) : Prop where
 hd : A.handled = none
 dp : A.depth + d < recursionLimit
 un : A.units + 20 * d + 100 < cLine
theorem Rm.deeper {d : Nat} {A : Around} (R : Rm (d + 1) A) (env : Env) : Rm d (A.deeper env) := ⟨R.hd, by have := R.dp; show A.depth + 1 + d < _; omega, by have := R.un; show A.units + 3 + 20 * d + 100 < _; omega⟩
noncomputable def scM (nm : Nat -> Str) (sc : List (Nat × Nat)) (mr : List (Str × Const)) : Scope := { kind := .function, names := scN nm sc, isGenerator := false, isCoroutine := false, more := mr }
noncomputable def fnSc (n : Nat) : List (Nat × Nat) -> List Nat -> Bool
 | [], _ => true
 | p :: r, seen => and2 (or2 (ltB p.1 n) (Nat.beq p.2 4)) (and2 (bnot (isIn p.1 seen)) (and2 (or2 (Nat.ble p.2 1) (Nat.beq p.2 4)) (fnSc n r (p.1 :: seen))))
theorem k01 {k : Nat} (h : Nat.ble k 1 = true) : k = 0 ∨ k = 1 := match k, h with
 | 0, _ => .inl rfl
 | 1, _ => .inr rfl
theorem fn_t {n : Nat} {p : Nat × Nat} {r : List (Nat × Nat)} {seen : List Nat} (h : fnSc n (p :: r) seen = true) : (p.2 ≠ 4 -> p.1 < n) /\ p.1 ∉ seen /\ (p.2 = 0 ∨ p.2 = 1 ∨ p.2 = 4) /\ fnSc n r (p.1 :: seen) = true :=
 have h2 := zab (zab h).2
 have h3 := zab h2.2
 ⟨fun h4 => (zjj (zab h).1).elim zfl fun q => absurd (zam q) h4, zg6 h2.1, (zjj h3.1).elim (fun q => (k01 q).imp id .inl) fun q => .inr (.inr (zam q)), h3.2⟩
theorem zci {n x k : Nat} {sc : List (Nat × Nat)} : ∀ {seen : List Nat}, fnSc n sc seen = true -> look sc x = some k -> (k ≠ 4 -> x < n) /\ x ∉ seen /\ (k = 0 ∨ k = 1 ∨ k = 4) := by
 induction sc with
 | nil => exact fun _ h => nn h
 | cons p r ih =>
  intro seen h hl
  obtain ⟨h1, h2, h3, h4⟩ := fn_t h
  rcases zcu hl with ⟨q, q'⟩ | hl
  · exact q ▸ q' ▸ ⟨h1, h2, h3⟩
  · obtain ⟨a, b, c⟩ := ih h4 hl
    exact ⟨a, fun hm => b (.tail _ hm), c⟩
structure Apart (Ω : Bx) : Prop where
 inj : ∀ x y, x < Ω.nms.length -> y < Ω.nms.length -> nmOf Ω x = nmOf Ω y -> x = y
 dbg : ∀ x, x < Ω.nms.length -> (nmOf Ω x == ("__debug__" : Str)) = false
section
variable {Ω : Bx} {cx : Cx} {RmP : Around -> Prop}
variable {env : Env} {sc : List (Nat × Nat)} {hp hp' : Hp} {ρ ρ₀ : Rho} {s s₀ sB s1 : Shared} {A : Around} {E : Value -> Shared -> Prop} {x : Nat}

theorem CT.apart (C : CT Ω cx RmP) : Apart Ω := ⟨C.inj, fun x h => (C.dbg x h).1⟩
theorem zrw (h : ¬ x < Ω.nms.length) : nmOf Ω x = "__debug__" := by
 unfold nmOf
 rw [List.getD_eq_getElem?_getD, List.getElem?_eq_none (Nat.not_lt.mp h)]; rfl
theorem Apart.eq (N : Apart Ω) {y : Nat} (hx : x < Ω.nms.length) (e : nmOf Ω x = nmOf Ω y) : x = y := by
 by_cases hy : y < Ω.nms.length
 · exact N.inj x y hx hy e
 · exact absurd ((beq_iff_eq).mpr (e.trans (zrw hy))) (Bool.eq_false_iff.mp (N.dbg x hx))
theorem zif (N : Apart Ω) (hx : x < Ω.nms.length) {sc : List (Nat × Nat)} : List.lookup (nmOf Ω x) (scN (nmOf Ω) sc) = (look sc x).map zdt := by
 induction sc with
 | nil => rfl
 | cons p r ih =>
  show List.lookup _ ((nmOf Ω p.1, zdt p.2) :: _) = Option.map _ (cs (Nat.beq p.1 x) (some p.2) (look r x))
  rw [List.lookup_cons]
  cases q : Nat.beq p.1 x with
  | true => rw [zam q, beq_self_eq_true]; rfl
  | false => rw [beq_eq_false_iff_ne.mpr fun e => zdy q (N.eq hx e).symm]; exact ih
theorem zgj (N : Apart Ω) (hx : x < Ω.nms.length) {sc : List (Nat × Nat)} : ∀ {n : Nat} {acc : List (Str × Addr)}, (look sc x = some 1 ∨ (acc.lookup (nmOf Ω x)).isSome = true) -> ((cellsFrom n (scN (nmOf Ω) sc) acc).lookup (nmOf Ω x)).isSome = true := by
 induction sc with
 | nil => exact fun h => h.elim (fun h => nn h) id
 | cons p r ih =>
  intro n acc h
  show (List.lookup _ (if (zdt p.2 == .cell) = true then cellsFrom (n + 1) (scN (nmOf Ω) r) ((nmOf Ω p.1, n) :: acc) else cellsFrom n (scN (nmOf Ω) r) acc)).isSome = true
  by_cases hk : (zdt p.2 == .cell) = true
  · rw [if_pos hk]
    refine ih ?_
    rw [List.lookup_cons]
    by_cases e : nmOf Ω x = nmOf Ω p.1
    · exact .inr (by rw [e, beq_self_eq_true]; rfl)
    · rw [beq_eq_false_iff_ne.mpr e]
      exact h.imp (fun h => (zcu h).elim (fun q => absurd (congrArg (nmOf Ω) q.1).symm e) id) id
  · rw [if_neg hk]
    exact ih (h.imp (fun h => (zcu h).elim (fun q => absurd (by rw [q.2]; rfl) hk) id) id)

theorem zpw {B : List (Str × Value) -> (Str -> Option Value) -> Str -> Option Value} {c : Str -> Prop} (h0 : ∀ m, B [] m = m) (h1 : ∀ n v r m, (c n /\ B ((n, v) :: r) m = B r (fun y => if y = n then some v else m y)) ∨ B ((n, v) :: r) m = B r m) {z : Str} {xs : List Nat} : ∀ {us : List Value} {m : Str -> Option Value}, z ∉ xs.map (nmOf Ω) -> B ((xs.map (nmOf Ω)).zip us) m z = m z := by
 induction xs with
 | nil => exact fun _ => congrFun (h0 _) z
 | cons a r ih =>
  intro us m hz
  cases us with
  | nil => exact congrFun (h0 _) z
  | cons b t =>
   rw [List.map_cons, List.mem_cons] at hz
   have hz2 : z ∉ r.map (nmOf Ω) := fun q => hz (.inr q)
   rcases h1 (nmOf Ω a) b ((r.map (nmOf Ω)).zip t) m with ⟨_, q⟩ | q
   · exact (congrFun q z).trans ((ih hz2).trans (if_neg fun q => hz (.inl q)))
   · exact (congrFun q z).trans (ih hz2)
theorem zpx {B : List (Str × Value) -> (Str -> Option Value) -> Str -> Option Value} {c : Str -> Prop} (h0 : ∀ m, B [] m = m) (h1 : ∀ n v r m, (c n /\ B ((n, v) :: r) m = B r (fun y => if y = n then some v else m y)) ∨ B ((n, v) :: r) m = B r m) (h2 : ∀ n v r m, c n -> B ((n, v) :: r) m = B r (fun y => if y = n then some v else m y)) {u : Value} (hk : c (nmOf Ω x)) {xs : List Nat} : ∀ {us : List Value} {m : Str -> Option Value}, (xs.map (nmOf Ω)).Nodup -> (x, u) ∈ xs.zip us -> B ((xs.map (nmOf Ω)).zip us) m (nmOf Ω x) = some u := by
 induction xs with
 | nil => exact fun _ h => nomatch h
 | cons y r ih =>
  intro us m hn h
  cases us with
  | nil => exact nomatch h
  | cons v t =>
   obtain ⟨hn1, hn2⟩ := List.nodup_cons.mp hn
   rcases List.mem_cons.mp h with h | h
   · have q := Prod.mk.inj h
     rw [q.1] at hk ⊢
     rw [q.2]
     exact (congrFun (h2 _ _ _ _ hk) _).trans ((zpw h0 h1 hn1).trans (if_pos rfl))
   · rcases h1 (nmOf Ω y) v ((r.map (nmOf Ω)).zip t) m with ⟨_, q⟩ | q
     · exact (congrFun q _).trans (ih hn2 h)
     · exact (congrFun q _).trans (ih hn2 h)
section
variable {kd : Str -> Option NameKind} {xs : List Nat} {us : List Value} {m : Str -> Option Value} {u : Value}
theorem zpy (n : Str) (v : Value) (r : List (Str × Value)) (m : Str -> Option Value) (h : kd n = some .local) : bindL kd ((n, v) :: r) m = bindL kd r (fun y => if y = n then some v else m y) := congrArg (bindL kd r) (if_pos h)
theorem zpz (n : Str) (v : Value) (r : List (Str × Value)) (m : Str -> Option Value) (h : kd n ≠ some .local) : PySem.bindC kd ((n, v) :: r) m = PySem.bindC kd r (fun y => if y = n then some v else m y) := congrArg (PySem.bindC kd r) (if_neg h)
theorem zts (hn : (xs.map (nmOf Ω)).Nodup) (h : (x, u) ∈ xs.zip us) (hk : kd (nmOf Ω x) = some .local) : bindL kd ((xs.map (nmOf Ω)).zip us) m (nmOf Ω x) = some u :=
 zpx (c := fun n => kd n = some .local) (fun _ => rfl) (fun n v r m => (Decidable.em (kd n = some .local)).imp (fun h => ⟨h, zpy n v r m h⟩) fun h => congrArg (bindL kd r) (if_neg h)) zpy hk hn h
theorem ztu (hn : (xs.map (nmOf Ω)).Nodup) (h : (x, u) ∈ xs.zip us) (hk : kd (nmOf Ω x) ≠ some .local) : PySem.bindC kd ((xs.map (nmOf Ω)).zip us) m (nmOf Ω x) = some u :=
 zpx (c := fun n => kd n ≠ some .local) (fun _ => rfl) (fun n v r m => (Decidable.em (kd n = some .local)).symm.imp (fun h => ⟨h, zpz n v r m h⟩) fun h => congrArg (PySem.bindC kd r) (if_pos h)) zpz hk hn h
end
theorem zsc {xs : List Nat} {v : V} : ∀ {vs : List V}, look (xs.zip vs) x = some v -> ∃ i : Nat, xs[i]? = some x /\ vs[i]? = some v := by
 induction xs with
 | nil => exact fun h => nn h
 | cons y r ih =>
  intro vs h
  cases vs with
  | nil => exact nn h
  | cons u t =>
   rcases zcu h with ⟨q, q'⟩ | h
   · exact ⟨0, congrArg some q, congrArg some q'⟩
   · exact (ih h).elim fun i h => ⟨i + 1, h⟩
theorem zrv (N : Apart Ω) {l : List Nat} (h1 : l.Nodup) (h2 : ∀ x ∈ l, x < Ω.nms.length) : (l.map (nmOf Ω)).Nodup := by
 induction l with
 | nil => exact List.nodup_nil
 | cons a l ih =>
  obtain ⟨g1, g2⟩ := List.nodup_cons.mp h1
  exact List.nodup_cons.mpr ⟨fun hm => (List.mem_map.mp hm).elim fun y hy => g1 (N.inj y a (h2 y (.tail _ hy.1)) (h2 a (.head _)) hy.2 ▸ hy.1), ih g2 fun x hx => h2 x (.tail _ hx)⟩

noncomputable def faC (Ω : Bx) (env : Env) : List Addr := (List.range Ω.nms.length).filterMap fun x => env.cells.lookup (nmOf Ω x)
theorem zj2 {a : Addr} : a ∈ faC Ω env ↔ ∃ x, x < Ω.nms.length /\ env.cells.lookup (nmOf Ω x) = some a :=
 ⟨fun h => (List.mem_filterMap.mp h).elim fun x h => ⟨x, List.mem_range.mp h.1, h.2⟩, fun h => List.mem_filterMap.mpr (h.elim fun x h => ⟨x, List.mem_range.mpr h.1, h.2⟩)⟩
structure Pars (Ω : Bx) (sc : List (Nat × Nat)) (ps : List Nat) : Prop where
 ok : fnSc Ω.nms.length sc [] = true
 nd : ps.Nodup
 k : ∀ x ∈ ps, look sc x = some 0 ∨ look sc x = some 1
theorem Pars.lt {ps : List Nat} (P : Pars Ω sc ps) (hx : x ∈ ps) : x < Ω.nms.length := (P.k x hx).elim (fun q => (zci P.ok q).1 (by decide)) fun q => (zci P.ok q).1 (by decide)
theorem zgk (N : Apart Ω) {ps : List Nat} (P : Pars Ω sc ps) {us : List Value} {b : Str × Value} {n : Nat} (hb : b ∈ (ps.map (nmOf Ω)).zip us) : List.lookup b.1 (scN (nmOf Ω) sc) = some .local ∨ (List.lookup b.1 (scN (nmOf Ω) sc) = some .cell /\ ((cellsFrom n (scN (nmOf Ω) sc) []).lookup b.1).isSome = true) := by
 obtain ⟨y, hy, e⟩ := List.mem_map.mp (List.of_mem_zip (a := b.1) (b := b.2) hb).1
 have hl := P.lt hy
 rw [← e, zif N hl]
 rcases P.k y hy with q | q
 · exact .inl (by rw [q]; rfl)
 · exact .inr ⟨by rw [q]; rfl, zgj N hl (.inl q)⟩
structure Frm (Ω : Bx) (env : Env) (sc : List (Nat × Nat)) (fl : L) (ρ : Rho) (hp : Hp) (sB s1 : Shared) : Prop where
 K : KN Ω env sc
 H : HS Ω ρ hp s1
 G : Go [] ρ sB ρ s1
 F : FR Ω env (env.locals :: faC Ω env) fl ρ s1
 C : FC Ω env (env.locals :: faC Ω env) s1
 fresh : ∀ a ∈ env.locals :: faC Ω env, sB.heap.get? a = none
theorem kn_fn (N : Apart Ω) (hsc : fnSc Ω.nms.length sc [] = true) (h1 : env.scope.names = scN (nmOf Ω) sc) {n : Nat} (h2 : env.cells = cellsFrom n (scN (nmOf Ω) sc) []) : KN Ω env sc := by
 have kd : ∀ x, x < Ω.nms.length -> env.kindOf (nmOf Ω x) = (look sc x).map zdt := fun x hx => (congrArg (List.lookup (nmOf Ω x)) h1).trans (zif N hx)
 have k1 : ∀ {x k}, look sc x = some k -> k ≠ 4 -> env.kindOf (nmOf Ω x) = some (zdt k) := fun {x k} q h => by rw [kd x ((zci hsc q).1 h), q]; rfl
 refine ⟨fun x q => k1 q (by decide), fun x q => k1 q (by decide), fun x q => ?_, fun x hx q => by rw [kd x hx, q]; rfl, fun x hx q => by rw [kd x hx, q]; rfl⟩
 have q : look sc x = some 1 := q.elim id fun q => (zci hsc q).2.2.elim nofun fun z => z.elim nofun nofun
 exact ⟨.inl (k1 q (by decide)), Option.isSome_iff_exists.mp (h2 ▸ zgj N ((zci hsc q).1 (by decide)) (.inl q))⟩
theorem zmi {ps : List Nat} {vs : List V} {us : List Value} (hR : VRs ρ s.heap vs us) {v : V} (h : look (ps.zip vs) x = some v) : x ∈ ps /\ ∃ u, (x, u) ∈ ps.zip us /\ VR ρ s.heap v u := by
 obtain ⟨i, h2, h3⟩ := zsc h
 obtain ⟨u, h4, h5⟩ := hR.nth (n := i) (x := v) ((zbd vs i).trans h3)
 exact ⟨List.mem_of_getElem? h2, u, List.mem_of_getElem? (i := i) (List.getElem?_zip_eq_some.mpr ⟨h2, h4⟩), h5⟩
theorem zlc (N : Apart Ω) {ps : List Nat} (P : Pars Ω sc ps) (H : HS Ω ρ hp sB) {us : List Value} {vs : List V} (hR : VRs ρ sB.heap vs us) (e1 : env.scope.kind = .function) (e2 : env.scope.names = scN (nmOf Ω) sc) (e3 : env.globals = mainGlobals) (e4 : env.builtins = builtinsNs) (e5 : env.locals = sB.heap.objs.size) (e6 : env.cells = cellsFrom (sB.heap.objs.size + 1) (scN (nmOf Ω) sc) [])
 (I : InCallC sB env.locals (bindL env.kindOf ((ps.map (nmOf Ω)).zip us) fun _ => none) env.cells (PySem.bindC env.kindOf ((ps.map (nmOf Ω)).zip us) fun _ => none) s1) : Frm Ω env sc (ps.zip vs) ρ hp sB s1 := by
 have hnd := zrv N P.nd fun x hx => P.lt hx
 have K := kn_fn N P.ok e2 e6
 have fresh : ∀ a ∈ env.locals :: faC Ω env, sB.heap.get? a = none := fun a ha => zc5 (o := (none : Option Obj)) (fun o q => absurd (Heap.lt_size q) (Nat.not_lt.mpr ((List.mem_cons.mp ha).elim (fun e => Nat.le_of_eq (e.trans e5).symm) fun ha => (zj2.mp ha).elim fun x h => Nat.le_of_lt (e5 ▸ I.above _ a (PySem.mem_of_lookup h.2))))) rfl
 have cellNe : ∀ {n c}, env.cells.lookup n = some c -> c ≠ env.locals := fun {n c} h e => Nat.lt_irrefl _ (e ▸ I.above n c (PySem.mem_of_lookup h))
 obtain ⟨h1, t1, hs1⟩ := I.toInCall.same
 have hkeep := I.toInCall.keep
 subst hs1
 have mono : ∀ {v : V} {u : Value}, VR ρ sB.heap v u -> VR ρ h1 v u := fun R => VR.mono (Ext.refl ρ) (fun b o e _ => hkeep b o e) _ _ R
 have cellOk : ∀ {x c}, x < Ω.nms.length -> env.cells.lookup (nmOf Ω x) = some c -> c ∈ env.locals :: faC Ω env := fun {x c} hx h => .tail _ (zj2.mpr ⟨x, hx, h⟩)
 refine ⟨K, H.heap hkeep, Go.keeps [] ρ sB hkeep, ⟨e1, e3, e4, fun x v h => P.lt (zmi hR h).1, ⟨_, I.toInCall.ns, fun x v h hk => ?_⟩, fun x v h hk => ?_, .head _, fun a ha => H.notIn (fresh a ha), fun a ha => ?_⟩,
  ⟨fun x c hx hc => ⟨cellOk hx hc, cellNe hc, _, I.cell _ c hc⟩, fun x y c hx hy h1 h2 => N.inj x y hx hy (name_of_addr I.apart (PySem.mem_of_lookup h1) (PySem.mem_of_lookup h2)), fun x hx hk => ?_, fun a ha => H.base_none (fresh a ha)⟩, fresh⟩
 · obtain ⟨hx, u, hu, hv⟩ := zmi hR h
   exact ⟨u, zts hnd hu hk, mono hv⟩
 · obtain ⟨hx, u, hu, hv⟩ := zmi hR h
   have q : look sc x = some 1 := (P.k x hx).elim (fun q => by rw [K.loc x q] at hk; exact hk.elim nofun nofun) id
   obtain ⟨c, hcc⟩ := (K.cel x (.inl q)).2
   have hcell := I.cell _ c hcc
   rw [ztu hnd hu (by rw [K.one x q]; nofun)] at hcell
   exact ⟨c, u, hcc, hcell, cellOk (P.lt hx) hcc, cellNe hcc, mono hv⟩
 · exact (List.mem_cons.mp ha).elim (fun q => q ▸ zee I.toInCall.ns) fun ha => (zj2.mp ha).elim fun x h => ziu (I.cell _ _ h.2)
 · cases q : look sc x with
   | none => rw [K.no x hx q] at hk; exact nn hk
   | some k =>
    rcases (zci P.ok q).2.2 with z | z | z
    · rw [K.loc x (z ▸ q)] at hk; exact absurd hk nofun
    · exact (K.cel x (.inl (z ▸ q))).2
    · rw [K.glo x hx (z ▸ q)] at hk; exact absurd hk nofun
theorem zhn (N : Apart Ω) (hA : A.depth < recursionLimit) {K : Frag} (XS : K.In s.heap) (hlim : Ω.h₀.NoLimit) {f : Addr} {oc : Value} {od : Option Addr} {osl : Array (Option Value)} {name qual : Str} {mr : List (Str × Const)} {params : Arguments} {body : List Stmt} {dV kV doc pm cdv ct : Value} {an : Option Addr}
 (ho : K.lookup f = some ⟨oc, od, .func (fnOf name qual params body (scM (nmOf Ω) sc mr) dV kV doc pm an cdv ct), osl⟩) (hcd : codeIn K cdv qual = true) {ps : List Nat} (P : Pars Ω sc ps)
 (H : HS Ω ρ hp sB) {args : Args} {us : List Value} {vs : List V} (hbind : ∀ (A' : Around) (E' : Value -> Shared -> Prop) (Q : List (Str × Value) -> Shared -> Prop), Q ((ps.map (nmOf Ω)).zip us) sB -> wpAny Ω.M A' (bindArgs (fnOf name qual params body (scM (nmOf Ω) sc mr) dV kV doc pm an cdv ct) args) Q E' s) (hR : VRs ρ sB.heap vs us)
 {R : Result -> Shared -> Prop} (run : ∀ (env : Env) (s1 : Shared) (E' : Value -> Shared -> Prop), Frm Ω env sc (ps.zip vs) ρ hp sB s1 -> wpAny Ω.M (A.deeper env) (execs body env) (fun f s' => R (.ok (.ret (match f with | .ret v => v | _ => .none))) s') E' s1) : codeAny Ω.M A (.call (.ref f) args) R s :=
 codeAny_call_function hA (XS _ _ ho) rfl rfl rfl rfl (codeRec_of XS hcd) (hbind _ _ _ (wpAny_newFunctionEnv_cells rfl (fun x hx => zgk N P hx) fun env he s1 I =>
  ⟨(hlim.keeps H.base).keeps I.toInCall.keep, codeAny_func (run env _ _ (zlc N P H hR (by rw [he]; rfl) (by rw [he]; rfl) (by rw [he]; rfl) (by rw [he]; rfl) (by rw [he]; rfl) (by rw [he]; rfl) I))⟩))
theorem out_e {w : Fl × L × Hp} {r : RV × Hp} (e : outB w = some r) {G : Prop} (k1 : w.1 = .next -> (.v .none, w.2.2) = r -> G) (k2 : ∀ x, w.1 = .ret x -> (x, w.2.2) = r -> G) : G := by
 obtain ⟨w, y⟩ := w
 cases w with
 | next => exact k1 rfl (prf e)
 | ret x => exact k2 x rfl (prf e)
 | _ => exact nn e
theorem fn_code (C : CT Ω cx RmP) {d : Nat} (hRm : ∀ A, Rm d A -> RmP A) (hA : Rm (d + 1) A) {K : Frag} (X : K.In Ω.h₀) (hlim : Ω.h₀.NoLimit) {f : Addr} {oc : Value} {od : Option Addr} {osl : Array (Option Value)} {name qual : Str} {mr : List (Str × Const)} {params : Arguments} {b : List FS} {dV kV doc pm cdv ct : Value} {an : Option Addr}
 (ho : K.lookup f = some ⟨oc, od, .func (fnOf name qual params (tSs (nmOf Ω) b) (scM (nmOf Ω) sc mr) dV kV doc pm an cdv ct), osl⟩) (hcd : codeIn K cdv qual = true) {ps : List Nat} (P : Pars Ω sc ps) (hw : wSs Ω.nms.length sc b = true)
 (H : HS Ω ρ hp s) (G : Go [] ρ₀ s₀ ρ s) {args : Args} {us : List Value} {vs : List V} (hbind : BindsTo s (fnOf name qual params (tSs (nmOf Ω) b) (scM (nmOf Ω) sc mr) dV kV doc pm an cdv ct) args ((ps.map (nmOf Ω)).zip us)) (hR : VRs ρ s.heap vs us)
 {r : RV × Hp} (e : body cx b (ps.zip vs) hp = some r) {R : Result -> Shared -> Prop} (hQ : Post Ω ρ₀ s₀ r.1 r.2 fun v s' => R (.ok (.ret v)) s') : codeAny Ω.M A (.call (.ref f) args) R s := by
 refine zhn C.apart (Nat.lt_of_le_of_lt (Nat.le_add_right _ _) hA.dp) (fun a o q => H.base a o (X a o q)) hlim ho hcd P H (fun A' E' Q q => hbind _ _ _ _ q) hR fun env s1 E' F => ?_
 obtain ⟨w, q, e⟩ := bd_t e
 refine zvs C b (D := ⟨env, sc, env.locals :: faC Ω env, A.deeper env, E'⟩) hw ⟨⟨F.K, hRm _ (hA.deeper _), F.H, F.F⟩, F.C⟩ q fun ρ' s' fw h' G' r => ?_
 have done : Go [] ρ₀ s₀ ρ' s' := (G.trans0 F.G).trans G' fun a ha => .inr (G.none (F.fresh a ha))
 refine out_e e (fun z q => ?_) fun x z q => ?_
 · rw [z] at r
   rw [show fw = .next from r]
   exact hQ ρ' s' .none (q ▸ h'.h.H) done (q ▸ rfl)
 · rw [z] at r
   obtain ⟨u, eu, hu⟩ := r
   rw [eu]
   exact hQ ρ' s' u (q ▸ h'.h.H) done (q ▸ zh5 (goLt (G.trans0 F.G)) hu)

theorem zqj (A : Around) (Cl : Addr) (pos : List Value) (kw : List (Str × Value)) {d : Nat} (R : Rm (d + 1) A) : Rm d (A.under (.builtin "type.__call__" ⟨.ref Cl :: pos, kw⟩)) := by
 refine ⟨R.hd, ?_, ?_⟩
 · have := R.dp
   rw [depth_under_kw]; omega
 · have := R.un
   have e : (Code.builtin "type.__call__" ⟨.ref Cl :: pos, kw⟩).cUnits ≤ 10 := by
    show (_ : Nat) ≤ 10
    first | exact Nat.le_of_ble_eq_true rfl | decide | (unfold Code.cUnits; split <;> simp)
   show A.units + _ + 20 * d + 100 < cLine
   omega
theorem new_two {h : Heap} {o1 o2 : Obj} (f1 : o1.isFreed = false) (f2 : o2.isFreed = false) : h.get? h.objs.size = none /\ h.get? (h.objs.size + 1) = none /\ ((h.push o1).push o2).get? h.objs.size = some o1 /\ ((h.push o1).push o2).get? (h.objs.size + 1) = some o2 /\ ∀ b o, h.get? b = some o -> ((h.push o1).push o2).get? b = some o :=
 ⟨zb7 h, zc5 (o := (none : Option Obj)) (fun _ e => absurd (Heap.lt_size e) (Nat.not_lt.mpr (Nat.le_succ _))) rfl, Heap.get?_push_of_some _ (Heap.get?_push_size _ f1), Heap.size_push (h := h) (o := o1) ▸ Heap.get?_push_size (h.push o1) f2, fun _ _ e => Heap.get?_push_of_some _ (Heap.get?_push_of_some _ e)⟩
theorem zsz {hh : Heap} {g : Array GenState} {dr : Drawn} {t : Nat} {os : OsState} (H : HS Ω ρ hp ⟨hh, g, dr, t, os⟩) (G : Go [] ρ₀ s₀ ρ ⟨hh, g, dr, t, os⟩) (Cl : Addr) :
 HS Ω (ρ ++ [[hh.objs.size + 1, hh.objs.size]]) (hp ++ [.inst Cl []]) ⟨(hh.push emptyDict).push (instObj Cl hh.objs.size), g, dr, t, os⟩ /\ Go [] ρ₀ s₀ (ρ ++ [[hh.objs.size + 1, hh.objs.size]]) ⟨(hh.push emptyDict).push (instObj Cl hh.objs.size), g, dr, t, os⟩ ∧
 VR (ρ ++ [[hh.objs.size + 1, hh.objs.size]]) ((hh.push emptyDict).push (instObj Cl hh.objs.size)) (.ref (len hp)) (.ref (hh.objs.size + 1)) := by
 obtain ⟨n1, n2, hd, hx, k⟩ := new_two (h := hh) (o1 := emptyDict) (o2 := instObj Cl hh.objs.size) rfl rfl
 have G0 := zfv G (t := t) k
 refine ⟨(H.heap (t := t) k).take (o := .inst Cl []) (e := [hh.objs.size + 1, hh.objs.size]) ⟨_, _, [], 0, rfl, hx, hd, rfl, Nat.zero_le _⟩ (List.nodup_cons.mpr ⟨fun h => Nat.succ_ne_self _ (List.mem_singleton.mp h), List.nodup_cons.mpr ⟨List.not_mem_nil, List.nodup_nil⟩⟩) (mem2 (H.notIn n2) (H.notIn n1)) (mem2 (H.base_none n2) (H.base_none n1)),
  ⟨?_, G0.keep, G0.imm, G0.grow, G0.gens, G0.os⟩, ⟨_, [hh.objs.size], ?_, rfl⟩⟩
 · obtain ⟨nw, q, hw⟩ := G0.ext
   exact ⟨nw ++ [[hh.objs.size + 1, hh.objs.size]], q ▸ List.append_assoc _ _ _, fun b hb => (List.mem_append.mp (za8 nw _ ▸ hb)).elim (hw b) (mem2 (p := fun a => s₀.heap.get? a = none) (G.none n2) (G.none n1) b)⟩
 · rw [zag, H.len, ← zag]; exact zb8 ρ _
theorem cls_ok {d : Nat} (hA : Rm (d + 1) A) {K : Frag} (X : K.In Ω.h₀) {Cl fI : Addr} (hm : makesIn K Cl = true) (hi : findIn K (.ref Cl) "__init__" = some (some (.ref fI))) (hf : typeIn K (.ref fI) = some (.type "function"))
 (H : HS Ω ρ hp s) (G : Go [] ρ₀ s₀ ρ s) {pos : List Value} {kw : List (Str × Value)} {hp2 : Hp}
 {Q : Value -> Shared -> Prop} (hQ : Post Ω ρ₀ s₀ (.v (.ref (len hp))) hp2 Q)
 (run : ∀ {ρ1 : Rho} {s1 : Shared} {A1 : Around} {x : Addr} {R : Result -> Shared -> Prop}, Rm d A1 -> HS Ω ρ1 (hp ++ [.inst Cl []]) s1 -> (∀ {v : V} {u : Value}, VR ρ s.heap v u -> VR ρ1 s1.heap v u) -> VR ρ1 s1.heap (.ref (len hp)) (.ref x) -> (Post Ω ρ1 s1 (.v .none) hp2 fun v s' => R (.ok (.ret v)) s') ->
  codeAny Ω.M A1 (.call (.ref fI) ⟨.ref x :: pos, kw⟩) R s1) :
 wpAny Ω.M A (call (.ref Cl) pos kw) Q E s := by
 obtain ⟨hh, g, dr, t, os⟩ := s
 have XS : K.In hh := fun a o q => H.base a o (X a o q)
 refine wpAny_call (make_core (makes_of XS hm) (looks_findIn XS hi) (fun self => bind_fn XS self hf) (.inl rfl) ?_)
 obtain ⟨H2, G1, hself⟩ := zsz H G Cl
 exact run (zqj A Cl pos kw hA) H2 (fun R => VR.mono (Ext.append _ _) (fun b o e _ => Heap.get?_push_of_some _ (Heap.get?_push_of_some _ e)) _ _ R) hself fun ρ' s' v H' G' R' => ⟨R', hQ ρ' s' _ H' (G1.trans0 G') (G'.vr hself)⟩
end
end
section

theorem zt7 {α : Type} (a b c : Nat) (x y : α) : cs (Nat.ble a c) (cs (Nat.ble c b) x y) y = if a ≤ c /\ c ≤ b then x else y := by
 cases h : Nat.ble a c with
 | false => exact (if_neg fun q => by rw [Nat.ble_eq_true_of_le q.1] at h; exact ff h.symm).symm
 | true =>
  cases h2 : Nat.ble c b with
  | false => exact (if_neg fun q => by rw [Nat.ble_eq_true_of_le q.2] at h2; exact ff h2.symm).symm
  | true => exact (if_pos ⟨Nat.le_of_ble_eq_true h, Nat.le_of_ble_eq_true h2⟩).symm
theorem lowc_eq (c : Nat) : lowc c = lo1 c := zt7 65 90 c (c + 32) c
theorem zv7 (c : Nat) : uppc c = up1 c := zt7 97 122 c (c - 32) c
theorem zur (x : List Nat) (f g : Nat -> Nat) (h : ∀ c, f c = g c) : (⟨x.toArray.map f⟩ : Str) = St (x.map g) := by
 rw [List.map_toArray, show f = g from funext h]
theorem zk1 {x : List Nat} (h : sOk x) : Txt.lower (St x) = St (x.map lowc) :=
 (lower_ascii (x := St x) fun c hc => zba h.1 c hc).trans (zur x lo1 lowc fun c => (lowc_eq c).symm)
theorem zkc {x : List Nat} (h : sOk x) : Txt.upper (St x) = St (x.map uppc) :=
 (upper_ascii (x := St x) fun c hc => zba h.1 c hc).trans (zur x up1 uppc fun c => (zv7 c).symm)
theorem zuq {x : List Nat} (h : sOk x) {f : Nat -> Nat} (hf : ∀ c : Fin 128, f c.1 < 128) : sOk (x.map f) :=
 ⟨zdm fun c hc => (List.mem_map.mp hc).elim fun d h' => h'.2 ▸ hf ⟨d, zba h.1 d h'.1⟩, (List.length_map _).symm ▸ h.2⟩
theorem zsb {x : List Nat} (h : sOk x) : sOk (x.map lowc) := zuq h (by decide)
theorem zqh {x : List Nat} (h : sOk x) : sOk (x.map uppc) := zuq h (by decide)
noncomputable def at2 (c d : Nat) (l : List Nat) (k : Nat) : Prop := l[k]? = some c /\ l[k + 1]? = some d
theorem zdn (c d : Nat) : ∀ (k : Nat) (acc l : List Nat), k ≤ l.length -> (∀ i, i < k -> ¬ at2 c d l i) -> zan c d acc l = zan c d (acc ++ l.take k) (l.drop k)
 | 0, acc, l, _, _ => by simp
 | k + 1, acc, [], h, _ => by simp at h
 | k + 1, acc, [x], h, _ => by
  have : k = 0 := by simp at h; exact h
  subst this
  simp [zan]
 | k + 1, acc, x :: y :: r, h, hn => by
  have step : zan c d acc (x :: y :: r) = zan c d (acc ++ [x]) (y :: r) := by
   rw [zan]
   split
   · rename_i q1
     split
     · rename_i q2
       exact absurd ⟨by simp [zam q1], by simp [zam q2]⟩ (hn 0 (by omega))
     · rfl
   · rfl
  rw [step, zdn c d k (acc ++ [x]) (y :: r) (by simp at h ⊢; exact h) fun i hi ha => hn (i + 1) (by omega) ⟨by simpa using ha.1, by simpa using ha.2⟩]
  simp
theorem ze9 (c d : Nat) (acc l : List Nat) (h : ∀ i, ¬ at2 c d l i) : zan c d acc l = [acc ++ l] := by
 rw [zdn c d l.length acc l (Nat.le_refl _) fun i _ => h i]
 simp [zan]
theorem zli (x : List Nat) (c d k : Nat) : StrLaws.At (St x) (St [c, d]) (St x).length k ↔ at2 c d x k := by
 have e : (St x).length = x.length := zak x
 unfold StrLaws.At Builtin.Str.subAt at2
 rw [e]
 have h2 : (St [c, d]).length = 2 := rfl
 rw [h2]
 have key : (x.toArray.extract k (k + 2) == [c, d].toArray) = true ↔ (x.drop k).take 2 = [c, d] := by
  rw [beq_iff_eq, ← Array.toList_inj]
  simp [List.extract_eq_take_drop]
 show k + 2 ≤ x.length /\ (x.toArray.extract k (k + 2) == [c, d].toArray) = true ↔ _
 rw [key]
 constructor
 · rintro ⟨h1, h2⟩
   have a0 := congrArg (fun l : List Nat => l[0]?) h2
   have a1 := congrArg (fun l : List Nat => l[1]?) h2
   simp [List.getElem?_take] at a0 a1
   exact ⟨a0, a1⟩
 · rintro ⟨h1, h2⟩
   have l2 := (List.getElem?_eq_some_iff.mp h2).1
   refine ⟨by omega, ?_⟩
   rw [List.drop_eq_getElem_cons (by omega), List.drop_eq_getElem_cons (by omega)]
   have e1 := (List.getElem?_eq_some_iff.mp h1).2
   have e2 := (List.getElem?_eq_some_iff.mp h2).2
   simp [e1, e2]
theorem zuc (x : List Nat) (a b : Nat) : Builtin.Str.strSub (St x) a b = St ((x.drop a).take (b - a)) := by
 have := StrLaws.strSub_toList (St x) a b
 have h : ∀ y z : Str, y.cps.toList = z.cps.toList -> y = z := fun y z h => by cases y; cases z; simp at h; simp [h]
 exact h _ _ (by rw [this])
theorem zen (x : List Nat) (c d : Nat) : ∀ (cuts : List Nat) (a f : Nat), StrLaws.ChainG (St x) (St [c, d]) (St x).length a cuts f -> (∀ k, f ≤ k -> ¬ StrLaws.At (St x) (St [c, d]) (St x).length k) -> a ≤ x.length ->
 StrLaws.partsFrom (St x) 2 a cuts = (zan c d [] (x.drop a)).map St
 | [], a, f, h, hn, ha => by
  have e : f = a := h
  subst e
  have : ∀ i, ¬ at2 c d (x.drop f) i := fun i q => by
   refine hn (f + i) (by omega) ((zli x c d (f + i)).mpr ⟨?_, ?_⟩)
   · have := q.1; rw [List.getElem?_drop] at this; exact this
   · have := q.2; rw [List.getElem?_drop] at this; exact this
  rw [ze9 c d [] _ this]
  show [Builtin.Str.strSub (St x) f (St x).length] = _
  rw [zuc, zak]
  simp only [List.nil_append, List.map_cons, List.map_nil]
  rw [List.take_of_length_le (by rw [List.length_drop]; exact Nat.le_refl _)]
 | k :: r, a, f, h, hn, ha => by
  obtain ⟨h1, h2, h3, h4⟩ := h
  have h2' := (zli x c d k).mp h2
  have hk : k + 1 < x.length := (List.getElem?_eq_some_iff.mp h2'.2).1
  have hno : ∀ i, i < k - a -> ¬ at2 c d (x.drop a) i := fun i hi q => by
   refine h3 (a + i) (by omega) (by omega) ((zli x c d (a + i)).mpr ⟨?_, ?_⟩)
   · have := q.1; rw [List.getElem?_drop] at this; exact this
   · have := q.2; rw [List.getElem?_drop] at this; exact this
  rw [zdn c d (k - a) [] (x.drop a) (by rw [List.length_drop]; omega) hno, List.drop_drop]
  have e1 : a + (k - a) = k := by omega
  rw [e1]
  have e2 : x.drop k = c :: d :: x.drop (k + 2) := by
   rw [List.drop_eq_getElem_cons (by omega), List.drop_eq_getElem_cons (by omega)]
   have a1 := (List.getElem?_eq_some_iff.mp h2'.1).2
   have a2 := (List.getElem?_eq_some_iff.mp h2'.2).2
   rw [a1, a2]
  rw [e2]
  have e3 : zan c d ([] ++ (x.drop a).take (k - a)) (c :: d :: x.drop (k + 2)) = ([] ++ (x.drop a).take (k - a)) :: zan c d [] (x.drop (k + 2)) := by
   rw [zan, Nat.beq_refl]
   dsimp only
   rw [Nat.beq_refl]
  rw [e3]
  show Builtin.Str.strSub (St x) a k :: StrLaws.partsFrom (St x) 2 (k + 2) r = _
  rw [zuc, zen x c d r (k + 2) f h4 hn (by omega)]
  rfl
theorem zkj {x : List Nat} (hx : sOk x) (c d : Nat) (hc : c < 128) (hd : d < 128) : Txt.split (St x) (St [c, d]) = (zan c d [] x).map St := by
 obtain ⟨f, hG, hn⟩ := StrLaws.occ_tight (St x) (St [c, d]) (by rw [zak]; simp)
 have single : (∀ i, ¬ at2 c d x i) -> [St x] = (zan c d [] x).map St := fun h => by rw [ze9 c d [] x h]; rfl
 have kind : Builtin.Str.strKind (St x) = 1 /\ Builtin.Str.strKind (St [c, d]) = 1 := by
  refine ⟨?_, ?_⟩
  · unfold Builtin.Str.strKind
    rw [if_pos]
    rw [Array.all_eq_true_iff_forall_mem]
    intro z hz
    exact decide_eq_true (by have := zba hx.1 z (by simpa using hz); omega)
  · unfold Builtin.Str.strKind
    rw [if_pos]
    rw [Array.all_eq_true_iff_forall_mem]
    intro z hz
    have hz : z = c ∨ z = d := by simpa using hz
    exact decide_eq_true (by rcases hz with rfl | rfl <;> omega)
 unfold Txt.split
 split
 · rename_i h
   rw [kind.1, kind.2, Bool.or_eq_true, decide_eq_true_eq, decide_eq_true_eq] at h
   have h := h.resolve_right (by omega)
   rw [zak, zak] at h
   refine single fun i q => ?_
   have := (List.getElem?_eq_some_iff.mp q.2).1
   simp only [List.length_cons, List.length_nil] at h
   omega
 · split
   · rename_i h
     have h0 : Builtin.Str.occurrences (St x) (St [c, d]) 0 (St x).length ((St x).length + 1) = [] := by simpa using h
     rw [h0] at hG
     have : f = 0 := hG
     subst this
     exact single fun i q => hn i (Nat.zero_le _) ((zli x c d i).mpr q)
   · have := zen x c d _ 0 f hG hn (Nat.zero_le _)
     rw [List.drop_zero] at this
     rw [← this]
     unfold Builtin.Str.partsBetween
     exact StrLaws.zip_parts (St x) 2 _ 0
theorem join_eq (sep : List Nat) (l : List (List Nat)) : Txt.join (St sep) (l.map St) = St (zce sep l) := by
 show Builtin.Str.glued _ _ = _
 rw [StrLaws.glued_eq_join]
 induction l with
 | nil => rfl
 | cons x r ih =>
  cases r with
  | nil => rfl
  | cons y r =>
   show St x ++ St sep ++ Str.join (St sep) ((y :: r).map St) = _
   rw [ih, zcr, zcr]
   rfl

section
variable {Ω : Bx}
variable {hp hp' : Hp} {ρ ρ₀ : Rho} {s s₀ : Shared} {A : Around} {E : Value -> Shared -> Prop}

theorem zwq {ρ : Rho} {h : Heap} {xs : List V} : ∀ {vs : List Value} {l : List (List Nat)}, zf6 xs = some l -> VRs ρ h xs vs -> ∃ ps : List (Str × Tok), vs = strValues ps /\ ps.map (·.1) = l.map St /\ ∀ x ∈ l, sOk x := by
 induction xs with
 | nil => exact fun e R => ⟨[], R, prf e ▸ rfl, prf e ▸ nofun⟩
 | cons x r ih =>
  intro vs l e R
  obtain ⟨i, h1, e⟩ := bd_t e
  obtain ⟨l', h2, e⟩ := bd_t e
  obtain ⟨v, t, q, hx, hr⟩ := R
  rw [vS_t h1] at hx
  obtain ⟨⟨u, hu⟩, hi⟩ := hx
  obtain ⟨ps, hp, hps, hok⟩ := ih h2 hr
  rw [q, hu, hp, ← prf e]
  exact ⟨(St i, u) :: ps, rfl, congrArg (St i :: ·) hps, fun y hy => (List.mem_cons.mp hy).elim (fun e => e ▸ hi) (hok y)⟩
theorem zwp {ρ : Rho} {h : Heap} {ps : List (Str × Tok)} : ∀ {l : List (List Nat)}, ps.map (·.1) = l.map St -> (∀ x ∈ l, sOk x) -> VRs ρ h (l.map V.str) (strValues ps) := by
 induction ps with
 | nil => intro l e _; cases l with | nil => exact rfl | cons _ _ => cases e
 | cons p ps ih =>
  intro l e ok
  cases l with
  | nil => cases e
  | cons x l => exact VRs.cons ⟨⟨p.2, congrArg (Value.str · p.2) (List.cons.inj e).1⟩, ok x (.head _)⟩ (ih (List.cons.inj e).2 fun y hy => ok y (.tail _ hy))
theorem ze8 (c d : Nat) : ∀ (l acc : List Nat), (∀ x ∈ acc, x < 128) -> (∀ x ∈ l, x < 128) -> (∀ p ∈ zan c d acc l, (∀ x ∈ p, x < 128) /\ p.length ≤ acc.length + l.length) /\ (zan c d acc l).length ≤ l.length + 1
 | [], acc, h1, _ => by simp only [zan]; exact ⟨fun p hp => by rw [List.mem_singleton.mp hp]; exact ⟨h1, by simp⟩, by simp⟩
 | [x], acc, h1, h2 => by
  simp only [zan]
  refine ⟨fun p hp => ?_, by simp⟩
  rw [List.mem_singleton.mp hp]
  refine ⟨fun y hy => ?_, by simp⟩
  rcases List.mem_append.mp hy with hy | hy
  · exact h1 y hy
  · exact h2 y hy
 | x :: y :: r, acc, h1, h2 => by
  have shift := ze8 c d (y :: r) (acc ++ [x]) (fun z hz => by rcases List.mem_append.mp hz with hz | hz; exact h1 z hz; exact h2 z (by simp at hz; simp [hz])) (fun z hz => h2 z (by simp at hz ⊢; exact .inr hz))
  have cut := ze8 c d r [] (by simp) (fun z hz => h2 z (by simp [hz]))
  have sh : (∀ p ∈ zan c d (acc ++ [x]) (y :: r), (∀ x ∈ p, x < 128) /\ p.length ≤ acc.length + (x :: y :: r).length) /\ (zan c d (acc ++ [x]) (y :: r)).length ≤ (x :: y :: r).length + 1 := by
   refine ⟨fun p hp => ⟨(shift.1 p hp).1, ?_⟩, ?_⟩
   · have := (shift.1 p hp).2; simp only [List.length_append, List.length_cons, List.length_nil] at this ⊢; omega
   · have := shift.2; simp only [List.length_cons] at this ⊢; omega
  rw [zan]
  split
  · split
    · refine ⟨fun p hp => ?_, ?_⟩
      · rcases List.mem_cons.mp hp with rfl | hp
        · exact ⟨h1, by simp only [List.length_cons]; omega⟩
        · refine ⟨(cut.1 p hp).1, ?_⟩
          have := (cut.1 p hp).2; simp only [List.length_cons, List.length_nil] at this ⊢; omega
      · have := cut.2; simp only [List.length_cons] at this ⊢; omega
    · exact sh
  · exact sh
theorem zk5 {sep : List Nat} (hs : sOk sep) : ∀ {l : List (List Nat)}, (∀ x ∈ l, sOk x) -> asc (zce sep l) = true
 | [], _ => rfl
 | [x], h => (h x (by simp)).1
 | x :: y :: r, h => zdg (zdg (h x (by simp)).1 hs.1) (zk5 hs fun z hz => h z (by simp at hz ⊢; exact .inr hz))
theorem zft (sep : List Nat) : ∀ l : List (List Nat), l.length ≤ 65536 -> sep.length ≤ 65536 -> ((l.map St).map (·.length)).sum + (l.map St).length * (St sep).length ≤ (zce sep l).length + sep.length
 | [], _, _ => by simp [zce]
 | [x], _, _ => by simp [zce, zak]
 | x :: y :: r, h, hs => by
  have := zft sep (y :: r) (by simp at h ⊢; omega) hs
  simp only [List.map_cons, List.sum_cons, List.length_cons, zak, zce, List.length_append] at this ⊢
  rw [Nat.add_mul] 
  omega
structure NM (Ω : Bx) : Prop where
 n0 : nmOf Ω 0 = "append"
 n3 : nmOf Ω 3 = "lower"
 n4 : nmOf Ω 4 = "upper"
 n5 : nmOf Ω 5 = "split"
 n6 : nmOf Ω 6 = "join"
 n8 : nmOf Ω 8 = "search"
 n9 : nmOf Ω 9 = "get"
theorem zmc {a : Addr} {vs : List Value} {n : Nat} (ho : s.heap.get? a = some (lstO vs n)) {Q : Value × List Value -> Shared -> Prop} {pl : Sem Bool} (h : Q (.builtin "list.append", [.ref a]) s) : wpAny Ω.M A (getMethod (.ref a) "append" pl) Q E s :=
 getMethod_builtin (tyL ho) F.plainAttrs_list slot_list_append type_list_append (fun b e => by cases e; exact ⟨_, ho, rfl⟩) h
theorem zc7 (M : Model) (h : Heap) (id : String) : zbb M h (.builtin id) := ⟨.machine, .inr (.inl rfl), Looks.of_pure rfl⟩
theorem zp4 (H : HS Ω ρ hp s) (G : Go [] ρ₀ s₀ ρ s) (hb : ∀ a, s₀.heap.get? a = none -> Ω.h₀.get? a = none) {n : Nat} {xs : List V} {a : Addr} {r : RV} {u : Value} {y : V × Hp} (hn : lisA n hp = some xs) (ha : nth ρ n = some [a]) (hf : fits (len xs) = true) (e : zem r hp = some y) (R : RVR Ω ρ s₀ s r u)
 {Q : Value -> Shared -> Prop} (hQ : Post Ω ρ₀ s₀ (.v .none) (upd y.2 n (.list (xs ++ [y.1]))) Q) : wpAny Ω.M A (call (.builtin "list.append") [.ref a, u]) Q E s := by
 obtain ⟨a', vs, k, he, _, h2, h3, h4⟩ := zgh H hn ⟨a, [], ha, rfl⟩
 rw [← Value.ref.inj he] at h2
 obtain ⟨ρ1, H1, G1, R1, hρ⟩ := zhv H G hb (Lt.refl s₀) e R
 have ext : Ext ρ ρ1 := hρ.elim (fun q => q ▸ Ext.refl _) fun ⟨_, _, _, _, q⟩ => q ▸ Ext.append _ _
 have hl : vs.length ≤ 65536 := h3.len ▸ zag xs ▸ zbm hf
 refine wpAny_list_append_plain ⟨k, h2⟩ (fun h' hpl hs => ?_) (by rw [sizeLine_eq, List.size_toArray]; exact Nat.le_trans hl (by decide))
 obtain ⟨k', hpl⟩ := hpl
 have hpl : h'.get? a = some (lstO (vs ++ [u]) k') := by simpa using hpl
 have im : ImmK s.heap h' := zf2 hs h2 zfm
 exact hQ ρ1 _ _ (H1.set (ext _ _ ha) (.head _) (fun b ob q e => (hs.2 b q).trans e) ⟨a, _, k', rfl, hpl, zkb (VRs.mono ext im _ _ h3) (VR.mono (Ext.refl _) im _ _ R1), by rw [List.length_append]; exact Nat.succ_le_succ hl⟩ H1.gens)
  (G1.trans0 (H1.goSet (t := s.toks) (ext _ _ ha) (.head _) hs [] ⟨_, hpl⟩)) rfl
theorem get_str {x : List Nat} {t : Tok} {m : Nat} (N : NM Ω) (hm : m = 3 ∨ m = 4 ∨ m = 5 ∨ m = 6) {Q : Value × List Value -> Shared -> Prop} {pl : Sem Bool} (h : Q (.builtin (zln m), [.str (St x) t]) s) : wpAny Ω.M A (getMethod (.str (St x) t) (nmOf Ω m) pl) Q E s := by
 rcases hm with rfl | rfl | rfl | rfl
 · rw [N.n3]; exact GM.lower h
 · rw [N.n4]; exact GM.upper h
 · rw [N.n5]; exact GM.split h
 · rw [N.n6]; exact GM.join h
theorem mStr_t {x : List Nat} {m : Nat} {as : List RV} {r : RV} (e : mStr x m as hp = some r) : m = 3 ∨ m = 4 ∨ m = 5 ∨ m = 6 := match m, e with
 | 0, e => nn e | 1, e => nn e | 2, e => nn e | 3, _ => .inl rfl | 4, _ => .inr (.inl rfl) | 5, _ => .inr (.inr (.inl rfl)) | 6, _ => .inr (.inr (.inr rfl)) | _ + 7, e => nn e
theorem zkx {n : Nat} (h : n ≤ 65536) : Builtin.Str.tooLong n = false := by
 unfold Builtin.Str.tooLong
 exact decide_eq_false (by rw [sizeLine_eq]; exact Nat.not_lt.mpr (Nat.le_trans h (by decide)))
theorem no_as {as : List RV} {vs : List Value} (e : emp as = true) (R : RVRs Ω ρ s₀ s as vs) {P : List Value -> Prop} (k : P []) : P vs := by
 rw [ztf e] at R
 exact (show vs = [] from R) ▸ k
theorem st_low {x : List Nat} {t : Tok} (hx : sOk x) {Q : Value -> Shared -> Prop} (hQ : Kq Ω ρ s₀ s (.v (.str (x.map lowc))) Q) : wpAny Ω.M A (call (.builtin "str.lower") [.str (St x) t]) Q E s :=
 have h2 := zsb hx
 SC.lower (by rw [zk1 hx, zak]; exact zkx h2.2) (by rw [zk1 hx]; exact zd8 h2 hQ _ _)
theorem st_upp {x : List Nat} {t : Tok} (hx : sOk x) {Q : Value -> Shared -> Prop} (hQ : Kq Ω ρ s₀ s (.v (.str (x.map uppc))) Q) : wpAny Ω.M A (call (.builtin "str.upper") [.str (St x) t]) Q E s :=
 have h2 := zqh hx
 SC.upper (by rw [zkc hx, zak]; exact zkx h2.2) (by rw [zkc hx]; exact zd8 h2 hQ _ _)
theorem zwv (H : HS Ω ρ hp s) {x : List Nat} {t : Tok} (hx : sOk x) {r : RV} {v : Value} {l : List (List Nat)} (q1 : zqx r hp = some l) (q2 : fits (len (zce x l)) = true) (q3 : fits (len l) = true) (R : RVR Ω ρ s₀ s r v) {Q : Value -> Shared -> Prop} (hQ : Kq Ω ρ s₀ s (.v (.str (zce x l))) Q) : wpAny Ω.M A (call (.builtin "str.join") [.str (St x) t, v]) Q E s := by
 obtain ⟨xs, q1, q4⟩ := bd_t q1
 refine cont_e (P := fun v => wpAny Ω.M A (call (.builtin "str.join") [.str (St x) t, v]) Q E s) H q1 R fun a us n g1 g2 g3 => ?_
 obtain ⟨ps, hu, hps, hok⟩ := zwq q4 g2
 rw [hu] at g1
 have hl := zag (zce x l) ▸ zbm q2
 refine SC.join (l := ps) ⟨_, g1, rfl, n, rfl⟩ hps ?_ fun t' k => join_eq x l ▸ zd8 ⟨zk5 hx hok, hl⟩ hQ _ _
 unfold JoinOk
 rw [StrLaws.joinTotal, Bool.not_eq_true']
 unfold Builtin.Str.tooLong
 exact decide_eq_false (by rw [sizeLine_eq]; exact Nat.not_lt.mpr (Nat.le_trans (zft x l (zag l ▸ zbm q3) hx.2) (Nat.le_trans (Nat.add_le_add hl hx.2) (by decide))))
theorem zq7 (H : HS Ω ρ hp s) (hs : ∀ a, s.heap.get? a = none -> s₀.heap.get? a = none) {x : List Nat} {t u : Tok} {c d : Nat} (hx : sOk x) (hy : sOk [c, d]) {Q : Value -> Shared -> Prop} (hQ : Kq Ω ρ s₀ s (.l ((zan c d [] x).map V.str)) Q) : wpAny Ω.M A (call (.builtin "str.split") [.str (St x) t, .str (St [c, d]) u]) Q E s := by
 have hc := zba hy.1 c (.head _)
 have hd := zba hy.1 d (.tail _ (.head _))
 have hsp := ze8 c d x [] nofun (zba hx.1)
 have okp : ∀ p ∈ zan c d [] x, sOk p := fun p hp => ⟨zdm (hsp.1 p hp).1, Nat.le_trans (hsp.1 p hp).2 ((Nat.zero_add x.length).symm ▸ hx.2)⟩
 have hln : (zan c d [] x).length ≤ 65537 := Nat.le_trans hsp.2 (Nat.succ_le_succ hx.2)
 have key : ∀ (ps : List (Str × Tok)) (k : Nat), ps.map (·.1) = Txt.split (St x) (St [c, d]) -> Q (.ref s.heap.objs.size) { s with heap := s.heap.push (lstO (strValues ps) 0), toks := k } := fun ps k hps => by
  rw [zkj hx c d hc hd] at hps
  have hlen : (strValues ps).length ≤ 65537 := by
   have h1 := congrArg List.length hps
   rw [List.length_map, List.length_map] at h1
   unfold strValues
   rw [List.length_map, h1]; exact hln
  exact zhe H hs (zwp hps okp) hlen hQ k
 have hsz : (St x).length ≤ sizeLine := zd0 hx
 have hy0 : ((St [c, d]).length == 0) = false := rfl
 cases h1 : (decide ((St x).length < (St [c, d]).length) || decide (Builtin.Str.strKind (St x) < Builtin.Str.strKind (St [c, d]))) with
 | false =>
  cases hf : (Builtin.Str.occurrences (St x) (St [c, d]) 0 (St x).length ((St x).length + 1)).isEmpty with
  | false =>
   have e1 : Builtin.Str.partsBetween (St x) (Builtin.Str.occurrences (St x) (St [c, d]) 0 (St x).length ((St x).length + 1)) (St [c, d]).length = Txt.split (St x) (St [c, d]) :=
    ((if_neg (by rw [h1]; exact Bool.false_ne_true)).trans (if_neg (by rw [hf]; exact Bool.false_ne_true))).symm
   have hsz2 : (Builtin.Str.partsBetween (St x) (Builtin.Str.occurrences (St x) (St [c, d]) 0 (St x).length ((St x).length + 1)) (St [c, d]).length).length ≤ sizeLine := by
    rw [e1, zkj hx c d hc hd, List.length_map, sizeLine_eq]
    exact Nat.le_trans hln (by decide)
   refine call_meets PySem.F.slot_str_split (typeIs_str _ _ _) PySem.F.entry_str_split (PySem.F.args_str_split_2 _ _) (meets_str_split_sep (St x) (St [c, d]) t u h1 hy0 hf hsz hsz2) ?_
   show wants Q E _ { s with toks := _, heap := s.heap.push { cls := .type "list", data := .seq (strsFrom s.toks (Builtin.Str.partsBetween (St x) (Builtin.Str.occurrences (St x) (St [c, d]) 0 (St x).length ((St x).length + 1)) (St [c, d]).length)).toArray } }
   rw [strsFrom_eq]
   exact key (numbered s.toks _) _ ((numbered_texts _ _).trans e1)
  | true =>
   exact call_meets PySem.F.slot_str_split (typeIs_str _ _ _) PySem.F.entry_str_split (PySem.F.args_str_split_2 _ _) (meets_str_split_not_found (St x) (St [c, d]) t u h1 hy0 hf)
    (key [(St x, t)] _ ((if_neg (ne_true_of_eq_false h1)).trans (if_pos hf)).symm)
 | true =>
  exact call_meets PySem.F.slot_str_split (typeIs_str _ _ _) PySem.F.entry_str_split (PySem.F.args_str_split_2 _ _) (meets_str_split_cannot_occur (St x) (St [c, d]) t u h1)
   (key [(St x, t)] _ (if_pos h1).symm)
theorem zrc (H : HS Ω ρ hp s) (hs : ∀ a, s.heap.get? a = none -> s₀.heap.get? a = none) {x : List Nat} (hx : sOk x) {t : Tok} {m : Nat} {as : List RV} {r : RV} {vs : List Value} (e : mStr x m as hp = some r) (R : RVRs Ω ρ s₀ s as vs) {Q : Value -> Shared -> Prop} (hQ : Kq Ω ρ s₀ s r Q) :
 wpAny Ω.M A (call (.builtin (zln m)) (.str (St x) t :: vs)) Q E s := by
 rcases mStr_t e with q | q | q | q
 · subst q
   obtain ⟨h1, e⟩ := zae e
   exact no_as (P := fun vs => wpAny Ω.M A (call (.builtin "str.lower") (.str (St x) t :: vs)) Q E s) h1 R (st_low hx (prf e ▸ hQ))
 · subst q
   obtain ⟨h1, e⟩ := zae e
   exact no_as (P := fun vs => wpAny Ω.M A (call (.builtin "str.upper") (.str (St x) t :: vs)) Q E s) h1 R (st_upp hx (prf e ▸ hQ))
 · subst q
   obtain ⟨q1, h1, e⟩ := bd_t e
   obtain ⟨y, h2, e⟩ := bd_t e
   obtain ⟨p, h3, e⟩ := bd_t e
   rw [a2_t h3] at h2
   exact as1_e (P := fun vs => wpAny Ω.M A (call (.builtin "str.split") (.str (St x) t :: vs)) Q E s) h1 R fun v R1 => rvS_e (P := fun v => wpAny Ω.M A (call (.builtin "str.split") [.str (St x) t, v]) Q E s) h2 R1 fun u hy => zq7 H hs hx hy (prf e ▸ hQ)
 · subst q
   obtain ⟨q1, h1, e⟩ := bd_t e
   obtain ⟨l, h2, e⟩ := bd_t e
   obtain ⟨h3, e⟩ := zae e
   obtain ⟨h4, e⟩ := zae e
   exact as1_e (P := fun vs => wpAny Ω.M A (call (.builtin "str.join") (.str (St x) t :: vs)) Q E s) h1 R fun v R1 => zwv H hx h2 h3 h4 R1 (prf e ▸ hQ)
end
end
section

theorem zg4 : PlainAttrs "re.Pattern" :=
 ⟨⟨"object.__getattribute__", by rw [typeLookup_type, builtinLookup_eq_fast]; kernel_rfl, by decide +kernel⟩, by rw [typeLookup_type, builtinLookup_eq_fast]; kernel_rfl⟩
theorem zrq : Manifest.owners.lookup (String.ofList ['n', 'r', 'e', 't', 't', 'a', 'P', '.', 'e', 'r'].reverse) = some Manifest.sig_re_Pattern := by kernel_rfl
theorem zdj : Slot "re.Pattern" "search" "re.Pattern.search" :=
 .of (owner := "re.Pattern") (n := "search") (by rw [typeLookup_type, builtinLookup_eq_fast]; kernel_rfl) (by decide +kernel) (by decide +kernel) (by decide +kernel)
  (by first | exact .inl (by decide +kernel) | exact .inr (by decide +kernel)) (by rw [isSubtype_type]; kernel_rfl)
theorem zf7 : typeOf (.builtin "re.Pattern.search") = pure (.type "method_descriptor") := by show builtinType _ = _; rw [builtinType_eq_fast]; kernel_rfl
theorem zfy : entryFor table "re.Pattern.search" = some Builtin.«re.Pattern.search» := entryFor_of_tree (by kernel_rfl)
theorem zex (a b : Value) : argsOk "re.Pattern.search" ⟨[a, b], []⟩ := by
 unfold argsOk; rw [signature?_of (id := "re.Pattern.search") (n := ['h', 'c', 'r', 'a', 'e', 's']) (o := ['n', 'r', 'e', 't', 't', 'a', 'P', '.', 'e', 'r']) (by kernel_rfl) zrq]; kernel_rfl

end
section
open PySem.Builtin.Re
noncomputable def znd (m : Sre.M) : Prop := m.answer = some false /\ m.frames = [] /\ m.outcome = none
noncomputable def zec (cd : Array Nat) (c : Nat) : Prop := ∀ seen, ∃ seen', Sre.inSet cd c cd.size 5 true seen = .ok (false, seen')
theorem zeb {m : Sre.M} (h : ∀ s, s < m.lim -> zec m.code (m.text.getD s 0)) : ∀ (fuel s : Nat) (seen : Sre.Seen), ∃ seen', Sre.M.admitted m fuel s seen = .ok (none, seen')
 | 0, _, seen => ⟨seen, rfl⟩
 | fuel + 1, s, seen => by
  unfold Sre.M.admitted
  by_cases z : s ≥ m.lim
  · rw [if_pos z]; exact ⟨seen, rfl⟩
  · rw [if_neg z]
    obtain ⟨s1, h1⟩ := h s (Nat.lt_of_not_le z) seen
    rw [h1]
    exact zeb h fuel (s + 1) s1
theorem att_no {m : Sre.M} {first : Bool} {s : Nat} (h1 : Sre.ops[m.code.getD 0 0]? = some .INFO) (h2 : m.code.getD 2 0 = 4) (h : ∀ s, s < m.lim -> zec m.code (m.text.getD s 0)) (hf : m.frames = []) (ho : m.outcome = none) : znd (m.attemptFrom s first) := by
 unfold Sre.M.attemptFrom
 have hh : m.hasFirstSet = true := by
  unfold Sre.M.hasFirstSet
  rw [h1, h2]; rfl
 rw [hh]
 obtain ⟨seen', h3⟩ := zeb h (m.lim + 1 - s) s m.seen
 simp only [Bool.not_true, Bool.false_eq_true, if_false, h3]
 exact ⟨rfl, hf, ho⟩
theorem znb {cd text : Array Nat} {g : Nat} (h1 : Sre.ops[cd.getD 0 0]? = some .INFO) (h2 : cd.getD 2 0 = 4) (h : ∀ s, s < text.size -> zec cd (text.getD s 0)) : znd (Sre.forSearch cd text g 0 text.size false) := by
 unfold Sre.forSearch
 dsimp only
 split
 · exact ⟨rfl, rfl, rfl⟩
 · exact att_no h1 h2 h rfl rfl
section
variable {Ω : Bx} {A : Around} {E : Value -> Shared -> Prop} {s : Shared}
theorem zgz {f : Nat -> Bool} {nm : Nat -> String} : ∀ (l : List Nat) {Q : PUnit -> Shared -> Prop}, Q ⟨⟩ s -> wpAny Ω.M A (forIn l PUnit.unit fun i _ => (do
 if f i = true then rule (nm i)
 pure (ForInStep.yield PUnit.unit) : Sem (ForInStep PUnit))) Q E s
 | [], _, h => wpAny_pure h
 | i :: l, _, h => by
  rw [List.forIn_cons]
  refine wpAny_bind ?_
  cases f i with
  | true => exact wpAny_bind (wpAny_rule (wpAny_pure (zgz l h)))
  | false => exact wpAny_pure (zgz l h)
theorem run_no {m : Sre.M} (h : znd m) {Q : Option Sre.M -> Shared -> Prop} (hQ : Q none s) : wpAny Ω.M A (reRunToEnd m) Q E s := by
 obtain ⟨h1, h2, h3⟩ := h
 have hstep : m.step = { m with outcome := some .failed } := by
  unfold Sre.M.step
  rw [h1, h2, h3]; rfl
 have hrun : m.runFor reTurnSteps = { m with outcome := some .failed } := by
  show Sre.M.runFor (3 + 1) m = _
  unfold Sre.M.runFor
  rw [h3, hstep]
  rfl
 unfold reRunToEnd
 refine wpAny_bind ?_
 have e : (2 ^ 64 : Nat) = 18446744073709551615 + 1 := by decide
 rw [e]
 unfold reDrive
 rw [hrun]
 refine wpAny_pure ?_
 refine wpAny_bind ?_
 refine zgz _ ?_
 exact wpAny_pure hQ

structure PatAt (h : Heap) (a : Addr) (cd : Array Nat) : Prop where
 at_ : ∃ (o : Obj) (fs : Array Value) (t : Addr) (to : Obj) (items : Array Value) (n : Nat), h.get? a = some o /\ o.cls = .type "re.Pattern" /\ o.dict = none /\ o.data = .fields fs /\ reRawNat (fs.getD 6 .none) = 0 /\ fs.getD 5 .none = .ref t /\ h.get? t = some to /\ to.data = .seq items n /\ (items.map reRawOf).map (·.toNat) = cd
theorem zmb {a : Addr} {cd : Array Nat} (P : PatAt s.heap a cd) {Q : Value × List Value -> Shared -> Prop} {pl : Sem Bool} (h : Q (.builtin "re.Pattern.search", [.ref a]) s) : wpAny Ω.M A (getMethod (.ref a) "search" pl) Q E s := by
 obtain ⟨o, fs, t, to, items, n, h1, h2, h3, _⟩ := P.at_
 exact getMethod_builtin ⟨o, h1, h2⟩ zg4 zdj zf7 (fun b e => by cases e; exact ⟨_, h1, h3⟩) h
theorem zna {a : Addr} {cd : Array Nat} (P : PatAt s.heap a cd) (h1 : Sre.ops[cd.getD 0 0]? = some .INFO) (h2 : cd.getD 2 0 = 4) {x : List Nat} (hx : sOk x) (h : ∀ c ∈ x, zec cd c) {t : Tok} {Q : Value -> Shared -> Prop} (hQ : Q .none s) :
 wpAny Ω.M A (call (.builtin "re.Pattern.search") [.ref a, .str (St x) t]) Q E s := by
 obtain ⟨o, fs, tt, to, items, n, g1, g2, g3, g4, g5, g6, g7, g8, g9⟩ := P.at_
 refine wpAny_call_entry zdj ⟨o, g1, g2⟩ zfy ?_ (zex _ _)
 unfold Builtin.«re.Pattern.search»
 refine wpAny_bind ?_
 unfold reTarget
 show wpAny _ _ (do
  let [some string, pos?, lim?] ← (pure [some (.str (St x) t), none, none] : Sem (List (Option Value))) | unsupported "internal:re:named"
  let pos ← match pos? with | some v => reSsize v | none => pure 0
  let lim ← match lim? with | some v => reSsize v | none => pure (2 ^ 63 - 1)
  let fs ← fieldsOf (.ref a)
  let (text, kind) ← reTextOf string
  let want := reRawNat (fs.getD 6 .none)
  if want == 0 && kind == 1 then raiseError "TypeError" "cannot use a string pattern on a bytes-like object"
  if want == 1 && kind == 0 then raiseError "TypeError" "cannot use a bytes pattern on a string-like object"
  reNoCollectionInside string kind
  let clip (i : Int) : Nat := min i.toNat text.size
  pure ({ pattern := .ref a, string, code := (← reRawItems (fs.getD 5 .none)).map (·.toNat), text, kind, groups := reRawNat (fs.getD 2 .none), pos := clip pos, lim := clip lim } : ReTarget)) _ _ s
 refine wpAny_bind (wpAny_pure ?_)
 refine wpAny_bind (wpAny_pure ?_)
 refine wpAny_bind (wpAny_pure ?_)
 refine wpAny_bind (wpAny_fieldsOf g1 g4 ?_)
 refine wpAny_bind (m := reTextOf (.str (St x) t)) (wpAny_of_eq (a := ((St x).cps, 0)) rfl ?_)
 dsimp only
 rw [g5, g6]
 refine wpAny_bind (m := reRawItems (.ref tt)) ?_
 unfold reRawItems
 refine wpAny_bind (wpAny_seqItems g7 g8 (wpAny_pure ?_))
 refine wpAny_pure ?_
 have hsize : (St x).cps.size = x.length := by simp
 have e2 : min ((2 ^ 63 - 1 : Int)).toNat (St x).cps.size = (St x).cps.size := by
  rw [hsize]
  have := hx.2
  exact Nat.min_eq_right (Nat.le_trans this (by decide))
 have e1 : min (0 : Int).toNat (St x).cps.size = 0 := Nat.zero_min _
 show wpAny _ _ (reAnswer _ (Sre.forSearch ((items.map reRawOf).map (·.toNat)) (St x).cps (reRawNat (fs.getD 2 .none)) (min (0 : Int).toNat (St x).cps.size) (min ((2 ^ 63 - 1 : Int)).toNat (St x).cps.size) false)) _ _ _
 rw [e1, e2, g9]
 unfold reAnswer
 refine wpAny_bind (run_no (znb h1 h2 fun k hk => ?_) ?_)
 · refine h _ ?_
   have hk' : k < x.length := by rw [hsize] at hk; exact hk
   have : (St x).cps.getD k 0 = x[k] := by simp [Array.getD, hk']
   rw [this]
   exact List.getElem_mem hk'
 · exact wpAny_pure ⟨_, rfl, hQ⟩

end
end
section

noncomputable def zf8 (K : Frag) (c : Addr) (name : Str) : Bool := match findIn K (.ref c) name with
 | some none => true
 | some (some a) => (match specialIn K a "__get__" with
  | some (some _) => takesIn K a == some false
  | some none => takerIn K c name == some none
  | none => false)
 | none => false
structure KCl (K : Frag) (Ω : Bx) (c : Addr) (t : List (Nat × Nat)) : Prop where
 ga : findIn K (.ref c) "__getattribute__" = some (some (.builtin "object.__getattribute__"))
 gat : findIn K (.ref c) "__getattr__" = some none
 sa : findIn K (.ref c) "__setattr__" = some (some (.builtin "object.__setattr__"))
 over : plainOver K c = true
 hd : hasDictIn K c = true
 own : ∀ x, x < Ω.nms.length -> zf8 K c (nmOf Ω x) = true
 me : ∀ x f, look t x = some f -> findIn K (.ref c) (nmOf Ω x) = some (some (.ref f)) /\ typeIn K (.ref f) = some (.type "function")
theorem zwf {K : Frag} {c : Addr} {name : Str} (h : zf8 K c name = true) : takerIn K c name = some none := by
 unfold zf8 at h
 split at h
 · rename_i q; unfold takerIn; rw [q]; rfl
 · rename_i a q
   split at h
   · unfold takerIn; rw [q, Option.bind_some]; dsimp only; rw [beq_iff_eq.mp h]; rfl
   · exact beq_iff_eq.mp h
   · cases h
 · cases h
theorem ztb {K : Frag} {c : Addr} {name : Str} {es : List DictEntry} {n : Nat} {v : Value} (h : zf8 K c name = true) (hd : hasDictIn K c = true) (hg : getL name es = some (some v)) : findObj K c (some (dictOf es n)) name = some (.value v) := by
 obtain ⟨cd, hc, hdd⟩ := any_some hd
 have own : PySem.W.ownOf cd (some (dictOf es n)) name = some (some v) := by unfold PySem.W.ownOf; rw [if_pos hdd]; exact hg
 unfold findObj
 rw [hc, Option.bind_some]
 unfold zf8 at h
 split at h
 · rename_i q
   rw [q, Option.bind_some]
   dsimp only
   rw [Option.bind_some, Option.bind_some]
   dsimp only
   rw [own]; rfl
 · rename_i a q
   rw [q, Option.bind_some]
   dsimp only
   split at h
   · rename_i g q2
     rw [q2, Option.bind_some]
     dsimp only
     rw [beq_iff_eq.mp h, Option.bind_some]
     dsimp only
     rw [own]; rfl
   · rename_i q2
     rw [q2, Option.bind_some]
     dsimp only
     rw [Option.bind_some]
     dsimp only
     rw [own]; rfl
   · cases h
 · cases h

section
variable {Ω : Bx} {ρ : Rho} {h : Heap}
theorem zhi (a b : Str) (t : Tok) : Value.isStr (.str a t) b = (a == b) := rfl
noncomputable def zvn (ρ : Rho) (h : Heap) (o : Option V) (r : Option (Option Value)) : Prop := byO o (fun v => ∃ u, r = some (some u) /\ VR ρ h v u) (r = some none)
theorem zum {e : DictEntry} {n : Str} {t : Tok} (h : e.key = .str n t) : e.refKey = false := by unfold DictEntry.refKey; rw [h]
theorem DE.noRef {d : List (Nat × V)} : ∀ {es : List DictEntry}, DE Ω ρ h d es -> es.any (·.refKey) = false := by
 induction d with
 | nil => exact fun H => by rw [show _ = [] from H]; rfl
 | cons p d ih =>
  intro es H
  obtain ⟨e, r, q, h1, ⟨t', h2⟩, h3, h4⟩ := H
  rw [q, List.any_cons, ih h4, zum h2]; rfl
theorem getL_at {n : Str} {e : DictEntry} {r : List DictEntry} {t : Tok} (h : e.key = .str n t) : getL n (e :: r) = some (some e.val) := by
 unfold getL
 rw [List.find?_cons, show e.key.isStr n = true by rw [h, zhi]; exact beq_self_eq_true n]
theorem zs6 {n m : Str} {e : DictEntry} {r : List DictEntry} {t : Tok} (h : e.key = .str m t) (hn : (m == n) = false) : getL n (e :: r) = getL n r := by
 unfold getL
 rw [List.find?_cons, show e.key.isStr n = false by rw [h, zhi]; exact hn, List.any_cons, zum h, Bool.false_or]
theorem DE.found (inj : ∀ x y, x < Ω.nms.length -> y < Ω.nms.length -> nmOf Ω x = nmOf Ω y -> x = y) {x : Nat} (hx : x < Ω.nms.length) {d : List (Nat × V)} : ∀ {es : List DictEntry}, DE Ω ρ h d es -> zvn ρ h (look d x) (getL (nmOf Ω x) es) := by
 induction d with
 | nil => exact fun H => by rw [show _ = [] from H]; exact rfl
 | cons p d ih =>
  intro es H
  obtain ⟨e, r, q0, h1, ⟨t, h2⟩, h3, h4⟩ := H
  rw [q0]
  show zvn ρ h (cs (Nat.beq p.1 x) (some p.2) (look d x)) _
  cases q : Nat.beq p.1 x with
  | true =>
   rw [zam q] at h2
   exact ⟨e.val, getL_at h2, h3⟩
  | false =>
   rw [zs6 h2 (beq_eq_false_iff_ne.mpr fun z => zdy q (inj _ _ h1 hx z))]
   exact ih h4
theorem DE.put (inj : ∀ x y, x < Ω.nms.length -> y < Ω.nms.length -> nmOf Ω x = nmOf Ω y -> x = y) {x : Nat} (hx : x < Ω.nms.length) {v : V} {u : Value} (hv : VR ρ h v u) {hs : Int} {t : Tok} {d : List (Nat × V)} : ∀ {es : List DictEntry}, DE Ω ρ h d es ->
 DE Ω ρ h (put d x v) (putL (nmOf Ω x) hs (.str (nmOf Ω x) t) u es) := by
 induction d with
 | nil => exact fun H => by rw [show _ = [] from H]; exact ⟨_, _, rfl, hx, ⟨_, rfl⟩, hv, rfl⟩
 | cons p d ih =>
  intro es H
  obtain ⟨e, r, q0, h1, ⟨t', h2⟩, h3, h4⟩ := H
  rw [q0]
  show DE Ω ρ h (cs (Nat.beq p.1 x) ((x, v) :: d) (p :: Mine.put d x v)) (if e.key.isStr (nmOf Ω x) = true then _ else _)
  rw [h2, zhi]
  cases q : Nat.beq p.1 x with
  | true =>
   rw [zam q, if_pos (beq_self_eq_true _)]
   exact ⟨_, _, rfl, hx, ⟨t', rfl⟩, hv, h4⟩
  | false =>
   rw [if_neg fun z => zdy q (inj _ _ h1 hx (beq_iff_eq.mp z))]
   exact ⟨_, _, rfl, h1, ⟨t', h2⟩, h3, ih h4⟩
theorem DE.len {d : List (Nat × V)} : ∀ {es : List DictEntry}, DE Ω ρ h d es -> es.length = Mine.len d := by
 induction d with
 | nil => exact fun H => by rw [show _ = [] from H]; rfl
 | cons p d ih =>
  intro es H
  obtain ⟨e, r, q, h1, h2, h3, h4⟩ := H
  rw [q]; exact congrArg (· + 1) (ih h4)
theorem zoz (b : Bi) : handedIn b.val = true := by cases b <;> decide +kernel
theorem zoy {v : V} {u : Value} (H : VR ρ h v u) : handedIn u = true := by
 cases v with
 | none => rw [show u = .none from H]; rfl
 | bool b => rw [show u = .bool b from H]; rfl
 | int i => exact H.elim fun t q => q ▸ rfl
 | str s => exact H.1.elim fun t q => q ▸ rfl
 | tup xs => exact H.elim fun a H => H.elim fun vs H => H.elim fun n H => H.1 ▸ rfl
 | ref n => exact H.elim fun a H => H.elim fun r H => H.2 ▸ rfl
 | top a => rw [show u = .ref a from H]; rfl
 | bi b => rw [show u = b.val from H]; exact zoz b
 | rng a b c => exact H.elim fun x H => H.elim fun t H => H.elim fun v H => H.elim fun w H => H.1 ▸ rfl
end

section
variable {Ω : Bx} {K : Frag} {c : Addr} {t : List (Nat × Nat)} {ρ : Rho} {hp : Hp} {s : Shared} {A : Around} {d : List (Nat × V)} {x n : Nat}
theorem zk7 {h : Heap} {a b : Addr} {es : List DictEntry} {m : Nat} (h1 : h.get? a = some (instObj c b)) (h2 : h.get? b = some (dictOf es m)) : InstAt h a (instObj c b) c (some (dictOf es m)) := ⟨h1, rfl, rfl, h2⟩
theorem zjw {a : Addr} {r : List Addr} (H : HS Ω ρ hp s) (hn : nth hp n = some (.inst c d)) (ha : nth ρ n = some (a :: r)) : ∃ b es m, r = [b] /\ s.heap.get? a = some (instObj c b) /\ s.heap.get? b = some (dictOf es m) /\ DE Ω ρ s.heap d es := by
 obtain ⟨a', b, es, m, he, ho, hb, hd, _⟩ := H.obj _ _ _ hn ha
 obtain ⟨h1, h2⟩ := List.cons.inj he
 exact ⟨b, es, m, h2, h1 ▸ ho, hb, hd⟩
theorem zs0 {E Q : Value -> Shared -> Prop} {v : V} {a : Addr} {r : List Addr} (inj : ∀ x y, x < Ω.nms.length -> y < Ω.nms.length -> nmOf Ω x = nmOf Ω y -> x = y) (X : K.In s.heap) (Y : KCl K Ω c t) (hx : x < Ω.nms.length) (H : HS Ω ρ hp s) (hn : nth hp n = some (.inst c d)) (ha : nth ρ n = some (a :: r))
 (hl : look d x = some v) (hQ : ∀ u t, VR ρ s.heap v u -> Q u { s with toks := t }) : wpAny Ω.M A (getAttr (.ref a) (nmOf Ω x) true) Q E s := by
 obtain ⟨b, es, m, _, ho, hb, hd⟩ := zjw H hn ha
 have hf := DE.found inj hx hd
 rw [hl] at hf
 obtain ⟨u, hu, hv⟩ := hf
 exact get_value X (zk7 ho hb) Y.ga (ztb (Y.own x hx) Y.hd hu) (zoy hv) (hQ u _ hv)
theorem zjv {Q : Value × List Value -> Shared -> Prop} {E : Value -> Shared -> Prop} {f : Addr} {a : Addr} {r : List Addr} {pl : Sem Bool} (inj : ∀ x y, x < Ω.nms.length -> y < Ω.nms.length -> nmOf Ω x = nmOf Ω y -> x = y) (X : K.In s.heap) (Y : KCl K Ω c t) (hx : x < Ω.nms.length) (H : HS Ω ρ hp s) (hn : nth hp n = some (.inst c d)) (ha : nth ρ n = some (a :: r))
 (hl : look d x = none) (hf : look t x = some f) (hQ : Q (.ref f, [.ref a]) s) : wpAny Ω.M A (getMethod (.ref a) (nmOf Ω x) pl) Q E s := by
 obtain ⟨b, es, m, _, ho, hb, hd⟩ := zjw H hn ha
 have hg := DE.found inj hx hd
 rw [hl] at hg
 exact method_fn X (zk7 ho hb) Y.ga Y.gat (Y.me x f hf).1 (Y.me x f hf).2 (congrArg (Option.map _) (show getL (nmOf Ω x) es = some none from hg)) hQ
theorem zrr {R : Result -> Shared -> Prop} {u : Value} {a b : Addr} {es : List DictEntry} {m : Nat} {tk : Tok} {name : Str} (X : K.In s.heap) (Y : KCl K Ω c t) (ho : s.heap.get? a = some (instObj c b)) (hb : s.heap.get? b = some (dictOf es m))
 (hown : zf8 K c name = true) (hr : es.any (·.refKey) = false) (hz : (putL name (PyData.keyHash Ω.w.params name) (.str name s.toks) u es).length ≤ 1000)
 (h : ∀ h', Heap.SameBut b s.heap h' -> h'.get? b = some (dictOf (putL name (PyData.keyHash Ω.w.params name) (.str name s.toks) u es) (putN name es m)) -> R (.ok (.ret .none)) { s with heap := h', toks := s.toks + 1 }) :
 codeAny Ω.M A (.call (.builtin "object.__setattr__") ⟨[.ref a, .str name tk, u], []⟩) R s := by
 refine osa_open X (zk7 ho hb) Y.over (zwf hown) fun bb => ?_
 obtain ⟨cd, hc, hdd⟩ := any_some Y.hd
 refine wpAny_bind (wpAny_pure (wpAny_bind (wpAny_bind (wpAny_loadPart ho (wpAny_bind ((looks_clsIn X hc).here ?_))))))
 rw [hdd]
 refine wpAny_pure (a := some b) (wpAny_bind (wpAny_pure (wpAny_bind ?_)))
 unfold nsSet
 refine wpAny_bind (wpAny_bind (wpAny_askSetting (wpAny_pure (wpAny_bind (wpAny_mkText (wpAny_bind (wpAny_loadPart hb ?_)))))))
 dsimp only
 have cc : (!es.toArray.any (·.key.isStr name) && es.toArray.any (·.refKey)) = false := by
  rw [← Array.any_toList, ← Array.any_toList]
  show (_ && es.any (·.refKey)) = false
  rw [hr, Bool.and_false]
 rw [aRefKeyMayBeTheName_at, cc]
 refine wpAny_updatePart hb ?_
 have hfin : (s.heap.update b (Obj.putName name (PyData.keyHash Ω.w.params name) (.str name s.toks) u)).get? b = some (dictOf (putL name (PyData.keyHash Ω.w.params name) (.str name s.toks) u es) (putN name es m)) := by
  rw [Heap.get?_update_self _ hb (by rw [putName_dict]; rfl), putName_dict]
 refine wpAny_bind (wpAny_lookBehind hfin (pastItsLine_dict (by rw [List.size_toArray, sizeLine_eq]; omega)) ?_)
 exact wpAny_pure (h _ (Heap.SameBut.update ..) hfin)
theorem zsy {Q : Unit -> Shared -> Prop} {E : Value -> Shared -> Prop} {v : V} {u : Value} {a : Addr} {r : List Addr} (inj : ∀ x y, x < Ω.nms.length -> y < Ω.nms.length -> nmOf Ω x = nmOf Ω y -> x = y) (X : K.In s.heap) (Y : KCl K Ω c t) (hx : x < Ω.nms.length) (H : HS Ω ρ hp s) (hn : nth hp n = some (.inst c d)) (ha : nth ρ n = some (a :: r))
 (hlen : len (put d x v) ≤ 100) (hv : VR ρ s.heap v u) (hQ : ∀ s', HS Ω ρ (upd hp n (.inst c (put d x v))) s' -> Go [] ρ s ρ s' -> Q () s') : wpAny Ω.M A (setAttr (.ref a) (nmOf Ω x) u) Q E s := by
 obtain ⟨b, es, m, e, ho, hb, hd⟩ := zjw H hn ha
 rw [e] at ha
 have hni : ¬ Imm (dictOf es m) := by simp [Imm]
 have hne : a ≠ b := fun z => nomatch (congrArg Obj.data (prf (ho.symm.trans (z ▸ hb))) : (instObj c b).data = (dictOf es m).data)
 have D1 : DE Ω ρ s.heap (put d x v) (putL (nmOf Ω x) (PyData.keyHash Ω.w.params (nmOf Ω x)) (.str (nmOf Ω x) (s.toks + 1)) u es) := DE.put inj hx hv hd
 refine set_plain X (zk7 ho hb) Y.sa (zrr (s := { s with toks := s.toks + 1 }) X Y ho hb (Y.own x hx) (DE.noRef hd) (D1.len ▸ Nat.le_trans hlen (by decide)) fun h' hs hfin => ?_)
 exact hQ { s with heap := h', toks := s.toks + 1 + 1 } (H.set ha (x := b) (.tail _ (.head _)) (fun y ob hy e => (hs.2 y hy).trans e) ⟨a, b, _, _, rfl, (hs.2 a hne).trans ho, hfin, D1.mono (Ext.refl ρ) (zf2 hs hb hni), hlen⟩ H.gens) (H.goSet ha (x := b) (.tail _ (.head _)) hs [] ⟨_, hfin⟩)
end
end
section

noncomputable def tabD (t : List (Int × List Nat)) : List (PyData × PyData) := t.map fun p => (.int p.1, .str (St p.2))
structure TB (Ω : Bx) (K : Frag) (cx : Cx) : Prop where
 X : K.In Ω.h₀
 lim : Ω.h₀.NoLimit
 nm : NM Ω
 inj : ∀ x y, x < Ω.nms.length -> y < Ω.nms.length -> nmOf Ω x = nmOf Ω y -> x = y
 dbg : ∀ x, x < Ω.nms.length -> (nmOf Ω x == ("__debug__" : Str)) = false /\ (nmOf Ω x == ("__classdict__" : Str)) = false
 top : ∃ mg mb, Ω.h₀.Ns mainGlobals mg /\ Ω.h₀.Ns builtinsNs mb /\ ∀ x : Str, x ≠ "__name__" -> mb x = bootBuiltins x
 glo : ∀ x v, look cx.glo x = some v -> x < Ω.nms.length /\ ((∃ a, v = .top a /\ nsIn K mainGlobals (nmOf Ω x) = some (some (.ref a))) ∨
  (∃ b, v = .bi b /\ nsIn K mainGlobals (nmOf Ω x) = some none /\ bootBuiltins (nmOf Ω x) = some b.val /\ nmOf Ω x ≠ "__name__"))
 cls : ∀ c t, look cx.meth c = some t -> KCl K Ω c t
 catt : ∀ c t, look cx.cattr c = some t -> ∃ mc, readsIn K c mc = true /\ ∀ x v, look t x = some v -> ∃ u, findCls K (.ref c) mc (nmOf Ω x) = some (.val u) /\ handedIn u = true /\ ∀ ρ h, VR ρ h v u
 pat : ∀ a p, look cx.pat a = some p -> ∃ cd, PatAt Ω.h₀ a cd /\ Sre.ops[cd.getD 0 0]? = some .INFO /\ cd.getD 2 0 = 4 /\ ∀ c, p c = true -> zec cd c
 dct : ∀ a t, look cx.dct a = some t -> IntTab Ω.prog Ω.w Ω.h₀ a (tabD t) /\ ∀ p ∈ t, sOk p.2
 nset : ∀ c t, look cx.meth c = some t -> look t cx.nSet = none
 frz : ∀ a xs, look cx.frz a = some xs -> zt2 Ω a xs
noncomputable abbrev zt1 (Ω : Bx) (cx : Cx) (Rm : Around -> Prop) (f : Addr) : Prop :=
 ∀ {ρ₀ ρ : Rho} {hp hp' : Hp} {s₀ s : Shared} {A : Around} {E Q : Value -> Shared -> Prop} {r : RV} {as : List RV} {ks : List (Nat × RV)} {vs kvs : List Value}, Rm A -> HS Ω ρ hp s -> Go [] ρ₀ s₀ ρ s -> (∀ a, s₀.heap.get? a = none -> Ω.h₀.get? a = none) ->
  (∀ p ∈ ks, p.1 < Ω.nms.length) -> cx.S f as ks hp = some (r, hp') -> RVRc Ω ρ s s₀ (as ++ ks.map (·.2)) (vs ++ kvs) -> vs.length = as.length -> Post Ω ρ₀ s₀ r hp' Q ->
  zbb Ω.M s.heap (.ref f) /\ wpAny Ω.M A (call (.ref f) vs ((ks.map fun p => nmOf Ω p.1).zip kvs)) Q E s
theorem zjt (M : Model) (h : Heap) (b : Bi) : zbb M h b.val := by
 cases b <;> exact ⟨.machine, .inr (.inl rfl), Looks.of_pure rfl⟩
theorem znw {h h' : Heap} {a : Addr} {cd : Array Nat} (P : PatAt h a cd) (k : ∀ b o, h.get? b = some o -> h'.get? b = some o) : PatAt h' a cd := by
 obtain ⟨o, fs, t, to, items, n, h1, h2, h3, h4, h5, h6, h7, h8⟩ := P.at_
 exact ⟨o, fs, t, to, items, n, k _ _ h1, h2, h3, h4, h5, h6, k _ _ h7, h8⟩
theorem zjq {i : Int} {t : List (Int × List Nat)} : PySem.Spec.lookup (.int i) (tabD t) = (zfo t i).map fun x => PyData.str (St x) := by
 induction t with
 | nil => rfl
 | cons p r ih =>
  show (if PySem.Spec.same (.int p.1) (.int i) = true then some (PyData.str (St p.2)) else PySem.Spec.lookup (.int i) (tabD r)) = Option.map _ (cs (Z.eqB p.1 i) (some p.2) (zfo r i))
  rw [PyProof.V.same_int]
  cases q : Z.eqB p.1 i with
  | true => rw [if_pos (decide_eq_true ((Z.eqB_iff _ _).mp q))]; rfl
  | false => rw [if_neg (fun z => by rw [(Z.eqB_iff _ _).mpr (of_decide_eq_true z)] at q; exact ff q.symm)]; exact ih
theorem okc_all {p : Nat -> Bool} {l : List Nat} (h : okc p l = true) : ∀ c ∈ l, p c = true := by
 induction l with
 | nil => exact nofun
 | cons b l ih =>
  have h : and2 (p b) (okc p l) = true := h
  exact fun c hc => (List.mem_cons.mp hc).elim (fun q => q ▸ (zab h).1) (ih (zab h).2 c)
theorem zsd {i : Int} {z : List Nat} {t : List (Int × List Nat)} (h1 : ∀ p ∈ t, sOk p.2) (h2 : zfo t i = some z) : sOk z := by
 induction t with
 | nil => exact nn h2
 | cons p t ih =>
  have h2 : cs (Z.eqB p.1 i) (some p.2) (zfo t i) = some z := h2
  cases q : Z.eqB p.1 i with
  | true => rw [q] at h2; exact prf h2 ▸ h1 p (.head _)
  | false => rw [q] at h2; exact ih (fun q hq => h1 q (.tail _ hq)) h2

section
variable {Ω : Bx} {cx : Cx} {Rm : Around -> Prop} {K : Frag} {ρ ρ₀ : Rho} {hp : Hp} {s₀ s : Shared} {A : Around} {E Q : Value -> Shared -> Prop}
theorem TB.in (T : TB Ω K cx) (H : HS Ω ρ hp s) : K.In s.heap := fun a o q => H.base a o (T.X a o q)
theorem tb_glo (T : TB Ω K cx) (x : Nat) (v : V) (hl : look cx.glo x = some v) : x < Ω.nms.length /\ ∃ v', (∀ ρ h, VR ρ h v v') /\ ∀ {A : Around} {E Q : Value -> Shared -> Prop} {env : Env} {s : Shared}, env.globals = mainGlobals -> env.builtins = builtinsNs -> (∀ b o, Ω.h₀.get? b = some o -> s.heap.get? b = some o) ->
 Q v' s -> wpAny Ω.M A (loadGlobal env (nmOf Ω x)) Q E s := by
 obtain ⟨hx, h⟩ := T.glo x v hl
 obtain ⟨mg, mb, hg, hb, hbb⟩ := T.top
 rcases h with ⟨a, q, h1⟩ | ⟨b, q, h1, h2, h3⟩
 · rw [q]
   exact ⟨hx, .ref a, fun ρ h => rfl, fun e1 e2 k q => loadGlobal_global (e1 ▸ hg.keeps k) (mg_of T.X hg h1) q⟩
 · rw [q]
   exact ⟨hx, b.val, fun ρ h => rfl, fun e1 e2 k q => loadGlobal_builtin (e1 ▸ hg.keeps k) (mg_none_of T.X hg h1) (e2 ▸ hb.keeps k) ((hbb _ h3).trans h2) q⟩
theorem tb_att (T : TB Ω K cx) {r q : RV} {v : Value} {x : Nat} (hx : x < Ω.nms.length) (ha : ztx cx r x hp = some q) (H : HS Ω ρ hp s) (R : RVR Ω ρ s₀ s r v) (hQ : ∀ u t, RVR Ω ρ s₀ s q u -> Q u { s with toks := t }) : wpAny Ω.M A (getAttr v (nmOf Ω x) true) Q E s := by
 obtain ⟨y, h1, ha⟩ := bd_t ha
 have R := rvV h1 R
 cases y with
 | ref n =>
  obtain ⟨cd, h2, ha⟩ := bd_t ha
  obtain ⟨t, h3, ha⟩ := bd_t ha
  obtain ⟨u, h4, ha⟩ := bd_t ha
  obtain ⟨a, r, hr, e⟩ := R
  rw [e]
  exact zs0 T.inj (T.in H) (T.cls cd.1 t h3) hx H (zk8 h2) hr h4 fun u' t' hv => hQ u' t' (prf ha ▸ hv)
 | top c =>
  obtain ⟨t, h3, ha⟩ := bd_t ha
  obtain ⟨u, h4, ha⟩ := bd_t ha
  rw [show v = .ref c from R]
  obtain ⟨mc, g1, g2⟩ := T.catt c t h3
  obtain ⟨u', g3, g4, g5⟩ := g2 x u h4
  exact cls_value (T.in H) g1 g3 g4 (hQ u' _ (prf ha ▸ g5 _ _))
 | _ => exact nn ha
theorem zg8 {as : List RV} {ks : List (Nat × RV)} {vs kvs : List Value} (h : emp ks = true) (Rs : RVRc Ω ρ s s₀ (as ++ ks.map (·.2)) (vs ++ kvs)) (hl : vs.length = as.length) {G : List (Nat × RV) -> List Value -> Prop} (k : RVRs Ω ρ s₀ s as vs -> G [] []) : G ks kvs := by
 rw [ztf h] at Rs ⊢
 have e := Rs.len
 rw [List.length_append, List.length_append, hl] at e
 rw [List.length_eq_zero_iff.mp (Nat.add_left_cancel e)] at Rs ⊢
 have R2 := Rs.toRs
 rw [List.append_nil, List.map_nil, List.append_nil] at R2
 exact k R2
theorem kq_P {r : RV} (H : HS Ω ρ hp s) (G : Go [] ρ₀ s₀ ρ s) (hQ : Post Ω ρ₀ s₀ r hp Q) : Kq Ω ρ s₀ s r Q := fun v h' t k R => hQ ρ _ v (H.heap k) (zfv G k) R
theorem znf {o : Option RV} {r : RV} {hp' : Hp} (h : same hp o = some (r, hp')) : o = some r /\ hp = hp' := by
 obtain ⟨x, h1, h⟩ := bd_t h
 have q := Prod.mk.inj (prf h)
 exact ⟨h1.trans (congrArg some q.1), q.2⟩
theorem tb_cal (T : TB Ω K cx) (rm : ∀ A, Rm A -> A.handled = none /\ A.units + 70 < cLine) (sum : ∀ f, zt1 Ω cx Rm f) {hp' : Hp} {g r : RV} {vg : Value} {as : List RV} {ks : List (Nat × RV)} {vs kvs : List Value} (hA : Rm A) (H : HS Ω ρ hp s) (G : Go [] ρ₀ s₀ ρ s) (hb : ∀ a, s₀.heap.get? a = none -> Ω.h₀.get? a = none)
 (hk : ∀ p ∈ ks, p.1 < Ω.nms.length) (e : zpu cx g as ks hp = some (r, hp')) (R : RVR Ω ρ s₀ s g vg) (Rs : RVRc Ω ρ s s₀ (as ++ ks.map (·.2)) (vs ++ kvs)) (hl : vs.length = as.length) (hQ : Post Ω ρ₀ s₀ r hp' Q) :
 zbb Ω.M s.heap vg /\ wpAny Ω.M A (call vg vs ((ks.map fun p => nmOf Ω p.1).zip kvs)) Q E s := by
 obtain ⟨y, h1, e⟩ := bd_t e
 have R := rvV h1 R
 cases y with
 | top f => rw [show vg = .ref f from R]; exact sum f hA H G hb hk e Rs hl hQ
 | bi b =>
  obtain ⟨h2, e⟩ := zae e
  obtain ⟨h3, h4⟩ := znf e
  rw [show vg = b.val from R]
  exact zg8 (G := fun ks kvs => zbb Ω.M s.heap b.val /\ wpAny Ω.M A (call b.val vs ((ks.map fun p => nmOf Ω p.1).zip kvs)) Q E s) h2 Rs hl fun R2 => ⟨zjt _ _ b, bic_ok H (rm A hA).1 h3 R2 (kq_P H G (h4 ▸ hQ))⟩
 | _ => exact nn e
noncomputable abbrev MethR (Ω : Bx) (ρ : Rho) (s : Shared) (k : MK) (x : Nat) (v : Value) : Prop := ∃ f first, MR ρ s.heap k x f first /\ ∀ {A : Around} {E : Value -> Shared -> Prop} {Q : Value × List Value -> Shared -> Prop} {pl : Sem Bool}, Q (f, first) s -> wpAny Ω.M A (getMethod v (nmOf Ω x) pl) Q E s
theorem tb_mO (T : TB Ω K cx) {x n : Nat} {k : MK} {o : O} {a : Addr} {e : List Addr} (hx : x < Ω.nms.length) (hm : mkO cx n x o = some k) (H : HS Ω ρ hp s) (hn : nth hp n = some o) (hr : nth ρ n = some (a :: e)) : MethR Ω ρ s k x (.ref a) := by
 cases o with
 | inst c d =>
  obtain ⟨h1, hm⟩ := zae hm
  obtain ⟨t, h2, hm⟩ := bd_t hm
  obtain ⟨f, h3, hm⟩ := bd_t hm
  rw [← prf hm]
  exact ⟨.ref f, [.ref a], ⟨rfl, _, rfl, a, e, hr, rfl⟩, fun q => zjv T.inj (T.in H) (T.cls c t h2) hx H hn hr (zjm h1) h3 q⟩
 | list xs =>
  obtain ⟨h1, hm⟩ := zae hm
  rw [← prf hm, zam h1]
  obtain ⟨a', vs, m, he, h2, _⟩ := H.obj _ _ _ hn hr
  obtain ⟨e1, e2⟩ := List.cons.inj he
  rw [e2] at hr
  rw [← e1] at h2
  exact ⟨.builtin "list.append", [.ref a], ⟨rfl, a, hr, rfl⟩, fun q => by rw [T.nm.n0]; exact zmc h2 q⟩
 | dict es => exact (H.obj _ _ _ hn hr).elim
theorem zmx {x : Nat} (h1 : Nat.ble 3 x = true) (h2 : Nat.ble x 6 = true) : x = 3 ∨ x = 4 ∨ x = 5 ∨ x = 6 := match x, h1, h2 with
 | 0, h, _ => ff h | 1, h, _ => ff h | 2, h, _ => ff h | 3, _, _ => .inl rfl | 4, _, _ => .inr (.inl rfl) | 5, _, _ => .inr (.inr (.inl rfl)) | 6, _, _ => .inr (.inr (.inr rfl)) | _ + 7, _, h => ff h
theorem zwe (T : TB Ω K cx) {r : RV} {v : Value} {x : Nat} {k : MK} (hx : x < Ω.nms.length) (hm : zl1 cx r x hp = some k) (H : HS Ω ρ hp s) (R : RVR Ω ρ s₀ s r v) : MethR Ω ρ s k x v := by
 obtain ⟨y, h1, hm⟩ := bd_t hm
 have R := rvV h1 R
 cases y with
 | ref n =>
  obtain ⟨o, h2, hm⟩ := bd_t hm
  obtain ⟨a, e, hr, q⟩ := R
  rw [q]
  exact tb_mO T hx hm H h2 hr
 | str z =>
  obtain ⟨h2, hm⟩ := zae hm
  obtain ⟨h3, hm⟩ := zae hm
  obtain ⟨⟨t, q⟩, hz⟩ := R
  rw [q, ← prf hm]
  exact ⟨.builtin (zln x), [.str (St z) t], ⟨rfl, hz, t, rfl⟩, fun q => get_str T.nm (zmx h2 h3) q⟩
 | top a =>
  rw [show v = .ref a from R]
  rcases zcs hm with hm | hm
  · obtain ⟨h2, hm⟩ := zae hm
    obtain ⟨p, h3, hm⟩ := bd_t hm
    obtain ⟨cd, P, _⟩ := T.pat a p h3
    rw [← prf hm, zam h2]
    exact ⟨.builtin "re.Pattern.search", [.ref a], ⟨rfl, rfl⟩, fun q => by rw [T.nm.n8]; exact zmb (znw P H.base) q⟩
  · obtain ⟨h2, hm⟩ := zae hm
    obtain ⟨t, h3, hm⟩ := bd_t hm
    rw [← prf hm, zam h2]
    exact ⟨.builtin "dict.get", [.ref a], ⟨rfl, rfl⟩, fun q => by rw [T.nm.n9]; exact getMethod_intTab_get ((T.dct a t h3).1.keep H.base) q⟩
 | _ => exact nn hm
theorem top_ok (T : TB Ω K cx) {a x : Nat} {as : List RV} {r : RV} {vs : List Value} (e : mTop cx a x as = some r) (H : HS Ω ρ hp s) (R : RVRs Ω ρ s₀ s as vs) (hQ : Kq Ω ρ s₀ s r Q) : wpAny Ω.M A (call (.builtin (zqm x)) (.ref a :: vs)) Q E s := by
 rcases zcs e with e | e
 · obtain ⟨h1, e⟩ := zae e
   obtain ⟨q, h2, e⟩ := bd_t e
   obtain ⟨z, h3, e⟩ := bd_t e
   obtain ⟨p, h4, e⟩ := bd_t e
   obtain ⟨h5, e⟩ := zae e
   rw [← prf e] at hQ
   rw [zam h1]
   obtain ⟨cd, P, o1, o2, o3⟩ := T.pat a p h4
   exact as1_e (P := fun vs => wpAny Ω.M A (call (.builtin "re.Pattern.search") (.ref a :: vs)) Q E s) h2 R fun v R1 => rvS_e (P := fun v => wpAny Ω.M A (call (.builtin "re.Pattern.search") [.ref a, v]) Q E s) h3 R1 fun t hz => zna (znw P H.base) o1 o2 hz (fun c hc => o3 c (okc_all h5 c hc)) (Kq.here hQ rfl)
 · obtain ⟨h1, e⟩ := zae e
   obtain ⟨q, h2, e⟩ := bd_t e
   obtain ⟨i, h3, e⟩ := bd_t e
   obtain ⟨dd, h4, e⟩ := bd_t e
   obtain ⟨t, h5, e⟩ := bd_t e
   rw [← prf e] at hQ
   rw [zam h1]
   obtain ⟨D, hD⟩ := T.dct a t h5
   refine as2_e (P := fun vs => wpAny Ω.M A (call (.builtin "dict.get") (.ref a :: vs)) Q E s) h2 R fun v u R1 R2 => rvI_e (P := fun v => wpAny Ω.M A (call (.builtin "dict.get") [.ref a, v, u]) Q E s) h3 R1 fun t1 => rvS_e (P := fun u => wpAny Ω.M A (call (.builtin "dict.get") [.ref a, .int i t1, u]) Q E s) h4 R2 fun t2 hd => ?_
   refine call_get2_intTab (D.keep H.base) (PyProof.V.Flat.str _ _) fun v hv => ?_
   rw [zjq] at hv
   cases hz : zfo t i with
   | some z =>
    rw [hz] at hv hQ
    obtain ⟨t3, q⟩ := PyProof.V.Flat.str_inv hv
    exact q ▸ zd8 (zsd hD hz) hQ _ _
   | none =>
    rw [hz] at hv hQ
    obtain ⟨t3, q⟩ := PyProof.V.Flat.str_inv hv
    exact q ▸ zd8 hd hQ _ _
theorem zqo (T : TB Ω K cx) (sum : ∀ f, zt1 Ω cx Rm f) {hp' : Hp} {k : MK} {x : Nat} {r : RV} {f : Value} {first : List Value} {as : List RV} {ks : List (Nat × RV)} {vs kvs : List Value} (hA : Rm A) (H : HS Ω ρ hp s) (G : Go [] ρ₀ s₀ ρ s) (hb : ∀ a, s₀.heap.get? a = none -> Ω.h₀.get? a = none)
 (hk : ∀ p ∈ ks, p.1 < Ω.nms.length) (e : mapp cx k x as ks hp = some (r, hp')) (M : MR ρ s.heap k x f first) (Rs : RVRc Ω ρ s s₀ (as ++ ks.map (·.2)) (vs ++ kvs)) (hl : vs.length = as.length) (hQ : Post Ω ρ₀ s₀ r hp' Q) :
 zbb Ω.M s.heap f /\ wpAny Ω.M A (call f (first ++ vs) ((ks.map fun p => nmOf Ω p.1).zip kvs)) Q E s := by
 cases k with
 | fn g self =>
  obtain ⟨q, v, q1, hv⟩ := M
  rw [q, q1]
  exact sum g hA H G hb hk e (as := .v self :: as) (vs := v :: vs) ⟨v, _, s₀, rfl, hv, Lt.refl _, goLt G, (fun xs q => nomatch q), Rs⟩ (congrArg (· + 1) hl) hQ
 | dict n => exact M.elim
 | lst n =>
  obtain ⟨q, a, ha, q1⟩ := M
  rw [q, q1]
  obtain ⟨h1, e⟩ := zae e
  obtain ⟨xs, h2, e⟩ := bd_t e
  obtain ⟨h3, e⟩ := zae e
  obtain ⟨y, h4, e⟩ := bd_t e
  obtain ⟨h5, e⟩ := zae e
  obtain ⟨p, h6, e⟩ := bd_t e
  have q := Prod.mk.inj (prf e)
  rw [zam h3]
  exact zg8 (G := fun ks kvs => zbb Ω.M s.heap (.builtin "list.append") /\ wpAny Ω.M A (call (.builtin "list.append") (.ref a :: vs) ((ks.map fun p => nmOf Ω p.1).zip kvs)) Q E s) h1 Rs hl fun R2 =>
   as1_e (P := fun vs => zbb Ω.M s.heap (.builtin "list.append") /\ wpAny Ω.M A (call (.builtin "list.append") (.ref a :: vs)) Q E s) h4 R2 fun u R1 => ⟨zc7 _ _ _, zp4 H G hb h2 ha h5 h6 R1 (by rw [q.1, q.2]; exact hQ)⟩
 | str z =>
  obtain ⟨q, hz, t, q1⟩ := M
  rw [q, q1]
  obtain ⟨h1, e⟩ := zae e
  obtain ⟨h3, h4⟩ := znf e
  exact zg8 (G := fun ks kvs => zbb Ω.M s.heap (.builtin (zln x)) /\ wpAny Ω.M A (call (.builtin (zln x)) (.str (St z) t :: vs) ((ks.map fun p => nmOf Ω p.1).zip kvs)) Q E s) h1 Rs hl fun R2 => ⟨zc7 _ _ _, zrc H (goLt G).n hz h3 R2 (kq_P H G (h4 ▸ hQ))⟩
 | top a =>
  obtain ⟨q, q1⟩ := M
  rw [q, q1]
  obtain ⟨h1, e⟩ := zae e
  obtain ⟨h3, h4⟩ := znf e
  exact zg8 (G := fun ks kvs => zbb Ω.M s.heap (.builtin (zqm x)) /\ wpAny Ω.M A (call (.builtin (zqm x)) (.ref a :: vs) ((ks.map fun p => nmOf Ω p.1).zip kvs)) Q E s) h1 Rs hl fun R2 => ⟨zc7 _ _ _, top_ok T h3 H R2 (kq_P H G (h4 ▸ hQ))⟩
theorem mkCT (T : TB Ω K cx) (rm : ∀ A, Rm A -> A.handled = none /\ A.units + 70 < cLine) (wk : Wk0 Ω Rm) (sum : ∀ f, zt1 Ω cx Rm f) : CT Ω cx Rm :=
 ⟨rm, wk, T.frz, T.inj, T.dbg, fun x v => tb_glo T x v, fun hx ha H R => tb_att T hx ha H R, fun hA H G hb hk e R Rs hl hQ => tb_cal T rm sum hA H G hb hk e R Rs hl hQ,
  fun hA hx hn ht hr hl H hv hQ => zsy T.inj (T.in H) (T.cls _ _ ht) hx H hn hr hl hv hQ, fun hA hn ht hf => nn ((T.nset _ _ ht).symm.trans hf), fun hx hm H R => zwe T hx hm H R,
  fun hA H G hb hk e M Rs hl hQ => zqo T sum hA H G hb hk e M Rs hl hQ⟩
end
end
section

structure Fn where
 ps : List Nat
 kn : List Nat
 dv : List V
 b : List FS
 sc : List (Nat × Nat)
noncomputable def fnX (fn : Fn) (cx : Cx) (xs : List V) (hp : Hp) : Option (RV × Hp) := ifb (Nat.beq (len (xs ++ fn.dv)) (len fn.ps)) (body cx fn.b (fn.ps.zip (xs ++ fn.dv)) hp)
noncomputable def zhf : List (Nat × RV) -> List Nat
 | [] => []
 | p :: r => p.1 :: zhf r
noncomputable def zhy : List (Nat × RV) -> List RV
 | [] => []
 | p :: r => p.2 :: zhy r
noncomputable def fnS (fn : Fn) (cx : Cx) (as : List RV) (ks : List (Nat × RV)) (hp : Hp) : Option (RV × Hp) := ifb (leq (zhf ks) fn.kn) (bd (zcq (as ++ zhy ks) hp) fun x => fnX fn cx x.1 x.2)
noncomputable def clsS (Cl : Nat) (fn : Fn) (cx : Cx) (as : List RV) (ks : List (Nat × RV)) (hp : Hp) : Option (RV × Hp) := ifb (leq (zhf ks) fn.kn) (bd (zcq (as ++ zhy ks) hp) fun x =>
 bd (fnX fn cx (.ref (len x.2) :: x.1) (x.2 ++ [.inst Cl []])) fun w => ifb (rN w.1) (some (.v (.ref (len x.2)), w.2)))
structure FnOk (K : Frag) (Ω : Bx) (fn : Fn) (f : Addr) : Prop where
 ex : ∃ (oc : Value) (od : Option Addr) (osl : Array (Option Value)) (name qual : Str) (mr : List (Str × Const)) (params : Arguments) (dV kV doc pm cdv ct : Value) (an : Option Addr) (dus : List Value),
  K.lookup f = some ⟨oc, od, .func (fnOf name qual params (tSs (nmOf Ω) fn.b) (scM (nmOf Ω) fn.sc mr) dV kV doc pm an cdv ct), osl⟩ /\ codeIn K cdv qual = true /\ (∀ ρ h, VRs ρ h fn.dv dus) ∧
  ∀ (s : Shared) (us kus : List Value), K.In s.heap -> us.length + kus.length + fn.dv.length = fn.ps.length -> kus.length = fn.kn.length ->
   BindsTo s (fnOf name qual params (tSs (nmOf Ω) fn.b) (scM (nmOf Ω) fn.sc mr) dV kV doc pm an cdv ct) ⟨us, (fn.kn.map (nmOf Ω)).zip kus⟩ ((fn.ps.map (nmOf Ω)).zip (us ++ kus ++ dus))
 P : Pars Ω fn.sc fn.ps
 w : wSs Ω.nms.length fn.sc fn.b = true
 keep : keepIn K (.ref f) = true

theorem zon (ks : List (Nat × RV)) : zhf ks = ks.map (·.1) := by
 induction ks with
 | nil => rfl
 | cons p r ih => exact congrArg (p.1 :: ·) ih
theorem zmo (ks : List (Nat × RV)) : zhy ks = ks.map (·.2) := by
 induction ks with
 | nil => rfl
 | cons p r ih => exact congrArg (p.2 :: ·) ih
section
variable {Ω : Bx} {cx : Cx} {K : Frag} {ρ₀ ρ ρ' : Rho} {hp : Hp} {s₀ s s' : Shared} {A : Around} {E Q : Value -> Shared -> Prop}

theorem zle {d : Nat} (C : CT Ω cx (Rm d)) (X : K.In Ω.h₀) (lim : Ω.h₀.NoLimit) {fn : Fn} {f : Addr} (F : FnOk K Ω fn f) (hA : Rm (d + 1) A) (H : HS Ω ρ hp s) (G : Go [] ρ₀ s₀ ρ s) {xs : List V} {us kus : List Value} (R : VRs ρ s.heap xs (us ++ kus)) (hk : kus.length = fn.kn.length)
 {r : RV × Hp} (e : fnX fn cx xs hp = some r) {R' : Result -> Shared -> Prop} (hQ : Post Ω ρ₀ s₀ r.1 r.2 fun v s' => R' (.ok (.ret v)) s') : codeAny Ω.M A (.call (.ref f) ⟨us, (fn.kn.map (nmOf Ω)).zip kus⟩) R' s := by
 obtain ⟨oc, od, osl, name, qual, mr, params, dV, kV, doc, pm, cdv, ct, an, dus, h1, h2, h3, h4⟩ := F.ex
 obtain ⟨hl, e⟩ := zae e
 have hl := zam hl
 rw [zag, zag, List.length_append, ← R.len, List.length_append] at hl
 exact fn_code C (fun _ q => q) hA X lim h1 h2 F.P F.w H G (h4 s us kus (fun a o q => H.base a o (X a o q)) hl hk) (VRs.append R (h3 ρ s.heap)) e hQ
theorem kw_zip {fn : Fn} {ks : List (Nat × RV)} (h : leq (zhf ks) fn.kn = true) : (ks.map fun p => nmOf Ω p.1) = fn.kn.map (nmOf Ω) /\ ks.length = fn.kn.length := by
 rw [← zl6 h, zon, List.map_map, List.length_map]
 exact ⟨rfl, rfl⟩
theorem zo0 {fn : Fn} {as : List RV} {ks : List (Nat × RV)} {vs kvs : List Value} {x : List V × Hp} (hk : leq (zhf ks) fn.kn = true) (ha : zcq (as ++ zhy ks) hp = some x) (H : HS Ω ρ hp s) (G : Go [] ρ₀ s₀ ρ s) (hb : ∀ a, s₀.heap.get? a = none -> Ω.h₀.get? a = none) (Rs : RVRc Ω ρ s s₀ (as ++ ks.map (·.2)) (vs ++ kvs)) (hl : vs.length = as.length) {P : List Str -> Prop}
 (k : ∀ ρ', HS Ω ρ' x.2 s -> Go [] ρ₀ s₀ ρ' s -> VRs ρ' s.heap x.1 (vs ++ kvs) -> kvs.length = fn.kn.length -> P (fn.kn.map (nmOf Ω))) : P (ks.map fun p => nmOf Ω p.1) := by
 obtain ⟨k1, k2⟩ := kw_zip (Ω := Ω) hk
 rw [zmo] at ha
 obtain ⟨ρ', H', G', R', _⟩ := zix H G hb (Lt.refl s₀) ha Rs
 have hlen := Rs.len
 rw [List.length_append, List.length_append, List.length_map, hl, k2] at hlen
 rw [k1]
 exact k ρ' H' G' R' (Nat.add_left_cancel hlen)
theorem zo8 {d : Nat} (C : CT Ω cx (Rm d)) (X : K.In Ω.h₀) (lim : Ω.h₀.NoLimit) {fn : Fn} {f : Addr} (F : FnOk K Ω fn f) {as : List RV} {ks : List (Nat × RV)} {vs kvs : List Value} {r : RV × Hp} (hA : Rm (d + 1) A) (H : HS Ω ρ hp s) (G : Go [] ρ₀ s₀ ρ s) (hb : ∀ a, s₀.heap.get? a = none -> Ω.h₀.get? a = none)
 (e : fnS fn cx as ks hp = some r) (Rs : RVRc Ω ρ s s₀ (as ++ ks.map (·.2)) (vs ++ kvs)) (hl : vs.length = as.length) (hQ : Post Ω ρ₀ s₀ r.1 r.2 Q) :
 zbb Ω.M s.heap (.ref f) /\ wpAny Ω.M A (call (.ref f) vs ((ks.map fun p => nmOf Ω p.1).zip kvs)) Q E s := by
 obtain ⟨hk, e⟩ := zae e
 obtain ⟨x, ha, e⟩ := bd_t e
 exact ⟨keeps_K F.keep s.heap fun a o q => H.base a o (X a o q), zo0 (P := fun n => wpAny Ω.M A (call (.ref f) vs (n.zip kvs)) Q E s) hk ha H G hb Rs hl fun ρ' H' G' R' hn => wpAny_call (zle C X lim F hA H' G' R' hn e hQ)⟩
theorem zv4 {s1 : Shared} {ρ1 : Rho} (mono : ∀ {v : V} {u : Value}, VR ρ s.heap v u -> VR ρ1 s1.heap v u) {xs : List V} : ∀ {us : List Value}, VRs ρ s.heap xs us -> VRs ρ1 s1.heap xs us := by
 induction xs with
 | nil => exact fun h => h
 | cons y ys ih => exact fun {us} R => vrs_e (P := fun us => VRs ρ1 s1.heap (y :: ys) us) R fun u t g1 g2 => VRs.cons (mono g1) (ih g2)
theorem zpo {d : Nat} (C : CT Ω cx (Rm d)) (X : K.In Ω.h₀) (lim : Ω.h₀.NoLimit) {fn : Fn} {f Cl : Addr} (F : FnOk K Ω fn f) (hm : makesIn K Cl = true) (hi : findIn K (.ref Cl) "__init__" = some (some (.ref f))) (hf : typeIn K (.ref f) = some (.type "function")) (hkeep : keepIn K (.ref Cl) = true)
 {as : List RV} {ks : List (Nat × RV)} {vs kvs : List Value} {r : RV × Hp} (hA : Rm (d + 2) A) (H : HS Ω ρ hp s) (G : Go [] ρ₀ s₀ ρ s) (hb : ∀ a, s₀.heap.get? a = none -> Ω.h₀.get? a = none)
 (e : clsS Cl fn cx as ks hp = some r) (Rs : RVRc Ω ρ s s₀ (as ++ ks.map (·.2)) (vs ++ kvs)) (hl : vs.length = as.length) (hQ : Post Ω ρ₀ s₀ r.1 r.2 Q) :
 zbb Ω.M s.heap (.ref Cl) /\ wpAny Ω.M A (call (.ref Cl) vs ((ks.map fun p => nmOf Ω p.1).zip kvs)) Q E s := by
 obtain ⟨hk, e⟩ := zae e
 obtain ⟨x, ha, e⟩ := bd_t e
 obtain ⟨w, he, e⟩ := bd_t e
 obtain ⟨hw, e⟩ := zae e
 rw [← prf e] at hQ
 refine ⟨keeps_K hkeep s.heap fun a o q => H.base a o (X a o q), zo0 (P := fun n => wpAny Ω.M A (call (.ref Cl) vs (n.zip kvs)) Q E s) hk ha H G hb Rs hl fun ρ' H' G' R' hn => ?_⟩
 exact cls_ok (Ω := Ω) hA X hm hi hf H' G' hQ fun {ρ1 s1 A1 y R1} hA1 H1 mono hx hP => zle C X lim F hA1 H1 (Go.refl [] ρ1 s1) (us := .ref y :: vs) (kus := kvs) (xs := .ref (len x.2) :: x.1) (VRs.cons hx (zv4 mono R')) hn he (rN_t hw ▸ hP)
end
end
section
open Sem (wp)
section
variable {M : Model} {A : Around} {R : GenEnd} {Y : Protocol} {n : Nat} {s₀ : Shared} {c : Code} {fs : List Frame} {s : Shared} {env : Env}
 {K : Flow -> Sem Fin} {H : Value -> Sem Fin} {gd : Bool -> Bool} {lv : List Value -> List Value}
theorem zm8 {test : Expr} {body orelse : List Stmt} {pos : Pos}
 (h : wpAny M (A.over c fs) (isTrue test env (eval test env)) (fun b s' => if b = true then Seg M A R Y n s₀ c ((execs body env).wrap K H gd lv) fs s' else Seg M A R Y n s₀ c ((execs orelse env).wrap K H gd lv) fs s')
  (fun x s' => Seg M A R Y n s₀ c (H x) fs s') s) :
 Seg M A R Y n s₀ c ((exec (.If test body orelse pos) env).wrap K H gd lv) fs s := by
 show Seg M A R Y n s₀ c (.at pos fun _ => (isTrue test env (eval test env) >>= fun b => if b = true then execs body env else execs orelse env).wrap K H gd lv) fs s
 refine seg_at ?_
 rw [Sem.bind_eq_wrap', Sem.wrap_wrap]
 refine seg_wrap (wpAny_mono h (fun b s' h' => ?_) fun _ _ x => x)
 cases b with
 | true => rw [if_pos rfl] at h'; exact h'
 | false => rw [if_neg Bool.false_ne_true] at h'; exact h'
theorem zd1 {st : Stmt} (h : wpAny M (A.over c fs) (exec st env) (fun f s' => Seg M A R Y n s₀ c (K f) fs s') (fun x s' => Seg M A R Y n s₀ c (H x) fs s') s) :
 Seg M A R Y n s₀ c ((exec st env).wrap K H gd lv) fs s := seg_wrap h
theorem zw7 {target iter : Expr} {body orelse : List Stmt} {pos : Pos} (hf : ∀ x, foldedSetIterable iter env x = pure x)
 (h : wpAny M (A.over c fs) (eval iter env) (fun x s1 => wpAny M (A.over c fs) (pyIter x) (fun it s2 => ∀ p, Seg M A R Y n s₀ (.forLoop target it body orelse env) (M.den (.forLoop target it body orelse env))
  (.ret (fun r => ((match r with | .ok f => (.pure f : Sem Flow) | .error e => .raise e).onRaise fun (x : Value) => do
   if (← field x 1) == Value.none then unsupported "frame.own-activation:exception-without-traceback"
   setFlight x env.frame).wrap K H gd lv) none (gd false) (lv []) c p [] :: fs) s2) (fun x s' => Seg M A R Y n s₀ c (H x) fs s') s1) (fun x s' => Seg M A R Y n s₀ c (H x) fs s') s) :
 Seg M A R Y n s₀ c ((exec (.For target iter body orelse pos) env).wrap K H gd lv) fs s := by
 rw [exec_For]
 show Seg M A R Y n s₀ c (.at pos fun _ => (eval iter env >>= fun y => foldedSetIterable iter env y >>= fun x => standAt iter.pos >>= fun _ => holding [x] (pyIter x) >>= fun it => runOwn (.forLoop target it body orelse env) env).wrap K H gd lv) fs s
 refine seg_at ?_
 rw [Sem.bind_eq_wrap', Sem.wrap_wrap]
 refine seg_wrap (wpAny_mono h (fun x s1 h1 => ?_) fun _ _ x => x)
 rw [hf]
 show Seg M A R Y n s₀ c (.at iter.pos fun _ => (holding [x] (pyIter x) >>= fun it => runOwn (.forLoop target it body orelse env) env).wrap K H gd lv) fs s1
 refine seg_at ?_
 rw [Sem.bind_eq_wrap', Sem.wrap_wrap]
 refine seg_wrap (wpAny_mono (wpAny_holding h1) (fun it s2 h2 => ?_) fun _ _ x => x)
 exact seg_call h2
end
section
variable {Ω : Bx} {A : Around} {R : GenEnd} {Y : Protocol} {n : Nat} {s₀ : Shared} {fs : List Frame} {s : Shared} {env : Env}
noncomputable abbrev loopH (env : Env) : Value -> Sem Fin := fun e => (do noteFrame e env; theTreesLotGoes e : Sem Unit).wrap (fun _ => .raise e) .raise id id
noncomputable abbrev loopK (target : Expr) (it : Value) (body orelse : List Stmt) (env : Env) : Flow -> Sem Fin := fun f => match f with
 | .next | .cont => .pure (.again (.forLoop target it body orelse env))
 | .brk => .pure (.done .next)
 | .ret v => .pure (.done (.ret v))
theorem zfc {target : Expr} {it : Value} {body orelse : List Stmt}
 (h : wpAny Ω.M (A.over (.forLoop target it body orelse env) fs) (pyNext it) (fun o s' => match o with
  | none => Seg Ω.M A R Y n s₀ (.forLoop target it body orelse env) (.pure (.again (.block orelse env))) fs s'
  | some v => wpAny Ω.M (A.over (.forLoop target it body orelse env) fs) (letOwnedTupleGo target it v >>= fun _ => assign target env v) (fun _ s'' =>
   Seg Ω.M A R Y n s₀ (.forLoop target it body orelse env) ((execs body env).wrap (loopK target it body orelse env) (loopH env) id id) fs s'') (fun _ _ => False) s')
  (fun _ _ => False) s) :
 Seg Ω.M A R Y n s₀ (.forLoop target it body orelse env) (Ω.M.den (.forLoop target it body orelse env)) fs s := by
 show Seg _ A R Y n s₀ _ (.at target.pos fun _ => (((pyNext it).onRaise (fun _ => standAt { target.pos with line := 0 })) >>= _).onRaise (fun x => do noteFrame x env; theTreesLotGoes x)) fs s
 refine seg_at ?_
 rw [Sem.onRaise_eq_wrap, Sem.bind_eq_wrap', Sem.wrap_wrap, Sem.onRaise_eq_wrap, Sem.wrap_wrap]
 refine seg_wrap (wpAny_mono h (fun o s' h' => ?_) fun _ _ x => x.elim)
 cases o with
 | none => exact h'
 | some v =>
  show Seg _ A R Y n s₀ _ ((letOwnedTupleGo target it v >>= fun _ => assign target env v >>= fun _ => execs body env >>= fun f => (match f with | .next | .cont => again (.forLoop target it body orelse env) | .brk => pure (.done .next) | .ret v => pure (.done (.ret v)) : Sem Fin)).wrap _ _ _ _) fs s'
  have e : ∀ K', (letOwnedTupleGo target it v >>= fun _ => assign target env v >>= K') = ((letOwnedTupleGo target it v >>= fun _ => assign target env v) >>= K' : Sem Fin) := fun K' => by
   simp only [Sem.bind_eq_wrap', Sem.wrap_wrap]; rfl
  rw [e, Sem.bind_eq_wrap', Sem.wrap_wrap]
  refine seg_wrap (wpAny_mono h' (fun _ s'' h2 => ?_) fun _ _ x => x.elim)
  rw [Sem.bind_eq_wrap', Sem.wrap_wrap]
  have k1 : ∀ (f : Flow) (gd lv), ((match f with | .next | .cont => again (.forLoop target it body orelse env) | .brk => pure (.done .next) | .ret v => pure (.done (.ret v)) : Sem Fin).wrap (fun a => .pure a) (fun x => (do noteFrame x env; theTreesLotGoes x : Sem Unit).bind fun _ => .raise x) gd lv) = loopK target it body orelse env f := fun f _ _ => by cases f <;> rfl
  refine Eq.mp (congrArg (fun t => Seg _ A R Y n s₀ _ t fs s'') ?_) h2
  exact Sem.wrap_congr _ _ _ (fun f => (by cases f <;> rfl)) (fun e => (Sem.bind_eq_wrap _ _).symm)
theorem zgy (h : Seg Ω.M A R Y n s₀ (.block [] env) (.pure (.done .next)) fs s) : Seg Ω.M A R Y n s₀ (.block [] env) (Ω.M.den (.block [] env)) fs s := h
theorem zw6 {target : Expr} {it : Value} {body : List Stmt} {k : Result -> Sem Fin} {g : Bool} {l : List Value} {c₁ : Code} {p₁ : Pos} {kp : List Value} (h : Seg Ω.M A R Y n s₀ c₁ (k (.ok .next)) fs s) :
 Seg Ω.M A R Y n s₀ (.forLoop target it body [] env) (.pure (.again (.block [] env))) (.ret k none g l c₁ p₁ kp :: fs) s :=
 seg_again rfl (zgy (seg_leaf (.ok .next) h))
end
end
section
open Sem (wp)
section
variable {Ω : Bx} {A : Around} {E : Value -> Shared -> Prop} {s : Shared}
theorem zjf {a : Addr} {g n : Nat} {gs : GenState} {P : Nat -> Shared -> Shared -> Prop} {Y : Protocol} {Q : Option Value -> Shared -> Prop} (hh : A.handled = none)
 (hl : s.heap.NoLimit) (hroom : A.depth < recursionLimit)
 (hg : s.heap.IsGen a g) (hgs : s.gens[g]? = some gs)
 (hgo : gs.Goes Ω.M A.in1 (fun n s₀ r s₁ => r = .ok (.ret .none) /\ P n s₀ s₁) Y n (.send .none) (s.setGen g .running))
 (hY : ∀ v s₁ gs', gs'.bare = true -> Y (n - 1) (s.setGen g .running) v s₁ (fun r' s'' => match n with
  | 0 => False
  | m + 1 => gs'.Goes Ω.M A.in1 (fun n s₀ r s₁ => r = .ok (.ret .none) /\ P n s₀ s₁) Y m r' s'') -> Q (some v) (s₁.setGen g gs'))
 (hP : ∀ s₁, P n (s.setGen g .running) s₁ -> ∀ h', (∀ b o, s₁.heap.get? b = some o -> h'.get? b = some o) -> Q none { s₁.setGen g .finished with heap := h' }) :
 wpAny Ω.M A (pyNext (.ref a)) Q E s := by
 unfold pyNext
 refine wpAny_bind (wpAny_attempt (wpAny_callSpecial?_slot (name := Str.ofString "__next__") hg.typeIs slot_gen_next
  (wpAny_call_entry slot_gen_next hg.typeIs entry_gen_next ?_ (args_gen_next _))))
 show wpAny _ A.in1 (Builtin.Generator.genWake (.ref a) (.send .none)) _ _ s
 unfold Builtin.Generator.genWake
 refine wpAny_bind (wpAny_holding (wpAny_genNumber hg (wpAny_bind (wpAny_genState hgs ?_))))
 cases gs with
 | running => exact hgo.elim
 | finished => exact hgo.elim
 | _ =>
  refine wpAny_bind (wpAny_roomToWake hl hroom ?_)
  show wpAny _ A.in1 (.resume g (.send .none) [] _) _ _ s
  refine wpAny_resumeQ hgs hgo (fun x s₁ hx => ?_) (fun v s₁ gs' hb hv => ?_)
  · obtain ⟨rfl, hp⟩ := hx
    show wpAny _ A.in1 (newExc (.type "StopIteration") [] >>= _) _ _ _
    refine wpAny_bind ?_
    simp only [newExc, newTuple]
    refine wpAny_bind (wpAny_newObj_type ?_ (by size_fits))
    refine wpAny_bind (m := firstArgMember _ _) (wpAny_of_eq (a := Value.none) (by first | rfl | (simp only [firstArgMember]; rfl)) ?_)
    refine wpAny_newObj_type ?_ (by size_fits)
    simp only [raiseNew]
    refine wpAny_bind (wpAny_bind (wpAny_handled ?_))
    first | rw [show A.in1.handled = none from hh] | rw [hh]
    refine wpAny_throw ?_
    refine wpAny_bind (wpAny_isInstance (T := "StopIteration") (b := true) ⟨_, Heap.get?_push_size _ rfl, rfl⟩ isSubtype_stop ?_)
    exact wpAny_pure (hP s₁ hp _ fun b o hb => Heap.get?_push_of_some _ (Heap.get?_push_of_some _ hb))
  · exact wpAny_pure ⟨v, rfl, wpAny_pure (hY v s₁ gs' hb hv)⟩
end
end
section
noncomputable def scG (nm : Nat -> Str) (sc : List (Nat × Nat)) : Scope := { kind := .function, names := scN nm sc, isGenerator := true, isCoroutine := false }
theorem zs5 {Ω : Bx} {sc : List (Nat × Nat)} {hp : Hp} {ρ : Rho} {s sB : Shared} {A : Around} (N : Apart Ω) (hA : A.depth < recursionLimit) {K : Frag} (XS : K.In s.heap) (hlim : Ω.h₀.NoLimit) {f : Addr} {oc : Value} {od : Option Addr} {osl : Array (Option Value)} {name qual : Str} {params : Arguments} {body : List Stmt} {dV kV doc pm cdv ct : Value} {an : Option Addr}
 (ho : K.lookup f = some ⟨oc, od, .func (fnOf name qual params body (scG (nmOf Ω) sc) dV kV doc pm an cdv ct), osl⟩) (hcd : codeIn K cdv qual = true) {ps : List Nat} (P : Pars Ω sc ps)
 (H : HS Ω ρ hp sB) {args : Args} {us : List Value} {vs : List V} (hbind : ∀ (A' : Around) (E' : Value -> Shared -> Prop) (Q : List (Str × Value) -> Shared -> Prop), Q ((ps.map (nmOf Ω)).zip us) sB -> wpAny Ω.M A' (bindArgs (fnOf name qual params body (scG (nmOf Ω) sc) dV kV doc pm an cdv ct) args) Q E' s) (hR : VRs ρ sB.heap vs us)
 {R : Result -> Shared -> Prop} (run : ∀ (env : Env) (s1 : Shared), Frm Ω env sc (ps.zip vs) ρ hp sB s1 -> env.cells = cellsFrom (sB.heap.objs.size + 1) (scN (nmOf Ω) sc) [] -> env.scope = scG (nmOf Ω) sc ->
  R (.ok (.ret (.ref s1.heap.objs.size))) { s1 with gens := s1.gens.push (.fresh (.func body env)), toks := s1.toks + 1 + 1, heap := s1.heap.push { cls := .type "generator", data := .fields #[.int s1.gens.size 0, .str name s1.toks, .str qual (s1.toks + 1)] } }) : codeAny Ω.M A (.call (.ref f) args) R s :=
 codeAny_call_generator hA (XS _ _ ho) rfl rfl rfl rfl (codeRec_of XS hcd) (hbind _ _ _ (wpAny_newFunctionEnv_cells rfl (fun x hx => zgk N P hx) fun env he s1 I =>
  ⟨(hlim.keeps H.base).keeps I.toInCall.keep, run env _ (zlc N P H hR (by rw [he]; rfl) (by rw [he]; rfl) (by rw [he]; rfl) (by rw [he]; rfl) (by rw [he]; rfl) (by rw [he]; rfl) I) (by rw [he]; rfl) (by rw [he]; rfl)⟩))
end
section
noncomputable def gl (l c d : Nat) : Nat := l * 1000000000 + c * 1000000 + l * 1000 + d
noncomputable def g1 (b : Nat) : FS := .asg [.name 17 (gl b 4 7)] (.int 0 (gl b 10 11)) (gl b 4 11)
noncomputable def g2 (b : Nat) : FS := .asg [.name 18 (gl (b + 1) 4 10)] (.fls (gl (b + 1) 13 18)) (gl (b + 1) 4 18)
noncomputable def gT (b : Nat) : Tg := .tup [17, 19] [gl (b + 2) 8 11, gl (b + 2) 13 15] (gl (b + 2) 8 15)
noncomputable def gE1 (b : Nat) : FE := .tup [.var 17 (gl (b + 4) 19 22), .bin .Add (.str "\\" [92] (gl (b + 4) 24 28)) (.var 19 (gl (b + 4) 31 33)) (gl (b + 4) 24 33)] (gl (b + 4) 18 34)
noncomputable def g3 (b : Nat) : FS := .asg [.name 18 (gl (b + 5) 12 18)] (.fls (gl (b + 5) 21 26)) (gl (b + 5) 12 26)
noncomputable def gC (b : Nat) : FE := .cmp .Eq (.var 19 (gl (b + 6) 13 15)) (.str "\\" [92] (gl (b + 6) 19 23)) (gl (b + 6) 13 23)
noncomputable def g4 (b : Nat) : FS := .asg [.name 18 (gl (b + 7) 12 18)] (.tru (gl (b + 7) 21 25)) (gl (b + 7) 12 25)
noncomputable def gE2 (b : Nat) : FE := .tup [.var 17 (gl (b + 9) 19 22), .var 19 (gl (b + 9) 24 26)] (gl (b + 9) 18 27)
noncomputable def gE3 (b : Nat) : FE := .tup [.var 17 (gl (b + 11) 15 18), .str "\\" [92] (gl (b + 11) 20 24)] (gl (b + 11) 14 25)
section
variable (nm : Nat -> Str) (b : Nat)
noncomputable def gY1 : Stmt := .Expr (.Yield (some (tE nm (gE1 b))) (pos (gl (b + 4) 12 34))) (pos (gl (b + 4) 12 34))
noncomputable def gY2 : Stmt := .Expr (.Yield (some (tE nm (gE2 b))) (pos (gl (b + 9) 12 27))) (pos (gl (b + 9) 12 27))
noncomputable def gY3 : Stmt := .Expr (.Yield (some (tE nm (gE3 b))) (pos (gl (b + 11) 8 25))) (pos (gl (b + 11) 8 25))
noncomputable def gIt : Expr := .Call (.Name (nm 20) (pos (gl (b + 2) 19 28))) [.Name (nm 16) (pos (gl (b + 2) 29 33))] [] (pos (gl (b + 2) 19 34))
noncomputable def gIn : List Stmt := [.If (.Name (nm 18) (pos (gl (b + 3) 11 17))) [gY1 nm b, tS nm (g3 b)]
 [.If (tE nm (gC b)) [tS nm (g4 b)] [gY2 nm b] ⟨b + 6, 8, b + 9, 27⟩] ⟨b + 3, 8, b + 9, 27⟩]
noncomputable def gEnd : Stmt := .If (.Name (nm 18) (pos (gl (b + 10) 7 13))) [gY3 nm b] [] ⟨b + 10, 4, b + 11, 25⟩
noncomputable def gFor : Stmt := .For (tT nm (gT b)) (gIt nm b) (gIn nm b) [] ⟨b + 2, 4, b + 9, 27⟩
noncomputable def zc8 : List Stmt := [tS nm (g1 b), tS nm (g2 b), gFor nm b, gEnd nm b]
end
noncomputable def escG : List Nat -> Nat -> Bool -> Int -> List V
 | [], _, true, p => [.tup [.int p, .str [92]]]
 | [], _, false, _ => []
 | c :: r, i, true, _ => .tup [.int i, .str [92, c]] :: escG r (i + 1) false i
 | c :: r, i, false, _ => match Nat.beq c 92 with
  | true => escG r (i + 1) true i
  | false => .tup [.int i, .str [c]] :: escG r (i + 1) false i
end
section
noncomputable def gsc : List (Nat × Nat) := [(16, 0), (17, 0), (18, 0), (19, 0), (20, 4)]
theorem Ch.up {ads ads' : List Addr} {gi : List Nat} {s s' : Shared} (c : Ch ads gi s s') (h : ∀ a ∈ ads, a ∈ ads') {gi' : List Nat} (hg : ∀ g ∈ gi, g ∈ gi') : Ch ads' gi' s s' :=
 ⟨fun b o e n => c.keep b o e fun q => n (h b q), c.imm, fun g st n e => c.gens g st (fun q => n (hg g q)) e, c.bare, c.os⟩
theorem ztn {fa : List Addr} {s s' : Shared} {ρ' : Rho} (g : Go fa [] s ρ' s') (hb : AllBare s'.gens) : Ch fa [] s s' :=
 ⟨fun b o e n => g.keep b o e nofun n, g.imm, fun k st _ e => g.gens k st e, hb, g.os⟩
theorem zng {Ω : Bx} {ρ : Rho} {s : Shared} (H : HS Ω ρ [] s) : ρ = [] := List.length_eq_zero_iff.mp H.len.symm

section
variable (Ω : Bx) (env : Env) (lo e it : Addr) (x : List Nat) (t : Tok)
structure GF (fl : L) (s : Shared) : Prop where
 H : HS Ω [] [] s
 F : FR Ω env [lo] fl [] s
 C : FC Ω env [lo] s
structure GN (i : Nat) (s : Shared) : Prop where
 E : ∃ old, IsEnum s.heap e it i old
 S : s.heap.IsStrIter it "str_ascii_iterator" (St x) t i
end
section
variable {Ω : Bx} {Rm : Around -> Prop} {env : Env} {lo e it a : Addr} {x : List Nat} {t : Tok} {fl : L} {s s' : Shared} {g i : Nat} {ρ : Rho}
theorem GN.keep (G : GN e it x t i s) (k1 : ∀ o, s.heap.get? e = some o -> s'.heap.get? e = some o) (k2 : ∀ o, s.heap.get? it = some o -> s'.heap.get? it = some o) : GN e it x t i s' :=
 ⟨G.E.elim fun old h => ⟨old, k1 _ h⟩, G.S.elim fun o h => ⟨o, k2 _ h.1, h.2⟩⟩
theorem GF.keep (G : GF Ω env lo fl s) (hk : ∀ o, s.heap.get? lo = some o -> s'.heap.get? lo = some o) (im : ImmK s.heap s'.heap) (hb : ∀ b o, Ω.h₀.get? b = some o -> s'.heap.get? b = some o) (bare : AllBare s'.gens) : GF Ω env lo fl s' :=
 ⟨⟨hb, nofun, List.nodup_nil, rfl, fun n o e h => nn (show none = some o from h), bare⟩, G.F.kept (mem1 hk) (Ext.refl _) im G.F.disj, G.C.kept (mem1 hk)⟩
theorem GF.hs {A : Around} {E : Value -> Shared -> Prop} (G : GF Ω env lo fl s) (K : KN Ω env gsc) (hA : Rm A) : HereS Ω Rm ⟨env, gsc, [lo], A, E⟩ fl [] [] s := ⟨⟨K, hA, G.H, G.F⟩, G.C⟩
theorem GF.of {A : Around} {E : Value -> Shared -> Prop} (h : HereS Ω Rm ⟨env, gsc, [lo], A, E⟩ fl [] ρ s) : GF Ω env lo fl s := by
 cases zng h.h.H
 exact ⟨h.h.H, h.h.F, h.C⟩
theorem GF.locs (G : GF Ω env lo fl s) : env.locals = lo := List.mem_singleton.mp G.F.loc
theorem GF.live (G : GF Ω env lo fl s) : ∃ o, s.heap.get? lo = some o /\ ¬ Imm o := G.F.live lo (.head _)
end
end
section
section
variable {Ω : Bx} {cx : Cx} {Rm : Around -> Prop}
variable {env : Env} {lo e it a : Addr} {x : List Nat} {t : Tok} {fl : L} {s s' : Shared} {A : Around} {E : Value -> Shared -> Prop}

theorem zo1 (C : CT Ω cx Rm) (K : KN Ω env gsc) (G : GF Ω env lo fl s) {y q p : Nat} (hy : y < Ω.nms.length) (hk : look gsc y = some 0) {ee : FE} {v : V}
 (hev : ∀ {Q : Value -> Shared -> Prop}, (∀ u tk, VR [] s.heap v u -> Q u { s with toks := tk }) -> wpAny Ω.M A (eval (tE (nmOf Ω) ee) env) Q E s)
 (h1 : swapsWithSole [Expr.Name (nmOf Ω y) (pos q)] (tE (nmOf Ω) ee) (pos p).line env = pure false) (h2 : swappedStores [Expr.Name (nmOf Ω y) (pos q)] (tE (nmOf Ω) ee) env = pure none)
 {Q : Flow -> Shared -> Prop} (hQ : ∀ h' tk, Heap.SameBut lo s.heap h' -> GF Ω env lo (put fl y v) { s with heap := h', toks := tk } -> Q .next { s with heap := h', toks := tk }) :
 wpAny Ω.M A (exec (tS (nmOf Ω) (.asg [.name y q] ee p)) env) Q E s := by
 show wpAny _ _ (exec (.Assign [.Name (nmOf Ω y) (pos q)] (tE (nmOf Ω) ee) (pos p)) env) _ _ _
 refine wpAny_Assign_stores (hev fun u tk R => ?_) h1 h2
 show wpAny _ _ (assign (.Name (nmOf Ω y) (pos q)) env u) _ _ _
 have G1 : GF Ω env lo fl { s with toks := tk } := G.keep (fun _ e => e) (fun _ _ e _ => e) G.H.base G.H.gens
 refine wpAny_assign_Name (ze7 C (by rw [G.locs]; exact G.C.base lo (.head _)) K hy hk G1.H G1.F R fun h' tk' hs H2 G2 F2 => ?_)
 rw [G.locs] at hs
 exact hQ h' tk' hs ⟨H2, F2, ⟨fun y c h1 h2 => have ⟨h3, h4, _⟩ := G.C.own y c h1 h2; absurd ((List.mem_singleton.mp h3).trans G.locs.symm) h4, G.C.apart, G.C.has, G.C.base⟩⟩
theorem git_ok (C : CT Ω cx Rm) (K : KN Ω env gsc) (G : GF Ω env lo fl s) (hgl : look cx.glo 20 = some (.bi .enumerate)) (hx : look fl 16 = some (.str x)) (hsx : sOk x) {b : Nat} {Q : Value -> Shared -> Prop}
 (hQ : ∀ h' t, GF Ω env lo fl { s with heap := h' } -> (∀ b o, s.heap.get? b = some o -> h'.get? b = some o) -> GN (s.heap.objs.size + 1) s.heap.objs.size x t 0 { s with heap := h' } -> Q (.ref (s.heap.objs.size + 1)) { s with heap := h' }) :
 wpAny Ω.M A (eval (gIt (nmOf Ω) b) env) Q E s := by
 unfold gIt
 refine wpAny_Call_Name_kw (zqa C hgl rfl K G.H G.F fun u hu => ?_)
 rw [show u = Bi.enumerate.val from hu]
 refine callWith_of (P := fun h => zbb Ω.M h Bi.enumerate.val) rfl (fun h x => x) (evalArgs_kw2 rfl (wpAny_items_cons (zka C hx rfl K G.F fun u hu => wpAny_items_nil (kwAll_nil ?_)) rfl))
 obtain ⟨⟨t, q⟩, _⟩ := hu
 rw [q]
 refine ⟨zjt _ _ _, ?_⟩
 have hasc : strIterType (St x) = "str_ascii_iterator" := if_pos ((Array.all_eq_true_iff_forall_mem).mpr fun c hc => decide_eq_true (zba hsx.1 c (List.mem_toArray.mp hc)))
 show wpAny _ _ (call (.type "enumerate") [.str (St x) t] []) _ _ _
 refine call_enumerate_str fun h' e1 e2 hz hk => ?_
 rw [hasc] at e2
 exact hQ h' t (G.keep (s' := { s with heap := h' }) (fun o e => hk _ o e) (fun b o e _ => hk b o e) (fun b o e => hk b o (G.H.base b o e)) G.H.gens) hk ⟨⟨_, e1⟩, e2⟩
end
end
section
open Sem (wp)
structure Gc where
 Ω : Bx
 env : Env
 a : Addr
 lo : Addr
 e : Addr
 it : Addr
 x : List Nat
 t : Tok
structure GLE (γ : Gc) (s0 : Shared) (fl : L) (esc : Bool) (p : Int) (s : Shared) : Prop where
 G : GF γ.Ω γ.env γ.lo fl s
 al : ∀ y ∈ [γ.lo, γ.e, γ.it], ∃ o, s.heap.get? y = some o /\ ¬ Imm o
 c : Ch [γ.lo, γ.e, γ.it] [] s0 s
 a17 : look fl 17 = some (.int p)
 a18 : look fl 18 = some (.bool esc)
structure GL (γ : Gc) (s0 : Shared) (fl : L) (i : Nat) (esc : Bool) (p : Int) (s : Shared) : Prop where
 B : GLE γ s0 fl esc p s
 N : GN γ.e γ.it γ.x γ.t i s
structure GA3 (γ : Gc) : Prop where
 le : γ.lo ≠ γ.e
 li : γ.lo ≠ γ.it
 ei : γ.e ≠ γ.it
 be : γ.Ω.h₀.get? γ.e = none
 bi : γ.Ω.h₀.get? γ.it = none
section
variable {γ : Gc} {Rm : Around -> Prop} {fl fl' : L} {s s' s0 : Shared} {A : Around} {E : Value -> Shared -> Prop} {i : Nat} {ρ' : Rho} {esc esc' : Bool} {p p' : Int} {x : List Nat}
theorem GLE.go (L : GLE γ s0 fl esc p s) (D : GA3 γ) (h : HereS γ.Ω Rm ⟨γ.env, gsc, [γ.lo], A, E⟩ fl' [] ρ' s') (k : Go [γ.lo] [] s ρ' s') (h1 : look fl' 17 = some (.int p')) (h2 : look fl' 18 = some (.bool esc')) : GLE γ s0 fl' esc' p' s' :=
 have G := GF.of h
 ⟨G, fun y hy => (List.mem_cons.mp hy).elim (fun q => q ▸ G.live) fun hy => (L.al y (.tail _ hy)).elim fun o h => ⟨o, k.keep y o h.1 nofun fun q => (mem2 (p := fun b => b ≠ γ.lo) D.le.symm D.li.symm) y hy (List.mem_singleton.mp q), h.2⟩,
  zhr L.c ((ztn k h.h.H.gens).up (mem1 (.head _)) nofun), h1, h2⟩
theorem GL.go (L : GL γ s0 fl i esc p s) (D : GA3 γ) (h : HereS γ.Ω Rm ⟨γ.env, gsc, [γ.lo], A, E⟩ fl' [] ρ' s') (k : Go [γ.lo] [] s ρ' s') (h1 : look fl' 17 = some (.int p')) (h2 : look fl' 18 = some (.bool esc')) : GL γ s0 fl' i esc' p' s' :=
 ⟨L.B.go D h k h1 h2, L.N.keep (fun o h => k.keep _ o h nofun fun q => D.le.symm (List.mem_singleton.mp q)) fun o h => k.keep _ o h nofun fun q => D.li.symm (List.mem_singleton.mp q)⟩
theorem GLE.hs {A : Around} {E : Value -> Shared -> Prop} (L : GLE γ s0 fl esc p s) (K : KN γ.Ω γ.env gsc) (hA : Rm A) : HereS γ.Ω Rm ⟨γ.env, gsc, [γ.lo], A, E⟩ fl [] [] s := L.G.hs K hA
theorem GLE.go0 (L : GLE γ s0 fl esc p s) (D : GA3 γ) (K : KN γ.Ω γ.env gsc) (hA : Rm A) (h : Here γ.Ω Rm ⟨γ.env, gsc, [γ.lo], A, E⟩ fl [] ρ' s') (k : Go [] [] s ρ' s') : GLE γ s0 fl esc p s' := L.go D ((L.hs K hA).of k h) k.any L.a17 L.a18
theorem GL.go0 (L : GL γ s0 fl i esc p s) (D : GA3 γ) (K : KN γ.Ω γ.env gsc) (hA : Rm A) (h : Here γ.Ω Rm ⟨γ.env, gsc, [γ.lo], A, E⟩ fl [] ρ' s') (k : Go [] [] s ρ' s') : GL γ s0 fl i esc p s' := L.go D ((L.B.hs K hA).of k h) k.any L.B.a17 L.B.a18
theorem GLE.again (L : GLE γ s0 fl esc p s) {ρ₁ ρ₂ : Rho} (k : Kp γ.Ω [γ.a, γ.lo, γ.e, γ.it] [] ρ₁ s ρ₂ s') : GLE γ s' fl esc p s' :=
 ⟨L.G.keep (fun o h => k.keep _ (.tail _ (.head _)) o h) k.imm k.base k.bare, fun y hy => (L.al y hy).elim fun o h => ⟨o, k.keep y (.tail _ hy) o h.1, h.2⟩, zps k.bare, L.a17, L.a18⟩
theorem GL.again (L : GL γ s0 fl i esc p s) {ρ₁ ρ₂ : Rho} (k : Kp γ.Ω [γ.a, γ.lo, γ.e, γ.it] [] ρ₁ s ρ₂ s') : GL γ s' fl i esc p s' :=
 ⟨L.B.again k, L.N.keep (fun o h => k.keep _ (.tail _ (.tail _ (.head _))) o h) fun o h => k.keep _ (.tail _ (.tail _ (.tail _ (.head _)))) o h⟩
noncomputable def gY (γ : Gc) : Protocol := fun k s0 v s1 kap =>
 Ch [γ.lo, γ.e, γ.it] [] s0 s1 /\ (∀ y ∈ [γ.lo, γ.e, γ.it], ∃ o, s1.heap.get? y = some o /\ ¬ Imm o) /\ (∀ b o, γ.Ω.h₀.get? b = some o -> s1.heap.get? b = some o) ∧
 (∃ pre y rest, escG γ.x 0 false 0 = pre ++ y :: rest /\ rest.length = k /\ VR [] s1.heap y v) ∧
 ∀ (ρ₁ ρ₂ : Rho) s'', Kp γ.Ω [γ.a, γ.lo, γ.e, γ.it] [] ρ₁ s1 ρ₂ s'' -> kap (.send .none) s''
noncomputable abbrev gR (γ : Gc) : GenEnd := fun n s0 r s1 => r = .ok (.ret .none) /\ (n = 0 /\ Ch [γ.lo, γ.e, γ.it] [] s0 s1)
theorem GLE.yield (L : GLE γ s0 fl esc p s) {v : Value} {y : V} {rest : List V} {n : Nat} (hs : ∃ pre, escG γ.x 0 false 0 = pre ++ y :: rest) (hn : rest.length = n) (R : VR [] s.heap y v) {kap : Resume -> Shared -> Prop}
 (h : ∀ (ρ₁ ρ₂ : Rho) s'', Kp γ.Ω [γ.a, γ.lo, γ.e, γ.it] [] ρ₁ s ρ₂ s'' -> kap (.send .none) s'') : gY γ n s0 v s kap :=
 ⟨L.c, L.al, L.G.H.base, hs.elim fun pre hp => ⟨pre, y, rest, hp, hn, R⟩, h⟩
end
end
section
open Sem (wp)
section
variable {γ : Gc} {cx : Cx} {Rm : Around -> Prop} {fl : L} {s s0 : Shared} {A : Around} {E : Value -> Shared -> Prop} {i : Nat}
theorem zi8 {n x : Nat} (h : x < n) (hl : look gsc x = some 0) : stOk n gsc x = true := by
 show and2 (ltB x n) (byO (look gsc x) _ false) = true
 rw [hl, show ltB x n = true from Nat.ble_eq_true_of_le h]; rfl
theorem gT_ok {n : Nat} (hn : 20 < n) (b : Nat) : wT n gsc (gT b) = true := by
 show and2 (and2 (stOk n gsc 17) (and2 (stOk n gsc 19) true)) (zdq [17, 19]) = true
 rw [zi8 (Nat.lt_trans (by decide : 17 < 20) hn) rfl, zi8 (Nat.lt_trans (by decide : 19 < 20) hn) rfl]; rfl
theorem zpd (D : GA3 γ) {esc : Bool} {p : Int} (L : GL γ s0 fl i esc p s) {h2 : Heap} {tk : Nat} {o : Value} (keep : ∀ q o, q ≠ γ.e -> q ≠ γ.it -> s.heap.get? q = some o -> h2.get? q = some o) (he2 : IsEnum h2 γ.e γ.it ((i + 1 : Nat) : Int) o) (hs2 : h2.IsStrIter γ.it "str_ascii_iterator" (St γ.x) γ.t (i + 1)) :
 GL γ s0 fl (i + 1) esc p { s with heap := h2, toks := tk } := by
 obtain ⟨old, he⟩ := L.N.E
 obtain ⟨oi, hi, ni⟩ := zrd L.N.S
 have im : ImmK s.heap h2 := fun q o h z => keep q o (fun e => zbs rfl rfl (by decide) (prf (he.symm.trans (e ▸ h)) ▸ z)) (fun e => ni (prf (hi.symm.trans (e ▸ h)) ▸ z)) h
 have G := L.B.G.keep (s' := { s with heap := h2, toks := tk }) (fun o h => keep _ o D.le D.li h) im (fun q o h => keep q o (fun z => sn D.be (z ▸ h)) (fun z => sn D.bi (z ▸ h)) (L.B.G.H.base q o h)) L.B.G.H.gens
 exact ⟨⟨G, fun y hy => (List.mem_cons.mp hy).elim (fun q => q ▸ G.live) (mem2 (p := fun y => ∃ o, h2.get? y = some o /\ ¬ Imm o) ⟨_, he2, zbs rfl rfl (by decide)⟩ (zrd hs2) y),
  zhr L.B.c ⟨fun q o h n => keep q o (fun z => n (z ▸ .tail _ (.head _))) (fun z => n (z ▸ .tail _ (.tail _ (.head _)))) h, im, fun _ _ _ h => h, L.B.G.H.gens, rfl⟩, L.B.a17, L.B.a18⟩, ⟨o, he2⟩, hs2⟩
theorem zmr (C : CT γ.Ω cx Rm) (hA : Rm A) (K : KN γ.Ω γ.env gsc) (hn : 20 < γ.Ω.nms.length) (D : GA3 γ) (hx : sOk γ.x) {b : Nat} {c : Nat} {r : List Nat} {esc : Bool} {p : Int} (L : GL γ s0 fl i esc p s) (hi : γ.x.drop i = c :: r)
 {Q : Unit -> Shared -> Prop} (hQ : ∀ fl' s', GL γ s0 fl' (i + 1) esc (i : Int) s' -> look fl' 19 = some (.str [c]) -> Q () s') :
 wpAny γ.Ω.M A (pyNext (.ref γ.e)) (fun o s' => byO o (fun v => wpAny γ.Ω.M A (letOwnedTupleGo (tT (nmOf γ.Ω) (gT b)) (.ref γ.e) v >>= fun _ => assign (tT (nmOf γ.Ω) (gT b)) γ.env v) Q E s') False) E s := by
 have e1 := zgt hi
 obtain ⟨old, he⟩ := L.N.E
 have hD := Draws.strAscii (prog := γ.Ω.prog) (w := γ.Ω.w) (A := A.in1) (C.rm A hA).1 γ.it (St γ.x) γ.t
 refine wpAny_pyNext_enum_itemD hD he L.N.S (Nat.lt_of_not_le fun q => sn (Array.getElem?_eq_none q) e1) D.ei (fun q => D.ei (List.mem_singleton.mp q)) fun y h' tk hP ho hst htup hsz hk => ?_
 obtain ⟨c', u, hc', q⟩ := hP
 rw [q] at htup ho
 cases prf (hc'.symm.trans e1)
 refine wpAny_bind (wpAny_letOwnedTupleGo_enum ho fun h2 he2 hs2 => ?_)
 have hs2 : Heap.SameBut γ.e h' h2 := hs2
 have ht2 : h2.get? s.heap.objs.size = some { cls := .type "tuple", data := .seq #[.int i tk, .str ⟨#[c]⟩ u] } := (hs2.2 _ (Nat.ne_of_gt (Heap.lt_size he))).trans htup
 have L2 : GL γ s0 fl (i + 1) esc p { s with heap := h2, toks := tk + 1 } := zpd D L (fun q o n1 n2 ho => (hs2.2 q n1).trans (hk q o n1 n2 ho)) he2 (hst.elim fun o h => ⟨o, (hs2.2 _ D.ei.symm).trans h.1, h.2⟩)
 have h2' := L2.B.hs (A := A) (E := E) K hA
 exact zj7 (D := ⟨γ.env, gsc, [γ.lo], A, E⟩) C (t := gT b) (o := (put (put fl 17 (.int i)) 19 (.str [c]), [])) (gT_ok hn b) rfl h2' h2'.since (r := .v (.tup [.int i, .str [c]])) ⟨_, [.int i tk, .str (St [c]) u], _, rfl, ht2, VRs.cons ⟨_, rfl⟩ (VRs.cons ⟨⟨u, rfl⟩, zdm (mem1 (zba hx.1 _ (List.mem_of_getElem? (zbl hi).1))), (by decide : 1 ≤ 65536)⟩ VRs.nil), (by decide : 2 ≤ 65536)⟩
  fun ρ' s' h' G' => hQ _ s' (L2.go D h' G' (by rw [zaa, zaa]; rfl) (by rw [zaa, zaa]; exact L2.B.a18)) (by rw [zaa]; rfl)
end
end
section
open Sem (wp)
section
variable {Ω : Bx} {A : Around} {E : Value -> Shared -> Prop} {s : Shared}
theorem zet {it : Addr} {x : Str} {t : Tok} {i : Nat} {Q : Value -> Shared -> Prop} (hh : A.handled = none) (hit : s.heap.IsStrIter it "str_ascii_iterator" x t i) (hx : x.cps[i]? = none)
 (hE : ∀ h' e, Heap.ExtBut it s.heap h' -> (∃ o, h'.get? it = some o /\ ¬ Imm o) -> (∃ o, h'.get? e = some o /\ o.cls = .type "StopIteration") -> E (.ref e) { s with heap := h' }) :
 wpAny Ω.M A (Builtin.SmallTypes.nextOf (.ref it)) Q E s := by
 obtain ⟨o, ho, hc, hd⟩ := id hit
 unfold Builtin.SmallTypes.nextOf
 refine wpAny_bind (wpAny_callSpecial?_slot (name := Str.ofString "__next__") hit.typeIs F.slot_str_ascii_iterator_next
  (wpAny_call_entry F.slot_str_ascii_iterator_next hit.typeIs F.entry_str_ascii_iterator_next ?_ (F.args_str_ascii_iterator_next_1 _)))
 show wpAny _ _ (field (.ref it) 0 >>= _) _ _ s
 refine wpAny_bind (wpAny_field ho hd (x := .str x t) rfl ?_)
 show wpAny _ _ (field (.ref it) 1 >>= _) _ _ s
 refine wpAny_bind (wpAny_field ho hd (x := .int i 0) rfl ?_)
 simp only [Int.toNat_natCast, hx]
 refine wpAny_bind (wpAny_rule (wpAny_bind (wpAny_setField ho hd (by simp) (wpAny_bind (wpAny_letGo ?_)))))
 show wpAny _ _ (newExc (.type "StopIteration") [] >>= _) _ _ _
 refine wpAny_bind ?_
 simp only [newExc, newTuple]
 refine wpAny_bind (wpAny_newObj_type ?_ (by size_fits))
 refine wpAny_bind (m := firstArgMember _ _) (wpAny_of_eq (a := Value.none) (by first | rfl | (simp only [firstArgMember]; rfl)) ?_)
 refine wpAny_newObj_type ?_ (by size_fits)
 simp only [raiseNew]
 refine wpAny_bind (wpAny_handled ?_)
 first | rw [show A.in1.handled = none from hh] | rw [hh]
 refine wpAny_bind (wpAny_pure (wpAny_throw ?_))
 refine hE _ _ (((Heap.SameBut.update ..).extBut.push _).push _) ⟨_, Heap.get?_push_of_some _ (Heap.get?_push_of_some _ (Heap.get?_update_self _ ho (Obj.isFreed_of_fields (Obj.data_mapFields hd _)))), ?_⟩ ⟨_, Heap.get?_push_size _ rfl, rfl⟩
 exact zbs ((Obj.cls_mapFields ..).trans hc) (Obj.data_mapFields hd _) (by decide)
theorem zf9 {e it : Addr} {x : Str} {t : Tok} {n : Nat} {i : Int} {old : Value} {Q : Option Value -> Shared -> Prop} (hh : A.handled = none) (he : IsEnum s.heap e it i old) (hit : s.heap.IsStrIter it "str_ascii_iterator" x t n) (hx : x.cps[n]? = none)
 (hQ : ∀ h', Heap.ExtBut it s.heap h' -> (∃ o, h'.get? it = some o /\ ¬ Imm o) -> Q none { s with heap := h' }) : wpAny Ω.M A (pyNext (.ref e)) Q E s := by
 have hT : s.TypeIs (.ref e) "enumerate" := ⟨_, he, rfl⟩
 unfold pyNext
 refine wpAny_bind (wpAny_attempt (wpAny_callSpecial?_slot (name := Str.ofString "__next__") hT F.slot_enumerate_next
  (wpAny_call_entry F.slot_enumerate_next hT F.entry_enumerate_next ?_ (F.args_enumerate_next_1 _))))
 show wpAny _ _ (field (.ref e) 2 >>= _) _ _ _
 refine wpAny_bind (wpAny_field he rfl (x := .ref it) rfl ?_)
 refine wpAny_bind (zet hh hit hx fun h' y he' hl hy' => ?_)
 obtain ⟨o, ho, hc⟩ := hy'
 refine wpAny_bind (wpAny_isInstance (T := "StopIteration") (b := true) ⟨o, ho, hc⟩ isSubtype_stop ?_)
 exact wpAny_pure (hQ _ he' hl)
end
end
section
open Sem (wp)
section
variable {γ : Gc} {cx : Cx} {Rm : Around -> Prop} {fl : L} {s s0 : Shared} {A : Around} {i : Nat} {hp : Hp}
noncomputable abbrev zdv (nm : Nat -> Str) (b : Nat) (e : Addr) (env : Env) : Code := .forLoop (tT nm (gT b)) (.ref e) (gIn nm b) [] env
noncomputable abbrev gFs (kk : Result -> Sem Fin) (c₁ : Code) (p₁ : Pos) : List PySem.Frame := [.ret kk none false [] c₁ p₁ []]
noncomputable def vE_ (o : Option V) : EvT := fun hp => bd o fun v => some (.v v, hp)
noncomputable def cE_ (r : RV) : EvT := fun hp => some (r, hp)
noncomputable def nE_ : EsT := fun hp => some ([], hp)
theorem ev_E1 {b : Nat} {c : Nat} {j : Int} (h1 : look fl 17 = some (.int j)) (h2 : look fl 19 = some (.str [c])) : ev cx fl (gE1 b) [] = some (.v (.tup [.int j, .str [92, c]]), []) := by
 show hTup (zal (vE_ (look fl 17)) (zal (hBin .Add (cE_ (.v (.str [92]))) (vE_ (look fl 19))) nE_)) [] = _
 rw [h1, h2]; rfl
theorem ev_E2 {b : Nat} {c : Nat} {j : Int} (h1 : look fl 17 = some (.int j)) (h2 : look fl 19 = some (.str [c])) : ev cx fl (gE2 b) [] = some (.v (.tup [.int j, .str [c]]), []) := by
 show hTup (zal (vE_ (look fl 17)) (zal (vE_ (look fl 19)) nE_)) [] = _
 rw [h1, h2]; rfl
theorem ev_E3 {b : Nat} {j : Int} (h1 : look fl 17 = some (.int j)) : ev cx fl (gE3 b) [] = some (.v (.tup [.int j, .str [92]]), []) := by
 show hTup (zal (vE_ (look fl 17)) (zal (cE_ (.v (.str [92]))) nE_)) [] = _
 rw [h1]; rfl
theorem tr_v {x p : Nat} {b : Bool} (h : look fl x = some (.bool b)) : tr cx fl (.var x p) hp = some (b, hp) := by
 show hTru (vE_ (look fl x)) hp = _
 rw [h]; rfl
theorem tr_C {b c : Nat} (h : look fl 19 = some (.str [c])) : tr cx fl (gC b) [] = some (Nat.beq c 92, []) := by
 show tCmp .Eq (vE_ (look fl 19)) (cE_ (.v (.str [92]))) [] = _
 rw [h]
 show some (cs (Nat.beq c 92) true false, []) = _
 cases Nat.beq c 92 <;> rfl
section
variable {n : Nat} (hn : 20 < n) (b : Nat)
include hn
theorem lt20 {x : Nat} (h : x ≤ 20) : ltB x n = true := Nat.ble_eq_true_of_le (Nat.lt_of_le_of_lt h hn)
theorem wv18 (p : Nat) : wE n gsc (.var 18 p) = true := by show and2 (ltB 18 n) true = true; rw [lt20 hn (by decide)]; rfl
theorem w1_ : wE n gsc (gE1 b) = true := by show and2 true (and2 (and2 (ltB 17 n) true) (and2 (and2 (strL "\\" [92]) (and2 (ltB 19 n) true)) true)) = true; rw [lt20 hn (by decide), lt20 hn (by decide)]; rfl
theorem w2_ : wE n gsc (gE2 b) = true := by show and2 true (and2 (and2 (ltB 17 n) true) (and2 (and2 (ltB 19 n) true) true)) = true; rw [lt20 hn (by decide), lt20 hn (by decide)]; rfl
theorem w3_ : wE n gsc (gE3 b) = true := by show and2 true (and2 (and2 (ltB 17 n) true) (and2 (strL "\\" [92]) true)) = true; rw [lt20 hn (by decide)]; rfl
theorem w4_ : wE n gsc (gC b) = true := by show and2 (and2 (ltB 19 n) true) (strL "\\" [92]) = true; rw [lt20 hn (by decide)]; rfl
theorem w5_ {e : FE} {q p : Nat} (he : wE n gsc e = true) : wS n gsc (.asg [.name 18 q] e p) = true := by show and2 (wE n gsc e) (and2 (stOk n gsc 18) true) = true; rw [he, zi8 (Nat.lt_trans (by decide : 18 < 20) hn) rfl]; rfl
end
theorem esc_t (c : Nat) (r : List Nat) (i : Nat) (p : Int) : escG (c :: r) i true p = .tup [.int i, .str [92, c]] :: escG r (i + 1) false i := rfl
theorem esc_f (c : Nat) (r : List Nat) (i : Nat) (p : Int) : escG (c :: r) i false p = cs (Nat.beq c 92) (escG r (i + 1) true i) (.tup [.int i, .str [c]] :: escG r (i + 1) false i) := rfl
structure Lft (γ : Gc) (xs : List V) (n : Nat) : Prop where
 s : ∃ pre, escG γ.x 0 false 0 = pre ++ xs
 l : xs.length = n
theorem Lft.more {y : V} {r : List V} {n : Nat} (h : Lft γ (y :: r) (n + 1)) : Lft γ r n := ⟨h.s.elim fun pre q => ⟨pre ++ [y], q.trans (List.append_assoc pre [y] r).symm⟩, Nat.succ.inj h.l⟩
theorem zjd {ρ : Rho} {s₀ s : Shared} {Ω : Bx} {y : V} {v : Value} (H : HS Ω ρ [] s) (R : RVR Ω ρ s₀ s (.v y) v) : VR [] s.heap y v := by cases zng H; exact R
noncomputable abbrev Turn (γ : Gc) (A : Around) (b : Nat) (kk : Result -> Sem Fin) (c₁ : Code) (p₁ : Pos) (r : List Nat) (i : Nat) : Prop := ∀ {esc : Bool} {p : Int} {fl : L} {s0 s : Shared} {n : Nat}, γ.x.drop i = r -> i ≤ γ.x.length -> GL γ s0 fl i esc p s -> Lft γ (escG r i esc p) n ->
 Seg γ.Ω.M A (gR γ) (gY γ) n s0 (zdv (nmOf γ.Ω) b γ.e γ.env) (γ.Ω.M.den (zdv (nmOf γ.Ω) b γ.e γ.env)) (gFs kk c₁ p₁) s
noncomputable abbrev wrp (γ : Gc) (KK : Flow -> Sem Fin) (t : Sem Flow) : Sem Fin := t.wrap KK (loopH γ.env) id id
theorem zw5 (C : CT γ.Ω cx Rm) {b : Nat} {kk : Result -> Sem Fin} {c₁ : Code} {p₁ : Pos} (hA : Rm (A.over (zdv (nmOf γ.Ω) b γ.e γ.env) (gFs kk c₁ p₁))) (K : KN γ.Ω γ.env gsc) (hco : γ.env.scope.isCoroutine = false) (hint : interactive γ.env = false) (hn : 20 < γ.Ω.nms.length) (D : GA3 γ)
 {KK : Flow -> Sem Fin} {c : Nat} {r : List Nat} {p : Int} {n : Nat} (L : GL γ s0 fl (i + 1) true i s) (h19 : look fl 19 = some (.str [c])) (hs : Lft γ (escG (c :: r) i true p) n) (next : ∀ {esc : Bool} {fl : Mine.L} {s0 s : Shared} {n : Nat}, GL γ s0 fl (i + 1) esc i s -> Lft γ (escG r (i + 1) esc i) n -> Seg γ.Ω.M A (gR γ) (gY γ) n s0 (zdv (nmOf γ.Ω) b γ.e γ.env) (KK .next) (gFs kk c₁ p₁) s) :
 Seg γ.Ω.M A (gR γ) (gY γ) n s0 (zdv (nmOf γ.Ω) b γ.e γ.env) (wrp γ KK (execs [gY1 (nmOf γ.Ω) b, tS (nmOf γ.Ω) (g3 b)] γ.env)) (gFs kk c₁ p₁) s := by
 rw [esc_t] at hs
 cases n with
 | zero => exact nomatch hs.l
 | succ n =>
  refine seg_execs_cons (seg_Expr_Yield rfl rfl rfl ?_ hco hint)
  refine (both C (gE1 b)).1 (w1_ hn b) (L.B.hs K hA).h (ev_E1 L.B.a17 h19) fun ρ3 s3 v h3 G3 R3 => fun kap hk => ?_
  have L3 := L.go0 D K hA h3 G3
  refine L3.B.yield hs.s (Nat.succ.inj hs.l) (zjd h3.H R3) fun ρ₁ ρ₂ s4 k => hk _ _ ?_
  have L4 := L3.again k
  show Seg _ _ _ _ n s4 _ (wrp γ KK (execs [tS (nmOf γ.Ω) (g3 b)] γ.env)) _ _
  refine seg_execs_cons (zd1 ?_)
  refine x_ok C (g3 b) (w5_ hn rfl) (L4.B.hs K hA) (o := (.next, put fl 18 (.bool false), [])) rfl fun ρ5 s5 f h5 G5 r5 => ?_
  rw [show f = .next from r5]
  exact next (L4.go D h5 G5 (by rw [zaa]; exact L4.B.a17) (by rw [zaa]; rfl)) hs.more
theorem zw3 (C : CT γ.Ω cx Rm) {b : Nat} {kk : Result -> Sem Fin} {c₁ : Code} {p₁ : Pos} (hA : Rm (A.over (zdv (nmOf γ.Ω) b γ.e γ.env) (gFs kk c₁ p₁))) (K : KN γ.Ω γ.env gsc) (hco : γ.env.scope.isCoroutine = false) (hint : interactive γ.env = false) (hn : 20 < γ.Ω.nms.length) (D : GA3 γ)
 {KK : Flow -> Sem Fin} {c : Nat} {r : List Nat} {p : Int} {n : Nat} (L : GL γ s0 fl (i + 1) false i s) (h19 : look fl 19 = some (.str [c])) (hs : Lft γ (escG (c :: r) i false p) n) (next : ∀ {esc : Bool} {fl : Mine.L} {s0 s : Shared} {n : Nat}, GL γ s0 fl (i + 1) esc i s -> Lft γ (escG r (i + 1) esc i) n -> Seg γ.Ω.M A (gR γ) (gY γ) n s0 (zdv (nmOf γ.Ω) b γ.e γ.env) (KK .next) (gFs kk c₁ p₁) s) :
 Seg γ.Ω.M A (gR γ) (gY γ) n s0 (zdv (nmOf γ.Ω) b γ.e γ.env) (wrp γ KK (execs [.If (tE (nmOf γ.Ω) (gC b)) [tS (nmOf γ.Ω) (g4 b)] [gY2 (nmOf γ.Ω) b] ⟨b + 6, 8, b + 9, 27⟩] γ.env)) (gFs kk c₁ p₁) s := by
 refine seg_execs_cons (zm8 ?_)
 refine (both C (gC b)).2 (w4_ hn b) (L.B.hs K hA).h (tr_C h19) fun ρ3 s3 h3 G3 => ?_
 have L3 := L.go0 D K hA h3 G3
 rw [esc_f] at hs
 cases q : Nat.beq c 92 with
 | true =>
  rw [q] at hs
  rw [if_pos rfl]
  refine seg_execs_cons (zd1 ?_)
  refine x_ok C (g4 b) (w5_ hn rfl) (L3.B.hs K hA) (o := (.next, put fl 18 (.bool true), [])) rfl fun ρ5 s5 f h5 G5 r5 => ?_
  rw [show f = .next from r5]
  exact next (L3.go D h5 G5 (by rw [zaa]; exact L3.B.a17) (by rw [zaa]; rfl)) hs
 | false =>
  rw [q] at hs
  rw [if_neg Bool.false_ne_true]
  cases n with
  | zero => exact nomatch hs.l
  | succ n =>
   refine seg_execs_cons (seg_Expr_Yield rfl rfl rfl ?_ hco hint)
   refine (both C (gE2 b)).1 (w2_ hn b) (L3.B.hs K hA).h (ev_E2 L3.B.a17 h19) fun ρ4 s4 v h4 G4 R4 => fun kap hk => ?_
   have L4 := L3.go0 D K hA h4 G4
   exact L4.B.yield hs.s (Nat.succ.inj hs.l) (zjd h4.H R4) fun ρ₁ ρ₂ s5 k => hk _ _ (next (L4.again k) hs.more)
theorem zrf (C : CT γ.Ω cx Rm) {b : Nat} {kk : Result -> Sem Fin} {c₁ : Code} {p₁ : Pos} (hA : Rm (A.over (zdv (nmOf γ.Ω) b γ.e γ.env) (gFs kk c₁ p₁))) (D : GA3 γ) (hend : ∀ {fl s0 s esc p n}, GLE γ s0 fl esc p s -> Lft γ (escG [] γ.x.length esc p) n -> Seg γ.Ω.M A (gR γ) (gY γ) n s0 c₁ (kk (.ok .next)) [] s) : Turn γ A b kk c₁ p₁ [] i := by
 intro esc p fl s0 s n hd hi L hs
 cases (Nat.le_antisymm hi (List.drop_eq_nil_iff.mp hd) : i = γ.x.length)
 obtain ⟨old, he⟩ := L.N.E
 obtain ⟨oi, hi, ni⟩ := zrd L.N.S
 refine zfc (zf9 (C.rm _ hA).1 he L.N.S (zg7 hd) fun h' hx' hal => zw6 (hend (fl := fl) ?_ hs))
 have k : ∀ q o, q ≠ γ.it -> s.heap.get? q = some o -> h'.get? q = some o := fun q o n h => hx' q o n h
 have im : ImmK s.heap h' := fun q o h z => k q o (fun e => ni (prf (hi.symm.trans (e ▸ h)) ▸ z)) h
 refine ⟨L.B.G.keep (fun o h => k _ o D.li h) im (fun q o h => k q o (fun z => sn D.bi (z ▸ h)) (L.B.G.H.base q o h)) L.B.G.H.gens, fun y hy => ?_, zhr L.B.c ⟨fun q o h n => k q o (fun z => n (z ▸ .tail _ (.tail _ (.head _)))) h, im, fun _ _ _ h => h, L.B.G.H.gens, rfl⟩, L.B.a17, L.B.a18⟩
 by_cases z : y = γ.it
 · rw [z]; exact hal
 · exact (L.B.al y hy).elim fun o h => ⟨o, k y o z h.1, h.2⟩
theorem zm7 (C : CT γ.Ω cx Rm) {b : Nat} {kk : Result -> Sem Fin} {c₁ : Code} {p₁ : Pos} (hA : Rm (A.over (zdv (nmOf γ.Ω) b γ.e γ.env) (gFs kk c₁ p₁))) (K : KN γ.Ω γ.env gsc) (hco : γ.env.scope.isCoroutine = false) (hint : interactive γ.env = false) (hn : 20 < γ.Ω.nms.length) (D : GA3 γ) (hx : sOk γ.x)
 (hend : ∀ {fl s0 s esc p n}, GLE γ s0 fl esc p s -> Lft γ (escG [] γ.x.length esc p) n -> Seg γ.Ω.M A (gR γ) (gY γ) n s0 c₁ (kk (.ok .next)) [] s) (l : List Nat) : ∀ {i : Nat}, Turn γ A b kk c₁ p₁ l i := by
 induction l with
 | nil => exact zrf C hA D hend
 | cons c r ih =>
  intro i esc p fl s0 s n hd hi L hs
  refine zfc ?_
  refine wpAny_mono (zmr (b := b) C hA K hn D hx L hd (E := fun _ _ => False) (Q := fun _ s'' => Seg γ.Ω.M A (gR γ) (gY γ) n s0 (zdv (nmOf γ.Ω) b γ.e γ.env) (wrp γ (loopK (tT (nmOf γ.Ω) (gT b)) (.ref γ.e) (gIn (nmOf γ.Ω) b) [] γ.env) (execs (gIn (nmOf γ.Ω) b) γ.env)) (gFs kk c₁ p₁) s'') fun fl1 s1 L1 h19 => ?_) (fun o s' h => ?_) (fun _ _ h => h)
  rotate_left
  · cases o with
    | none => exact h.elim
    | some v => exact h
  refine seg_execs_cons (zm8 ?_)
  refine (both C (.var 18 (gl (b + 3) 11 17))).2 (wv18 hn _) (L1.B.hs K hA).h (tr_v L1.B.a18) fun ρ2 s2 h2 G2 => ?_
  have L2 := L1.go0 D K hA h2 G2
  have next : ∀ {esc : Bool} {fl : Mine.L} {s0 s : Shared} {n : Nat}, GL γ s0 fl (i + 1) esc i s -> Lft γ (escG r (i + 1) esc i) n -> Seg γ.Ω.M A (gR γ) (gY γ) n s0 (zdv (nmOf γ.Ω) b γ.e γ.env) (.pure (.again (zdv (nmOf γ.Ω) b γ.e γ.env))) (gFs kk c₁ p₁) s := fun L' hs' => seg_again rfl (ih (zbl hd).2 (List.getElem?_eq_some_iff.mp (zbl hd).1).1 L' hs')
  cases esc with
  | true => rw [if_pos rfl]; exact zw5 C hA K hco hint hn D L2 h19 hs next
  | false => rw [if_neg Bool.false_ne_true]; exact zw3 C hA K hco hint hn D L2 h19 hs next
end
end
section
open Sem (wp)
section
variable {γ : Gc} {cx : Cx} {Rm : Around -> Prop} {fl : L} {s s0 : Shared} {A : Around} {b : Nat}
noncomputable abbrev fnK : Flow -> Sem Fin := fun f => .pure (.done (.ret (match f with | .ret v => v | _ => .none)))
noncomputable abbrev fnH (env : Env) : Value -> Sem Fin := fun e => (leaving env e).wrap (fun _ => .raise e) .raise id id
theorem gen_end (C : CT γ.Ω cx Rm) (hA : Rm (A.over (.func (zc8 (nmOf γ.Ω) b) γ.env) [])) (K : KN γ.Ω γ.env gsc) (hco : γ.env.scope.isCoroutine = false) (hint : interactive γ.env = false) (hn : 20 < γ.Ω.nms.length) (D : GA3 γ) {esc : Bool} {p : Int} {n : Nat}
 (L : GLE γ s0 fl esc p s) (hs : Lft γ (escG [] γ.x.length esc p) n) :
 Seg γ.Ω.M A (gR γ) (gY γ) n s0 (.func (zc8 (nmOf γ.Ω) b) γ.env) ((execs [gEnd (nmOf γ.Ω) b] γ.env).wrap fnK (fnH γ.env) id id) [] s := by
 refine seg_execs_cons (zm8 ?_)
 refine (both C (.var 18 (gl (b + 10) 7 13))).2 (wv18 hn _) (L.hs K hA).h (tr_v L.a18) fun ρ2 s2 h2 G2 => ?_
 have L2 := L.go0 D K hA h2 G2
 cases esc with
 | false =>
  rw [if_neg Bool.false_ne_true]
  exact seg_end (.ok (.ret .none)) ⟨rfl, hs.l.symm, L2.c⟩
 | true =>
  rw [if_pos rfl]
  cases hs.l
  refine seg_execs_cons (seg_Expr_Yield rfl rfl rfl ?_ hco hint)
  refine (both C (gE3 b)).1 (w3_ hn b) (L2.hs K hA).h (ev_E3 L2.a17) fun ρ3 s3 v h3 G3 R3 => fun kap hk => ?_
  exact (L2.go0 D K hA h3 G3).yield hs.s rfl (zjd h3.H R3) fun ρ₁ ρ₂ s4 k => hk _ _ (seg_end (.ok (.ret .none)) ⟨rfl, rfl, ((L2.go0 D K hA h3 G3).again k).c⟩)
theorem zkl (G : GF γ.Ω γ.env γ.lo fl s) {q : Addr} (h : s.heap.objs.size ≤ q) : γ.Ω.h₀.get? q = none := zc5 (o := (none : Option Obj)) (fun o e => absurd (Heap.lt_size (G.H.base _ o e)) (Nat.not_lt.mpr h)) rfl
theorem gen_run {env : Env} {Ω : Bx} {a lo : Addr} {x : List Nat} (C : CT Ω cx Rm) (hA : Rm (A.over (.func (zc8 (nmOf Ω) b) env) [])) (hA2 : ∀ e kk c₁ p₁, c₁ = .func (zc8 (nmOf Ω) b) env -> Rm (A.over (zdv (nmOf Ω) b e env) (gFs kk c₁ p₁))) (K : KN Ω env gsc) (hco : env.scope.isCoroutine = false) (hint : interactive env = false)
 (hn : 20 < Ω.nms.length) (hgl : look cx.glo 20 = some (.bi .enumerate)) (hx : sOk x) (G : GF Ω env lo [(16, .str x)] s0) (t0 : Tok) :
 Seg Ω.M A (gR ⟨Ω, env, a, lo, s0.heap.objs.size + 1, s0.heap.objs.size, x, t0⟩) (gY ⟨Ω, env, a, lo, s0.heap.objs.size + 1, s0.heap.objs.size, x, t0⟩) (escG x 0 false 0).length s0 (.func (zc8 (nmOf Ω) b) env) (Ω.M.den (.func (zc8 (nmOf Ω) b) env)) [] s0 := by
 have l20 : ∀ {y}, y < 20 -> y < Ω.nms.length := fun h => Nat.lt_trans h hn
 refine seg_func (seg_execs_cons (zd1 ?_))
 refine zo1 C K G (y := 17) (l20 (by decide)) rfl (v := .int 0) (fun {Q} h => wpAny_Constant_int (h _ _ ⟨_, rfl⟩)) rfl rfl fun h1 t1 hs1 G1 => ?_
 refine seg_execs_cons (zd1 ?_)
 refine zo1 C K G1 (y := 18) (l20 (by decide)) rfl (v := .bool false) (fun {Q} h => wpAny_Constant_bool (h _ t1 rfl)) rfl rfl fun h2 t2 hs2 G2 => ?_
 have hs2 : Heap.SameBut lo h1 h2 := hs2
 have hz : h2.objs.size = s0.heap.objs.size := hs2.1.trans hs1.1
 obtain ⟨ol, hol, niL⟩ := G.live
 have lolt : lo < s0.heap.objs.size := Heap.lt_size hol
 refine seg_execs_cons (zw7 (fun x => rfl) (git_ok C K G2 hgl (x := x) rfl hx fun h3 t3 G3 hk3 N3 => ?_))
 have hk3 : ∀ b o, h2.get? b = some o -> h3.get? b = some o := hk3
 obtain ⟨old, hE⟩ := N3.E
 refine wpAny_pyIter_enum hE fun p => ?_
 have N3' : GN (s0.heap.objs.size + 1) s0.heap.objs.size x t3 0 { s0 with heap := h3, toks := t2 } := hz ▸ N3
 have D : GA3 ⟨Ω, env, a, lo, s0.heap.objs.size + 1, s0.heap.objs.size, x, t3⟩ := ⟨Nat.ne_of_lt (Nat.lt_succ_of_lt lolt), Nat.ne_of_lt lolt, Nat.succ_ne_self _, zkl (γ := ⟨Ω, env, a, lo, 0, 0, x, t3⟩) G (Nat.le_succ _), zkl (γ := ⟨Ω, env, a, lo, 0, 0, x, t3⟩) G (Nat.le_refl _)⟩
 have keep : ∀ q o, q ≠ lo -> s0.heap.get? q = some o -> h3.get? q = some o := fun q o n h => hk3 q o ((hs2.2 q n).trans ((hs1.2 q n).trans h))
 show Seg _ _ _ _ _ _ (.forLoop _ (.ref (h2.objs.size + 1)) _ _ _) _ _ _
 rw [hz]
 refine zm7 (γ := ⟨Ω, env, a, lo, s0.heap.objs.size + 1, s0.heap.objs.size, x, t3⟩) C (hA2 _ _ _ _ rfl) K hco hint hn D hx (fun L hs => gen_end C hA K hco hint hn D L hs) x rfl (Nat.zero_le _)
  ⟨⟨G3, fun y hy => (List.mem_cons.mp hy).elim (fun q => q ▸ G3.live) (mem2 (p := fun y => ∃ o, h3.get? y = some o /\ ¬ Imm o) ⟨_, hz ▸ hE, zbs rfl rfl (by decide)⟩ (zrd N3'.S) y), ⟨fun q o h n => keep q o (fun z => n (z ▸ .head _)) h, fun q o h i => keep q o (fun z => niL (prf (hol.symm.trans (z ▸ h)) ▸ i)) h, fun _ _ _ h => h, G.H.gens, rfl⟩, rfl, rfl⟩, N3'⟩ ⟨⟨[], rfl⟩, rfl⟩
end
end
section
open Sem (wp)
section
variable {γ : Gc} {cx : Cx} {s s' : Shared} {A : Around} {g : Nat} {ρ ρ' : Rho}
theorem rm_func {Ω : Bx} {env : Env} {d b : Nat} (R : Rm (d + 2) A) : Rm d (A.in1.over (.func (zc8 (nmOf Ω) b) env) []) := by
 have h1 := R.dp
 have h2 := R.un
 refine ⟨R.hd, ?_, ?_⟩
 · show (A.depth + 0 + 1) + d < _; omega
 · show (A.units + 1 + 0 + 3) + 20 * d + 100 < _; omega
theorem rm_loop {Ω : Bx} {env : Env} {d b : Nat} (R : Rm (d + 2) A) (e : Addr) (kk : Result -> Sem Fin) (c₁ : Code) (p₁ : Pos) (hc : c₁ = .func (zc8 (nmOf Ω) b) env) : Rm d (A.in1.over (zdv (nmOf Ω) b e env) (gFs kk c₁ p₁)) := by
 subst hc
 have h1 := R.dp
 have h2 := R.un
 refine ⟨R.hd, ?_, ?_⟩
 · show (A.depth + 1 + 0) + d < _; omega
 · show (A.units + 1 + 3 + 0) + 20 * d + 100 < _; omega
theorem zhu {gs : GenState} (h : AllBare s.gens) (hb : gs.bare = true) : AllBare (s.setGen g gs).gens := by
 intro y hy
 have hy : y ∈ s.gens.setIfInBounds g gs := hy
 obtain ⟨i, hi, rfl⟩ := List.getElem_of_mem (Array.mem_toList_iff.mpr hy)
 simp only [Array.toList_setIfInBounds, List.getElem_set] at *
 split
 · exact hb
 · exact h _ (by simp)
theorem zlb {gs : GenState} {k : Nat} (h : k ≠ g) : (s.setGen g gs).gens[k]? = s.gens[k]? := by
 show (s.gens.setIfInBounds g gs)[k]? = _
 rw [Array.getElem?_setIfInBounds_ne (Ne.symm h)]
theorem zin {gs : GenState} (h : g < s.gens.size) : (s.setGen g gs).gens[g]? = some gs := by
 show (s.gens.setIfInBounds g gs)[g]? = _
 rw [Array.getElem?_setIfInBounds_self_of_lt h]
theorem zpr {ads as : List Addr} {gs gs' : GenState} {h' : Heap} (c : Ch as [] (s.setGen g gs) s') (hh : ∀ b o, s'.heap.get? b = some o -> h'.get? b = some o) (hs : ∀ b ∈ as, b ∈ ads ∨ s.heap.get? b = none) (hb : gs'.bare = true) : Ch ads [g] s { s'.setGen g gs' with heap := h' } :=
 ⟨fun b o e n => hh b o (c.keep b o e fun q => (hs b q).elim n fun z => sn z e), fun b o e i => hh b o (c.imm b o e i), fun k st n e => have n' : k ≠ g := fun q => n (List.mem_singleton.mpr q)
  (zlb n').trans (c.gens k st nofun ((zlb n').trans e)), zhu c.bare hb, c.os⟩
theorem zmu {α : Type} {p q xs ys : List α} (h : p ++ xs = q ++ ys) (hl : xs.length = ys.length) : xs = ys := (List.append_inj' h hl).2
theorem zo9 (ρ : Rho) : Ext [] ρ := fun n e h => nn (show none = some e from h)
noncomputable abbrev zp9 (γ : Gc) (A : Around) (n : Nat) (gs : GenState) (s : Shared) : Prop := gs.Goes γ.Ω.M A.in1 (gR γ) (gY γ) n (.send .none) s
theorem zde {a : Addr} (hg : s.heap.IsGen a g) (k : ∀ o, s.heap.get? a = some o -> s'.heap.get? a = some o) : s'.heap.IsGen a g := hg.elim fun o h => h.elim fun nm h => h.elim fun qn h => ⟨o, nm, qn, k o h.1, h.2⟩
theorem zo5 {a : Addr} (hg : s.heap.IsGen a g) : ∃ o n, s.heap.get? a = some o /\ o.cls = .type n /\ owns n = false /\ ¬ Imm o := by
 obtain ⟨o, nm, qn, ho, hcls, hd, _⟩ := hg
 exact ⟨o, _, ho, hcls, by decide, zbs hcls hd (by decide)⟩
structure Rest (γ : Gc) (A : Around) (g : Nat) (xs : List V) (gs : GenState) (s : Shared) : Prop where
 x : ∃ pre, escG γ.x 0 false 0 = pre ++ xs
 gn : s.heap.IsGen γ.a g
 st : s.gens[g]? = some gs
 go : ∀ (ρ₁ ρ₂ : Rho) s3, Kp γ.Ω [γ.a, γ.lo, γ.e, γ.it] [] ρ₁ s ρ₂ s3 -> zp9 γ A xs.length gs s3
theorem zi6 (hh : A.handled = none) (hdp : A.depth < recursionLimit) (lim : γ.Ω.h₀.NoLimit) {ads : List Addr} (hads : ∀ b ∈ [γ.lo, γ.e, γ.it], b ∈ ads ∨ s.heap.get? b = none) (hal : γ.a ∉ [γ.lo, γ.e, γ.it]) {gs : GenState} {xs : List V} (hx : ∃ pre, escG γ.x 0 false 0 = pre ++ xs) (hg : s.heap.IsGen γ.a g) (hgs : s.gens[g]? = some gs) (base : ∀ b o, γ.Ω.h₀.get? b = some o -> s.heap.get? b = some o)
 (G : zp9 γ A xs.length gs (s.setGen g .running)) {Q : Option Value -> Shared -> Prop} {E : Value -> Shared -> Prop} (h0 : xs = [] -> ∀ s'', Ch ads [g] s s'' -> Q none s'')
 (h1 : ∀ y r, xs = y :: r -> ∀ v s'' gs', Ch ads [g] s s'' -> Al γ.a [γ.a, γ.lo, γ.e, γ.it] s'' -> VR [] s''.heap y v -> Rest γ A g r gs' s'' -> Q (some v) s'') :
 wpAny γ.Ω.M A (pyNext (.ref γ.a)) Q E s := by
 have glt : g < s.gens.size := (Array.getElem?_eq_some_iff.mp hgs).1
 refine zjf (P := fun n s0 s1 => n = 0 /\ Ch [γ.lo, γ.e, γ.it] [] s0 s1) hh (lim.keeps base) hdp hg hgs G (fun v s1 gs' hb hy => ?_) (fun s1 hp h' hk => h0 (List.length_eq_zero_iff.mp hp.1) _ (zpr hp.2 hk hads rfl))
 obtain ⟨hc, hlive, hbase, ⟨pre', y', rest', heq, hlen, hv⟩, hcl⟩ := hy
 cases xs with
 | nil => exact (hcl [] [] s1 ⟨Ext.refl _, fun _ _ e _ => e, fun _ _ _ e => e, nofun, hc.bare, hbase⟩).elim
 | cons y r =>
  obtain ⟨pre, hx⟩ := hx
  obtain ⟨e1, e2⟩ := List.cons.inj (zmu (hx.symm.trans heq) (congrArg (· + 1) hlen.symm))
  rw [← e1] at hv
  have hg2 : (s1.setGen g gs').heap.IsGen γ.a g := zde (s := s) hg fun o e => hc.keep _ o e hal
  have glt2 : g < s1.gens.size := (Array.getElem?_eq_some_iff.mp (hc.gens g _ nofun (zin glt))).1
  obtain ⟨o, nm, ho, h2, h3, h4⟩ := zo5 hg2
  exact h1 y r rfl v _ gs' (zpr (gs' := gs') (h' := s1.heap) hc (fun _ _ e => e) hads hb) ⟨fun b hb => (List.mem_cons.mp hb).elim (fun q => q ▸ ⟨o, ho, h4⟩) (hlive b), ⟨o, nm, ho, h2, h3⟩, .head _⟩ hv
   ⟨⟨pre ++ [y], hx.trans (List.append_assoc pre [y] r).symm⟩, hg2, zin glt2, fun ρ₁ ρ₂ s3 k => hcl ρ₁ ρ₂ s3 ⟨k.ext, k.imm, k.keep, nofun, k.bare, k.base⟩⟩
end
end
section
open Sem (wp)
section
variable {γ : Gc} {cx : Cx} {s s' : Shared} {A : Around} {g : Nat} {ρ ρ' : Rho}
theorem Kp.wk {Ω : Bx} {W : WkT} {ads : List Addr} {gi : List Nat} (k : Kp (Ω.wk W) ads gi ρ s ρ' s') : Kp Ω ads gi ρ s ρ' s' := ⟨k.ext, k.imm, k.keep, k.gens, k.bare, k.base⟩
theorem itr_wk {Ω : Bx} {W : WkT} {it : Addr} {gi : List Nat} {xs : List V} : ∀ {ads : List Addr} {ρ : Rho} {s : Shared}, ItrG Ω A it gi xs ads ρ s -> ItrG (Ω.wk W) A it gi xs ads ρ s := by
 induction xs with
 | nil => exact fun h ρ' s' k => h ρ' s' k.wk
 | cons x r ih => exact fun h ρ' s' k Q E hQ => h ρ' s' k.wk Q E fun v s'' ads' g c a R i => hQ v s'' ads' g c a R (ih i)
theorem DE.wk {Ω : Bx} {W : WkT} {h : Heap} {d : List (Nat × V)} : ∀ {es : List DictEntry}, DE (Ω.wk W) ρ h d es -> DE Ω ρ h d es := by
 induction d with
 | nil => exact fun H => H
 | cons p d ih => exact fun ⟨e, r, q, h1, h2, h3, h4⟩ => ⟨e, r, q, h1, h2, h3, ih h4⟩
theorem OR.wk {Ω : Bx} {W : WkT} {h : Heap} {o : O} {e : List Addr} (H : OR (Ω.wk W) ρ h o e) : OR Ω ρ h o e := by
 cases o with
 | inst c d => exact H.elim fun a H => H.elim fun b H => H.elim fun es H => H.elim fun n H => ⟨a, b, es, n, H.1, H.2.1, H.2.2.1, H.2.2.2.1.wk, H.2.2.2.2⟩
 | _ => exact H
theorem HS.wk {Ω : Bx} {W : WkT} {hp : Hp} (H : HS (Ω.wk W) ρ hp s) : HS Ω ρ hp s := ⟨H.base, H.fresh, H.nodup, H.len, fun n o e h1 h2 => (H.obj n o e h1 h2).wk, H.gens⟩
theorem KN.wk {Ω : Bx} {W : WkT} {env : Env} {sc : List (Nat × Nat)} (K : KN (Ω.wk W) env sc) : KN Ω env sc := ⟨K.loc, K.one, K.cel, K.glo, K.no⟩
theorem Rest.kp {gs : GenState} {xs : List V} (R : Rest γ A g xs gs s) (k : Kp γ.Ω [γ.a, γ.lo, γ.e, γ.it] [g] ρ s ρ' s') : s'.heap.IsGen γ.a g /\ s'.gens[g]? = some gs /\ zp9 γ A xs.length gs (s'.setGen g .running) :=
 ⟨zde R.gn (k.keep _ (.head _)), k.gens g (.head _) gs R.st, R.go ρ ρ' _ ⟨k.ext, k.imm, k.keep, nofun, zhu k.bare rfl, k.base⟩⟩
theorem zsv (hh : A.handled = none) (hdp : A.depth < recursionLimit) (lim : γ.Ω.h₀.NoLimit) (hal : γ.a ∉ [γ.lo, γ.e, γ.it]) {xs : List V} : ∀ {gs : GenState} {ρ : Rho} {s : Shared}, Rest γ A g xs gs s -> ItrG γ.Ω A γ.a [g] xs [γ.a, γ.lo, γ.e, γ.it] ρ s := by
 have hads : ∀ {s : Shared}, ∀ b ∈ [γ.lo, γ.e, γ.it], b ∈ [γ.a, γ.lo, γ.e, γ.it] ∨ s.heap.get? b = none := fun b hb => .inl (.tail _ hb)
 induction xs with
 | nil => exact fun R ρ' s' k Q E hQ => have z := R.kp k; zi6 hh hdp lim hads hal R.x z.1 z.2.1 k.base z.2.2 (fun _ => hQ) fun y r z => nomatch z
 | cons y r ih =>
  intro gs ρ s R ρ' s' k Q E hQ
  have z := R.kp k
  refine zi6 hh hdp lim hads hal R.x z.1 z.2.1 k.base z.2.2 (fun z => nomatch z) fun y' r' z v s'' gs' hc hA hv R' => ?_
  obtain ⟨e1, e2⟩ := List.cons.inj z
  rw [← e1] at hv
  rw [← e2] at R'
  exact hQ v s'' _ (fun b hb => .inl hb) hc hA (VR.mono (zo9 _) (fun _ _ e _ => e) _ _ hv) (ih R')
noncomputable def WkG (Ω : Bx) (b : Nat) : WkT := fun xs a os g st => ∃ (env : Env) (lo : Addr) (x : List Nat), xs = escG x 0 false 0 /\ sOk x /\ os.map Prod.fst = [a, lo] /\ a ≠ lo /\ st = .fresh (.func (zc8 (nmOf Ω) b) env) /\ KN Ω env gsc /\ env.scope.isCoroutine = false /\ interactive env = false /\ (∀ p ∈ os, ¬ Imm p.2) ∧
 ∀ s, (∀ p ∈ os, s.heap.get? p.1 = some p.2) -> AllBare s.gens -> (∀ b o, Ω.h₀.get? b = some o -> s.heap.get? b = some o) -> GF Ω env lo [(16, .str x)] s /\ s.heap.IsGen a g
theorem zta {Ω : Bx} {env : Env} {a lo : Addr} {x : List Nat} {d b : Nat} (C : CT Ω cx (Rm d)) (lim : Ω.h₀.NoLimit) (hn : 20 < Ω.nms.length) (hgl : look cx.glo 20 = some (.bi .enumerate)) (hA : Rm (d + 2) A) (hx : sOk x) (hne : a ≠ lo) (K : KN Ω env gsc) (hco : env.scope.isCoroutine = false) (hint : interactive env = false)
 (hg : s.heap.IsGen a g) (hst : s.gens[g]? = some (.fresh (.func (zc8 (nmOf Ω) b) env))) (base : ∀ b o, Ω.h₀.get? b = some o -> s.heap.get? b = some o) (G : GF Ω env lo [(16, .str x)] (s.setGen g .running)) {Q : Option Value -> Shared -> Prop} {E : Value -> Shared -> Prop} (h0 : escG x 0 false 0 = [] -> ∀ s'', Ch [a, lo] [g] s s'' -> Q none s'')
 (h1 : ∀ y r, escG x 0 false 0 = y :: r -> ∀ v s'' ads', (∀ b ∈ ads', b ∈ [a, lo] ∨ s.heap.get? b = none) -> Ch [a, lo] [g] s s'' -> Al a ads' s'' -> VR ρ s''.heap y v -> ItrG Ω A a [g] r ads' ρ s'' -> Q (some v) s'') : wpAny Ω.M A (pyNext (.ref a)) Q E s := by
 have hh := hA.hd
 have hdp : A.depth < recursionLimit := Nat.lt_of_le_of_lt (Nat.le_add_right _ _) hA.dp
 have sz := zb7 s.heap
 have sz1 : s.heap.get? (s.heap.objs.size + 1) = none := zc5 (o := (none : Option Obj)) (fun o e => absurd (Heap.lt_size e) (Nat.not_lt.mpr (Nat.le_succ _))) rfl
 obtain ⟨o, _, ho, _⟩ := zo5 hg
 have hal : a ∉ [lo, s.heap.objs.size + 1, s.heap.objs.size] := fun z => (List.mem_cons.mp z).elim hne fun z => (mem2 (p := fun b => b ≠ a) (fun e => sn sz1 (e ▸ ho)) (fun e => sn sz (e ▸ ho)) a z) rfl
 have hads : ∀ b ∈ [lo, s.heap.objs.size + 1, s.heap.objs.size], b ∈ [a, lo] ∨ s.heap.get? b = none := fun b hb => (List.mem_cons.mp hb).elim (fun e => .inl (e ▸ .tail _ (.head _))) fun hb => .inr (mem2 (p := fun b => s.heap.get? b = none) sz1 sz b hb)
 exact zi6 (γ := ⟨Ω, env, a, lo, s.heap.objs.size + 1, s.heap.objs.size, x, 0⟩) hh hdp lim hads hal ⟨[], rfl⟩ hg hst base ⟨rfl, gen_run C (rm_func hA) (fun e kk c₁ p₁ hc => rm_loop hA e kk c₁ p₁ hc) K hco hint hn hgl hx G 0⟩ h0 fun y r hyr v s'' gs' hc hAl hv R =>
  h1 y r hyr v s'' _ (fun b hb => (List.mem_cons.mp hb).elim (fun e => .inl (e ▸ .head _)) (hads b)) hc hAl (VR.mono (zo9 _) (fun _ _ e _ => e) _ _ hv) (zsv hh hdp lim hal R)
theorem wk0 {Ω : Bx} {d b : Nat} (C : CT Ω cx (Rm d)) (lim : Ω.h₀.NoLimit) (hn : 20 < Ω.nms.length) (hgl : look cx.glo 20 = some (.bi .enumerate)) : Wk0 (Ω.wk (WkG Ω b)) (Rm (d + 2)) := by
 intro A xs a os g st ρ s E Q hA hW hos hst hbare hbase hQ
 obtain ⟨env, lo, x, e1, hx, hos2, hne, e2, K, hco, hint, hni, hcl⟩ := hW
 obtain ⟨G, hg⟩ := hcl s hos hbare hbase
 rw [e1, hos2] at hQ
 rw [e2] at hst
 obtain ⟨o, nm, ho, hc, hw, _⟩ := zo5 hg
 refine wpAny_pyIter_gen hg (hQ hni (.head _) ⟨o, nm, ho, hc, hw⟩ (fun s' k Q E q => wpAny_pyIter_gen (zde hg (k a (.head _))) q) (itr_wk ?_))
 have core : ∀ (ρ' : Rho) (s' : Shared), Kp Ω [a, lo] [g] ρ s ρ' s' -> ∀ {Q : Option Value -> Shared -> Prop} {E : Value -> Shared -> Prop}, (escG x 0 false 0 = [] -> ∀ s'', Ch [a, lo] [g] s' s'' -> Q none s'') ->
  (∀ y r, escG x 0 false 0 = y :: r -> ∀ v s'' ads', (∀ b ∈ ads', b ∈ [a, lo] ∨ s'.heap.get? b = none) -> Ch [a, lo] [g] s' s'' -> Al a ads' s'' -> VR ρ' s''.heap y v -> ItrG Ω A a [g] r ads' ρ' s'' -> Q (some v) s'') -> wpAny Ω.M A (pyNext (.ref a)) Q E s' := fun ρ' s' k Q E q0 q1 =>
  zta C lim hn hgl hA hx hne K hco hint (zde hg (k.keep a (.head _))) (k.gens g (.head _) _ hst) k.base (hcl (s'.setGen g .running) (fun p hp => k.keep p.1 (hos2 ▸ List.mem_map.mpr ⟨p, hp, rfl⟩) _ (hos p hp)) (zhu k.bare rfl) k.base).1 q0 q1
 cases q : escG x 0 false 0 with
 | nil => exact fun ρ' s' k Q E hQ => core ρ' s' k (fun _ => hQ) fun y r z => nomatch (q.symm.trans z)
 | cons y r =>
  intro ρ' s' k Q E hQ
  refine core ρ' s' k (fun z => nomatch (q.symm.trans z)) fun y' r' z v s'' ads' h1 h2 h3 h4 h5 => ?_
  obtain ⟨z1, z2⟩ := List.cons.inj (q.symm.trans z)
  exact hQ v s'' ads' h1 h2 h3 (z1 ▸ h4) (z2 ▸ h5)
end
end
section
open Sem (wp)
noncomputable def genS (as : List RV) (ks : List (Nat × RV)) (hp : Hp) : Option (RV × Hp) := ifb (emp ks) (bd (a1 as) fun r => bd (rS r) fun x => some (.g (escG x 0 false 0), hp))
structure GnOk (K : Frag) (Ω : Bx) (b : Nat) (f : Addr) : Prop where
 ex : ∃ (oc : Value) (od : Option Addr) (osl : Array (Option Value)) (name qual : Str) (params : Arguments) (dV kV doc pm cdv ct : Value) (an : Option Addr),
  K.lookup f = some ⟨oc, od, .func (fnOf name qual params (zc8 (nmOf Ω) b) (scG (nmOf Ω) gsc) dV kV doc pm an cdv ct), osl⟩ /\ codeIn K cdv qual = true ∧
  ∀ (s : Shared) (u : Value), K.In s.heap -> BindsTo s (fnOf name qual params (zc8 (nmOf Ω) b) (scG (nmOf Ω) gsc) dV kV doc pm an cdv ct) ⟨[u], []⟩ [(nmOf Ω 16, u)]
 keep : keepIn K (.ref f) = true
section
variable {Ω : Bx} {K : Frag} {ρ₀ ρ : Rho} {hp : Hp} {s₀ s s1 s3 sB : Shared} {A : Around} {E Q : Value -> Shared -> Prop} {env : Env} {x : List Nat} {ol : Obj}
theorem gf_of {W : WkT} (F : Frm (Ω.wk W) env gsc [(16, .str x)] ρ hp sB s1) (hcn : env.cells = []) (hol : s1.heap.get? env.locals = some ol) (hil : ¬ Imm ol) (h3 : s3.heap.get? env.locals = some ol) (hb : AllBare s3.gens) (base : ∀ b o, Ω.h₀.get? b = some o -> s3.heap.get? b = some o) : GF Ω env env.locals [(16, .str x)] s3 := by
 obtain ⟨m, ⟨o', es, ep, ho', hr⟩, hm⟩ := F.F.ns
 have cn : ∀ {n c} {G : Prop}, env.cells.lookup n = some c -> G := fun h => nn (show none = some _ from (by rw [hcn] at h; exact h))
 rw [prf (ho'.symm.trans hol)] at hr
 refine ⟨⟨base, nofun, List.nodup_nil, rfl, fun n o e h => nn h, hb⟩, ⟨F.F.kind, F.F.glob, F.F.blt, F.F.ids, ⟨m, ⟨ol, es, ep, h3, hr⟩, fun y v h1 h2 => ?_⟩, fun y v h1 h2 => (F.F.cel y v h1 h2).elim fun c h => h.elim fun v' h => cn h.1, .head _, fun _ _ => List.not_mem_nil, fun b hb => ⟨ol, List.mem_singleton.mp hb ▸ h3, hil⟩⟩,
  ⟨fun y c _ h => cn h, fun y z c _ _ h => cn h, fun y h1 h2 => (F.C.has y h1 h2).elim fun c h => cn h, fun b hb => F.C.base b (List.mem_singleton.mp hb ▸ .head _)⟩⟩
 obtain ⟨v', h6, h7⟩ := hm y v h1 h2
 rcases zcu h1 with ⟨_, q⟩ | h1
 · have q : V.str x = v := q
   subst q
   exact ⟨v', h6, h7⟩
 · exact nn h1
theorem zs3 (hn : 20 < Ω.nms.length) : Pars Ω gsc [16] := by
 refine ⟨?_, List.nodup_cons.mpr ⟨List.not_mem_nil, List.nodup_nil⟩, fun x h => .inl (List.mem_singleton.mp h ▸ rfl)⟩
 show and2 (or2 (ltB 16 _) false) (and2 true (and2 true (and2 (or2 (ltB 17 _) false) (and2 true (and2 true (and2 (or2 (ltB 18 _) false) (and2 true (and2 true (and2 (or2 (ltB 19 _) false) (and2 true (and2 true (and2 (or2 (ltB 20 _) true) (and2 true (and2 true true)))))))))))))) = true
 rw [lt20 hn (by decide : 16 ≤ 20), lt20 hn (by decide : 17 ≤ 20), lt20 hn (by decide : 18 ≤ 20), lt20 hn (by decide : 19 ≤ 20), lt20 hn (by decide : 20 ≤ 20)]
 rfl
noncomputable abbrev zs4 (n q : Str) (s : Shared) : Obj := { cls := .type "generator", data := .fields #[.int s.gens.size 0, .str n s.toks, .str q (s.toks + 1)] }
noncomputable abbrev goS (n q : Str) (c : Code) (s : Shared) : Shared := { s with gens := s.gens.push (.fresh c), toks := s.toks + 1 + 1, heap := s.heap.push (zs4 n q s) }
theorem go_new {s₀ : Shared} {n q : Str} {c : Code} (H : HS Ω ρ hp s1) (G : Go [] ρ₀ s₀ ρ s1) : HS Ω ρ hp (goS n q c s1) /\ Go [] ρ₀ s₀ ρ (goS n q c s1) := by
 have up : ∀ b o, s1.heap.get? b = some o -> (goS n q c s1).heap.get? b = some o := fun b o h => Heap.get?_push_of_some _ h
 refine ⟨H.keeps up (AllBare.push H.gens rfl), G.trans0 ⟨⟨[], (List.append_nil _).symm, nofun⟩, fun b o h _ _ => up b o h, fun b o h _ => up b o h, fun b o h => ⟨o, up b o h⟩, fun k st h => ?_, rfl⟩⟩
 show (s1.gens.push _)[k]? = _
 rw [Array.getElem?_push_lt (Array.getElem?_eq_some_iff.mp h).1, ← Array.getElem?_eq_getElem]; exact h
theorem zs7 {b : Nat} (N : Apart Ω) (X : K.In Ω.h₀) (lim : Ω.h₀.NoLimit) (hn : 20 < Ω.nms.length) {f : Addr} (F : GnOk K Ω b f) {u : Value} (hA : Rm 1 A) (H : HS (Ω.wk (WkG Ω b)) ρ hp s) (G : Go [] ρ₀ s₀ ρ s)
 (h3 : VR ρ s.heap (.str x) u) (hQ : Post (Ω.wk (WkG Ω b)) ρ₀ s₀ (.g (escG x 0 false 0)) hp Q) : wpAny Ω.M A (call (.ref f) [u] []) Q E s := by
 obtain ⟨oc, od, osl, name, qual, params, dV, kV, doc, pm, cdv, ct, an, h1, h2, h5⟩ := F.ex
 have XS : K.In s.heap := fun a o q => H.base a o (X a o q)
 refine wpAny_call (zs5 (Ω := Ω.wk (WkG Ω b)) ⟨N.inj, N.dbg⟩ (Nat.lt_of_le_of_lt (Nat.le_add_right _ _) hA.dp) XS lim h1 h2 (zs3 (Ω := Ω.wk (WkG Ω b)) hn) H (us := [u]) (vs := [.str x]) (fun A' E' Q' hq => h5 s u XS _ A' E' Q' hq) (VRs.cons h3 VRs.nil) fun env s1 F hcells hsc => ?_)
 have hcn : env.cells = [] := hcells
 obtain ⟨ol, hol, hil⟩ := F.F.live env.locals (.head _)
 obtain ⟨H2, G2⟩ := go_new (n := name) (q := qual) (c := .func (zc8 (nmOf Ω) b) env) F.H (G.trans0 F.G)
 have hnew : s1.heap.get? s1.heap.objs.size = none := zbi s1
 have GG := G.trans0 F.G
 exact hQ ρ (goS name qual (.func (zc8 (nmOf Ω) b) env) s1) (.ref s1.heap.objs.size) H2 G2 ⟨_, rfl, [(s1.heap.objs.size, zs4 name qual s1), (env.locals, ol)], s1.gens.size, _,
  fun p hp => mem2 (p := fun p : Addr × Obj => (goS name qual (.func (zc8 (nmOf Ω) b) env) s1).heap.get? p.1 = some p.2 /\ p.1 ∉ ρ.flatten /\ s₀.heap.get? p.1 = none) ⟨Heap.get?_push_size _ rfl, F.H.notIn hnew, GG.none hnew⟩ ⟨Heap.get?_push_of_some _ hol, F.F.disj _ (.head _), G.none (F.fresh _ (.head _))⟩ p hp,
  Array.getElem?_push_size .., GG.gsize, env, env.locals, x, rfl, h3.2, rfl, fun z => sn hnew (z ▸ hol), rfl, F.K.wk, by rw [hsc]; rfl, by unfold interactive; rw [hsc]; rfl,
  fun p hp => mem2 (p := fun p : Addr × Obj => ¬ Imm p.2) (zbs rfl rfl (by decide)) hil p hp, fun s3 hos hb3 hbase3 => ⟨gf_of F hcn hol hil (hos (env.locals, ol) (.tail _ (.head _))) hb3 hbase3, ⟨zs4 name qual s1, _, _, hos (s1.heap.objs.size, zs4 name qual s1) (.head _), rfl, rfl, rfl⟩⟩⟩
theorem gen_sum {b : Nat} (N : Apart Ω) (X : K.In Ω.h₀) (lim : Ω.h₀.NoLimit) (hn : 20 < Ω.nms.length) {f : Addr} (F : GnOk K Ω b f) {as : List RV} {ks : List (Nat × RV)} {vs kvs : List Value} {r : RV × Hp} (hA : Rm 1 A) (H : HS (Ω.wk (WkG Ω b)) ρ hp s) (G : Go [] ρ₀ s₀ ρ s)
 (e : genS as ks hp = some r) (Rs : RVRc (Ω.wk (WkG Ω b)) ρ s s₀ (as ++ ks.map (·.2)) (vs ++ kvs)) (hl : vs.length = as.length) (hQ : Post (Ω.wk (WkG Ω b)) ρ₀ s₀ r.1 r.2 Q) :
 zbb Ω.M s.heap (.ref f) /\ wpAny Ω.M A (call (.ref f) vs ((ks.map fun p => nmOf Ω p.1).zip kvs)) Q E s := by
 obtain ⟨h0, e⟩ := zae e
 obtain ⟨q, h1, e⟩ := bd_t e
 obtain ⟨z, h2, e⟩ := bd_t e
 rw [← prf e] at hQ
 refine ⟨keeps_K F.keep s.heap fun a o q => H.base a o (X a o q), zg8 (G := fun ks kvs => wpAny Ω.M A (call (.ref f) vs ((ks.map fun p => nmOf Ω p.1).zip kvs)) Q E s) h0 Rs hl fun R2 => as1_e (P := fun vs => wpAny Ω.M A (call (.ref f) vs []) Q E s) h1 R2 fun v R1 => ?_⟩
 rw [rS_t h2] at R1
 exact zs7 N X lim hn F hA H G R1 hQ
end
end
section
noncomputable def pl2 : V -> Bool
 | .tup xs => pls xs
 | x => pla x
noncomputable def dPl : List (Nat × V) -> Bool
 | [] => true
 | p :: r => and2 (pl2 p.2) (dPl r)
noncomputable def oPl : O -> Bool
 | .list xs => pls xs
 | .inst _ d => dPl d
 | .dict _ => false
noncomputable def refV : V -> Option Nat
 | .ref n => some n
 | _ => none
noncomputable def refR : RV -> Option Nat
 | .v x => refV x
 | _ => none
noncomputable def zdp : RV -> Option V
 | .v x => ifb (pl x) (some x)
 | _ => none
noncomputable def slot (q : RV) (hp : Hp) : Option O := match q with
 | .l ys => ifb (pls ys) (some (.list ys))
 | .g _ => none
 | .v x => bd (refV x) fun n => bd (nth hp n) fun o => ifb (oPl o) (some o)
noncomputable def gath : List RV -> Hp -> Nat -> Option (List V × Hp)
 | [], _, _ => some ([], [])
 | q :: r, hp, k => byO (zdp q) (fun x => bd (gath r hp k) fun w => some (x :: w.1, w.2)) (bd (slot q hp) fun o => bd (gath r hp (k + 1)) fun w => some (.ref k :: w.1, o :: w.2))
noncomputable def za2 : List RV -> List Nat
 | [] => []
 | q :: r => byO (refR q) (fun n => n :: za2 r) (za2 r)
noncomputable def wb : List RV -> Hp -> Hp -> Option Hp
 | [], _, hp => some hp
 | q :: r, os, hp => byO (zdp q) (fun _ => wb r os hp) (bd (nth os 0) fun o => byO (refR q) (fun n => ifb (oPl o) (wb r (os.drop 1) (upd hp n o))) (wb r (os.drop 1) hp))
noncomputable def resO (h3 : Hp) : O -> Option (RV × Hp)
 | .list xs => ifb (pls xs) (some (.l xs, h3))
 | .inst c d => ifb (dPl d) (some (.v (.ref (len h3)), h3 ++ [.inst c d]))
 | .dict _ => none
noncomputable def resS (r : RV) (k : Nat) (h2 h3 : Hp) : Option (RV × Hp) := match r with
 | .l xs => ifb (pls xs) (some (.l xs, h3))
 | .g _ => none
 | .v x => byO (refV x) (fun n => ifb (Nat.ble k n) (bd (nth h2 n) (resO h3))) (ifb (pl x) (some (.v x, h3)))
noncomputable def rvs : List V -> List RV
 | [] => []
 | x :: r => .v x :: rvs r
noncomputable def subS (S0 : List RV -> List (Nat × RV) -> Hp -> Option (RV × Hp)) (as : List RV) (ks : List (Nat × RV)) (hp : Hp) : Option (RV × Hp) :=
 ifb (emp ks) (ifb (zdq (za2 as)) (bd (gath as hp 0) fun w => bd (S0 (rvs w.1) [] w.2) fun r => bd (wb as r.2 hp) fun h3 => resS r.1 (len w.2) r.2 h3))

theorem znj {x : V} {n : Nat} (h : refV x = some n) : x = .ref n := by cases x <;> first | exact nn h | exact congrArg V.ref (prf h)
theorem refR_t {q : RV} {n : Nat} (h : refR q = some n) : q = .v (.ref n) := by cases q <;> first | exact nn h | exact congrArg RV.v (znj h)
theorem zg3 {q : RV} {x : V} (h : zdp q = some x) : q = .v x /\ pl x = true /\ refR q = none := by
 cases q with
 | v y =>
  obtain ⟨h1, h2⟩ := zae h
  refine ⟨congrArg RV.v (prf h2), prf h2 ▸ h1, ?_⟩
  cases y <;> first | rfl | exact ff h1
 | _ => exact nn h
section
variable {ρ ρ' : Rho} {h : Heap} {x : V} {v : Value} {xs : List V}
theorem zmn (e : pla x = true) (H : VR ρ h x v) : VR ρ' h x v := by cases x <;> first | exact H | exact ff e
theorem zt5 {p : V -> Bool} {ps : List V -> Bool} (hp : ∀ {x v}, p x = true -> VR ρ h x v -> VR ρ' h x v) (hs : ∀ {x r}, ps (x :: r) = true -> p x = true /\ ps r = true) {xs : List V} : ∀ {vs : List Value}, ps xs = true -> VRs ρ h xs vs -> VRs ρ' h xs vs := by
 induction xs with
 | nil => exact fun _ H => H
 | cons x r ih => exact fun e ⟨v, t, q, h1, h2⟩ => ⟨v, t, q, hp (hs e).1 h1, ih (hs e).2 h2⟩
theorem zqe {vs : List Value} : plas xs = true -> VRs ρ h xs vs -> VRs ρ' h xs vs := zt5 zmn fun {x r} e => zab (show and2 (pla x) (plas r) = true from e)
theorem zv5 (e : pl x = true) (H : VR ρ h x v) : VR ρ' h x v := by
 cases x with
 | tup xs => exact H.elim fun a H => H.elim fun vs H => H.elim fun n H => ⟨a, vs, n, H.1, H.2.1, zqe e H.2.2.1, H.2.2.2⟩
 | _ => exact zmn e H
theorem zgo {vs : List Value} : pls xs = true -> VRs ρ h xs vs -> VRs ρ' h xs vs := zt5 zv5 fun {x r} e => zab (show and2 (pl x) (pls r) = true from e)
theorem vr_pl2 (e : pl2 x = true) (H : VR ρ h x v) : VR ρ' h x v := by
 cases x with
 | tup xs => exact H.elim fun a H => H.elim fun vs H => H.elim fun n H => ⟨a, vs, n, H.1, H.2.1, zgo e H.2.2.1, H.2.2.2⟩
 | _ => exact zmn e H
theorem de_pl {Ω : Bx} {d : List (Nat × V)} : ∀ {es : List DictEntry}, dPl d = true -> DE Ω ρ h d es -> DE Ω ρ' h d es := by
 induction d with
 | nil => exact fun _ H => H
 | cons p d ih => exact fun e ⟨a, r, q, h1, h2, h3, h4⟩ => ⟨a, r, q, h1, h2, vr_pl2 (zab e).1 h3, ih (zab e).2 h4⟩
theorem zrs {Ω : Bx} {o : O} {e : List Addr} (p : oPl o = true) (H : OR Ω ρ h o e) : OR Ω ρ' h o e := by
 cases o with
 | list xs => exact H.elim fun a H => H.elim fun vs H => H.elim fun n H => ⟨a, vs, n, H.1, H.2.1, zgo p H.2.2.1, H.2.2.2⟩
 | inst c d => exact H.elim fun a H => H.elim fun b H => H.elim fun es H => H.elim fun n H => ⟨a, b, es, n, H.1, H.2.1, H.2.2.1, de_pl p H.2.2.2.1, H.2.2.2.2⟩
 | dict es => exact H.elim
end
section
variable {Ω : Bx} {ρ ρ₀ : Rho} {hp : Hp} {s s₀ s₁ : Shared}
noncomputable abbrev GA1 (ρ : Rho) (s₀ s₁ : Shared) (q : RV) (a : Addr) (e : List Addr) : Prop := byO (refR q) (fun n => nth ρ n = some (a :: e)) (e = [] /\ s₀.heap.get? a = none /\ s₁.heap.get? a ≠ none /\ a ∉ ρ.flatten)
noncomputable def GAt (ρ : Rho) : Shared -> List RV -> Rho -> Prop
 | _, [], ρA => ρA = []
 | s₀, q :: r, ρA => ∃ s₁, Lt s₀ s₁ /\ byO (zdp q) (fun _ => GAt ρ s₁ r ρA) (∃ a e t, ρA = (a :: e) :: t /\ GA1 ρ s₀ s₁ q a e /\ GAt ρ s₁ r t)
theorem gat_e {q : RV} {r : List RV} {ρA : Rho} (H : GAt ρ s₀ (q :: r) ρA) {G : Prop} (k1 : ∀ s₁ x, Lt s₀ s₁ -> zdp q = some x -> GAt ρ s₁ r ρA -> G) (k2 : ∀ s₁ a e t, Lt s₀ s₁ -> zdp q = none -> ρA = (a :: e) :: t -> GA1 ρ s₀ s₁ q a e -> GAt ρ s₁ r t -> G) : G := by
 obtain ⟨s₁, l, H⟩ := H
 cases z : zdp q with
 | some x => rw [z] at H; exact k1 s₁ x l z H
 | none => rw [z] at H; exact H.elim fun a H => H.elim fun e H => H.elim fun t H => k2 s₁ a e t l z H.1 H.2.1 H.2.2
theorem znz {α : Type} (x : α) (r : List α) : ∀ (p : List α), nth (p ++ x :: r) p.length = some x
 | [] => rfl
 | _ :: p => znz x r p
theorem zwx (H : HS Ω ρ hp s) {q : RV} {o : O} {v : Value} (hs : slot q hp = some o) (R : RVR Ω ρ s₀ s q v) (n : ∀ xs, q = .l xs -> ∀ a, v = .ref a -> s₁.heap.get? a ≠ none) : ∃ a e, v = .ref a /\ OR Ω [] s.heap o (a :: e) /\ GA1 ρ s₀ s₁ q a e := by
 cases q with
 | l ys =>
  obtain ⟨h1, h2⟩ := zae hs
  obtain ⟨a, us, m, q, ho, hv, hle, hn, hi⟩ := R
  exact ⟨a, [], q, prf h2 ▸ ⟨a, us, m, rfl, ho, zgo h1 hv, hle⟩, rfl, hn, n ys rfl a q, hi⟩
 | g ys => exact nn hs
 | v x =>
  obtain ⟨k, h1, hs⟩ := bd_t hs
  obtain ⟨o', h2, hs⟩ := bd_t hs
  obtain ⟨h3, h4⟩ := zae hs
  rw [znj h1] at R ⊢
  obtain ⟨a, e, hr, q⟩ := R
  exact ⟨a, e, q, prf h4 ▸ zrs h3 (H.obj k _ _ h2 hr), hr⟩
theorem gath_ok (H : HS Ω ρ hp s) {as : List RV} : ∀ {vs : List Value} {w : List V × Hp} {s₀ : Shared} (P : Rho), gath as hp P.length = some w -> RVRc Ω ρ s s₀ as vs -> ∃ ρA, ρA.length = w.2.length /\ VRs (P ++ ρA) s.heap w.1 vs /\ GAt ρ s₀ as ρA /\ ∀ i o e, nth w.2 i = some o -> nth ρA i = some e -> OR Ω [] s.heap o e := by
 induction as with
 | nil =>
  intro vs w s₀ P e R
  rw [← prf e, show vs = [] from R]
  exact ⟨[], rfl, VRs.nil, rfl, fun i o e h => nn h⟩
 | cons q r ih =>
  intro vs w s₀ P e R
  obtain ⟨v, t, s₁, hv, h1, h2, _, h4, h5⟩ := R
  rw [hv]
  have e : byO (zdp q) (fun x => bd (gath r hp P.length) fun w => some (x :: w.1, w.2)) (bd (slot q hp) fun o => bd (gath r hp (P.length + 1)) fun w => some (.ref P.length :: w.1, o :: w.2)) = some w := e
  cases z : zdp q with
  | some x =>
   rw [z] at e
   obtain ⟨w', e1, e2⟩ := bd_t e
   rw [← prf e2]
   obtain ⟨ρA, g1, g2, g3, g4⟩ := ih P e1 h5
   rw [(zg3 z).1] at h1
   exact ⟨ρA, g1, VRs.cons (zv5 (zg3 z).2.1 h1) g2, ⟨s₁, h2, by rw [z]; exact g3⟩, g4⟩
  | none =>
   rw [z] at e
   obtain ⟨o, e0, e⟩ := bd_t e
   obtain ⟨w', e1, e2⟩ := bd_t e
   rw [← prf e2]
   obtain ⟨a, ea, q1, q2, q3⟩ := zwx H e0 h1 h4
   obtain ⟨ρA, g1, g2, g3, g4⟩ := ih (P ++ [a :: ea]) (by rw [List.length_append]; exact e1) h5
   rw [List.append_assoc] at g2
   refine ⟨(a :: ea) :: ρA, congrArg (· + 1) g1, VRs.cons ⟨a, ea, znz _ _ P, q1⟩ g2, ⟨s₁, h2, by rw [z]; exact ⟨a, ea, ρA, rfl, q3, g3⟩⟩, fun i o' e' h5 h6 => ?_⟩
   cases i with
   | zero => exact prf h5 ▸ prf h6 ▸ q2
   | succ i => exact g4 i o' e' h5 h6
noncomputable abbrev From (ρ : Rho) (s₀ : Shared) (ns : List Nat) (a : Addr) : Prop := (∃ n e, n ∈ ns /\ nth ρ n = some e /\ a ∈ e) ∨ (s₀.heap.get? a = none /\ a ∉ ρ.flatten)
theorem From.up {ns ms : List Nat} {a : Addr} (l : Lt s₀ s₁) (k : ∀ n ∈ ns, n ∈ ms) (F : From ρ s₁ ns a) : From ρ s₀ ms a := F.imp (fun h => h.elim fun n h => h.elim fun e h => ⟨n, e, k n h.1, h.2⟩) fun h => ⟨l.n a h.1, h.2⟩
theorem zgf {q : RV} {r : List RV} {x : V} (z : zdp q = some x) : za2 (q :: r) = za2 r := by show byO (refR q) _ _ = _; rw [(zg3 z).2.2]; rfl
theorem zko {q : RV} {r : List RV} : ∀ n ∈ za2 r, n ∈ za2 (q :: r) := by
 intro n h
 show n ∈ byO (refR q) _ _
 cases refR q with
 | none => exact h
 | some m => exact .tail _ h
theorem GA1.from {q : RV} {r : List RV} {a : Addr} {e : List Addr} (H : GA1 ρ s₀ s₁ q a e) : ∀ b ∈ a :: e, From ρ s₀ (za2 (q :: r)) b := by
 intro b hb
 unfold GA1 at H
 show From ρ s₀ (byO (refR q) _ _) b
 cases z : refR q with
 | some n => rw [z] at H; exact .inl ⟨n, _, .head _, H, hb⟩
 | none => rw [z] at H; rw [H.1] at hb; exact .inr (List.mem_singleton.mp hb ▸ ⟨H.2.1, H.2.2.2⟩)
theorem GAt.from {as : List RV} : ∀ {ρA : Rho} {s₀ : Shared}, GAt ρ s₀ as ρA -> ∀ a ∈ ρA.flatten, From ρ s₀ (za2 as) a := by
 induction as with
 | nil => exact fun {ρA s₀} H a ha => nomatch (show a ∈ List.flatten [] from (show ρA = [] from H) ▸ ha)
 | cons q r ih =>
  refine fun {ρA s₀} H a ha => gat_e H (fun s₁ x l z H => (ih H a ha).up l zko) fun s₁ b e t l z q1 q2 H => ?_
  rw [q1, List.flatten_cons, List.mem_append] at ha
  exact ha.elim (q2.from a) fun ha => (ih H a ha).up l zko
theorem zky {l : Rho} {e : List Addr} (h : l.flatten.Nodup) (he : e ∈ l) : e.Nodup := (List.pairwise_flatten.mp h).1 e he
theorem GA1.nodup (N : ρ.flatten.Nodup) {q : RV} {r : List RV} {a : Addr} {e : List Addr} {t : Rho} (d : zdq (za2 (q :: r)) = true) (H : GA1 ρ s₀ s₁ q a e) (F : ∀ b ∈ t.flatten, From ρ s₁ (za2 r) b) : (a :: e).Nodup /\ zdq (za2 r) = true /\ ∀ b ∈ a :: e, b ∉ t.flatten := by
 unfold GA1 at H
 have d : zdq (byO (refR q) (fun n => n :: za2 r) (za2 r)) = true := d
 cases z : refR q with
 | some n =>
  rw [z] at H d
  obtain ⟨d1, d2⟩ := zab d
  refine ⟨zky N (zjl H), d2, fun b hb hm => ?_⟩
  rcases F b hm with ⟨m, e', q1, q2, q3⟩ | ⟨q1, q2⟩
  · exact zg6 d1 (zeh N H q2 hb q3 ▸ q1)
  · exact q2 (zbu H hb)
 | none =>
  rw [z] at H d
  obtain ⟨he, h1, h2, h3⟩ := H
  rw [he]
  refine ⟨List.nodup_cons.mpr ⟨List.not_mem_nil, List.nodup_nil⟩, d, fun b hb hm => ?_⟩
  rw [List.mem_singleton.mp hb] at hm
  rcases F a hm with ⟨m, e', q1, q2, q3⟩ | ⟨q1, q2⟩
  · exact h3 (zbu q2 q3)
  · exact h2 q1
theorem GAt.nodup (N : ρ.flatten.Nodup) {as : List RV} : ∀ {ρA : Rho} {s₀ : Shared}, zdq (za2 as) = true -> GAt ρ s₀ as ρA -> ρA.flatten.Nodup := by
 induction as with
 | nil => exact fun {ρA s₀} _ h => (show ρA = [] from h) ▸ List.nodup_nil
 | cons q r ih =>
  refine fun {ρA s₀} d H => gat_e H (fun s₁ x l z H => ih (zgf z ▸ d) H) fun s₁ b e t l z q1 q2 H => ?_
  obtain ⟨h1, h2, h3⟩ := q2.nodup N d H.from
  rw [q1, List.flatten_cons, List.nodup_append]
  exact ⟨h1, ih h2 H, fun y hy w hw q => h3 y hy (q ▸ hw)⟩
noncomputable abbrev Back (ρ ρA : Rho) (ns : List Nat) (os hp h3 : Hp) : Prop := ∀ n o e, nth h3 n = some o -> nth ρ n = some e -> (n ∉ ns /\ nth hp n = some o) ∨ (oPl o = true /\ ∃ i, nth os i = some o /\ nth ρA i = some e)
theorem wb_ok {as : List RV} : ∀ {ρA : Rho} {s₀ : Shared} {os hp h3 : Hp}, GAt ρ s₀ as ρA -> hp.length = ρ.length -> wb as os hp = some h3 -> h3.length = hp.length /\ Back ρ ρA (za2 as) os hp h3 := by
 induction as with
 | nil => exact fun {ρA s₀ os hp h3} _ _ h => prf h ▸ ⟨rfl, fun n o e h1 _ => .inl ⟨List.not_mem_nil, h1⟩⟩
 | cons q r ih =>
  intro ρA s₀ os hp h3 H hl h
  have h : byO (zdp q) (fun _ => wb r os hp) (bd (nth os 0) fun o => byO (refR q) (fun n => ifb (oPl o) (wb r (os.drop 1) (upd hp n o))) (wb r (os.drop 1) hp)) = some h3 := h
  refine gat_e H (fun s₁ x l z H => ?_) fun s₁ a e t l z q1 q2 H => ?_
  · rw [z] at h
    rw [zgf z]
    exact ih H hl h
  · rw [z] at h
    obtain ⟨o, e0, h⟩ := bd_t h
    cases os with
    | nil => exact nn e0
    | cons o' os =>
     have e0 : o' = o := prf e0
     rw [q1]
     unfold GA1 at q2
     show _ /\ Back ρ ((a :: e) :: t) (byO (refR q) (fun n => n :: za2 r) (za2 r)) (o' :: os) hp h3
     cases z : refR q with
     | none =>
      rw [z] at h
      obtain ⟨g1, g2⟩ := ih H hl h
      exact ⟨g1, fun n o e q1 q2 => (g2 n o e q1 q2).imp id fun h => ⟨h.1, h.2.elim fun i h => ⟨i + 1, h⟩⟩⟩
     | some n =>
      rw [z] at h q2
      obtain ⟨h0, h⟩ := zae h
      obtain ⟨g1, g2⟩ := ih H ((zhc _ _ _).trans hl) h
      refine ⟨g1.trans (zhc _ _ _), fun m p e' q3 q4 => ?_⟩
      rcases g2 m p e' q3 q4 with ⟨q5, q6⟩ | h
      · by_cases hm : n = m
        · subst hm
          have hlt : n < hp.length := hl ▸ zdk q2
          rw [zay o ((zbd hp n).trans (List.getElem?_eq_getElem hlt))] at q6
          exact .inr ⟨prf q6 ▸ h0, 0, congrArg some (e0.trans (prf q6)), q2.symm.trans q4⟩
        · exact .inl ⟨fun h => (List.mem_cons.mp h).elim (fun h => hm h.symm) q5, (zbh o hm) ▸ q6⟩
      · exact .inr ⟨h.1, h.2.elim fun i h => ⟨i + 1, h⟩⟩
end
end
section
section
variable {Ω : Bx} {ρ ρ₀ ρ2 ρA : Rho} {hp h2 h3 hA : Hp} {s s₀ s2 : Shared} {as : List RV}
noncomputable abbrev SumS (Ω : Bx) (RmP : Around -> Prop) (f : Addr) (S0 : List RV -> List (Nat × RV) -> Hp -> Option (RV × Hp)) : Prop :=
 ∀ {ρ₀ ρ : Rho} {hp : Hp} {s₀ s : Shared} {A : Around} {E Q : Value -> Shared -> Prop} {r : RV × Hp} {as : List RV} {ks : List (Nat × RV)} {vs kvs : List Value}, RmP A -> HS Ω ρ hp s -> Go [] ρ₀ s₀ ρ s -> (∀ a, s₀.heap.get? a = none -> Ω.h₀.get? a = none) ->
  (∀ p ∈ ks, p.1 < Ω.nms.length) -> S0 as ks hp = some r -> RVRc Ω ρ s s₀ (as ++ ks.map (·.2)) (vs ++ kvs) -> vs.length = as.length -> Post Ω ρ₀ s₀ r.1 r.2 Q ->
  zbb Ω.M s.heap (.ref f) /\ wpAny Ω.M A (call (.ref f) vs ((ks.map fun p => nmOf Ω p.1).zip kvs)) Q E s
theorem rvs_len (xs : List V) : (rvs xs).length = xs.length := by
 induction xs with
 | nil => rfl
 | cons x r ih => exact congrArg (· + 1) ih
theorem rvs_ok {xs : List V} : ∀ {us : List Value}, VRs ρ s.heap xs us -> RVRc Ω ρ s s (rvs xs) us := by
 induction xs with
 | nil => exact fun H => H
 | cons x r ih => exact fun ⟨v, t, q, h1, h2⟩ => ⟨v, t, s, q, h1, Lt.refl s, Lt.refl s, nofun, ih h2⟩
theorem sub_in (H : HS Ω ρ hp s) (hb : ∀ a, s₀.heap.get? a = none -> Ω.h₀.get? a = none) (d : zdq (za2 as) = true) (a1 : ρA.length = hA.length) (a3 : GAt ρ s₀ as ρA) (a4 : ∀ i o e, nth hA i = some o -> nth ρA i = some e -> OR Ω [] s.heap o e) : HS Ω ρA hA s :=
 ⟨H.base, fun a ha => (a3.from a ha).elim (fun h => h.elim fun n h => h.elim fun e h => H.fresh a (zbu h.2.1 h.2.2)) fun h => hb a h.1, a3.nodup H.nodup d, a1.symm, fun n o e h5 h6 => (a4 n o e h5 h6).mono (ρ := []) (fun n e h => nn (show none = some e from h)) (fun _ _ e _ => e) (fun _ _ _ e => e), H.gens⟩
theorem zqv (H : HS Ω ρ hp s) (G : Go [] ρ₀ s₀ ρ s) (a3 : GAt ρ s₀ as ρA) (H2 : HS Ω ρ2 h2 s2) (G2 : Go [] ρA s ρ2 s2) (w1 : h3.length = hp.length) (w2 : Back ρ ρA (za2 as) h2 hp h3) : HS Ω ρ h3 s2 /\ Go [] ρ₀ s₀ ρ s2 := by
 refine ⟨⟨H2.base, H.fresh, H.nodup, w1.trans H.len, fun n o e q1 q2 => ?_, H2.gens⟩,
  ⟨G.ext, fun b o h1 h2 _ => G2.keep b o (G.keep b o h1 h2 List.not_mem_nil) (fun hm => ?_) List.not_mem_nil, fun b o h1 h2 => G2.imm b o (G.imm b o h1 h2) h2, fun b o h1 => (G.grow b o h1).elim fun o' h2 => G2.grow b o' h2, fun g st h1 => G2.gens g st (G.gens g st h1), G2.os.trans G.os⟩⟩
 · rcases w2 n o e q1 q2 with ⟨q3, q4⟩ | ⟨q3, i, q4, q5⟩
   · refine (H.obj n o e q4 q2).mono (Ext.refl ρ) G2.imm fun a ha ob hob => G2.keep a ob hob (fun hm => ?_) List.not_mem_nil
     rcases a3.from a hm with ⟨m, e', m1, m2, m3⟩ | ⟨m1, m2⟩
     · exact q3 (zeh H.nodup q2 m2 ha m3 ▸ m1)
     · exact m2 (zbu q2 ha)
   · exact zrs q3 (H2.obj i o e q4 (G2.Ext _ _ q5))
 · rcases a3.from b hm with ⟨n, e, _, q2, q3⟩ | ⟨q1, _⟩
   · obtain ⟨nw, hnw, hfr⟩ := G.ext
     have hm' := zbu q2 q3
     rw [hnw, List.flatten_append, List.mem_append] at hm'
     exact hm'.elim h2 fun hm' => sn (hfr b hm') h1
   · exact sn q1 h1
theorem zmw (H : HS Ω ρ hp s) (G : Go [] ρ₀ s₀ ρ s) {ys : List V} {a : Addr} {us : List Value} {n : Nat} (hy : pls ys = true) (ho : s2.heap.get? a = some (lstO us n)) (hv : VRs ρ2 s2.heap ys us) (hle : us.length ≤ 65537) (hn : s.heap.get? a = none) : RVR Ω ρ s₀ s2 (.l ys) (.ref a) :=
 ⟨a, us, n, rfl, ho, zgo hy hv, hle, G.none hn, H.notIn hn⟩
theorem zwn (H : HS Ω ρ hp s) (G : Go [] ρ₀ s₀ ρ s) (hb : ∀ a, s₀.heap.get? a = none -> Ω.h₀.get? a = none) (H3 : HS Ω ρ h3 s2) (G3 : Go [] ρ₀ s₀ ρ s2) (H2 : HS Ω ρ2 h2 s2) {a : Addr} {ea : List Addr} {c : Nat} {d : List (Nat × V)} {n : Nat} (hr : nth ρ2 n = some (a :: ea)) (hfresh : ∀ b ∈ a :: ea, s.heap.get? b = none) (hn : nth h2 n = some (.inst c d)) (hy : dPl d = true) {Q : Value -> Shared -> Prop}
 (hQ : Post Ω ρ₀ s₀ (.v (.ref (len h3))) (h3 ++ [.inst c d]) Q) : Q (.ref a) s2 := by
 refine hQ (ρ ++ [a :: ea]) s2 _ (H3.take (zrs (o := .inst c d) hy (H2.obj _ _ _ hn hr)) (zky H2.nodup (zjl hr)) (fun b hb' => H.notIn (hfresh b hb')) fun b hb' => hb b (G.none (hfresh b hb')))
  ⟨?_, G3.keep, G3.imm, G3.grow, G3.gens, G3.os⟩ ⟨a, ea, ?_, rfl⟩
 · obtain ⟨nw, q, hw⟩ := G3.ext
   exact ⟨nw ++ [a :: ea], q ▸ List.append_assoc _ _ _, fun b hb => (List.mem_append.mp (za8 nw _ ▸ hb)).elim (hw b) fun hb => G.none (hfresh b hb)⟩
 · rw [zag, H3.len, ← zag]; exact zb8 ρ _
theorem zwm (H : HS Ω ρ hp s) (G : Go [] ρ₀ s₀ ρ s) (hb : ∀ a, s₀.heap.get? a = none -> Ω.h₀.get? a = none) (H3 : HS Ω ρ h3 s2) (G3 : Go [] ρ₀ s₀ ρ s2) (H2 : HS Ω ρ2 h2 s2) (G2 : Go [] ρA s ρ2 s2) {q : RV} {k : Nat} (hk : k = ρA.length) {r : RV × Hp} (e : resS q k h2 h3 = some r) {v : Value} (R : RVR Ω ρ2 s s2 q v) {Q : Value -> Shared -> Prop} (hQ : Post Ω ρ₀ s₀ r.1 r.2 Q) : Q v s2 := by
 cases q with
 | l ys =>
  obtain ⟨h1, h2⟩ := zae e
  rw [← prf h2] at hQ
  obtain ⟨a, us, n, q, ho, hv, hle, hn, _⟩ := R
  exact q ▸ hQ ρ s2 _ H3 G3 (zmw H G h1 ho hv hle hn)
 | g ys => exact nn e
 | v x =>
  have e : byO (refV x) (fun n => ifb (Nat.ble k n) (bd (nth h2 n) (resO h3))) (ifb (pl x) (some (.v x, h3))) = some r := e
  cases z : refV x with
  | none =>
   rw [z] at e
   obtain ⟨h1, h2⟩ := zae e
   rw [← prf h2] at hQ
   exact hQ ρ s2 v H3 G3 (zv5 h1 R)
  | some n =>
   rw [z] at e
   rw [znj z] at R
   obtain ⟨hle, e⟩ := zae e
   obtain ⟨o, hn, e⟩ := bd_t e
   obtain ⟨a, ea, hr, q⟩ := R
   have hfresh : ∀ b ∈ a :: ea, s.heap.get? b = none := by
    obtain ⟨nw, hnw, hfr⟩ := G2.ext
    rw [hnw, zbd, List.getElem?_append_right (hk ▸ Nat.le_of_ble_eq_true hle)] at hr
    exact fun b hb => hfr b (List.mem_flatten.mpr ⟨_, List.mem_of_getElem? hr, hb⟩)
   rw [q]
   cases o with
   | list xs =>
    obtain ⟨h1, h2⟩ := zae e
    rw [← prf h2] at hQ
    obtain ⟨a', us, m, he, ho, hv, hle2⟩ := H2.obj _ _ _ hn hr
    rw [← (List.cons.inj he).1] at ho
    exact hQ ρ s2 _ H3 G3 (zmw H G h1 ho hv hle2 (hfresh a (.head _)))
   | inst c d =>
    obtain ⟨h1, h2⟩ := zae e
    rw [← prf h2] at hQ
    exact zwn H G hb H3 G3 H2 hr hfresh hn h1 hQ
   | dict es => exact nn e
theorem zc2 {RmP : Around -> Prop} {f : Addr} {S0 : List RV -> List (Nat × RV) -> Hp -> Option (RV × Hp)} (I : SumS Ω RmP f S0) : SumS Ω RmP f (subS S0) := by
 intro ρ₀ ρ hp s₀ s A E Q r as ks vs kvs hA H G hb hk e Rs hl hQ
 obtain ⟨h0, e⟩ := zae e
 obtain ⟨hnd, e⟩ := zae e
 obtain ⟨w, hg, e⟩ := bd_t e
 obtain ⟨r2, hS, e⟩ := bd_t e
 obtain ⟨h3, hw, e⟩ := bd_t e
 have Rs0 := Rs
 refine zg8 (G := fun ks kvs => zbb Ω.M s.heap (.ref f) /\ wpAny Ω.M A (call (.ref f) vs ((ks.map fun p => nmOf Ω p.1).zip kvs)) Q E s) h0 Rs hl fun _ => ?_
 have Rs1 : RVRc Ω ρ s s₀ as vs := zg8 (G := fun ks kvs => RVRc Ω ρ s s₀ (as ++ ks.map (·.2)) (vs ++ kvs) -> RVRc Ω ρ s s₀ as vs) h0 Rs hl (fun _ h => by rw [List.map_nil, List.append_nil, List.append_nil] at h; exact h) Rs0
 obtain ⟨ρA, a1, a2, a3, a4⟩ := gath_ok H (P := []) hg Rs1
 refine I (ρ₀ := ρA) (ρ := ρA) (s₀ := s) (as := rvs w.1) (ks := []) (kvs := []) hA (sub_in H hb hnd a1 a3 a4) (Go.refl _ _ _) (base_none H) nofun hS (by rw [List.map_nil, List.append_nil, List.append_nil]; exact rvs_ok a2) ((a2.len).trans (rvs_len _).symm) fun ρ2 s2 v H2 G2 R2 => ?_
 obtain ⟨w1, w2⟩ := wb_ok a3 H.len hw
 obtain ⟨H3, G3⟩ := zqv H G a3 H2 G2 w1 w2
 exact zwm H G hb H3 G3 H2 G2 ((zag _).trans a1.symm) e R2 hQ
end
end
section
noncomputable def onN {α : Type} (f : Fl) (o : Option α) : Option α := match f with
 | .next => o
 | _ => none
noncomputable def zvm (cx : Cx) (p1 p2 p3 : FS) (fl0 : L) (hp : Hp) : Option (RV × Hp) := bd (exs cx [p1, p2] fl0 hp) fun z => onN z.1 (body cx [p3] z.2.1 z.2.2)
theorem onN_t {α : Type} {f : Fl} {o : Option α} {r : α} (h : onN f o = some r) : f = .next /\ o = some r := by
 cases f with
 | next => exact ⟨rfl, h⟩
 | _ => exact nn h
theorem nx_next {w z : Fl × L × Hp} {more : Option (Fl × L × Hp)} (h : nx w more = some z) (hz : z.1 = .next) : w.1 = .next /\ more = some z := by
 obtain ⟨f, y⟩ := w
 cases f with
 | next => exact ⟨rfl, h⟩
 | _ => exact absurd ((congrArg Prod.fst (prf h)).trans hz) nofun
section
variable {Ω : Bx} {cx : Cx} {D : Dx} {sc : List (Nat × Nat)} {hp : Hp} {ρ ρ₀ : Rho} {s s₀ : Shared} {A : Around}
theorem zpg (hh : D.A.handled = none) {T o : Expr} {lb : List Stmt} {ap p2 P : Nat} (hb : ∀ m, attributeBase o "items" D.env m = m) (hline : ((pos ap).endLine == (pos p2).line) = true) {X : Addr} {ep : Nat} (hD : s.heap.DictAt (PySem.strKind Ω.prog Ω.w) X [] ep) (hDs : (X == sysModules) = false) (ho : ∀ Q' : Value -> Shared -> Prop, Q' (.ref X) s -> WP Ω D (eval o D.env) Q' s)
 {Q : Flow -> Shared -> Prop} (hQ : ∀ h', (∀ b o, s.heap.get? b = some o -> h'.get? b = some o) -> Q .next { s with heap := h' }) :
 WP Ω D (exec (.For T (.Call (.Attribute o "items" (pos ap)) [] [] (pos p2)) lb [] (pos P)) D.env) Q s := by
 have hD' : s.heap.DictOf (PySem.strKind Ω.prog Ω.w) X [] := hD.elim fun o h => h.elim fun es h => ⟨o, es, ep, h⟩
 refine wpAny_For (wpAny_Call_items hDs hD' (hb _) hline ho ?_)
 refine wpAny_pyIter_items (s := { s with heap := s.heap.push { cls := .type "dict_items", data := .fields #[.ref X] } }) ⟨_, Heap.get?_push_size _ rfl, rfl, rfl⟩ (hD.at fun o h => Heap.get?_push_of_some _ h) ?_
 have up1 : ∀ b o, s.heap.get? b = some o -> (s.heap.push { cls := .type "dict_items", data := .fields #[.ref X] }).get? b = some o := fun b o h => Heap.get?_push_of_some _ h
 generalize s.heap.push { cls := .type "dict_items", data := .fields #[.ref X] } = h1 at up1 ⊢
 refine zld (fun _ s5 => s5 = _) (fun n s5 e => ?_) 0 rfl
 subst e
 exact wpAny_pyNext_items_end hh (Heap.get?_push_size _ rfl) (hD.at fun o h => Heap.get?_push_of_some _ (up1 _ o h)) rfl fun h' hx' => wpAny_execs_nil (hQ h' fun b o e => hx' b o (fun z => Nat.lt_irrefl _ (z ▸ Heap.lt_size (up1 b o e))) (Heap.get?_push_of_some _ (up1 b o e)))
theorem exs_e {p : FS} {r : List FS} {fl : L} {hp : Hp} {w : Fl × L × Hp} (h : exs cx (p :: r) fl hp = some w) (hw : w.1 = .next) : ∃ y : L × Hp, ex cx p fl hp = some (.next, y) /\ exs cx r y.1 y.2 = some w := by
 obtain ⟨x, q, h⟩ := bd_t (show bd (ex cx p fl hp) (fun w => nx w (exs cx r w.2.1 w.2.2)) = some w from h)
 obtain ⟨h1, h2⟩ := nx_next h hw
 exact ⟨x.2, q.trans (congrArg some (Prod.ext h1 rfl)), h2⟩
theorem ztz {d : Nat} (C : CT Ω cx (Rm d)) (hA : Rm (d + 1) A) {K : Frag} (X : K.In Ω.h₀) (hlim : Ω.h₀.NoLimit) {f : Addr} {oc : Value} {od : Option Addr} {osl : Array (Option Value)} {name qual : Str} {mr : List (Str × Const)} {params : Arguments} {p1 p2 p3 : FS} {T : Expr} {lb : List Stmt} {n1 ap n2 P xd : Nat} {dV kV doc pm cdv ct : Value} {an : Option Addr}
 (ho : K.lookup f = some ⟨oc, od, .func (fnOf name qual params [tS (nmOf Ω) p1, tS (nmOf Ω) p2, .For T (.Call (.Attribute (tE (nmOf Ω) (.var xd n1)) "items" (pos ap)) [] [] (pos n2)) lb [] (pos P), tS (nmOf Ω) p3] (scM (nmOf Ω) sc mr) dV kV doc pm an cdv ct), osl⟩) (hcd : codeIn K cdv qual = true)
 (w1 : wS Ω.nms.length sc p1 = true) (w2 : wS Ω.nms.length sc p2 = true) (w3 : wS Ω.nms.length sc p3 = true) (hline : ((pos ap).endLine == (pos n2).line) = true) (hlv : lv sc xd = true)
 {pn : List Nat} (Pr : Pars Ω sc (pn ++ [xd]))
 (H : HS Ω ρ hp s) (G : Go [] ρ₀ s₀ ρ s) {args : Args} {us : List Value} {vs : List V}
 (hbind : ∃ D h' tk ep, (∀ (A' : Around) (E' : Value -> Shared -> Prop) (Q : List (Str × Value) -> Shared -> Prop), Q (((pn ++ [xd]).map (nmOf Ω)).zip (us ++ [.ref D])) { s with heap := h', toks := tk } -> wpAny Ω.M A' (bindArgs (fnOf name qual params [tS (nmOf Ω) p1, tS (nmOf Ω) p2, .For T (.Call (.Attribute (tE (nmOf Ω) (.var xd n1)) "items" (pos ap)) [] [] (pos n2)) lb [] (pos P), tS (nmOf Ω) p3] (scM (nmOf Ω) sc mr) dV kV doc pm an cdv ct) args) Q E' s) ∧
  (∀ b o, s.heap.get? b = some o -> h'.get? b = some o) /\ s.heap.get? D = none /\ (D == sysModules) = false /\ h'.DictAt (PySem.strKind Ω.prog Ω.w) D [] ep)
 (hR : VRs ρ s.heap vs us) {r : RV × Hp} (hrun : ∀ D, zvm cx p1 p2 p3 ((pn ++ [xd]).zip (vs ++ [.top D])) hp = some r /\ ∀ y, exs cx [p1, p2] ((pn ++ [xd]).zip (vs ++ [.top D])) hp = some (.next, y) -> look y.1 xd = some (.top D)) {R : Result -> Shared -> Prop}
 (hQ : Post Ω ρ₀ s₀ r.1 r.2 fun v s' => R (.ok (.ret v)) s') : codeAny Ω.M A (.call (.ref f) args) R s := by
 obtain ⟨X', h', tk, ep, hb, hkp, hDn, hDs, hDa⟩ := hbind
 obtain ⟨he, hlk⟩ := hrun X'
 have GB : Go [] ρ s ρ { s with heap := h', toks := tk } := Go.keeps [] ρ s hkp
 have GG := G.trans0 GB
 refine zhn (sB := { s with heap := h', toks := tk }) C.apart (Nat.lt_of_le_of_lt (Nat.le_add_right _ _) hA.dp) (fun a o q => H.base a o (X a o q)) hlim ho hcd Pr (H.heap hkp) (us := us ++ [.ref X']) (vs := vs ++ [.top X']) hb (VRs.append (GB.vrs hR) (VRs.cons (x := .top X') (v := .ref X') rfl VRs.nil)) fun env s1 E' F => ?_
 obtain ⟨z, e1, he⟩ := bd_t he
 obtain ⟨hz, he⟩ := onN_t he
 obtain ⟨y1, ea, e2⟩ := exs_e e1 hz
 obtain ⟨y2, eb, e3⟩ := exs_e e2 hz
 have e3 : (Fl.next, y2) = z := prf e3
 have h1 : HereS Ω (Rm d) ⟨env, sc, env.locals :: faC Ω env, A.deeper env, E'⟩ _ hp ρ s1 := ⟨⟨F.K, hA.deeper _, F.H, F.F⟩, F.C⟩
 refine wpAny_execs_cons (x_ok C p1 w1 h1 ea fun ρ2 s2 f2 h2 G2 r2 => ?_)
 rw [show f2 = .next from r2]
 refine wpAny_execs_cons (x_ok C p2 w2 h2 eb fun ρ3 s3 f3 h3 G23 r3 => ?_)
 rw [show f3 = .next from r3]
 have G3 := G2.transS G23
 have hD1 : s1.heap.DictAt (PySem.strKind Ω.prog Ω.w) X' [] ep := hDa.at fun o h => F.G.keep X' o h (H.notIn hDn) List.not_mem_nil
 have hD3 : s3.heap.DictAt (PySem.strKind Ω.prog Ω.w) X' [] ep := hD1.at fun o h => G3.keep X' o h (H.notIn hDn) fun z => hDa.elim fun o' h => h.elim fun _ h => sn (F.fresh X' z) h.1
 refine wpAny_execs_cons (zpg (Ω := Ω) (D := ⟨env, sc, env.locals :: faC Ω env, A.deeper env, E'⟩) (hA.deeper env).hd (fun m => zdr (Ω := Ω) (o := .var xd n1) rfl _ _ m) hline hD3 hDs (fun Q' q => zka C (hlk y2 (e1.trans (congrArg some e3.symm))) hlv h3.h.K h3.h.F fun u hu => (show u = .ref X' from hu) ▸ q) fun h5 k5 => ?_)
 have h4 := h3.go (Go.keeps [] ρ3 s3 (t := s3.toks) k5) (h3.h.H.heap (t := s3.toks) k5)
 have G4 := G3.transS (Go.keeps (env.locals :: faC Ω env) ρ3 s3 (t := s3.toks) k5)
 rw [← e3] at he
 obtain ⟨w, q, he⟩ := bd_t he
 refine zvs C [p3] (D := ⟨env, sc, env.locals :: faC Ω env, A.deeper env, E'⟩) (show and2 (wS Ω.nms.length sc p3) true = true by rw [w3]; rfl) h4 q fun ρ' s' fw h' G' r => ?_
 have done : Go [] ρ₀ s₀ ρ' s' := (GG.trans0 F.G).trans (G4.transS G') fun a ha => .inr (GG.none (F.fresh a ha))
 refine out_e he (fun z q => ?_) fun x z q => ?_
 · rw [z] at r
   rw [show fw = .next from r]
   exact hQ ρ' s' .none (q ▸ h'.h.H) done (q ▸ rfl)
 · rw [z] at r
   obtain ⟨u, eu, hu⟩ := r
   rw [eu]
   exact hQ ρ' s' u (q ▸ h'.h.H) done (q ▸ zh5 ((goLt (GG.trans0 F.G)).trans (goLt G4)) hu)
end
end
end Mine
end
noncomputable section
namespace Mine
section
open PySem
noncomputable def nmL : List Str := [Str.ofString "append", Str.ofString "pop", Str.ofString "index", Str.ofString "lower", Str.ofString "upper", Str.ofString "split", Str.ofString "join", Str.ofString "replace", Str.ofString "search", Str.ofString "get", Str.ofString "items", Str.ofString "__setitem__", Str.ofString "__delitem__", Str.ofString "__init__", Str.ofString ".0", Str.ofString "_params", Str.ofString "addr", Str.ofString "pos", Str.ofString "escape", Str.ofString "ch", Str.ofString "enumerate", Str.ofString "k", Str.ofString "self", Str.ofString "raw", Str.ofString "ws", Str.ofString "S", Str.ofString "T", Str.ofString "Whitespace", Str.ofString "count", Str.ofString "b", Str.ofString "n", Str.ofString "nt", Str.ofString "len", Str.ofString "norm", Str.ofString "tuple", Str.ofString "is_simple", Str.ofString "trailing", Str.ofString "max", Str.ofString "il", Str.ofString "i", Str.ofString "range", Str.ofString "tabsize", Str.ofString "longest_run_of_spaces", Str.ofString "other", Str.ofString "a", Str.ofString "ts", Str.ofString "indent_level", Str.ofString "names", Str.ofString "flag", Str.ofString "flags", Str.ofString "COMPILER_FLAG_NAMES", Str.ofString "hex", Str.ofString "start", Str.ofString "open_pos", Str.ofString "result", Str.ofString "_iter_escaped_chars", Str.ofString "_strip_quoted_realnames", Str.ofString "opens", Str.ofString "value", Str.ofString "quote", Str.ofString "tspecials", Str.ofString "param", Str.ofString "headers", Str.ofString "type", Str.ofString "list", Str.ofString "_headers", Str.ofString "v", Str.ofString "name", Str.ofString "_convert_string_type", Str.ofString "TypeError", Str.ofString "str", Str.ofString "regex", Str.ofString "_name_disallowed_re", Str.ofString "_value_disallowed_re", Str.ofString "ValueError", Str.ofString "AssertionError", Str.ofString "repr", Str.ofString "kv", Str.ofString "parts", Str.ofString "_value", Str.ofString "_formatparam", Str.ofString "_name", Str.ofString "digits", Str.ofString "base", Str.ofString "bases", Str.ofString "number", Str.ofString "digit", Str.ofString "divmod", Str.ofString "column", Str.ofString "sign", Str.ofString "lead", Str.ofString "size", Str.ofString "words", Str.ofString "choice", Str.ofString "rows", Str.ofString "row", Str.ofString "cells", Str.ofString "sum", Str.ofString "script", Str.ofString "behind", Str.ofString "low", Str.ofString "_law_digits", Str.ofString "limit", Str.ofString "sizes", Str.ofString "lines", Str.ofString "bound", Str.ofString "bounds", Str.ofString "_law_column", Str.ofString "by_nanny", Str.ofString "by_mail", Str.ofString "kept", Str.ofString "front", Str.ofString "middle", Str.ofString "back", Str.ofString "worn", Str.ofString "most", Str.ofString "columns", Str.ofString "told", Str.ofString "not_less_witness", Str.ofString "taken", Str.ofString "far", Str.ofString "near", Str.ofString "piece", Str.ofString "text", Str.ofString "abs", Str.ofString "_check_parenthesis", Str.ofString "named", Str.ofString "pretty_flags", Str.ofString "_law_words", Str.ofString "shared", Str.ofString "sharing", Str.ofString "laid", Str.ofString "Headers", Str.ofString "common", Str.ofString "add_header", Str.ofString "closed", Str.ofString "kinds", Str.ofString "get_all", Str.ofString "keys", Str.ofString "_law_surplus"]
noncomputable def nm (i : Nat) : Str := nmL.getD i (Str.ofString "__debug__")
noncomputable def zb3 : List (Nat × Nat) := [(22, 0), (24, 0), (25, 0), (26, 0), (28, 0), (29, 0), (30, 0), (31, 0), (19, 0), (27, 4), (32, 4), (34, 4)]
noncomputable def zck : List FS := [
 .asg [.att (.var 22 10008010012) 23 10008010016] (.var 24 10019010021) 10008010021,
 .asg [.tup [25, 26] [11008011009, 11011011012] 11008011012] (.tup [.att (.glo 27 11016011026) 25 11016011028, .att (.glo 27 11030011040) 26 11030011042] 11015011043) 11008011043,
 .asg [.name 28 12008012013] (.list [] 12016012018) 12008012018,
 .asg [.name 29 13008013009, .name 30 13012013013, .name 31 13016013018] (.int 0 13021013022) 13008013022,
 .for_ (.name 19 14012014014) (.att (.var 22 14018014022) 23 14018014026) [
  .ife (.cmp .Eq (.var 19 15015015017) (.var 25 15021015022) 15015015022) [
   .asg [.name 30 16016016017] (.bin .Add (.var 30 16020016021) (.int 1 16024016025) 16020016025) 16016016025,
   .asg [.name 29 17016017017] (.bin .Add (.var 29 17020017021) (.int 1 17024017025) 17020017025) 17016017025] [
   .ife (.cmp .Eq (.var 19 18017018019) (.var 26 18023018024) 18017018024) [
    .asg [.name 30 19016019017] (.bin .Add (.var 30 19020019021) (.int 1 19024019025) 19020019025) 19016019025,
    .asg [.name 31 20016020018] (.bin .Add (.var 31 20021020023) (.int 1 20026020027) 20021020027) 20016020027,
    .ife (.cmp .GtE (.var 29 21019021020) (.call (.glo 32 21024021027) [.var 28 21028021033] [] [] [] 21024021034) 21019021034) [
     .asg [.name 28 22020022025] (.bin .Add (.var 28 22028022033) (.bin .Mult (.list [.int 0 22037022038] 22036022039) (.bin .Add (.bin .Sub (.var 29 22043022044) (.call (.glo 32 22047022050) [.var 28 22051022056] [] [] [] 22047022057) 22043022057) (.int 1 22060022061) 22043022061) 22036022062) 22028022062) 22020022062] [] 21016022062,
    .asg [.sub (.var 28 23016023021) (.var 29 23022023023) 23016023024] (.bin .Add (.sub (.var 28 23027023032) (.var 29 23033023034) 23027023035) (.int 1 23038023039) 23027023039) 23016023039,
    .asg [.name 29 24016024017] (.int 0 24020024021) 24016024021] [
    .brk 26016026021] 18012026021] 15012026021] [] 14008026021,
 .asg [.att (.var 22 27008027012) 30 27008027014] (.var 30 27017027018) 27008027018,
 .asg [.att (.var 22 28008028012) 31 28008028015] (.var 31 28018028020) 28008028020,
 .asg [.att (.var 22 29008029012) 33 29008029017] (.tup [.call (.glo 34 29021029026) [.var 28 29027029032] [] [] [] 29021029033, .var 29 29035029036] 29020029037) 29008029037,
 .asg [.att (.var 22 30008030012) 35 30008030022] (.cmp .LtE (.call (.glo 32 30025030028) [.var 28 30029030034] [] [] [] 30025030035) (.int 1 30039030040) 30025030040) 30008030040]
noncomputable def zaq : List (Nat × Nat) := [(22, 0), (28, 0), (36, 0), (37, 4), (32, 4)]
noncomputable def zat : List FS := [
 .asg [.tup [28, 36] [33008033013, 33015033023] 33008033023] (.att (.var 22 33026033030) 33 33026033035) 33008033035,
 .ret (.call (.glo 37 34015034018) [.bin .Sub (.call (.glo 32 34019034022) [.var 28 34023034028] [] [] [] 34019034029) (.int 1 34032034033) 34019034033, .var 36 34035034043] [] [] [] 34015034044) 34008034044]
noncomputable def za6 : List (Nat × Nat) := [(22, 0), (41, 0), (28, 0), (36, 0), (38, 0), (39, 0), (40, 4), (32, 4)]
noncomputable def zbe : List FS := [
 .asg [.tup [28, 36] [37008037013, 37015037023] 37008037023] (.att (.var 22 37026037030) 33 37026037035) 37008037035,
 .asg [.name 38 38008038010] (.int 0 38013038014) 38008038014,
 .for_ (.name 39 39012039013) (.call (.glo 40 39017039022) [.var 41 39023039030, .call (.glo 32 39032039035) [.var 28 39036039041] [] [] [] 39032039042] [] [] [] 39017039043) [
  .asg [.name 38 40012040014] (.bin .Add (.var 38 40017040019) (.bin .Mult (.bin .FloorDiv (.var 39 40022040023) (.var 41 40027040034) 40022040034) (.sub (.var 28 40037040042) (.var 39 40043040044) 40037040045) 40022040045) 40017040045) 40012040045] [] 39008040045,
 .ret (.bin .Add (.var 36 41015041023) (.bin .Mult (.var 41 41026041033) (.bin .Add (.var 38 41037041039) (.att (.var 22 41042041046) 31 41042041049) 41037041049) 41026041050) 41015041050) 41008041050]
noncomputable def zav : List (Nat × Nat) := [(22, 0), (43, 0), (30, 0), (44, 0), (45, 0), (37, 4), (40, 4)]
noncomputable def za3 : List FS := [
 .asg [.name 30 53008053009] (.bin .Add (.call (.glo 37 53012053015) [.mcall (.var 22 53016053020) 42 [] [] [] [] 53016053042 53016053044, .mcall (.var 43 53046053051) 42 [] [] [] [] 53046053073 53046053075] [] [] [] 53012053076) (.int 1 53079053080) 53012053080) 53008053080,
 .asg [.name 44 54008054009] (.list [] 54012054014) 54008054014,
 .for_ (.name 45 55012055014) (.call (.glo 40 55018055023) [.int 1 55024055025, .bin .Add (.var 30 55027055028) (.int 1 55031055032) 55027055032] [] [] [] 55018055033) [
  .ife (.cmp .GtE (.mcall (.var 22 56015056019) 46 [.var 45 56033056035] [] [] [] 56015056032 56015056036) (.mcall (.var 43 56040056045) 46 [.var 45 56059056061] [] [] [] 56040056058 56040056062) 56015056062) [
   .ex (.mcall (.var 44 57016057017) 0 [.tup [.var 45 57026057028, .mcall (.var 22 57030057034) 46 [.var 45 57048057050] [] [] [] 57030057047 57030057051, .mcall (.var 43 57053057058) 46 [.var 45 57072057074] [] [] [] 57053057071 57053057075] 57025057076] [] [] [] 57016057024 57016057077) 57016057077] [] 56012057077] [] 55008057077,
 .ret (.var 44 58015058016) 58008058016]
noncomputable def zcj : List (Nat × Nat) := [(49, 0), (47, 0), (39, 0), (48, 0), (40, 4), (50, 4), (51, 4)]
noncomputable def za4 : List FS := [
 .asg [.name 47 62004062009] (.list [] 62012062014) 62004062014,
 .for_ (.name 39 63008063009) (.call (.glo 40 63013063018) [.int 32 63019063021] [] [] [] 63013063022) [
  .asg [.name 48 64008064012] (.bin .LShift (.int 1 64015064016) (.var 39 64020064021) 64015064021) 64008064021,
  .ife (.bin .BitAnd (.var 49 65011065016) (.var 48 65019065023) 65011065023) [
   .ex (.mcall (.var 47 66012066017) 0 [.mcall (.glo 50 66025066044) 9 [.var 48 66049066053, .call (.glo 51 66055066058) [.var 48 66059066063] [] [] [] 66055066064] [] [] [] 66025066048 66025066065] [] [] [] 66012066024 66012066066) 66012066066,
   .aug 49 67012067017 .BitXor (.var 48 67021067025) 67012067025,
   .ife (.not (.var 49 68019068024) 68015068024) [
    .brk 69016069021] [] 68012069021] [] 65008069021] [
  .ex (.mcall (.var 47 71008071013) 0 [.call (.glo 51 71021071024) [.var 49 71025071030] [] [] [] 71021071031] [] [] [] 71008071020 71008071032) 71008071032] 63004071032,
 .ret (.mcall (.str ", " [44, 32] 72011072015) 6 [.var 47 72021072026] [] [] [] 72011072020 72011072027) 72004072027]
noncomputable def za9 : List (Nat × Nat) := [(16, 0), (52, 0), (53, 0), (54, 0), (17, 0), (19, 0), (55, 4), (32, 4)]
noncomputable def zbj : List FS := [
 .ife (.cmp .NotIn (.str "\"" [34] 88007088010) (.var 16 88018088022) 88007088022) [
  .ret (.var 16 89015089019) 89008089019] [] 88004089019,
 .asg [.name 52 90004090009] (.int 0 90012090013) 90004090013,
 .asg [.name 53 91004091012] (.none 91015091019) 91004091019,
 .asg [.name 54 92004092010] (.list [] 92013092015) 92004092015,
 .for_ (.tup [17, 19] [93008093011, 93013093015] 93008093015) (.call (.glo 55 93019093038) [.var 16 93039093043] [] [] [] 93019093044) [
  .ife (.cmp .Eq (.var 19 94011094013) (.str "\"" [34] 94017094020) 94011094020) [
   .ife (.cmp .Is (.var 53 95015095023) (.none 95027095031) 95015095031) [
    .asg [.name 53 96016096024] (.var 17 96027096030) 96016096030] [
    .ife (.cmp .NotEq (.var 52 98019098024) (.var 53 98028098036) 98019098036) [
     .ex (.mcall (.var 54 99020099026) 0 [.sli (.var 16 99034099038) (some (.var 52 99039099044)) (some (.var 53 99045099053)) none 99039099053 99034099054] [] [] [] 99020099033 99020099055) 99020099055] [] 98016099055,
    .asg [.name 52 100016100021] (.bin .Add (.var 17 100024100027) (.int 1 100030100031) 100024100031) 100016100031,
    .asg [.name 53 101016101024] (.none 101027101031) 101016101031] 95012101031] [] 94008101031] [] 93004101031,
 .ife (.cmp .Lt (.var 52 102007102012) (.call (.glo 32 102015102018) [.var 16 102019102023] [] [] [] 102015102024) 102007102024) [
  .ex (.mcall (.var 54 103008103014) 0 [.sli (.var 16 103022103026) (some (.var 52 103027103032)) none none 103027103033 103022103034] [] [] [] 103008103021 103008103035) 103008103035] [] 102004103035,
 .ret (.mcall (.str "" [] 104011104013) 6 [.var 54 104019104025] [] [] [] 104011104018 104011104026) 104004104026]
noncomputable def zbp : List (Nat × Nat) := [(16, 0), (57, 0), (17, 0), (19, 0), (56, 4), (55, 4)]
noncomputable def zb9 : List FS := [
 .asg [.name 16 106004106008] (.call (.glo 56 106011106034) [.var 16 106035106039] [] [] [] 106011106040) 106004106040,
 .asg [.name 57 107004107009] (.int 0 107012107013) 107004107013,
 .for_ (.tup [17, 19] [108008108011, 108013108015] 108008108015) (.call (.glo 55 108019108038) [.var 16 108039108043] [] [] [] 108019108044) [
  .ife (.cmp .Eq (.var 19 109011109013) (.str "(" [40] 109017109020) 109011109020) [
   .aug 57 110012110017 .Add (.int 1 110021110022) 110012110022] [
   .ife (.cmp .Eq (.var 19 111013111015) (.str ")" [41] 111019111022) 111013111022) [
    .aug 57 112012112017 .Sub (.int 1 112021112022) 112012112022,
    .ife (.cmp .Lt (.var 57 113015113020) (.int 0 113023113024) 113015113024) [
     .ret (.fls 114023114028) 114016114028] [] 113012114028] [] 111008114028] 109008114028] [] 108004114028,
 .ret (.cmp .Eq (.var 57 115011115016) (.int 0 115020115021) 115011115021) 115004115021]
noncomputable def zcm : List (Nat × Nat) := [(22, 0), (62, 0), (21, 0), (66, 0), (63, 4), (64, 4), (69, 4), (9999, 4)]
noncomputable def zcg : List FS := [
 .asg [.name 62 132008132015] (.ife (.cmp .IsNot (.var 62 132029132036) (.none 132044132048) 132029132048) (.var 62 132018132025) (.list [] 132054132056) 132018132056) 132008132056,
 .ife (.cmp .IsNot (.call (.glo 63 133011133015) [.var 62 133016133023] [] [] [] 133011133024) (.glo 64 133032133036) 133011133036) [
  .dead ((PySem.Stmt.Raise (exc := (some (PySem.Expr.Call (func := (PySem.Expr.Name "TypeError" ⟨134, 18, 134, 27⟩)) (args := [(PySem.Expr.Constant (PySem.Const.str "Headers must be a list of name/value tuples") 0 ⟨134, 28, 134, 73⟩)]) (keywords := []) (pos := ⟨134, 18, 134, 74⟩)))) (cause := none) (pos := ⟨134, 12, 134, 74⟩)))] [] 133008134074,
 .asg [.att (.var 22 135008135012) 65 135008135021] (.var 62 135024135031) 135008135031,
 .ife (.tru 136011136020) [
  .for_ (.tup [21, 66] [137016137017, 137019137020] 137016137020) (.var 62 137024137031) [
   .ex (.mcall (.var 22 138016138020) 68 [.var 21 138042138043] [67] [.tru 138050138054] [138045138054] 138016138041 138016138055) 138016138055,
   .ex (.mcall (.var 22 139016139020) 68 [.var 66 139042139043] [67] [.fls 139050139055] [139045139055] 139016139041 139016139056) 139016139056] [] 137012139056] [] 136008139056]
noncomputable def zaw : List (Nat × Nat) := [(22, 0), (58, 0), (67, 0), (71, 0), (63, 4), (70, 4), (72, 4), (73, 4), (74, 4), (75, 4), (76, 4)]
noncomputable def zap : List FS := [
 .ife (.cmp .Is (.call (.glo 63 142011142015) [.var 58 142016142021] [] [] [] 142011142022) (.glo 70 142026142029) 142011142029) [
  .asg [.name 71 143012143017] (.ife (.var 67 143043143047) (.glo 72 143020143039) (.glo 73 143053143073) 143020143073) 143012143073,
  .ife (.mcall (.var 71 144015144020) 8 [.var 58 144028144033] [] [] [] 144015144027 144015144034) [
   .dead ((PySem.Stmt.Raise (exc := (some (PySem.Expr.Call (func := (PySem.Expr.Name "ValueError" ⟨145, 22, 145, 32⟩)) (args := [(PySem.Expr.Constant (PySem.Const.str "Control characters not allowed in headers") 0 ⟨145, 33, 145, 76⟩)]) (keywords := []) (pos := ⟨145, 22, 145, 77⟩)))) (cause := none) (pos := ⟨145, 16, 145, 77⟩)))] [] 144012145077,
  .ret (.var 58 146019146024) 146012146024] [] 142008146024,
 .dead ((PySem.Stmt.Raise (exc := (some (PySem.Expr.Call (func := (PySem.Expr.Name "AssertionError" ⟨147, 14, 147, 28⟩)) (args := [(PySem.Expr.Call (func := (PySem.Expr.Attribute (value := (PySem.Expr.Constant (value := (PySem.Const.str "Header names/values must be of type str (got {0})")) (k := 0) (pos := ⟨147, 29, 147, 80⟩))) (attr := "format") (pos := ⟨147, 29, 147, 87⟩))) (args := [(PySem.Expr.Call (func := (PySem.Expr.Name "repr" ⟨147, 88, 147, 92⟩)) (args := [(PySem.Expr.Name "value" ⟨147, 93, 147, 98⟩)]) (keywords := []) (pos := ⟨147, 88, 147, 99⟩))]) (keywords := []) (pos := ⟨147, 29, 147, 100⟩))]) (keywords := []) (pos := ⟨147, 14, 147, 101⟩)))) (cause := none) (pos := ⟨147, 8, 147, 101⟩)))]
noncomputable def zb4 : List (Nat × Nat) := [(22, 0), (67, 1)]
noncomputable def zbt : List FS := [
 .asg [.name 67 167008167012] (.mcall (.var 22 167015167019) 68 [.mcall (.var 67 167041167045) 3 [] [] [] [] 167041167051 167041167053] [67] [.tru 167060167064] [167055167064] 167015167040 167015167065) 167008167065,
 .ret (.comp (.sub (.var 77 168016168018) (.int 1 168019168020) 168016168021) [77] [0] 168026168028 (.att (.var 22 168032168036) 65 168032168045) [.cmp .Eq (.mcall (.sub (.var 77 168049168051) (.int 0 168052168053) 168049168054) 3 [] [] [] [] 168049168060 168049168062) (.var 67 168066168070) 168049168070] [(14, 0), (77, 0), (67, 2)] 168015168071) 168008168071]
noncomputable def zcl : List (Nat × Nat) := [(22, 0)]
noncomputable def zcf : List FS := [
 .ret (.comp (.var 21 178016178017) [21, 66] [178022178023, 178025178026] 178022178026 (.att (.var 22 178030178034) 65 178030178043) [] [(14, 0), (21, 0), (66, 0)] 178015178044) 178008178044]
noncomputable def zaj : List (Nat × Nat) := [(22, 0), (81, 0), (79, 0), (15, 0), (78, 0), (21, 0), (66, 0), (80, 4)]
noncomputable def zdi : List FS := [
 .asg [.name 78 199008199013] (.list [] 199016199018) 199008199018,
 .ife (.cmp .IsNot (.var 79 200011200017) (.none 200025200029) 200011200029) [
  .asg [.name 79 201012201018] (.mcall (.var 22 201021201025) 68 [.var 79 201047201053] [67] [.fls 201060201065] [201055201065] 201021201046 201021201066) 201012201066,
  .ex (.mcall (.var 78 202012202017) 0 [.var 79 202025202031] [] [] [] 202012202024 202012202032) 202012202032] [] 200008202032,
 .for_ (.tup [21, 66] [203012203013, 203015203016] 203012203016) (.mcall (.var 15 203020203027) 10 [] [] [] [] 203020203033 203020203035) [
  .asg [.name 21 204012204013] (.mcall (.var 22 204016204020) 68 [.var 21 204042204043] [67] [.tru 204050204054] [204045204054] 204016204041 204016204055) 204012204055,
  .ife (.cmp .Is (.var 66 205015205016) (.none 205020205024) 205015205024) [
   .ex (.mcall (.var 78 206016206021) 0 [.mcall (.var 21 206029206030) 7 [.str "_" [95] 206039206042, .str "-" [45] 206044206047] [] [] [] 206029206038 206029206048] [] [] [] 206016206028 206016206049) 206016206049] [
   .asg [.name 66 208016208017] (.mcall (.var 22 208020208024) 68 [.var 66 208046208047] [67] [.fls 208054208059] [208049208059] 208020208045 208020208060) 208016208060,
   .ex (.mcall (.var 78 209016209021) 0 [.call (.glo 80 209029209041) [.mcall (.var 21 209042209043) 7 [.str "_" [95] 209052209055, .str "-" [45] 209057209060] [] [] [] 209042209051 209042209061, .var 66 209063209064] [] [] [] 209029209065] [] [] [] 209016209028 209016209066) 209016209066] 205012209066] [] 203008209066,
 .ex (.mcall (.att (.var 22 210008210012) 65 210008210021) 0 [.tup [.mcall (.var 22 210030210034) 68 [.var 81 210056210061] [67] [.tru 210068210072] [210063210072] 210030210055 210030210073, .mcall (.str "; " [59, 32] 210075210079) 6 [.var 78 210085210090] [] [] [] 210075210084 210075210091] 210029210092] [] [] [] 210008210028 210008210093) 210008210093]
noncomputable def zda : List (Nat × Nat) := [(85, 0), (84, 0), (82, 0), (83, 0), (86, 0), (87, 4)]
noncomputable def zep : List FS := [
 .asg [.name 82 213004213010] (.list [] 213013213015) 213004213015,
 .for_ (.name 83 214008214012) (.var 84 214016214021) [
  .asg [.tup [85, 86] [215008215014, 215016215021] 215008215021] (.call (.glo 87 215024215030) [.var 85 215031215037, .var 83 215039215043] [] [] [] 215024215044) 215008215044,
  .ex (.mcall (.var 82 216008216014) 0 [.var 86 216022216027] [] [] [] 216008216021 216008216028) 216008216028] [] 214004216028,
 .ret (.var 82 217011217017) 217004217017]
noncomputable def zdb : List (Nat × Nat) := [(90, 0), (91, 0), (88, 0), (89, 0)]
noncomputable def zeq : List FS := [
 .asg [.name 88 219004219010] (.int 0 219013219014) 219004219014,
 .for_ (.name 89 220008220012) (.var 90 220016220020) [
  .asg [.name 88 221008221014] (.bin .Add (.var 88 221017221023) (.int 1 221026221027) 221017221027) 221008221027,
  .whl (.and [.cmp .Eq (.var 89 222014222018) (.str "\t" [9] 222022222026) 222014222026, .cmp .NotEq (.bin .Mod (.var 88 222031222037) (.var 91 222040222044) 222031222044) (.int 0 222048222049) 222031222049] 222014222049) [
   .asg [.name 88 223012223018] (.bin .Add (.var 88 223021223027) (.int 1 223030223031) 223021223031) 223012223031] 222008223031] [] 220004223031,
 .ret (.var 88 224011224017) 224004224017]
noncomputable def zdl : List (Nat × Nat) := [(93, 1), (49, 1), (92, 0), (40, 4), (32, 4)]
noncomputable def zdw : List FS := [
 .asg [.name 92 226004226009] (.comp (.sub (.var 49 226013226018) (.var 21 226019226020) 226013226021) [21] [0] 226026226027 (.call (.glo 40 226031226036) [.call (.glo 32 226037226040) [.var 49 226041226046] [] [] [] 226037226047] [] [] [] 226031226048) [.cmp .Eq (.bin .Mod (.bin .FloorDiv (.var 93 226052226058) (.bin .Pow (.int 2 226062226063) (.var 21 226067226068) 226062226068) 226052226068) (.int 2 226071226072) 226052226072) (.int 1 226076226077) 226052226077] [(14, 0), (21, 0), (93, 2), (49, 2)] 226012226078) 226004226078,
 .ret (.ife (.cmp .Gt (.call (.glo 32 227031227034) [.var 92 227035227040] [] [] [] 227031227041) (.int 0 227044227045) 227031227045) (.mcall (.str ", " [44, 32] 227011227015) 6 [.var 92 227021227026] [] [] [] 227011227020 227011227027) (.str "0x0" [48, 120, 48] 227051227056) 227011227056) 227004227056]
noncomputable def zcx : List (Nat × Nat) := [(94, 0), (32, 4)]
noncomputable def zcw : List FS := [
 .ret (.bin .Sub (.call (.glo 32 229011229014) [.var 94 229015229019] [] [] [] 229011229020) (.bin .Mult (.int 2 229023229024) (.call (.glo 32 229027229030) [.comp (.int 1 229032229033) [95] [0] 229038229041 (.var 94 229045229049) [.cmp .Eq (.bin .Mod (.call (.glo 32 229053229056) [.mcall (.var 95 229057229060) 5 [.str ", " [44, 32] 229067229071] [] [] [] 229057229066 229057229072] [] [] [] 229053229073) (.int 2 229076229077) 229053229077) (.int 1 229081229082) 229053229082] [(14, 0), (95, 0), (32, 4)] 229031229083] [] [] [] 229027229084) 229023229084) 229011229084) 229004229084]
noncomputable def zas : List (Nat × Nat) := [(98, 1), (21, 0), (96, 0), (99, 0), (100, 1), (102, 1), (49, 0), (103, 1), (104, 0), (91, 0), (105, 0), (106, 1), (108, 0), (109, 1), (110, 0), (111, 0), (112, 0), (113, 0), (114, 0), (90, 1), (115, 0), (116, 0), (117, 0), (119, 0), (120, 0), (121, 0), (122, 0), (123, 0), (93, 1), (126, 0), (129, 0), (130, 0), (131, 0), (133, 0), (67, 0), (135, 0), (136, 0), (94, 0), (20, 4), (101, 4), (40, 4), (27, 4), (97, 4), (37, 4), (124, 4), (125, 4), (132, 4), (128, 4), (127, 4), (32, 4), (139, 4)]
noncomputable def ztd : List FS := [
 .asg [.name 96 231004231009] (.comp (.bin .Add (.var 52 231013231018) (.call (.glo 97 231021231024) [.sli (.var 98 231025231031) (some (.var 21 231032231033)) none (some (.int 5 231035231036)) 231032231036 231025231037] [] [] [] 231021231038) 231013231038) [21, 52] [231043231044, 231046231051] 231043231051 (.call (.glo 20 231055231064) [.list [.int 61 231066231068, .int 235 231070231073, .int 115 231075231078, .int 137 231080231083, .int 39 231085231087] 231065231088] [] [] [] 231055231089) [] [(14, 0), (21, 0), (52, 0), (97, 4), (98, 2)] 231012231090) 231004231090,
 .asg [.tup [99, 100] [232004232010, 232012232015] 232004232015] (.call (.glo 101 232018232029) [.sub (.var 96 232030232035) (.int 4 232036232037) 232030232038, .list [.int 4 232041232042, .int 26 232044232046] 232040232047] [] [] [] 232018232048) 232004232048,
 .asg [.name 102 233004233009] (.bin .Add (.str "  \t" [32, 32, 9] 233012233018) (.sub (.list [.str "" [] 233022233024, .str " " [32] 233026233029, .str "  " [32, 32] 233031233035, .str "\t" [9] 233037233041] 233021233042) (.var 99 233043233049) 233021233050) 233012233050) 233004233050,
 .asg [.name 49 234004234009] (.list [.str "OPTIMIZED" [79, 80, 84, 73, 77, 73, 90, 69, 68] 234013234024, .str "NEWLOCALS" [78, 69, 87, 76, 79, 67, 65, 76, 83] 234026234037, .str "VARARGS" [86, 65, 82, 65, 82, 71, 83] 234039234048, .str "VARKEYWORDS" [86, 65, 82, 75, 69, 89, 87, 79, 82, 68, 83] 234050234063, .str "NESTED" [78, 69, 83, 84, 69, 68] 234065234073, .str "GENERATOR" [71, 69, 78, 69, 82, 65, 84, 79, 82] 234075234086, .str "NOFREE" [78, 79, 70, 82, 69, 69] 234088234096, .str "COROUTINE" [67, 79, 82, 79, 85, 84, 73, 78, 69] 234098234109] 234012234110) 234004234110,
 .asg [.name 49 235004235009] (.bin .Add (.bin .Add (.var 49 235012235017) (.list [.str "ITERABLE_COROUTINE" [73, 84, 69, 82, 65, 66, 76, 69, 95, 67, 79, 82, 79, 85, 84, 73, 78, 69] 235021235041, .str "ASYNC_GENERATOR" [65, 83, 89, 78, 67, 95, 71, 69, 78, 69, 82, 65, 84, 79, 82] 235043235060] 235020235061) 235012235061) (.comp (.call (.glo 51 235065235068) [.bin .Pow (.int 2 235069235070) (.var 21 235074235075) 235069235075] [] [] [] 235065235076) [21] [0] 235081235082 (.call (.glo 40 235086235091) [.int 10 235092235094, .int 32 235096235098] [] [] [] 235086235099) [] [(14, 0), (21, 0), (51, 4)] 235064235100) 235012235100) 235004235100,
 .asg [.tup [103, 104] [236004236009, 236011236016] 236004236016] (.tup [.sli (.var 49 236020236025) (some (.var 100 236026236029)) (some (.bin .Add (.var 100 236030236033) (.int 3 236036236037) 236030236037)) none 236026236037 236020236038, .sli (.var 49 236040236045) (some (.bin .Add (.var 100 236046236049) (.int 3 236052236053) 236046236053)) (some (.bin .Add (.var 100 236054236057) (.int 7 236060236061) 236054236061)) none 236046236061 236040236062] 236019236063) 236004236063,
 .asg [.tup [105, 106] [237004237009, 237011237017] 237004237017] (.tup [.call (.glo 27 237021237031) [.bin .Add (.var 102 237032237037) (.str "x" [120] 237040237043) 237032237043] [] [] [] 237021237044, .comp (.call (.glo 107 237047237058) [.var 102 237059237064, .var 91 237066237070] [] [] [] 237047237071) [91] [0] 237076237080 (.call (.glo 40 237084237089) [.int 1 237090237091, .int 5 237093237094] [] [] [] 237084237095) [] [(14, 0), (91, 0), (107, 4), (102, 2)] 237046237096] 237020237097) 237004237097,
 .asg [.tup [108, 109, 110] [238004238012, 238014238021, 238023238027] 238004238027] (.tup [.list [] 238031238033, .list [] 238035238037, .str "()" [40, 41] 238039238043] 238030238044) 238004238044,
 .for_ (.name 21 239008239009) (.call (.glo 40 239013239018) [.int 4 239019239020] [] [] [] 239013239021) [
  .asg [.tup [111, 112, 113, 114] [240008240013, 240015240021, 240023240027, 240029240033] 240008240033] (.call (.glo 101 240036240047) [.sub (.var 96 240048240053) (.var 21 240054240055) 240048240056, .list [.int 4 240059240060, .int 2 240062240063, .int 6 240065240066, .int 6 240068240069] 240058240070] [] [] [] 240036240071) 240008240071,
  .asg [.name 90 241008241012] (.bin .Add (.bin .Add (.sub (.list [.str "" [] 241016241018, .str "\t" [9] 241020241024, .str " \t" [32, 9] 241026241031, .str "  \t" [32, 32, 9] 241033241039] 241015241040) (.var 111 241041241046) 241015241047) (.bin .Mult (.str "\t" [9] 241050241054) (.var 112 241057241063) 241050241063) 241015241063) (.sub (.list [.str "" [] 241067241069, .str " " [32] 241071241074, .str "   " [32, 32, 32] 241076241081, .str "\t" [9] 241083241087, .str " \t" [32, 9] 241089241094, .str "   \t" [32, 32, 32, 9] 241096241103] 241066241104) (.var 113 241105241109) 241066241110) 241015241110) 241008241110,
  .asg [.name 115 242008242012] (.ife (.cmp .In (.var 113 242020242024) (.tup [.int 2 242029242030, .int 5 242032242033] 242028242034) 242020242034) (.int 4 242015242016) (.int 3 242040242041) 242015242041) 242008242041,
  .asg [.name 116 243008243015] (.comp (.tup [.var 91 243020243024, .sub (.var 106 243026243032) (.bin .Sub (.var 91 243033243037) (.int 1 243040243041) 243033243041) 243026243042, .call (.glo 107 243044243055) [.var 90 243056243060, .var 91 243062243066] [] [] [] 243044243067] 243019243068) [91] [0] 243073243077 (.call (.glo 40 243081243086) [.int 1 243087243088, .bin .Add (.var 115 243090243094) (.int 1 243097243098) 243090243098] [] [] [] 243081243099) [] [(14, 0), (91, 0), (107, 4), (106, 2), (90, 2)] 243018243100) 243008243100,
  .asg [.name 117 244008244012] (.mcall (.var 105 244015244020) 118 [.call (.glo 27 244038244048) [.bin .Add (.var 90 244049244053) (.str "x\t" [120, 9] 244056244061) 244049244061] [] [] [] 244038244062] [] [] [] 244015244037 244015244063) 244008244063,
  .ife (.cmp .NotEq (.var 117 245011245015) (.comp (.var 95 245020245023) [95] [0] 245028245031 (.var 116 245035245042) [.cmp .GtE (.sub (.var 95 245046245049) (.int 1 245050245051) 245046245052) (.sub (.var 95 245056245059) (.int 2 245060245061) 245056245062) 245046245062] [(14, 0), (95, 0)] 245019245063) 245011245063) [
   .ret (.fls 246019246024) 246012246024] [] 245008246024,
  .ex (.mcall (.var 108 247008247016) 0 [.call (.glo 97 247024247027) [.comp (.bin .Pow (.int 2 247029247030) (.bin .Sub (.sub (.var 95 247035247038) (.int 0 247039247040) 247035247041) (.int 1 247044247045) 247035247045) 247029247046) [95] [0] 247051247054 (.var 117 247058247062) [.cmp .Lt (.sub (.var 95 247066247069) (.int 0 247070247071) 247066247072) (.int 4 247075247076) 247066247076] [(14, 0), (95, 0)] 247028247077] [] [] [] 247024247078] [] [] [] 247008247023 247008247079) 247008247079,
  .asg [.name 119 248008248013] (.int 0 248016248017) 248008248017,
  .for_ (.tup [91, 120, 121] [249012249016, 249018249021, 249023249027] 249012249027) (.sli (.var 116 249031249038) none (some (.int 3 249040249041)) none 249039249041 249031249042) [
   .asg [.name 122 250012250017] (.sub (.list [.str "" [] 250021250023, .str "\\(" [92, 40] 250025250030, .str "\\)" [92, 41] 250032250037, .str "\\\\" [92, 92] 250039250045, .str "\")\"" [34, 41, 34] 250047250052, .str "\"\\\"(\"" [34, 92, 34, 40, 34] 250054250062] 250020250063) (.bin .Mod (.bin .Add (.var 114 250065250069) (.var 91 250072250076) 250065250076) (.int 6 250080250081) 250064250081) 250020250082) 250012250082,
   .asg [.name 123 251012251016] (.bin .Add (.bin .Add (.bin .Add (.bin .Add (.bin .Mult (.str "(" [40] 251019251022) (.bin .Add (.int 1 251026251027) (.call (.glo 37 251030251033) [.int 0 251034251035, .bin .Sub (.var 120 251037251040) (.var 121 251043251047) 251037251047] [] [] [] 251030251048) 251026251048) 251019251049) (.var 122 251052251057) 251019251057) (.bin .Mult (.str ")" [41] 251060251063) (.bin .Add (.int 1 251067251068) (.call (.glo 124 251071251074) [.bin .Sub (.var 120 251075251078) (.var 121 251081251085) 251075251085] [] [] [] 251071251086) 251067251086) 251060251087) 251019251087) (.bin .Mult (.str "(" [40] 251090251093) (.call (.glo 37 251096251099) [.int 0 251100251101, .bin .Sub (.var 121 251103251107) (.var 120 251110251113) 251103251113] [] [] [] 251096251114) 251090251114) 251019251114) (.str "()" [40, 41] 251117251121) 251019251121) 251012251121,
   .ife (.cmp .Is (.call (.glo 125 252015252033) [.var 123 252034252038] [] [] [] 252015252039) (.tru 252043252047) 252015252047) [
    .asg [.tup [119, 110] [253016253021, 253023253027] 253016253027] (.tup [.bin .Add (.var 119 253031253036) (.bin .Pow (.int 2 253039253040) (.bin .Sub (.var 91 253045253049) (.int 1 253052253053) 253045253053) 253039253054) 253031253054, .var 123 253056253060] 253030253061) 253016253061] [] 252012253061] [] 249008253061,
  .ex (.mcall (.var 109 254008254015) 0 [.var 119 254023254028] [] [] [] 254008254022 254008254029) 254008254029] [] 239004254029,
 .ife (.or [.cmp .IsNot (.call (.glo 125 255007255025) [.bin .Add (.str "(" [40] 255026255029) (.var 110 255032255036) 255026255036] [] [] [] 255007255037) (.fls 255045255050) 255007255050, .cmp .IsNot (.call (.glo 125 255054255072) [.bin .Add (.var 110 255073255077) (.str ")" [41] 255080255083) 255073255083] [] [] [] 255054255084) (.fls 255092255097) 255054255097] 255007255097) [
  .ret (.fls 256015256020) 256008256020] [] 255004256020,
 .asg [.name 126 257004257009] (.comp (.call (.glo 127 257013257025) [.bin .LShift (.var 93 257026257032) (.var 100 257036257039) 257026257039] [] [] [] 257013257040) [93] [0] 257045257051 (.call (.glo 40 257055257060) [.int 8 257061257062] [] [] [] 257055257063) [] [(14, 0), (93, 0), (127, 4), (100, 2)] 257012257064) 257004257064,
 .ife (.cmp .NotEq (.var 126 258007258012) (.comp (.call (.glo 128 258017258027) [.var 93 258028258034, .var 103 258036258041] [] [] [] 258017258042) [93] [0] 258047258053 (.call (.glo 40 258057258062) [.int 8 258063258064] [] [] [] 258057258065) [] [(14, 0), (93, 0), (128, 4), (103, 2)] 258016258066) 258007258066) [
  .ret (.fls 259015259020) 259008259020] [] 258004259020,
 .asg [.tup [129, 130, 131] [260004260010, 260012260019, 260021260025] 260004260025] (.tup [.call (.glo 132 260029260036) [] [] [] [] 260029260038, .call (.glo 132 260040260047) [] [] [] [] 260040260049, .list [] 260051260053] 260028260054) 260004260054,
 .for_ (.name 93 261008261014) (.call (.glo 40 261018261023) [.int 16 261024261026] [] [] [] 261018261027) [
  .asg [.name 133 262008262014] (.int 7 262017262018) 262008262018,
  .for_ (.name 21 263012263013) (.call (.glo 40 263017263022) [.int 4 263023263024] [] [] [] 263017263025) [
   .ife (.cmp .Eq (.bin .Mod (.bin .FloorDiv (.var 93 264015264021) (.bin .Pow (.int 2 264025264026) (.var 21 264030264031) 264025264031) 264015264031) (.int 2 264034264035) 264015264035) (.int 1 264039264040) 264015264040) [
    .asg [.name 133 265016265022] (.bin .BitAnd (.var 133 265025265031) (.sub (.var 108 265034265042) (.var 21 265043265044) 265034265045) 265025265045) 265016265045] [] 264012265045] [] 263008265045,
  .asg [.name 67 266008266012] (.ife (.cmp .Eq (.bin .Mod (.var 93 266040266046) (.int 2 266049266050) 266040266050) (.int 1 266054266055) 266040266055) (.mcall (.sub (.var 126 266015266020) (.var 133 266021266027) 266015266028) 3 [] [] [] [] 266015266034 266015266036) (.sub (.var 126 266061266066) (.var 133 266067266073) 266061266074) 266015266074) 266008266074,
  .ife (.cmp .IsNot (.mcall (.var 129 267011267017) 134 [.var 67 267029267033, .call (.glo 128 267035267045) [.var 93 267046267052, .var 104 267054267059] [] [] [] 267035267060] [] [] [] 267011267028 267011267061) (.none 267069267073) 267011267073) [
   .ret (.fls 268019268024) 268012268024] [] 267008268024] [] 261004268024,
 .for_ (.name 93 269008269014) (.call (.glo 40 269018269023) [.int 8 269024269025] [] [] [] 269018269026) [
  .asg [.name 67 270008270012] (.call (.glo 127 270015270027) [.call (.glo 97 270028270031) [.comp (.bin .Pow (.int 2 270033270034) (.bin .Add (.bin .Add (.var 100 270039270042) (.int 3 270045270046) 270039270046) (.var 21 270049270050) 270039270050) 270033270051) [21] [0] 270056270057 (.call (.glo 40 270061270066) [.int 4 270067270068] [] [] [] 270061270069) [.cmp .Eq (.bin .BitAnd (.var 93 270073270079) (.sub (.var 109 270082270089) (.var 21 270090270091) 270082270092) 270073270092) (.var 93 270096270102) 270073270102] [(14, 0), (21, 0), (109, 2), (93, 2), (100, 2)] 270032270103] [] [] [] 270028270104] [] [] [] 270015270105) 270008270105,
  .ex (.mcall (.var 131 271008271012) 0 [.ife (.cmp .Eq (.bin .Mod (.var 93 271036271042) (.int 2 271045271046) 271036271046) (.int 1 271050271051) 271036271051) (.mcall (.var 67 271020271024) 3 [] [] [] [] 271020271030 271020271032) (.var 67 271057271061) 271020271061] [] [] [] 271008271019 271008271062) 271008271062,
  .ex (.mcall (.var 130 272008272015) 134 [.sub (.var 131 272027272031) (.neg 1 272033272034 272032272034) 272027272035, .call (.glo 128 272037272047) [.var 93 272048272054, .var 103 272056272061] [] [] [] 272037272062] [] [] [] 272008272026 272008272063) 272008272063] [] 269004272063,
 .asg [.tup [135, 136] [273004273010, 273012273017] 273004273017] (.tup [.int 0 273021273022, .list [] 273024273026] 273020273027) 273004273027,
 .for_ (.name 67 274008274012) (.var 126 274016274021) [
  .asg [.name 94 275008275012] (.mcall (.var 129 275015275021) 137 [.mcall (.var 67 275030275034) 4 [] [] [] [] 275030275040 275030275042] [] [] [] 275015275029 275015275043) 275008275043,
  .ife (.cmp .NotEq (.var 94 276011276015) (.list [] 276019276021) 276011276021) [
   .asg [.name 135 277012277018] (.bin .Add (.var 135 277021277027) (.int 1 277030277031) 277021277031) 277012277031,
   .ife (.cmp .NotEq (.sli (.mcall (.var 130 278015278022) 137 [.mcall (.sub (.var 94 278031278035) (.neg 1 278037278038 278036278038) 278031278039) 3 [] [] [] [] 278031278045 278031278047] [] [] [] 278015278030 278015278048) (some (.neg 1 278050278051 278049278051)) none none 278049278052 278015278053) (.list [.var 67 278058278062] 278057278063) 278015278063) [
    .ret (.fls 279023279028) 279016279028] [] 278012279028] [] 276008279028] [] 274004279028,
 .for_ (.name 67 280008280012) (.var 131 280016280020) [
  .ife (.cmp .NotIn (.mcall (.var 67 281011281015) 4 [] [] [] [] 281011281021 281011281023) (.var 136 281031281036) 281011281036) [
   .ex (.mcall (.var 136 282012282017) 0 [.mcall (.var 67 282025282029) 4 [] [] [] [] 282025282035 282025282037] [] [] [] 282012282024 282012282038) 282012282038] [] 281008282038] [] 280004282038,
 .ife (.or [.cmp .NotEq (.mcall (.var 130 283007283014) 138 [] [] [] [] 283007283019 283007283021) (.var 131 283025283029) 283007283029, .cmp .NotEq (.var 135 283033283039) (.call (.glo 32 283043283046) [.var 136 283047283052] [] [] [] 283043283053) 283033283053] 283007283053) [
  .ret (.fls 284015284020) 284008284020] [] 283004284020,
 .ret (.cmp .Eq (.call (.glo 139 285011285023) [.mcall (.var 129 285024285030) 137 [.str "0X0" [48, 88, 48] 285039285044] [] [] [] 285024285038 285024285045] [] [] [] 285011285046) (.call (.glo 139 285050285062) [.mcall (.var 130 285063285070) 137 [.str "0x0" [48, 120, 48] 285079285084] [] [] [] 285063285078 285063285085] [] [] [] 285050285086) 285011285086) 285004285086]
end
end Mine
end
noncomputable section
namespace Mine
section
open PySem
noncomputable def glo2 : List (Nat × V) := [(27, .top 100), (50, .top 105), (127, .top 112), (55, .top 119), (56, .top 126), (125, .top 133), (60, .top 138), (72, .top 143), (73, .top 148), (80, .top 156), (132, .top 277), (101, .top 288), (107, .top 295), (128, .top 300), (139, .top 305),
 (20, .bi .enumerate), (32, .bi .len), (34, .bi .tuple), (37, .bi .max), (40, .bi .range), (51, .bi .hex), (63, .bi .type), (64, .bi .list), (70, .bi .str), (87, .bi .divmod), (97, .bi .sum), (124, .bi .abs)]
noncomputable def meth2 : List (Nat × List (Nat × Nat)) := [(100, [(42, 62), (46, 69), (118, 97)]), (277, [(68, 178), (137, 216), (138, 229), (134, 274)])]
noncomputable def zvh : List (Nat × List (Nat × V)) := [(100, [(25, .str [32]), (26, .str [9])])]
noncomputable def okN (c : Nat) : Bool := match Nat.ble 32 c with | true => Nat.ble c 126 | false => false
noncomputable def pat2 : List (Nat × (Nat -> Bool)) := [(143, okN), (148, okN)]
noncomputable def zj1 : List (Int × List Nat) := [(1, [79, 80, 84, 73, 77, 73, 90, 69, 68]), (2, [78, 69, 87, 76, 79, 67, 65, 76, 83]), (4, [86, 65, 82, 65, 82, 71, 83]), (8, [86, 65, 82, 75, 69, 89, 87, 79, 82, 68, 83]), (16, [78, 69, 83, 84, 69, 68]), (32, [71, 69, 78, 69, 82, 65, 84, 79, 82]), (64, [78, 79, 70, 82, 69, 69]), (128, [67, 79, 82, 79, 85, 84, 73, 78, 69]), (256, [73, 84, 69, 82, 65, 66, 76, 69, 95, 67, 79, 82, 79, 85, 84, 73, 78, 69]), (512, [65, 83, 89, 78, 67, 95, 71, 69, 78, 69, 82, 65, 84, 79, 82])]
noncomputable abbrev SF := Nat -> List RV -> List (Nat × RV) -> Hp -> Option (RV × Hp)
noncomputable def cx2 (S : SF) : Cx := { glo := glo2, meth := meth2, cattr := zvh, pat := pat2, dct := [(105, zj1)], S := S, nSet := 11, nDel := 12 }
noncomputable def fnW : Fn := ⟨[22, 24], [], [], zck, zb3⟩
noncomputable def fnLR : Fn := ⟨[22], [], [], zat, zaq⟩
noncomputable def fnIL : Fn := ⟨[22, 41], [], [], zbe, za6⟩
noncomputable def fnNL : Fn := ⟨[22, 43], [], [], za3, zav⟩
noncomputable def fnPF : Fn := ⟨[49], [], [], za4, zcj⟩
noncomputable def fnSQ : Fn := ⟨[16], [], [], zbj, za9⟩
noncomputable def fnCP : Fn := ⟨[16], [], [], zb9, zbp⟩
noncomputable def fnHI : Fn := ⟨[22, 62], [], [.none], zcg, zcm⟩
noncomputable def fnCV : Fn := ⟨[22, 58, 67], [67], [], zap, zaw⟩
noncomputable def fnGA : Fn := ⟨[22, 67], [], [], zbt, zb4⟩
noncomputable def fnKE : Fn := ⟨[22], [], [], zcf, zcl⟩
noncomputable def fnDI : Fn := ⟨[85, 84], [], [], zep, zda⟩
noncomputable def fnCO : Fn := ⟨[90, 91], [], [], zeq, zdb⟩
noncomputable def fnWO : Fn := ⟨[93, 49], [], [], zdw, zdl⟩
noncomputable def fnSU : Fn := ⟨[94], [], [], zcw, zcx⟩
noncomputable def S0 : SF := fun _ _ _ _ => none
noncomputable def S1 : SF := fun f as ks hp => match Nat.beq f 62 with
 | true => fnS fnLR (cx2 S0) as ks hp
 | false => (match Nat.beq f 69 with
  | true => fnS fnIL (cx2 S0) as ks hp
  | false => (match Nat.beq f 119 with
   | true => genS as ks hp
   | false => (match Nat.beq f 178 with
    | true => fnS fnCV (cx2 S0) as ks hp
    | false => none)))
noncomputable def S2 : SF := fun f as ks hp => match Nat.beq f 126 with
 | true => fnS fnSQ (cx2 S1) as ks hp
 | false => S1 f as ks hp
end
end Mine
end
noncomputable section
namespace Mine
section
open PySem PySem.W
noncomputable section
noncomputable abbrev so (s : String) : Str := Str.ofString s
noncomputable abbrev de (P : Params) (k : Str) (t : Tok) (v : Value) : DictEntry := ⟨PyData.keyHash P k, .str k t, v⟩
noncomputable def hdD (j : Nat) : Stmt := match (PySem.Challenge.pw_wn0122_02.main.body[16]? : Option Stmt) with
 | some (.ClassDef _ _ _ b ..) => b[j]?.getD (.Pass (pos 0))
 | _ => .Pass (pos 0)
noncomputable def mB (j : Nat) : FuncBody := match hdD j with | .FunctionDef _ _ b .. => .stmts b | _ => .stmts []
noncomputable def mS (j : Nat) : Scope := match hdD j with | .FunctionDef _ _ _ _ _ _ sc .. => sc | _ => scF (fun _ => so "") []
noncomputable def K02 (P : Params) : Frag := [
 (2, (.mk .none none (.dict #[(de P (so "\x69mport.loaded._sre") 183 (.bool true)), (de P (so "class._frozen_importlib.BuiltinImporter") 185 (.ref 14)), (de P (so "watched.\x69mport") 206 (.ref 18)), (de P (so "class._frozen_importlib.ModuleSpec") 216 (.ref 22)), (de P (so "sys.modules.booked-epoch") 245 (.int 3 0)), (de P (so "\x69mport.later-laid._sre") 270 (.bool true)), (de P (so "watched.library") 272 (.ref 27)), (de P (so "watched.library-objects") 0 (.str (so "\x0c") 0)), (de P (so "watched.library-deep._sre") 273 (.str (so "\x04\x00\x00\x0b\x04\x00\x00\x0b\x04\x00\x00\x03\x04\x00\x00\x0b\x08\x04dict\x02") 0))] 9) #[])),
 (3, (.mk (.type "dict") none (.dict #[(de P (so "__name__") 165 (.str (so "law_wn0122_02") 732)), (de P (so "__doc__") 166 .none), (de P (so "__package__") 167 .none), (de P (so "__loader__") 168 (.builtin "__main__.__loader__#opaque")), (de P (so "__spec__") 169 .none), (de P (so "__annotations__") 170 (.ref 6)), (de P (so "__builtins__") 171 (.ref 4)), (de P (so "__file__") 173 (.str (so "/claim/cut.py") 172)), (de P (so "__cached__") 174 .none), (de P (so "_sre") 275 (.ref 12)), (de P (so "_wall") 288 (.ref 38)), (de P (so "Whitespace") 391 (.ref 100)), (de P (so "COMPILER_FLAG_NAMES") 424 (.ref 105)), (de P (so "pretty_flags") 434 (.ref 112)), (de P (so "_iter_escaped_chars") 446 (.ref 119)), (de P (so "_strip_quoted_realnames") 458 (.ref 126)), (de P (so "_check_parenthesis") 468 (.ref 133)), (de P (so "tspecials") 504 (.ref 138)), (de P (so "_name_disallowed_re") 530 (.ref 143)), (de P (so "_value_disallowed_re") 564 (.ref 148)), (de P (so "_formatparam") 574 (.ref 156)), (de P (so "Headers") 731 (.ref 277)), (de P (so "_law_digits") 744 (.ref 288)), (de P (so "_law_column") 754 (.ref 295)), (de P (so "_law_words") 760 (.ref 300)), (de P (so "_law_surplus") 766 (.ref 305)), (de P (so "law") 772 (.ref 310))] 27) #[])),
 (54, (.mk (.type "code") none (.fields #[(.str (so "__init__") 308), (.str (so "Whitespace.__init__") 309), (.str (so "/claim/cut.py") 310), (.int 9 0), (.int 2 0), (.int 0 0), (.int 0 0), (.int 3 0), (.ref 49), (.bool true), (.int 276 0), (.ref 50), .none, (.ref 51), (.ref 52), (.ref 53), (.int 320 0), (.int 9 0), (.str (so "/claim/cut.py") 321)]) #[])),
 (55, (.mk (.type "function") none (.func (.mk (so "__init__") (so "Whitespace.__init__") (.mk [] [(.mk (so "self") none (.mk 9 17 9 21)), (.mk (so "ws") none (.mk 9 23 9 25))] none [] [] none []) (.stmts (tSs nm zck)) (scM nm zb3 []) 3 [] .none .none .none (.str (so "cpy313.tabnanny") 289) none (.ref 54) .none 0)) #[])),
 (61, (.mk (.type "code") none (.fields #[(.str (so "longest_run_of_spaces") 323), (.str (so "Whitespace.longest_run_of_spaces") 324), (.str (so "/claim/cut.py") 325), (.int 32 0), (.int 1 0), (.int 0 0), (.int 0 0), (.int 3 0), (.ref 56), (.bool true), (.int 276 0), (.ref 57), .none, (.ref 58), (.ref 59), (.ref 60), (.int 329 0), (.int 32 0), (.str (so "/claim/cut.py") 330)]) #[])),
 (62, (.mk (.type "function") none (.func (.mk (so "longest_run_of_spaces") (so "Whitespace.longest_run_of_spaces") (.mk [] [(.mk (so "self") none (.mk 32 30 32 34))] none [] [] none []) (.stmts (tSs nm zat)) (scM nm zaq []) 3 [] .none .none .none (.str (so "cpy313.tabnanny") 289) none (.ref 61) .none 0)) #[])),
 (68, (.mk (.type "code") none (.fields #[(.str (so "indent_level") 332), (.str (so "Whitespace.indent_level") 333), (.str (so "/claim/cut.py") 334), (.int 36 0), (.int 2 0), (.int 0 0), (.int 0 0), (.int 3 0), (.ref 63), (.bool true), (.int 276 0), (.ref 64), .none, (.ref 65), (.ref 66), (.ref 67), (.int 341 0), (.int 36 0), (.str (so "/claim/cut.py") 342)]) #[])),
 (69, (.mk (.type "function") none (.func (.mk (so "indent_level") (so "Whitespace.indent_level") (.mk [] [(.mk (so "self") none (.mk 36 21 36 25)), (.mk (so "tabsize") none (.mk 36 27 36 34))] none [] [] none []) (.stmts (tSs nm zbe)) (scM nm za6 []) 3 [] .none .none .none (.str (so "cpy313.tabnanny") 289) none (.ref 68) .none 0)) #[])),
 (96, (.mk (.type "code") none (.fields #[(.str (so "not_less_witness") 368), (.str (so "Whitespace.not_less_witness") 369), (.str (so "/claim/cut.py") 370), (.int 52 0), (.int 2 0), (.int 0 0), (.int 0 0), (.int 3 0), (.ref 91), (.bool true), (.int 276 0), (.ref 92), .none, (.ref 93), (.ref 94), (.ref 95), (.int 376 0), (.int 52 0), (.str (so "/claim/cut.py") 377)]) #[])),
 (97, (.mk (.type "function") none (.func (.mk (so "not_less_witness") (so "Whitespace.not_less_witness") (.mk [] [(.mk (so "self") none (.mk 52 25 52 29)), (.mk (so "other") none (.mk 52 31 52 36))] none [] [] none []) (.stmts (tSs nm za3)) (scM nm zav []) 3 [] .none .none .none (.str (so "cpy313.tabnanny") 289) none (.ref 96) .none 0)) #[])),
 (99, (.mk (.type "dict") none (.dict #[(de P (so "__module__") 298 (.str (so "cpy313.tabnanny") 289)), (de P (so "__firstlineno__") 302 (.int 6 301)), (de P (so "S") 306 (.str (so " ") 304)), (de P (so "T") 307 (.str (so "\t") 305)), (de P (so "__init__") 322 (.ref 55)), (de P (so "longest_run_of_spaces") 331 (.ref 62)), (de P (so "indent_level") 343 (.ref 69)), (de P (so "equal") 351 (.ref 76)), (de P (so "not_equal_witness") 359 (.ref 83)), (de P (so "less") 367 (.ref 90)), (de P (so "not_less_witness") 378 (.ref 97)), (de P (so "__static_attributes__") 384 (.ref 98)), (de P (so "__dict__") 386 (.ref 101)), (de P (so "__weakref__") 388 (.ref 102)), (de P (so "__doc__") 389 .none)] 4) #[])),
 (100, (.mk (.type "type") none (.cls (.mk (so "Whitespace") [(.type "object")] [(.ref 100), (.type "object")] 99 (so "Whitespace") true [] [] false none false)) #[none, none, (some (.str (so "Whitespace") 291)), (some (.str (so "Whitespace") 299)), (some (.builtin "object.__new__")), (some (.bool true))])),
 (105, (.mk (.type "dict") none (.dict #[(DictEntry.mk 1 (.int 1 394) (.str (so "OPTIMIZED") 395)), (DictEntry.mk 2 (.int 2 396) (.str (so "NEWLOCALS") 397)), (DictEntry.mk 4 (.int 4 398) (.str (so "VARARGS") 399)), (DictEntry.mk 8 (.int 8 400) (.str (so "VARKEYWORDS") 401)), (DictEntry.mk 16 (.int 16 402) (.str (so "NESTED") 403)), (DictEntry.mk 32 (.int 32 404) (.str (so "GENERATOR") 405)), (DictEntry.mk 64 (.int 64 406) (.str (so "NOFREE") 407)), (DictEntry.mk 128 (.int 128 408) (.str (so "COROUTINE") 409)), (DictEntry.mk 256 (.int 256 410) (.str (so "ITERABLE_COROUTINE") 411)), (DictEntry.mk 512 (.int 512 412) (.str (so "ASYNC_GENERATOR") 413))] 10) #[])),
 (111, (.mk (.type "code") none (.fields #[(.str (so "pretty_flags") 425), (.str (so "pretty_flags") 426), (.str (so "/claim/cut.py") 427), (.int 61 0), (.int 1 0), (.int 0 0), (.int 0 0), (.int 3 0), (.ref 106), (.bool true), (.int 276 0), (.ref 107), .none, (.ref 108), (.ref 109), (.ref 110), (.int 432 0), (.int 61 0), (.str (so "/claim/cut.py") 433)]) #[])),
 (112, (.mk (.type "function") none (.func (.mk (so "pretty_flags") (so "pretty_flags") (.mk [] [(.mk (so "flags") none (.mk 61 17 61 22))] none [] [] none []) (.stmts (tSs nm za4)) (scM nm zcj []) 3 [] .none .none .none (.str (so "cpy313.dis") 392) none (.ref 111) .none 0)) #[])),
 (118, (.mk (.type "code") none (.fields #[(.str (so "_iter_escaped_chars") 437), (.str (so "_iter_escaped_chars") 438), (.str (so "/claim/cut.py") 439), (.int 74 0), (.int 1 0), (.int 0 0), (.int 0 0), (.int 35 0), (.ref 113), (.bool true), (.int 276 0), (.ref 114), .none, (.ref 115), (.ref 116), (.ref 117), (.int 444 0), (.int 74 0), (.str (so "/claim/cut.py") 445)]) #[])),
 (119, (.mk (.type "function") none (.func (.mk (so "_iter_escaped_chars") (so "_iter_escaped_chars") (.mk [] [(.mk (so "addr") none (.mk 74 24 74 28))] none [] [] none []) (.stmts (zc8 nm 75)) (scG nm gsc) 3 [] .none .none .none (.str (so "cpy313.email.utils") 435) none (.ref 118) .none 0)) #[])),
 (125, (.mk (.type "code") none (.fields #[(.str (so "_strip_quoted_realnames") 447), (.str (so "_strip_quoted_realnames") 448), (.str (so "/claim/cut.py") 449), (.int 87 0), (.int 1 0), (.int 0 0), (.int 0 0), (.int 3 0), (.ref 120), (.bool true), (.int 276 0), (.ref 121), .none, (.ref 122), (.ref 123), (.ref 124), (.int 456 0), (.int 87 0), (.str (so "/claim/cut.py") 457)]) #[])),
 (126, (.mk (.type "function") none (.func (.mk (so "_strip_quoted_realnames") (so "_strip_quoted_realnames") (.mk [] [(.mk (so "addr") none (.mk 87 28 87 32))] none [] [] none []) (.stmts (tSs nm zbj)) (scM nm za9 []) 3 [] .none .none .none (.str (so "cpy313.email.utils") 435) none (.ref 125) .none 0)) #[])),
 (132, (.mk (.type "code") none (.fields #[(.str (so "_check_parenthesis") 459), (.str (so "_check_parenthesis") 460), (.str (so "/claim/cut.py") 461), (.int 105 0), (.int 1 0), (.int 0 0), (.int 0 0), (.int 3 0), (.ref 127), (.bool true), (.int 276 0), (.ref 128), .none, (.ref 129), (.ref 130), (.ref 131), (.int 466 0), (.int 105 0), (.str (so "/claim/cut.py") 467)]) #[])),
 (133, (.mk (.type "function") none (.func (.mk (so "_check_parenthesis") (so "_check_parenthesis") (.mk [] [(.mk (so "addr") none (.mk 105 23 105 27))] none [] [] none []) (.stmts (tSs nm zb9)) (scM nm zbp []) 3 [] .none .none .none (.str (so "cpy313.email.utils") 435) none (.ref 132) .none 0)) #[])),
 (142, (.mk (.type "tuple") none (.seq #[(.int 14 0), (.int 10 0), (.int 4 0), (.int 1 0), (.int 1 0), (.int 22 0), (.int 0 0), (.int 31 0), (.int 16 0), (.int 127 0), (.int 0 0), (.int 13 0), (.int 7 0), (.int 22 0), (.int 0 0), (.int 31 0), (.int 16 0), (.int 127 0), (.int 0 0), (.int 1 0)] 0) #[])),
 (143, (.mk (.type "re.Pattern") none (.fields #[(.str (so "[\\x00-\\x1F\\x7F]") 506), (.int 32 529), (.int 0 0), .none, .none, (.ref 142), (.int 0 0)]) #[])),
 (147, (.mk (.type "tuple") none (.seq #[(.int 14 0), (.int 14 0), (.int 4 0), (.int 1 0), (.int 1 0), (.int 9 0), (.int 4294966783 0), (.int 0 0), (.int 0 0), (.int 2147483648 0), (.int 0 0), (.int 0 0), (.int 0 0), (.int 0 0), (.int 0 0), (.int 13 0), (.int 11 0), (.int 9 0), (.int 4294966783 0), (.int 0 0), (.int 0 0), (.int 2147483648 0), (.int 0 0), (.int 0 0), (.int 0 0), (.int 0 0), (.int 0 0), (.int 1 0)] 0) #[])),
 (148, (.mk (.type "re.Pattern") none (.fields #[(.str (so "[\\x00-\\x08\\x0A-\\x1F\\x7F]") 532), (.int 32 563), (.int 0 0), .none, .none, (.ref 147), (.int 0 0)]) #[])),
 (164, (.mk (.type "tuple") none (.seq #[.none] 0) #[])),
 (170, (.mk (.type "code") none (.fields #[(.str (so "__init__") 587), (.str (so "Headers.__init__") 588), (.str (so "/claim/cut.py") 589), (.int 131 0), (.int 2 0), (.int 0 0), (.int 0 0), (.int 3 0), (.ref 165), (.bool true), (.int 276 0), (.ref 166), .none, (.ref 167), (.ref 168), (.ref 169), (.int 594 0), (.int 131 0), (.str (so "/claim/cut.py") 595)]) #[])),
 (171, (.mk (.type "function") none (.func (.mk (so "__init__") (so "Headers.__init__") (.mk [] [(.mk (so "self") none (.mk 131 17 131 21)), (.mk (so "headers") none (.mk 131 23 131 30))] none [] [] none [(Expr.Constant Const.none 0 (.mk 131 31 131 35))]) (.stmts (tSs nm zcg)) (scM nm zcm []) 3 [] (.ref 164) .none .none (.str (so "cpy313.wsgiref.headers") 469) none (.ref 170) .none 0)) #[])),
 (177, (.mk (.type "code") none (.fields #[(.str (so "_convert_string_type") 597), (.str (so "Headers._convert_string_type") 598), (.str (so "/claim/cut.py") 599), (.int 141 0), (.int 2 0), (.int 0 0), (.int 1 0), (.int 3 0), (.ref 172), (.bool true), (.int 276 0), (.ref 173), .none, (.ref 174), (.ref 175), (.ref 176), (.int 604 0), (.int 141 0), (.str (so "/claim/cut.py") 605)]) #[])),
 (178, (.mk (.type "function") none (.func (.mk (so "_convert_string_type") (so "Headers._convert_string_type") (.mk [] [(.mk (so "self") none (.mk 141 29 141 33)), (.mk (so "value") none (.mk 141 35 141 40))] none [(.mk (so "name") none (.mk 141 45 141 49))] [none] none []) (.stmts (tSs nm zap)) (scM nm zaw []) 3 [] .none .none .none (.str (so "cpy313.wsgiref.headers") 469) none (.ref 177) .none 0)) #[])),
 (192, (.mk (.type "function") none (.func (.mk (so "__setitem__") (so "Headers.__setitem__") (.mk [] [(.mk (so "self") none (.mk 152 20 152 24)), (.mk (so "name") none (.mk 152 26 152 30)), (.mk (so "val") none (.mk 152 32 152 35))] none [] [] none []) (mB 3) (mS 3) 3 [] .none .none .none (.str (so "cpy313.wsgiref.headers") 469) none (.ref 191) .none 0)) #[])),
 (197, (.mk (.type "function") none (.func (.mk (so "__delitem__") (so "Headers.__delitem__") (.mk [] [(.mk (so "self") none (.mk 156 20 156 24)), (.mk (so "name") none (.mk 156 26 156 30))] none [] [] none []) (mB 4) (mS 4) 3 [] .none .none .none (.str (so "cpy313.wsgiref.headers") 469) none (.ref 196) .none 0)) #[])),
 (215, (.mk (.type "code") none (.fields #[(.str (so "get_all") 645), (.str (so "Headers.get_all") 646), (.str (so "/claim/cut.py") 647), (.int 166 0), (.int 2 0), (.int 0 0), (.int 0 0), (.int 3 0), (.ref 212), (.bool true), (.int 276 0), (.ref 213), .none, .none, .none, (.ref 214), (.int 648 0), (.int 166 0), (.str (so "/claim/cut.py") 649)]) #[])),
 (216, (.mk (.type "function") none (.func (.mk (so "get_all") (so "Headers.get_all") (.mk [] [(.mk (so "self") none (.mk 166 16 166 20)), (.mk (so "name") none (.mk 166 22 166 26))] none [] [] none []) (.stmts (tSs nm zbt)) (scM nm zb4 [((so "fast"), (Const.str (so "self"))), ((so "fast"), (Const.str (so "name"))), ((so "fast"), (Const.str (so "kv")))]) 3 [] .none .none .none (.str (so "cpy313.wsgiref.headers") 469) none (.ref 215) .none 0)) #[])),
 (224, (.mk (.type "function") none (.func (.mk (so "get") (so "Headers.get") (.mk [] [(.mk (so "self") none (.mk 170 12 170 16)), (.mk (so "name") none (.mk 170 18 170 22)), (.mk (so "default") none (.mk 170 24 170 31))] none [] [] none [(Expr.Constant Const.none 0 (.mk 170 32 170 36))]) (mB 8) (mS 8) 3 [] (.ref 217) .none .none (.str (so "cpy313.wsgiref.headers") 469) none (.ref 223) .none 0)) #[])),
 (228, (.mk (.type "code") none (.fields #[(.str (so "keys") 662), (.str (so "Headers.keys") 663), (.str (so "/claim/cut.py") 664), (.int 177 0), (.int 1 0), (.int 0 0), (.int 0 0), (.int 3 0), (.ref 225), (.bool true), (.int 276 0), (.ref 226), .none, .none, .none, (.ref 227), (.int 665 0), (.int 177 0), (.str (so "/claim/cut.py") 666)]) #[])),
 (229, (.mk (.type "function") none (.func (.mk (so "keys") (so "Headers.keys") (.mk [] [(.mk (so "self") none (.mk 177 13 177 17))] none [] [] none []) (.stmts (tSs nm zcf)) (scM nm zcl [((so "fast"), (Const.str (so "self"))), ((so "fast"), (Const.str (so "k"))), ((so "fast"), (Const.str (so "v")))]) 3 [] .none .none .none (.str (so "cpy313.wsgiref.headers") 469) none (.ref 228) .none 0)) #[])),
 (241, (.mk (.type "function") none (.func (.mk (so "items") (so "Headers.items") (.mk [] [(.mk (so "self") none (.mk 183 14 183 18))] none [] [] none []) (mB 11) (mS 11) 3 [] .none .none .none (.str (so "cpy313.wsgiref.headers") 469) none (.ref 240) .none 0)) #[])),
 (273, (.mk (.type "code") none (.fields #[(.str (so "add_header") 710), (.str (so "Headers.add_header") 711), (.str (so "/claim/cut.py") 712), (.int 198 0), (.int 3 0), (.int 0 0), (.int 0 0), (.int 11 0), (.ref 268), (.bool true), (.int 276 0), (.ref 269), .none, (.ref 270), (.ref 271), (.ref 272), (.int 720 0), (.int 198 0), (.str (so "/claim/cut.py") 721)]) #[])),
 (274, (.mk (.type "function") none (.func (.mk (so "add_header") (so "Headers.add_header") (.mk [] [(.mk (so "self") none (.mk 198 19 198 23)), (.mk (so "_name") none (.mk 198 25 198 30)), (.mk (so "_value") none (.mk 198 32 198 38))] none [] [] (some (.mk (so "_params") none (.mk 198 42 198 49))) []) (.stmts (tSs nm zdi)) (scM nm zaj []) 3 [] .none .none .none (.str (so "cpy313.wsgiref.headers") 469) none (.ref 273) .none 0)) #[])),
 (276, (.mk (.type "dict") none (.dict #[(de P (so "__module__") 582 (.str (so "cpy313.wsgiref.headers") 469)), (de P (so "__firstlineno__") 586 (.int 129 585)), (de P (so "__init__") 596 (.ref 171)), (de P (so "_convert_string_type") 606 (.ref 178)), (de P (so "__len__") 613 (.ref 185)), (de P (so "__setitem__") 622 (.ref 192)), (de P (so "__delitem__") 628 (.ref 197)), (de P (so "__getitem__") 636 (.ref 204)), (de P (so "__contains__") 644 (.ref 211)), (de P (so "get_all") 650 (.ref 216)), (de P (so "get") 661 (.ref 224)), (de P (so "keys") 667 (.ref 229)), (de P (so "values") 673 (.ref 234)), (de P (so "items") 680 (.ref 241)), (de P (so "__repr__") 687 (.ref 248)), (de P (so "__str__") 693 (.ref 253)), (de P (so "__bytes__") 700 (.ref 260)), (de P (so "setdefault") 709 (.ref 267)), (de P (so "add_header") 722 (.ref 274)), (de P (so "__static_attributes__") 724 (.ref 275)), (de P (so "__dict__") 726 (.ref 278)), (de P (so "__weakref__") 728 (.ref 279)), (de P (so "__doc__") 729 .none)] 4) #[])),
 (277, (.mk (.type "type") none (.cls (.mk (so "Headers") [(.type "object")] [(.ref 277), (.type "object")] 276 (so "Headers") true [] [] false none false)) #[none, none, (some (.str (so "Headers") 575)), (some (.str (so "Headers") 583)), (some (.builtin "object.__new__")), (some (.bool true))])),
 (287, (.mk (.type "code") none (.fields #[(.str (so "_law_digits") 734), (.str (so "_law_digits") 735), (.str (so "/claim/cut.py") 736), (.int 212 0), (.int 2 0), (.int 0 0), (.int 0 0), (.int 3 0), (.ref 282), (.bool true), (.int 276 0), (.ref 283), .none, (.ref 284), (.ref 285), (.ref 286), (.int 742 0), (.int 212 0), (.str (so "/claim/cut.py") 743)]) #[])),
 (288, (.mk (.type "function") none (.func (.mk (so "_law_digits") (so "_law_digits") (.mk [] [(.mk (so "number") none (.mk 212 16 212 22)), (.mk (so "bases") none (.mk 212 24 212 29))] none [] [] none []) (.stmts (tSs nm zep)) (scM nm zda []) 3 [] .none .none .none (.str (so "law_wn0122_02") 732) none (.ref 287) .none 0)) #[])),
 (294, (.mk (.type "code") none (.fields #[(.str (so "_law_column") 745), (.str (so "_law_column") 746), (.str (so "/claim/cut.py") 747), (.int 218 0), (.int 2 0), (.int 0 0), (.int 0 0), (.int 3 0), (.ref 289), (.bool true), (.int 276 0), (.ref 290), .none, (.ref 291), (.ref 292), (.ref 293), (.int 752 0), (.int 218 0), (.str (so "/claim/cut.py") 753)]) #[])),
 (295, (.mk (.type "function") none (.func (.mk (so "_law_column") (so "_law_column") (.mk [] [(.mk (so "lead") none (.mk 218 16 218 20)), (.mk (so "size") none (.mk 218 22 218 26))] none [] [] none []) (.stmts (tSs nm zeq)) (scM nm zdb []) 3 [] .none .none .none (.str (so "law_wn0122_02") 732) none (.ref 294) .none 0)) #[])),
 (299, (.mk (.type "code") none (.fields #[(.str (so "_law_words") 755), (.str (so "_law_words") 756), (.str (so "/claim/cut.py") 757), (.int 225 0), (.int 2 0), (.int 0 0), (.int 0 0), (.int 3 0), (.ref 296), (.bool true), (.int 276 0), (.ref 297), .none, .none, .none, (.ref 298), (.int 758 0), (.int 225 0), (.str (so "/claim/cut.py") 759)]) #[])),
 (300, (.mk (.type "function") none (.func (.mk (so "_law_words") (so "_law_words") (.mk [] [(.mk (so "choice") none (.mk 225 15 225 21)), (.mk (so "flags") none (.mk 225 23 225 28))] none [] [] none []) (.stmts (tSs nm zdw)) (scM nm zdl [((so "fast"), (Const.str (so "choice"))), ((so "fast"), (Const.str (so "flags"))), ((so "fast"), (Const.str (so "k"))), ((so "fast"), (Const.str (so "words")))]) 3 [] .none .none .none (.str (so "law_wn0122_02") 732) none (.ref 299) .none 0)) #[])),
 (304, (.mk (.type "code") none (.fields #[(.str (so "_law_surplus") 761), (.str (so "_law_surplus") 762), (.str (so "/claim/cut.py") 763), (.int 228 0), (.int 1 0), (.int 0 0), (.int 0 0), (.int 3 0), (.ref 301), (.bool true), (.int 276 0), (.ref 302), .none, .none, .none, (.ref 303), (.int 764 0), (.int 228 0), (.str (so "/claim/cut.py") 765)]) #[])),
 (305, (.mk (.type "function") none (.func (.mk (so "_law_surplus") (so "_law_surplus") (.mk [] [(.mk (so "rows") none (.mk 228 17 228 21))] none [] [] none []) (.stmts (tSs nm zcw)) (scM nm zcx [((so "fast"), (Const.str (so "rows"))), ((so "fast"), (Const.str (so "row")))]) 3 [] .none .none .none (.str (so "law_wn0122_02") 732) none (.ref 304) .none 0)) #[])),
 (309, (.mk (.type "code") none (.fields #[(.str (so "law") 767), (.str (so "law") 768), (.str (so "/claim/cut.py") 769), (.int 230 0), (.int 1 0), (.int 0 0), (.int 0 0), (.int 3 0), (.ref 306), (.bool true), (.int 276 0), (.ref 307), .none, .none, .none, (.ref 308), (.int 770 0), (.int 230 0), (.str (so "/claim/cut.py") 771)]) #[])),
 (310, (.mk (.type "function") none (.func (.mk (so "law") (so "law") (.mk [] [(.mk (so "script") none (.mk 230 8 230 14))] none [] [] none []) (.stmts (tSs nm ztd)) (scM nm zas [((so "fast"), (Const.str (so "script"))), ((so "fast"), (Const.str (so "k"))), ((so "fast"), (Const.str (so "start"))), ((so "fast"), (Const.str (so "cells"))), ((so "fast"), (Const.str (so "behind"))), ((so "fast"), (Const.str (so "low"))), ((so "fast"), (Const.str (so "limit"))), ((so "fast"), (Const.str (so "flags"))), ((so "fast"), (Const.str (so "sizes"))), ((so "fast"), (Const.str (so "lines"))), ((so "fast"), (Const.str (so "size"))), ((so "fast"), (Const.str (so "bound"))), ((so "fast"), (Const.str (so "bounds"))), ((so "fast"), (Const.str (so "by_nanny"))), ((so "fast"), (Const.str (so "by_mail"))), ((so "fast"), (Const.str (so "kept"))), ((so "fast"), (Const.str (so "front"))), ((so "fast"), (Const.str (so "middle"))), ((so "fast"), (Const.str (so "back"))), ((so "fast"), (Const.str (so "worn"))), ((so "fast"), (Const.str (so "lead"))), ((so "fast"), (Const.str (so "most"))), ((so "fast"), (Const.str (so "columns"))), ((so "fast"), (Const.str (so "told"))), ((so "fast"), (Const.str (so "row"))), ((so "fast"), (Const.str (so "taken"))), ((so "fast"), (Const.str (so "far"))), ((so "fast"), (Const.str (so "near"))), ((so "fast"), (Const.str (so "piece"))), ((so "fast"), (Const.str (so "text"))), ((so "fast"), (Const.str (so "choice"))), ((so "fast"), (Const.str (so "named"))), ((so "fast"), (Const.str (so "shared"))), ((so "fast"), (Const.str (so "sharing"))), ((so "fast"), (Const.str (so "laid"))), ((so "fast"), (Const.str (so "common"))), ((so "fast"), (Const.str (so "name"))), ((so "fast"), (Const.str (so "closed"))), ((so "fast"), (Const.str (so "kinds"))), ((so "fast"), (Const.str (so "rows")))]) 3 [] .none .none .none (.str (so "law_wn0122_02") 732) none (.ref 309) .none 0)) #[]))
 ]
end
end
end Mine
end
noncomputable section
namespace Mine
section
open PySem
noncomputable def addS (as : List RV) (ks : List (Nat × RV)) (hp : Hp) : Option (RV × Hp) := ifb (emp ks) (bd (a3 as) fun p => bd (rR p.1) fun n => bd (rS p.2.1) fun nme => bd (rS p.2.2) fun val => bd (insA n hp) fun cd => ifb (zjn (look cd.2 68)) (ifb (Nat.beq cd.1 277) (bd (look cd.2 65) fun lv => bd (vR lv) fun l =>
 ifb (okc okN nme) (ifb (okc okN val) (bd (lisA l hp) fun xs => ifb (pls xs) (ifb (fits (len xs)) (ifb (fits (len val)) (some (.v .none, upd hp l (.list (xs ++ [.tup [.str nme, .str val]])))))))))))
end
end Mine
end
noncomputable section
namespace Mine
section
open PySem PySem.W PyProof.Rows
theorem zkq {x : V} (h : pl x = true) : zdp (.v x) = some x /\ refR (.v x) = none := by
 have e : zdp (.v x) = some x := by show ifb (pl x) _ = _; rw [h]; rfl
 exact ⟨e, (zg3 e).2.2⟩
theorem gath_pl {hp : Hp} {as : List V} : pls as = true -> za2 (rvs as) = [] /\ gath (rvs as) hp 0 = some (as, []) /\ ∀ os hp', wb (rvs as) os hp' = some hp' := by
 induction as with
 | nil => exact fun _ => ⟨rfl, rfl, fun _ _ => rfl⟩
 | cons a r ih =>
  intro h
  obtain ⟨h1, h2⟩ := zab (show and2 (pl a) (pls r) = true from h)
  obtain ⟨i1, i2, i3⟩ := ih h2
  obtain ⟨e1, e2⟩ := zkq h1
  refine ⟨?_, ?_, fun os hp' => ?_⟩
  · show byO (refR (.v a)) _ (za2 (rvs r)) = _; rw [e2]; exact i1
  · show byO (zdp (.v a)) (fun x => bd (gath (rvs r) hp 0) _) _ = _; rw [e1]; show bd (gath (rvs r) hp 0) _ = _; rw [i2]; rfl
  · show byO (zdp (.v a)) (fun _ => wb (rvs r) os hp') _ = _; rw [e1]; exact i3 os hp'
theorem ze0 {S0 : List RV -> List (Nat × RV) -> Hp -> Option (RV × Hp)} {as : List V} {x : V} (h : ∃ h2, S0 (rvs as) [] [] = some (.v x, h2)) (ha : pls as = true) (hx : pl x = true) (hp : Hp) : subS S0 (rvs as) [] hp = some (.v x, hp) := by
 obtain ⟨h2, e⟩ := h
 obtain ⟨g1, g2, g3⟩ := gath_pl (hp := hp) ha
 show ifb (zdq (za2 (rvs as))) (bd (gath (rvs as) hp 0) _) = _
 rw [g1, g2]
 show bd (S0 (rvs as) [] []) _ = _
 rw [e]
 show bd (wb (rvs as) h2 hp) _ = _
 rw [g3]
 show byO (refR (.v x)) _ (ifb (pl x) _) = _
 rw [(zkq hx).2, hx]; rfl
section
variable {α β : Type} {a b x y : α} {o : Option α} {f : α -> Option β} {g : α -> β} {z : β}
theorem zy1 : bd (some a) f = f a := rfl
theorem zy2 : bd none f = none := rfl
theorem zy3 : ifb true o = o := rfl
theorem zy5 : orl (some a) o = some a := rfl
theorem zy6 : orl none o = o := rfl
theorem zy7 : cs true x y = x := rfl
theorem zy8 : cs false x y = y := rfl
theorem zy9 : byO (some a) g z = g a := rfl
theorem zy10 : byO none g z = z := rfl
theorem zy12 : a1 [x] = some x := rfl
theorem zy13 {r : List α} : a1 (x :: y :: r) = none := rfl
theorem zy16 : emp ([] : List α) = true := rfl
theorem zy17 : zjn (none : Option α) = true := rfl
end
section
variable {cx : Cx} {v : V} {i j : Int} {n m : Nat} {s t : List Nat} {xs ys : List V} {hp : Hp} {bb : Bool} {bi : Bi} {c : Nat} {d : List (Nat × V)} {as : List RV} {ks : List (Nat × RV)} {lo hi : Option RV}
theorem zv1 : rV (.v v) = some v := rfl
theorem zv3 : rI (.v (.int i)) = some i := rfl
theorem zv10 : rS (.v (.ref n)) = none := rfl
theorem zv13 : rR (.v (.ref n)) = some n := rfl
theorem zv14 : rN (.v .none) = true := rfl
theorem zv15 : vI (.int i) = some i := rfl
theorem zv21 : oL (.list xs) = some xs := rfl
theorem zv22 : oI (.inst c d) = some (c, d) := rfl
theorem zv24 : zem (.v v) hp = some (v, hp) := rfl
theorem zv25 : zem (.l xs) hp = some (.ref (len hp), hp ++ [.list xs]) := rfl
theorem zv27 : cont (.v (.ref n)) hp = lisA n hp := rfl
theorem zv31 : zff (.l xs) hp = some xs := rfl
theorem zv32 : zff (.v (.tup xs)) hp = some xs := rfl
theorem zv34 : zl1 cx (.v (.ref n)) m hp = bd (nth hp n) (mkO cx n m) := rfl
theorem zv35 : mkO cx n m (.inst c d) = ifb (zjn (look d m)) (bd (look cx.meth c) fun t => bd (look t m) fun f => some (.fn f (.ref n))) := rfl
theorem zv36 : mkO cx n m (.list xs) = ifb (Nat.beq m 0) (some (.lst n)) := rfl
theorem zv37 : zl1 cx (.v (.str s)) m hp = ifb (Nat.ble 3 m) (ifb (Nat.ble m 6) (some (.str s))) := rfl
theorem zv38 : zl1 cx (.v (.top n)) m hp = zr3 cx n m := rfl
theorem zv39 : mapp cx (.fn n v) m as ks hp = cx.S n (.v v :: as) ks hp := rfl
theorem zv40 : mapp cx (.lst n) m as ks hp = ifb (emp ks) (mLst n m as hp) := rfl
theorem zv41 : mapp cx (.str s) m as ks hp = ifb (emp ks) (same hp (mStr s m as hp)) := rfl
theorem zv42 : mapp cx (.top n) m as ks hp = ifb (emp ks) (same hp (mTop cx n m as)) := rfl
theorem zv43 : ztx cx (.v (.ref n)) m hp = bd (insA n hp) fun cd => bd (look cx.meth cd.1) fun _ => bd (look cd.2 m) fun v => some (.v v) := rfl
theorem zv45 : zpu cx (.v (.top n)) as ks hp = cx.S n as ks hp := rfl
theorem zv46 : zpu cx (.v (.bi bi)) as ks hp = ifb (emp ks) (same hp (bic bi as hp)) := rfl
theorem zv47 : zev .Add (.v (.int i)) (.v (.int j)) hp = some (.v (.int (i + j))) := rfl
theorem zv48 : zev .Sub (.v (.int i)) (.v (.int j)) hp = some (.v (.int (i - j))) := rfl
theorem zv49 : zev .Add (.v (.str s)) (.v (.str t)) hp = orl (ifb (fits (len s + len t)) (some (.v (.str (s ++ t))))) none := rfl
theorem zv50 : zev .Mult (.v (.str s)) (.v (.int i)) hp = bd (repI i) fun k => orl (ifb (fits (len s * k)) (some (.v (.str (repN s k))))) none := rfl
theorem zv51 : repI (.ofNat n) = ifb (fits n) (some n) := rfl
theorem zv52 : zco .Lt (.v (.int i)) (.v (.int j)) hp = some (Z.ltB i j) := rfl
theorem zv54 : zco .Gt (.v (.int i)) (.v (.int j)) hp = some (Z.ltB j i) := rfl
theorem zv55 : zco .GtE (.v (.int i)) (.v (.int j)) hp = some (Z.leB j i) := rfl
theorem zv56 : zco .Eq (.v (.int i)) (.v (.int j)) hp = some (Z.eqB i j) := rfl
theorem zv58 : truV (.v (.bool bb)) hp = some bb := rfl
theorem zv59 : truV (.v (.int i)) hp = some (bnot (Z.eqB i 0)) := rfl
theorem zv63 : bnot true = false := rfl
theorem zv64 : bnot false = true := rfl
theorem zv65 : mLst n 0 as hp = bd (lisA n hp) fun xs => bd (a1 as) fun r => ifb (fits (len xs)) (bd (zem r hp) fun p => some (.v .none, upd p.2 n (.list (xs ++ [p.1])))) := rfl
theorem zv67 : zes (.v (.ref n)) (.v (.int i)) hp = bd (lisA n hp) fun xs => bd (idx i (len xs)) fun j => bd (nth xs j) fun v => some (.v v) := rfl
theorem zv68 : zes (.v (.tup xs)) (.v (.int i)) hp = bd (idx i (len xs)) fun j => bd (nth xs j) fun v => some (.v v) := rfl
theorem zv69 : zdo (.v (.ref n)) lo hi hp = bd (lisA n hp) fun xs => bd (zhs lo (len xs)) fun a => bd (zht hi (len xs)) fun b => some (.l (cut xs a b)) := rfl
end
section
variable {x : L × Hp} {r : RV} {more : Option (Fl × L × Hp)} {m2 : Option (LE × L × Hp)}
theorem zw1 : nx (.next, x) more = more := rfl
theorem zw2 : nx (.brk, x) more = some (.brk, x) := rfl
theorem zw4 : nx (.ret r, x) more = some (.ret r, x) := rfl
theorem zw9 {f : ExT} : aftL f (.dry, x) = f x.1 x.2 := rfl
theorem zw12 {cx : Cx} {y p : Nat} {fl : L} {hp : Hp} : zc1 cx (.name y p) r fl hp = zaz y r fl hp := rfl
theorem zw13 {cx : Cx} {ys ps : List Nat} {p : Nat} {fl : L} {hp : Hp} : zc1 cx (.tup ys ps p) r fl hp = bTpl ys r fl hp := rfl
theorem zw14 {cx : Cx} {e : FE} {y p : Nat} {fl : L} {hp : Hp} : zc1 cx (.att e y p) r fl hp = bAtt cx (ev cx fl e) y r fl hp := rfl
theorem zw17 {n : Nat} {hp : Hp} : zm2 (.v (.ref n)) hp = bd (lisA n hp) fun _ => some (.live n 0) := rfl
theorem zw18 {a b c : Int} {hp : Hp} : zm2 (.v (.rng a b c)) hp = srcR a b c := rfl
theorem zw22 {xs : List V} {hp : Hp} : zhl (.items xs) hp = len xs + 1 := rfl
end
theorem zw23 {n i : Nat} {hp : Hp} : zhl (.live n i) hp = byO (lisA n hp) (fun xs => len xs + 1) 0 := rfl
theorem zw24 {n i : Nat} {hp : Hp} : zie (.live n i) hp = bd (lisA n hp) fun xs => some (bd (nth xs i) fun v => some (v, .live n (i + 1))) := rfl
theorem zw25 {w : L × Hp} : outB (.next, w) = some (.v .none, w.2) := rfl
theorem zw26 {r : RV} {w : L × Hp} : outB (.ret r, w) = some (r, w.2) := rfl
section
variable {cx : Cx} {fl : L} {hp : Hp} {p q x i : Nat} {e a b f it : FE} {es ks : List FE} {kn ts tps : List Nat} {o : Operator} {c : CmpOp} {lo hi st : Option FE} {s : String} {l : List Nat} {sc : List (Nat × Nat)} {tgs : List Tg} {g : Tg} {bs cs' : List FS} {z : FS} {v : V} {r : RV} {rs : List RV} {vs : List V} {ap : Nat} {as : List RV} {b' : Bool} {r' : V} {k : Nat} {F : V -> L -> Hp -> Option (Fl × L × Hp)} {sr : Src} {os : O} {hq : Hp}
theorem zq0 : ev cx fl (.none p) hp = some (.v .none, hp) := rfl
theorem zq1 : ev cx fl (.tru p) hp = some (.v (.bool true), hp) := rfl
theorem zq2 : ev cx fl (.fls p) hp = some (.v (.bool false), hp) := rfl
theorem zq3 : ev cx fl (.int i p) hp = some (.v (.int (.ofNat i)), hp) := rfl
theorem zq4 : ev cx fl (.str s l p) hp = some (.v (.str l), hp) := rfl
theorem zq5 : ev cx fl (.var x p) hp = hVar fl x hp := rfl
theorem zq6 : ev cx fl (.glo x p) hp = hGlo cx x hp := rfl
theorem zq8 : ev cx fl (.bin o a b p) hp = hBin o (ev cx fl a) (ev cx fl b) hp := rfl
theorem zq9 : ev cx fl (.neg i p q) hp = some (.v (.int (Int.neg (.ofNat i))), hp) := rfl
theorem zq10 : ev cx fl (.cmp c a b p) hp = hCmp c (ev cx fl a) (ev cx fl b) hp := rfl
theorem zq11 : ev cx fl (.ife e a b p) hp = hIfe (tr cx fl e) (ev cx fl a) (ev cx fl b) hp := rfl
theorem zq12 : ev cx fl (.list es p) hp = hLst (evs cx fl es) hp := rfl
theorem zq13 : ev cx fl (.tup es p) hp = hTup (evs cx fl es) hp := rfl
theorem zq14 : ev cx fl (.sub a b p) hp = hSub (ev cx fl a) (ev cx fl b) hp := rfl
theorem zq15 : ev cx fl (.sli a lo hi st p q) hp = hSli cx (ev cx fl a) (evo cx fl lo) (evo cx fl hi) st hp := rfl
theorem zq16 : ev cx fl (.att a x p) hp = hAtt cx (ev cx fl a) x hp := rfl
theorem zq17 : ev cx fl (.call f es kn ks tps p) hp = zbc cx (ev cx fl f) (evs cx fl es) kn (evs cx fl ks) hp := rfl
theorem zq18 : ev cx fl (.mcall f x es kn ks tps p q) hp = zau cx (ev cx fl f) x (evs cx fl es) kn (evs cx fl ks) hp := rfl
theorem zq21 : ev cx fl (.comp e ts tps p it es sc q) hp = zdu (fun fl => ev cx fl e) ts (ev cx fl it) (fun fl => trA cx fl es) (flr sc fl) hp := rfl
theorem zq22 : evs cx fl [] hp = some ([], hp) := rfl
theorem zq23 : evs cx fl (e :: es) hp = zal (ev cx fl e) (evs cx fl es) hp := rfl
theorem zq24 : evo cx fl none hp = some (none, hp) := rfl
theorem zq25 : evo cx fl (some e) hp = zma (ev cx fl e) hp := rfl
theorem zq26 : tr cx fl (.not a p) hp = tNot (tr cx fl a) hp := rfl
theorem zq28 : tr cx fl (.or es p) hp = trO cx fl es hp := rfl
theorem zq29 : tr cx fl (.cmp c a b p) hp = tCmp c (ev cx fl a) (ev cx fl b) hp := rfl
theorem zq30 : tr cx fl (.var x p) hp = hTru (hVar fl x) hp := rfl
theorem zq32 : tr cx fl (.tru p) hp = some (true, hp) := rfl
theorem zq33 : tr cx fl (.bin o a b p) hp = hTru (hBin o (ev cx fl a) (ev cx fl b)) hp := rfl
theorem zq34 : tr cx fl (.mcall f x es kn ks tps p q) hp = hTru (zau cx (ev cx fl f) x (evs cx fl es) kn (evs cx fl ks)) hp := rfl
theorem zq35 : trA cx fl [] hp = some (true, hp) := rfl
theorem zq36 : trA cx fl (e :: es) hp = tAnd (tr cx fl e) (trA cx fl es) hp := rfl
theorem zq37 : trO cx fl [] hp = some (false, hp) := rfl
theorem zq38 : trO cx fl (e :: es) hp = tOr (tr cx fl e) (trO cx fl es) hp := rfl
theorem zq39 : ex cx (.asg tgs e p) fl hp = xAsg cx tgs (fun fl => ev cx fl e) fl hp := rfl
theorem zq40 : ex cx (.ex e p) fl hp = xEx (fun fl => ev cx fl e) fl hp := rfl
theorem zq41 : ex cx (.aug x q o e p) fl hp = xAug x o (fun fl => ev cx fl e) fl hp := rfl
theorem zq42 : ex cx (.ife e bs cs' p) fl hp = xIfe (fun fl => tr cx fl e) (exs cx bs) (exs cx cs') fl hp := rfl
theorem zq44 : ex cx (.for_ g it bs cs' p) fl hp = xFor cx g (fun fl => ev cx fl it) (exs cx bs) (exs cx cs') fl hp := rfl
theorem zq45 : ex cx (.ret e p) fl hp = xRet (fun fl => ev cx fl e) fl hp := rfl
theorem zq47 : ex cx (.brk p) fl hp = some (.brk, fl, hp) := rfl
theorem zq49 : exs cx [] fl hp = some (.next, fl, hp) := rfl
theorem zq50 : exs cx (z :: bs) fl hp = zbx (ex cx z) (exs cx bs) fl hp := rfl
theorem zq51 : zf5 cx [] v fl hp = some (fl, hp) := rfl
theorem zq52 : zf5 cx (g :: tgs) v fl hp = bd (zc1 cx g (.v v) fl hp) fun x => zf5 cx tgs v x.1 x.2 := rfl
theorem zq53 : zcq [] hp = some ([], hp) := rfl
theorem zq54 : zcq (r :: rs) hp = bd (zem r hp) fun x => bd (zcq rs x.2) fun y => some (x.1 :: y.1, y.2) := rfl
theorem zq55 : za7 [] [] fl = some fl := rfl
theorem zq56 : za7 (x :: l) (v :: vs) fl = za7 l vs (put fl x v) := rfl
theorem zq57 : look ([] : List (Nat × V)) x = none := rfl
theorem zq58 : look ((q, v) :: fl) x = cs (Nat.beq q x) (some v) (look fl x) := rfl
theorem zq59 : bic .len as hp = bLen as hp := rfl
theorem zq60 : bic .range as hp = zgl as := rfl
theorem zq61 : bic .max as hp = bMax as hp := rfl
theorem zq62 : bic .sum as hp = bSum as hp := rfl
theorem zq63 : bic .hex as hp = bHex as := rfl
theorem zq65 : bic .abs as hp = bAbs as := rfl
theorem zq67 : bic .type as hp = zp1 as hp := rfl
theorem zq68 : look ([] : List (Nat × Nat)) x = none := rfl
theorem zq69 : look ((q, p) :: sc) x = cs (Nat.beq q x) (some p) (look sc x) := rfl
theorem zq70 : put ([] : L) x v = [(x, v)] := rfl
theorem zq71 : put ((q, r') :: fl) x v = cs (Nat.beq q x) ((x, v) :: fl) ((q, r') :: put fl x v) := rfl
theorem zq73 : nth ([] : List V) x = none := rfl
theorem zq74 : forS F (k + 1) sr fl hp = bd (zie sr hp) fun o => byO o (fun p => bd (F p.1 fl hp) fun w => nxt w (forS F k p.2 w.2.1 w.2.2)) (some (.dry, fl, hp)) := rfl
theorem zq75 : nth (os :: hq) 0 = some os := rfl
theorem zq76 : nth (os :: hq) (k + 1) = nth hq k := rfl
theorem zq77 : nth (v :: vs) 0 = some v := rfl
theorem zq78 : nth (v :: vs) (k + 1) = nth vs k := rfl
theorem zq79 : zhf [] = [] := rfl
theorem zq80 : zhy [] = [] := rfl
theorem zq81 : leq [] [] = true := rfl
theorem zq82 : len ([] : List V) = 0 := rfl
theorem zq83 : len (v :: vs) = len vs + 1 := rfl
theorem zq84 : len ([] : List Nat) = 0 := rfl
theorem zq85 : len (x :: l) = len l + 1 := rfl
end
theorem zx1 {hp : Hp} : zco .IsNot (.v .none) (.v .none) hp = some false := rfl
theorem zx2 {hp : Hp} : zco .IsNot (.v (.bi .list)) (.v (.bi .list)) hp = some false := rfl
section
variable {cx : Cx} {i j : Int} {n m : Nat} {s t : List Nat} {xs ys : List V} {hp : Hp} {r : RV} {lo hi : Option RV} {bb : Bool}
theorem zu0 : zev .LShift (.v (.int (.ofNat n))) (.v (.int (.ofNat m))) hp = orl (bd (ifb (Nat.blt n 18446744073709551616) (ifb (Nat.blt m 64) (some (.ofNat (n * Nat.pow 2 m))))) fun z => some (.v (.int z))) none := rfl
theorem zu1 : zev .BitAnd (.v (.int i)) (.v (.int j)) hp = some (.v (.int (Builtin.bitAnd i j))) := rfl
theorem zu3 : mTop cx n 9 [.v (.int i), .v (.str s)] = bd (look cx.dct n) fun t => some (.v (.str (byO (zfo t i) id s))) := rfl
theorem zu4 : mTop cx n 8 [.v (.str s)] = orl (bd (look cx.pat n) fun p => ifb (okc p s) (some (.v .none))) none := rfl
theorem zu5 : zr3 cx n 9 = bd (look cx.dct n) fun _ => some (.top n) := rfl
theorem zu6 : zr3 cx n 8 = orl (bd (look cx.pat n) fun _ => some (.top n)) none := rfl
theorem zu7 : mStr s 6 [r] hp = bd (zqx r hp) fun l => ifb (fits (len (zce s l))) (ifb (fits (len l)) (some (.v (.str (zce s l))))) := rfl
theorem zu8 : mStr s 3 [] hp = some (.v (.str (s.map lowc))) := rfl
theorem zu9 : mStr s 4 [] hp = some (.v (.str (s.map uppc))) := rfl
theorem zu10 : mStr s 5 [.v (.str [n, m])] hp = some (.l ((zan n m [] s).map V.str)) := rfl
theorem zu11 : zqx (.v (.ref n)) hp = bd (lisA n hp) zf6 := rfl
theorem zu14 : zik (.l xs) hp = zd9 xs := rfl
theorem zu15 : bHex [.v (.int (.ofNat n))] = ifb (Nat.blt n 340282366920938463463374607431768211456) (some (.v (.str (hexL n)))) := rfl
theorem zu16 : bLen [r] hp = bd (lenR r hp) fun n => some (.v (.int (.ofNat n))) := rfl
theorem zu17 : lenR (.v (.ref n)) hp = bd (lisA n hp) fun xs => some (len xs) := rfl
theorem zu20 : lenR (.l xs) hp = some (len xs) := rfl
theorem zu21 : zgl [.v (.int i)] = orl (ran 0 i 1) none := rfl
theorem zu22 : zgl [.v (.int i), .v (.int j)] = orl (ran i j 1) none := rfl
theorem zu23 : bMax [.v (.int i), .v (.int j)] hp = some (.v (.int (cs (Z.ltB i j) j i))) := rfl
theorem zu25 : bSum [r] hp = bd (zik r hp) fun l => some (.v (.int (sumI l 0))) := rfl
theorem zu27 : bAbs [.v (.int i)] = some (.v (.int (.ofNat i.natAbs))) := rfl
theorem zu29 : zev .FloorDiv (.v (.int i)) (.v (.int j)) hp = orl (bd (ifb (bnot (Z.eqB j 0)) (ifb (small j) (some (Int.fdiv i j)))) fun z => some (.v (.int z))) none := rfl
theorem zu30 : zev .Mod (.v (.int i)) (.v (.int j)) hp = orl (bd (ifb (bnot (Z.eqB j 0)) (ifb (small j) (some (Int.fmod i j)))) fun z => some (.v (.int z))) none := rfl
theorem zu31 : zev .Mult (.v (.int i)) (.v (.int j)) hp = orl (bd (ifb (small i) (ifb (small j) (some (i * j)))) fun z => some (.v (.int z))) (mulR (.v (.int i)) (.v (.int j)) hp) := rfl
theorem zu32 : zev .Pow (.v (.int (.ofNat n))) (.v (.int (.ofNat m))) hp = orl (bd (ifb (Nat.beq n 2) (ifb (Nat.blt m 64) (some (.ofNat (Nat.pow 2 m))))) fun z => some (.v (.int z))) none := rfl
theorem zu38 : zco .NotEq (.v (.int i)) (.v (.int j)) hp = some (bnot (Z.eqB i j)) := rfl
theorem zu40 : zdo (.l xs) lo hi hp = bd (zhs lo (len xs)) fun a => bd (zht hi (len xs)) fun b => some (.l (cut xs a b)) := rfl
theorem zu45 : zco .Is (.v (.bool bb)) (.v (.bool true)) hp = some (beqB bb true) := rfl
end
theorem zar {cx : Cx} {z : FS} {bs : List FS} {fl : L} {hp : Hp} {y : L × Hp} (h : ex cx z fl hp = some (.next, y)) : exs cx (z :: bs) fl hp = exs cx bs y.1 y.2 := by
 show bd (ex cx z fl hp) _ = _; rw [h]; rfl
theorem exs_r {cx : Cx} {z : FS} {bs : List FS} {fl : L} {hp : Hp} {y : L × Hp} {r : RV} (h : ex cx z fl hp = some (.ret r, y)) : exs cx (z :: bs) fl hp = some (.ret r, y) := by
 show bd (ex cx z fl hp) _ = _; rw [h]; rfl
theorem zj3 {f : V -> Hp -> Option (Option V × Hp)} {k : Nat} {x : V} {r : List V} {hp : Hp} : zbf f (k + 1) (.items (x :: r)) hp = bd (f x hp) fun o => bd (zbf f k (.items r) o.2) fun l => some (zbn o.1 l.1, l.2) := rfl
theorem zpk {f : V -> Hp -> Option (Option V × Hp)} {k n i : Nat} {hp : Hp} : zbf f (k + 1) (.live n i) hp = bd (bd (lisA n hp) fun xs => some (bd (nth xs i) fun v => some (v, Src.live n (i + 1)))) fun o => byO o (fun p => bd (f p.1 hp) fun o => bd (zbf f k p.2 o.2) fun l => some (zbn o.1 l.1, l.2)) (some ([], hp)) := rfl
theorem zd6 {n : Nat} {hp : Hp} {xs : List V} (h : nth hp n = some (.list xs)) : lisA n hp = some xs := by
 show bd (nth hp n) oL = _; rw [h]; rfl
theorem zpj {α : Type} {g : α -> Option V} {x : α} {r : List α} : zbn (g x) (r.filterMap g) = (x :: r).filterMap g := by
 rw [List.filterMap_cons]; cases g x <;> rfl
theorem zwl {S0 : List RV -> List (Nat × RV) -> Hp -> Option (RV × Hp)} {c : Int} {n : Nat} {ys : List V} {z : List Nat} {hp r : Hp} (hn : nth hp n = some (.list ys)) (hpls : pls ys = true) (key : S0 [.v (.int c), .v (.ref 0)] [] [.list ys] = some (.v (.str z), .list ys :: r)) (hu : upd hp n (.list ys) = hp) : subS S0 [.v (.int c), .v (.ref n)] [] hp = some (.v (.str z), hp) := by
 have g : gath [.v (.int c), .v (.ref n)] hp 0 = some ([.int c, .ref 0], [.list ys]) := by
  show bd (bd (bd (nth hp n) _) _) _ = _
  rw [hn]
  show bd (bd (ifb (pls ys) _) _) _ = _
  rw [hpls]; rfl
 have w : wb [.v (.int c), .v (.ref n)] (.list ys :: r) hp = some hp := by
  show ifb (pls ys) (some (upd hp n (.list ys))) = _
  rw [hpls, hu]; rfl
 show bd (gath [.v (.int c), .v (.ref n)] hp 0) _ = _
 rw [g]
 show bd (S0 [.v (.int c), .v (.ref 0)] [] [.list ys]) _ = _
 rw [key]
 show bd (wb [.v (.int c), .v (.ref n)] (.list ys :: r) hp) _ = _
 rw [w]; rfl
theorem zrg0 {m : Nat} : srcR 0 (.ofNat m) 1 = some (.items (zby m 0)) := by
 show some (Src.items (zby (Int.ofNat m - 0).toNat 0)) = _
 rw [Int.sub_zero]; rfl
theorem zrg1 {i : Int} : ran 0 i 1 = ifb (small i) (some (.v (.rng 0 i 1))) := rfl
theorem zrg2 {xs : List V} : zru (.items xs) = some (.items xs) := rfl
theorem zrg3 {n i : Nat} : zru (.live n i) = some (.live n i) := rfl
theorem zfl0 {sc : List (Nat × Nat)} : flr sc [] = [] := rfl
theorem zfl1 {sc : List (Nat × Nat)} {x : Nat} {v : V} {r : L} : flr sc ((x, v) :: r) = cs (is0 (look sc x)) (flr sc r) ((x, v) :: flr sc r) := rfl
theorem zfl2 : is0 none = false := rfl
theorem zfl3 {k : Nat} : is0 (some k) = Nat.beq 0 k := rfl
theorem zo7 {F : V -> L -> Hp -> Option (Fl × L × Hp)} {k n i : Nat} {fl : L} {hp : Hp} : forS F (k + 1) (.items (zby (n + 1) (.ofNat i))) fl hp = bd (F (.int (.ofNat i)) fl hp) fun w => nxt w (forS F k (.items (zby n (.ofNat (i + 1)))) w.2.1 w.2.2) := rfl
section
variable {i j : Int}
theorem zo2 : binI .BitXor i j = some (Builtin.bitXor i j) := rfl
end
section
variable {S : SF}
theorem zg27 : look (cx2 S).glo 27 = some (.top 100) := rfl
theorem zg50 : look (cx2 S).glo 50 = some (.top 105) := rfl
theorem zg127 : look (cx2 S).glo 127 = some (.top 112) := rfl
theorem zvp : look (cx2 S).glo 125 = some (.top 133) := rfl
theorem zg72 : look (cx2 S).glo 72 = some (.top 143) := rfl
theorem zg73 : look (cx2 S).glo 73 = some (.top 148) := rfl
theorem zg132 : look (cx2 S).glo 132 = some (.top 277) := rfl
theorem zg101 : look (cx2 S).glo 101 = some (.top 288) := rfl
theorem zvr : look (cx2 S).glo 107 = some (.top 295) := rfl
theorem zvo : look (cx2 S).glo 128 = some (.top 300) := rfl
theorem zg139 : look (cx2 S).glo 139 = some (.top 305) := rfl
theorem zg32 : look (cx2 S).glo 32 = some (.bi .len) := rfl
theorem zg37 : look (cx2 S).glo 37 = some (.bi .max) := rfl
theorem zg40 : look (cx2 S).glo 40 = some (.bi .range) := rfl
theorem zg51 : look (cx2 S).glo 51 = some (.bi .hex) := rfl
theorem zg63 : look (cx2 S).glo 63 = some (.bi .type) := rfl
theorem zg64 : look (cx2 S).glo 64 = some (.bi .list) := rfl
theorem zg70 : look (cx2 S).glo 70 = some (.bi .str) := rfl
theorem zg97 : look (cx2 S).glo 97 = some (.bi .sum) := rfl
theorem zvq : look (cx2 S).glo 124 = some (.bi .abs) := rfl
theorem zgm1 : look (cx2 S).meth 100 = some [(42, 62), (46, 69), (118, 97)] := rfl
theorem zgm2 : look (cx2 S).meth 277 = some [(68, 178), (137, 216), (138, 229), (134, 274)] := rfl
theorem zgS : (cx2 S).S = S := rfl
theorem zgd : look (cx2 S).dct 105 = some zj1 := rfl
theorem zgp1 : look (cx2 S).pat 143 = some okN := rfl
theorem zgp2 : look (cx2 S).pat 148 = some okN := rfl
end
end
end Mine
end
noncomputable section
namespace Mine
section
open PySem
noncomputable def SL : SF := fun f as ks hp =>
 if f = 100 then subS (clsS 100 fnW (cx2 S0)) as ks hp
 else if f = 97 then subS (fnS fnNL (cx2 S1)) as ks hp
 else if f = 112 then subS (fnS fnPF (cx2 S0)) as ks hp
 else if f = 133 then subS (fnS fnCP (cx2 S2)) as ks hp
 else if f = 277 then clsS 277 fnHI (cx2 S1) as ks hp
 else if f = 274 then addS as ks hp
 else if f = 216 then fnS fnGA (cx2 S1) as ks hp
 else if f = 229 then fnS fnKE (cx2 S0) as ks hp
 else if f = 288 then subS (fnS fnDI (cx2 S0)) as ks hp
 else if f = 295 then subS (fnS fnCO (cx2 S0)) as ks hp
 else if f = 300 then subS (fnS fnWO (cx2 S0)) as ks hp
 else if f = 305 then subS (fnS fnSU (cx2 S0)) as ks hp
 else none
noncomputable abbrev cxL : Cx := cx2 SL
theorem zw0 (c : Int) (hp : Hp) : SL 288 [.v (.int c), .l [.int 4, .int 26]] [] hp = some (.l [.int (Int.fmod c 4), .int (Int.fmod (Int.fdiv c 4) 26)], hp) := by kernel_rfl
theorem zwz (c : Int) (hp : Hp) : SL 288 [.v (.int c), .l [.int 4, .int 2, .int 6, .int 6]] [] hp = some (.l [.int (Int.fmod c 4), .int (Int.fmod (Int.fdiv c 4) 2), .int (Int.fmod (Int.fdiv (Int.fdiv c 4) 2) 6), .int (Int.fmod (Int.fdiv (Int.fdiv (Int.fdiv c 4) 2) 6) 6)], hp) := by kernel_rfl
theorem zkw {α : Type} (l : List α) (x : α) : nth (l ++ [x]) (len l) = some x := zb8 l x
theorem zbr {α : Type} (l r : List α) : len (l ++ r) = len l + len r := by simp [zag]
theorem zfj {α : Type} : ∀ (l r : List α) (k : Nat), nth (l ++ r) (len l + k) = nth r k
 | [], r, k => by simp [len]
 | x :: l, r, k => by
  have : len (x :: l) + k = (len l + k) + 1 := by simp [len]; omega
  rw [this]; exact zfj l r k
theorem zi2 {α : Type} : ∀ (l r : List α) (k : Nat) (v : α), upd (l ++ r) (len l + k) v = l ++ upd r k v
 | [], r, k, v => by simp [len]
 | x :: l, r, k, v => by
  have : len (x :: l) + k = (len l + k) + 1 := by simp [len]; omega
  rw [this]
  show x :: upd (l ++ r) (len l + k) v = _
  rw [zi2 l r k v]; rfl
theorem zlq (hp : Hp) : SL 277 [] [] hp = some (.v (.ref (len hp)), hp ++ [.inst 277 [(65, .ref (len hp + 1))], .list []]) := by
 show clsS 277 fnHI (cx2 S1) [] [] hp = _
 have n0 : ∀ (a b : O), nth (hp ++ [a, b]) (len hp) = some a := fun a b => by have := zfj hp [a, b] 0; simpa [nth] using this
 have n1 : ∀ (a b : O), nth (hp ++ [a, b]) (len hp + 1) = some b := fun a b => zfj hp [a, b] 1
 have u0 : ∀ (a b c : O), upd (hp ++ [a, b]) (len hp) c = hp ++ [c, b] := fun a b c => by have := zi2 hp [a, b] 0 c; simpa [upd] using this
 have l1 : ∀ a : O, len (hp ++ [a]) = len hp + 1 := fun a => by simp [zbr, len]
 have e1 : ∀ (a b : O), hp ++ [a] ++ [b] = hp ++ [a, b] := fun a b => by simp
 have k1 : ∀ v : V, Nat.ble (len [(65, v)]) 100 = true := fun _ => rfl
 have k2 : Nat.beq 2 2 = true := rfl
 simp only [clsS, fnHI, fnX, body, zcg, zbx, xAsg, xEx, xIfe, goN, hVar, hGlo, Mine.h2, kCmp, tCmp, hIfe, hLst, hArg, zbc, zau, zal, same, bTpl, bAtt, zaz, lisA, insA, zy1, zy2, zy3, zy6, zy7, zy8, zy9, zy10, zy12, zy16, zv10, zv13, zv14, zv21, zv22, zv24, zv25, zv27, zv46, zw1, zw9, zw12, zw13, zw14, xFor, zw17, zg63, zg64, zgm2, zw23, zw24, zw25, zq0, zq1, zq2, zq5, zq6, zq11, zq12, zq17, zq18, zq22, zq23, zq29, zq32, zq39, zq40, zq42, zq44, zq49, zq50, zq51, zq52, zq53, zq57, zq58, zq67, zq70, zq71, zq73, zq74, zq79, zq80, zq81, zq82, zq84, zx1, zx2, zca, List.append_nil, List.nil_append, List.cons_append, List.zip_cons_cons, List.zip_nil_left, zp1, zq83, zq85, k1, k2, n0, n1, u0, l1, e1, Nat.beq, List.nil_append, List.cons_append, List.zip_cons_cons, List.zip_nil_left, List.append_assoc]
end
end Mine
end
noncomputable section
namespace Mine
section
open PySem PySem.W PyProof.Rows
noncomputable def sLs {α : Type} (f : α -> α -> Bool) : List α -> List α -> Bool
 | [], b => emp b
 | a :: r, b => byO (unc b) (fun p => and2 (f a p.1) (sLs f r p.2)) false
theorem by_t {α : Type} {o : Option α} {f : α -> Bool} (h : byO o f false = true) : ∃ a, o = some a /\ f a = true := by
 cases o with
 | none => exact ff h
 | some a => exact ⟨a, rfl, h⟩
theorem sLs_t {α : Type} {f : α -> α -> Bool} (hf : ∀ {a b}, f a b = true -> a = b) {a : List α} : ∀ {b : List α}, sLs f a b = true -> a = b := by
 induction a with
 | nil => exact fun h => (ztf h).symm
 | cons x r ih =>
  intro b h
  obtain ⟨p, h1, h⟩ := by_t h
  rw [zgr h1, hf (zab h).1, ih (zab h).2]
noncomputable def sA (a b : V) : Bool := match a with
 | .none => vN b
 | .bool x => byO (vB b) (beqB x) false
 | .int x => byO (vI b) (Z.eqB x) false
 | .str x => byO (vS b) (leq x) false
 | _ => false
noncomputable def sTup (f g : V -> V -> Bool) (a b : V) : Bool := match a with
 | .tup x => byO (vT b) (sLs f x) false
 | _ => g a b
noncomputable def sT : V -> V -> Bool := sTup sA sA
noncomputable def sV : V -> V -> Bool := sTup sT sA
noncomputable def sVs : List V -> List V -> Bool := sLs sV
noncomputable def sO (a b : O) : Bool := match a with
 | .list x => byO (oL b) (sVs x) false
 | .inst c d => byO (oI b) (fun p => and2 (Nat.beq c p.1) (sLs (fun a b => and2 (Nat.beq a.1 b.1) (sV a.2 b.2)) d p.2)) false
 | .dict _ => false
theorem sA_t {a b : V} (h : sA a b = true) : a = b := by
 cases a with
 | none => exact (vN_t h).symm
 | bool x => obtain ⟨y, h1, h⟩ := by_t h; rw [vB_t h1]; cases x <;> cases y <;> first | rfl | exact ff h
 | int x => obtain ⟨y, h1, h⟩ := by_t h; rw [vI_t h1, (Z.eqB_iff _ _).mp h]
 | str x => obtain ⟨y, h1, h⟩ := by_t h; rw [vS_t h1, zl6 h]
 | _ => exact ff h
theorem zui {f g : V -> V -> Bool} (hf : ∀ {a b}, f a b = true -> a = b) (hg : ∀ {a b}, g a b = true -> a = b) {a b : V} (h : sTup f g a b = true) : a = b := by
 cases a with
 | tup x => obtain ⟨y, h1, h⟩ := by_t h; rw [vT_t h1, sLs_t hf h]
 | _ => exact hg h
theorem sV_t {a b : V} (h : sV a b = true) : a = b := zui (zui sA_t sA_t) sA_t h
theorem zrg {a b : List V} (h : sVs a b = true) : a = b := sLs_t sV_t h
theorem sO_t {a b : O} (h : sO a b = true) : a = b := by
 cases a with
 | list x => obtain ⟨y, h1, h⟩ := by_t h; rw [oL_t h1, zrg h]
 | inst c d => obtain ⟨p, h1, h⟩ := by_t h; rw [oI_t h1, zam (zab h).1, sLs_t (fun {a b} h => Prod.ext (zam (zab h).1) (sV_t (zab h).2)) (zab h).2]
 | dict x => exact ff h
noncomputable def allN : Nat -> (Nat -> Bool) -> Bool
 | 0, _ => true
 | n + 1, p => match p n with | true => allN n p | false => false
theorem zad : ∀ {n : Nat} {p : Nat -> Bool}, allN n p = true -> ∀ i, i < n -> p i = true
 | 0, _, _, _, h => absurd h (Nat.not_lt_zero _)
 | n + 1, p, h, i, hi => by
  simp only [allN] at h
  split at h
  · rename_i q
    by_cases z : i = n
    · rw [z]; exact q
    · exact zad h i (by omega)
  · cases h
noncomputable def pick (l : List (List Nat)) (i : Nat) : List Nat := match nth l i with | some x => x | none => []
noncomputable def limT : List (List Nat) := [[], [32], [32, 32], [9]]
noncomputable def zac (b : Nat) : List Nat := [32, 32, 9] ++ pick limT b
noncomputable def frT : List (List Nat) := [[], [9], [32, 9], [32, 32, 9]]
noncomputable def bkT : List (List Nat) := [[], [32], [32, 32, 32], [9], [32, 9], [32, 32, 32, 9]]
noncomputable def zaf (f m k : Nat) : List Nat := pick frT f ++ repN [9] m ++ pick bkT k
noncomputable def colN (size : Nat) : List Nat -> Nat -> Nat
 | [], c => c
 | x :: r, c => colN size r (match Nat.beq x 9 with | true => (c + size) / size * size | false => c + 1)
noncomputable def isI (x : Option (RV × Hp)) (n : Nat) : Bool := byO x (fun r => byO (bd (rI r.1) iN) (fun k => Nat.beq k n) false) false
theorem isI_t {x : Option (RV × Hp)} {n : Nat} (h : isI x n = true) : ∃ h2, x = some (.v (.int (.ofNat n)), h2) := by
 obtain ⟨r, h1, h⟩ := by_t h
 obtain ⟨k, h2, h⟩ := by_t h
 obtain ⟨i, h3, h2⟩ := bd_t h2
 exact ⟨r.2, h1.trans (congrArg some (Prod.ext (by rw [rI_t h3, iN_t h2, zam h]) rfl))⟩
theorem col_lim : allN 4 (fun b => allN 4 fun z => isI (fnS fnCO (cx2 S0) [.v (.str (zac b)), .v (.int (.ofNat (z + 1)))] [] []) (colN (z + 1) (zac b) 0)) = true := by decide +kernel
theorem zti : allN 4 (fun f => allN 2 fun m => allN 6 fun k => allN 4 fun z => isI (fnS fnCO (cx2 S0) [.v (.str (zaf f m k)), .v (.int (.ofNat (z + 1)))] [] []) (colN (z + 1) (zaf f m k) 0)) = true := by decide +kernel

noncomputable def runW (s : List Nat) : Option (RV × Hp) := clsS 100 fnW (cx2 S0) [.v (.str s)] [] []
noncomputable def wsO (s : List Nat) : O := match runW s with | some (_, o :: _) => o | _ => .list []
noncomputable def wsOk (s : List Nat) : Bool := match runW s with | some (.v (.ref 0), .inst _ d :: _) => dPl d | _ => false
theorem zt4 : allN 4 (fun b => wsOk (zac b ++ [120])) = true := by decide +kernel
theorem zml : allN 4 (fun f => allN 2 fun m => allN 6 fun k => wsOk (zaf f m k ++ [120, 9])) = true := by decide +kernel
noncomputable def zch (k : Nat) : Nat := match Nat.beq k 2 with | true => 4 | false => match Nat.beq k 5 with | true => 4 | false => 3
noncomputable def zh6 (l s : List Nat) : Nat -> Nat -> List (Nat × Nat × Nat)
 | 0, _ => []
 | n + 1, z => match Nat.ble (colN z s 0) (colN z l 0) with
  | true => (z, colN z l 0, colN z s 0) :: zh6 l s n (z + 1)
  | false => zh6 l s n (z + 1)
noncomputable def zbg (b f m k : Nat) : List (Nat × Nat × Nat) := zh6 (zac b) (zaf f m k) (zch k) 1
noncomputable def rowV (p : Nat × Nat × Nat) : V := .tup [.int (.ofNat p.1), .int (.ofNat p.2.1), .int (.ofNat p.2.2)]
noncomputable def za1 : List (Nat × Nat × Nat) -> List V
 | [] => []
 | p :: r => rowV p :: za1 r
noncomputable def nlChk (x : Option (RV × Hp)) (p1 p2 : O) (rows : List V) : Bool := byO x (fun r => byO (refR r.1) (fun n => and2 (Nat.beq n 2) (byO (unc r.2) (fun a => and2 (sO a.1 p1) (byO (unc a.2) (fun b => and2 (sO b.1 p2) (byO (unc b.2) (fun c => byO (oL c.1) (fun xs => sVs xs rows) false) false)) false)) false)) false) false
theorem nlChk_t {x : Option (RV × Hp)} {p1 p2 : O} {rows : List V} (h : nlChk x p1 p2 rows = true) : ∃ r, x = some (.v (.ref 2), p1 :: p2 :: .list rows :: r) := by
 obtain ⟨w, h1, h⟩ := by_t h
 obtain ⟨n, h2, h⟩ := by_t h
 have h3 := zab h
 obtain ⟨a, h4, h⟩ := by_t h3.2
 have h5 := zab h
 obtain ⟨b, h6, h⟩ := by_t h5.2
 have h7 := zab h
 obtain ⟨c, h8, h⟩ := by_t h7.2
 obtain ⟨xs, h9, h⟩ := by_t h
 exact ⟨c.2, h1.trans (congrArg some (Prod.ext (by rw [refR_t h2, zam h3.1]) (by rw [zgr h4, zgr h6, zgr h8, sO_t h5.1, sO_t h7.1, oL_t h9, zrg h])))⟩
noncomputable def nlOk (b f m k : Nat) : Bool := nlChk (fnS fnNL (cx2 S1) [.v (.ref 0), .v (.ref 1)] [] [wsO (zac b ++ [120]), wsO (zaf f m k ++ [120, 9])]) (wsO (zac b ++ [120])) (wsO (zaf f m k ++ [120, 9])) (za1 (zbg b f m k))
theorem nl_all : allN 4 (fun b => allN 4 fun f => allN 2 fun m => allN 6 fun k => nlOk b f m k) = true := by decide +kernel
noncomputable def zax : List (List Nat) := [[], [92, 40], [92, 41], [92, 92], [34, 41, 34], [34, 92, 34, 40, 34]]
noncomputable def zb1 (q dp dn : Nat) : List Nat := repN [40] (1 + dp) ++ pick zax q ++ repN [41] (1 + (dp + dn)) ++ repN [40] dn ++ [40, 41]
noncomputable def isBo (x : Option (RV × Hp)) (c : Bool) : Bool := match x with | some (.v (.bool b), _) => beqB b c | _ => false
noncomputable def runC (s : List Nat) : Option (RV × Hp) := fnS fnCP (cx2 S2) [.v (.str s)] [] []
theorem ck_pos : allN 7 (fun dp => allN 6 fun q => isBo (runC (zb1 q dp 0)) true) = true := by decide +kernel
theorem ck_neg : allN 10 (fun dn => allN 6 fun q => isBo (runC (zb1 q 0 (dn + 1))) false) = true := by decide +kernel
theorem ck_open : allN 7 (fun dp => allN 6 fun q => isBo (runC ([40] ++ zb1 q dp 0)) false) = true := by decide +kernel
theorem ztl : allN 7 (fun dp => allN 6 fun q => isBo (runC (zb1 q dp 0 ++ [41])) false) = true := by decide +kernel
theorem zpp : isBo (runC [40, 40, 41]) false = true /\ isBo (runC [40, 41, 41]) false = true := by decide +kernel
end
end Mine
end
noncomputable section
namespace Mine
section
open PySem PySem.W PyProof.Rows
noncomputable section
noncomputable abbrev OmL (prog : Program) (w : World) (h₀ : Heap) (W : WkT) : Bx := ⟨prog, w, nmL, h₀, W⟩
noncomputable abbrev K2 (P : Params) : Frag := K02 P
theorem zds : nmL.length = 140 := rfl
noncomputable def zhq (l : List Nat) : Nat := l.foldl (fun a c => a * 300 + c + 1) 0
noncomputable def cdN (i : Nat) : Nat := zhq (nm i).cps.toList
theorem ztj : allN 140 (fun x => allN 140 fun y => match Nat.beq (cdN x) (cdN y) with | true => Nat.beq x y | false => true) = true := by decide +kernel
theorem zun : ∀ x y, x < nmL.length -> y < nmL.length -> nm x = nm y -> x = y := by
 intro x y hx hy e
 rw [zds] at hx hy
 have h1 := zad (p := fun x => allN 140 fun y => match Nat.beq (cdN x) (cdN y) with | true => Nat.beq x y | false => true) ztj x hx
 have h2 := zad (p := fun y => match Nat.beq (cdN x) (cdN y) with | true => Nat.beq x y | false => true) h1 y hy
 have h3 : Nat.beq (cdN x) (cdN y) = true := by unfold cdN; rw [e]; exact Nat.beq_refl _
 simp only [h3] at h2
 exact zam h2
theorem nm_dbgC : allN 140 (fun x => match Nat.beq (cdN x) (zhq (Str.ofString "__debug__").cps.toList) with | true => false | false => (match Nat.beq (cdN x) (zhq (Str.ofString "__classdict__").cps.toList) with | true => false | false => true)) = true := by decide +kernel
theorem zuo : ∀ x, x < nmL.length -> (nm x == ("__debug__" : Str)) = false /\ (nm x == ("__classdict__" : Str)) = false := by
 intro x hx
 rw [zds] at hx
 have h := zad (p := fun x => match Nat.beq (cdN x) (zhq (Str.ofString "__debug__").cps.toList) with | true => false | false => (match Nat.beq (cdN x) (zhq (Str.ofString "__classdict__").cps.toList) with | true => false | false => true)) nm_dbgC x hx
 split at h
 · cases h
 · rename_i q1
   split at h
   · cases h
   · rename_i q2
     constructor
     · cases z : nm x == ("__debug__" : Str) with
       | false => rfl
       | true =>
        have := eq_of_beq z
        have h3 : Nat.beq (cdN x) (zhq (Str.ofString "__debug__").cps.toList) = true := by unfold cdN; rw [this]; exact Nat.beq_refl _
        rw [h3] at q1; cases q1
     · cases z : nm x == ("__classdict__" : Str) with
       | false => rfl
       | true =>
        have := eq_of_beq z
        have h3 : Nat.beq (cdN x) (zhq (Str.ofString "__classdict__").cps.toList) = true := by unfold cdN; rw [this]; exact Nat.beq_refl _
        rw [h3] at q2; cases q2
theorem nm_NM {prog : Program} {w : World} {h₀ : Heap} {W : WkT} : NM (OmL prog w h₀ W) := ⟨rfl, rfl, rfl, rfl, rfl, rfl, rfl⟩
noncomputable def GloP (P : Params) (p : Nat × V) : Prop := p.1 < nmL.length /\ ((∃ a, p.2 = .top a /\ nsIn (K2 P) mainGlobals (nm p.1) = some (some (.ref a))) ∨
 (∃ b, p.2 = .bi b /\ nsIn (K2 P) mainGlobals (nm p.1) = some none /\ bootBuiltins (nm p.1) = some b.val /\ nm p.1 ≠ "__name__"))
theorem zbw {α : Type} : ∀ {l : List (Nat × α)} {x : Nat} {v : α}, look l x = some v -> (x, v) ∈ l
 | p :: r, x, v, h => by
  rcases zcu h with ⟨q, q'⟩ | h
  · rw [← q, ← q']; exact .head _
  · exact .tail _ (zbw h)
theorem gloT {P : Params} {x a : Nat} (h : x < 140) (e : nsIn (K2 P) mainGlobals (nm x) = some (some (.ref a))) : GloP P (x, .top a) := ⟨by rw [zds]; exact h, .inl ⟨a, rfl, e⟩⟩
theorem gloB {P : Params} {x : Nat} {b : Bi} (h : x < 140) (e : nsIn (K2 P) mainGlobals (nm x) = some none) (e2 : bootBuiltins (nm x) = some b.val) (e3 : Nat.beq (cdN x) (zhq (Str.ofString "__name__").cps.toList) = false) : GloP P (x, .bi b) :=
 ⟨by rw [zds]; exact h, .inr ⟨b, rfl, e, e2, fun z => by
  have h3 : Nat.beq (cdN x) (zhq (Str.ofString "__name__").cps.toList) = true := by unfold cdN; rw [show nm x = "__name__" from z]; exact Nat.beq_refl _
  rw [h3] at e3; cases e3⟩⟩
theorem glo_all (P : Params) : ∀ p ∈ glo2, GloP P p := by
 unfold glo2
 simp only [List.forall_mem_cons]
 refine ⟨?_, ?_, ?_, ?_, ?_, ?_, ?_, ?_, ?_, ?_, ?_, ?_, ?_, ?_, ?_, ?_, ?_, ?_, ?_, ?_, ?_, ?_, ?_, ?_, ?_, ?_, ?_, by simp⟩
 all_goals first
  | exact gloT (by decide) (by kernel_rfl)
  | exact gloB (by decide) (by kernel_rfl) (by kernel_rfl) (by decide +kernel)
theorem own100 (P : Params) : allN 140 (fun x => zf8 (K2 P) 100 (nm x)) = true := by kernel_rfl
theorem own277 (P : Params) : allN 140 (fun x => zf8 (K2 P) 277 (nm x)) = true := by kernel_rfl
noncomputable def MeP (P : Params) (c : Addr) (p : Nat × Nat) : Prop := findIn (K2 P) (.ref c) (nm p.1) = some (some (.ref p.2)) /\ typeIn (K2 P) (.ref p.2) = some (.type "function")
theorem zup (P : Params) : (∀ p ∈ ([(42, 62), (46, 69), (118, 97)] : List (Nat × Nat)), MeP P 100 p) /\ ∀ p ∈ ([(68, 178), (137, 216), (138, 229), (134, 274)] : List (Nat × Nat)), MeP P 277 p := by
 simp only [List.forall_mem_cons]
 refine ⟨⟨?_, ?_, ?_, by simp⟩, ?_, ?_, ?_, ?_, by simp⟩
 all_goals exact ⟨by kernel_rfl, by kernel_rfl⟩
theorem kcl100 (P : Params) {prog : Program} {w : World} {h₀ : Heap} {W : WkT} : KCl (K2 P) (OmL prog w h₀ W) 100 [(42, 62), (46, 69), (118, 97)] :=
 ⟨by kernel_rfl, by kernel_rfl, by kernel_rfl, by kernel_rfl, by kernel_rfl, fun x hx => zad (p := fun x => zf8 (K2 P) 100 (nm x)) (own100 P) x (by rw [← zds]; exact hx), fun x f h => (zup P).1 _ (zbw h)⟩
theorem kcl277 (P : Params) {prog : Program} {w : World} {h₀ : Heap} {W : WkT} : KCl (K2 P) (OmL prog w h₀ W) 277 [(68, 178), (137, 216), (138, 229), (134, 274)] :=
 ⟨by kernel_rfl, by kernel_rfl, by kernel_rfl, by kernel_rfl, by kernel_rfl, fun x hx => zad (p := fun x => zf8 (K2 P) 277 (nm x)) (own277 P) x (by rw [← zds]; exact hx), fun x f h => (zup P).2 _ (zbw h)⟩
end
end
end Mine
end
noncomputable section
namespace Mine
section
open PySem PySem.W PyProof.Rows
noncomputable section
noncomputable def obA (P : Params) (f : Addr) : Obj := match (K2 P).lookup f with | some o => o | none => default
noncomputable def fdA (P : Params) (f : Addr) : FuncData := match (obA P f).data with | .func fd => fd | _ => default
noncomputable abbrev fnA (P : Params) (f : Addr) (b : List Stmt) (sc : Scope) : FuncData := fnOf (fdA P f).name (fdA P f).qualname (fdA P f).params b sc (fdA P f).defaults (fdA P f).kwdefaults (fdA P f).doc (fdA P f).pyModule (fdA P f).annotations (fdA P f).code (fdA P f).closureTuple
noncomputable abbrev obF (P : Params) (f : Addr) (fn : Fn) : Obj := ⟨(obA P f).cls, (obA P f).dict, .func (fnA P f (tSs nm fn.b) (scM nm fn.sc (fdA P f).scope.more)), (obA P f).slots⟩
theorem fnok {prog : Program} {w : World} {h₀ : Heap} {W : WkT} {P : Params} {f : Addr} {fn : Fn} {dus : List Value} (h1 : (K2 P).lookup f = some (obF P f fn)) (h2 : codeIn (K2 P) (fdA P f).code (fdA P f).qualname = true) (h3 : ∀ ρ h, VRs ρ h fn.dv dus)
 (h4 : ∀ (s : Shared) (us kus : List Value), (K2 P).In s.heap -> us.length + kus.length + fn.dv.length = fn.ps.length -> kus.length = fn.kn.length -> BindsTo s (fnA P f (tSs nm fn.b) (scM nm fn.sc (fdA P f).scope.more)) ⟨us, (fn.kn.map nm).zip kus⟩ ((fn.ps.map nm).zip (us ++ kus ++ dus)))
 (h5 : fnSc nmL.length fn.sc [] = true) (h6 : wSs nmL.length fn.sc fn.b = true) (h7 : zdq fn.ps = true) (h8 : allB (fun x => match look fn.sc x with | some 0 => true | some 1 => true | _ => false) fn.ps = true) (h9 : keepIn (K2 P) (.ref f) = true) : FnOk (K2 P) (OmL prog w h₀ W) fn f :=
 ⟨⟨_, _, _, _, _, _, _, _, _, _, _, _, _, _, dus, h1, h2, h3, h4⟩, ⟨h5, zn0 h7, fun x hx => by
  have := ziw h8 x hx
  split at this
  · rename_i q; exact .inl q
  · rename_i q; exact .inr q
  · cases this⟩, h6, h9⟩
theorem len1 {α : Type} {l : List α} (h : l.length = 1) : ∃ a, l = [a] := by
 match l, h with
 | [a], _ => exact ⟨a, rfl⟩
theorem len2 {α : Type} {l : List α} (h : l.length = 2) : ∃ a b, l = [a, b] := by
 match l, h with
 | [a, b], _ => exact ⟨a, b, rfl⟩
theorem len0 {α : Type} {l : List α} (h : l.length = 0) : l = [] := List.length_eq_zero_iff.mp h
theorem okW (P : Params) {prog : Program} {w : World} {h₀ : Heap} {W : WkT} : FnOk (K2 P) (OmL prog w h₀ W) fnW 55 := by
 refine fnok (dus := []) (by kernel_rfl) (by kernel_rfl) (fun _ _ => VRs.nil) (fun s us kus X h1 h2 => ?_) (by decide +kernel) (by decide +kernel) (by decide) (by decide) (by kernel_rfl)
 have h2 := len0 (h2.trans (by rfl))
 subst h2
 obtain ⟨a, b, rfl⟩ := len2 (l := us) (by simpa [fnW] using h1)
 refine BindsTo.of_eq ?_
 kernel_rfl
theorem okLR (P : Params) {prog : Program} {w : World} {h₀ : Heap} {W : WkT} : FnOk (K2 P) (OmL prog w h₀ W) fnLR 62 := by
 refine fnok (dus := []) (by kernel_rfl) (by kernel_rfl) (fun _ _ => VRs.nil) (fun s us kus X h1 h2 => ?_) (by decide +kernel) (by decide +kernel) (by decide) (by decide) (by kernel_rfl)
 have h2 := len0 (h2.trans (by rfl))
 subst h2
 obtain ⟨a, rfl⟩ := len1 (l := us) (by simpa [fnLR] using h1)
 refine BindsTo.of_eq ?_
 kernel_rfl
theorem okIL (P : Params) {prog : Program} {w : World} {h₀ : Heap} {W : WkT} : FnOk (K2 P) (OmL prog w h₀ W) fnIL 69 := by
 refine fnok (dus := []) (by kernel_rfl) (by kernel_rfl) (fun _ _ => VRs.nil) (fun s us kus X h1 h2 => ?_) (by decide +kernel) (by decide +kernel) (by decide) (by decide) (by kernel_rfl)
 have h2 := len0 (h2.trans (by rfl))
 subst h2
 obtain ⟨a, b, rfl⟩ := len2 (l := us) (by simpa [fnIL] using h1)
 refine BindsTo.of_eq ?_
 kernel_rfl
theorem okNL (P : Params) {prog : Program} {w : World} {h₀ : Heap} {W : WkT} : FnOk (K2 P) (OmL prog w h₀ W) fnNL 97 := by
 refine fnok (dus := []) (by kernel_rfl) (by kernel_rfl) (fun _ _ => VRs.nil) (fun s us kus X h1 h2 => ?_) (by decide +kernel) (by decide +kernel) (by decide) (by decide) (by kernel_rfl)
 have h2 := len0 (h2.trans (by rfl))
 subst h2
 obtain ⟨a, b, rfl⟩ := len2 (l := us) (by simpa [fnNL] using h1)
 refine BindsTo.of_eq ?_
 kernel_rfl
theorem okPF (P : Params) {prog : Program} {w : World} {h₀ : Heap} {W : WkT} : FnOk (K2 P) (OmL prog w h₀ W) fnPF 112 := by
 refine fnok (dus := []) (by kernel_rfl) (by kernel_rfl) (fun _ _ => VRs.nil) (fun s us kus X h1 h2 => ?_) (by decide +kernel) (by decide +kernel) (by decide) (by decide) (by kernel_rfl)
 have h2 := len0 (h2.trans (by rfl))
 subst h2
 obtain ⟨a, rfl⟩ := len1 (l := us) (by simpa [fnPF] using h1)
 refine BindsTo.of_eq ?_
 kernel_rfl
theorem okSQ (P : Params) {prog : Program} {w : World} {h₀ : Heap} {W : WkT} : FnOk (K2 P) (OmL prog w h₀ W) fnSQ 126 := by
 refine fnok (dus := []) (by kernel_rfl) (by kernel_rfl) (fun _ _ => VRs.nil) (fun s us kus X h1 h2 => ?_) (by decide +kernel) (by decide +kernel) (by decide) (by decide) (by kernel_rfl)
 have h2 := len0 (h2.trans (by rfl))
 subst h2
 obtain ⟨a, rfl⟩ := len1 (l := us) (by simpa [fnSQ] using h1)
 refine BindsTo.of_eq ?_
 kernel_rfl
theorem okCP (P : Params) {prog : Program} {w : World} {h₀ : Heap} {W : WkT} : FnOk (K2 P) (OmL prog w h₀ W) fnCP 133 := by
 refine fnok (dus := []) (by kernel_rfl) (by kernel_rfl) (fun _ _ => VRs.nil) (fun s us kus X h1 h2 => ?_) (by decide +kernel) (by decide +kernel) (by decide) (by decide) (by kernel_rfl)
 have h2 := len0 (h2.trans (by rfl))
 subst h2
 obtain ⟨a, rfl⟩ := len1 (l := us) (by simpa [fnCP] using h1)
 refine BindsTo.of_eq ?_
 kernel_rfl
theorem okGA (P : Params) {prog : Program} {w : World} {h₀ : Heap} {W : WkT} : FnOk (K2 P) (OmL prog w h₀ W) fnGA 216 := by
 refine fnok (dus := []) (by kernel_rfl) (by kernel_rfl) (fun _ _ => VRs.nil) (fun s us kus X h1 h2 => ?_) (by decide +kernel) (by decide +kernel) (by decide) (by decide) (by kernel_rfl)
 have h2 := len0 (h2.trans (by rfl))
 subst h2
 obtain ⟨a, b, rfl⟩ := len2 (l := us) (by simpa [fnGA] using h1)
 refine BindsTo.of_eq ?_
 kernel_rfl
theorem okKE (P : Params) {prog : Program} {w : World} {h₀ : Heap} {W : WkT} : FnOk (K2 P) (OmL prog w h₀ W) fnKE 229 := by
 refine fnok (dus := []) (by kernel_rfl) (by kernel_rfl) (fun _ _ => VRs.nil) (fun s us kus X h1 h2 => ?_) (by decide +kernel) (by decide +kernel) (by decide) (by decide) (by kernel_rfl)
 have h2 := len0 (h2.trans (by rfl))
 subst h2
 obtain ⟨a, rfl⟩ := len1 (l := us) (by simpa [fnKE] using h1)
 refine BindsTo.of_eq ?_
 kernel_rfl
theorem okDI (P : Params) {prog : Program} {w : World} {h₀ : Heap} {W : WkT} : FnOk (K2 P) (OmL prog w h₀ W) fnDI 288 := by
 refine fnok (dus := []) (by kernel_rfl) (by kernel_rfl) (fun _ _ => VRs.nil) (fun s us kus X h1 h2 => ?_) (by decide +kernel) (by decide +kernel) (by decide) (by decide) (by kernel_rfl)
 have h2 := len0 (h2.trans (by rfl))
 subst h2
 obtain ⟨a, b, rfl⟩ := len2 (l := us) (by simpa [fnDI] using h1)
 refine BindsTo.of_eq ?_
 kernel_rfl
theorem okCO (P : Params) {prog : Program} {w : World} {h₀ : Heap} {W : WkT} : FnOk (K2 P) (OmL prog w h₀ W) fnCO 295 := by
 refine fnok (dus := []) (by kernel_rfl) (by kernel_rfl) (fun _ _ => VRs.nil) (fun s us kus X h1 h2 => ?_) (by decide +kernel) (by decide +kernel) (by decide) (by decide) (by kernel_rfl)
 have h2 := len0 (h2.trans (by rfl))
 subst h2
 obtain ⟨a, b, rfl⟩ := len2 (l := us) (by simpa [fnCO] using h1)
 refine BindsTo.of_eq ?_
 kernel_rfl
theorem okWO (P : Params) {prog : Program} {w : World} {h₀ : Heap} {W : WkT} : FnOk (K2 P) (OmL prog w h₀ W) fnWO 300 := by
 refine fnok (dus := []) (by kernel_rfl) (by kernel_rfl) (fun _ _ => VRs.nil) (fun s us kus X h1 h2 => ?_) (by decide +kernel) (by decide +kernel) (by decide) (by decide) (by kernel_rfl)
 have h2 := len0 (h2.trans (by rfl))
 subst h2
 obtain ⟨a, b, rfl⟩ := len2 (l := us) (by simpa [fnWO] using h1)
 refine BindsTo.of_eq ?_
 kernel_rfl
theorem okSU (P : Params) {prog : Program} {w : World} {h₀ : Heap} {W : WkT} : FnOk (K2 P) (OmL prog w h₀ W) fnSU 305 := by
 refine fnok (dus := []) (by kernel_rfl) (by kernel_rfl) (fun _ _ => VRs.nil) (fun s us kus X h1 h2 => ?_) (by decide +kernel) (by decide +kernel) (by decide) (by decide) (by kernel_rfl)
 have h2 := len0 (h2.trans (by rfl))
 subst h2
 obtain ⟨a, rfl⟩ := len1 (l := us) (by simpa [fnSU] using h1)
 refine BindsTo.of_eq ?_
 kernel_rfl
theorem okCV (P : Params) {prog : Program} {w : World} {h₀ : Heap} {W : WkT} : FnOk (K2 P) (OmL prog w h₀ W) fnCV 178 := by
 refine fnok (dus := []) (by kernel_rfl) (by kernel_rfl) (fun _ _ => VRs.nil) (fun s us kus X h1 h2 => ?_) (by decide +kernel) (by decide +kernel) (by decide) (by decide) (by kernel_rfl)
 have h2' : kus.length = 1 := h2
 obtain ⟨k, rfl⟩ := len1 h2'
 obtain ⟨a, b, rfl⟩ := len2 (l := us) (by simpa [fnCV] using h1)
 refine BindsTo.of_eq ?_
 kernel_rfl
noncomputable def twoPs (x y : Str) (p q : Pos) (e : Expr) : Arguments := { posonlyargs := [], args := [{ arg := x, annotation := none, pos := p }, { arg := y, annotation := none, pos := q }], vararg := none, kwonlyargs := [], kw_defaults := [], kwarg := none, defaults := [e] }
theorem okHI (P : Params) {prog : Program} {w : World} {h₀ : Heap} {W : WkT} : FnOk (K2 P) (OmL prog w h₀ W) fnHI 171 := by
 refine fnok (dus := [.none]) (by kernel_rfl) (by kernel_rfl) (fun _ _ => VRs.cons (x := .none) (v := .none) rfl VRs.nil) (fun s us kus X h1 h2 => ?_) (by decide +kernel) (by decide +kernel) (by decide) (by decide) (by kernel_rfl)
 have h2 := len0 (h2.trans (by rfl))
 subst h2
 obtain ⟨a, rfl⟩ := len1 (l := us) (by simpa [fnHI] using h1)
 have hT : (K2 P).lookup 164 = some ⟨.type "tuple", none, .seq #[.none] 0, #[]⟩ := by kernel_rfl
 have hp : (fdA P 171).params = twoPs "self" "headers" ⟨131, 17, 131, 21⟩ ⟨131, 23, 131, 30⟩ (PySem.Expr.Constant PySem.Const.none 0 ⟨131, 31, 131, 35⟩) := by kernel_rfl
 have hd : (fdA P 171).defaults = .ref 164 := by kernel_rfl
 have hk : (fdA P 171).kwdefaults = .none := by kernel_rfl
 have hps : fnHI.ps.map nm = [Str.ofString "self", Str.ofString "headers"] := by kernel_rfl
 unfold fnA
 rw [hp, hd, hk, hps]
 generalize (fdA P 171).name = n0
 generalize (fdA P 171).qualname = n1
 generalize tSs nm fnHI.b = n2
 generalize scM nm fnHI.sc (fdA P 171).scope.more = n3
 generalize (fdA P 171).code = n4
 generalize (fdA P 171).closureTuple = n5
 generalize (fdA P 171).doc = n6
 generalize (fdA P 171).pyModule = n7
 generalize (fdA P 171).annotations = n8
 exact BindsTo.of_defaults rfl (X _ _ hT) rfl rfl rfl
end
end
end Mine
end
noncomputable section
namespace Mine
section
open PySem PySem.W PyProof.Rows PySem.Builtin.Re PyProof.Rows.KTD
noncomputable section
noncomputable def cdR (P : Params) (a t : Nat) : Array Nat := match (K2 P).lookup t with
 | some o => (match o.data with | .seq items _ => (items.map reRawOf).map (·.toNat) | _ => #[])
 | none => #[]
noncomputable def patP (P : Params) (a t : Addr) : Bool := match (K2 P).lookup a with
 | some o => (match o.data with
  | .fields fs => (o.cls == .type "re.Pattern") && o.dict.isNone && Nat.beq (reRawNat (fs.getD 6 .none)) 0 && (fs.getD 5 .none == .ref t)
  | _ => false)
 | none => false
noncomputable def seqP (P : Params) (t : Addr) : Bool := match (K2 P).lookup t with
 | some o => (match o.data with | .seq _ _ => true | _ => false)
 | none => false
theorem zuj {P : Params} {h : Heap} (X : (K2 P).In h) {a t : Addr} (h1 : patP P a t = true) (h2 : seqP P t = true) : PatAt h a (cdR P a t) := by
 unfold patP at h1
 unfold seqP at h2
 split at h1
 · rename_i o ho
   split at h1
   · rename_i fs hd
     simp only [Bool.and_eq_true] at h1
     obtain ⟨⟨⟨q1, q2⟩, q3⟩, q4⟩ := h1
     split at h2
     · rename_i o2 ho2
       split at h2
       · rename_i items n hd2
         refine ⟨⟨o, fs, t, o2, items, n, X _ _ ho, eq_of_beq q1, by simpa using q2, hd, zam q3, eq_of_beq q4, X _ _ ho2, hd2, ?_⟩⟩
         unfold cdR; rw [ho2]; simp only [hd2]
       · cases h2
     · cases h2
   · cases h1
 · cases h1
noncomputable def rejC (cd : Array Nat) (seen : Sre.Seen) (c : Nat) : Bool := match okN c with
 | true => (match Sre.inSet cd c cd.size 5 true seen with | .ok (false, _) => true | _ => false)
 | false => true
theorem rej_t {cd : Array Nat} (h : ∀ seen, allN 127 (rejC cd seen) = true) : ∀ c, okN c = true -> zec cd c := by
 intro c hc seen
 have hc' := hc
 unfold okN at hc'
 split at hc'
 · have := zad (h seen) c (Nat.lt_succ_of_le (Nat.le_of_ble_eq_true hc'))
   unfold rejC at this
   rw [hc] at this
   simp only at this
   split at this
   · rename_i x hx; exact ⟨_, hx⟩
   · cases this
 · cases hc'
theorem rej143 (P : Params) (seen : Sre.Seen) : allN 127 (rejC (cdR P 143 142) seen) = true := by kernel_rfl
theorem rej148 (P : Params) (seen : Sre.Seen) : allN 127 (rejC (cdR P 148 147) seen) = true := by kernel_rfl
theorem flag_ok (P : Params) : keyedLook (fun a => (K2 P).lookup a) 105 (zj1.map fun p => (p.1, .str (St p.2))) = true := by kernel_rfl
theorem catt304 (P : Params) : readsIn (K2 P) 100 (.type "type") = true := by kernel_rfl
theorem cattS (P : Params) : ∃ u, findCls (K2 P) (.ref 100) (.type "type") (nm 25) = some (.val u) /\ handedIn u = true /\ ∃ t, u = .str (St [32]) t := ⟨.str (St [32]) 304, by kernel_rfl, by kernel_rfl, 304, rfl⟩
theorem cattT (P : Params) : ∃ u, findCls (K2 P) (.ref 100) (.type "type") (nm 26) = some (.val u) /\ handedIn u = true /\ ∃ t, u = .str (St [9]) t := ⟨.str (St [9]) 305, by kernel_rfl, by kernel_rfl, 305, rfl⟩
theorem tb2 {prog : Program} {w : World} {h₀ : Heap} {P : Params} (X : (K2 P).In h₀) (lim : h₀.NoLimit) (top : ∃ mg mb, h₀.Ns mainGlobals mg /\ h₀.Ns builtinsNs mb /\ ∀ x : Str, x ≠ "__name__" -> mb x = bootBuiltins x) (S : SF) {W : WkT} : TB (OmL prog w h₀ W) (K2 P) (cx2 S) := by
 refine ⟨X, lim, nm_NM, zun, zuo, top, fun x v h => glo_all P _ (zbw h), fun c t h => ?_, fun c t h => ?_, fun a p h => ?_, fun a t h => ?_, fun c t h => ?_, fun a xs h => nomatch h⟩
 · have := zbw h
   simp only [cx2, meth2, List.mem_cons, List.not_mem_nil, or_false, Prod.mk.injEq] at this
   rcases this with ⟨rfl, rfl⟩ | ⟨rfl, rfl⟩
   · exact kcl100 P
   · exact kcl277 P
 · have := zbw h
   simp only [cx2, zvh, List.mem_cons, List.not_mem_nil, or_false, Prod.mk.injEq] at this
   obtain ⟨rfl, rfl⟩ := this
   refine ⟨_, catt304 P, fun x v hx => ?_⟩
   have := zbw hx
   simp only [List.mem_cons, List.not_mem_nil, or_false, Prod.mk.injEq] at this
   rcases this with ⟨rfl, rfl⟩ | ⟨rfl, rfl⟩
   · obtain ⟨u, h1, h2, t, rfl⟩ := cattS P
     exact ⟨_, h1, h2, fun ρ h => ⟨⟨t, rfl⟩, by decide, by decide⟩⟩
   · obtain ⟨u, h1, h2, t, rfl⟩ := cattT P
     exact ⟨_, h1, h2, fun ρ h => ⟨⟨t, rfl⟩, by decide, by decide⟩⟩
 · have := zbw h
   simp only [cx2, pat2, List.mem_cons, List.not_mem_nil, or_false, Prod.mk.injEq] at this
   rcases this with ⟨rfl, rfl⟩ | ⟨rfl, rfl⟩
   · exact ⟨_, zuj X (by kernel_rfl) (by kernel_rfl), by kernel_rfl, by kernel_rfl, rej_t (rej143 P)⟩
   · exact ⟨_, zuj X (by kernel_rfl) (by kernel_rfl), by kernel_rfl, by kernel_rfl, rej_t (rej148 P)⟩
 · have := zbw h
   simp only [cx2, List.mem_cons, List.not_mem_nil, or_false, Prod.mk.injEq] at this
   obtain ⟨rfl, rfl⟩ := this
   refine ⟨?_, ?_⟩
   · have k := keyed_of_look (get := fun a => (K2 P).lookup a) X (flag_ok P) prog w
     rw [List.map_map] at k
     exact k
   · intro p hp; revert p hp; simp only [zj1, List.forall_mem_cons]; refine ⟨?_, ?_, ?_, ?_, ?_, ?_, ?_, ?_, ?_, ?_, by simp⟩ <;> exact ⟨by decide, by decide⟩
 · have := zbw h
   simp only [cx2, meth2, List.mem_cons, List.not_mem_nil, or_false, Prod.mk.injEq] at this
   rcases this with ⟨rfl, rfl⟩ | ⟨rfl, rfl⟩ <;> rfl
end
end
end Mine
end
noncomputable section
namespace Mine
section
open PySem PySem.W PyProof.Rows
theorem add_eq {n l : Nat} {nme val : List Nat} {hp : Hp} {d : List (Nat × V)} {xs : List V} (h1 : nth hp n = some (.inst 277 d)) (h0 : look d 68 = none) (h3 : look d 65 = some (.ref l)) (h4 : okc okN nme = true) (h5 : okc okN val = true) (h2 : nth hp l = some (.list xs)) (h6 : pls xs = true) (h7 : fits (len xs) = true) (h8 : fits (len val) = true) : addS [.v (.ref n), .v (.str nme), .v (.str val)] [] hp = some (.v .none, upd hp l (.list (xs ++ [.tup [.str nme, .str val]]))) := by
 show bd (bd (nth hp n) oI) _ = _
 rw [h1]
 show ifb (zjn (look d 68)) _ = _
 rw [h0]
 show bd (look d 65) _ = _
 rw [h3]
 show ifb (okc okN nme) (ifb (okc okN val) (bd (bd (nth hp l) oL) _)) = _
 rw [h4, h5, h2]
 show ifb (pls xs) (ifb (fits (len xs)) (ifb (fits (len val)) _)) = _
 rw [h6, h7, h8]; rfl
section
variable {n m : Nat} {r : RV} {ks : List (Nat × RV)} {s t : List Nat} {hp : Hp}
theorem zb0_ : zhf ((n, r) :: ks) = n :: zhf ks := rfl
theorem zb1_ : zhy ((n, r) :: ks) = r :: zhy ks := rfl
theorem zb2_ : leq (n :: s) (m :: t) = cs (Nat.beq n m) (leq s t) false := rfl
theorem zb3_ : zco .Is (.v (.bi .str)) (.v (.bi .str)) hp = some true := rfl
theorem zb4_ : truV (.v .none) hp = some false := rfl
theorem zb5_ : zp1 [.v (.str s)] hp = some (.v (.bi .str)) := rfl
end
section
variable {f : V -> Hp -> Option (Option V × Hp)} {k : Nat} {x : V} {r : List V} {hp : Hp} {i j : Int}
theorem zc0_ : zbf f (k + 1) (.items (x :: r)) hp = bd (f x hp) fun o => bd (zbf f k (.items r) o.2) fun l => some (zbn o.1 l.1, l.2) := rfl
theorem zc1_ : zbf f (k + 1) (.items []) hp = some ([], hp) := rfl
theorem zc4_ : zbn (some x) r = x :: r := rfl
end
theorem zlf_ {sc : List (Nat × Nat)} {y : Nat} {fl : L} : look (flr sc fl) y = cs (is0 (look sc y)) none (look fl y) := by
 induction fl with
 | nil => cases z : is0 (look sc y) <;> rfl
 | cons p r ih =>
  show look (cs (is0 (look sc p.1)) (flr sc r) (p :: flr sc r)) y = cs _ none (cs (Nat.beq p.1 y) (some p.2) (look r y))
  cases q : Nat.beq p.1 y with
  | true =>
   rw [zam q]
   cases z : is0 (look sc y) with
   | true => rw [z] at ih; exact ih
   | false => show cs (Nat.beq p.1 y) _ _ = _; rw [q]; rfl
  | false =>
   cases z : is0 (look sc p.1) with
   | true => exact ih
   | false => show cs (Nat.beq p.1 y) _ _ = _; rw [q]; exact ih
section
variable {n : Nat} {i : Int} {xs ys : List V} {hp : Hp}
theorem zd0_ : zco .NotEq (.v (.ref n)) (.l ys) hp = bd (orl (bd (lisA n hp) fun xs => ifb (pls xs) (ifb (pls ys) (some (vEs xs ys)))) none) fun b => some (bnot b) := rfl
theorem zd3_ : zco .NotEq (.l xs) (.l ys) hp = bd (orl (ifb (pls xs) (ifb (pls ys) (some (vEs xs ys)))) none) fun b => some (bnot b) := rfl
theorem zd5_ : zco .NotEq (.l xs) (.v (.ref n)) hp = bd (orl (bd (lisA n hp) fun ys => ifb (pls xs) (ifb (pls ys) (some (vEs xs ys)))) none) fun b => some (bnot b) := rfl
theorem zd7_ : zco .In (.v (.int i)) (.v (.tup ys)) hp = orl none (orl (ifb (plas ys) (some (vin (.int i) ys))) none) := rfl
end
theorem zna_ {n : Nat} : Int.natAbs (.ofNat n) = n := rfl
theorem znb_ {n : Nat} : Int.natAbs (.negSucc n) = n + 1 := rfl
theorem zbb_ : beqB true true = true := rfl
theorem zbc_ : beqB false true = false := rfl
theorem zio {F : V -> L -> Hp -> Option (Fl × L × Hp)} {k : Nat} {x : V} {r : List V} {fl : L} {hp : Hp} {y : L × Hp} (h : F x fl hp = some (.next, y)) : forS F (k + 1) (.items (x :: r)) fl hp = forS F k (.items r) y.1 y.2 := by
 show bd (F x fl hp) _ = _
 rw [h]; rfl
theorem zu2 {cx : Cx} {t : Tg} {b : List FS} {x p q r : Nat} {xs : List V} {fl : L} {hp : Hp} (hx : look fl x = some (.ref r)) (h : nth hp r = some (.list xs)) : ex cx (.for_ t (.var x p) b [] q) fl hp = bd (forS (zca cx t (exs cx b)) (len xs + 1) (.live r 0) fl hp) (aftL (exs cx [])) := by
 show bd (bd (look fl x) _) _ = _
 rw [hx]
 show bd (bd (bd (nth hp r) oL) fun _ => some (Src.live r 0)) _ = _
 rw [h]
 show bd (forS _ (byO (bd (nth hp r) oL) (fun xs => len xs + 1) 0) _ _ _) _ = _
 rw [h]; rfl
theorem ze0_ {x : List Nat} {n : Nat} {hp : Hp} : zco .In (.v (.str x)) (.v (.ref n)) hp = bd (lisA n hp) fun ys => ifb (pls ys) (some (vin (.str x) ys)) := by
 match x with
 | [] => rfl
 | [a] => rfl
 | a :: b :: r => rfl
theorem ze1_ {x : List Nat} {n : Nat} {hp : Hp} : zco .NotIn (.v (.str x)) (.v (.ref n)) hp = bd (bd (lisA n hp) fun ys => ifb (pls ys) (some (vin (.str x) ys))) fun b => some (bnot b) := congrArg nb ze0_
theorem ze2_ {x : List Nat} {hp : Hp} : zco .IsNot (.v (.str x)) (.v .none) hp = some true := rfl
theorem for_lv0 {F : V -> L -> Hp -> Option (Fl × L × Hp)} {k r i : Nat} {xs : List V} {fl : L} {hp : Hp} (h : nth hp r = some (.list xs)) (hn : nth xs i = none) : forS F (k + 1) (.live r i) fl hp = some (.dry, fl, hp) := by
 show bd (bd (bd (nth hp r) oL) _) _ = _
 rw [h]
 show byO (bd (nth xs i) _) _ _ = _
 rw [hn]; rfl
theorem for_lv1 {F : V -> L -> Hp -> Option (Fl × L × Hp)} {k r i : Nat} {v : V} {xs : List V} {fl : L} {hp : Hp} {y : L × Hp} (h : nth hp r = some (.list xs)) (hn : nth xs i = some v) (e : F v fl hp = some (.next, y)) : forS F (k + 1) (.live r i) fl hp = forS F k (.live r (i + 1)) y.1 y.2 := by
 show bd (bd (bd (nth hp r) oL) _) _ = _
 rw [h]
 show byO (bd (nth xs i) _) _ _ = _
 rw [hn]
 show bd (F v fl hp) _ = _
 rw [e]; rfl
theorem zlf {f : V -> Hp -> Option (Option V × Hp)} {k : Nat} {x : V} {o : Option V} {r l : List V} {hp : Hp} (h : f x hp = some (o, hp)) (ih : zbf f k (.items r) hp = some (l, hp)) : zbf f (k + 1) (.items (x :: r)) hp = some (zbn o l, hp) := by
 rw [zj3, h]
 show bd (zbf f k (.items r) hp) _ = _
 rw [ih]; rfl
theorem zcn {f : V -> Hp -> Option (Option V × Hp)} {k : Nat} {x y : V} {r l : List V} {hp : Hp} (h : f x hp = some (some y, hp)) (ih : zbf f k (.items r) hp = some (l, hp)) : zbf f (k + 1) (.items (x :: r)) hp = some (y :: l, hp) := by
 rw [zj3, h]
 show bd (zbf f k (.items r) hp) _ = _
 rw [ih]; rfl
theorem zbd_ {hp : Hp} : zco .IsNot (.v (.bool false)) (.v (.bool false)) hp = some false := rfl
theorem zqs {S0 : List RV -> List (Nat × RV) -> Hp -> Option (RV × Hp)} {s : List Nat} {c : Nat} {d : List (Nat × V)} {r hp : Hp} (h : S0 [.v (.str s)] [] [] = some (.v (.ref 0), .inst c d :: r)) (hd : dPl d = true) : subS S0 [.v (.str s)] [] hp = some (.v (.ref (len hp)), hp ++ [.inst c d]) := by
 show bd (S0 [.v (.str s)] [] []) _ = _
 rw [h]
 show ifb (dPl d) _ = _
 rw [hd]; rfl
theorem zwi {S0 : List RV -> List (Nat × RV) -> Hp -> Option (RV × Hp)} {i j c1 c2 : Nat} {d1 d2 : List (Nat × V)} {r hp : Hp} {rows : List V} (hin : isIn i [j] = false) (h1 : nth hp i = some (.inst c1 d1)) (h2 : nth hp j = some (.inst c2 d2)) (n1 : oPl (.inst c1 d1) = true) (n2 : oPl (.inst c2 d2) = true)
 (q : S0 [.v (.ref 0), .v (.ref 1)] [] [.inst c1 d1, .inst c2 d2] = some (.v (.ref 2), .inst c1 d1 :: .inst c2 d2 :: .list rows :: r)) (u1 : upd hp i (.inst c1 d1) = hp) (u2 : upd hp j (.inst c2 d2) = hp) (hr : pls rows = true) : subS S0 [.v (.ref i), .v (.ref j)] [] hp = some (.l rows, hp) := by
 have nd : zdq (za2 [.v (.ref i), .v (.ref j)]) = true := by
  show and2 (bnot (isIn i [j])) true = true
  rw [hin]; rfl
 have g : gath [.v (.ref i), .v (.ref j)] hp 0 = some ([.ref 0, .ref 1], [.inst c1 d1, .inst c2 d2]) := by
  show bd (bd (nth hp i) _) (fun o => bd (bd (bd (nth hp j) _) _) _) = _
  rw [h1]
  show bd (ifb (oPl (.inst c1 d1)) _) _ = _
  rw [n1]
  show bd (bd (bd (nth hp j) _) _) _ = _
  rw [h2]
  show bd (bd (ifb (oPl (.inst c2 d2)) _) _) _ = _
  rw [n2]; rfl
 have w : wb [.v (.ref i), .v (.ref j)] (.inst c1 d1 :: .inst c2 d2 :: .list rows :: r) hp = some hp := by
  show ifb (oPl (.inst c1 d1)) (ifb (oPl (.inst c2 d2)) (some (upd (upd hp i (.inst c1 d1)) j (.inst c2 d2)))) = _
  rw [n1, n2, u1, u2]; rfl
 show ifb (zdq (za2 [.v (.ref i), .v (.ref j)])) (bd (gath [.v (.ref i), .v (.ref j)] hp 0) _) = _
 rw [nd, g]
 show bd (S0 [.v (.ref 0), .v (.ref 1)] [] [.inst c1 d1, .inst c2 d2]) _ = _
 rw [q]
 show bd (wb [.v (.ref i), .v (.ref j)] (.inst c1 d1 :: .inst c2 d2 :: .list rows :: r) hp) _ = _
 rw [w]
 show ifb (pls rows) _ = _
 rw [hr]; rfl
end
end Mine
end
noncomputable section
namespace Mine
section
open PySem PySem.W PyProof.Rows
noncomputable def nmB (i : Nat) : List Nat := match zfo zj1 (.ofNat (2 ^ i)) with | some s => s | none => hexL (2 ^ i)
noncomputable def zdx : Nat -> Nat -> Nat -> List (List Nat)
 | 0, _, _ => []
 | n + 1, i, q => match Nat.beq (q % 2) 1 with
  | true => nmB i :: zdx n (i + 1) (q / 2)
  | false => zdx n (i + 1) (q / 2)
theorem andp (q i : Nat) : (q * 2 ^ i) &&& 2 ^ i = (q % 2) * 2 ^ i := by
 have : (q <<< i) &&& (1 <<< i) = (q &&& 1) <<< i := Nat.shiftLeft_and_distrib.symm
 rw [Nat.shiftLeft_eq, Nat.shiftLeft_eq, Nat.shiftLeft_eq, Nat.and_one_is_mod, Nat.one_mul] at this
 exact this
theorem bAnd (q i : Nat) : Builtin.bitAnd (.ofNat (q * 2 ^ i)) (.ofNat (2 ^ i)) = .ofNat ((q % 2) * 2 ^ i) := by
 have h := bitAnd_pp (x := .ofNat (q * 2 ^ i)) (y := .ofNat (2 ^ i)) (Int.natCast_nonneg _) (Int.natCast_nonneg _)
 refine h.trans ?_
 show ((((q * 2 ^ i) &&& 2 ^ i : Nat)) : Int) = _
 rw [andp]; rfl
theorem bXor (q i : Nat) (h : q % 2 = 1) : Builtin.bitXor (.ofNat (q * 2 ^ i)) (.ofNat (2 ^ i)) = .ofNat ((q / 2) * 2 ^ (i + 1)) := by
 rw [bitXor_and, bAnd, h]
 have e : q * 2 ^ i = (q / 2) * 2 ^ (i + 1) + 2 ^ i := by
  have : q = 2 * (q / 2) + 1 := by omega
  conv => lhs; rw [this]
  rw [Nat.pow_succ, Nat.add_mul, Nat.one_mul, Nat.mul_comm (2 ^ i) 2, ← Nat.mul_assoc, Nat.mul_comm 2 (q / 2)]
 generalize q * 2 ^ i = A at *
 generalize (q / 2) * 2 ^ (i + 1) = B at *
 generalize 2 ^ i = C at *
 simp only [Int.ofNat_eq_natCast]
 omega
noncomputable def zkr : List FS := match za4 with | [_, .for_ _ _ b _ _, _] => b | _ => []
noncomputable def pfF : V -> L -> Hp -> Option (Fl × L × Hp) := zca (cx2 S0) (.name 39 63008063009) (exs (cx2 S0) zkr)
theorem zns (i q : Nat) (hi : i < 32) (fl : L) (names : List V) (h49 : look fl 49 = some (.int (.ofNat (q * 2 ^ i)))) (h47 : look fl 47 = some (.ref 0)) (hn : fits (len names) = true) :
 match Nat.beq (q % 2) 1 with
 | true => ∃ fl', pfF (.int (.ofNat i)) fl [.list names] = some (match Nat.beq (q / 2) 0 with | true => .brk | false => .next, fl', [.list (names ++ [.str (nmB i)])]) /\ look fl' 49 = some (.int (.ofNat ((q / 2) * 2 ^ (i + 1)))) /\ look fl' 47 = some (.ref 0)
 | false => ∃ fl', pfF (.int (.ofNat i)) fl [.list names] = some (.next, fl', [.list names]) /\ look fl' 49 = some (.int (.ofNat ((q / 2) * 2 ^ (i + 1)))) /\ look fl' 47 = some (.ref 0) := by
 have hb1 : Nat.blt 1 18446744073709551616 = true := rfl
 have hb : Nat.blt i 64 = true := Nat.ble_eq_true_of_le (by omega)
 have hb2 : Nat.blt (2 ^ i) 340282366920938463463374607431768211456 = true := by
  apply Nat.ble_eq_true_of_le
  have : 2 ^ i < 2 ^ 32 := Nat.pow_lt_pow_right (by omega) hi
  have : (2:Nat) ^ 32 < 340282366920938463463374607431768211456 := by decide
  omega
 have hp0 : 0 < 2 ^ i := Nat.pow_pos (by omega)
 have e1 : 1 * Nat.pow 2 i = 2 ^ i := Nat.one_mul _
 cases hq : Nat.beq (q % 2) 1 with
 | true =>
  have hq1 := zam hq
  have ht : Z.eqB (Int.ofNat (1 * 2 ^ i)) 0 = false := by
   cases z : Z.eqB (Int.ofNat (1 * 2 ^ i)) 0 with
   | false => rfl
   | true => rw [Z.eqB_iff] at z; simp only [Int.ofNat_eq_natCast] at z; omega
  refine ⟨put (put (put fl 39 (.int (.ofNat i))) 48 (.int (.ofNat (2 ^ i)))) 49 (.int (.ofNat ((q / 2) * 2 ^ (i + 1)))), ?_, by simp [zaa], by simp [zaa, h47]⟩
  have hz : Z.eqB (Int.ofNat (q / 2 * 2 ^ (i + 1))) 0 = Nat.beq (q / 2) 0 := by
   have hp1 : 0 < 2 ^ (i + 1) := Nat.pow_pos (by omega)
   cases z : Nat.beq (q / 2) 0 with
   | true => rw [zam z, Nat.zero_mul]; rfl
   | false =>
    have z := zdy z
    cases z2 : Z.eqB (Int.ofNat (q / 2 * 2 ^ (i + 1))) 0 with
    | false => rfl
    | true =>
     rw [Z.eqB_iff] at z2
     have z3 : q / 2 * 2 ^ (i + 1) = 0 := by simp only [Int.ofNat_eq_natCast] at z2; omega
     rcases Nat.mul_eq_zero.mp z3 with z4 | z4
     · exact absurd z4 z
     · omega
  have hn1 : nmB i = match zfo zj1 (.ofNat (2 ^ i)) with | some s => s | none => hexL (2 ^ i) := rfl
  cases hl : zfo zj1 (Int.ofNat (2 ^ i)) <;> rw [hl] at hn1 <;>
  simp only [pfF, zca, zkr, za4, zbx, xAsg, xEx, xAug, xIfe, goN, hVar, hGlo, Mine.h2, kBin, hBin, hArg, zbc, zau, zal, tNot, hTru, same, zaz, zaa, lisA, Nat.reduceEqDiff, if_true, if_false, zy1, zy3, zy5, zy7, zy9, zy10, zy12, zy16, zv3, zv15, zv21, zv24, zv34, zv36, zv38, zv40, zv42, zv46, zv59, zv64, zv65, zw1, zw2, zw12, zg50, zg51, zgd, zq3, zq5, zq6, zq8, zq17, zq18, zq22, zq23, zq26, zq30, zq33, zq39, zq40, zq41, zq42, zq47, zq49, zq50, zq51, zq52, zq63, zq75, zu0, zu1, zu3, zu5, zu15, zo2, zca, List.zip_nil_left, hb1, hb, e1, h49, h47, bAnd, hq1, ht, upd, hn, hb2, hl, hn1, List.zip_nil_left, bXor q i hq1, hz, Nat.beq] <;>
  cases Nat.beq (q / 2) 0 <;> rfl
 | false =>
  have hq1 := zdy hq
  have hq0 : q % 2 = 0 := by omega
  have ez : q * 2 ^ i = (q / 2) * 2 ^ (i + 1) := by
   rw [Nat.pow_succ, Nat.mul_comm (2 ^ i) 2, ← Nat.mul_assoc]
   congr 1; omega
  refine ⟨put (put fl 39 (.int (.ofNat i))) 48 (.int (.ofNat (2 ^ i))), ?_, by simp [zaa, h49, ez], by simp [zaa, h47]⟩
  have hz : Z.eqB (Int.ofNat (0 * 2 ^ i)) 0 = true := by rw [Nat.zero_mul]; rfl
  simp only [pfF, zca, zkr, za4, zbx, xAsg, xEx, xAug, xIfe, goN, hVar, hGlo, Mine.h2, kBin, hBin, hArg, zbc, zau, zal, tNot, hTru, same, zaz, zaa, Nat.reduceEqDiff, if_true, if_false, zy1, zy3, zy5, zy8, zy9, zy12, zy16, zv24, zv38, zv42, zv46, zv59, zv63, zw1, zw2, zw12, zg50, zg51, zgd, zq3, zq5, zq6, zq8, zq17, zq18, zq22, zq23, zq26, zq30, zq33, zq39, zq40, zq41, zq42, zq47, zq49, zq50, zq51, zq52, zq63, zu0, zu1, zu5, zu15, zo2, zca, List.zip_nil_left, hb1, hb, e1, h49, bAnd, hq0, hz]
theorem zah {n : Nat} (h : n ≤ 65536) : fits n = true := Nat.ble_eq_true_of_le h
theorem zjh : ∀ (n i q k : Nat) (fl : L) (names : List V), i + n ≤ 32 -> q < 2 ^ n -> q ≠ 0 -> n < k -> len names ≤ i -> look fl 49 = some (.int (.ofNat (q * 2 ^ i))) -> look fl 47 = some (.ref 0) ->
 ∃ fl', forS pfF k (.items (zby n (.ofNat i))) fl [.list names] = some (.brk, fl', [.list (names ++ (zdx n i q).map V.str)]) /\ look fl' 47 = some (.ref 0)
 | 0, i, q, k, fl, names, h1, h2, h3, h4, h5, h6, h7 => by
  have : q < 1 := h2
  omega
 | n + 1, i, q, 0, fl, names, h1, h2, h3, h4, h5, h6, h7 => by omega
 | n + 1, i, q, k + 1, fl, names, h1, h2, h3, h4, h5, h6, h7 => by
  have S := zns i q (by omega) fl names h6 h7 (zah (by omega))
  have hq2 : q / 2 < 2 ^ n := by
   have : q < 2 * 2 ^ n := by rw [Nat.pow_succ] at h2; omega
   omega
  have hcast : (Int.ofNat i + 1 : Int) = .ofNat (i + 1) := rfl
  rw [zo7]
  cases hq : Nat.beq (q % 2) 1 with
  | true =>
   rw [hq] at S
   obtain ⟨fl', e, g1, g2⟩ := S
   rw [e]
   cases hz : Nat.beq (q / 2) 0 with
   | true =>
    have hz0 := zam hz
    refine ⟨fl', ?_, g2⟩
    have hb : zdx (n + 1) i q = [nmB i] := by
     simp only [zdx, hq, hz0]
     have : ∀ n i, zdx n i 0 = [] := by
      intro n
      induction n with
      | zero => intro i; rfl
      | succ n ih => intro i; simp only [zdx, Nat.zero_mod, Nat.zero_div]; exact ih (i + 1)
     rw [this]
    rw [hb]; rfl
   | false =>
    obtain ⟨fl2, e2, g3⟩ := zjh n (i + 1) (q / 2) k fl' (names ++ [.str (nmB i)]) (by omega) hq2 (zdy hz) (by omega) (by rw [zag] at *; simp; omega) g1 g2
    refine ⟨fl2, ?_, g3⟩
    exact e2.trans (by simp only [zdx, hq, List.map_cons, List.append_assoc, List.singleton_append])
  | false =>
   rw [hq] at S
   obtain ⟨fl', e, g1, g2⟩ := S
   have hq1 := zdy hq
   obtain ⟨fl2, e2, g3⟩ := zjh n (i + 1) (q / 2) k fl' names (by omega) hq2 (by omega) (by omega) (by omega) g1 g2
   refine ⟨fl2, ?_, g3⟩
   rw [e]
   exact e2.trans (by simp only [zdx, hq])
theorem znr : ∀ (n i k : Nat) (fl : L), i + n ≤ 32 -> n < k -> look fl 49 = some (.int (.ofNat (0 * 2 ^ i))) -> look fl 47 = some (.ref 0) ->
 ∃ fl', forS pfF k (.items (zby n (.ofNat i))) fl [.list []] = some (.dry, fl', [.list []]) /\ look fl' 47 = some (.ref 0) /\ look fl' 49 = some (.int (.ofNat 0))
 | 0, i, 0, fl, h1, h2, h3, h4 => by omega
 | 0, i, k + 1, fl, h1, h2, h3, h4 => ⟨fl, rfl, h4, by rw [h3, Nat.zero_mul]⟩
 | n + 1, i, 0, fl, h1, h2, h3, h4 => by omega
 | n + 1, i, k + 1, fl, h1, h2, h3, h4 => by
  have S := zns i 0 (by omega) fl [] h3 h4 rfl
  obtain ⟨fl', e, g1, g2⟩ := S
  obtain ⟨fl2, e2, g3⟩ := znr n (i + 1) k fl' (by omega) (by omega) g1 g2
  refine ⟨fl2, ?_, g3⟩
  have hcast : (Int.ofNat i + 1 : Int) = .ofNat (i + 1) := rfl
  rw [zo7, e]
  exact e2
noncomputable def zbq (z : Nat) : List Nat := match Nat.beq z 0 with | true => [48, 120, 48] | false => zce [44, 32] (zdx 32 0 z)
theorem zel : ∀ l : List (List Nat), zf6 (l.map V.str) = some l
 | [] => rfl
 | x :: r => by show bd (zf6 (r.map V.str)) _ = _; rw [zel r]; rfl
theorem zf4 : ∀ n i q, (zdx n i q).length ≤ n
 | 0, _, _ => Nat.le_refl _
 | n + 1, i, q => by
  simp only [zdx]
  split
  · simp only [List.length_cons]; have := zf4 n (i + 1) (q / 2); omega
  · have := zf4 n (i + 1) (q / 2); omega
noncomputable def pf1 : FS := .asg [.name 47 62004062009] (.list [] 62012062014) 62004062014
noncomputable def pfO : List FS := [.ex (.mcall (.var 47 71008071013) 0 [.call (.glo 51 71021071024) [.var 49 71025071030] [] [] [] 71021071031] [] [] [] 71008071020 71008071032) 71008071032]
noncomputable def pf3 : FS := .ret (.mcall (.str ", " [44, 32] 72011072015) 6 [.var 47 72021072026] [] [] [] 72011072020 72011072027) 72004072027
noncomputable def pf2 : FS := .for_ (.name 39 63008063009) (.call (.glo 40 63013063018) [.int 32 63019063021] [] [] [] 63013063022) zkr pfO 63004071032
theorem znu (fl : L) (hp : Hp) : ex (cx2 S0) pf2 fl hp = bd (forS pfF 33 (.items (zby 32 (.ofNat 0))) fl hp) (aftL (exs (cx2 S0) pfO)) := rfl
theorem znv (z : V) : ex (cx2 S0) pf1 [(49, z)] [] = some (.next, [(49, z), (47, .ref 0)], [.list []]) := rfl
theorem znt {fl : L} {l : List (List Nat)} (h : look fl 47 = some (.ref 0)) (h1 : fits (len (zce [44, 32] l)) = true) (h2 : fits (len l) = true) : ex (cx2 S0) pf3 fl [.list (l.map V.str)] = some (.ret (.v (.str (zce [44, 32] l))), fl, [.list (l.map V.str)]) := by
 simp only [pf3, xRet, hVar, hArg, zau, zal, same, lisA, zy1, zy3, zy16, zv21, zv37, zv41, zq4, zq5, zq18, zq22, zq23, zq45, zq75, zu7, zu11, List.zip_nil_left, h, zel, h1, h2, List.zip_nil_left, Nat.ble]
theorem pfO_run {fl : L} (h : look fl 47 = some (.ref 0)) (h1 : look fl 49 = some (.int (.ofNat 0))) : exs (cx2 S0) pfO fl [.list []] = some (.next, fl, [.list [.str [48, 120, 48]]]) := by
 have e : Nat.blt 0 340282366920938463463374607431768211456 = true := rfl
 have e2 : hexL 0 = [48, 120, 48] := rfl
 simp only [pfO, zbx, xEx, hVar, hGlo, hArg, zbc, zau, zal, same, lisA, zy1, zy3, zy12, zy16, zv21, zv24, zv34, zv36, zv40, zv46, zv65, zw1, zg51, zq5, zq6, zq17, zq18, zq22, zq23, zq40, zq49, zq50, zq63, zq75, zq82, zu15, List.nil_append, List.zip_nil_left, h, h1, upd, e, e2, Nat.beq, show fits 0 = true from rfl, List.zip_nil_left, List.nil_append]
theorem zh3 (z : Nat) (hz : z < 2 ^ 32) (hf : fits (len (zbq z)) = true) (hp : Hp) : SL 112 [.v (.int (.ofNat z))] [] hp = some (.v (.str (zbq z)), hp) := by
 have key : ∃ h2, fnS fnPF (cx2 S0) [.v (.int (.ofNat z))] [] [] = some (.v (.str (zbq z)), h2) := by
  have he : fnS fnPF (cx2 S0) [.v (.int (.ofNat z))] [] [] = body (cx2 S0) za4 [(49, .int (.ofNat z))] [] := by
   rfl
  rw [he]
  by_cases h0 : z = 0
  · subst h0
    obtain ⟨fl', e, g1, g2⟩ := znr 32 0 33 [(49, .int (.ofNat 0)), (47, .ref 0)] (by omega) (by omega) rfl rfl
    refine ⟨[.list [.str [48, 120, 48]]], ?_⟩
    have p3 := znt (fl := fl') (l := [[48, 120, 48]]) g1 rfl rfl
    simp only [List.map_cons, List.map_nil] at p3
    show bd (exs (cx2 S0) [pf1, pf2, pf3] _ _) outB = _
    rw [zar (znv _), zar (y := (fl', _)) (by rw [znu, e]; exact pfO_run g1 g2), exs_r p3]; rfl
  · obtain ⟨fl', e, g1⟩ := zjh 32 0 z 33 [(49, .int (.ofNat z)), (47, .ref 0)] [] (by omega) hz h0 (by omega) (Nat.le_refl _) (by rw [Nat.pow_zero, Nat.mul_one]; rfl) rfl
    refine ⟨[.list ((zdx 32 0 z).map V.str)], ?_⟩
    have hpz : zbq z = zce [44, 32] (zdx 32 0 z) := by
     unfold zbq
     cases q : Nat.beq z 0 with
     | true => exact absurd (zam q) h0
     | false => rfl
    rw [hpz] at hf ⊢
    have p3 := znt (fl := fl') (l := zdx 32 0 z) g1 hf (zah (by rw [zag]; have := zf4 32 0 z; omega))
    rw [List.nil_append] at e
    show bd (exs (cx2 S0) [pf1, pf2, pf3] _ _) outB = _
    rw [zar (znv _), zar (y := (fl', _)) (by rw [znu, e]; rfl), exs_r p3]; rfl
 exact ze0 (S0 := fnS fnPF (cx2 S0)) (as := [.int (.ofNat z)]) key rfl rfl hp
end
end Mine
end
noncomputable section
namespace Mine
section
open PySem PySem.W PyProof.Rows
theorem zf1 {f : V -> Hp -> Option (Option V × Hp)} {g : V -> Option V} {hp : Hp} : ∀ (xs : List V) (k : Nat), xs.length < k -> (∀ x ∈ xs, f x hp = some (g x, hp)) -> zbf f k (.items xs) hp = some (xs.filterMap g, hp)
 | [], 0, h, _ => by cases h
 | [], k + 1, _, _ => rfl
 | x :: r, 0, h, _ => by cases h
 | x :: r, k + 1, h, H => by
  have ih := zf1 r k (by simpa using h) fun y hy => H y (by simp [hy])
  rw [zj3, H x (.head _)]
  show bd (zbf f k (.items r) hp) _ = _
  rw [ih, ← zpj]; rfl
theorem zb6 {f : V -> Hp -> Option (Option V × Hp)} {g : V -> Option V} {hp : Hp} {n : Nat} {ys : List V} (hn : nth hp n = some (.list ys)) : ∀ (xs : List V) (k i : Nat), ys.drop i = xs -> xs.length < k -> (∀ x ∈ xs, f x hp = some (g x, hp)) -> zbf f k (.live n i) hp = some (xs.filterMap g, hp)
 | xs, 0, i, _, h, _ => by cases h
 | [], k + 1, i, hd, _, _ => by
  have : nth ys i = none := by rw [zbd]; exact List.getElem?_eq_none (List.drop_eq_nil_iff.mp hd)
  rw [zpk, zd6 hn]
  show byO (bd (nth ys i) _) _ _ = _
  rw [this]; rfl
 | x :: r, k + 1, i, hd, h, H => by
  have h1 : nth ys i = some x := by
   have : (ys.drop i)[0]? = some x := by rw [hd]; rfl
   rw [List.getElem?_drop] at this
   rw [zbd]; exact this
  have h2 : ys.drop (i + 1) = r := by
   have : ys.drop (i + 1) = (ys.drop i).drop 1 := by rw [List.drop_drop]
   rw [this, hd]; rfl
  have ih := zb6 hn r k (i + 1) h2 (by simpa using h) fun y hy => H y (by simp [hy])
  rw [zpk, zd6 hn]
  show byO (bd (nth ys i) _) _ _ = _
  rw [h1]
  show bd (f x hp) _ = _
  rw [H x (.head _)]
  show bd (zbf f k (.live n (i + 1)) hp) _ = _
  rw [ih, ← zpj]; rfl
noncomputable def zcy : Nat -> List (List Nat) -> List (List Nat)
 | _, [] => []
 | c, x :: r => match Nat.beq (c % 2) 1 with
  | true => x :: zcy (c / 2) r
  | false => zcy (c / 2) r
noncomputable def zgb (c : Nat) (fs : List (List Nat)) : List Nat := match zcy c fs with | [] => [48, 120, 48] | l => zce [44, 32] l
noncomputable def woG (c : Nat) (fs : List (List Nat)) : V -> Option V := fun v => match v with
 | .int (.ofNat k) => (match Nat.beq (c / 2 ^ k % 2) 1 with
  | true => (match nth fs k with | some s => some (.str s) | none => none)
  | false => none)
 | _ => none
theorem zh8 : ∀ (n a : Nat) (v : V), v ∈ zby n (.ofNat a) -> ∃ k, v = .int (.ofNat k) /\ a ≤ k /\ k < a + n
 | 0, _, _, h => by cases h
 | n + 1, a, v, h => by
  simp only [zby, List.mem_cons] at h
  rcases h with rfl | h
  · exact ⟨a, rfl, Nat.le_refl _, by omega⟩
  · obtain ⟨k, h1, h2, h3⟩ := zh8 n (a + 1) v h
    exact ⟨k, h1, by omega, by omega⟩
theorem zh9 : ∀ (n : Nat) (a : Int), (zby n a).length = n
 | 0, _ => rfl
 | n + 1, a => by simp [zby, zh9 n]
theorem zhw (c : Nat) (fs : List (List Nat)) : ∀ (r : List (List Nat)) (i : Nat), (∀ j, nth fs (i + j) = nth r j) -> (zby (len r) (.ofNat i)).filterMap (woG c fs) = (zcy (c / 2 ^ i) r).map V.str
 | [], i, _ => rfl
 | x :: r, i, h => by
  have h0 := h 0
  have ih := zhw c fs r (i + 1) fun j => by have := h (j + 1); rw [show i + (j + 1) = i + 1 + j by omega] at this; exact this
  have e : c / 2 ^ (i + 1) = c / 2 ^ i / 2 := by rw [Nat.pow_succ, Nat.div_div_eq_div_mul]
  have hc : (Int.ofNat i + 1 : Int) = .ofNat (i + 1) := rfl
  simp only [len, zby, hc, List.filterMap_cons, ih, e, woG, zcy]
  have h0' : nth fs i = some x := h0
  cases Nat.beq (c / 2 ^ i % 2) 1 with
  | true => simp only [h0', List.map_cons]
  | false => rfl
theorem zct : ∀ (fs : List (List Nat)) (k : Nat), nth (fs.map V.str) k = (nth fs k).map V.str
 | [], _ => by simp [nth]
 | x :: r, 0 => rfl
 | x :: r, k + 1 => zct r k
theorem zao {α β : Type} (f : α -> β) (l : List α) : len (l.map f) = len l := by simp [zag]
theorem zej : ∀ (fs : List (List Nat)) (c : Nat), (zcy c fs).length ≤ fs.length
 | [], _ => Nat.le_refl _
 | x :: r, c => by
  simp only [zcy]
  split
  · simp only [List.length_cons]; have := zej r (c / 2); omega
  · simp only [List.length_cons]; have := zej r (c / 2); omega
theorem zkk (c : Nat) (fs : List (List Nat)) (hl : fs.length ≤ 32) (hf : fits (len (zgb c fs)) = true) {hp : Hp} {n : Nat} (hn : nth hp n = some (.list (fs.map V.str))) (hu : upd hp n (.list (fs.map V.str)) = hp) : SL 300 [.v (.int (.ofNat c)), .v (.ref n)] [] hp = some (.v (.str (zgb c fs)), hp) := by
 have hpls : pls (fs.map V.str) = true := by
  clear hn hl hf hu
  induction fs with
  | nil => rfl
  | cons x r ih => simp only [List.map_cons, pls, pl, pla, ih]
 have key : fnS fnWO (cx2 S0) [.v (.int (.ofNat c)), .v (.ref 0)] [] [.list (fs.map V.str)] = some (.v (.str (zgb c fs)), [.list (fs.map V.str), .list ((zcy c fs).map V.str)]) := by
  have hlen : (Int.ofNat (len fs) - 0).toNat = len fs := by simp
  have hsm : small (Int.ofNat (len fs)) = true := by
   apply Nat.ble_eq_true_of_le
   show (Int.ofNat (len fs)).natAbs + 1 ≤ _
   rw [zag]; simp; omega
  have hcomp : ∀ {f : V -> Hp -> Option (Option V × Hp)}, (∀ k, k < len fs -> f (.int (.ofNat k)) [.list (fs.map V.str)] = some (woG c fs (.int (.ofNat k)), [.list (fs.map V.str)])) -> zbf f (len (zby (len fs) 0) + 1) (.items (zby (len fs) 0)) [.list (fs.map V.str)] = some ((zcy c fs).map V.str, [.list (fs.map V.str)]) := by
   intro f H
   have e := zf1 (f := f) (g := woG c fs) (hp := [.list (fs.map V.str)]) (zby (len fs) (.ofNat 0)) (len (zby (len fs) 0) + 1) (by simp [zag, zh9]) fun x hx => by
    obtain ⟨k, rfl, _, hk⟩ := zh8 _ _ _ hx
    exact H k (by omega)
   have w := zhw c fs fs 0 (fun j => by rw [Nat.zero_add])
   rw [Nat.pow_zero, Nat.div_one] at w
   rw [← w]; exact e
  simp only [fnS, fnWO, List.append_nil, fnX, Nat.beq, body, zdw, zbx, xAsg, xRet, goN, hVar, hGlo, Mine.h2, kCmp, tCmp, hIfe, hArg, zbc, zau, zal, same, zaz, lisA, zy1, zy3, zy5, zy7, zy8, zy9, zy12, zy16, zv21, zv24, zv37, zv46, zw12, zw18, zw22, zg32, zg40, zq3, zq4, zq5, zq6, zq11, zq17, zq18, zq21, zq22, zq23, zq29, zq39, zq45, zq49, zq50, zq51, zq52, zq53, zq54, zq57, zq58, zq59, zq60, zq68, zq69, zq70, zq71, zq75, zq79, zq80, zq81, zu16, zu17, zu21, zrg0, zrg1, zrg2, zfl0, zfl1, zfl3, srcC, zdu, List.append_nil, List.zip_cons_cons, List.zip_nil_left, zdu, zao, hsm, List.cons_append, List.nil_append, List.zip_cons_cons, List.zip_nil_left]
  rw [hcomp]
  · have hfit : fits (len (zcy c fs)) = true := zah (by rw [zag]; have := zej fs c; omega)
    have hw : zgb c fs = match zcy c fs with | [] => [48, 120, 48] | l => zce [44, 32] l := rfl
    cases hb : zcy c fs with
    | nil =>
     rw [hb] at hw
     simp only [List.map_nil, show fits 0 = true from rfl, hw, lisA, zy1, zy3, zy7, zy8, zv25, zw1, zq57, zq58, zq82, zu16, zu17, List.nil_append, List.cons_append, Z.ltB, List.cons_append, List.nil_append, Nat.beq]
     rfl
    | cons x r =>
     rw [hb] at hw hfit
     have hz : Z.ltB 0 (Int.ofNat (len (V.str x :: r.map V.str))) = true := by
      rw [Z.ltB_iff]
      simp only [len, Int.ofNat_eq_natCast]; omega
     have hfm : fits (len ((x :: r).map V.str)) = true := by rw [zao]; exact hfit
     have ha := zel (x :: r)
     rw [hw] at hf
     simp only [List.map_cons] at hfm ha
     have l1 : ∀ a : O, len [a] = 1 := fun _ => rfl
     have hz' : Z.ltB (Int.ofNat 0) (Int.ofNat (len (V.str x :: r.map V.str))) = true := hz
     simp only [List.map_cons, hfm, hw, same, lisA, zy1, zy3, zy7, zy8, zy16, zv21, zv25, zv41, zv54, zw1, zw4, zw26, zq57, zq58, zq75, zq76, zu7, zu11, zu16, zu17, List.nil_append, List.cons_append, List.cons_append, List.nil_append, Nat.beq, Nat.ble, l1, hz', ha, hf, hfit]
     rfl
  · intro k hk
    have hk32 : k < 32 := by rw [zag] at hk; omega
    have hb : Nat.blt k 64 = true := Nat.ble_eq_true_of_le (by omega)
    have hp0 : 0 < 2 ^ k := Nat.pow_pos (by omega)
    have hlt : 2 ^ k < 2 ^ 32 := Nat.pow_lt_pow_right (by omega) hk32
    have hz : Z.eqB (Int.ofNat (Nat.pow 2 k)) 0 = false := by
     cases z : Z.eqB (Int.ofNat (Nat.pow 2 k)) 0 with
     | false => rfl
     | true =>
      rw [Z.eqB_iff] at z
      have : (2 ^ k : Nat) = 0 := by
       have z' : ((2 ^ k : Nat) : Int) = 0 := z
       omega
      omega
    have hs : small (Int.ofNat (Nat.pow 2 k)) = true := by
     apply Nat.ble_eq_true_of_le
     show 2 ^ k + 1 ≤ _
     have : (2:Nat) ^ 32 + 1 ≤ 4611686018427387904 := by decide
     omega
    have hs2 : small (Int.ofNat 2) = true := rfl
    have hz2 : Z.eqB (Int.ofNat 2) 0 = false := rfl
    have hm2 : Nat.beq 2 2 = true := rfl
    have e1 : Int.fdiv (Int.ofNat c) (Int.ofNat (Nat.pow 2 k)) = Int.ofNat (c / 2 ^ k) := (Int.ofNat_fdiv _ _).symm
    have e2 : Int.fmod (Int.ofNat (c / 2 ^ k)) (Int.ofNat 2) = Int.ofNat (c / 2 ^ k % 2) := (Int.ofNat_fmod _ _).symm
    have e3 : Z.eqB (Int.ofNat (c / 2 ^ k % 2)) (Int.ofNat 1) = Nat.beq (c / 2 ^ k % 2) 1 := rfl
    obtain ⟨y, hy⟩ : ∃ y, nth fs k = some y := by
     rw [zbd]
     rw [zag] at hk
     exact ⟨_, List.getElem?_eq_getElem hk⟩
    have hidx : idx (Int.ofNat k) (len fs) = some k := by
     have : Nat.blt k (len fs) = true := Nat.ble_eq_true_of_le hk
     simp only [idx, this]
    simp only [zcp, bindC, hVar, Mine.h2, kBin, kCmp, kSub, hBin, tCmp, hSub, tAnd, same, lisA, zy1, zy3, zy5, zy7, zy8, zy9, zy12, zv56, zv64, zv67, zq3, zq5, zq8, zq14, zq29, zq35, zq36, zq57, zq58, zq70, zq71, zu29, zu30, zu32, zcp, bindC, Nat.beq, hb, hm2, hz, hs, hs2, hz2, e1, e2, e3, woG, zao, hidx, zct, hy, Option.map]
    cases Nat.beq (c / 2 ^ k % 2) 1
    · rfl
    · simp only [zy1, zy7, zv1, zv21, zq75, zao, hidx, zct, hy, Option.map]
 have e0 : SL 300 = subS (fnS fnWO (cx2 S0)) := rfl
 rw [e0]
 exact zwl hn hpls key hu
end
end Mine
end
noncomputable section
namespace Mine
section
open PySem PySem.W PyProof.Rows
theorem zdz {α : Type} : ∀ {l : List α} {n : Nat} {x : α}, nth l n = some x -> upd l n x = l
 | _ :: _, 0, _, h => by cases h; rfl
 | a :: l, n + 1, x, h => by
  show a :: upd l n x = a :: l
  rw [show upd l n x = l from zdz (l := l) h]
noncomputable def oddR (row : List Nat) : Bool := Nat.beq (len (zan 44 32 [] row) % 2) 1
noncomputable def cntO : List (List Nat) -> Nat
 | [] => 0
 | x :: r => match oddR x with | true => cntO r + 1 | false => cntO r
noncomputable def suG : V -> Option V := fun v => match v with
 | .str s => (match oddR s with | true => some (.int (.ofNat 1)) | false => none)
 | _ => none
theorem zi5 : ∀ rows : List (List Nat), len ((rows.map V.str).filterMap suG) = cntO rows
 | [] => rfl
 | x :: r => by
  simp only [List.map_cons, List.filterMap_cons, suG, cntO]
  cases oddR x with
  | true => simp only [len, zi5 r]
  | false => exact zi5 r
theorem zj4 : ∀ rows : List (List Nat), cntO rows ≤ rows.length
 | [] => Nat.le_refl _
 | x :: r => by
  simp only [cntO, List.length_cons]
  have := zj4 r
  split <;> omega
noncomputable def surL (rows : List (List Nat)) : Int := Int.ofNat (len rows) - Int.ofNat 2 * Int.ofNat (cntO rows)
theorem zdc {n : Nat} (h : n ≤ 65536) : small (Int.ofNat n) = true := by
 apply Nat.ble_eq_true_of_le
 show n + 1 ≤ _
 have : (65536:Nat) + 1 ≤ 4611686018427387904 := by decide
 omega
theorem zc4 : ∀ fs : List (List Nat), pls (fs.map V.str) = true
 | [] => rfl
 | x :: r => by simp only [List.map_cons, pls, pl, pla, zc4 r]
theorem zge (rows : List (List Nat)) (hl : rows.length ≤ 65536) (hp : Hp) : SL 305 [.l (rows.map V.str)] [] hp = some (.v (.int (surL rows)), hp) := by
 have hs : ∀ s : List Nat, len (zan 44 32 [] s) ≤ 65536 -> small (Int.ofNat (len (zan 44 32 [] s))) = true := fun s h => zdc h
 have key : ∃ h2, fnS fnSU (cx2 S0) [.v (.ref 0)] [] [.list (rows.map V.str)] = some (.v (.int (surL rows)), .list (rows.map V.str) :: h2) := by
  have hcomp : ∀ {f : V -> Hp -> Option (Option V × Hp)}, (∀ s : List Nat, f (.str s) [.list (rows.map V.str)] = some (suG (.str s), [.list (rows.map V.str)])) -> zbf f (len (rows.map V.str) + 1) (.live 0 0) [.list (rows.map V.str)] = some ((rows.map V.str).filterMap suG, [.list (rows.map V.str)]) := by
   intro f H
   refine zb6 (ys := rows.map V.str) rfl _ _ 0 rfl (by rw [zag]; omega) fun x hx => ?_
   obtain ⟨s, _, rfl⟩ := List.mem_map.mp hx
   exact H s
  have hfit : fits (cntO rows) = true := zah (by have := zj4 rows; omega)
  have hsm : small (Int.ofNat (cntO rows)) = true := zdc (by have := zj4 rows; omega)
  have hs2 : small (Int.ofNat 2) = true := rfl
  simp only [fnS, fnSU, fnX, Nat.beq, body, zcw, zbx, xRet, hVar, hGlo, Mine.h2, kBin, hBin, hArg, zbc, zal, same, lisA, zy1, zy3, zy7, zy8, zy9, zy16, zv21, zv24, zv46, zw17, zg32, zw23, zq3, zq5, zq6, zq8, zq17, zq21, zq22, zq23, zq45, zq49, zq50, zq53, zq54, zq57, zq58, zq59, zq68, zq69, zq75, zq79, zq80, zq81, zu16, zu17, zrg3, zfl0, zfl1, zfl2, srcC, zdu, List.append_nil, List.zip_cons_cons, List.zip_nil_left, zao, List.zip_cons_cons, List.zip_nil_left, len, Nat.ble]
  have hcomp' := @hcomp
  rw [zao] at hcomp'
  rw [hcomp']
  · simp only [hfit, zi5, hs2, hsm, zy1, zy3, zy5, zv48, zw4, zw26, zu16, zu20, zu31, Nat.beq, Nat.ble]
    exact ⟨_, rfl⟩
  · intro s
    have e2 : Int.fmod (Int.ofNat (len (zan 44 32 [] s))) (Int.ofNat 2) = Int.ofNat (len (zan 44 32 [] s) % 2) := (Int.ofNat_fmod _ _).symm
    have e3 : Z.eqB (Int.ofNat (len (zan 44 32 [] s) % 2)) (Int.ofNat 1) = oddR s := rfl
    have hz2 : Z.eqB (Int.ofNat 2) 0 = false := rfl
    simp only [hVar, hGlo, Mine.h2, kBin, kCmp, hBin, tCmp, hArg, zbc, zau, zal, tAnd, same, zy1, zy3, zy5, zy7, zy8, zy9, zy12, zy16, zv1, zv37, zv41, zv46, zv56, zv64, zg32, zq3, zq4, zq5, zq6, zq8, zq17, zq18, zq22, zq23, zq29, zq35, zq36, zq57, zq58, zq59, zq70, zq71, zu10, zu16, zu20, zu30, zcp, bindC, List.zip_nil_left, zao, hz2, hs2, e2, e3, List.zip_nil_left, suG, Nat.beq, Nat.ble]
    cases oddR s <;> rfl
 obtain ⟨h2, e⟩ := key
 have g : gath [.l (rows.map V.str)] hp 0 = some ([.ref 0], [.list (rows.map V.str)]) := by
  show bd (ifb (pls (rows.map V.str)) _) _ = _
  rw [zc4]; rfl
 show bd (gath [.l (rows.map V.str)] hp 0) _ = _
 rw [g]
 show bd (fnS fnSU (cx2 S0) [.v (.ref 0)] [] [.list (rows.map V.str)]) _ = _
 rw [e]; rfl
noncomputable abbrev Row := List Nat × List Nat
noncomputable def rowP (p : Row) : V := .tup [.str p.1, .str p.2]
noncomputable def low (s : List Nat) : List Nat := s.map lowc
theorem zjc {s : List Nat} {b : Bool} (h : okc okN s = true) (n : Nat) (hp : Hp) : S1 178 [.v (.ref n), .v (.str s)] [(67, .v (.bool b))] hp = some (.v (.str s), hp) := by
 show fnS fnCV (cx2 S0) [.v (.ref n), .v (.str s)] [(67, .v (.bool b))] hp = _
 cases b <;>
 simp only [fnS, fnCV, List.cons_append, List.nil_append, fnX, Nat.beq, body, zap, zbx, xAsg, xIfe, xRet, goN, hVar, hGlo, Mine.h2, kCmp, tCmp, hIfe, hArg, zbc, zau, zal, hTru, same, zaz, zy1, zy3, zy5, zy7, zy8, zy9, zy12, zy16, zv24, zv38, zv42, zv46, zv58, zw1, zw4, zw12, zg72, zg73, zg63, zg70, zgp1, zgp2, zw26, zq5, zq6, zq11, zq17, zq22, zq23, zq29, zq30, zq34, zq39, zq42, zq45, zq49, zq50, zq51, zq52, zq53, zq54, zq57, zq58, zq67, zq70, zq71, zq79, zq80, zq81, zu4, zu6, List.append_nil, List.nil_append, List.cons_append, List.zip_cons_cons, List.zip_nil_left, zb0_, zb1_, zb2_, zb3_, zb4_, zb5_, h, len, List.zip_cons_cons, List.zip_nil_left, Nat.ble]
noncomputable def gaG (nme : List Nat) : V -> Option V := fun v => match v with
 | .tup [.str k, .str t] => (match leq (low k) nme with | true => some (.str t) | false => none)
 | _ => none
noncomputable def getR (nme : List Nat) : List Row -> List (List Nat)
 | [] => []
 | p :: r => match leq (low p.1) nme with | true => p.2 :: getR nme r | false => getR nme r
theorem zjz (nme : List Nat) : ∀ rows : List Row, (rows.map rowP).filterMap (gaG nme) = (getR nme rows).map V.str
 | [] => rfl
 | p :: r => by
  simp only [List.map_cons, List.filterMap_cons, rowP, gaG, getR]
  cases leq (low p.1) nme with
  | true => simp only [List.map_cons]; rw [← zjz nme r]
  | false => exact zjz nme r
theorem zla (nme : List Nat) : ∀ rows : List Row, (getR nme rows).length ≤ rows.length
 | [] => Nat.le_refl _
 | p :: r => by
  simp only [getR, List.length_cons]
  have := zla nme r
  split
  · simp only [List.length_cons]; omega
  · omega
theorem zdd {s : List Nat} {rows : List Row} {hp : Hp} {n l : Nat} (h1 : nth hp n = some (.inst 277 [(65, .ref l)])) (h2 : nth hp l = some (.list (rows.map rowP))) (hs : okc okN (low s) = true) (hl : rows.length ≤ 65536) :
 SL 216 [.v (.ref n), .v (.str s)] [] hp = some (.l ((getR (low s) rows).map V.str), hp) := by
 show fnS fnGA (cx2 S1) [.v (.ref n), .v (.str s)] [] hp = _
 have hcomp : ∀ {f : V -> Hp -> Option (Option V × Hp)}, (∀ p : Row, f (rowP p) hp = some (gaG (low s) (rowP p), hp)) -> zbf f (len rows + 1) (.live l 0) hp = some ((getR (low s) rows).map V.str, hp) := by
  intro f H
  rw [← zjz]
  refine zb6 h2 _ _ 0 rfl (by rw [zag]; simp) fun x hx => ?_
  obtain ⟨p, _, rfl⟩ := List.mem_map.mp hx
  exact H p
 have hfit : fits (len (getR (low s) rows)) = true := zah (by rw [zag]; have := zla (low s) rows; omega)
 have hlow : s.map lowc = low s := rfl
 have e1 : Nat.beq 177 178 = false := rfl
 simp only [fnS, fnGA, List.cons_append, List.nil_append, fnX, Nat.beq, body, zbt, zbx, xAsg, xRet, goN, hVar, Mine.h2, hAtt, hArg, zau, zal, same, zaz, lisA, insA, zy1, zy3, zy7, zy8, zy9, zy12, zy16, zy17, zv21, zv22, zv24, zv34, zv35, zv37, zv39, zv41, zv43, zw1, zw12, zw17, zgm2, zgS, zw23, zq1, zq5, zq16, zq18, zq21, zq22, zq23, zq39, zq45, zq49, zq50, zq51, zq52, zq53, zq54, zq57, zq58, zq68, zq69, zq70, zq71, zq79, zq80, zq81, zu8, zrg3, zfl0, zfl1, zfl2, zfl3, srcC, zdu, List.append_nil, List.zip_cons_cons, List.zip_nil_left, h1, h2, len, List.zip_cons_cons, List.zip_nil_left, hlow, zjc hs, zao, Nat.ble]
 rw [hcomp]
 · simp only [zao, hfit, zy1, zy3, zw4, zw26, Nat.beq, Nat.ble]
 · intro p
   have hg : gaG (low s) (rowP p) = cs (leq (low p.1) (low s)) (some (.str p.2)) none := rfl
   rw [hg]
   show bd (bd (some (leq (low p.1) (low s))) (fun r => some (r, hp)) |> fun z => bd z fun x => cs x.1 (some (true, x.2)) (some (false, x.2))) _ = _
   cases leq (low p.1) (low s) <;> rfl
noncomputable def keG : V -> Option V := fun v => match v with
 | .tup [.str k, .str _] => some (.str k)
 | _ => none
theorem zop : ∀ rows : List Row, (rows.map rowP).filterMap keG = (rows.map (·.1)).map V.str
 | [] => rfl
 | p :: r => by simp only [List.map_cons, List.filterMap_cons, rowP, keG]; rw [← zop r]
theorem zwy {rows : List Row} {hp : Hp} {n l : Nat} (h1 : nth hp n = some (.inst 277 [(65, .ref l)])) (h2 : nth hp l = some (.list (rows.map rowP))) (hl : rows.length ≤ 65536) :
 SL 229 [.v (.ref n)] [] hp = some (.l ((rows.map (·.1)).map V.str), hp) := by
 show fnS fnKE (cx2 S0) [.v (.ref n)] [] hp = _
 have hcomp : ∀ {f : V -> Hp -> Option (Option V × Hp)}, (∀ p : Row, f (rowP p) hp = some (keG (rowP p), hp)) -> zbf f (len rows + 1) (.live l 0) hp = some ((rows.map (·.1)).map V.str, hp) := by
  intro f H
  rw [← zop]
  refine zb6 h2 _ _ 0 rfl (by rw [zag]; simp) fun x hx => ?_
  obtain ⟨p, _, rfl⟩ := List.mem_map.mp hx
  exact H p
 have hfit : fits (len rows) = true := zah (by rw [zag]; omega)
 simp only [fnS, fnKE, fnX, Nat.beq, body, zcf, zbx, xRet, hVar, Mine.h2, hAtt, same, lisA, insA, zy1, zy3, zy7, zy8, zy9, zv21, zv22, zv24, zv43, zw17, zgm2, zw23, zq5, zq16, zq21, zq45, zq49, zq50, zq53, zq54, zq57, zq58, zq68, zq69, zq79, zq80, zq81, zrg3, zfl0, zfl1, zfl2, srcC, zdu, List.append_nil, List.zip_cons_cons, List.zip_nil_left, h1, h2, len, List.zip_cons_cons, List.zip_nil_left, zao, Nat.ble]
 rw [hcomp]
 · simp only [zao, hfit, zy1, zy3, zw4, zw26, Nat.beq, Nat.ble]
 · intro p
   simp only [rowP, hVar, zy1, zy7, zy8, zy10, zy13, zv1, zv32, zq5, zq35, zq55, zq56, zq57, zq58, zq70, zq71, zcp, bindC, keG, Nat.beq, Nat.ble]
theorem zfi : ∀ {s : List Nat}, okc okN s = true -> okc okN (low s) = true
 | [], _ => rfl
 | c :: r, h => by
  simp only [okc] at h
  split at h
  · rename_i q
    have : okN (lowc c) = true := by
     unfold lowc
     split
     · rename_i q1
       split
       · rename_i q2
         have q1 := Nat.le_of_ble_eq_true q1
         have q2 := Nat.le_of_ble_eq_true q2
         unfold okN
         have e1 : Nat.ble 32 (c + 32) = true := Nat.ble_eq_true_of_le (by omega)
         have e2 : Nat.ble (c + 32) 126 = true := Nat.ble_eq_true_of_le (by omega)
         rw [e1]
         exact e2
       · exact q
     · exact q
    show okc okN (lowc c :: low r) = true
    simp only [okc, this]
    exact zfi h
  · cases h
theorem zno : ∀ rows : List Row, pls (rows.map rowP) = true
 | [] => rfl
 | p :: r => by simp only [List.map_cons, rowP, pls, pl, plas, pla]; exact zno r
theorem zuh {nme val : List Nat} {rows : List Row} {hp : Hp} {n l : Nat} (h1 : nth hp n = some (.inst 277 [(65, .ref l)])) (h2 : nth hp l = some (.list (rows.map rowP))) (hn : okc okN nme = true) (hv : okc okN val = true) (hl : rows.length ≤ 65536) (hvl : fits (len val) = true) :
 SL 274 [.v (.ref n), .v (.str nme), .v (.str val)] [] hp = some (.v .none, upd hp l (.list ((rows ++ [(nme, val)]).map rowP))) := by
 have e0 : SL 274 = addS := rfl
 rw [e0]
 have hfit : fits (len (rows.map rowP)) = true := by rw [zao]; exact zah (by rw [zag]; omega)
 rw [add_eq h1 rfl rfl hn hv h2 (zno rows) hfit hvl, List.map_append]
 rfl
end
end Mine
end
noncomputable section
namespace Mine
section
open PySem PySem.W PyProof.Rows
noncomputable def ah1 : FS :=
 .asg [.name 78 199008199013] (.list [] 199016199018) 199008199018
noncomputable def ah2 : FS :=
 .ife (.cmp .IsNot (.var 79 200011200017) (.none 200025200029) 200011200029) [
  .asg [.name 79 201012201018] (.mcall (.var 22 201021201025) 68 [.var 79 201047201053] [67] [.fls 201060201065] [201055201065] 201021201046 201021201066) 201012201066,
  .ex (.mcall (.var 78 202012202017) 0 [.var 79 202025202031] [] [] [] 202012202024 202012202032) 202012202032] [] 200008202032
noncomputable def ahLb : List FS := [
 .asg [.name 21 204012204013] (.mcall (.var 22 204016204020) 68 [.var 21 204042204043] [67] [.tru 204050204054] [204045204054] 204016204041 204016204055) 204012204055,
 .ife (.cmp .Is (.var 66 205015205016) (.none 205020205024) 205015205024) [
  .ex (.mcall (.var 78 206016206021) 0 [.mcall (.var 21 206029206030) 7 [.str "_" [95] 206039206042, .str "-" [45] 206044206047] [] [] [] 206029206038 206029206048] [] [] [] 206016206028 206016206049) 206016206049] [
  .asg [.name 66 208016208017] (.mcall (.var 22 208020208024) 68 [.var 66 208046208047] [67] [.fls 208054208059] [208049208059] 208020208045 208020208060) 208016208060,
  .ex (.mcall (.var 78 209016209021) 0 [.call (.glo 80 209029209041) [.mcall (.var 21 209042209043) 7 [.str "_" [95] 209052209055, .str "-" [45] 209057209060] [] [] [] 209042209051 209042209061, .var 66 209063209064] [] [] [] 209029209065] [] [] [] 209016209028 209016209066) 209016209066] 205012209066]
noncomputable def ah3 : FS :=
 .ex (.mcall (.att (.var 22 210008210012) 65 210008210021) 0 [.tup [.mcall (.var 22 210030210034) 68 [.var 81 210056210061] [67] [.tru 210068210072] [210063210072] 210030210055 210030210073, .mcall (.str "; " [59, 32] 210075210079) 6 [.var 78 210085210090] [] [] [] 210075210084 210075210091] 210029210092] [] [] [] 210008210028 210008210093) 210008210093
theorem zqi {hp : Hp} {l : Nat} {o o' x : O} (h : nth hp l = some o') : upd (hp ++ [x]) l o = upd hp l o ++ [x] := by
 revert l
 induction hp with
 | nil => intro l h; cases h
 | cons a r ih =>
  intro l h
  cases l with
  | zero => rfl
  | succ k => exact congrArg (a :: ·) (ih h)
theorem add_run {n l D : Nat} {d : List (Nat × V)} {xs : List V} {nme val : List Nat} {hp : Hp} (h1 : nth hp n = some (.inst 277 d)) (h2 : look d 65 = some (.ref l)) (h8 : look d 68 = none) (h3 : nth hp l = some (.list xs)) (h4 : okc okN nme = true) (h5 : okc okN val = true) (h6 : fits (len xs) = true) (h7 : fits (len val) = true) :
 zvm (cx2 S1) ah1 ah2 ah3 ([22, 81, 79, 15].zip [.ref n, .str nme, .str val, .top D]) hp = some (.v .none, upd hp l (.list (xs ++ [.tup [.str nme, .str val]])) ++ [.list [.str val]]) ∧
 ∀ y, exs (cx2 S1) [ah1, ah2] ([22, 81, 79, 15].zip [.ref n, .str nme, .str val, .top D]) hp = some (.next, y) -> look y.1 15 = some (.top D) := by
 have e2 : exs (cx2 S1) [ah1, ah2] ([22, 81, 79, 15].zip [.ref n, .str nme, .str val, .top D]) hp = some (.next, [(22, .ref n), (81, .str nme), (79, .str val), (15, .top D), (78, .ref (len hp))], hp ++ [.list [.str val]]) := by
  have n0 : ∀ a : O, nth (hp ++ [a]) n = some (.inst 277 d) := fun a => zai _ h1
  have n2 : ∀ a : O, nth (hp ++ [a]) (len hp) = some a := fun a => zkw hp a
  have u0 : ∀ a c : O, upd (hp ++ [a]) (len hp) c = hp ++ [c] := fun a c => by have := zi2 hp [a] 0 c; simpa [upd] using this
  have f0 : fits 0 = true := rfl
  have cv := zjc (b := false) h5 n (hp ++ [.list []])
  simp only [ah1, ah2, ze2_, Mine.h2, bnot, zbx, xAsg, xEx, xIfe, goN, hVar, kCmp, tCmp, hLst, hArg, zau, zal, zaz, lisA, zy1, zy3, zy7, zy8, zy9, zy12, zy16, zy17, zv21, zv24, zv25, zv34, zv35, zv36, zv39, zv40, zv65, zw1, zw12, zgm2, zgS, zq0, zq2, zq5, zq12, zq18, zq22, zq23, zq29, zq39, zq40, zq42, zq49, zq50, zq51, zq52, zq53, zq57, zq58, zq68, zq69, zq70, zq71, zq82, List.nil_append, List.zip_cons_cons, List.zip_nil_left, ze2_, List.zip_cons_cons, List.zip_nil_left, Nat.beq, n0, n2, u0, cv, h8, List.nil_append, f0, Nat.ble]
 refine ⟨?_, fun y e => ?_⟩
 · show bd (exs (cx2 S1) [ah1, ah2] _ hp) _ = _
   rw [e2]
   show body (cx2 S1) [ah3] _ _ = _
   have n0 : ∀ a : O, nth (hp ++ [a]) n = some (.inst 277 d) := fun a => zai _ h1
   have n3 : ∀ a : O, nth (hp ++ [a]) l = some (.list xs) := fun a => zai _ h3
   have n2 : ∀ a : O, nth (hp ++ [a]) (len hp) = some a := fun a => zkw hp a
   have u0 : ∀ a c : O, upd (hp ++ [a]) l c = upd hp l c ++ [a] := fun a c => zqi h3
   have ja : zf6 [.str val] = some [val] := rfl
   have jj : zce [59, 32] [val] = val := rfl
   have f0 : fits (len [val]) = true := rfl
   have cv := zjc (b := true) h4 n (hp ++ [.list [.str val]])
   simp only [body, ah3, zbx, xEx, hVar, Mine.h2, hTup, hAtt, hArg, zau, zal, same, lisA, insA, zy1, zy3, zy7, zy8, zy12, zy16, zy17, zv21, zv22, zv24, zv34, zv35, zv36, zv37, zv39, zv40, zv41, zv43, zv65, zw1, zgm2, zgS, zw25, zq1, zq4, zq5, zq13, zq16, zq18, zq22, zq23, zq40, zq49, zq50, zq53, zq54, zq57, zq58, zq68, zq69, zu7, zu11, List.zip_cons_cons, List.zip_nil_left, Nat.beq, n0, n2, n3, u0, cv, h8, h2, h6, List.nil_append, List.zip_cons_cons, List.zip_nil_left, ja, jj, h7, f0, Nat.ble]
 · rw [← (Prod.mk.inj (prf (e2.symm.trans e))).2]; rfl
end
end Mine
end
noncomputable section
namespace Mine
section
open PySem PySem.W PyProof.Rows PySem.Calls
section
variable {ρ ρ₂ : Rho} {h h₂ : Heap}
theorem VR.two (e : Ext ρ ρ₂) (x : V) : ∀ v v₂, VR ρ h x v -> VR ρ₂ h₂ x v₂ -> VR ρ h₂ x v₂ :=
 V.rec (motive_1 := fun x => ∀ v v₂, VR ρ h x v -> VR ρ₂ h₂ x v₂ -> VR ρ h₂ x v₂) (motive_2 := fun xs => ∀ vs vs₂, VRs ρ h xs vs -> VRs ρ₂ h₂ xs vs₂ -> VRs ρ h₂ xs vs₂)
  (fun _ _ _ H => H) (fun _ _ _ _ H => H) (fun _ _ _ _ H => H) (fun _ _ _ _ H => H)
  (fun _ ih _ _ ⟨_, vs, _, _, _, hx, _⟩ ⟨a2, vs2, n2, q, ho2, hx2, hl2⟩ => ⟨a2, vs2, n2, q, ho2, ih vs vs2 hx hx2, hl2⟩)
  (fun _ _ _ ⟨a, r, hn, _⟩ ⟨_, _, hn2, q⟩ => ⟨a, r, hn, q.trans (congrArg Value.ref (List.cons.inj (prf (hn2.symm.trans (e _ _ hn)))).1)⟩) (fun _ _ _ _ H => H) (fun _ _ _ _ H => H) (fun _ _ _ _ _ _ H => H)
  (fun _ _ _ H => H) (fun _ _ i1 i2 _ _ ⟨v, t, _, hx, hr⟩ ⟨v2, t2, q, hx2, hr2⟩ => ⟨v2, t2, q, i1 v v2 hx hx2, i2 t t2 hr hr2⟩) x
theorem VRs.two (e : Ext ρ ρ₂) {xs : List V} : ∀ {vs vs₂ : List Value}, VRs ρ h xs vs -> VRs ρ₂ h₂ xs vs₂ -> VRs ρ h₂ xs vs₂ := by
 induction xs with
 | nil => exact fun _ H => H
 | cons x r ih => exact fun ⟨v, t, _, hx, hr⟩ ⟨v2, t2, q, hx2, hr2⟩ => ⟨v2, t2, q, VR.two e x v v2 hx hx2, ih hr hr2⟩
theorem DE.two {Ω : Bx} (e : Ext ρ ρ₂) {d : List (Nat × V)} : ∀ {es es₂ : List DictEntry}, DE Ω ρ h d es -> DE Ω ρ₂ h₂ d es₂ -> DE Ω ρ h₂ d es₂ := by
 induction d with
 | nil => exact fun _ H => H
 | cons p d ih => exact fun ⟨_, _, _, _, _, h3, h4⟩ ⟨a2, r2, q, g1, g2, g3, g4⟩ => ⟨a2, r2, q, g1, g2, VR.two e _ _ _ h3 g3, ih h4 g4⟩
theorem OR.two {Ω : Bx} (e : Ext ρ ρ₂) {o : O} {ea : List Addr} (I : OR Ω ρ h o ea) (H : OR Ω ρ₂ h₂ o ea) : OR Ω ρ h₂ o ea := by
 cases o with
 | list xs =>
  obtain ⟨_, _, _, _, _, hv, _⟩ := I
  obtain ⟨a2, vs2, n2, he, ho2, hv2, hl2⟩ := H
  exact ⟨a2, vs2, n2, he, ho2, VRs.two e hv hv2, hl2⟩
 | inst c d =>
  obtain ⟨_, _, _, _, _, _, _, h3, _⟩ := I
  obtain ⟨a2, b2, es2, n2, he, g1, g2, g3, g4⟩ := H
  exact ⟨a2, b2, es2, n2, he, g1, g2, DE.two e h3 g3, g4⟩
 | dict es => exact H.elim
end
section
variable {Ω : Bx} {ρ ρ₀ : Rho} {hp : Hp} {s s₀ : Shared}
theorem nth_upd {hp : Hp} : ∀ {l n : Nat} {o q : O}, nth (upd hp l o) n = some q -> (n = l /\ q = o) ∨ (n ≠ l /\ nth hp n = some q) := by
 induction hp with
 | nil => intro l n o q h; cases l <;> cases h
 | cons a r ih =>
  intro l n o q h
  cases l with
  | zero =>
   cases n with
   | zero => cases h; exact .inl ⟨rfl, rfl⟩
   | succ n => exact .inr ⟨by simp, h⟩
  | succ l =>
   cases n with
   | zero => exact .inr ⟨by simp, h⟩
   | succ n =>
    rcases ih (l := l) (n := n) h with ⟨h1, h2⟩ | ⟨h1, h2⟩
    · exact .inl ⟨by rw [h1], h2⟩
    · exact .inr ⟨by simpa using h1, h2⟩
theorem zpe (H : HS Ω ρ hp s) (G : Go [] ρ₀ s₀ ρ s) {l : Nat} {o : O} {junk : Hp} (ho : oPl o = true) {Q : Value -> Shared -> Prop} (hQ : Post Ω ρ₀ s₀ (.v .none) (upd hp l o) Q) : Post Ω ρ s (.v .none) (upd hp l o ++ junk) Q := by
 intro ρ2 s2 v H2 G2 R2
 have out : ∀ b o, s₀.heap.get? b = some o -> b ∉ ρ₀.flatten -> b ∉ ρ.flatten := by
  intro b o hbo hn hm
  obtain ⟨nw, hnw, hfr⟩ := G.ext
  rw [hnw, List.flatten_append, List.mem_append] at hm
  rcases hm with hm | hm
  · exact hn hm
  · rw [hfr b hm] at hbo; cases hbo
 have H3 : HS Ω ρ (upd hp l o) s2 := by
  refine ⟨H2.base, H.fresh, H.nodup, (zhc _ _ _).trans H.len, fun n q e q1 q2 => ?_, H2.gens⟩
  have h2 := H2.obj n q e (zai junk q1) (G2.Ext _ _ q2)
  rcases nth_upd q1 with ⟨rfl, rfl⟩ | ⟨hne, hq⟩
  · exact zrs ho h2
  · exact OR.two G2.Ext (H.obj n q e hq q2) h2
 have G3 : Go [] ρ₀ s₀ ρ s2 := by
  refine ⟨G.ext, fun b o h1 h2 _ => G2.keep b o (G.keep b o h1 h2 (by simp)) (out b o h1 h2) (by simp), fun b o h1 h2 => G2.imm b o (G.imm b o h1 h2) h2, fun b o h1 => ?_, fun g st h1 => G2.gens g st (G.gens g st h1), G2.os.trans G.os⟩
  obtain ⟨o', h2⟩ := G.grow b o h1
  exact G2.grow b o' h2
 exact hQ ρ s2 v H3 G3 R2
end
noncomputable section
variable {prog : Program} {w : World} {h₀ : Heap} {Wk : WkT} {P : Params}
noncomputable def zms (x y z k : Str) (p q r t : Pos) : Arguments := { posonlyargs := [], args := [{ arg := x, annotation := none, pos := p }, { arg := y, annotation := none, pos := q }, { arg := z, annotation := none, pos := r }], vararg := none, kwonlyargs := [], kw_defaults := [], kwarg := some { arg := k, annotation := none, pos := t }, defaults := [] }
theorem k305 (P : Params) : (K2 P).lookup 305 = some (obF P 305 fnSU) := by kernel_rfl
theorem zt0 {s : Shared} (hs : 1 < s.heap.objs.size) (us : List Value) (h3 : us.length = 3) {n2 : List Stmt} {n3 : Scope} : ∃ D h' tk ep, (∀ (A' : Around) (E' : Value -> Shared -> Prop) (Q : List (Str × Value) -> Shared -> Prop), Q ((([22, 81, 79] ++ [15] : List Nat).map nm).zip (us ++ [.ref D])) { s with heap := h', toks := tk } -> wpAny (model prog w) A' (bindArgs (fnA P 274 n2 n3) ⟨us, []⟩) Q E' s) ∧
 (∀ b o, s.heap.get? b = some o -> h'.get? b = some o) /\ s.heap.get? D = none /\ (D == sysModules) = false /\ h'.DictAt (strKind prog w) D [] ep := by
 have hp : (fdA P 274).params = zms "self" "_name" "_value" "_params" ⟨198, 19, 198, 23⟩ ⟨198, 25, 198, 30⟩ ⟨198, 32, 198, 38⟩ ⟨198, 42, 198, 49⟩ := by kernel_rfl
 have hd : (fdA P 274).defaults = .none := by kernel_rfl
 have hk : (fdA P 274).kwdefaults = .none := by kernel_rfl
 have hps : ([22, 81, 79] ++ [15] : List Nat).map nm = [Str.ofString "self", Str.ofString "_name", Str.ofString "_value", Str.ofString "_params"] := by kernel_rfl
 refine ⟨s.heap.objs.size, s.heap.push { cls := .type "dict", data := .dict #[] }, s.toks, 0, fun A' E' Q q => ?_, fun b o => Heap.get?_push_of_some _, ?_, ?_, ?_⟩
 · rw [hps] at q
   unfold fnA
   rw [hp, hd, hk]
   generalize (fdA P 274).name = n0
   generalize (fdA P 274).qualname = n1
   generalize (fdA P 274).code = n4
   generalize (fdA P 274).closureTuple = n5
   generalize (fdA P 274).doc = n6
   generalize (fdA P 274).pyModule = n7
   generalize (fdA P 274).annotations = n8
   match us, h3 with
   | [a, b, c], _ =>
    have e : bindArgs (fnOf n0 n1 (zms "self" "_name" "_value" "_params" ⟨198, 19, 198, 23⟩ ⟨198, 25, 198, 30⟩ ⟨198, 32, 198, 38⟩ ⟨198, 42, 198, 49⟩) n2 n3 .none .none n6 n7 n8 n4 n5) ⟨[a, b, c], []⟩ = (alloc { cls := .type "dict", data := .dict #[] } >>= fun d => pure [(Str.ofString "self", a), (Str.ofString "_name", b), (Str.ofString "_value", c), (Str.ofString "_params", .ref d)]) := by rfl
    rw [e]
    exact wpAny_bind (wpAny_alloc (wpAny_pure q))
 · cases z : s.heap.get? s.heap.objs.size with
   | none => rfl
   | some o => exact absurd (Heap.lt_size z) (Nat.lt_irrefl _)
 · have : s.heap.objs.size ≠ sysModules := fun z => by rw [z] at hs; exact absurd hs (by decide)
   simpa using this
 · exact ⟨_, #[], Heap.get?_push_size _ rfl, ⟨rfl, rfl, rfl⟩, rfl, fun e he => by simp at he, .nil, List.nodup_nil⟩
end
end
end Mine
end
noncomputable section
namespace Mine
section
open PySem PySem.W PyProof.Rows PySem.Calls
noncomputable section
noncomputable abbrev fnG (P : Params) : FuncData := fnA P 119 (zc8 nm 75) (scG nm gsc)
theorem okGn (P : Params) {prog : Program} {w : World} {h₀ : Heap} {W : WkT} : GnOk (K2 P) (OmL prog w h₀ W) 75 119 := by
 refine ⟨⟨(obA P 119).cls, (obA P 119).dict, (obA P 119).slots, _, _, _, _, _, _, _, _, _, _, (show (K2 P).lookup 119 = some ⟨(obA P 119).cls, (obA P 119).dict, .func (fnG P), (obA P 119).slots⟩ from by kernel_rfl), by kernel_rfl, fun s u X => ?_⟩, by kernel_rfl⟩
 refine BindsTo.of_eq ?_
 kernel_rfl
end
end
end Mine
end
noncomputable section
namespace Mine
section
open PySem PySem.W PyProof.Rows PySem.Calls
noncomputable section
theorem Rm.low {d e : Nat} {A : Around} (R : Rm d A) (h : e ≤ d) : Rm e A := ⟨R.hd, by have := R.dp; omega, by have := R.un; omega⟩
theorem zlv (d : Nat) : ∀ A, Rm d A -> A.handled = none /\ A.units + 70 < cLine := fun A R => ⟨R.hd, by have := R.un; omega⟩
noncomputable abbrev O0 (prog : Program) (w : World) (h₀ : Heap) : Bx := OmL prog w h₀ (fun _ _ _ _ _ => False)
noncomputable abbrev OG (prog : Program) (w : World) (h₀ : Heap) : Bx := OmL prog w h₀ (WkG (O0 prog w h₀) 75)
section
variable {prog : Program} {w : World} {h₀ : Heap} {P : Params}
variable (X : (K2 P).In h₀) (lim : h₀.NoLimit) (top : ∃ mg mb, h₀.Ns mainGlobals mg /\ h₀.Ns builtinsNs mb /\ ∀ x : Str, x ≠ "__name__" -> mb x = bootBuiltins x)
include X lim top
theorem wk2 (d : Nat) : Wk0 (OG prog w h₀) (Rm (d + 2)) :=
 wk0 (Ω := O0 prog w h₀) (mkCT (tb2 X lim top S0) (zlv d) (fun _ h => h.elim) (fun f => fun _ _ _ _ _ e _ _ _ => nomatch e)) lim (by rw [zds]; decide) rfl
theorem ct0 : CT (OG prog w h₀) (cx2 S0) (Rm 2) := mkCT (tb2 X lim top S0) (zlv 2) (wk2 X lim top 0) (fun f => fun _ _ _ _ _ e _ _ _ => nomatch e)
theorem fn0 {fn : Fn} {f : Addr} (F : FnOk (K2 P) (OG prog w h₀) fn f) : SumS (OG prog w h₀) (Rm 3) f (fnS fn (cx2 S0)) :=
 fun hA H G hb _ e Rs hl hQ => zo8 (ct0 X lim top) X lim F hA H G hb e Rs hl hQ
omit X lim top in
theorem zke {Ω : Bx} {cx : Cx} {RmP : Around -> Prop} (I : ∀ f, SumS Ω RmP f (cx.S f)) (f : Addr) : zt1 Ω cx RmP f := fun hA H G hb hk e Rs hl hQ => I f hA H G hb hk e Rs hl hQ
theorem sum1 (f : Addr) : SumS (OG prog w h₀) (Rm 3) f (S1 f) := by
 intro ρ₀ ρ hp s₀ s A E Q r as ks vs kvs hA H G hb hk e Rs hl hQ
 unfold S1 at e
 split at e
 · rename_i q; cases zam q
   exact fn0 X lim top (okLR P) hA H G hb hk e Rs hl hQ
 · split at e
   · rename_i q; cases zam q
     exact fn0 X lim top (okIL P) hA H G hb hk e Rs hl hQ
   · split at e
     · rename_i q; cases zam q
       exact gen_sum (Ω := O0 prog w h₀) ⟨zun, fun x hx => (zuo x hx).1⟩ X lim (by rw [show (O0 prog w h₀).nms.length = 140 from rfl]; decide) (okGn P) (hA.low (by decide)) H G e Rs hl hQ
     · split at e
       · rename_i q; cases zam q
         exact fn0 X lim top (okCV P) hA H G hb hk e Rs hl hQ
       · cases e
theorem ct1 : CT (OG prog w h₀) (cx2 S1) (Rm 3) := mkCT (tb2 X lim top S1) (zlv 3) (wk2 X lim top 1) (zke (sum1 X lim top))
theorem fn1 {fn : Fn} {f : Addr} (F : FnOk (K2 P) (OG prog w h₀) fn f) : SumS (OG prog w h₀) (Rm 4) f (fnS fn (cx2 S1)) :=
 fun hA H G hb _ e Rs hl hQ => zo8 (ct1 X lim top) X lim F hA H G hb e Rs hl hQ
theorem sum2 (f : Addr) : SumS (OG prog w h₀) (Rm 4) f (S2 f) := by
 intro ρ₀ ρ hp s₀ s A E Q r as ks vs kvs hA H G hb hk e Rs hl hQ
 unfold S2 at e
 split at e
 · rename_i q; cases zam q
   exact fn1 X lim top (okSQ P) hA H G hb hk e Rs hl hQ
 · exact sum1 X lim top f (hA.low (by decide)) H G hb hk e Rs hl hQ
theorem ct2 : CT (OG prog w h₀) (cx2 S2) (Rm 4) := mkCT (tb2 X lim top S2) (zlv 4) (wk2 X lim top 2) (zke (sum2 X lim top))
theorem fn2 {fn : Fn} {f : Addr} (F : FnOk (K2 P) (OG prog w h₀) fn f) : SumS (OG prog w h₀) (Rm 5) f (fnS fn (cx2 S2)) :=
 fun hA H G hb _ e Rs hl hQ => zo8 (ct2 X lim top) X lim F hA H G hb e Rs hl hQ
theorem clsW : SumS (OG prog w h₀) (Rm 4) 100 (clsS 100 fnW (cx2 S0)) :=
 fun hA H G hb _ e Rs hl hQ => zpo (ct0 X lim top) X lim (okW P) (by kernel_rfl) (by kernel_rfl) (by kernel_rfl) (by kernel_rfl) hA H G hb e Rs hl hQ
theorem clsH : SumS (OG prog w h₀) (Rm 5) 277 (clsS 277 fnHI (cx2 S1)) :=
 fun hA H G hb _ e Rs hl hQ => zpo (ct1 X lim top) X lim (okHI P) (by kernel_rfl) (by kernel_rfl) (by kernel_rfl) (by kernel_rfl) hA H G hb e Rs hl hQ
omit X lim top in
theorem zrm {xs : List V} {x : V} (h1 : pls xs = true) (h : pl x = true) : pls (xs ++ [x]) = true := by
 induction xs with
 | nil => show and2 (pl x) true = true; rw [h]; rfl
 | cons y r ih =>
  obtain ⟨a, b⟩ := zab (show and2 (pl y) (pls r) = true from h1)
  show and2 (pl y) (pls (r ++ [x])) = true
  rw [a, ih b]; rfl
omit X lim top in
theorem aw_ : wS nmL.length zaj ah1 = true /\ wS nmL.length zaj ah2 = true /\ wS nmL.length zaj ah3 = true /\ fnSc nmL.length zaj [] = true := by decide +kernel
omit X lim top in
theorem zty (P : Params) : (K2 P).lookup 274 = some ⟨(obA P 274).cls, (obA P 274).dict, .func (fnA P 274 [tS nm ah1, tS nm ah2, .For (tT nm (.tup [21, 66] [203012203013, 203015203016] 203012203016)) (.Call (.Attribute (tE nm (.var 15 203020203027)) "items" (pos 203020203033)) [] [] (pos 203020203035)) (tSs nm ahLb) [] (pos 203008209066), tS nm ah3] (scM nm zaj (fdA P 274).scope.more)), (obA P 274).slots⟩ := by kernel_rfl
theorem add_sum : SumS (OG prog w h₀) (Rm 4) 274 addS := by
 intro ρ₀ ρ hp s₀ s A E Q r as ks vs kvs hA H G hb hk e Rs hl hQ
 have XS : (K2 P).In s.heap := fun a o q => H.base a o (X a o q)
 obtain ⟨h0, e⟩ := zae e
 obtain ⟨p, h1, e⟩ := bd_t e
 obtain ⟨n, h2, e⟩ := bd_t e
 obtain ⟨nme, h3, e⟩ := bd_t e
 obtain ⟨val, h4, e⟩ := bd_t e
 obtain ⟨cd, h5, e⟩ := bd_t e
 obtain ⟨h68, e⟩ := zae e
 obtain ⟨q1, e⟩ := zae e
 obtain ⟨lv, h65, e⟩ := bd_t e
 obtain ⟨l, hlv, e⟩ := bd_t e
 obtain ⟨q3, e⟩ := zae e
 obtain ⟨q4, e⟩ := zae e
 obtain ⟨xs, hxs, e⟩ := bd_t e
 obtain ⟨p1, e⟩ := zae e
 obtain ⟨p2, e⟩ := zae e
 obtain ⟨p3, e⟩ := zae e
 rw [← prf e] at hQ
 refine ⟨keeps_K (by kernel_rfl) s.heap XS, zg8 (G := fun ks kvs => wpAny (OG prog w h₀).M A (call (.ref 274) vs ((ks.map fun p => nmOf (OG prog w h₀) p.1).zip kvs)) Q E s) h0 Rs hl fun R2 => ?_⟩
 rw [a3_t h1, rR_t h2, rS_t h3, rS_t h4] at R2
 obtain ⟨v0, t0, e0, a1, v1, t1, e1, a2, v2, t2, e2, a3, e3⟩ := R2
 rw [e3] at e2; rw [e2] at e1; rw [e1] at e0
 rw [hl, a3_t h1] at *
 have hV : VRs ρ s.heap [.ref n, .str nme, .str val] vs := e0 ▸ VRs.cons a1 (VRs.cons a2 (VRs.cons a3 VRs.nil))
 have hz : 1 < s.heap.objs.size := Nat.lt_trans (by decide) (Heap.lt_size (XS _ _ (k305 P)))
 obtain ⟨o, g1, g2⟩ := bd_t hxs
 have hn := zk8 h5
 rw [zam q1] at hn
 exact wpAny_call (ztz (Ω := OG prog w h₀) (p1 := ah1) (p2 := ah2) (p3 := ah3) (pn := [22, 81, 79]) (xd := 15) (sc := zaj) (mr := (fdA P 274).scope.more)
  (ct1 X lim top) hA X lim (zty P) (by kernel_rfl) aw_.1 aw_.2.1 aw_.2.2.1 (by kernel_rfl) (by decide) ⟨aw_.2.2.2, by decide, by decide⟩ H (Go.refl [] ρ s) (zt0 hz vs (hV.len)) hV (fun D => add_run hn (h65.trans (congrArg some (vR_t hlv))) (zjm h68) (g1.trans (congrArg some (oL_t g2))) q3 q4 p2 p3)
  (zpe H G (o := .list (xs ++ [.tup [.str nme, .str val]])) (zrm p1 rfl) hQ))
theorem sumL (f : Addr) : SumS (OG prog w h₀) (Rm 5) f (SL f) := by
 intro ρ₀ ρ hp s₀ s A E Q r as ks vs kvs hA H G hb hk e Rs hl hQ
 have hA4 : Rm 4 A := hA.low (by decide)
 have hA3 : Rm 3 A := hA.low (by decide)
 unfold SL at e
 by_cases q : f = 100
 · rw [if_pos q] at e; subst q; exact zc2 (clsW X lim top) hA4 H G hb hk e Rs hl hQ
 rw [if_neg q] at e
 by_cases q : f = 97
 · rw [if_pos q] at e; subst q; exact zc2 (fn1 X lim top (okNL P)) hA4 H G hb hk e Rs hl hQ
 rw [if_neg q] at e
 by_cases q : f = 112
 · rw [if_pos q] at e; subst q; exact zc2 (fn0 X lim top (okPF P)) hA3 H G hb hk e Rs hl hQ
 rw [if_neg q] at e
 by_cases q : f = 133
 · rw [if_pos q] at e; subst q; exact zc2 (fn2 X lim top (okCP P)) hA H G hb hk e Rs hl hQ
 rw [if_neg q] at e
 by_cases q : f = 277
 · rw [if_pos q] at e; subst q; exact clsH X lim top hA H G hb hk e Rs hl hQ
 rw [if_neg q] at e
 by_cases q : f = 274
 · rw [if_pos q] at e; subst q; exact add_sum X lim top hA4 H G hb hk e Rs hl hQ
 rw [if_neg q] at e
 by_cases q : f = 216
 · rw [if_pos q] at e; subst q; exact fn1 X lim top (okGA P) hA4 H G hb hk e Rs hl hQ
 rw [if_neg q] at e
 by_cases q : f = 229
 · rw [if_pos q] at e; subst q; exact fn0 X lim top (okKE P) hA3 H G hb hk e Rs hl hQ
 rw [if_neg q] at e
 by_cases q : f = 288
 · rw [if_pos q] at e; subst q; exact zc2 (fn0 X lim top (okDI P)) hA3 H G hb hk e Rs hl hQ
 rw [if_neg q] at e
 by_cases q : f = 295
 · rw [if_pos q] at e; subst q; exact zc2 (fn0 X lim top (okCO P)) hA3 H G hb hk e Rs hl hQ
 rw [if_neg q] at e
 by_cases q : f = 300
 · rw [if_pos q] at e; subst q; exact zc2 (fn0 X lim top (okWO P)) hA3 H G hb hk e Rs hl hQ
 rw [if_neg q] at e
 by_cases q : f = 305
 · rw [if_pos q] at e; subst q; exact zc2 (fn0 X lim top (okSU P)) hA3 H G hb hk e Rs hl hQ
 rw [if_neg q] at e
 cases e
theorem ctL : CT (OG prog w h₀) cxL (Rm 5) := mkCT (tb2 X lim top SL) (zlv 5) (wk2 X lim top 3) (zke (sumL X lim top))
end
end
end
end Mine
end
noncomputable section
namespace Mine
section
open PySem
noncomputable def l1 : FS := .asg [.name 96 231004231009] (.comp (.bin .Add (.var 52 231013231018) (.call (.glo 97 231021231024) [.sli (.var 98 231025231031) (some (.var 21 231032231033)) none (some (.int 5 231035231036)) 231032231036 231025231037] [] [] [] 231021231038) 231013231038) [21, 52] [231043231044, 231046231051] 231043231051 (.call (.glo 20 231055231064) [.list [.int 61 231066231068, .int 235 231070231073, .int 115 231075231078, .int 137 231080231083, .int 39 231085231087] 231065231088] [] [] [] 231055231089) [] [(14, 0), (21, 0), (52, 0), (97, 4), (98, 2)] 231012231090) 231004231090
noncomputable def l2 : FS := .asg [.tup [99, 100] [232004232010, 232012232015] 232004232015] (.call (.glo 101 232018232029) [.sub (.var 96 232030232035) (.int 4 232036232037) 232030232038, .list [.int 4 232041232042, .int 26 232044232046] 232040232047] [] [] [] 232018232048) 232004232048
noncomputable def l3 : FS := .asg [.name 102 233004233009] (.bin .Add (.str "  \t" [32, 32, 9] 233012233018) (.sub (.list [.str "" [] 233022233024, .str " " [32] 233026233029, .str "  " [32, 32] 233031233035, .str "\t" [9] 233037233041] 233021233042) (.var 99 233043233049) 233021233050) 233012233050) 233004233050
noncomputable def l4 : FS := .asg [.name 49 234004234009] (.list [.str "OPTIMIZED" [79, 80, 84, 73, 77, 73, 90, 69, 68] 234013234024, .str "NEWLOCALS" [78, 69, 87, 76, 79, 67, 65, 76, 83] 234026234037, .str "VARARGS" [86, 65, 82, 65, 82, 71, 83] 234039234048, .str "VARKEYWORDS" [86, 65, 82, 75, 69, 89, 87, 79, 82, 68, 83] 234050234063, .str "NESTED" [78, 69, 83, 84, 69, 68] 234065234073, .str "GENERATOR" [71, 69, 78, 69, 82, 65, 84, 79, 82] 234075234086, .str "NOFREE" [78, 79, 70, 82, 69, 69] 234088234096, .str "COROUTINE" [67, 79, 82, 79, 85, 84, 73, 78, 69] 234098234109] 234012234110) 234004234110
noncomputable def l5 : FS := .asg [.name 49 235004235009] (.bin .Add (.bin .Add (.var 49 235012235017) (.list [.str "ITERABLE_COROUTINE" [73, 84, 69, 82, 65, 66, 76, 69, 95, 67, 79, 82, 79, 85, 84, 73, 78, 69] 235021235041, .str "ASYNC_GENERATOR" [65, 83, 89, 78, 67, 95, 71, 69, 78, 69, 82, 65, 84, 79, 82] 235043235060] 235020235061) 235012235061) (.comp (.call (.glo 51 235065235068) [.bin .Pow (.int 2 235069235070) (.var 21 235074235075) 235069235075] [] [] [] 235065235076) [21] [0] 235081235082 (.call (.glo 40 235086235091) [.int 10 235092235094, .int 32 235096235098] [] [] [] 235086235099) [] [(14, 0), (21, 0), (51, 4)] 235064235100) 235012235100) 235004235100
noncomputable def l6 : FS := .asg [.tup [103, 104] [236004236009, 236011236016] 236004236016] (.tup [.sli (.var 49 236020236025) (some (.var 100 236026236029)) (some (.bin .Add (.var 100 236030236033) (.int 3 236036236037) 236030236037)) none 236026236037 236020236038, .sli (.var 49 236040236045) (some (.bin .Add (.var 100 236046236049) (.int 3 236052236053) 236046236053)) (some (.bin .Add (.var 100 236054236057) (.int 7 236060236061) 236054236061)) none 236046236061 236040236062] 236019236063) 236004236063
noncomputable def l7 : FS := .asg [.tup [105, 106] [237004237009, 237011237017] 237004237017] (.tup [.call (.glo 27 237021237031) [.bin .Add (.var 102 237032237037) (.str "x" [120] 237040237043) 237032237043] [] [] [] 237021237044, .comp (.call (.glo 107 237047237058) [.var 102 237059237064, .var 91 237066237070] [] [] [] 237047237071) [91] [0] 237076237080 (.call (.glo 40 237084237089) [.int 1 237090237091, .int 5 237093237094] [] [] [] 237084237095) [] [(14, 0), (91, 0), (107, 4), (102, 2)] 237046237096] 237020237097) 237004237097
noncomputable def l8 : FS := .asg [.tup [108, 109, 110] [238004238012, 238014238021, 238023238027] 238004238027] (.tup [.list [] 238031238033, .list [] 238035238037, .str "()" [40, 41] 238039238043] 238030238044) 238004238044
noncomputable def l9_1 : FS := .asg [.tup [111, 112, 113, 114] [240008240013, 240015240021, 240023240027, 240029240033] 240008240033] (.call (.glo 101 240036240047) [.sub (.var 96 240048240053) (.var 21 240054240055) 240048240056, .list [.int 4 240059240060, .int 2 240062240063, .int 6 240065240066, .int 6 240068240069] 240058240070] [] [] [] 240036240071) 240008240071
noncomputable def l9_2 : FS := .asg [.name 90 241008241012] (.bin .Add (.bin .Add (.sub (.list [.str "" [] 241016241018, .str "\t" [9] 241020241024, .str " \t" [32, 9] 241026241031, .str "  \t" [32, 32, 9] 241033241039] 241015241040) (.var 111 241041241046) 241015241047) (.bin .Mult (.str "\t" [9] 241050241054) (.var 112 241057241063) 241050241063) 241015241063) (.sub (.list [.str "" [] 241067241069, .str " " [32] 241071241074, .str "   " [32, 32, 32] 241076241081, .str "\t" [9] 241083241087, .str " \t" [32, 9] 241089241094, .str "   \t" [32, 32, 32, 9] 241096241103] 241066241104) (.var 113 241105241109) 241066241110) 241015241110) 241008241110
noncomputable def l9_3 : FS := .asg [.name 115 242008242012] (.ife (.cmp .In (.var 113 242020242024) (.tup [.int 2 242029242030, .int 5 242032242033] 242028242034) 242020242034) (.int 4 242015242016) (.int 3 242040242041) 242015242041) 242008242041
noncomputable def l9_4 : FS := .asg [.name 116 243008243015] (.comp (.tup [.var 91 243020243024, .sub (.var 106 243026243032) (.bin .Sub (.var 91 243033243037) (.int 1 243040243041) 243033243041) 243026243042, .call (.glo 107 243044243055) [.var 90 243056243060, .var 91 243062243066] [] [] [] 243044243067] 243019243068) [91] [0] 243073243077 (.call (.glo 40 243081243086) [.int 1 243087243088, .bin .Add (.var 115 243090243094) (.int 1 243097243098) 243090243098] [] [] [] 243081243099) [] [(14, 0), (91, 0), (107, 4), (106, 2), (90, 2)] 243018243100) 243008243100
noncomputable def l9_5 : FS := .asg [.name 117 244008244012] (.mcall (.var 105 244015244020) 118 [.call (.glo 27 244038244048) [.bin .Add (.var 90 244049244053) (.str "x\t" [120, 9] 244056244061) 244049244061] [] [] [] 244038244062] [] [] [] 244015244037 244015244063) 244008244063
noncomputable def l9_6 : FS := .ife (.cmp .NotEq (.var 117 245011245015) (.comp (.var 95 245020245023) [95] [0] 245028245031 (.var 116 245035245042) [.cmp .GtE (.sub (.var 95 245046245049) (.int 1 245050245051) 245046245052) (.sub (.var 95 245056245059) (.int 2 245060245061) 245056245062) 245046245062] [(14, 0), (95, 0)] 245019245063) 245011245063) [
 .ret (.fls 246019246024) 246012246024] [] 245008246024
noncomputable def l9_7 : FS := .ex (.mcall (.var 108 247008247016) 0 [.call (.glo 97 247024247027) [.comp (.bin .Pow (.int 2 247029247030) (.bin .Sub (.sub (.var 95 247035247038) (.int 0 247039247040) 247035247041) (.int 1 247044247045) 247035247045) 247029247046) [95] [0] 247051247054 (.var 117 247058247062) [.cmp .Lt (.sub (.var 95 247066247069) (.int 0 247070247071) 247066247072) (.int 4 247075247076) 247066247076] [(14, 0), (95, 0)] 247028247077] [] [] [] 247024247078] [] [] [] 247008247023 247008247079) 247008247079
noncomputable def l9_8 : FS := .asg [.name 119 248008248013] (.int 0 248016248017) 248008248017
noncomputable def zii : FS := .asg [.name 122 250012250017] (.sub (.list [.str "" [] 250021250023, .str "\\(" [92, 40] 250025250030, .str "\\)" [92, 41] 250032250037, .str "\\\\" [92, 92] 250039250045, .str "\")\"" [34, 41, 34] 250047250052, .str "\"\\\"(\"" [34, 92, 34, 40, 34] 250054250062] 250020250063) (.bin .Mod (.bin .Add (.var 114 250065250069) (.var 91 250072250076) 250065250076) (.int 6 250080250081) 250064250081) 250020250082) 250012250082
noncomputable def zeo : FS := .asg [.name 123 251012251016] (.bin .Add (.bin .Add (.bin .Add (.bin .Add (.bin .Mult (.str "(" [40] 251019251022) (.bin .Add (.int 1 251026251027) (.call (.glo 37 251030251033) [.int 0 251034251035, .bin .Sub (.var 120 251037251040) (.var 121 251043251047) 251037251047] [] [] [] 251030251048) 251026251048) 251019251049) (.var 122 251052251057) 251019251057) (.bin .Mult (.str ")" [41] 251060251063) (.bin .Add (.int 1 251067251068) (.call (.glo 124 251071251074) [.bin .Sub (.var 120 251075251078) (.var 121 251081251085) 251075251085] [] [] [] 251071251086) 251067251086) 251060251087) 251019251087) (.bin .Mult (.str "(" [40] 251090251093) (.call (.glo 37 251096251099) [.int 0 251100251101, .bin .Sub (.var 121 251103251107) (.var 120 251110251113) 251103251113] [] [] [] 251096251114) 251090251114) 251019251114) (.str "()" [40, 41] 251117251121) 251019251121) 251012251121
noncomputable def zfs : FS := .ife (.cmp .Is (.call (.glo 125 252015252033) [.var 123 252034252038] [] [] [] 252015252039) (.tru 252043252047) 252015252047) [
 .asg [.tup [119, 110] [253016253021, 253023253027] 253016253027] (.tup [.bin .Add (.var 119 253031253036) (.bin .Pow (.int 2 253039253040) (.bin .Sub (.var 91 253045253049) (.int 1 253052253053) 253045253053) 253039253054) 253031253054, .var 123 253056253060] 253030253061) 253016253061] [] 252012253061
noncomputable def zsk : List FS := [zii, zeo, zfs]
noncomputable def l9_9 : FS := .for_ (.tup [91, 120, 121] [249012249016, 249018249021, 249023249027] 249012249027) (.sli (.var 116 249031249038) none (some (.int 3 249040249041)) none 249039249041 249031249042) zsk [] 249008253061
noncomputable def zsl : FS := .ex (.mcall (.var 109 254008254015) 0 [.var 119 254023254028] [] [] [] 254008254022 254008254029) 254008254029
noncomputable def l9b : List FS := [l9_1, l9_2, l9_3, l9_4, l9_5, l9_6, l9_7, l9_8, l9_9, zsl]
noncomputable def l9 : FS := .for_ (.name 21 239008239009) (.call (.glo 40 239013239018) [.int 4 239019239020] [] [] [] 239013239021) l9b [] 239004254029
noncomputable def l10 : FS := .ife (.or [.cmp .IsNot (.call (.glo 125 255007255025) [.bin .Add (.str "(" [40] 255026255029) (.var 110 255032255036) 255026255036] [] [] [] 255007255037) (.fls 255045255050) 255007255050, .cmp .IsNot (.call (.glo 125 255054255072) [.bin .Add (.var 110 255073255077) (.str ")" [41] 255080255083) 255073255083] [] [] [] 255054255084) (.fls 255092255097) 255054255097] 255007255097) [
 .ret (.fls 256015256020) 256008256020] [] 255004256020
noncomputable def l11 : FS := .asg [.name 126 257004257009] (.comp (.call (.glo 127 257013257025) [.bin .LShift (.var 93 257026257032) (.var 100 257036257039) 257026257039] [] [] [] 257013257040) [93] [0] 257045257051 (.call (.glo 40 257055257060) [.int 8 257061257062] [] [] [] 257055257063) [] [(14, 0), (93, 0), (127, 4), (100, 2)] 257012257064) 257004257064
noncomputable def l12 : FS := .ife (.cmp .NotEq (.var 126 258007258012) (.comp (.call (.glo 128 258017258027) [.var 93 258028258034, .var 103 258036258041] [] [] [] 258017258042) [93] [0] 258047258053 (.call (.glo 40 258057258062) [.int 8 258063258064] [] [] [] 258057258065) [] [(14, 0), (93, 0), (128, 4), (103, 2)] 258016258066) 258007258066) [
 .ret (.fls 259015259020) 259008259020] [] 258004259020
noncomputable def l13 : FS := .asg [.tup [129, 130, 131] [260004260010, 260012260019, 260021260025] 260004260025] (.tup [.call (.glo 132 260029260036) [] [] [] [] 260029260038, .call (.glo 132 260040260047) [] [] [] [] 260040260049, .list [] 260051260053] 260028260054) 260004260054
noncomputable def zss : FS := .asg [.name 133 262008262014] (.int 7 262017262018) 262008262018
noncomputable def zjs : FS := .ife (.cmp .Eq (.bin .Mod (.bin .FloorDiv (.var 93 264015264021) (.bin .Pow (.int 2 264025264026) (.var 21 264030264031) 264025264031) 264015264031) (.int 2 264034264035) 264015264035) (.int 1 264039264040) 264015264040) [
 .asg [.name 133 265016265022] (.bin .BitAnd (.var 133 265025265031) (.sub (.var 108 265034265042) (.var 21 265043265044) 265034265045) 265025265045) 265016265045] [] 264012265045
noncomputable def zk4 : List FS := [zjs]
noncomputable def zsr : FS := .for_ (.name 21 263012263013) (.call (.glo 40 263017263022) [.int 4 263023263024] [] [] [] 263017263025) zk4 [] 263008265045
noncomputable def zsq : FS := .asg [.name 67 266008266012] (.ife (.cmp .Eq (.bin .Mod (.var 93 266040266046) (.int 2 266049266050) 266040266050) (.int 1 266054266055) 266040266055) (.mcall (.sub (.var 126 266015266020) (.var 133 266021266027) 266015266028) 3 [] [] [] [] 266015266034 266015266036) (.sub (.var 126 266061266066) (.var 133 266067266073) 266061266074) 266015266074) 266008266074
noncomputable def zsp : FS := .ife (.cmp .IsNot (.mcall (.var 129 267011267017) 134 [.var 67 267029267033, .call (.glo 128 267035267045) [.var 93 267046267052, .var 104 267054267059] [] [] [] 267035267060] [] [] [] 267011267028 267011267061) (.none 267069267073) 267011267073) [
 .ret (.fls 268019268024) 268012268024] [] 267008268024
noncomputable def l14b : List FS := [zss, zsr, zsq, zsp]
noncomputable def l14 : FS := .for_ (.name 93 261008261014) (.call (.glo 40 261018261023) [.int 16 261024261026] [] [] [] 261018261027) l14b [] 261004268024
noncomputable def zso : FS := .asg [.name 67 270008270012] (.call (.glo 127 270015270027) [.call (.glo 97 270028270031) [.comp (.bin .Pow (.int 2 270033270034) (.bin .Add (.bin .Add (.var 100 270039270042) (.int 3 270045270046) 270039270046) (.var 21 270049270050) 270039270050) 270033270051) [21] [0] 270056270057 (.call (.glo 40 270061270066) [.int 4 270067270068] [] [] [] 270061270069) [.cmp .Eq (.bin .BitAnd (.var 93 270073270079) (.sub (.var 109 270082270089) (.var 21 270090270091) 270082270092) 270073270092) (.var 93 270096270102) 270073270102] [(14, 0), (21, 0), (109, 2), (93, 2), (100, 2)] 270032270103] [] [] [] 270028270104] [] [] [] 270015270105) 270008270105
noncomputable def zsn : FS := .ex (.mcall (.var 131 271008271012) 0 [.ife (.cmp .Eq (.bin .Mod (.var 93 271036271042) (.int 2 271045271046) 271036271046) (.int 1 271050271051) 271036271051) (.mcall (.var 67 271020271024) 3 [] [] [] [] 271020271030 271020271032) (.var 67 271057271061) 271020271061] [] [] [] 271008271019 271008271062) 271008271062
noncomputable def zsm : FS := .ex (.mcall (.var 130 272008272015) 134 [.sub (.var 131 272027272031) (.neg 1 272033272034 272032272034) 272027272035, .call (.glo 128 272037272047) [.var 93 272048272054, .var 103 272056272061] [] [] [] 272037272062] [] [] [] 272008272026 272008272063) 272008272063
noncomputable def l15b : List FS := [zso, zsn, zsm]
noncomputable def l15 : FS := .for_ (.name 93 269008269014) (.call (.glo 40 269018269023) [.int 8 269024269025] [] [] [] 269018269026) l15b [] 269004272063
noncomputable def l16 : FS := .asg [.tup [135, 136] [273004273010, 273012273017] 273004273017] (.tup [.int 0 273021273022, .list [] 273024273026] 273020273027) 273004273027
noncomputable def zoi : FS := .asg [.name 94 275008275012] (.mcall (.var 129 275015275021) 137 [.mcall (.var 67 275030275034) 4 [] [] [] [] 275030275040 275030275042] [] [] [] 275015275029 275015275043) 275008275043
noncomputable def zjr : FS := .ife (.cmp .NotEq (.var 94 276011276015) (.list [] 276019276021) 276011276021) [
 .asg [.name 135 277012277018] (.bin .Add (.var 135 277021277027) (.int 1 277030277031) 277021277031) 277012277031,
 .ife (.cmp .NotEq (.sli (.mcall (.var 130 278015278022) 137 [.mcall (.sub (.var 94 278031278035) (.neg 1 278037278038 278036278038) 278031278039) 3 [] [] [] [] 278031278045 278031278047] [] [] [] 278015278030 278015278048) (some (.neg 1 278050278051 278049278051)) none none 278049278052 278015278053) (.list [.var 67 278058278062] 278057278063) 278015278063) [
  .ret (.fls 279023279028) 279016279028] [] 278012279028] [] 276008279028
noncomputable def l17b : List FS := [zoi, zjr]
noncomputable def l17 : FS := .for_ (.name 67 274008274012) (.var 126 274016274021) l17b [] 274004279028
noncomputable def l18_1 : FS := .ife (.cmp .NotIn (.mcall (.var 67 281011281015) 4 [] [] [] [] 281011281021 281011281023) (.var 136 281031281036) 281011281036) [
 .ex (.mcall (.var 136 282012282017) 0 [.mcall (.var 67 282025282029) 4 [] [] [] [] 282025282035 282025282037] [] [] [] 282012282024 282012282038) 282012282038] [] 281008282038
noncomputable def l18b : List FS := [l18_1]
noncomputable def l18 : FS := .for_ (.name 67 280008280012) (.var 131 280016280020) l18b [] 280004282038
noncomputable def l19 : FS := .ife (.or [.cmp .NotEq (.mcall (.var 130 283007283014) 138 [] [] [] [] 283007283019 283007283021) (.var 131 283025283029) 283007283029, .cmp .NotEq (.var 135 283033283039) (.call (.glo 32 283043283046) [.var 136 283047283052] [] [] [] 283043283053) 283033283053] 283007283053) [
 .ret (.fls 284015284020) 284008284020] [] 283004284020
noncomputable def l20 : FS := .ret (.cmp .Eq (.call (.glo 139 285011285023) [.mcall (.var 129 285024285030) 137 [.str "0X0" [48, 88, 48] 285039285044] [] [] [] 285024285038 285024285045] [] [] [] 285011285046) (.call (.glo 139 285050285062) [.mcall (.var 130 285063285070) 137 [.str "0x0" [48, 120, 48] 285079285084] [] [] [] 285063285078 285063285085] [] [] [] 285050285086) 285011285086) 285004285086
theorem ztc : ztd = [l1, l2, l3, l4, l5, l6, l7, l8, l9, l10, l11, l12, l13, l14, l15, l16, l17, l18, l19, l20] := rfl
end
end Mine
end
noncomputable section
namespace Mine
section
open PySem PySem.W PyProof.Rows
theorem zlr {b z : Nat} (hb : b < 4) (hz : z < 4) (hp : Hp) : SL 295 [.v (.str (zac b)), .v (.int (.ofNat (z + 1)))] [] hp = some (.v (.int (.ofNat (colN (z + 1) (zac b) 0))), hp) := by
 have e0 : SL 295 = subS (fnS fnCO (cx2 S0)) := rfl
 rw [e0]
 exact ze0 (as := [.str (zac b), .int (.ofNat (z + 1))]) (isI_t (zad (zad col_lim b hb) z hz)) rfl rfl hp
theorem zja {f m k z : Nat} (hf : f < 4) (hm : m < 2) (hk : k < 6) (hz : z < 4) (hp : Hp) : SL 295 [.v (.str (zaf f m k)), .v (.int (.ofNat (z + 1)))] [] hp = some (.v (.int (.ofNat (colN (z + 1) (zaf f m k) 0))), hp) := by
 have e0 : SL 295 = subS (fnS fnCO (cx2 S0)) := rfl
 rw [e0]
 exact ze0 (as := [.str (zaf f m k), .int (.ofNat (z + 1))]) (isI_t (zad (zad (zad (zad zti f hf) m hm) k hk) z hz)) rfl rfl hp
theorem isBo_t {x : Option (RV × Hp)} {c : Bool} (h : isBo x c = true) : ∃ h2, x = some (.v (.bool c), h2) := by
 unfold isBo at h
 split at h
 · rename_i b h2
   have : b = c := by cases b <;> cases c <;> first | rfl | cases h
   rw [this]; exact ⟨h2, rfl⟩
 · cases h
theorem ze2 {s : List Nat} {c : Bool} (h : isBo (runC s) c = true) (hp : Hp) : SL 133 [.v (.str s)] [] hp = some (.v (.bool c), hp) := by
 have e0 : SL 133 = subS (fnS fnCP (cx2 S2)) := rfl
 rw [e0]
 exact ze0 (as := [.str s]) (isBo_t h) rfl rfl hp
theorem ws_t {s : List Nat} (h : wsOk s = true) : ∃ c d r, runW s = some (.v (.ref 0), .inst c d :: r) /\ dPl d = true /\ wsO s = .inst c d := by
 unfold wsOk at h
 split at h
 · rename_i c d r q
   exact ⟨c, d, r, q, h, by unfold wsO; rw [q]⟩
 · cases h
theorem sl_ws {s : List Nat} (h : wsOk s = true) (hp : Hp) : SL 100 [.v (.str s)] [] hp = some (.v (.ref (len hp)), hp ++ [wsO s]) := by
 obtain ⟨c, d, r, h1, h2, h3⟩ := ws_t h
 have e0 : SL 100 = subS (clsS 100 fnW (cx2 S0)) := rfl
 rw [e0, h3]
 have h1' : clsS 100 fnW (cx2 S0) [.v (.str s)] [] [] = some (.v (.ref 0), .inst c d :: r) := h1
 exact zqs h1' h2
theorem sl_nlw {b f m k : Nat} (hb : b < 4) (hf : f < 4) (hm : m < 2) (hk : k < 6) {hp : Hp} {i j : Nat} (h1 : nth hp i = some (wsO (zac b ++ [120]))) (h2 : nth hp j = some (wsO (zaf f m k ++ [120, 9]))) (hne : Nat.beq j i = false) :
 SL 97 [.v (.ref i), .v (.ref j)] [] hp = some (.l (za1 (zbg b f m k)), hp) := by
 have H1 := zad (p := fun b => allN 4 fun f => allN 2 fun m => allN 6 fun k => nlOk b f m k) nl_all b hb
 have H2 := zad (p := fun f => allN 2 fun m => allN 6 fun k => nlOk b f m k) H1 f hf
 have H3 := zad (p := fun m => allN 6 fun k => nlOk b f m k) H2 m hm
 have H : nlOk b f m k = true := zad (p := fun k => nlOk b f m k) H3 k hk
 obtain ⟨c1, d1, r1, _, p1, o1⟩ := ws_t (zad (p := fun b => wsOk (zac b ++ [120])) zt4 b hb)
 have W1 := zad (p := fun f => allN 2 fun m => allN 6 fun k => wsOk (zaf f m k ++ [120, 9])) zml f hf
 have W2 := zad (p := fun m => allN 6 fun k => wsOk (zaf f m k ++ [120, 9])) W1 m hm
 have W : wsOk (zaf f m k ++ [120, 9]) = true := zad (p := fun k => wsOk (zaf f m k ++ [120, 9])) W2 k hk
 obtain ⟨c2, d2, r2, _, p2, o2⟩ := ws_t W
 have e0 : SL 97 = subS (fnS fnNL (cx2 S1)) := rfl
 rw [e0]
 obtain ⟨r, q⟩ := nlChk_t H
 clear H H1 H2 H3 W W1 W2
 have hr : pls (za1 (zbg b f m k)) = true := by
  generalize zbg b f m k = l
  induction l with
  | nil => rfl
  | cons p r ih => simp only [za1, rowV, pls, pl, plas, pla, ih]
 generalize za1 (zbg b f m k) = rows at *
 have u1 := zdz h1
 have u2 := zdz h2
 have hin : isIn i [j] = false := by
  simp only [isIn, hne]
 rw [o1] at h1 u1 q
 rw [o2] at h2 u2 q
 have n1 : oPl (.inst c1 d1) = true := p1
 have n2 : oPl (.inst c2 d2) = true := p2
 exact zwi hin h1 h2 n1 n2 q u1 u2 hr
end
end Mine
end
noncomputable section
namespace Mine
section
open PySem PySem.W PyProof.Rows
noncomputable def zc9 : List (List Nat) := [nmB 0, nmB 1, nmB 2, nmB 3, nmB 4, nmB 5, nmB 6, nmB 7, nmB 8, nmB 9, nmB 10, nmB 11, nmB 12, nmB 13, nmB 14, nmB 15, nmB 16, nmB 17, nmB 18, nmB 19, nmB 20, nmB 21, nmB 22, nmB 23, nmB 24, nmB 25, nmB 26, nmB 27, nmB 28, nmB 29, nmB 30, nmB 31]
noncomputable def zfx : List (List Nat) := [nmB 0, nmB 1, nmB 2, nmB 3, nmB 4, nmB 5, nmB 6, nmB 7]
noncomputable def szL (low : Nat) : List (List Nat) := [nmB low, nmB (low + 1), nmB (low + 2)]
noncomputable def lnL (low : Nat) : List (List Nat) := [nmB (low + 3), nmB (low + 4), nmB (low + 5), nmB (low + 6)]
noncomputable def zei (b : Nat) : List V := [.int (.ofNat (colN 1 (zac b) 0)), .int (.ofNat (colN 2 (zac b) 0)), .int (.ofNat (colN 3 (zac b) 0)), .int (.ofNat (colN 4 (zac b) 0))]
section
variable {c0 c1 c2 c3 c4 : Int} {b low : Nat}
noncomputable abbrev zcd (c0 c1 c2 c3 c4 : Int) : O := .list [.int c0, .int c1, .int c2, .int c3, .int c4]
theorem st2 (e1 : Int.fmod c4 4 = .ofNat b) (e2 : Int.fmod (Int.fdiv c4 4) 26 = .ofNat low) : ex cxL l2 [(96, .ref 0)] [zcd c0 c1 c2 c3 c4] = some (.next, [(96, .ref 0), (99, .int (.ofNat b)), (100, .int (.ofNat low))], [zcd c0 c1 c2 c3 c4]) := by
 have s := zw0 c4 [zcd c0 c1 c2 c3 c4]
 rw [e1, e2] at s
 have hi : idx (Int.ofNat 4) 5 = some 4 := rfl
 have s' : SL 288 [RV.v (V.int c4), RV.l [V.int (Int.ofNat 4), V.int (Int.ofNat 26)]] [] [zcd c0 c1 c2 c3 c4] = some (.l [.int (.ofNat b), .int (.ofNat low)], [zcd c0 c1 c2 c3 c4]) := s
 simp only [l2, xAsg, goN, hVar, hGlo, Mine.h2, kSub, hLst, hSub, hArg, zbc, zal, same, bTpl, lisA, zy1, zy7, zy8, zy9, zy12, zv21, zv24, zv31, zv45, zv67, zw13, zg101, zgS, zq3, zq5, zq6, zq12, zq14, zq17, zq22, zq23, zq39, zq51, zq52, zq53, zq54, zq55, zq56, zq57, zq58, zq70, zq71, zq75, zq77, zq78, List.zip_nil_left, Nat.beq, len, Nat.reduceAdd, hi, s', List.zip_nil_left, Nat.ble]
theorem st3 (hb : b < 4) (h : Hp) : ex cxL l3 [(96, .ref 0), (99, .int (.ofNat b)), (100, .int (.ofNat low))] h = some (.next, [(96, .ref 0), (99, .int (.ofNat b)), (100, .int (.ofNat low)), (102, .str (zac b))], h) := by
 match b, hb with
 | 0, _ => rfl
 | 1, _ => rfl
 | 2, _ => rfl
 | 3, _ => rfl
 | b + 4, h => exact absurd h (by omega)
theorem st4 (x : List Nat) (o : O) : ex cxL l4 [(96, .ref 0), (99, .int (.ofNat b)), (100, .int (.ofNat low)), (102, .str x)] [o] = some (.next, [(96, .ref 0), (99, .int (.ofNat b)), (100, .int (.ofNat low)), (102, .str x), (49, .ref 1)], [o, .list (zfx.map V.str)]) := by
 kernel_rfl
theorem st5 (x : List Nat) (o : O) : ex cxL l5 [(96, .ref 0), (99, .int (.ofNat b)), (100, .int (.ofNat low)), (102, .str x), (49, .ref 1)] [o, .list (zfx.map V.str)] = some (.next, [(96, .ref 0), (99, .int (.ofNat b)), (100, .int (.ofNat low)), (102, .str x), (49, .ref 2)], [o, .list (zfx.map V.str), .list (zc9.map V.str)]) := by
 kernel_rfl
theorem cutS : allN 26 (fun low => sVs (cut (zc9.map V.str) (bnd (.ofNat low) 32) (bnd (.ofNat (low + 3)) 32)) ((szL low).map V.str)) = true := by decide +kernel
theorem cutL : allN 26 (fun low => sVs (cut (zc9.map V.str) (bnd (.ofNat (low + 3)) 32) (bnd (.ofNat (low + 7)) 32)) ((lnL low).map V.str)) = true := by decide +kernel
theorem st6 (hl : low < 26) (x : List Nat) (o1 o2 : O) : ex cxL l6 [(96, .ref 0), (99, .int (.ofNat b)), (100, .int (.ofNat low)), (102, .str x), (49, .ref 2)] [o1, o2, .list (zc9.map V.str)] = some (.next, [(96, .ref 0), (99, .int (.ofNat b)), (100, .int (.ofNat low)), (102, .str x), (49, .ref 2), (103, .ref 3), (104, .ref 4)], [o1, o2, .list (zc9.map V.str), .list ((szL low).map V.str), .list ((lnL low).map V.str)]) := by
 have k1 := zrg (zad (p := fun low => sVs (cut (zc9.map V.str) (bnd (.ofNat low) 32) (bnd (.ofNat (low + 3)) 32)) ((szL low).map V.str)) cutS low hl)
 have k2 := zrg (zad (p := fun low => sVs (cut (zc9.map V.str) (bnd (.ofNat (low + 3)) 32) (bnd (.ofNat (low + 7)) 32)) ((lnL low).map V.str)) cutL low hl)
 have hl32 : len (zc9.map V.str) = 32 := rfl
 have a3 : (Int.ofNat low + Int.ofNat 3) = Int.ofNat (low + 3) := rfl
 have a7 : (Int.ofNat low + Int.ofNat 7) = Int.ofNat (low + 7) := rfl
 have s0 : small (Int.ofNat low) = true := zdc (by omega)
 have s3 : small (Int.ofNat (low + 3)) = true := zdc (by omega)
 have s7 : small (Int.ofNat (low + 7)) = true := zdc (by omega)
 have n1 : ∀ (a b c : O), len [a, b, c] = 3 := fun _ _ _ => rfl
 have n2 : ∀ (a b c d : O), len [a, b, c, d] = 4 := fun _ _ _ _ => rfl
 simp only [l6, xAsg, goN, hVar, Mine.h2, kBin, hBin, hTup, kSli, hSli, zal, zma, same, bTpl, lisA, zy1, zy3, zy7, zy8, zy9, zy10, zy12, zv3, zv21, zv25, zv32, zv47, zv69, zw13, zq3, zq5, zq8, zq13, zq15, zq22, zq23, zq25, zq39, zq51, zq52, zq53, zq54, zq55, zq56, zq57, zq58, zq70, zq71, zq75, zq76, List.nil_append, List.cons_append, zhs, zht, a3, a7, s0, s3, s7, hl32, k1, k2, n1, n2, List.cons_append, List.nil_append, Nat.beq, Nat.ble]
theorem limFit : allN 4 (fun b => fits (len (zac b) + len [120])) = true := by decide +kernel
theorem st7 (hb : b < 4) (hl : low < 26) (o0 o1 o2 o3 o4 : O) : ex cxL l7 [(96, .ref 0), (99, .int (.ofNat b)), (100, .int (.ofNat low)), (102, .str (zac b)), (49, .ref 2), (103, .ref 3), (104, .ref 4)] [o0, o1, o2, o3, o4] =
 some (.next, [(96, .ref 0), (99, .int (.ofNat b)), (100, .int (.ofNat low)), (102, .str (zac b)), (49, .ref 2), (103, .ref 3), (104, .ref 4), (105, .ref 5), (106, .ref 6)], [o0, o1, o2, o3, o4, wsO (zac b ++ [120]), .list (zei b)]) := by
 have w := sl_ws (zad (p := fun b => wsOk (zac b ++ [120])) zt4 b hb)
 have k : ∀ z, z < 4 -> ∀ hp, SL 295 [.v (.str (zac b)), .v (.int (.ofNat (z + 1)))] [] hp = some (.v (.int (.ofNat (colN (z + 1) (zac b) 0))), hp) := fun z hz hp => zlr hb hz hp
 have k1 := k 0 (by omega)
 have k2 := k 1 (by omega)
 have k3 := k 2 (by omega)
 have k4 := k 3 (by omega)
 have hf : fits (len (zac b) + len [120]) = true := zad (p := fun b => fits (len (zac b) + len [120])) limFit b hb
 have hr : srcR (Int.ofNat 1) (Int.ofNat 5) 1 = some (.items [.int (.ofNat (0 + 1)), .int (.ofNat (1 + 1)), .int (.ofNat (2 + 1)), .int (.ofNat (3 + 1))]) := rfl
 have hra : ran (Int.ofNat 1) (Int.ofNat 5) 1 = some (.v (.rng (Int.ofNat 1) (Int.ofNat 5) 1)) := rfl
 have sm1 : small (Int.ofNat 1) = true := rfl
 have sm5 : small (Int.ofNat 5) = true := rfl
 have z1 : Z.eqB 1 1 = true := rfl
 have n5 : len [o0, o1, o2, o3, o4] = 5 := rfl
 have n6 : ∀ x : O, len [o0, o1, o2, o3, o4, x] = 6 := fun _ => rfl
 have ff : fits 4 = true := rfl
 have n4 : ∀ a b c d : V, len [a, b, c, d] = 4 := fun _ _ _ _ => rfl
 simp only [l7, xAsg, goN, hVar, hGlo, Mine.h2, kBin, hBin, hTup, hArg, zbc, zal, same, bTpl, zy1, zy3, zy5, zy7, zy8, zy9, zy12, zy16, zv1, zv24, zv25, zv32, zv45, zv46, zv49, zw13, zw18, zw22, zg27, zvr, zg40, zgS, zq3, zq4, zq5, zq6, zq8, zq13, zq17, zq21, zq22, zq23, zq35, zq39, zq51, zq52, zq53, zq54, zq55, zq56, zq57, zq58, zq60, zq68, zq69, zq70, zq71, zu22, zrg2, zfl0, zfl1, zfl2, zfl3, srcC, zdu, zcp, bindC, List.nil_append, List.cons_append, List.zip_nil_left, zc0_, zc1_, zc4_, hf, w, n5, hra, hr, n4, k1, k2, k3, k4, ff, List.zip_nil_left, List.cons_append, List.nil_append, Nat.beq, n6, Nat.ble]
 rfl
theorem st8 (b low : Nat) (x : List Nat) (o0 o1 o2 o3 o4 o5 o6 : O) : ex cxL l8 [(96, .ref 0), (99, .int (.ofNat b)), (100, .int (.ofNat low)), (102, .str x), (49, .ref 2), (103, .ref 3), (104, .ref 4), (105, .ref 5), (106, .ref 6)] [o0, o1, o2, o3, o4, o5, o6] =
 some (.next, [(96, .ref 0), (99, .int (.ofNat b)), (100, .int (.ofNat low)), (102, .str x), (49, .ref 2), (103, .ref 3), (104, .ref 4), (105, .ref 5), (106, .ref 6), (108, .ref 7), (109, .ref 8), (110, .str [40, 41])], [o0, o1, o2, o3, o4, o5, o6, .list [], .list []]) := by
 kernel_rfl
end
end
end Mine
end
noncomputable section
namespace Mine
section
open PySem PySem.W PyProof.Rows
noncomputable def zbo (b f m k z : Nat) : Nat × Nat × Nat := (z, colN z (zac b) 0, colN z (zaf f m k) 0)
noncomputable def geZ (b f m k z : Nat) : Bool := Nat.ble (colN z (zaf f m k) 0) (colN z (zac b) 0)
noncomputable def za5 (b f m k : Nat) : List (Nat × Nat × Nat) := match Nat.beq (zch k) 4 with
 | true => [zbo b f m k 1, zbo b f m k 2, zbo b f m k 3, zbo b f m k 4]
 | false => [zbo b f m k 1, zbo b f m k 2, zbo b f m k 3]
noncomputable def zd5 (b f m k : Nat) : Nat := (match geZ b f m k 1 with | true => 1 | false => 0) + (match geZ b f m k 2 with | true => 2 | false => 0) + (match geZ b f m k 3 with | true => 4 | false => 0)
section
variable {fl : L} {hp : Hp} {b f m k wn : Nat}
theorem t1 {c : Int} {cs : List V} {i : Nat} (hf : Int.fmod c 4 = .ofNat f) (hm : Int.fmod (Int.fdiv c 4) 2 = .ofNat m) (hk : Int.fmod (Int.fdiv (Int.fdiv c 4) 2) 6 = .ofNat k) (hw : Int.fmod (Int.fdiv (Int.fdiv (Int.fdiv c 4) 2) 6) 6 = .ofNat wn)
 (g96 : look fl 96 = some (.ref 0)) (g21 : look fl 21 = some (.int (.ofNat i))) (g0 : nth hp 0 = some (.list cs)) (gi : idx (.ofNat i) (len cs) = some i) (gc : nth cs i = some (.int c)) :
 ex cxL l9_1 fl hp = some (.next, put (put (put (put fl 111 (.int (.ofNat f))) 112 (.int (.ofNat m))) 113 (.int (.ofNat k))) 114 (.int (.ofNat wn)), hp) := by
 have s := zwz c hp
 rw [hf, hm, hk, hw] at s
 have s' : SL 288 [RV.v (V.int c), RV.l [V.int (Int.ofNat 4), V.int (Int.ofNat 2), V.int (Int.ofNat 6), V.int (Int.ofNat 6)]] [] hp = some (.l [.int (.ofNat f), .int (.ofNat m), .int (.ofNat k), .int (.ofNat wn)], hp) := s
 simp only [l9_1, xAsg, goN, hVar, hGlo, Mine.h2, kSub, hLst, hSub, hArg, zbc, zal, same, bTpl, lisA, zy1, zy9, zy12, zv21, zv24, zv31, zv45, zv67, zw13, zg101, zgS, zq3, zq5, zq6, zq12, zq14, zq17, zq22, zq23, zq39, zq51, zq52, zq53, zq54, zq55, zq56, List.zip_nil_left, Nat.beq, g96, g21, g0, gi, gc, s', List.zip_nil_left, Nat.ble]
theorem subF (hf : f < 4) : zes (.l [V.str [], V.str [9], V.str [32, 9], V.str [32, 32, 9]]) (.v (.int (.ofNat f))) hp = some (.v (.str (pick frT f))) := by
 match f, hf with
 | 0, _ => rfl
 | 1, _ => rfl
 | 2, _ => rfl
 | 3, _ => rfl
 | f + 4, h => exact absurd h (by omega)
theorem subB (hk : k < 6) : zes (.l [V.str [], V.str [32], V.str [32, 32, 32], V.str [9], V.str [32, 9], V.str [32, 32, 32, 9]]) (.v (.int (.ofNat k))) hp = some (.v (.str (pick bkT k))) := by
 match k, hk with
 | 0, _ => rfl
 | 1, _ => rfl
 | 2, _ => rfl
 | 3, _ => rfl
 | 4, _ => rfl
 | 5, _ => rfl
 | k + 6, h => exact absurd h (by omega)
theorem leadFit : allN 4 (fun f => allN 2 fun m => allN 6 fun k => Nat.ble (len (pick frT f) + len (repN [9] m) + len (pick bkT k)) 100) = true := by decide +kernel
theorem t2 (hf : f < 4) (hm : m < 2) (hk : k < 6) (g111 : look fl 111 = some (.int (.ofNat f))) (g112 : look fl 112 = some (.int (.ofNat m))) (g113 : look fl 113 = some (.int (.ofNat k))) :
 ex cxL l9_2 fl hp = some (.next, put fl 90 (.str (zaf f m k)), hp) := by
 have H := Nat.le_of_ble_eq_true (zad (p := fun k => Nat.ble (len (pick frT f) + len (repN [9] m) + len (pick bkT k)) 100) (zad (p := fun m => allN 6 fun k => Nat.ble (len (pick frT f) + len (repN [9] m) + len (pick bkT k)) 100) (zad (p := fun f => allN 2 fun m => allN 6 fun k => Nat.ble (len (pick frT f) + len (repN [9] m) + len (pick bkT k)) 100) leadFit f hf) m hm) k hk)
 have f1 : fits (len (pick frT f) + len (repN [9] m)) = true := zah (by omega)
 have f2 : fits (len (pick frT f ++ repN [9] m) + len (pick bkT k)) = true := zah (by rw [zbr]; omega)
 have f3 : fits m = true := zah (by omega)
 have f4 : fits (len [9] * m) = true := zah (by show 1 * m ≤ _; omega)
 simp only [l9_2, xAsg, goN, hVar, Mine.h2, kBin, kSub, hBin, hLst, hSub, zal, same, zaz, zy1, zy3, zy5, zy9, zy12, zv24, zv49, zv50, zv51, zw12, zq4, zq5, zq8, zq12, zq14, zq22, zq23, zq39, zq51, zq52, zq53, zq54, g111, g112, g113, subF hf, subB hk, f1, f2, f3, f4, Nat.beq, Nat.ble]
 rfl
theorem t3 (hk : k < 6) (g113 : look fl 113 = some (.int (.ofNat k))) : ex cxL l9_3 fl hp = some (.next, put fl 115 (.int (.ofNat (zch k))), hp) := by
 match k, hk with
 | 0, _ => simp only [l9_3, xAsg, goN, hVar, Mine.h2, kCmp, tCmp, hIfe, hTup, zal, zaz, zy1, zy6, zy9, zy12, zv24, zw12, zq3, zq5, zq11, zq13, zq22, zq23, zq29, zq39, zq51, zq52, zq53, zq54, zd7_, g113, inR, plas, vin, Z.eqB, Nat.beq, Nat.ble]; rfl
 | 1, _ => simp only [l9_3, xAsg, goN, hVar, Mine.h2, kCmp, tCmp, hIfe, hTup, zal, zaz, zy1, zy6, zy9, zy12, zv24, zw12, zq3, zq5, zq11, zq13, zq22, zq23, zq29, zq39, zq51, zq52, zq53, zq54, zd7_, g113, inR, plas, vin, Z.eqB, Nat.beq, Nat.ble]; rfl
 | 2, _ => simp only [l9_3, xAsg, goN, hVar, Mine.h2, kCmp, tCmp, hIfe, hTup, zal, zaz, zy1, zy6, zy9, zy12, zv24, zw12, zq3, zq5, zq11, zq13, zq22, zq23, zq29, zq39, zq51, zq52, zq53, zq54, zd7_, g113, inR, plas, vin, Z.eqB, Nat.beq, Nat.ble]; rfl
 | 3, _ => simp only [l9_3, xAsg, goN, hVar, Mine.h2, kCmp, tCmp, hIfe, hTup, zal, zaz, zy1, zy6, zy9, zy12, zv24, zw12, zq3, zq5, zq11, zq13, zq22, zq23, zq29, zq39, zq51, zq52, zq53, zq54, zd7_, g113, inR, plas, vin, Z.eqB, Nat.beq, Nat.ble]; rfl
 | 4, _ => simp only [l9_3, xAsg, goN, hVar, Mine.h2, kCmp, tCmp, hIfe, hTup, zal, zaz, zy1, zy6, zy9, zy12, zv24, zw12, zq3, zq5, zq11, zq13, zq22, zq23, zq29, zq39, zq51, zq52, zq53, zq54, zd7_, g113, inR, plas, vin, Z.eqB, Nat.beq, Nat.ble]; rfl
 | 5, _ => simp only [l9_3, xAsg, goN, hVar, Mine.h2, kCmp, tCmp, hIfe, hTup, zal, zaz, zy1, zy6, zy9, zy12, zv24, zw12, zq3, zq5, zq11, zq13, zq22, zq23, zq29, zq39, zq51, zq52, zq53, zq54, zd7_, g113, inR, plas, vin, Z.eqB, Nat.beq, Nat.ble]; rfl
 | k + 6, h => exact absurd h (by omega)
theorem t4 (hb : b < 4) (hf : f < 4) (hm : m < 2) (hk : k < 6) (g115 : look fl 115 = some (.int (.ofNat (zch k)))) (g106 : look fl 106 = some (.ref 6)) (g90 : look fl 90 = some (.str (zaf f m k))) (g6 : nth hp 6 = some (.list (zei b))) :
 ex cxL l9_4 fl hp = some (.next, put fl 116 (.ref (len hp)), hp ++ [.list (za1 (za5 b f m k))]) := by
 have c : ∀ z, z < 4 -> ∀ hp, SL 295 [.v (.str (zaf f m k)), .v (.int (.ofNat (z + 1)))] [] hp = some (.v (.int (.ofNat (colN (z + 1) (zaf f m k) 0))), hp) := fun z hz hp => zja hf hm hk hz hp
 have c1 := c 0 (by omega)
 have c2 := c 1 (by omega)
 have c3 := c 2 (by omega)
 have c4 := c 3 (by omega)
 have sm1 : small (Int.ofNat 1) = true := rfl
 have sm4 : small (Int.ofNat 4) = true := rfl
 have sm5 : small (Int.ofNat 5) = true := rfl
 have z1 : Z.eqB 1 1 = true := rfl
 have a4 : Int.ofNat 4 + Int.ofNat 1 = Int.ofNat 5 := rfl
 have a3 : Int.ofNat 3 + Int.ofNat 1 = Int.ofNat 4 := rfl
 have r4 : srcR (Int.ofNat 1) (Int.ofNat 5) 1 = some (.items [.int (.ofNat (0 + 1)), .int (.ofNat (1 + 1)), .int (.ofNat (2 + 1)), .int (.ofNat (3 + 1))]) := rfl
 have ra4 : ran (Int.ofNat 1) (Int.ofNat 5) 1 = some (.v (.rng (Int.ofNat 1) (Int.ofNat 5) 1)) := rfl
 have ra3 : ran (Int.ofNat 1) (Int.ofNat 4) 1 = some (.v (.rng (Int.ofNat 1) (Int.ofNat 4) 1)) := rfl
 have r3 : srcR (Int.ofNat 1) (Int.ofNat 4) 1 = some (.items [.int (.ofNat (0 + 1)), .int (.ofNat (1 + 1)), .int (.ofNat (2 + 1))]) := rfl
 have n4 : ∀ a b c d : V, len [a, b, c, d] = 4 := fun _ _ _ _ => rfl
 have n3 : ∀ a b c : V, len [a, b, c] = 3 := fun _ _ _ => rfl
 have i0 : idx (Int.ofNat (0 + 1) - Int.ofNat 1) (len (zei b)) = some 0 := rfl
 have e0 : nth (zei b) 0 = some (.int (.ofNat (colN 1 (zac b) 0))) := rfl
 have i1 : idx (Int.ofNat (1 + 1) - Int.ofNat 1) (len (zei b)) = some 1 := rfl
 have e1 : nth (zei b) 1 = some (.int (.ofNat (colN 2 (zac b) 0))) := rfl
 have i2 : idx (Int.ofNat (2 + 1) - Int.ofNat 1) (len (zei b)) = some 2 := rfl
 have e2 : nth (zei b) 2 = some (.int (.ofNat (colN 3 (zac b) 0))) := rfl
 have i3 : idx (Int.ofNat (3 + 1) - Int.ofNat 1) (len (zei b)) = some 3 := rfl
 have e3 : nth (zei b) 3 = some (.int (.ofNat (colN 4 (zac b) 0))) := rfl
 have f4 : fits 4 = true := rfl
 have f3 : fits 3 = true := rfl
 have hmost : zch k = 4 ∨ zch k = 3 := by
  unfold zch
  split
  · exact .inl rfl
  · split
    · exact .inl rfl
    · exact .inr rfl
 rcases hmost with e | e
 · have ea : za5 b f m k = [zbo b f m k 1, zbo b f m k 2, zbo b f m k 3, zbo b f m k 4] := by unfold za5; rw [e]
   rw [ea]
   rw [e] at g115
   simp only [l9_4, xAsg, goN, hVar, hGlo, Mine.h2, kBin, kSub, hBin, hTup, hSub, hArg, zbc, zal, same, zaz, zaa, lisA, Nat.reduceEqDiff, if_true, if_false, zy1, zy3, zy5, zy7, zy8, zy9, zy12, zy16, zv1, zv21, zv24, zv25, zv45, zv46, zv47, zv48, zv67, zw12, zw18, zw22, zvr, zg40, zgS, zq3, zq5, zq6, zq8, zq13, zq14, zq17, zq21, zq22, zq23, zq35, zq39, zq51, zq52, zq53, zq54, zq60, zq68, zq69, zu22, zrg2, zfl3, srcC, zdu, zcp, bindC, List.zip_nil_left, zc0_, zc1_, zc4_, zlf_, g115, g106, g90, a4, r4, ra4, n4, c1, c2, c3, c4, g6, i0, i1, i2, i3, e0, e1, e2, e3, f4, List.zip_nil_left, Nat.beq, za1, Nat.ble]
   rfl
 · have ea : za5 b f m k = [zbo b f m k 1, zbo b f m k 2, zbo b f m k 3] := by unfold za5; rw [e]
   rw [ea]
   rw [e] at g115
   simp only [l9_4, xAsg, goN, hVar, hGlo, Mine.h2, kBin, kSub, hBin, hTup, hSub, hArg, zbc, zal, same, zaz, zaa, lisA, Nat.reduceEqDiff, if_true, if_false, zy1, zy3, zy5, zy7, zy8, zy9, zy12, zy16, zv1, zv21, zv24, zv25, zv45, zv46, zv47, zv48, zv67, zw12, zw18, zw22, zvr, zg40, zgS, zq3, zq5, zq6, zq8, zq13, zq14, zq17, zq21, zq22, zq23, zq35, zq39, zq51, zq52, zq53, zq54, zq60, zq68, zq69, zu22, zrg2, zfl3, srcC, zdu, zcp, bindC, List.zip_nil_left, zc0_, zc1_, zc4_, zlf_, g115, g106, g90, a3, r3, ra3, n3, c1, c2, c3, g6, i0, i1, i2, e0, e1, e2, f3, List.zip_nil_left, Nat.beq, za1, Nat.ble]
   rfl
end
end
end Mine
end
noncomputable section
namespace Mine
section
open PySem PySem.W PyProof.Rows
noncomputable def wsK (s : List Nat) : Bool := match wsO s with | .inst 100 d => (match look d 118 with | none => true | some _ => false) | _ => false
theorem wsK_t {s : List Nat} (h : wsK s = true) : ∃ d, wsO s = .inst 100 d /\ look d 118 = none := by
 unfold wsK at h
 split at h
 · rename_i d q
   split at h
   · rename_i q2; exact ⟨d, q, q2⟩
   · cases h
 · cases h
theorem zvu : allN 4 (fun b => wsK (zac b ++ [120])) = true := by decide +kernel
theorem zsg : allN 4 (fun f => allN 2 fun m => allN 6 fun k => fits (len (zaf f m k) + len [120, 9])) = true := by decide +kernel
noncomputable def ge3 (p : Nat × Nat × Nat) : Bool := Nat.ble p.2.2 p.2.1
theorem zjo (k : Nat) : zch k = 4 ∨ zch k = 3 := by
 unfold zch
 split
 · exact .inl rfl
 · split
   · exact .inl rfl
   · exact .inr rfl
theorem zg0 (b f m k : Nat) : zbg b f m k = (za5 b f m k).filter ge3 := by
 unfold zbg za5
 rcases zjo k with e | e <;> rw [e]
 · simp only [zh6, Nat.beq, List.filter, ge3, zbo]
   cases Nat.ble (colN 1 (zaf f m k) 0) (colN 1 (zac b) 0) <;> cases Nat.ble (colN 2 (zaf f m k) 0) (colN 2 (zac b) 0) <;> cases Nat.ble (colN 3 (zaf f m k) 0) (colN 3 (zac b) 0) <;> cases Nat.ble (colN 4 (zaf f m k) 0) (colN 4 (zac b) 0) <;> rfl
 · simp only [zh6, Nat.beq, List.filter, ge3, zbo]
   cases Nat.ble (colN 1 (zaf f m k) 0) (colN 1 (zac b) 0) <;> cases Nat.ble (colN 2 (zaf f m k) 0) (colN 2 (zac b) 0) <;> cases Nat.ble (colN 3 (zaf f m k) 0) (colN 3 (zac b) 0) <;> rfl
noncomputable def geG : V -> Option V := fun v => match v with
 | .tup [a, .int (.ofNat x), .int (.ofNat y)] => (match Nat.ble y x with | true => some (.tup [a, .int (.ofNat x), .int (.ofNat y)]) | false => none)
 | _ => none
theorem zo6 : ∀ l : List (Nat × Nat × Nat), (za1 l).filterMap geG = za1 (l.filter ge3)
 | [] => rfl
 | p :: r => by
  have ih := zo6 r
  simp only [za1, List.filterMap_cons, rowV, geG, List.filter_cons, ge3]
  rcases Bool.eq_false_or_eq_true (Nat.ble p.2.2 p.2.1) with h | h
  · simp only [h, ih, if_true, za1, rowV]
  · simp only [h, ih, Bool.false_eq_true, if_false]
theorem zd3 : ∀ l : List (Nat × Nat × Nat), za1 l = l.map rowV
 | [] => rfl
 | p :: r => by rw [za1, zd3 r]; rfl
theorem zrn (l : List (Nat × Nat × Nat)) : pls (za1 l) = true := by
 induction l with
 | nil => rfl
 | cons p r ih => simp only [za1, rowV, pls, pl, plas, pla, ih]
theorem zho (x : Int) : Z.eqB x x = true := (Z.eqB_iff _ _).mpr rfl
theorem zqf (l : List (Nat × Nat × Nat)) : vEs (za1 l) (za1 l) = true := by
 induction l with
 | nil => rfl
 | cons p r ih =>
  show cs (cs (Z.eqB (.ofNat p.1) (.ofNat p.1)) (cs (Z.eqB (.ofNat p.2.1) (.ofNat p.2.1)) (cs (Z.eqB (.ofNat p.2.2) (.ofNat p.2.2)) true false) false) false) (vEs (za1 r) (za1 r)) false = true
  rw [zho, zho, zho, ih]; rfl
section
variable {fl : L} {hp : Hp} {b f m k wn : Nat}
theorem t5 (hb : b < 4) (hf : f < 4) (hm : m < 2) (hk : k < 6) (g105 : look fl 105 = some (.ref 5)) (g90 : look fl 90 = some (.str (zaf f m k))) (g5 : nth hp 5 = some (wsO (zac b ++ [120]))) :
 ex cxL l9_5 fl hp = some (.next, put fl 117 (.ref (len hp + 1)), hp ++ [wsO (zaf f m k ++ [120, 9]), .list (za1 (zbg b f m k))]) := by
 obtain ⟨d, o1, o2⟩ := wsK_t (zad (p := fun b => wsK (zac b ++ [120])) zvu b hb)
 have W1 := zad (p := fun f => allN 2 fun m => allN 6 fun k => wsOk (zaf f m k ++ [120, 9])) zml f hf
 have W2 := zad (p := fun m => allN 6 fun k => wsOk (zaf f m k ++ [120, 9])) W1 m hm
 have W : wsOk (zaf f m k ++ [120, 9]) = true := zad (p := fun k => wsOk (zaf f m k ++ [120, 9])) W2 k hk
 have w := sl_ws W hp
 have F1 := zad (p := fun f => allN 2 fun m => allN 6 fun k => fits (len (zaf f m k) + len [120, 9])) zsg f hf
 have F2 := zad (p := fun m => allN 6 fun k => fits (len (zaf f m k) + len [120, 9])) F1 m hm
 have ff : fits (len (zaf f m k) + len [120, 9]) = true := zad (p := fun k => fits (len (zaf f m k) + len [120, 9])) F2 k hk
 have g5' : nth (hp ++ [wsO (zaf f m k ++ [120, 9])]) 5 = some (wsO (zac b ++ [120])) := zai _ g5
 have n1 := zb8 hp (wsO (zaf f m k ++ [120, 9]))
 have hne : Nat.beq (len hp) 5 = false := by
  cases q : Nat.beq (len hp) 5 with
  | false => rfl
  | true =>
   have := zam q
   have h2 := zdk g5
   rw [← zag, this] at h2
   omega
 have nl := sl_nlw hb hf hm hk g5' n1 hne
 rw [o1] at g5
 have l1 : ∀ a : O, len (hp ++ [a]) = len hp + 1 := fun a => by rw [zbr]; rfl
 simp only [l9_5, xAsg, goN, hVar, hGlo, Mine.h2, kBin, hBin, hArg, zbc, zau, zal, same, zaz, zy1, zy3, zy5, zy7, zy8, zy9, zy12, zy17, zv24, zv25, zv34, zv35, zv39, zv45, zv49, zw12, zg27, zgm1, zgS, zq4, zq5, zq6, zq8, zq17, zq18, zq22, zq23, zq39, zq51, zq52, zq68, zq69, List.nil_append, List.cons_append, List.zip_nil_left, g105, g90, g5, o2, ff, w, nl, Nat.beq, List.zip_nil_left, l1, List.append_assoc, List.cons_append, List.nil_append, Nat.ble]
theorem t6 {r1 r2 : Nat} (g116 : look fl 116 = some (.ref r1)) (g117 : look fl 117 = some (.ref r2)) (n1 : nth hp r1 = some (.list (za1 (za5 b f m k)))) (n2 : nth hp r2 = some (.list (za1 (zbg b f m k)))) :
 ex cxL l9_6 fl hp = some (.next, fl, hp) := by
 have hcomp : ∀ {f' : V -> Hp -> Option (Option V × Hp)}, (∀ p, f' (rowV p) hp = some (geG (rowV p), hp)) -> zbf f' (len (za1 (za5 b f m k)) + 1) (.live r1 0) hp = some (za1 (zbg b f m k), hp) := by
  intro f' H
  rw [zg0, ← zo6]
  refine zb6 n1 _ _ 0 rfl (by rw [zag]; omega) fun x hx => ?_
  rw [zd3] at hx
  obtain ⟨p, _, rfl⟩ := List.mem_map.mp hx
  exact H p
 have hfit : fits (len (za1 (zbg b f m k))) = true := by
  apply zah
  rw [zg0, zd3, zao, zag]
  have : (za5 b f m k).length ≤ 4 := by
   unfold za5
   split <;> simp
  have := List.length_filter_le ge3 (za5 b f m k)
  omega
 simp only [l9_6, zbx, xIfe, xRet, hVar, Mine.h2, kCmp, tCmp, lisA, zy1, zy9, zv21, zw4, zw17, zw23, zq2, zq5, zq21, zq29, zq42, zq45, zq49, zq50, zrg3, srcC, zdu, g116, g117, n1, Nat.beq, Nat.ble]
 rw [hcomp]
 · simp only [hfit, lisA, zy1, zy3, zy5, zy8, zv21, zv63, zd0_, n2, zrn, zqf]
 · intro p
   simp only [rowV, hVar, Mine.h2, kCmp, kSub, tCmp, hSub, tAnd, same, zaa, if_true, zy1, zy7, zy8, zy9, zy12, zv1, zv32, zv55, zv68, zq3, zq5, zq14, zq29, zq35, zq36, zq56, zq68, zq69, zq77, zq78, zfl3, zcp, bindC, zlf_, idx, Nat.blt, Nat.ble, len, geG, Nat.beq]
   have e : Z.leB (Int.ofNat p.2.2) (Int.ofNat p.2.1) = Nat.ble p.2.2 p.2.1 := rfl
   rw [e]
   cases Nat.ble p.2.2 p.2.1 <;> rfl
end
end
end Mine
end
noncomputable section
namespace Mine
section
open PySem PySem.W PyProof.Rows
noncomputable def naG : V -> Option V := fun v => match v with
 | .tup (.int (.ofNat z) :: _) => (match Nat.blt z 4 with | true => some (.int (.ofNat (2 ^ (z - 1)))) | false => none)
 | _ => none
theorem bndFit : allN 4 (fun b => allN 4 fun f => allN 2 fun m => allN 6 fun k => allN 3 fun z => match Nat.ble (colN (z + 1) (zaf f m k) 0) (colN (z + 1) (zac b) 0) with
 | true => Nat.blt (colN (z + 1) (zac b) 0 - colN (z + 1) (zaf f m k) 0) 7
 | false => Nat.ble (colN (z + 1) (zaf f m k) 0 - colN (z + 1) (zac b) 0) 10) = true := by decide +kernel
section
variable {fl : L} {hp : Hp} {b f m k wn : Nat}
theorem zwg : ∃ l, zd9 ((za1 (zbg b f m k)).filterMap naG) = some l /\ sumI l 0 = .ofNat (zd5 b f m k) /\ l.length ≤ 4 := by
 rw [zg0]
 unfold za5 zd5 geZ
 rcases zjo k with e | e <;> rw [e]
 · simp only [Nat.beq, List.filter, ge3, zbo]
   cases Nat.ble (colN 1 (zaf f m k) 0) (colN 1 (zac b) 0) <;> cases Nat.ble (colN 2 (zaf f m k) 0) (colN 2 (zac b) 0) <;> cases Nat.ble (colN 3 (zaf f m k) 0) (colN 3 (zac b) 0) <;> cases Nat.ble (colN 4 (zaf f m k) 0) (colN 4 (zac b) 0) <;>
    exact ⟨_, rfl, rfl, by simp⟩
 · simp only [Nat.beq, List.filter, ge3, zbo]
   cases Nat.ble (colN 1 (zaf f m k) 0) (colN 1 (zac b) 0) <;> cases Nat.ble (colN 2 (zaf f m k) 0) (colN 2 (zac b) 0) <;> cases Nat.ble (colN 3 (zaf f m k) 0) (colN 3 (zac b) 0) <;>
    exact ⟨_, rfl, rfl, by simp⟩
theorem zrh {p : Nat × Nat × Nat} (h : p ∈ zbg b f m k) : p.1 = 1 ∨ p.1 = 2 ∨ p.1 = 3 ∨ p.1 = 4 := by
 rw [zg0] at h
 have h := (List.mem_filter.mp h).1
 unfold za5 at h
 split at h <;> simp only [List.mem_cons, List.not_mem_nil, or_false] at h
 · rcases h with rfl | rfl | rfl | rfl <;> simp [zbo]
 · rcases h with rfl | rfl | rfl <;> simp [zbo]
theorem t7 {r2 : Nat} {na : List V} (g117 : look fl 117 = some (.ref r2)) (g108 : look fl 108 = some (.ref 7)) (n2 : nth hp r2 = some (.list (za1 (zbg b f m k)))) (n7 : nth hp 7 = some (.list na)) (hl : na.length ≤ 100) :
 ex cxL l9_7 fl hp = some (.next, fl, upd hp 7 (.list (na ++ [.int (.ofNat (zd5 b f m k))]))) := by
 obtain ⟨l, a1, a2, a3⟩ := zwg (b := b) (f := f) (m := m) (k := k)
 have hcomp : ∀ {f' : V -> Hp -> Option (Option V × Hp)}, (∀ p : Nat × Nat × Nat, p.1 = 1 ∨ p.1 = 2 ∨ p.1 = 3 ∨ p.1 = 4 -> f' (rowV p) hp = some (naG (rowV p), hp)) -> zbf f' (len (za1 (zbg b f m k)) + 1) (.live r2 0) hp = some ((za1 (zbg b f m k)).filterMap naG, hp) := by
  intro f' H
  refine zb6 n2 _ _ 0 rfl (by rw [zag]; omega) fun x hx => ?_
  rw [zd3] at hx
  obtain ⟨p, hp', rfl⟩ := List.mem_map.mp hx
  exact H p (zrh hp')
 have hlen : len ((za1 (zbg b f m k)).filterMap naG) ≤ 4 := by
  have : ∀ {xs : List V} {l : List Int}, zd9 xs = some l -> l.length = xs.length := by
   intro xs
   induction xs with
   | nil => intro l h; cases h; rfl
   | cons x r ih =>
    intro l h
    obtain ⟨i, _, h⟩ := bd_t h
    obtain ⟨l', q, h⟩ := bd_t h
    rw [← prf h]
    exact congrArg (· + 1) (ih q)
  rw [zag, ← this a1]; exact a3
 have hfit : fits (len ((za1 (zbg b f m k)).filterMap naG)) = true := zah (by omega)
 have hfit2 : fits (len na) = true := zah (by rw [zag]; omega)
 simp only [l9_7, xEx, hVar, hGlo, hArg, zbc, zau, zal, same, lisA, zy1, zy3, zy9, zy16, zv21, zv34, zv36, zv40, zv46, zv65, zw17, zg97, zw23, zq5, zq6, zq17, zq18, zq21, zq22, zq23, zq40, zq62, zrg3, srcC, zdu, List.zip_nil_left, Nat.beq, g108, n7, g117, n2, Nat.ble]
 rw [hcomp]
 · simp only [hfit, a1, a2, n7, hfit2, List.zip_nil_left, zy1, zy3, zy12, zv21, zv24, zu14, zu25, Nat.beq, Nat.ble]
 · intro p hp'
   obtain ⟨z, x, y⟩ := p
   rcases hp' with h | h | h | h <;> (simp only at h; subst h) <;> simp only [rowV, hVar, Mine.h2, kBin, kCmp, kSub, hBin, tCmp, hSub, tAnd, same, zaa, if_true, zy1, zy7, zy8, zy9, zy12, zv32, zv48, zv52, zv68, zq3, zq5, zq8, zq14, zq29, zq35, zq36, zq56, zq68, zq69, zq77, zfl3, zcp, bindC, zlf_, idx, Nat.blt, Nat.ble, len, Z.ltB, naG, List.zip_nil_left, Nat.beq] <;> rfl
theorem t8 : ex cxL l9_8 fl hp = some (.next, put fl 119 (.int (.ofNat 0)), hp) := by
 simp only [l9_8, xAsg, goN, zaz, zy1, zy9, zy12, zv24, zw12, zq3, zq39, zq51, zq52, Nat.beq, Nat.ble]
theorem t10 {na : List V} {t : Nat} (g109 : look fl 109 = some (.ref 8)) (g119 : look fl 119 = some (.int (.ofNat t))) (n8 : nth hp 8 = some (.list na)) (hl : na.length ≤ 100) : ex cxL zsl fl hp = some (.next, fl, upd hp 8 (.list (na ++ [.int (.ofNat t)]))) := by
 have hfit2 : fits (len na) = true := zah (by rw [zag]; omega)
 simp only [zsl, xEx, hVar, hArg, zau, zal, lisA, zy1, zy3, zy12, zy16, zv21, zv24, zv34, zv36, zv40, zv65, zq5, zq18, zq22, zq23, zq40, List.zip_nil_left, g109, g119, n8, hfit2, List.zip_nil_left, Nat.beq, Nat.ble]
end
end
end Mine
end
noncomputable section
namespace Mine
section
open PySem PySem.W PyProof.Rows
noncomputable def zgn (s : List Nat) : Prop := isBo (runC ([40] ++ s)) false = true /\ isBo (runC (s ++ [41])) false = true /\ len s ≤ 100
theorem zfq {α : Type} (x : List α) : ∀ n, len (repN x n) = len x * n
 | 0 => rfl
 | n + 1 => by rw [repN, zbr, zfq x n, Nat.mul_succ, Nat.add_comm]
theorem zg5 : allN 6 (fun q => Nat.ble (len (pick zax q)) 10) = true := by decide +kernel
theorem zr8 {q d : Nat} (hq : q < 6) (hd : d < 7) : isBo (runC (zb1 q d 0)) true = true := zad (p := fun q => isBo (runC (zb1 q d 0)) true) (zad (p := fun dp => allN 6 fun q => isBo (runC (zb1 q dp 0)) true) ck_pos d hd) q hq
theorem zr9 {q d : Nat} (hq : q < 6) (hd : d < 10) : isBo (runC (zb1 q 0 (d + 1))) false = true := zad (p := fun q => isBo (runC (zb1 q 0 (d + 1))) false) (zad (p := fun dn => allN 6 fun q => isBo (runC (zb1 q 0 (dn + 1))) false) ck_neg d hd) q hq
theorem zn5 {q d : Nat} (hq : q < 6) (hd : d < 7) : isBo (runC ([40] ++ zb1 q d 0)) false = true := zad (p := fun q => isBo (runC ([40] ++ zb1 q d 0)) false) (zad (p := fun dp => allN 6 fun q => isBo (runC ([40] ++ zb1 q dp 0)) false) ck_open d hd) q hq
theorem zl2 {q d : Nat} (hq : q < 6) (hd : d < 7) : isBo (runC (zb1 q d 0 ++ [41])) false = true := zad (p := fun q => isBo (runC (zb1 q d 0 ++ [41])) false) (zad (p := fun dp => allN 6 fun q => isBo (runC (zb1 q dp 0 ++ [41])) false) ztl d hd) q hq
theorem subP {hp : Hp} {q : Nat} (hq : q < 6) : zes (.l [V.str [], V.str [92, 40], V.str [92, 41], V.str [92, 92], V.str [34, 41, 34], V.str [34, 92, 34, 40, 34]]) (.v (.int (.ofNat q))) hp = some (.v (.str (pick zax q))) := by
 match q, hq with
 | 0, _ => rfl
 | 1, _ => rfl
 | 2, _ => rfl
 | 3, _ => rfl
 | 4, _ => rfl
 | 5, _ => rfl
 | q + 6, h => exact absurd h (by omega)
section
variable {fl : L} {hp : Hp} {wn z far near t : Nat}
theorem u1 (g114 : look fl 114 = some (.int (.ofNat wn))) (g91 : look fl 91 = some (.int (.ofNat z))) : ex cxL zii fl hp = some (.next, put fl 122 (.str (pick zax ((wn + z) % 6))), hp) := by
 have e1 : Int.ofNat wn + Int.ofNat z = Int.ofNat (wn + z) := rfl
 have e2 : Int.fmod (Int.ofNat (wn + z)) (Int.ofNat 6) = Int.ofNat ((wn + z) % 6) := (Int.ofNat_fmod _ _).symm
 have hz : Z.eqB (Int.ofNat 6) 0 = false := rfl
 have hs : small (Int.ofNat 6) = true := rfl
 simp only [zii, xAsg, goN, hVar, Mine.h2, kBin, kSub, hBin, hLst, hSub, zal, same, zaz, zy1, zy3, zy5, zy9, zy12, zv24, zv47, zv64, zw12, zq3, zq4, zq5, zq8, zq12, zq14, zq22, zq23, zq39, zq51, zq52, zq53, zq54, zu30, g114, g91, e1, e2, hz, hs, subP (Nat.mod_lt (wn + z) (by omega : 6 > 0)), Nat.beq, Nat.ble]
theorem u2p {q : Nat} (hq : q < 6) (hle : near ≤ far) (hd : far - near < 7) (g120 : look fl 120 = some (.int (.ofNat far))) (g121 : look fl 121 = some (.int (.ofNat near))) (g122 : look fl 122 = some (.str (pick zax q))) :
 ex cxL zeo fl hp = some (.next, put fl 123 (.str (zb1 q (far - near) 0)), hp) := by
 have hp10 := Nat.le_of_ble_eq_true (zad (p := fun q => Nat.ble (len (pick zax q)) 10) zg5 q hq)
 have e1 : Int.ofNat far - Int.ofNat near = Int.ofNat (far - near) := (Int.ofNat_sub hle).symm
 have l1 : len [40] = 1 := rfl
 have l2 : len [41] = 1 := rfl
 have l3 : len [40, 41] = 2 := rfl
 have B1 : Z.ltB (Int.ofNat 0) (Int.ofNat 0) = false := rfl
 have f0 : fits 0 = true := rfl
 have f5 : fits (1 * 0) = true := rfl
 cases hdd : far - near with
 | zero =>
  have e2 : Int.ofNat near - Int.ofNat far = Int.ofNat 0 := by simp only [Int.ofNat_eq_natCast]; omega
  rw [hdd] at e1
  have e3 : Int.ofNat 1 + Int.ofNat 0 = Int.ofNat (1 + 0) := rfl
  have f1 : fits (1 + 0) = true := rfl
  have f2 : fits (1 * (1 + 0)) = true := rfl
  have f3 : fits (1 * (1 + 0) + len (pick zax q)) = true := zah (by omega)
  have f4 : fits (1 * (1 + 0) + len (pick zax q) + 1 * (1 + 0)) = true := zah (by omega)
  have f6 : fits (1 * (1 + 0) + len (pick zax q) + 1 * (1 + 0) + 1 * 0) = true := zah (by omega)
  have f7 : fits (1 * (1 + 0) + len (pick zax q) + 1 * (1 + 0) + 1 * 0 + 2) = true := zah (by omega)
  simp only [zeo, xAsg, goN, hVar, hGlo, Mine.h2, kBin, hBin, hArg, zbc, zal, same, zaz, zy1, zy3, zy5, zy8, zy9, zy12, zy16, zv24, zv46, zv47, zv48, zv49, zv50, zv51, zw12, zg37, zvq, zq3, zq4, zq5, zq6, zq8, zq17, zq22, zq23, zq39, zq51, zq52, zq61, zq65, zu23, zu27, List.zip_nil_left, zna_, Nat.beq, g120, g121, g122, e1, e2, B1, e3, zbr, zfq, l1, l2, l3, f0, f1, f2, f3, f4, f5, f6, f7, List.zip_nil_left, Nat.ble]
  rfl
 | succ d =>
  have e2 : Int.ofNat near - Int.ofNat far = Int.negSucc d := by
   rw [Int.negSucc_eq]
   simp only [Int.ofNat_eq_natCast]; omega
  rw [hdd] at e1 hd
  have B2 : Z.ltB (Int.ofNat 0) (Int.ofNat (d + 1)) = true := rfl
  have B3 : Z.ltB (Int.ofNat 0) (Int.negSucc d) = false := rfl
  have e3 : Int.ofNat 1 + Int.ofNat (d + 1) = Int.ofNat (1 + (d + 1)) := rfl
  have f1 : fits (1 + (d + 1)) = true := zah (by omega)
  have f2 : fits (1 * (1 + (d + 1))) = true := zah (by omega)
  have f3 : fits (1 * (1 + (d + 1)) + len (pick zax q)) = true := zah (by omega)
  have f4 : fits (1 * (1 + (d + 1)) + len (pick zax q) + 1 * (1 + (d + 1))) = true := zah (by omega)
  have f6 : fits (1 * (1 + (d + 1)) + len (pick zax q) + 1 * (1 + (d + 1)) + 1 * 0) = true := zah (by omega)
  have f7 : fits (1 * (1 + (d + 1)) + len (pick zax q) + 1 * (1 + (d + 1)) + 1 * 0 + 2) = true := zah (by omega)
  simp only [zeo, xAsg, goN, hVar, hGlo, Mine.h2, kBin, hBin, hArg, zbc, zal, same, zaz, zy1, zy3, zy5, zy7, zy8, zy9, zy12, zy16, zv24, zv46, zv47, zv48, zv49, zv50, zv51, zw12, zg37, zvq, zq3, zq4, zq5, zq6, zq8, zq17, zq22, zq23, zq39, zq51, zq52, zq61, zq65, zu23, zu27, List.zip_nil_left, zna_, Nat.beq, g120, g121, g122, e1, e2, B2, B3, e3, zbr, zfq, l1, l2, l3, f0, f1, f2, f3, f4, f5, f6, f7, List.zip_nil_left, Nat.ble]
  rfl
theorem u2n {q dn : Nat} (hq : q < 6) (hlt : far + (dn + 1) = near) (hd : dn < 10) (g120 : look fl 120 = some (.int (.ofNat far))) (g121 : look fl 121 = some (.int (.ofNat near))) (g122 : look fl 122 = some (.str (pick zax q))) :
 ex cxL zeo fl hp = some (.next, put fl 123 (.str (zb1 q 0 (dn + 1))), hp) := by
 have hp10 := Nat.le_of_ble_eq_true (zad (p := fun q => Nat.ble (len (pick zax q)) 10) zg5 q hq)
 have e1 : Int.ofNat far - Int.ofNat near = Int.negSucc dn := by
  rw [Int.negSucc_eq]
  simp only [Int.ofNat_eq_natCast]; omega
 have e2 : Int.ofNat near - Int.ofNat far = Int.ofNat (dn + 1) := by simp only [Int.ofNat_eq_natCast]; omega
 have B2 : Z.ltB (Int.ofNat 0) (Int.ofNat (dn + 1)) = true := rfl
 have B3 : Z.ltB (Int.ofNat 0) (Int.negSucc dn) = false := rfl
 have e3 : Int.ofNat 1 + Int.ofNat (dn + 1) = Int.ofNat (1 + (0 + (dn + 1))) := by simp only [Int.ofNat_eq_natCast]; omega
 have e4 : Int.ofNat 1 + Int.ofNat 0 = Int.ofNat (1 + 0) := rfl
 have l1 : len [40] = 1 := rfl
 have l2 : len [41] = 1 := rfl
 have l3 : len [40, 41] = 2 := rfl
 have f1 : fits (1 + 0) = true := rfl
 have f0 : fits (dn + 1) = true := zah (by omega)
 have f2 : fits (1 * (1 + 0)) = true := rfl
 have f3 : fits (1 * (1 + 0) + len (pick zax q)) = true := zah (by omega)
 have f3' : fits (1 + (0 + (dn + 1))) = true := zah (by omega)
 have f3b : fits (1 * (1 + (0 + (dn + 1)))) = true := zah (by omega)
 have f4 : fits (1 * (1 + 0) + len (pick zax q) + 1 * (1 + (0 + (dn + 1)))) = true := zah (by omega)
 have f5 : fits (1 * (dn + 1)) = true := zah (by omega)
 have f6 : fits (1 * (1 + 0) + len (pick zax q) + 1 * (1 + (0 + (dn + 1))) + 1 * (dn + 1)) = true := zah (by omega)
 have f7 : fits (1 * (1 + 0) + len (pick zax q) + 1 * (1 + (0 + (dn + 1))) + 1 * (dn + 1) + 2) = true := zah (by omega)
 simp only [zeo, xAsg, goN, hVar, hGlo, Mine.h2, kBin, hBin, hArg, zbc, zal, same, zaz, zy1, zy3, zy5, zy7, zy8, zy9, zy12, zy16, zv24, zv46, zv47, zv48, zv49, zv50, zv51, zw12, zg37, zvq, zq3, zq4, zq5, zq6, zq8, zq17, zq22, zq23, zq39, zq51, zq52, zq61, zq65, zu23, zu27, List.zip_nil_left, znb_, Nat.beq, g120, g121, g122, e1, e2, B2, B3, e3, e4, zbr, zfq, l1, l2, l3, f0, f1, f2, f3, f3', f3b, f4, f5, f6, f7, List.zip_nil_left, Nat.ble]
 rfl
theorem u3t {x : List Nat} (hc : isBo (runC x) true = true) (g123 : look fl 123 = some (.str x)) (g119 : look fl 119 = some (.int (.ofNat t))) (g91 : look fl 91 = some (.int (.ofNat (z + 1)))) (hz : z < 60) :
 ex cxL zfs fl hp = some (.next, put (put fl 119 (.int (.ofNat (t + 2 ^ z)))) 110 (.str x), hp) := by
 have s := ze2 hc hp
 have e1 : Int.ofNat (z + 1) - Int.ofNat 1 = Int.ofNat z := by simp only [Int.ofNat_eq_natCast]; omega
 have h2 : Nat.beq 2 2 = true := rfl
 have hb : Nat.blt z 64 = true := Nat.ble_eq_true_of_le (by omega)
 have e2 : Int.ofNat t + Int.ofNat (Nat.pow 2 z) = Int.ofNat (t + 2 ^ z) := rfl
 simp only [zfs, zbx, xAsg, xIfe, goN, hVar, hGlo, Mine.h2, kBin, kCmp, hBin, tCmp, hTup, hArg, zbc, zal, same, bTpl, zy1, zy3, zy5, zy7, zy9, zy12, zv24, zv32, zv45, zv47, zv48, zw1, zw13, zvp, zgS, zq1, zq3, zq5, zq6, zq8, zq13, zq17, zq22, zq23, zq29, zq39, zq42, zq49, zq50, zq51, zq52, zq53, zq54, zq55, zq56, zu32, zu45, List.zip_nil_left, zbb_, Nat.beq, g123, s, g119, g91, e1, h2, hb, e2, List.zip_nil_left, Nat.ble]
theorem u3f {x : List Nat} (hc : isBo (runC x) false = true) (g123 : look fl 123 = some (.str x)) :
 ex cxL zfs fl hp = some (.next, fl, hp) := by
 have s := ze2 hc hp
 simp only [zfs, zbx, xAsg, xIfe, goN, hVar, hGlo, Mine.h2, kBin, kCmp, hBin, tCmp, hTup, hArg, zbc, zal, same, bTpl, zy1, zy8, zy9, zy12, zv45, zw13, zvp, zgS, zq1, zq3, zq5, zq6, zq8, zq13, zq17, zq22, zq23, zq29, zq39, zq42, zq49, zq50, zq51, zq52, zu45, List.zip_nil_left, zbc_, Nat.beq, g123, s, List.zip_nil_left, Nat.ble]
end
end
end Mine
end
noncomputable section
namespace Mine
section
open PySem PySem.W PyProof.Rows
noncomputable def tg99 : Tg := .tup [91, 120, 121] [249012249016, 249018249021, 249023249027] 249012249027
noncomputable def innF : V -> L -> Hp -> Option (Fl × L × Hp) := zca cxL tg99 (exs cxL zsk)
section
variable {fl : L} {hp : Hp} {b f m k wn z t : Nat} {kept : List Nat}
theorem inner (hb : b < 4) (hf : f < 4) (hm : m < 2) (hk : k < 6) (hz : z < 3) (g114 : look fl 114 = some (.int (.ofNat wn))) (g119 : look fl 119 = some (.int (.ofNat t))) (g110 : look fl 110 = some (.str kept)) (hkept : zgn kept) :
 ∃ fl' kept', innF (rowV (zbo b f m k (z + 1))) fl hp = some (.next, fl', hp) /\ look fl' 119 = some (.int (.ofNat (t + match geZ b f m k (z + 1) with | true => 2 ^ z | false => 0))) /\ look fl' 110 = some (.str kept') /\ zgn kept' ∧
  ∀ y, y ≠ 91 -> y ≠ 120 -> y ≠ 121 -> y ≠ 122 -> y ≠ 123 -> y ≠ 119 -> y ≠ 110 -> look fl' y = look fl y := by
 have B1 := zad (p := fun b => allN 4 fun f => allN 2 fun m => allN 6 fun k => allN 3 fun z => match Nat.ble (colN (z + 1) (zaf f m k) 0) (colN (z + 1) (zac b) 0) with
  | true => Nat.blt (colN (z + 1) (zac b) 0 - colN (z + 1) (zaf f m k) 0) 7
  | false => Nat.ble (colN (z + 1) (zaf f m k) 0 - colN (z + 1) (zac b) 0) 10) bndFit b hb
 have B2 := zad (p := fun f => allN 2 fun m => allN 6 fun k => allN 3 fun z => match Nat.ble (colN (z + 1) (zaf f m k) 0) (colN (z + 1) (zac b) 0) with
  | true => Nat.blt (colN (z + 1) (zac b) 0 - colN (z + 1) (zaf f m k) 0) 7
  | false => Nat.ble (colN (z + 1) (zaf f m k) 0 - colN (z + 1) (zac b) 0) 10) B1 f hf
 have B3 := zad (p := fun m => allN 6 fun k => allN 3 fun z => match Nat.ble (colN (z + 1) (zaf f m k) 0) (colN (z + 1) (zac b) 0) with
  | true => Nat.blt (colN (z + 1) (zac b) 0 - colN (z + 1) (zaf f m k) 0) 7
  | false => Nat.ble (colN (z + 1) (zaf f m k) 0 - colN (z + 1) (zac b) 0) 10) B2 m hm
 have B4 := zad (p := fun k => allN 3 fun z => match Nat.ble (colN (z + 1) (zaf f m k) 0) (colN (z + 1) (zac b) 0) with
  | true => Nat.blt (colN (z + 1) (zac b) 0 - colN (z + 1) (zaf f m k) 0) 7
  | false => Nat.ble (colN (z + 1) (zaf f m k) 0 - colN (z + 1) (zac b) 0) 10) B3 k hk
 have B := zad (p := fun z => match Nat.ble (colN (z + 1) (zaf f m k) 0) (colN (z + 1) (zac b) 0) with
  | true => Nat.blt (colN (z + 1) (zac b) 0 - colN (z + 1) (zaf f m k) 0) 7
  | false => Nat.ble (colN (z + 1) (zaf f m k) 0 - colN (z + 1) (zac b) 0) 10) B4 z hz
 clear B1 B2 B3 B4
 unfold geZ
 unfold zbo
 generalize colN (z + 1) (zac b) 0 = far at *
 generalize colN (z + 1) (zaf f m k) 0 = near at *
 have hb0 : zc1 cxL tg99 (.v (rowV (z + 1, far, near))) fl hp = some (put (put (put fl 91 (.int (.ofNat (z + 1)))) 120 (.int (.ofNat far))) 121 (.int (.ofNat near)), hp) := rfl
 have s1 := u1 (fl := put (put (put fl 91 (.int (.ofNat (z + 1)))) 120 (.int (.ofNat far))) 121 (.int (.ofNat near))) (hp := hp) (wn := wn) (z := z + 1) (by simp [zaa, g114]) (by simp [zaa])
 have hq : (wn + (z + 1)) % 6 < 6 := Nat.mod_lt _ (by omega)
 generalize (wn + (z + 1)) % 6 = q at *
 cases hle : Nat.ble near far with
 | true =>
  rw [hle] at B
  have hle' := Nat.le_of_ble_eq_true hle
  have hd : far - near < 7 := Nat.le_of_ble_eq_true B
  have s2 := u2p (fl := put (put (put (put fl 91 (.int (.ofNat (z + 1)))) 120 (.int (.ofNat far))) 121 (.int (.ofNat near))) 122 (.str (pick zax q))) (hp := hp) hq hle' hd (by simp [zaa]) (by simp [zaa]) (by simp [zaa])
  have s3 := u3t (fl := put (put (put (put (put fl 91 (.int (.ofNat (z + 1)))) 120 (.int (.ofNat far))) 121 (.int (.ofNat near))) 122 (.str (pick zax q))) 123 (.str (zb1 q (far - near) 0))) (hp := hp) (t := t) (z := z) (zr8 hq hd) (by simp [zaa]) (by simp [zaa, g119]) (by simp [zaa]) (by omega)
  refine ⟨put (put (put (put (put (put (put fl 91 (.int (.ofNat (z + 1)))) 120 (.int (.ofNat far))) 121 (.int (.ofNat near))) 122 (.str (pick zax q))) 123 (.str (zb1 q (far - near) 0))) 119 (.int (.ofNat (t + 2 ^ z)))) 110 (.str (zb1 q (far - near) 0)), zb1 q (far - near) 0, ?_, ?_, ?_, ⟨zn5 hq hd, zl2 hq hd, ?_⟩, fun y h1 h2 h3 h4 h5 h6 h7 => ?_⟩
  · rw [show innF (rowV (z + 1, far, near)) fl hp = bd (zc1 cxL tg99 (.v (rowV (z + 1, far, near))) fl hp) (fun x => exs cxL zsk x.1 x.2) from rfl, hb0]
    show exs cxL [zii, zeo, zfs] _ _ = _
    rw [zar s1, zar s2, zar s3]; rfl
  · simp [zaa]
  · simp [zaa]
  · have hp10 := Nat.le_of_ble_eq_true (zad (p := fun q => Nat.ble (len (pick zax q)) 10) zg5 q hq)
    simp only [zb1, zbr, zfq, len]
    omega
  · simp [zaa, h1, h2, h3, h4, h5, h6, h7]
 | false =>
  rw [hle] at B
  have hd : near - far ≤ 10 := Nat.le_of_ble_eq_true B
  have hlt : far < near := by
   apply Nat.lt_of_not_le
   intro h
   rw [Nat.ble_eq_true_of_le h] at hle; cases hle
  obtain ⟨dn, hdn⟩ : ∃ dn, far + (dn + 1) = near := ⟨near - far - 1, by omega⟩
  have s2 := u2n (fl := put (put (put (put fl 91 (.int (.ofNat (z + 1)))) 120 (.int (.ofNat far))) 121 (.int (.ofNat near))) 122 (.str (pick zax q))) (hp := hp) hq hdn (by omega) (by simp [zaa]) (by simp [zaa]) (by simp [zaa])
  have s3 := u3f (fl := put (put (put (put (put fl 91 (.int (.ofNat (z + 1)))) 120 (.int (.ofNat far))) 121 (.int (.ofNat near))) 122 (.str (pick zax q))) 123 (.str (zb1 q 0 (dn + 1)))) (hp := hp) (zr9 hq (by omega : dn < 10)) (by simp [zaa])
  refine ⟨put (put (put (put (put fl 91 (.int (.ofNat (z + 1)))) 120 (.int (.ofNat far))) 121 (.int (.ofNat near))) 122 (.str (pick zax q))) 123 (.str (zb1 q 0 (dn + 1))), kept, ?_, ?_, ?_, hkept, fun y h1 h2 h3 h4 h5 h6 h7 => ?_⟩
  · rw [show innF (rowV (z + 1, far, near)) fl hp = bd (zc1 cxL tg99 (.v (rowV (z + 1, far, near))) fl hp) (fun x => exs cxL zsk x.1 x.2) from rfl, hb0]
    show exs cxL [zii, zeo, zfs] _ _ = _
    rw [zar s1, zar s2, zar s3]; rfl
  · simp [zaa, g119]
  · simp [zaa, g110]
  · simp [zaa, h1, h2, h3, h4, h5]
theorem t9 {r1 : Nat} (hb : b < 4) (hf : f < 4) (hm : m < 2) (hk : k < 6) (g116 : look fl 116 = some (.ref r1)) (n1 : nth hp r1 = some (.list (za1 (za5 b f m k)))) (g114 : look fl 114 = some (.int (.ofNat wn))) (g119 : look fl 119 = some (.int (.ofNat 0))) (g110 : look fl 110 = some (.str kept)) (hkept : zgn kept) :
 ∃ fl' kept', ex cxL l9_9 fl hp = some (.next, fl', hp) /\ look fl' 119 = some (.int (.ofNat (zd5 b f m k))) /\ look fl' 110 = some (.str kept') /\ zgn kept' ∧
  ∀ y, y ≠ 91 -> y ≠ 120 -> y ≠ 121 -> y ≠ 122 -> y ≠ 123 -> y ≠ 119 -> y ≠ 110 -> look fl' y = look fl y := by
 obtain ⟨fl1, kept1, a1, a2, a3, a4, a5⟩ := inner (hp := hp) (z := 0) hb hf hm hk (by omega) g114 g119 g110 hkept
 have g114' : look fl1 114 = some (.int (.ofNat wn)) := by rw [a5 114 (by decide) (by decide) (by decide) (by decide) (by decide) (by decide) (by decide)]; exact g114
 obtain ⟨fl2, kept2, b1, b2, b3, b4, b5⟩ := inner (hp := hp) (z := 1) hb hf hm hk (by omega) g114' a2 a3 a4
 have g114'' : look fl2 114 = some (.int (.ofNat wn)) := by rw [b5 114 (by decide) (by decide) (by decide) (by decide) (by decide) (by decide) (by decide)]; exact g114'
 obtain ⟨fl3, kept3, c1, c2, c3, c4, c5⟩ := inner (hp := hp) (z := 2) hb hf hm hk (by omega) g114'' b2 b3 b4
 refine ⟨fl3, kept3, ?_, ?_, c3, c4, fun y h1 h2 h3 h4 h5 h6 h7 => (c5 y h1 h2 h3 h4 h5 h6 h7).trans ((b5 y h1 h2 h3 h4 h5 h6 h7).trans (a5 y h1 h2 h3 h4 h5 h6 h7))⟩
 · have hs : zdo (.v (.ref r1)) none (some (.v (.int (.ofNat 3)))) hp = some (.l [rowV (zbo b f m k 1), rowV (zbo b f m k 2), rowV (zbo b f m k 3)]) := by
    rw [zv69, zd6 n1]
    unfold za5
    rcases zjo k with e | e <;> rw [e] <;> rfl
   show bd (bd (bd (look fl 116) fun v => some (RV.v v, hp)) fun x => bd (some (none, x.2)) fun y => bd (some (some (.v (.int (.ofNat 3))), y.2)) fun z => same z.2 (kSli cxL none x.1 y.1 z.1 z.2)) _ = _
   rw [g116]
   show bd (bd (zdo (.v (.ref r1)) none (some (.v (.int (.ofNat 3)))) hp) _) _ = _
   rw [hs]
   show bd (bd (innF (rowV (zbo b f m k 1)) fl hp) _) _ = _
   rw [a1]
   show bd (bd (innF (rowV (zbo b f m k 2)) fl1 hp) _) _ = _
   rw [b1]
   show bd (bd (innF (rowV (zbo b f m k 3)) fl2 hp) _) _ = _
   rw [c1]; rfl
 · rw [c2]
   unfold zd5
   cases geZ b f m k 1 <;> cases geZ b f m k 2 <;> cases geZ b f m k 3 <;> rfl
end
end
end Mine
end
noncomputable section
namespace Mine
section
open PySem PySem.W PyProof.Rows
noncomputable def nanV (na : List Nat) : List V := na.map fun n => V.int (.ofNat n)
structure LB (cs : List V) (low b : Nat) (na : List Nat) (fl : L) (hp : Hp) : Prop where
 f96 : look fl 96 = some (.ref 0)
 f100 : look fl 100 = some (.int (.ofNat low))
 f103 : look fl 103 = some (.ref 3)
 f104 : look fl 104 = some (.ref 4)
 f105 : look fl 105 = some (.ref 5)
 f106 : look fl 106 = some (.ref 6)
 f108 : look fl 108 = some (.ref 7)
 f109 : look fl 109 = some (.ref 8)
 f110 : ∃ kept, look fl 110 = some (.str kept) /\ zgn kept
 h0 : nth hp 0 = some (.list cs)
 h3 : nth hp 3 = some (.list ((szL low).map V.str))
 h4 : nth hp 4 = some (.list ((lnL low).map V.str))
 h5 : nth hp 5 = some (wsO (zac b ++ [120]))
 h6 : nth hp 6 = some (.list (zei b))
 h7 : nth hp 7 = some (.list (nanV na))
 h8 : nth hp 8 = some (.list (nanV na))
 lt : ∀ n ∈ na, n < 8
theorem zdf (c : Int) {n : Nat} (hn : 0 < n) : ∃ f, f < n /\ Int.fmod c (.ofNat n) = .ofNat f := by
 have h1 : 0 ≤ Int.fmod c (.ofNat n) := Int.fmod_nonneg_of_pos c (by simp only [Int.ofNat_eq_natCast]; omega)
 have h2 : Int.fmod c (.ofNat n) < .ofNat n := Int.fmod_lt_of_pos c (by simp only [Int.ofNat_eq_natCast]; omega)
 refine ⟨(Int.fmod c (.ofNat n)).toNat, ?_, ?_⟩
 · simp only [Int.ofNat_eq_natCast] at *; omega
 · simp only [Int.ofNat_eq_natCast] at *; omega
theorem nan_lt (b f m k : Nat) : zd5 b f m k < 8 := by
 unfold zd5
 cases geZ b f m k 1 <;> cases geZ b f m k 2 <;> cases geZ b f m k 3 <;> decide
noncomputable def turnF : V -> L -> Hp -> Option (Fl × L × Hp) := zca cxL (.name 21 239008239009) (exs cxL l9b)
theorem turn {cs : List V} {low b i : Nat} {na : List Nat} {fl : L} {hp : Hp} {c : Int} (hb : b < 4) (I : LB cs low b na fl hp) (hl : na.length ≤ 50) (hi : idx (.ofNat i) (len cs) = some i) (hc : nth cs i = some (.int c)) :
 ∃ fl' hp' n, turnF (.int (.ofNat i)) fl hp = some (.next, fl', hp') /\ LB cs low b (na ++ [n]) fl' hp' := by
 obtain ⟨f, hf, e1⟩ := zdf c (by omega : 0 < 4)
 obtain ⟨m, hm, e2⟩ := zdf (Int.fdiv c 4) (by omega : 0 < 2)
 obtain ⟨k, hk, e3⟩ := zdf (Int.fdiv (Int.fdiv c 4) 2) (by omega : 0 < 6)
 obtain ⟨wn, hw, e4⟩ := zdf (Int.fdiv (Int.fdiv (Int.fdiv c 4) 2) 6) (by omega : 0 < 6)
 obtain ⟨kept, hk1, hk2⟩ := I.f110
 have h8lt := zdk I.h8
 rw [← zag] at h8lt
 have s1 := t1 (fl := put fl 21 (.int (.ofNat i))) (hp := hp) e1 e2 e3 e4 (by simp [zaa, I.f96]) (by simp [zaa]) I.h0 hi hc
 generalize hg1 : put (put (put (put (put fl 21 (.int (.ofNat i))) 111 (.int (.ofNat f))) 112 (.int (.ofNat m))) 113 (.int (.ofNat k))) 114 (.int (.ofNat wn)) = fl1 at s1
 have k1 : ∀ y, y ≠ 21 -> y ≠ 111 -> y ≠ 112 -> y ≠ 113 -> y ≠ 114 -> look fl1 y = look fl y := fun y h1 h2 h3 h4 h5 => by rw [← hg1]; simp [zaa, h1, h2, h3, h4, h5]
 have a111 : look fl1 111 = some (.int (.ofNat f)) := by rw [← hg1]; simp [zaa]
 have a112 : look fl1 112 = some (.int (.ofNat m)) := by rw [← hg1]; simp [zaa]
 have a113 : look fl1 113 = some (.int (.ofNat k)) := by rw [← hg1]; simp [zaa]
 have a114 : look fl1 114 = some (.int (.ofNat wn)) := by rw [← hg1]; simp [zaa]
 clear hg1
 have s2 := t2 (fl := fl1) (hp := hp) hf hm hk a111 a112 a113
 have s3 := t3 (fl := put fl1 90 (.str (zaf f m k))) (hp := hp) hk (by simp [zaa, a113])
 have s4 := t4 (fl := put (put fl1 90 (.str (zaf f m k))) 115 (.int (.ofNat (zch k)))) (hp := hp) hb hf hm hk (by simp [zaa]) (by simp [zaa, k1, I.f106]) (by simp [zaa]) I.h6
 generalize hH1 : hp ++ [O.list (za1 (za5 b f m k))] = hp1 at s4
 have c1 : nth hp1 (len hp) = some (.list (za1 (za5 b f m k))) := by rw [← hH1]; exact zb8 _ _
 have p1 : ∀ {n : Nat} {o : O}, nth hp n = some o -> nth hp1 n = some o := fun h => by rw [← hH1]; exact zai _ h
 have l1 : len hp1 = len hp + 1 := by rw [← hH1, zbr]; rfl
 clear hH1
 have s5 := t5 (fl := put (put (put fl1 90 (.str (zaf f m k))) 115 (.int (.ofNat (zch k)))) 116 (.ref (len hp))) (hp := hp1) hb hf hm hk (by simp [zaa, k1, I.f105]) (by simp [zaa]) (p1 I.h5)
 generalize hH2 : hp1 ++ [wsO (zaf f m k ++ [120, 9]), O.list (za1 (zbg b f m k))] = hp2 at s5
 have p2 : ∀ {n : Nat} {o : O}, nth hp1 n = some o -> nth hp2 n = some o := fun h => by rw [← hH2]; exact zai _ h
 have c2 : nth hp2 (len hp1 + 1) = some (.list (za1 (zbg b f m k))) := by rw [← hH2]; exact zfj _ _ 1
 clear hH2
 generalize hg2 : put (put (put (put fl1 90 (.str (zaf f m k))) 115 (.int (.ofNat (zch k)))) 116 (.ref (len hp))) 117 (.ref (len hp1 + 1)) = fl2 at s5
 have k2 : ∀ y, y ≠ 90 -> y ≠ 115 -> y ≠ 116 -> y ≠ 117 -> look fl2 y = look fl1 y := fun y h1 h2 h3 h4 => by rw [← hg2]; simp [zaa, h1, h2, h3, h4]
 have a116 : look fl2 116 = some (.ref (len hp)) := by rw [← hg2]; simp [zaa]
 have a117 : look fl2 117 = some (.ref (len hp1 + 1)) := by rw [← hg2]; simp [zaa]
 clear hg2
 have s6 := t6 (fl := fl2) (hp := hp2) a116 a117 (p2 c1) c2
 have s7 := t7 (fl := fl2) (hp := hp2) a117 (by simp [k2, k1, I.f108]) c2 (p2 (p1 I.h7)) (by simp [nanV]; omega)
 generalize hH3 : upd hp2 7 (O.list (nanV na ++ [V.int (Int.ofNat (zd5 b f m k))])) = hp3 at s7
 have p3 : ∀ {n : Nat}, n ≠ 7 -> nth hp3 n = nth hp2 n := fun h => by rw [← hH3]; exact zbh _ (Ne.symm h)
 have c7 : nth hp3 7 = some (O.list (nanV na ++ [V.int (Int.ofNat (zd5 b f m k))])) := by rw [← hH3]; exact zay _ (p2 (p1 I.h7))
 clear hH3
 have s8 := t8 (fl := fl2) (hp := hp3)
 obtain ⟨fl3, kept', s9, g119, g110, hkept', k3⟩ := t9 (fl := put fl2 119 (.int (.ofNat 0))) (hp := hp3) (wn := wn) (kept := kept) hb hf hm hk (by simp [zaa, a116]) ((p3 (by omega)).trans (p2 c1)) (by simp [zaa, k2, a114]) (by simp [zaa]) (by simp [zaa, k2, k1, hk1]) hk2
 have k4 : ∀ y, y ≠ 21 -> y ≠ 111 -> y ≠ 112 -> y ≠ 113 -> y ≠ 114 -> y ≠ 90 -> y ≠ 115 -> y ≠ 116 -> y ≠ 117 -> y ≠ 119 -> y ≠ 91 -> y ≠ 120 -> y ≠ 121 -> y ≠ 122 -> y ≠ 123 -> y ≠ 110 -> look fl3 y = look fl y := fun y h1 h2 h3 h4 h5 h6 h7 h8 h9 h10 h11 h12 h13 h14 h15 h16 => by
  rw [k3 y h11 h12 h13 h14 h15 h10 h16]
  simp [zaa, h10, k2 y h6 h7 h8 h9, k1 y h1 h2 h3 h4 h5]
 have s10 := t10 (fl := fl3) (hp := hp3) (by simp [k4, I.f109]) g119 ((p3 (by omega)).trans (p2 (p1 I.h8))) (by simp [nanV]; omega)
 have e0 : zc1 cxL (.name 21 239008239009) (.v (.int (.ofNat i))) fl hp = some (put fl 21 (.int (.ofNat i)), hp) := rfl
 refine ⟨fl3, upd hp3 8 (.list (nanV na ++ [V.int (Int.ofNat (zd5 b f m k))])), zd5 b f m k, ?_, ?_⟩
 · show exs cxL [l9_1, l9_2, l9_3, l9_4, l9_5, l9_6, l9_7, l9_8, l9_9, zsl] (put fl 21 (.int (.ofNat i))) hp = _
   rw [zar s1, zar s2, zar s3, zar s4, zar s5, zar s6, zar s7, zar s8, zar s9, zar s10]; rfl
 · have q : ∀ {n : Nat}, n ≠ 8 -> nth (upd hp3 8 (O.list (nanV na ++ [V.int (Int.ofNat (zd5 b f m k))]))) n = nth hp3 n := fun h => zbh _ (Ne.symm h)
   have e : nanV (na ++ [zd5 b f m k]) = nanV na ++ [V.int (Int.ofNat (zd5 b f m k))] := by simp [nanV]
   refine ⟨by simp [k4, I.f96], by simp [k4, I.f100], by simp [k4, I.f103], by simp [k4, I.f104], by simp [k4, I.f105], by simp [k4, I.f106], by simp [k4, I.f108], by simp [k4, I.f109], ⟨kept', g110, hkept'⟩, ?_, ?_, ?_, ?_, ?_, ?_, ?_, fun n hn => ?_⟩
   · rw [q (by omega), p3 (by omega)]; exact p2 (p1 I.h0)
   · rw [q (by omega), p3 (by omega)]; exact p2 (p1 I.h3)
   · rw [q (by omega), p3 (by omega)]; exact p2 (p1 I.h4)
   · rw [q (by omega), p3 (by omega)]; exact p2 (p1 I.h5)
   · rw [q (by omega), p3 (by omega)]; exact p2 (p1 I.h6)
   · rw [q (by omega), e]; exact c7
   · rw [e]; exact zay _ ((p3 (by omega)).trans (p2 (p1 I.h8)))
   · rcases List.mem_append.mp hn with h | h
     · exact I.lt n h
     · rw [List.mem_singleton.mp h]; exact nan_lt b f m k
theorem st9 {c0 c1 c2 c3 c4 : Int} {low b : Nat} {fl : L} {hp : Hp} (hb : b < 4) (I : LB [.int c0, .int c1, .int c2, .int c3, .int c4] low b [] fl hp) : ∃ fl' hp' n0 n1 n2 n3, ex cxL l9 fl hp = some (.next, fl', hp') /\ LB [.int c0, .int c1, .int c2, .int c3, .int c4] low b [n0, n1, n2, n3] fl' hp' := by
 obtain ⟨fl1, hp1, n0, a1, I1⟩ := turn (i := 0) hb I (by simp) rfl rfl
 obtain ⟨fl2, hp2, n1, a2, I2⟩ := turn (i := 1) hb I1 (by simp) rfl rfl
 obtain ⟨fl3, hp3, n2, a3, I3⟩ := turn (i := 2) hb I2 (by simp) rfl rfl
 obtain ⟨fl4, hp4, n3, a4, I4⟩ := turn (i := 3) hb I3 (by simp) rfl rfl
 refine ⟨fl4, hp4, n0, n1, n2, n3, ?_, I4⟩
 have hfor : ex cxL l9 fl hp = bd (forS turnF 5 (.items [.int (.ofNat 0), .int (.ofNat 1), .int (.ofNat 2), .int (.ofNat 3)]) fl hp) (aftL (exs cxL [])) := rfl
 rw [hfor, zio a1, zio a2, zio a3, zio a4]; rfl
end
end Mine
end
noncomputable section
namespace Mine
section
open PySem PySem.W PyProof.Rows
noncomputable def WS (low c : Nat) : List Nat := zgb c (szL low)
noncomputable def WL (low c : Nat) : List Nat := zgb c (lnL low)
theorem ps_all : allN 26 (fun low => allN 8 fun c => leq (zbq (c * Nat.pow 2 low)) (WS low c)) = true := by decide +kernel
theorem pl_all : allN 26 (fun low => allN 16 fun c => leq (zbq (c * Nat.pow 2 (low + 3))) (WL low c)) = true := by decide +kernel
theorem ws_fit : allN 26 (fun low => allN 8 fun c => Nat.ble (len (WS low c)) 1000) = true := by decide +kernel
theorem wl_fit : allN 26 (fun low => allN 16 fun c => Nat.ble (len (WL low c)) 1000) = true := by decide +kernel
section
variable {lw c : Nat} {hp : Hp} {fl : L}
theorem ps_eq (hl : lw < 26) (hc : c < 8) : zbq (c * Nat.pow 2 lw) = WS lw c := zl6 (zad (p := fun c => leq (zbq (c * Nat.pow 2 lw)) (WS lw c)) (zad (p := fun low => allN 8 fun c => leq (zbq (c * Nat.pow 2 low)) (WS low c)) ps_all lw hl) c hc)
theorem pl_eq (hl : lw < 26) (hc : c < 16) : zbq (c * Nat.pow 2 (lw + 3)) = WL lw c := zl6 (zad (p := fun c => leq (zbq (c * Nat.pow 2 (lw + 3))) (WL lw c)) (zad (p := fun low => allN 16 fun c => leq (zbq (c * Nat.pow 2 (low + 3))) (WL low c)) pl_all lw hl) c hc)
theorem zmk (hl : lw < 26) (hc : c < 8) : len (WS lw c) ≤ 1000 := Nat.le_of_ble_eq_true (zad (p := fun c => Nat.ble (len (WS lw c)) 1000) (zad (p := fun low => allN 8 fun c => Nat.ble (len (WS low c)) 1000) ws_fit lw hl) c hc)
theorem zmm (hl : lw < 26) (hc : c < 16) : len (WL lw c) ≤ 1000 := Nat.le_of_ble_eq_true (zad (p := fun c => Nat.ble (len (WL lw c)) 1000) (zad (p := fun low => allN 16 fun c => Nat.ble (len (WL low c)) 1000) wl_fit lw hl) c hc)
theorem lt32 {c k : Nat} (hc : c < 16) (hk : k < 29) : c * Nat.pow 2 k < 2 ^ 32 := by
 have h1 : Nat.pow 2 k ≤ 2 ^ 28 := Nat.pow_le_pow_right (by omega) (by omega)
 have h2 : c * Nat.pow 2 k ≤ 15 * 2 ^ 28 := Nat.mul_le_mul (by omega) h1
 have : (15 : Nat) * 2 ^ 28 < 2 ^ 32 := by decide
 omega
theorem sl_ps (hl : lw < 26) (hc : c < 8) (hp : Hp) : SL 112 [.v (.int (.ofNat (c * Nat.pow 2 lw)))] [] hp = some (.v (.str (WS lw c)), hp) := by
 have e := ps_eq hl hc
 rw [← e]
 refine zh3 _ (lt32 (by omega) (by omega)) ?_ hp
 rw [e]; exact zah (by have := zmk hl hc; omega)
theorem sl_pl (hl : lw < 26) (hc : c < 16) (hp : Hp) : SL 112 [.v (.int (.ofNat (c * Nat.pow 2 (lw + 3))))] [] hp = some (.v (.str (WL lw c)), hp) := by
 have e := pl_eq hl hc
 rw [← e]
 refine zh3 _ (lt32 hc (by omega)) ?_ hp
 rw [e]; exact zah (by have := zmm hl hc; omega)
theorem zug (hl : lw < 26) (hc : c < 8) {n : Nat} (h : nth hp n = some (.list ((szL lw).map V.str))) : SL 300 [.v (.int (.ofNat c)), .v (.ref n)] [] hp = some (.v (.str (WS lw c)), hp) :=
 zkk c (szL lw) (by show 3 ≤ 32; omega) (zah (by have := zmk hl hc; unfold WS at this; omega)) h (zdz h)
theorem sl_wl4 (hl : lw < 26) (hc : c < 16) {n : Nat} (h : nth hp n = some (.list ((lnL lw).map V.str))) : SL 300 [.v (.int (.ofNat c)), .v (.ref n)] [] hp = some (.v (.str (WL lw c)), hp) :=
 zkk c (lnL lw) (by show 4 ≤ 32; omega) (zah (by have := zmm hl hc; unfold WL at this; omega)) h (zdz h)
theorem st10 {kept : List Nat} (g110 : look fl 110 = some (.str kept)) (hk : zgn kept) : ex cxL l10 fl hp = some (.next, fl, hp) := by
 obtain ⟨k1, k2, k3⟩ := hk
 have s1 := ze2 k1 hp
 have s2 := ze2 k2 hp
 have l1 : len [40] = 1 := rfl
 have l2 : len [41] = 1 := rfl
 have f1 : fits (1 + len kept) = true := zah (by omega)
 have f2 : fits (len kept + 1) = true := zah (by omega)
 simp only [l10, zbx, xIfe, xRet, hVar, hGlo, Mine.h2, kBin, kCmp, hBin, tCmp, hArg, zbc, zal, tOr, same, zy1, zy3, zy5, zy8, zv45, zv49, zw4, zvp, zgS, zq2, zq4, zq5, zq6, zq8, zq17, zq22, zq23, zq28, zq29, zq37, zq38, zq42, zq45, zq49, zq50, List.nil_append, List.cons_append, List.zip_nil_left, zbd_, Nat.beq, g110, l1, l2, f1, f2, s1, s2, List.cons_append, List.nil_append, List.zip_nil_left, Nat.ble] at *
noncomputable def zbk (lw : Nat) : List (List Nat) := [WS lw 0, WS lw 1, WS lw 2, WS lw 3, WS lw 4, WS lw 5, WS lw 6, WS lw 7]
noncomputable def r8 : List V := [.int (.ofNat 0), .int (.ofNat 1), .int (.ofNat 2), .int (.ofNat 3), .int (.ofNat 4), .int (.ofNat 5), .int (.ofNat 6), .int (.ofNat 7)]
theorem r8_eq : zby 8 0 = r8 := rfl
theorem comp8 {f : V -> Hp -> Option (Option V × Hp)} {g : Nat -> V} (H : ∀ c, c < 8 -> f (.int (.ofNat c)) hp = some (some (g c), hp)) : zbf f (len r8 + 1) (.items r8) hp = some ([g 0, g 1, g 2, g 3, g 4, g 5, g 6, g 7], hp) :=
 zcn (H 0 (by omega)) (zcn (H 1 (by omega)) (zcn (H 2 (by omega)) (zcn (H 3 (by omega)) (zcn (H 4 (by omega)) (zcn (H 5 (by omega)) (zcn (H 6 (by omega)) (zcn (H 7 (by omega)) rfl)))))))
theorem st11 (hl : lw < 26) (g100 : look fl 100 = some (.int (.ofNat lw))) : ex cxL l11 fl hp = some (.next, put fl 126 (.ref (len hp)), hp ++ [.list ((zbk lw).map V.str)]) := by
 have sm : small (Int.ofNat 8) = true := rfl
 have z1 : Z.eqB 1 1 = true := rfl
 have ff : ∀ a b c d e f g h : V, fits (len [a, b, c, d, e, f, g, h]) = true := fun _ _ _ _ _ _ _ _ => rfl
 simp only [l11, xAsg, goN, hGlo, hArg, zbc, zal, same, zaz, zy1, zy3, zy5, zy9, zy12, zy16, zv24, zv46, zw12, zw18, zw22, zg40, zq3, zq6, zq17, zq21, zq22, zq23, zq39, zq51, zq52, zq60, zu21, zrg0, zrg1, zrg2, srcC, zdu, List.zip_nil_left, Nat.beq, sm, z1, r8_eq, List.zip_nil_left, Nat.ble]
 rw [comp8 (g := fun c => .str (WS lw c))]
 · simp only [ff, zy1, zy3, zv25]
   rfl
 · intro c hc
   have hb : Nat.blt lw 64 = true := Nat.ble_eq_true_of_le (by omega)
   have hb2 : Nat.blt c 18446744073709551616 = true := Nat.ble_eq_true_of_le (by omega)
   simp only [hVar, hGlo, Mine.h2, kBin, hBin, hArg, zbc, zal, same, zaa, Nat.reduceEqDiff, if_true, if_false, zy1, zy3, zy5, zy7, zy8, zy9, zy12, zv1, zv45, zg127, zgS, zq5, zq6, zq8, zq17, zq22, zq23, zq35, zq68, zq69, zu0, zfl3, zcp, bindC, List.zip_nil_left, zlf_, g100, hb, hb2, sl_ps hl hc, List.zip_nil_left, Nat.beq, Nat.ble]
theorem zi1 (l : List (List Nat)) : vEs (l.map V.str) (l.map V.str) = true := by
 induction l with
 | nil => rfl
 | cons p r ih =>
  have : leq p p = true := (zof p p).mpr rfl
  show cs (leq p p) (vEs (r.map V.str) (r.map V.str)) false = true
  rw [this, ih]; rfl
theorem st12 (hl : lw < 26) {n : Nat} (g126 : look fl 126 = some (.ref n)) (g103 : look fl 103 = some (.ref 3)) (n1 : nth hp n = some (.list ((zbk lw).map V.str))) (n3 : nth hp 3 = some (.list ((szL lw).map V.str))) : ex cxL l12 fl hp = some (.next, fl, hp) := by
 have sm : small (Int.ofNat 8) = true := rfl
 have z1 : Z.eqB 1 1 = true := rfl
 have ff : ∀ a b c d e f g h : V, fits (len [a, b, c, d, e, f, g, h]) = true := fun _ _ _ _ _ _ _ _ => rfl
 have hv := zi1 (zbk lw)
 have hp1 := zc4 (zbk lw)
 simp only [l12, zbx, xIfe, xRet, hVar, hGlo, Mine.h2, kCmp, tCmp, hArg, zbc, zal, same, zy1, zy3, zy5, zy16, zv46, zw4, zw18, zw22, zg40, zq2, zq3, zq5, zq6, zq17, zq21, zq22, zq23, zq29, zq42, zq45, zq49, zq50, zq60, zu21, zrg0, zrg1, zrg2, srcC, zdu, List.zip_nil_left, Nat.beq, sm, z1, r8_eq, List.zip_nil_left, g126, Nat.ble]
 rw [comp8 (g := fun c => .str (WS lw c))]
 · rw [show ([V.str (WS lw 0), V.str (WS lw 1), V.str (WS lw 2), V.str (WS lw 3), V.str (WS lw 4), V.str (WS lw 5), V.str (WS lw 6), V.str (WS lw 7)] : List V) = (zbk lw).map V.str from rfl]
   have ff' : fits (len ((zbk lw).map V.str)) = true := rfl
   simp only [lisA, zy1, zy3, zy5, zy8, zv21, zv63, zd0_, ff', n1, hp1, hv]
 · intro c hc
   simp only [hVar, hGlo, hArg, zbc, zal, zaa, Nat.reduceEqDiff, if_true, if_false, zy1, zy7, zy8, zy9, zy12, zv1, zv45, zvo, zgS, zq5, zq6, zq17, zq22, zq23, zq35, zq68, zq69, zfl3, zcp, bindC, List.zip_nil_left, zlf_, g103, zug hl hc n3, List.zip_nil_left, Nat.beq, Nat.ble]
theorem st13 : ex cxL l13 fl hp = some (.next, put (put (put fl 129 (.ref (len hp))) 130 (.ref (len hp + 2))) 131 (.ref (len hp + 4)), hp ++ [.inst 277 [(65, .ref (len hp + 1))], .list [], .inst 277 [(65, .ref (len hp + 3))], .list [], .list []]) := by
 have n2 : ∀ a b : O, len (hp ++ [a, b]) = len hp + 2 := fun a b => by rw [zbr]; rfl
 have n4 : ∀ a b c d : O, len (hp ++ [a, b, c, d]) = len hp + 4 := fun a b c d => by rw [zbr]; rfl
 simp only [l13, xAsg, goN, hGlo, hLst, hTup, hArg, zbc, zal, bTpl, zy1, zy9, zy12, zv24, zv25, zv32, zv45, zw13, zg132, zgS, zq6, zq12, zq13, zq17, zq22, zq23, zq39, zq51, zq52, zq53, zq54, zq55, zq56, List.nil_append, List.cons_append, List.zip_nil_left, Nat.beq, zlq, n2, n4, List.append_assoc, List.cons_append, List.nil_append, List.zip_nil_left, Nat.ble]
end
end
end Mine
end
noncomputable section
namespace Mine
section
open PySem PySem.W PyProof.Rows
theorem ws_ok : allN 26 (fun low => allN 8 fun c => okc okN (WS low c)) = true := by decide +kernel
theorem wl_ok : allN 26 (fun low => allN 16 fun c => okc okN (WL low c)) = true := by decide +kernel
noncomputable def bitB (c k : Nat) : Bool := Nat.beq (c / 2 ^ k % 2) 1
noncomputable def zgs (c x k n : Nat) : Nat := match bitB c k with | true => x &&& n | false => x
noncomputable def comN (n0 n1 n2 n3 c : Nat) : Nat := zgs c (zgs c (zgs c (zgs c 7 0 n0) 1 n1) 2 n2) 3 n3
noncomputable def oddN (c : Nat) : Bool := Nat.beq (c % 2) 1
noncomputable def zc6 (lw com c : Nat) : List Nat := match oddN c with | true => low (WS lw com) | false => WS lw com
theorem ze1 {c x k n : Nat} (h : x < 8) : zgs c x k n < 8 := by
 unfold zgs
 split
 · exact Nat.lt_of_le_of_lt Nat.and_le_left h
 · exact h
theorem zpl (n0 n1 n2 n3 c : Nat) : comN n0 n1 n2 n3 c < 8 := ze1 (ze1 (ze1 (ze1 (by omega))))
theorem bAnd2 (a b : Nat) : Builtin.bitAnd (.ofNat a) (.ofNat b) = .ofNat (a &&& b) := bitAnd_pp (x := .ofNat a) (y := .ofNat b) (Int.natCast_nonneg _) (Int.natCast_nonneg _)
section
variable {lw c n0 n1 n2 n3 : Nat} {hp : Hp} {fl : L}
theorem zqb (hl : lw < 26) (hc : c < 8) : okc okN (WS lw c) = true := zad (p := fun c => okc okN (WS lw c)) (zad (p := fun low => allN 8 fun c => okc okN (WS low c)) ws_ok lw hl) c hc
theorem zqc (hl : lw < 26) (hc : c < 16) : okc okN (WL lw c) = true := zad (p := fun c => okc okN (WL lw c)) (zad (p := fun low => allN 16 fun c => okc okN (WL low c)) wl_ok lw hl) c hc
theorem nameOkc (hl : lw < 26) {com : Nat} (h : com < 8) : okc okN (zc6 lw com c) = true := by
 unfold zc6
 split
 · exact zfi (zqb hl h)
 · exact zqb hl h
theorem zn3 (lw com : Nat) (h : com < 8) : zes (.v (.ref 0)) (.v (.int (.ofNat com))) [.list ((zbk lw).map V.str)] = some (.v (.str (WS lw com))) := by
 match com, h with
 | 0, _ => rfl
 | 1, _ => rfl
 | 2, _ => rfl
 | 3, _ => rfl
 | 4, _ => rfl
 | 5, _ => rfl
 | 6, _ => rfl
 | 7, _ => rfl
 | n + 8, h => exact absurd h (by omega)
theorem zn2 {com r : Nat} (h : com < 8) (hr : nth hp r = some (.list ((zbk lw).map V.str))) : zes (.v (.ref r)) (.v (.int (.ofNat com))) hp = some (.v (.str (WS lw com))) := by
 rw [zv67, zd6 hr]
 exact zn3 lw com h
noncomputable def kF : V -> L -> Hp -> Option (Fl × L × Hp) := zca cxL (.name 21 263012263013) (exs cxL zk4)
theorem zst {k n x : Nat} {na : List Nat} (hc : c < 16) (hk : k < 4) (g93 : look fl 93 = some (.int (.ofNat c))) (g133 : look fl 133 = some (.int (.ofNat x))) (g108 : look fl 108 = some (.ref 7)) (n7 : nth hp 7 = some (.list (nanV na))) (hn : nth na k = some n) (hlen : idx (.ofNat k) (len na) = some k) :
 ∃ fl', kF (.int (.ofNat k)) fl hp = some (.next, fl', hp) /\ look fl' 133 = some (.int (.ofNat (zgs c x k n))) /\ ∀ y, y ≠ 21 -> y ≠ 133 -> look fl' y = look fl y := by
 have hb : Nat.blt k 64 = true := Nat.ble_eq_true_of_le (by omega)
 have hp0 : 0 < 2 ^ k := Nat.pow_pos (by omega)
 have hz : Z.eqB (Int.ofNat (Nat.pow 2 k)) 0 = false := by
  cases z : Z.eqB (Int.ofNat (Nat.pow 2 k)) 0 with
  | false => rfl
  | true =>
   rw [Z.eqB_iff] at z
   have z' : ((2 ^ k : Nat) : Int) = 0 := z
   omega
 have hs : small (Int.ofNat (Nat.pow 2 k)) = true := by
  have : Nat.pow 2 k ≤ 2 ^ 4 := Nat.pow_le_pow_right (by omega) (by omega)
  exact zdc (by omega)
 have hs2 : small (Int.ofNat 2) = true := rfl
 have hz2 : Z.eqB (Int.ofNat 2) 0 = false := rfl
 have hm2 : Nat.beq 2 2 = true := rfl
 have e1 : Int.fdiv (Int.ofNat c) (Int.ofNat (Nat.pow 2 k)) = Int.ofNat (c / 2 ^ k) := (Int.ofNat_fdiv _ _).symm
 have e2 : Int.fmod (Int.ofNat (c / 2 ^ k)) (Int.ofNat 2) = Int.ofNat (c / 2 ^ k % 2) := (Int.ofNat_fmod _ _).symm
 have e3 : Z.eqB (Int.ofNat (c / 2 ^ k % 2)) (Int.ofNat 1) = bitB c k := rfl
 have hnn : nth (nanV na) k = some (.int (.ofNat n)) := by
  unfold nanV
  rw [zbd] at hn ⊢
  rw [List.getElem?_map, hn]; rfl
 have hln : len (nanV na) = len na := by unfold nanV; rw [zao]
 have g1 : look (put fl 21 (.int (.ofNat k))) 93 = some (.int (.ofNat c)) := by simp [zaa, g93]
 cases hbit : bitB c k with
 | true =>
  refine ⟨put (put fl 21 (.int (.ofNat k))) 133 (.int (.ofNat (x &&& n))), ?_, ?_, fun y h1 h2 => by simp [zaa, h1, h2]⟩
  · simp only [kF, zk4, zjs, zbx, xAsg, xIfe, goN, hVar, Mine.h2, kBin, kCmp, kSub, hBin, tCmp, hSub, same, zaz, zaa, lisA, Nat.reduceEqDiff, if_true, if_false, zy1, zy3, zy5, zy7, zy9, zy12, zv21, zv24, zv56, zv64, zv67, zw1, zw12, zq3, zq5, zq8, zq14, zq29, zq39, zq42, zq49, zq50, zq51, zq52, zu1, zu29, zu30, zu32, zca, g93, g133, g108, hb, hm2, hz, hs, hs2, hz2, e1, e2, e3, hbit, n7, hln, hlen, hnn, bAnd2, Nat.beq, Nat.ble]
  · unfold zgs; rw [hbit]; simp [zaa]
 | false =>
  refine ⟨put fl 21 (.int (.ofNat k)), ?_, ?_, fun y h1 h2 => by simp [zaa, h1]⟩
  · simp only [kF, zk4, zjs, zbx, xAsg, xIfe, goN, hVar, Mine.h2, kBin, kCmp, kSub, hBin, tCmp, hSub, same, zaz, zaa, lisA, Nat.reduceEqDiff, if_true, if_false, zy1, zy3, zy5, zy8, zy9, zy12, zv24, zv56, zv64, zv67, zw1, zw12, zq3, zq5, zq8, zq14, zq29, zq39, zq42, zq49, zq50, zq51, zq52, zu29, zu30, zu32, zca, g93, g133, g108, hb, hm2, hz, hs, hs2, hz2, e1, e2, e3, hbit, Nat.beq, Nat.ble]
  · unfold zgs; rw [hbit]; simp [zaa, g133]
theorem kall (hc : c < 16) (g93 : look fl 93 = some (.int (.ofNat c))) (g133 : look fl 133 = some (.int (.ofNat 7))) (g108 : look fl 108 = some (.ref 7)) (h7 : nth hp 7 = some (.list (nanV [n0, n1, n2, n3]))) :
 ∃ fl', ex cxL zsr fl hp = some (.next, fl', hp) /\ look fl' 133 = some (.int (.ofNat (comN n0 n1 n2 n3 c))) /\ ∀ y, y ≠ 21 -> y ≠ 133 -> look fl' y = look fl y := by
 obtain ⟨f1, a1, b1, c1⟩ := zst (k := 0) hc (by omega) g93 g133 g108 h7 rfl rfl
 obtain ⟨f2, a2, b2, c2⟩ := zst (fl := f1) (k := 1) hc (by omega) ((c1 93 (by decide) (by decide)).trans g93) b1 ((c1 108 (by decide) (by decide)).trans g108) h7 rfl rfl
 have d2 : ∀ y, y ≠ 21 -> y ≠ 133 -> look f2 y = look fl y := fun y h1 h2 => (c2 y h1 h2).trans (c1 y h1 h2)
 obtain ⟨f3, a3, b3, c3⟩ := zst (fl := f2) (k := 2) hc (by omega) ((d2 93 (by decide) (by decide)).trans g93) b2 ((d2 108 (by decide) (by decide)).trans g108) h7 rfl rfl
 have d3 : ∀ y, y ≠ 21 -> y ≠ 133 -> look f3 y = look fl y := fun y h1 h2 => (c3 y h1 h2).trans (d2 y h1 h2)
 obtain ⟨f4, a4, b4, c4⟩ := zst (fl := f3) (k := 3) hc (by omega) ((d3 93 (by decide) (by decide)).trans g93) b3 ((d3 108 (by decide) (by decide)).trans g108) h7 rfl rfl
 refine ⟨f4, ?_, b4, fun y h1 h2 => (c4 y h1 h2).trans (d3 y h1 h2)⟩
 have hfor : ex cxL zsr fl hp = bd (forS kF 5 (.items [.int (.ofNat 0), .int (.ofNat 1), .int (.ofNat 2), .int (.ofNat 3)]) fl hp) (aftL (exs cxL [])) := rfl
 rw [hfor, zio a1, zio a2, zio a3, zio a4]; rfl
end
end
end Mine
end
noncomputable section
namespace Mine
section
open PySem PySem.W PyProof.Rows
structure LC (lw n0 n1 n2 n3 N : Nat) (rs1 rs2 : List Row) (laid : List (List Nat)) (fl : L) (hp : Hp) : Prop where
 f100 : look fl 100 = some (.int (.ofNat lw))
 f103 : look fl 103 = some (.ref 3)
 f104 : look fl 104 = some (.ref 4)
 f108 : look fl 108 = some (.ref 7)
 f109 : look fl 109 = some (.ref 8)
 f126 : look fl 126 = some (.ref N)
 f129 : look fl 129 = some (.ref (N + 1))
 f130 : look fl 130 = some (.ref (N + 3))
 f131 : look fl 131 = some (.ref (N + 5))
 hN : 9 ≤ N
 h3 : nth hp 3 = some (.list ((szL lw).map V.str))
 h4 : nth hp 4 = some (.list ((lnL lw).map V.str))
 h7 : nth hp 7 = some (.list (nanV [n0, n1, n2, n3]))
 h8 : nth hp 8 = some (.list (nanV [n0, n1, n2, n3]))
 a0 : nth hp N = some (.list ((zbk lw).map V.str))
 a1 : nth hp (N + 1) = some (.inst 277 [(65, .ref (N + 2))])
 a2 : nth hp (N + 2) = some (.list (rs1.map rowP))
 a3 : nth hp (N + 3) = some (.inst 277 [(65, .ref (N + 4))])
 a4 : nth hp (N + 4) = some (.list (rs2.map rowP))
 a5 : nth hp (N + 5) = some (.list (laid.map V.str))
theorem zj0 {F : V -> L -> Hp -> Option (Fl × L × Hp)} {I : Nat -> L -> Hp -> Prop} : ∀ (n i k : Nat) (fl : L) (hp : Hp), n < k -> I i fl hp -> (∀ c fl hp, i ≤ c -> c < i + n -> I c fl hp -> ∃ fl' hp', F (.int (.ofNat c)) fl hp = some (.next, fl', hp') /\ I (c + 1) fl' hp') ->
 ∃ fl' hp', forS F k (.items (zby n (.ofNat i))) fl hp = some (.dry, fl', hp') /\ I (i + n) fl' hp'
 | n, i, 0, fl, hp, h, _, _ => by omega
 | 0, i, k + 1, fl, hp, h, h0, _ => ⟨fl, hp, rfl, h0⟩
 | n + 1, i, k + 1, fl, hp, h, h0, H => by
  obtain ⟨fl1, hp1, e1, h1⟩ := H i fl hp (Nat.le_refl _) (by omega) h0
  obtain ⟨fl2, hp2, e2, h2⟩ := zj0 n (i + 1) k fl1 hp1 (by omega) h1 fun c fl hp a b => H c fl hp (by omega) (by omega)
  refine ⟨fl2, hp2, ?_, by rw [show i + (n + 1) = i + 1 + n by omega]; exact h2⟩
  rw [zo7, e1]
  exact e2
noncomputable def zg1 (lw n0 n1 n2 n3 : Nat) : Nat -> List Row
 | 0 => []
 | c + 1 => zg1 lw n0 n1 n2 n3 c ++ [(zc6 lw (comN n0 n1 n2 n3 c) c, WL lw c)]
theorem zd2 (lw n0 n1 n2 n3 : Nat) : ∀ c, (zg1 lw n0 n1 n2 n3 c).length = c
 | 0 => rfl
 | c + 1 => by rw [zg1, List.length_append, zd2 lw n0 n1 n2 n3 c]; rfl
section
variable {lw c n0 n1 n2 n3 N : Nat} {hp : Hp} {fl : L} {rs1 rs2 : List Row} {laid : List (List Nat)}
noncomputable def zl7 (y : Nat) : Bool := match Nat.beq y 100, Nat.beq y 103, Nat.beq y 104, Nat.beq y 108, Nat.beq y 109, Nat.beq y 126, Nat.beq y 129, Nat.beq y 130, Nat.beq y 131 with
 | false, false, false, false, false, false, false, false, false => false
 | _, _, _, _, _, _, _, _, _ => true
theorem LC.fl' {fl2 : L} (I : LC lw n0 n1 n2 n3 N rs1 rs2 laid fl hp) (h : ∀ y, zl7 y = true -> look fl2 y = look fl y) : LC lw n0 n1 n2 n3 N rs1 rs2 laid fl2 hp :=
 ⟨(h _ rfl).trans I.f100, (h _ rfl).trans I.f103, (h _ rfl).trans I.f104, (h _ rfl).trans I.f108, (h _ rfl).trans I.f109, (h _ rfl).trans I.f126, (h _ rfl).trans I.f129, (h _ rfl).trans I.f130, (h _ rfl).trans I.f131, I.hN, I.h3, I.h4, I.h7, I.h8, I.a0, I.a1, I.a2, I.a3, I.a4, I.a5⟩
theorem LC.set2 (I : LC lw n0 n1 n2 n3 N rs1 rs2 laid fl hp) (rs : List Row) : LC lw n0 n1 n2 n3 N rs rs2 laid fl (upd hp (N + 2) (.list (rs.map rowP))) := by
 have hN := I.hN
 have q : ∀ {m : Nat}, m ≠ N + 2 -> nth (upd hp (N + 2) (.list (rs.map rowP))) m = nth hp m := fun h => zbh _ (Ne.symm h)
 exact ⟨I.f100, I.f103, I.f104, I.f108, I.f109, I.f126, I.f129, I.f130, I.f131, I.hN, (q (by omega)).trans I.h3, (q (by omega)).trans I.h4, (q (by omega)).trans I.h7, (q (by omega)).trans I.h8, (q (by omega)).trans I.a0, (q (by omega)).trans I.a1, zay _ I.a2, (q (by omega)).trans I.a3, (q (by omega)).trans I.a4, (q (by omega)).trans I.a5⟩
theorem LC.set4 (I : LC lw n0 n1 n2 n3 N rs1 rs2 laid fl hp) (rs : List Row) : LC lw n0 n1 n2 n3 N rs1 rs laid fl (upd hp (N + 4) (.list (rs.map rowP))) := by
 have hN := I.hN
 have q : ∀ {m : Nat}, m ≠ N + 4 -> nth (upd hp (N + 4) (.list (rs.map rowP))) m = nth hp m := fun h => zbh _ (Ne.symm h)
 exact ⟨I.f100, I.f103, I.f104, I.f108, I.f109, I.f126, I.f129, I.f130, I.f131, I.hN, (q (by omega)).trans I.h3, (q (by omega)).trans I.h4, (q (by omega)).trans I.h7, (q (by omega)).trans I.h8, (q (by omega)).trans I.a0, (q (by omega)).trans I.a1, (q (by omega)).trans I.a2, (q (by omega)).trans I.a3, zay _ I.a4, (q (by omega)).trans I.a5⟩
theorem LC.set5 (I : LC lw n0 n1 n2 n3 N rs1 rs2 laid fl hp) (rs : List (List Nat)) : LC lw n0 n1 n2 n3 N rs1 rs2 rs fl (upd hp (N + 5) (.list (rs.map V.str))) := by
 have hN := I.hN
 have q : ∀ {m : Nat}, m ≠ N + 5 -> nth (upd hp (N + 5) (.list (rs.map V.str))) m = nth hp m := fun h => zbh _ (Ne.symm h)
 exact ⟨I.f100, I.f103, I.f104, I.f108, I.f109, I.f126, I.f129, I.f130, I.f131, I.hN, (q (by omega)).trans I.h3, (q (by omega)).trans I.h4, (q (by omega)).trans I.h7, (q (by omega)).trans I.h8, (q (by omega)).trans I.a0, (q (by omega)).trans I.a1, (q (by omega)).trans I.a2, (q (by omega)).trans I.a3, (q (by omega)).trans I.a4, zay _ I.a5⟩
theorem LC.app (I : LC lw n0 n1 n2 n3 N rs1 rs2 laid fl hp) (nw : Hp) : LC lw n0 n1 n2 n3 N rs1 rs2 laid fl (hp ++ nw) :=
 ⟨I.f100, I.f103, I.f104, I.f108, I.f109, I.f126, I.f129, I.f130, I.f131, I.hN, zai _ I.h3, zai _ I.h4, zai _ I.h7, zai _ I.h8, zai _ I.a0, zai _ I.a1, zai _ I.a2, zai _ I.a3, zai _ I.a4, zai _ I.a5⟩
theorem zb2 {y x : Nat} (h : zl7 y = true) (hx : zl7 x = false) : y ≠ x := fun e => by rw [e, hx] at h; cases h
theorem zkv (c : Nat) : Z.eqB (Int.fmod (Int.ofNat c) (Int.ofNat 2)) (Int.ofNat 1) = oddN c := by
 have e2 : Int.fmod (Int.ofNat c) (Int.ofNat 2) = Int.ofNat (c % 2) := (Int.ofNat_fmod _ _).symm
 rw [e2]; rfl
noncomputable def cF : V -> L -> Hp -> Option (Fl × L × Hp) := zca cxL (.name 93 261008261014) (exs cxL l14b)
theorem cturn (hl : lw < 26) (hc : c < 16) (hr : rs1.length ≤ 100) (I : LC lw n0 n1 n2 n3 N rs1 rs2 laid fl hp) :
 ∃ fl' hp', cF (.int (.ofNat c)) fl hp = some (.next, fl', hp') /\ LC lw n0 n1 n2 n3 N (rs1 ++ [(zc6 lw (comN n0 n1 n2 n3 c) c, WL lw c)]) rs2 laid fl' hp' := by
 have s1 : ex cxL zss (put fl 93 (.int (.ofNat c))) hp = some (.next, put (put fl 93 (.int (.ofNat c))) 133 (.int (.ofNat 7)), hp) := by simp only [zss, xAsg, goN, zaz, zy1, zy9, zy12, zv24, zw12, zq3, zq39, zq51, zq52, Nat.beq, Nat.ble]
 obtain ⟨f1, s2, g133, k1⟩ := kall (n0 := n0) (n1 := n1) (n2 := n2) (n3 := n3) (fl := put (put fl 93 (.int (.ofNat c))) 133 (.int (.ofNat 7))) (hp := hp) (c := c) hc (by simp [zaa]) (by simp [zaa]) (by simp [zaa, I.f108]) I.h7
 have k2 : ∀ y, y ≠ 21 -> y ≠ 133 -> y ≠ 93 -> look f1 y = look fl y := fun y h1 h2 h3 => (k1 y h1 h2).trans (by simp [zaa, h2, h3])
 have g93 : look f1 93 = some (.int (.ofNat c)) := (k1 93 (by decide) (by decide)).trans (by simp [zaa])
 have g126 : look f1 126 = some (.ref N) := (k2 126 (by decide) (by decide) (by decide)).trans I.f126
 have hcom := zpl n0 n1 n2 n3 c
 have hsub := zn2 hcom I.a0
 have hof := zkv c
 have hz2 : Z.eqB (Int.ofNat 2) 0 = false := rfl
 have hs2 : small (Int.ofNat 2) = true := rfl
 have s3 : ex cxL zsq f1 hp = some (.next, put f1 67 (.str (zc6 lw (comN n0 n1 n2 n3 c) c)), hp) := by
  have hlow : ∀ s : List Nat, s.map lowc = low s := fun _ => rfl
  have hns : zc6 lw (comN n0 n1 n2 n3 c) c = match oddN c with | true => low (WS lw (comN n0 n1 n2 n3 c)) | false => WS lw (comN n0 n1 n2 n3 c) := rfl
  cases ho : oddN c <;> rw [ho] at hof hns <;>
  simp only [zsq, xAsg, goN, hVar, Mine.h2, kBin, kCmp, kSub, hBin, tCmp, hIfe, hSub, hArg, zau, same, zaz, zy1, zy3, zy5, zy7, zy8, zy9, zy12, zy16, zv24, zv37, zv41, zv56, zv64, zw12, zq3, zq5, zq8, zq11, zq14, zq18, zq22, zq29, zq39, zq51, zq52, zu8, zu30, List.zip_nil_left, g93, g133, g126, hz2, hs2, hof, hsub, List.zip_nil_left, hlow, hns, Nat.beq, Nat.ble]
 have g129 : look (put f1 67 (.str (zc6 lw (comN n0 n1 n2 n3 c) c))) 129 = some (.ref (N + 1)) := by
  rw [zaa, if_neg (by decide)]; exact (k2 129 (by decide) (by decide) (by decide)).trans I.f129
 have g104 : look (put f1 67 (.str (zc6 lw (comN n0 n1 n2 n3 c) c))) 104 = some (.ref 4) := by
  rw [zaa, if_neg (by decide)]; exact (k2 104 (by decide) (by decide) (by decide)).trans I.f104
 have g67 : look (put f1 67 (.str (zc6 lw (comN n0 n1 n2 n3 c) c))) 67 = some (.str (zc6 lw (comN n0 n1 n2 n3 c) c)) := by simp [zaa]
 have g93' : look (put f1 67 (.str (zc6 lw (comN n0 n1 n2 n3 c) c))) 93 = some (.int (.ofNat c)) := by
  rw [zaa, if_neg (by decide)]; exact g93
 have hadd := zuh (nme := zc6 lw (comN n0 n1 n2 n3 c) c) (val := WL lw c) I.a1 I.a2 (nameOkc hl hcom) (zqc hl hc) (by omega) (zah (by have := zmm hl hc; omega))
 have hwl := sl_wl4 hl hc I.h4
 have k3 : ∀ y, zl7 y = true -> look (put f1 67 (.str (zc6 lw (comN n0 n1 n2 n3 c) c))) y = look fl y := fun y h => by
  rw [zaa, if_neg (zb2 h rfl)]
  exact k2 y (zb2 h rfl) (zb2 h rfl) (zb2 h rfl)
 generalize put f1 67 (.str (zc6 lw (comN n0 n1 n2 n3 c) c)) = f2 at *
 have s4 : ex cxL zsp f2 hp = some (.next, f2, upd hp (N + 2) (.list ((rs1 ++ [(zc6 lw (comN n0 n1 n2 n3 c) c, WL lw c)]).map rowP))) := by
  simp only [zsp, zbx, xIfe, xRet, hVar, hGlo, Mine.h2, kCmp, tCmp, hArg, zbc, zau, zal, zy1, zy3, zy7, zy8, zy17, zv34, zv35, zv39, zv45, zw4, zvo, zgm2, zgS, zq0, zq2, zq5, zq6, zq17, zq18, zq22, zq23, zq29, zq42, zq45, zq49, zq50, zq57, zq58, zq68, zq69, zx1, List.zip_nil_left, Nat.beq, g129, g104, g67, g93', I.a1, hwl, hadd, List.zip_nil_left, Nat.ble]
 have e0 : zc1 cxL (.name 93 261008261014) (.v (.int (.ofNat c))) fl hp = some (put fl 93 (.int (.ofNat c)), hp) := rfl
 exact ⟨f2, _, (by show exs cxL [zss, zsr, zsq, zsp] (put fl 93 (.int (.ofNat c))) hp = _; rw [zar s1, zar s2, zar s3, zar s4]; rfl), (I.fl' k3).set2 _⟩
theorem st14 (hl : lw < 26) (I : LC lw n0 n1 n2 n3 N [] rs2 laid fl hp) : ∃ fl' hp', ex cxL l14 fl hp = some (.next, fl', hp') /\ LC lw n0 n1 n2 n3 N (zg1 lw n0 n1 n2 n3 16) rs2 laid fl' hp' := by
 obtain ⟨fl', hp', e, h⟩ := zj0 (F := cF) (I := fun c fl hp => LC lw n0 n1 n2 n3 N (zg1 lw n0 n1 n2 n3 c) rs2 laid fl hp) 16 0 17 fl hp (by omega) I fun c fl hp _ hc J => cturn hl (by omega) (by rw [zd2]; omega) J
 refine ⟨fl', hp', ?_, h⟩
 have hfor : ex cxL l14 fl hp = bd (forS cF 17 (.items (zby 16 (.ofNat 0))) fl hp) (aftL (exs cxL [])) := rfl
 rw [hfor, e]; rfl
noncomputable def selB (c n : Nat) : Bool := Nat.beq (c &&& n) c
noncomputable def lmN (n0 n1 n2 n3 c : Nat) : Nat := (match selB c n0 with | true => 1 | false => 0) + (match selB c n1 with | true => 2 | false => 0) + (match selB c n2 with | true => 4 | false => 0) + (match selB c n3 with | true => 8 | false => 0)
theorem zig (n0 n1 n2 n3 c : Nat) : lmN n0 n1 n2 n3 c < 16 := by
 unfold lmN
 cases selB c n0 <;> cases selB c n1 <;> cases selB c n2 <;> cases selB c n3 <;> decide
noncomputable def zc0 (lw lm c : Nat) : List Nat := match oddN c with | true => low (WL lw lm) | false => WL lw lm
noncomputable def zfd (lw n0 n1 n2 n3 : Nat) : Nat -> List Row
 | 0 => []
 | c + 1 => zfd lw n0 n1 n2 n3 c ++ [(zc0 lw (lmN n0 n1 n2 n3 c) c, WS lw c)]
noncomputable def zdh (lw n0 n1 n2 n3 : Nat) : Nat -> List (List Nat)
 | 0 => []
 | c + 1 => zdh lw n0 n1 n2 n3 c ++ [zc0 lw (lmN n0 n1 n2 n3 c) c]
theorem zc3 (lw n0 n1 n2 n3 : Nat) : ∀ c, (zfd lw n0 n1 n2 n3 c).length = c
 | 0 => rfl
 | c + 1 => by rw [zfd, List.length_append, zc3 lw n0 n1 n2 n3 c]; rfl
theorem zd7 (lw n0 n1 n2 n3 : Nat) : ∀ c, (zdh lw n0 n1 n2 n3 c).length = c
 | 0 => rfl
 | c + 1 => by rw [zdh, List.length_append, zd7 lw n0 n1 n2 n3 c]; rfl
theorem zr0 (hl : lw < 26) {lm : Nat} (h : lm < 16) : okc okN (zc0 lw lm c) = true := by
 unfold zc0
 split
 · exact zfi (zqc hl h)
 · exact zqc hl h
end
end
end Mine
end
noncomputable section
namespace Mine
section
open PySem PySem.W PyProof.Rows
section
variable {lw c n0 n1 n2 n3 N : Nat} {hp : Hp} {fl : L} {rs1 rs2 : List Row} {laid : List (List Nat)}
noncomputable def dF : V -> L -> Hp -> Option (Fl × L × Hp) := zca cxL (.name 93 269008269014) (exs cxL l15b)
theorem r4_eq : zby 4 0 = [.int (.ofNat 0), .int (.ofNat 1), .int (.ofNat 2), .int (.ofNat 3)] := rfl
noncomputable def selV (c n lw k : Nat) : Option V := match selB c n with | true => some (.int (.ofNat (Nat.pow 2 (lw + 3 + k)))) | false => none
theorem comp4 {f : V -> Hp -> Option (Option V × Hp)} {g : Nat -> Option V} (H : ∀ k, k < 4 -> f (.int (.ofNat k)) hp = some (g k, hp)) : zbf f (len [V.int (.ofNat 0), .int (.ofNat 1), .int (.ofNat 2), .int (.ofNat 3)] + 1) (.items [.int (.ofNat 0), .int (.ofNat 1), .int (.ofNat 2), .int (.ofNat 3)]) hp = some (zbn (g 0) (zbn (g 1) (zbn (g 2) (zbn (g 3) []))), hp) :=
 zlf (H 0 (by omega)) (zlf (H 1 (by omega)) (zlf (H 2 (by omega)) (zlf (H 3 (by omega)) rfl)))
theorem sum_lm (lw c n0 n1 n2 n3 : Nat) : ∃ l, zd9 (zbn (selV c n0 lw 0) (zbn (selV c n1 lw 1) (zbn (selV c n2 lw 2) (zbn (selV c n3 lw 3) [])))) = some l /\ sumI l 0 = .ofNat (lmN n0 n1 n2 n3 c * Nat.pow 2 (lw + 3)) := by
 have p0 : Nat.pow 2 (lw + 3 + 0) = Nat.pow 2 (lw + 3) := rfl
 have p1 : Nat.pow 2 (lw + 3 + 1) = 2 * Nat.pow 2 (lw + 3) := by show 2 ^ (lw + 3 + 1) = 2 * 2 ^ (lw + 3); rw [Nat.pow_succ]; omega
 have p2 : Nat.pow 2 (lw + 3 + 2) = 4 * Nat.pow 2 (lw + 3) := by show 2 ^ (lw + 3 + 2) = 4 * 2 ^ (lw + 3); rw [Nat.pow_add]; omega
 have p3 : Nat.pow 2 (lw + 3 + 3) = 8 * Nat.pow 2 (lw + 3) := by show 2 ^ (lw + 3 + 3) = 8 * 2 ^ (lw + 3); rw [Nat.pow_add]; omega
 unfold selV lmN
 rw [p0, p1, p2, p3]
 generalize Nat.pow 2 (lw + 3) = P
 cases selB c n0 <;> cases selB c n1 <;> cases selB c n2 <;> cases selB c n3 <;>
  (refine ⟨_, rfl, ?_⟩; simp only [sumI, Int.ofNat_eq_natCast]; omega)
theorem zpi (a b c d : Option V) : len (zbn a (zbn b (zbn c (zbn d [])))) ≤ 4 := by
 cases a <;> cases b <;> cases c <;> cases d <;> simp [zbn, len]
noncomputable def gLm (lw c n0 n1 n2 n3 k : Nat) : Option V := match k with | 0 => selV c n0 lw 0 | 1 => selV c n1 lw 1 | 2 => selV c n2 lw 2 | _ => selV c n3 lw 3
theorem st15_1 (hl : lw < 26) (hc : c < 8) (g93 : look fl 93 = some (.int (.ofNat c))) (g109 : look fl 109 = some (.ref 8)) (g100 : look fl 100 = some (.int (.ofNat lw))) (h8 : nth hp 8 = some (.list (nanV [n0, n1, n2, n3]))) :
 ex cxL zso fl hp = some (.next, put fl 67 (.str (WL lw (lmN n0 n1 n2 n3 c))), hp) := by
 obtain ⟨l, a1, a2⟩ := sum_lm lw c n0 n1 n2 n3
 have hfit : fits (len (zbn (selV c n0 lw 0) (zbn (selV c n1 lw 1) (zbn (selV c n2 lw 2) (zbn (selV c n3 lw 3) []))))) = true := zah (by have := zpi (selV c n0 lw 0) (selV c n1 lw 1) (selV c n2 lw 2) (selV c n3 lw 3); omega)
 have sm : small (Int.ofNat 4) = true := rfl
 have z1 : Z.eqB 1 1 = true := rfl
 have hpl := sl_pl hl (zig n0 n1 n2 n3 c) hp
 simp only [zso, xAsg, goN, hGlo, hArg, zbc, zal, same, zaz, zy1, zy3, zy5, zy9, zy12, zy16, zv24, zv45, zv46, zw12, zw18, zw22, zg127, zg40, zg97, zgS, zq3, zq6, zq17, zq21, zq22, zq23, zq39, zq51, zq52, zq60, zq62, zu21, zrg0, zrg1, zrg2, srcC, zdu, List.zip_nil_left, Nat.beq, sm, z1, r4_eq, List.zip_nil_left, Nat.ble]
 rw [comp4 (g := gLm lw c n0 n1 n2 n3)]
 · simp only [gLm, hfit, zy1, zy3, zv24, zu14, zu25, a1, a2, hpl]
 · intro k hk
   have a3 : Int.ofNat lw + Int.ofNat 3 = Int.ofNat (lw + 3) := rfl
   have a3k : Int.ofNat (lw + 3) + Int.ofNat k = Int.ofNat (lw + 3 + k) := rfl
   have hb : Nat.blt (lw + 3 + k) 64 = true := Nat.ble_eq_true_of_le (by omega)
   have hm2 : Nat.beq 2 2 = true := rfl
   have e3 : ∀ n, Z.eqB (Int.ofNat (c &&& n)) (Int.ofNat c) = selB c n := fun _ => rfl
   obtain ⟨n, hn, hg⟩ : ∃ n, zes (.v (.ref 8)) (.v (.int (.ofNat k))) hp = some (.v (.int (.ofNat n))) /\ gLm lw c n0 n1 n2 n3 k = selV c n lw k := by
    match k, hk with
    | 0, _ => exact ⟨n0, by rw [zv67, zd6 h8]; rfl, rfl⟩
    | 1, _ => exact ⟨n1, by rw [zv67, zd6 h8]; rfl, rfl⟩
    | 2, _ => exact ⟨n2, by rw [zv67, zd6 h8]; rfl, rfl⟩
    | 3, _ => exact ⟨n3, by rw [zv67, zd6 h8]; rfl, rfl⟩
    | k + 4, h => exact absurd h (by omega)
   rw [hg]
   simp only [hVar, Mine.h2, kBin, kCmp, kSub, hBin, tCmp, hSub, tAnd, same, zaa, Nat.reduceEqDiff, if_true, if_false, zy1, zy3, zy5, zy7, zy8, zy9, zy12, zv1, zv47, zv56, zq3, zq5, zq8, zq14, zq29, zq35, zq36, zq68, zq69, zu1, zu32, zfl3, zcp, bindC, zlf_, g93, g109, g100, hn, bAnd2, e3, a3, a3k, hb, hm2, Nat.beq, Nat.ble]
   unfold selV
   cases selB c n <;> rfl
theorem st15_2 (g93 : look fl 93 = some (.int (.ofNat c))) (g131 : look fl 131 = some (.ref (N + 5))) {lm : Nat} (g67 : look fl 67 = some (.str (WL lw lm))) (a5 : nth hp (N + 5) = some (.list (laid.map V.str))) (hll : laid.length ≤ 100) :
 ex cxL zsn fl hp = some (.next, fl, upd hp (N + 5) (.list ((laid ++ [zc0 lw lm c]).map V.str))) := by
 have hof := zkv c
 have hz2 : Z.eqB (Int.ofNat 2) 0 = false := rfl
 have hs2 : small (Int.ofNat 2) = true := rfl
 have hlow : ∀ s : List Nat, s.map lowc = low s := fun _ => rfl
 have hns : zc0 lw lm c = match oddN c with | true => low (WL lw lm) | false => WL lw lm := rfl
 have hf : fits (len laid) = true := zah (by rw [zag]; omega)
 cases ho : oddN c <;> rw [ho] at hof hns <;>
  simp only [zsn, xEx, hVar, Mine.h2, kBin, kCmp, hBin, tCmp, hIfe, hArg, zau, zal, same, lisA, zy1, zy3, zy5, zy7, zy8, zy12, zy16, zv21, zv24, zv34, zv36, zv37, zv40, zv41, zv56, zv64, zv65, zq3, zq5, zq8, zq11, zq18, zq22, zq23, zq29, zq40, zu8, zu30, List.zip_nil_left, g93, g131, g67, hz2, hs2, hof, List.zip_nil_left, hlow, hns, a5, zao, hf, List.map_append, List.map_cons, List.map_nil, Nat.beq, Nat.ble]
theorem st15_3 (hl : lw < 26) (hc : c < 8) (g93 : look fl 93 = some (.int (.ofNat c))) (g131 : look fl 131 = some (.ref (N + 5))) (g130 : look fl 130 = some (.ref (N + 3))) (g103 : look fl 103 = some (.ref 3)) {x : List Nat} (hx : okc okN x = true)
 (a5 : nth hp (N + 5) = some (.list ((laid ++ [x]).map V.str))) (a3 : nth hp (N + 3) = some (.inst 277 [(65, .ref (N + 4))])) (a4 : nth hp (N + 4) = some (.list (rs2.map rowP))) (h3 : nth hp 3 = some (.list ((szL lw).map V.str))) (hr : rs2.length ≤ 100) :
 ex cxL zsm fl hp = some (.next, fl, upd hp (N + 4) (.list ((rs2 ++ [(x, WS lw c)]).map rowP))) := by
 have hadd := zuh (nme := x) (val := WS lw c) a3 a4 hx (zqb hl hc) (by omega) (zah (by have := zmk hl hc; omega))
 have hws := zug hl hc h3
 have hneg : Int.neg (Int.ofNat 1) = Int.negSucc 0 := rfl
 have hidx : idx (Int.negSucc 0) (len (laid ++ [x])) = some (len laid) := by
  rw [zbr]
  have : Nat.blt 0 (len laid + len [x]) = true := Nat.ble_eq_true_of_le (by simp [len])
  simp only [idx, this, len]
  rfl
 have hnth : nth ((laid ++ [x]).map V.str) (len laid) = some (.str x) := by
  rw [zct, zb8]; rfl
 simp only [zsm, xEx, hVar, hGlo, Mine.h2, kSub, hSub, hArg, zbc, zau, zal, same, lisA, zy1, zy3, zy7, zy8, zy17, zv21, zv34, zv35, zv39, zv45, zv67, zvo, zgm2, zgS, zq5, zq6, zq9, zq14, zq17, zq18, zq22, zq23, zq40, zq57, zq58, zq68, zq69, List.zip_nil_left, Nat.beq, g93, g131, g130, g103, a3, hneg, a5, zao, hidx, hnth, hws, hadd, List.zip_nil_left, Nat.ble]
theorem dturn (hl : lw < 26) (hc : c < 8) (hr : rs2.length ≤ 100) (hll : laid.length ≤ 100) (I : LC lw n0 n1 n2 n3 N rs1 rs2 laid fl hp) :
 ∃ fl' hp', dF (.int (.ofNat c)) fl hp = some (.next, fl', hp') /\ LC lw n0 n1 n2 n3 N rs1 (rs2 ++ [(zc0 lw (lmN n0 n1 n2 n3 c) c, WS lw c)]) (laid ++ [zc0 lw (lmN n0 n1 n2 n3 c) c]) fl' hp' := by
 have s1 := st15_1 (fl := put fl 93 (.int (.ofNat c))) (hp := hp) (n0 := n0) (n1 := n1) (n2 := n2) (n3 := n3) hl hc (by simp [zaa]) (by simp [zaa, I.f109]) (by simp [zaa, I.f100]) I.h8
 have k3 : ∀ y, zl7 y = true -> look (put (put fl 93 (.int (.ofNat c))) 67 (.str (WL lw (lmN n0 n1 n2 n3 c)))) y = look fl y := fun y h => by
  rw [zaa, if_neg (zb2 h rfl), zaa, if_neg (zb2 h rfl)]
 have g93 : look (put (put fl 93 (.int (.ofNat c))) 67 (.str (WL lw (lmN n0 n1 n2 n3 c)))) 93 = some (.int (.ofNat c)) := by simp [zaa]
 have g67 : look (put (put fl 93 (.int (.ofNat c))) 67 (.str (WL lw (lmN n0 n1 n2 n3 c)))) 67 = some (.str (WL lw (lmN n0 n1 n2 n3 c))) := by simp [zaa]
 generalize put (put fl 93 (.int (.ofNat c))) 67 (.str (WL lw (lmN n0 n1 n2 n3 c))) = f2 at *
 have I2 := I.fl' k3
 have s2 := st15_2 (fl := f2) (hp := hp) (laid := laid) g93 I2.f131 g67 I.a5 hll
 have I3 := I2.set5 (laid ++ [zc0 lw (lmN n0 n1 n2 n3 c) c])
 have s3 := st15_3 (fl := f2) (N := N) (laid := laid) (rs2 := rs2) hl hc g93 I3.f131 I3.f130 I3.f103 (zr0 (c := c) hl (zig n0 n1 n2 n3 c)) I3.a5 I3.a3 I3.a4 I3.h3 hr
 have e0 : zc1 cxL (.name 93 269008269014) (.v (.int (.ofNat c))) fl hp = some (put fl 93 (.int (.ofNat c)), hp) := rfl
 exact ⟨f2, _, (by show exs cxL [zso, zsn, zsm] (put fl 93 (.int (.ofNat c))) hp = _; rw [zar s1, zar s2, zar s3]; rfl), I3.set4 _⟩
theorem st15 (hl : lw < 26) (I : LC lw n0 n1 n2 n3 N rs1 [] [] fl hp) : ∃ fl' hp', ex cxL l15 fl hp = some (.next, fl', hp') /\ LC lw n0 n1 n2 n3 N rs1 (zfd lw n0 n1 n2 n3 8) (zdh lw n0 n1 n2 n3 8) fl' hp' := by
 obtain ⟨fl', hp', e, h⟩ := zj0 (F := dF) (I := fun c fl hp => LC lw n0 n1 n2 n3 N rs1 (zfd lw n0 n1 n2 n3 c) (zdh lw n0 n1 n2 n3 c) fl hp) 8 0 9 fl hp (by omega) I fun c fl hp _ hc J => dturn hl (by omega) (by rw [zc3]; omega) (by rw [zd7]; omega) J
 refine ⟨fl', hp', ?_, h⟩
 have hfor : ex cxL l15 fl hp = bd (forS dF 9 (.items (zby 8 (.ofNat 0))) fl hp) (aftL (exs cxL [])) := rfl
 rw [hfor, e]; rfl
end
end
end Mine
end
noncomputable section
namespace Mine
section
open PySem PySem.W PyProof.Rows
noncomputable def upp (s : List Nat) : List Nat := s.map uppc
theorem zn7 (c : Nat) : lowc (lowc c) = lowc c := by
 unfold lowc
 cases h1 : Nat.ble 65 c with
 | false => simp only [h1]
 | true =>
  cases h2 : Nat.ble c 90 with
  | false => simp only [h1, h2]
  | true =>
   have h1 := Nat.le_of_ble_eq_true h1
   have h2 := Nat.le_of_ble_eq_true h2
   have e1 : Nat.ble 65 (c + 32) = true := Nat.ble_eq_true_of_le (by omega)
   have e2 : Nat.ble (c + 32) 90 = false := by
    cases z : Nat.ble (c + 32) 90 with
    | false => rfl
    | true => have := Nat.le_of_ble_eq_true z; omega
   simp only [e1, e2]
theorem zn6 (c : Nat) : lowc (uppc c) = lowc c := by
 unfold uppc
 cases h1 : Nat.ble 97 c with
 | false => rfl
 | true =>
  cases h2 : Nat.ble c 122 with
  | false => rfl
  | true =>
   have h1 := Nat.le_of_ble_eq_true h1
   have h2 := Nat.le_of_ble_eq_true h2
   unfold lowc
   have e1 : Nat.ble 65 (c - 32) = true := Nat.ble_eq_true_of_le (by omega)
   have e2 : Nat.ble (c - 32) 90 = true := Nat.ble_eq_true_of_le (by omega)
   have e3 : Nat.ble 65 c = true := Nat.ble_eq_true_of_le (by omega)
   have e4 : Nat.ble c 90 = false := by
    cases z : Nat.ble c 90 with
    | false => rfl
    | true => have := Nat.le_of_ble_eq_true z; omega
   simp only [e1, e2, e3, e4]
   omega
theorem zmq (c : Nat) : uppc (lowc c) = uppc c := by
 unfold lowc
 cases h1 : Nat.ble 65 c with
 | false => rfl
 | true =>
  cases h2 : Nat.ble c 90 with
  | false => rfl
  | true =>
   have h1 := Nat.le_of_ble_eq_true h1
   have h2 := Nat.le_of_ble_eq_true h2
   unfold uppc
   have e1 : Nat.ble 97 (c + 32) = true := Nat.ble_eq_true_of_le (by omega)
   have e2 : Nat.ble (c + 32) 122 = true := Nat.ble_eq_true_of_le (by omega)
   have e3 : Nat.ble 97 c = false := by
    cases z : Nat.ble 97 c with
    | false => rfl
    | true => have := Nat.le_of_ble_eq_true z; omega
   simp only [e1, e2, e3]
   omega
theorem zha (s : List Nat) : low (low s) = low s := by simp [low, zn7]
theorem zn8 (s : List Nat) : low (upp s) = low s := by simp [low, upp, zn6]
theorem zv8 (s : List Nat) : upp (low s) = upp s := by simp [low, upp, zmq]
theorem ws_inj : allN 26 (fun lw => allN 8 fun a => allN 8 fun b => beqB (leq (low (WS lw a)) (low (WS lw b))) (Nat.beq a b)) = true := by decide +kernel
theorem wl_inj : allN 26 (fun lw => allN 16 fun a => allN 16 fun b => beqB (leq (low (WL lw a)) (low (WL lw b))) (Nat.beq a b)) = true := by decide +kernel
theorem zvx : allN 26 (fun lw => allN 16 fun a => allN 16 fun b => beqB (leq (upp (WL lw a)) (upp (WL lw b))) (Nat.beq a b)) = true := by decide +kernel
noncomputable def oddT (c : Nat) : Bool := match Nat.beq c 0 with | true => true | false => Nat.beq ((c % 2 + c / 2 % 2 + c / 4 % 2 + c / 8 % 2) % 2) 1
theorem ws_odd : allN 26 (fun lw => allN 8 fun a => beqB (oddR (WS lw a)) (oddT a)) = true := by decide +kernel
theorem wl_odd : allN 26 (fun lw => allN 16 fun a => beqB (oddR (WL lw a)) (oddT a)) = true := by decide +kernel
theorem ziv {a b : Bool} (h : beqB a b = true) : a = b := by cases a <;> cases b <;> first | rfl | cases h
section
variable {lw a b : Nat}
theorem ws_leq (hl : lw < 26) (ha : a < 8) (hb : b < 8) : leq (low (WS lw a)) (low (WS lw b)) = Nat.beq a b :=
 ziv (zad (p := fun b => beqB (leq (low (WS lw a)) (low (WS lw b))) (Nat.beq a b)) (zad (p := fun a => allN 8 fun b => beqB (leq (low (WS lw a)) (low (WS lw b))) (Nat.beq a b)) (zad (p := fun lw => allN 8 fun a => allN 8 fun b => beqB (leq (low (WS lw a)) (low (WS lw b))) (Nat.beq a b)) ws_inj lw hl) a ha) b hb)
theorem wl_leq (hl : lw < 26) (ha : a < 16) (hb : b < 16) : leq (low (WL lw a)) (low (WL lw b)) = Nat.beq a b :=
 ziv (zad (p := fun b => beqB (leq (low (WL lw a)) (low (WL lw b))) (Nat.beq a b)) (zad (p := fun a => allN 16 fun b => beqB (leq (low (WL lw a)) (low (WL lw b))) (Nat.beq a b)) (zad (p := fun lw => allN 16 fun a => allN 16 fun b => beqB (leq (low (WL lw a)) (low (WL lw b))) (Nat.beq a b)) wl_inj lw hl) a ha) b hb)
theorem zvw (hl : lw < 26) (ha : a < 16) (hb : b < 16) : leq (upp (WL lw a)) (upp (WL lw b)) = Nat.beq a b :=
 ziv (zad (p := fun b => beqB (leq (upp (WL lw a)) (upp (WL lw b))) (Nat.beq a b)) (zad (p := fun a => allN 16 fun b => beqB (leq (upp (WL lw a)) (upp (WL lw b))) (Nat.beq a b)) (zad (p := fun lw => allN 16 fun a => allN 16 fun b => beqB (leq (upp (WL lw a)) (upp (WL lw b))) (Nat.beq a b)) zvx lw hl) a ha) b hb)
theorem zvt (hl : lw < 26) (ha : a < 8) : oddR (WS lw a) = oddT a := ziv (zad (p := fun a => beqB (oddR (WS lw a)) (oddT a)) (zad (p := fun lw => allN 8 fun a => beqB (oddR (WS lw a)) (oddT a)) ws_odd lw hl) a ha)
theorem zvv (hl : lw < 26) (ha : a < 16) : oddR (WL lw a) = oddT a := ziv (zad (p := fun a => beqB (oddR (WL lw a)) (oddT a)) (zad (p := fun lw => allN 16 fun a => beqB (oddR (WL lw a)) (oddT a)) wl_odd lw hl) a ha)
theorem zn9 (lw com c : Nat) : low (zc6 lw com c) = low (WS lw com) := by unfold zc6; split <;> simp only [zha]
theorem zoa (lw lm c : Nat) : low (zc0 lw lm c) = low (WL lw lm) := by unfold zc0; split <;> simp only [zha]
theorem zh0 (lw lm c : Nat) : upp (zc0 lw lm c) = upp (WL lw lm) := by unfold zc0; split <;> simp only [zv8]
theorem zhk (nme : List Nat) : ∀ (r q : List Row), getR nme (r ++ q) = getR nme r ++ getR nme q
 | [], q => rfl
 | p :: r, q => by
  have ih := zhk nme r q
  simp only [List.cons_append, getR]
  cases leq (low p.1) nme with
  | true => simp only [ih, List.cons_append]
  | false => exact ih
noncomputable def selA (n0 n1 n2 n3 v : Nat) : Nat -> List Nat
 | 0 => []
 | c + 1 => match Nat.beq (comN n0 n1 n2 n3 c) v with | true => selA n0 n1 n2 n3 v c ++ [c] | false => selA n0 n1 n2 n3 v c
noncomputable def selM (n0 n1 n2 n3 m : Nat) : Nat -> List Nat
 | 0 => []
 | c + 1 => match Nat.beq (lmN n0 n1 n2 n3 c) m with | true => selM n0 n1 n2 n3 m c ++ [c] | false => selM n0 n1 n2 n3 m c
theorem get_A (hl : lw < 26) (n0 n1 n2 n3 : Nat) {v : Nat} (hv : v < 8) : ∀ c, getR (low (WS lw v)) (zg1 lw n0 n1 n2 n3 c) = (selA n0 n1 n2 n3 v c).map (WL lw)
 | 0 => rfl
 | c + 1 => by
  rw [zg1, zhk, get_A hl n0 n1 n2 n3 hv c]
  simp only [getR, zn9, ws_leq hl (zpl n0 n1 n2 n3 c) hv, selA]
  cases Nat.beq (comN n0 n1 n2 n3 c) v with
  | true => simp only [List.map_append, List.map_cons, List.map_nil]
  | false => simp only [List.append_nil]
theorem get_M (hl : lw < 26) (n0 n1 n2 n3 : Nat) {m : Nat} (hm : m < 16) : ∀ c, getR (low (WL lw m)) (zfd lw n0 n1 n2 n3 c) = (selM n0 n1 n2 n3 m c).map (WS lw)
 | 0 => rfl
 | c + 1 => by
  rw [zfd, zhk, get_M hl n0 n1 n2 n3 hm c]
  simp only [getR, zoa, wl_leq hl (zig n0 n1 n2 n3 c) hm, selM]
  cases Nat.beq (lmN n0 n1 n2 n3 c) m with
  | true => simp only [List.map_append, List.map_cons, List.map_nil]
  | false => simp only [List.append_nil]
noncomputable def memN (x : Nat) : List Nat -> Bool
 | [] => false
 | y :: r => match Nat.beq y x with | true => true | false => memN x r
noncomputable def kdN (n0 n1 n2 n3 : Nat) : Nat -> List Nat
 | 0 => []
 | c + 1 => match memN (lmN n0 n1 n2 n3 c) (kdN n0 n1 n2 n3 c) with | true => kdN n0 n1 n2 n3 c | false => kdN n0 n1 n2 n3 c ++ [lmN n0 n1 n2 n3 c]
noncomputable def zl8 (l : List Nat) : Bool := match l with | [] => true | _ :: _ => false
noncomputable def zb0 : List Nat -> Nat
 | [] => 99
 | [x] => x
 | _ :: y :: r => zb0 (y :: r)
noncomputable def zit (n0 n1 n2 n3 : Nat) : Nat -> Nat
 | 0 => 0
 | v + 1 => match zl8 (selA n0 n1 n2 n3 v 16) with | true => zit n0 n1 n2 n3 v | false => zit n0 n1 n2 n3 v + 1
noncomputable def cntT : List Nat -> Nat
 | [] => 0
 | x :: r => match oddT x with | true => cntT r + 1 | false => cntT r
noncomputable def zic (n0 n1 n2 n3 : Nat) : Bool :=
 match allN 8 (fun v => match zl8 (selA n0 n1 n2 n3 v 16) with | true => true | false => Nat.beq (zb0 (selM n0 n1 n2 n3 (zb0 (selA n0 n1 n2 n3 v 16)) 8)) v) with
 | true => (match Nat.beq (zit n0 n1 n2 n3 8) (len (kdN n0 n1 n2 n3 8)) with
  | true => Nat.beq (len (selA n0 n1 n2 n3 0 16) + 2 * cntT (selM n0 n1 n2 n3 0 8)) (len (selM n0 n1 n2 n3 0 8) + 2 * cntT (selA n0 n1 n2 n3 0 16))
  | false => false)
 | false => false
noncomputable def ok3 (n0 n1 : Nat) : Bool := allN 8 fun n2 => allN 8 fun n3 => zic n0 n1 n2 n3
theorem ok_0 : allN 8 (fun n1 => ok3 0 n1) = true := by decide +kernel
theorem ok_1 : allN 8 (fun n1 => ok3 1 n1) = true := by decide +kernel
theorem ok_2 : allN 8 (fun n1 => ok3 2 n1) = true := by decide +kernel
theorem ok_3 : allN 8 (fun n1 => ok3 3 n1) = true := by decide +kernel
theorem ok_4 : allN 8 (fun n1 => ok3 4 n1) = true := by decide +kernel
theorem ok_5 : allN 8 (fun n1 => ok3 5 n1) = true := by decide +kernel
theorem ok_6 : allN 8 (fun n1 => ok3 6 n1) = true := by decide +kernel
theorem ok_7 : allN 8 (fun n1 => ok3 7 n1) = true := by decide +kernel
theorem zvl : ∀ {n : Nat} {p : Nat -> Bool}, (∀ i, i < n -> p i = true) -> allN n p = true
 | 0, _, _ => rfl
 | n + 1, p, h => by
  unfold allN
  rw [h n (Nat.lt_succ_self n)]
  exact zvl fun i hi => h i (Nat.lt_succ_of_lt hi)
theorem ok_all : allN 8 (fun n0 => allN 8 fun n1 => allN 8 fun n2 => allN 8 fun n3 => zic n0 n1 n2 n3) = true := zvl fun i hi => match i, hi with
 | 0, _ => ok_0
 | 1, _ => ok_1
 | 2, _ => ok_2
 | 3, _ => ok_3
 | 4, _ => ok_4
 | 5, _ => ok_5
 | 6, _ => ok_6
 | 7, _ => ok_7
end
end
end Mine
end
noncomputable section
namespace Mine
section
open PySem PySem.W PyProof.Rows
theorem zhm {F : V -> L -> Hp -> Option (Fl × L × Hp)} {I : Nat -> L -> Hp -> Prop} {xs : List V} {r : Nat} (hI : ∀ i fl hp, I i fl hp -> nth hp r = some (.list xs)) : ∀ (m i k : Nat) (fl : L) (hp : Hp), i + m = len xs -> m < k -> I i fl hp -> (∀ i v fl hp, nth xs i = some v -> I i fl hp -> ∃ fl' hp', F v fl hp = some (.next, fl', hp') /\ I (i + 1) fl' hp') ->
 ∃ fl' hp', forS F k (.live r i) fl hp = some (.dry, fl', hp') /\ I (len xs) fl' hp'
 | m, i, 0, fl, hp, _, h, _, _ => by omega
 | 0, i, k + 1, fl, hp, hm, h, h0, _ => by
  have hn : nth xs i = none := by rw [zbd]; exact List.getElem?_eq_none (by rw [← zag]; omega)
  have hi : i = len xs := by omega
  refine ⟨fl, hp, ?_, hi ▸ h0⟩
  exact for_lv0 (hI i fl hp h0) hn
 | m + 1, i, k + 1, fl, hp, hm, h, h0, H => by
  obtain ⟨v, hv⟩ : ∃ v, nth xs i = some v := by
   rw [zbd]
   exact ⟨_, List.getElem?_eq_getElem (by rw [← zag]; omega)⟩
  obtain ⟨fl1, hp1, e1, h1⟩ := H i v fl hp hv h0
  obtain ⟨fl2, hp2, e2, h2⟩ := zhm hI m (i + 1) k fl1 hp1 (by omega) (by omega) h1 H
  refine ⟨fl2, hp2, ?_, h2⟩
  exact (for_lv1 (hI i fl hp h0) hv e1).trans e2
section
variable {lw c n0 n1 n2 n3 N rK q v : Nat} {hp : Hp} {fl : L} {rs1 rs2 : List Row} {laid kinds : List (List Nat)}
structure LD (lw n0 n1 n2 n3 N rK q : Nat) (kinds : List (List Nat)) (fl : L) (hp : Hp) : Prop where
 C : LC lw n0 n1 n2 n3 N (zg1 lw n0 n1 n2 n3 16) (zfd lw n0 n1 n2 n3 8) (zdh lw n0 n1 n2 n3 8) fl hp
 f135 : look fl 135 = some (.int (.ofNat q))
 f136 : look fl 136 = some (.ref rK)
 hK : N + 5 < rK
 aK : nth hp rK = some (.list (kinds.map V.str))
theorem st16 (I : LC lw n0 n1 n2 n3 N (zg1 lw n0 n1 n2 n3 16) (zfd lw n0 n1 n2 n3 8) (zdh lw n0 n1 n2 n3 8) fl hp) : ∃ fl', ex cxL l16 fl hp = some (.next, fl', hp ++ [.list []]) /\ LD lw n0 n1 n2 n3 N (len hp) 0 [] fl' (hp ++ [.list []]) := by
 refine ⟨put (put fl 135 (.int (.ofNat 0))) 136 (.ref (len hp)), by simp only [l16, xAsg, goN, hLst, hTup, zal, bTpl, zy1, zy9, zy12, zv24, zv25, zv32, zw13, zq3, zq12, zq13, zq22, zq23, zq39, zq51, zq52, zq53, zq54, zq55, zq56, Nat.beq, Nat.ble], (I.app _).fl' fun y h => ?_, by simp [zaa], by simp [zaa], ?_, zb8 hp _⟩
 · rw [zaa, if_neg (zb2 h rfl), zaa, if_neg (zb2 h rfl)]
 · have := zdk I.a5
   rw [zag]; exact this
theorem zhd : ∀ (l : List Nat), l ≠ [] -> nth l (len l - 1) = some (zb0 l)
 | [], h => absurd rfl h
 | [x], _ => rfl
 | x :: y :: r, _ => by
  have ih := zhd (y :: r) (by simp)
  simp only [len, Nat.add_sub_cancel] at ih ⊢
  show nth (y :: r) (len r) = _
  simpa [zb0] using ih
theorem zgw : ∀ c, ∀ x ∈ selA n0 n1 n2 n3 v c, x < c
 | 0, x, h => by cases h
 | c + 1, x, h => by
  simp only [selA] at h
  split at h
  · rcases List.mem_append.mp h with h | h
    · have := zgw c x h; omega
    · rw [List.mem_singleton.mp h]; omega
  · have := zgw c x h; omega
theorem zjb : ∀ c, ∀ x ∈ selM n0 n1 n2 n3 v c, x < c
 | 0, x, h => by cases h
 | c + 1, x, h => by
  simp only [selM] at h
  split at h
  · rcases List.mem_append.mp h with h | h
    · have := zjb c x h; omega
    · rw [List.mem_singleton.mp h]; omega
  · have := zjb c x h; omega
theorem zih : ∀ (l : List Nat), l ≠ [] -> zb0 l ∈ l
 | [], h => absurd rfl h
 | [x], _ => by simp [zb0]
 | x :: y :: r, _ => by
  have := zih (y :: r) (by simp)
  simp only [zb0, List.mem_cons] at this ⊢
  exact .inr this
theorem zgx : ∀ c, (selA n0 n1 n2 n3 v c).length ≤ c
 | 0 => Nat.le_refl _
 | c + 1 => by
  have := zgx c
  simp only [selA]
  split
  · simp; omega
  · omega
theorem zgv : ∀ c, (selM n0 n1 n2 n3 v c).length ≤ c
 | 0 => Nat.le_refl _
 | c + 1 => by
  have := zgv c
  simp only [selM]
  split
  · simp; omega
  · omega
theorem zth {l : List Nat} (f : Nat -> List Nat) (h : l ≠ []) : cut ((l.map f).map V.str) (len l - 1) (len l) = [V.str (f (zb0 l))] := by
 have h1 := zhd l h
 unfold cut
 have hl : len l - (len l - 1) = 1 := by
  cases l with
  | nil => exact absurd rfl h
  | cons x r => simp only [len]; omega
 rw [hl, List.map_map]
 have h2 : ((l.map (V.str ∘ f)).drop (len l - 1)) = [V.str (f (zb0 l))] := by
  rw [← List.map_drop]
  have : l.drop (len l - 1) = [zb0 l] := by
   clear hl h1
   induction l with
   | nil => exact absurd rfl h
   | cons x r ih =>
    cases r with
    | nil => rfl
    | cons y r =>
     have := ih (by simp)
     simp only [len, Nat.add_sub_cancel] at this ⊢
     rw [List.drop_succ_cons]
     simpa [zb0] using this
  rw [this]; rfl
 rw [h2]; rfl
noncomputable def eF : V -> L -> Hp -> Option (Fl × L × Hp) := zca cxL (.name 67 274008274012) (exs cxL l17b)
theorem zqu {l : List Nat} {g : Nat -> List Nat} {r : Nat} (h : nth hp r = some (.list ((l.map g).map V.str))) (hne : l ≠ []) : zes (.v (.ref r)) (.v (.int (.negSucc 0))) hp = some (.v (.str (g (zb0 l)))) := by
 have hb : Nat.blt 0 (len l) = true := by
  cases l with
  | nil => exact absurd rfl hne
  | cons x r => exact Nat.ble_eq_true_of_le (by simp only [len]; omega)
 have hn : nth ((l.map g).map V.str) (len l - 1) = some (.str (g (zb0 l))) := by
  have := zhd l hne
  rw [zbd] at this ⊢
  rw [List.getElem?_map, List.getElem?_map, this]; rfl
 have hi : idx (.negSucc 0) (len ((l.map g).map V.str)) = some (len l - 1) := by
  rw [zao, zao]
  show cs (Nat.blt 0 (len l)) (some (len l - (0 + 1))) none = _
  rw [hb]; rfl
 rw [zv67, zd6 h]
 show bd (idx (.negSucc 0) (len ((l.map g).map V.str))) _ = _
 rw [hi]
 show bd (nth _ _) _ = _
 rw [hn]; rfl
theorem LD.fl' {fl2 : L} (I : LD lw n0 n1 n2 n3 N rK q kinds fl hp) {q2 : Nat} (h : ∀ y, zl7 y = true -> look fl2 y = look fl y) (h1 : look fl2 135 = some (.int (.ofNat q2))) (h2 : look fl2 136 = some (.ref rK)) : LD lw n0 n1 n2 n3 N rK q2 kinds fl2 hp :=
 ⟨I.C.fl' h, h1, h2, I.hK, I.aK⟩
theorem LD.app (I : LD lw n0 n1 n2 n3 N rK q kinds fl hp) (nw : Hp) : LD lw n0 n1 n2 n3 N rK q kinds fl (hp ++ nw) :=
 ⟨I.C.app nw, I.f135, I.f136, I.hK, zai _ I.aK⟩
theorem eturn (hl : lw < 26) (hv : v < 8) (A1 : zl8 (selA n0 n1 n2 n3 v 16) = false -> zb0 (selM n0 n1 n2 n3 (zb0 (selA n0 n1 n2 n3 v 16)) 8) = v) (I : LD lw n0 n1 n2 n3 N rK q [] fl hp) :
 ∃ fl' hp', eF (.str (WS lw v)) fl hp = some (.next, fl', hp') /\ LD lw n0 n1 n2 n3 N rK (match zl8 (selA n0 n1 n2 n3 v 16) with | true => q | false => q + 1) [] fl' hp' := by
 have hC := I.C
 have hup : ∀ s : List Nat, s.map uppc = upp s := fun _ => rfl
 have hlo : ∀ s : List Nat, s.map lowc = low s := fun _ => rfl
 have ga := zdd (s := upp (WS lw v)) hC.a1 hC.a2 (by rw [zn8]; exact zfi (zqb hl hv)) (by rw [zd2]; omega)
 rw [zn8, get_A hl n0 n1 n2 n3 hv 16] at ga
 have s1 : ex cxL zoi (put fl 67 (.str (WS lw v))) hp = some (.next, put (put fl 67 (.str (WS lw v))) 94 (.ref (len hp)), hp ++ [.list (((selA n0 n1 n2 n3 v 16).map (WL lw)).map V.str)]) := by
  simp only [zoi, xAsg, goN, hVar, hArg, zau, zal, same, zaz, zaa, Nat.reduceEqDiff, if_true, if_false, zy1, zy3, zy7, zy8, zy9, zy12, zy16, zy17, zv24, zv25, zv34, zv35, zv37, zv39, zv41, zw12, zgm2, zgS, zq5, zq18, zq22, zq23, zq39, zq51, zq52, zq57, zq58, zq68, zq69, zu9, List.zip_nil_left, Nat.beq, hC.f129, hC.a1, hup, ga, List.zip_nil_left, Nat.ble]
 have J := I.app [.list (((selA n0 n1 n2 n3 v 16).map (WL lw)).map V.str)]
 have hr : nth (hp ++ [O.list (((selA n0 n1 n2 n3 v 16).map (WL lw)).map V.str)]) (len hp) = some (.list (((selA n0 n1 n2 n3 v 16).map (WL lw)).map V.str)) := zb8 hp _
 have e0 : zc1 cxL (.name 67 274008274012) (.v (.str (WS lw v))) fl hp = some (put fl 67 (.str (WS lw v)), hp) := rfl
 have k2 : ∀ y, y ≠ 67 -> y ≠ 94 -> look (put (put fl 67 (.str (WS lw v))) 94 (.ref (len hp))) y = look fl y := fun y h1 h2 => by simp [zaa, h1, h2]
 have g94 : look (put (put fl 67 (.str (WS lw v))) 94 (.ref (len hp))) 94 = some (.ref (len hp)) := by simp [zaa]
 have g67 : look (put (put fl 67 (.str (WS lw v))) 94 (.ref (len hp))) 67 = some (.str (WS lw v)) := by simp [zaa]
 have hA2 := zgw (n0 := n0) (n1 := n1) (n2 := n2) (n3 := n3) (v := v) 16
 have hAl := zgx (n0 := n0) (n1 := n1) (n2 := n2) (n3 := n3) (v := v) 16
 generalize hrr : len hp = r at *
 generalize hfl2 : put (put fl 67 (.str (WS lw v))) 94 (.ref r) = fl2 at *
 generalize hS : selA n0 n1 n2 n3 v 16 = S at *
 have hpS := zc4 (S.map (WL lw))
 have J2 : LD lw n0 n1 n2 n3 N rK q [] fl2 (hp ++ [O.list ((S.map (WL lw)).map V.str)]) := J.fl' (fun y h => k2 y (zb2 h rfl) (zb2 h rfl)) ((k2 135 (by decide) (by decide)).trans J.f135) ((k2 136 (by decide) (by decide)).trans J.f136)
 generalize hp ++ [O.list ((S.map (WL lw)).map V.str)] = hp2 at *
 clear hS
 cases S with
 | nil =>
  refine ⟨fl2, hp2, ?_, J2⟩
  have s2 : ex cxL zjr fl2 hp2 = some (.next, fl2, hp2) := by simp only [zjr, zbx, xAsg, xIfe, xRet, goN, hVar, Mine.h2, kBin, kCmp, kSub, hBin, tCmp, hLst, hSub, kSli, hSli, hArg, zau, zal, zma, same, zaz, lisA, zy1, zy3, zy5, zy8, zy9, zy10, zy12, zv21, zv24, zv63, zw4, zw12, zq2, zq3, zq5, zq8, zq9, zq12, zq14, zq15, zq18, zq22, zq23, zq24, zq25, zq29, zq39, zq42, zq45, zq49, zq50, zq51, zq52, zq53, List.zip_nil_left, zd0_, g94, hr, List.map_nil, show pls [] = true from rfl, show vEs [] [] = true from rfl, Nat.beq, Nat.ble]
  show exs cxL [zoi, zjr] (put fl 67 (.str (WS lw v))) hp = _
  rw [zar s1, zar s2]; rfl
 | cons x S =>
  have hne : x :: S ≠ [] := by simp
  have hL : zb0 (x :: S) < 16 := hA2 _ (zih _ hne)
  have hD := J2.C
  have hsub := zqu (g := WL lw) hr hne
  have gm := zdd (s := low (WL lw (zb0 (x :: S)))) hD.a3 hD.a4 (by rw [zha]; exact zfi (zqc hl hL)) (by rw [zc3]; omega)
  rw [zha, get_M hl n0 n1 n2 n3 hL 8] at gm
  have hM : selM n0 n1 n2 n3 (zb0 (x :: S)) 8 ≠ [] := fun z => by
   have := A1 rfl
   rw [z] at this
   have h99 : zb0 [] = 99 := rfl
   omega
  have hMl := zgv (n0 := n0) (n1 := n1) (n2 := n2) (n3 := n3) (v := zb0 (x :: S)) 8
  have hcut := zth (WS lw) hM
  rw [A1 rfl] at hcut
  generalize selM n0 n1 n2 n3 (zb0 (x :: S)) 8 = M at *
  have hneg : Int.neg (Int.ofNat 1) = Int.negSucc 0 := rfl
  have hsm : small (Int.negSucc 0) = true := rfl
  have hbnd : bnd (Int.negSucc 0) (len M) = len M - 1 := rfl
  have hv1 := zi1 [WS lw v]
  have hp1 := zc4 [WS lw v]
  simp only [List.map_cons, List.map_nil] at hv1 hp1
  have hq : Int.ofNat q + Int.ofNat 1 = Int.ofNat (q + 1) := rfl
  have hp0 : pls [] = true := rfl
  have hv0 : ∀ (x : V) (r : List V), vEs (x :: r) [] = false := fun _ _ => rfl
  have hpM := zc4 (M.map (WS lw))
  have J3 : LD lw n0 n1 n2 n3 N rK (q + 1) [] (put fl2 135 (.int (.ofNat (q + 1)))) hp2 := J2.fl' (fun y h => by rw [zaa, if_neg (zb2 h rfl)]) (by simp [zaa]) (by simp [zaa, J2.f136])
  refine ⟨put fl2 135 (.int (.ofNat (q + 1))), hp2, ?_, J3⟩
  simp only [List.map_cons] at hr hpS
  have s2 : ex cxL zjr fl2 hp2 = some (.next, put fl2 135 (.int (.ofNat (q + 1))), hp2) := by
   simp only [zjr, zbx, xAsg, xIfe, xRet, goN, hVar, Mine.h2, kBin, kCmp, kSub, hBin, tCmp, hLst, hSub, kSli, hSli, hArg, zau, zal, zma, same, zaz, zaa, lisA, Nat.reduceEqDiff, if_false, zy1, zy3, zy5, zy7, zy8, zy9, zy10, zy12, zy16, zy17, zv3, zv21, zv24, zv34, zv35, zv37, zv39, zv41, zv47, zv63, zv64, zw1, zw4, zw12, zgm2, zgS, zq2, zq3, zq5, zq8, zq9, zq12, zq14, zq15, zq18, zq22, zq23, zq24, zq25, zq29, zq39, zq42, zq45, zq49, zq50, zq51, zq52, zq53, zq54, zq57, zq58, zq68, zq69, zu8, zu40, List.zip_nil_left, zd0_, zd3_, Nat.beq, g94, g67, hr, hpS, hp0, hv0, J2.f135, hq, hD.f130, hD.a3, hneg, hsub, hlo, gm, List.zip_nil_left, zhs, zht, hsm, zao, hbnd, hcut, hp1, hv1, Nat.ble]
  show exs cxL [zoi, zjr] (put fl 67 (.str (WS lw v))) hp = _
  rw [zar s1, zar s2]; rfl
end
end
end Mine
end
noncomputable section
namespace Mine
section
open PySem PySem.W PyProof.Rows
section
variable {lw c n0 n1 n2 n3 N rK q v : Nat} {hp : Hp} {fl : L} {rs1 rs2 : List Row} {laid kinds : List (List Nat)}
theorem zrz {i : Nat} {x : V} (h : nth ((zbk lw).map V.str) i = some x) : i < 8 /\ x = .str (WS lw i) := by
 match i, h with
 | 0, h => cases h; exact ⟨by omega, rfl⟩
 | 1, h => cases h; exact ⟨by omega, rfl⟩
 | 2, h => cases h; exact ⟨by omega, rfl⟩
 | 3, h => cases h; exact ⟨by omega, rfl⟩
 | 4, h => cases h; exact ⟨by omega, rfl⟩
 | 5, h => cases h; exact ⟨by omega, rfl⟩
 | 6, h => cases h; exact ⟨by omega, rfl⟩
 | 7, h => cases h; exact ⟨by omega, rfl⟩
 | n + 8, h => cases h
theorem st17 (hl : lw < 26) (A1 : ∀ v, v < 8 -> zl8 (selA n0 n1 n2 n3 v 16) = false -> zb0 (selM n0 n1 n2 n3 (zb0 (selA n0 n1 n2 n3 v 16)) 8) = v) (I : LD lw n0 n1 n2 n3 N rK 0 [] fl hp) :
 ∃ fl' hp', ex cxL l17 fl hp = some (.next, fl', hp') /\ LD lw n0 n1 n2 n3 N rK (zit n0 n1 n2 n3 8) [] fl' hp' := by
 obtain ⟨fl', hp', e, h⟩ := zhm (F := eF) (xs := (zbk lw).map V.str) (r := N) (I := fun v fl hp => LD lw n0 n1 n2 n3 N rK (zit n0 n1 n2 n3 v) [] fl hp) (fun _ _ _ J => J.C.a0) 8 0 9 fl hp rfl (by omega) I fun i x fl hp hx J => by
  obtain ⟨hi, rfl⟩ := zrz hx
  obtain ⟨fl', hp', e, h⟩ := eturn hl hi (A1 i hi) J
  exact ⟨fl', hp', e, h⟩
 refine ⟨fl', hp', ?_, h⟩
 have hfor : ex cxL l17 fl hp = bd (forS eF (len ((zbk lw).map V.str) + 1) (.live N 0) fl hp) (aftL (exs cxL [])) := zu2 I.C.f126 I.C.a0
 have e' : forS eF (len ((zbk lw).map V.str) + 1) (.live N 0) fl hp = some (.dry, fl', hp') := e
 rw [hfor, e']; rfl
noncomputable def gF : V -> L -> Hp -> Option (Fl × L × Hp) := zca cxL (.name 67 280008280012) (exs cxL l18b)
theorem zoq : ∀ c, ∀ x ∈ kdN n0 n1 n2 n3 c, x < 16
 | 0, x, h => by cases h
 | c + 1, x, h => by
  simp only [kdN] at h
  split at h
  · exact zoq c x h
  · rcases List.mem_append.mp h with h | h
    · exact zoq c x h
    · rw [List.mem_singleton.mp h]; exact zig n0 n1 n2 n3 c
theorem zor : ∀ c, (kdN n0 n1 n2 n3 c).length ≤ c
 | 0 => Nat.le_refl _
 | c + 1 => by
  have := zor c
  simp only [kdN]
  split
  · omega
  · simp; omega
theorem zhx (hl : lw < 26) {m : Nat} (hm : m < 16) : ∀ l : List Nat, (∀ x ∈ l, x < 16) -> vin (.str (upp (WL lw m))) ((l.map fun x => upp (WL lw x)).map V.str) = memN m l
 | [], _ => rfl
 | x :: r, h => by
  have ih := zhx hl hm r fun y hy => h y (by simp [hy])
  show cs (leq (upp (WL lw x)) (upp (WL lw m))) true (vin (.str (upp (WL lw m))) ((r.map fun x => upp (WL lw x)).map V.str)) = cs (Nat.beq x m) true (memN m r)
  rw [zvw hl (h x (by simp)) hm, ih]
theorem zoh : ∀ (n : Nat) {i : Nat} {x : V}, nth ((zdh lw n0 n1 n2 n3 n).map V.str) i = some x -> i < n /\ x = .str (zc0 lw (lmN n0 n1 n2 n3 i) i)
 | 0, i, x, h => by cases h
 | n + 1, i, x, h => by
  rw [zdh, List.map_append] at h
  rcases zbv h with h | ⟨h1, h2⟩
  · obtain ⟨a, b⟩ := zoh n h
    exact ⟨by omega, b⟩
  · rw [List.length_map, zd7] at h1
    subst h1
    exact ⟨by omega, h2⟩
theorem LD.setK (I : LD lw n0 n1 n2 n3 N rK q kinds fl hp) (ks : List (List Nat)) : LD lw n0 n1 n2 n3 N rK q ks fl (upd hp rK (.list (ks.map V.str))) := by
 have hN := I.C.hN
 have hK := I.hK
 have h : ∀ {m : Nat}, m ≠ rK -> nth (upd hp rK (.list (ks.map V.str))) m = nth hp m := fun h => zbh _ (Ne.symm h)
 have C := I.C
 exact ⟨⟨C.f100, C.f103, C.f104, C.f108, C.f109, C.f126, C.f129, C.f130, C.f131, C.hN, (h (by omega)).trans C.h3, (h (by omega)).trans C.h4, (h (by omega)).trans C.h7, (h (by omega)).trans C.h8, (h (by omega)).trans C.a0, (h (by omega)).trans C.a1, (h (by omega)).trans C.a2, (h (by omega)).trans C.a3, (h (by omega)).trans C.a4, (h (by omega)).trans C.a5⟩, I.f135, I.f136, I.hK, zay _ I.aK⟩
theorem gturn (hl : lw < 26) (hc : c < 8) (I : LD lw n0 n1 n2 n3 N rK q ((kdN n0 n1 n2 n3 c).map fun x => upp (WL lw x)) fl hp) :
 ∃ fl' hp', gF (.str (zc0 lw (lmN n0 n1 n2 n3 c) c)) fl hp = some (.next, fl', hp') /\ LD lw n0 n1 n2 n3 N rK q ((kdN n0 n1 n2 n3 (c + 1)).map fun x => upp (WL lw x)) fl' hp' := by
 have e0 : zc1 cxL (.name 67 280008280012) (.v (.str (zc0 lw (lmN n0 n1 n2 n3 c) c))) fl hp = some (put fl 67 (.str (zc0 lw (lmN n0 n1 n2 n3 c) c)), hp) := rfl
 have hup : ∀ s : List Nat, s.map uppc = upp s := fun _ => rfl
 have hvin := zhx hl (zig n0 n1 n2 n3 c) (kdN n0 n1 n2 n3 c) (zoq c)
 have hpls := zc4 ((kdN n0 n1 n2 n3 c).map fun x => upp (WL lw x))
 have hkl := zor (n0 := n0) (n1 := n1) (n2 := n2) (n3 := n3) c
 have hfit : fits (len ((kdN n0 n1 n2 n3 c).map fun x => upp (WL lw x))) = true := zah (by rw [zao, zag]; omega)
 have J : LD lw n0 n1 n2 n3 N rK q ((kdN n0 n1 n2 n3 c).map fun x => upp (WL lw x)) (put fl 67 (.str (zc0 lw (lmN n0 n1 n2 n3 c) c))) hp := I.fl' (fun y h => by rw [zaa, if_neg (zb2 h rfl)]) (by simp [zaa, I.f135]) (by simp [zaa, I.f136])
 have hfit' : fits (len (kdN n0 n1 n2 n3 c)) = true := zah (by rw [zag]; omega)
 cases hm : memN (lmN n0 n1 n2 n3 c) (kdN n0 n1 n2 n3 c) with
 | true =>
  have hk : kdN n0 n1 n2 n3 (c + 1) = kdN n0 n1 n2 n3 c := by simp only [kdN, hm]
  rw [hk]
  rw [hm] at hvin
  refine ⟨_, hp, ?_, J⟩
  simp only [gF, l18b, l18_1, zbx, xEx, xIfe, hVar, Mine.h2, kCmp, tCmp, hArg, zau, zal, same, zaz, zaa, lisA, Nat.reduceEqDiff, if_true, if_false, zy1, zy3, zy8, zy12, zy16, zv21, zv24, zv34, zv36, zv37, zv40, zv41, zv63, zv65, zw1, zw12, zq5, zq18, zq22, zq23, zq29, zq40, zq42, zq49, zq50, zu9, zca, List.zip_nil_left, ze1_, hup, zh0, I.f136, I.aK, hpls, hvin, Nat.beq, Nat.ble]
 | false =>
  have hk : kdN n0 n1 n2 n3 (c + 1) = kdN n0 n1 n2 n3 c ++ [lmN n0 n1 n2 n3 c] := by simp only [kdN, hm]
  rw [hm] at hvin
  have J2 := J.setK ((kdN n0 n1 n2 n3 (c + 1)).map fun x => upp (WL lw x))
  refine ⟨_, _, ?_, J2⟩
  rw [hk]
  simp only [gF, l18b, l18_1, zbx, xEx, xIfe, hVar, Mine.h2, kCmp, tCmp, hArg, zau, zal, same, zaz, zaa, lisA, Nat.reduceEqDiff, if_true, if_false, zy1, zy3, zy7, zy12, zy16, zv21, zv24, zv34, zv36, zv37, zv40, zv41, zv64, zv65, zw1, zw12, zq5, zq18, zq22, zq23, zq29, zq40, zq42, zq49, zq50, zu9, zca, List.zip_nil_left, ze1_, hup, zh0, I.f136, I.aK, hpls, hvin, hfit', zao, List.map_append, List.map_cons, List.map_nil, Nat.beq, Nat.ble]
theorem st18 (hl : lw < 26) (I : LD lw n0 n1 n2 n3 N rK q [] fl hp) :
 ∃ fl' hp', ex cxL l18 fl hp = some (.next, fl', hp') /\ LD lw n0 n1 n2 n3 N rK q ((kdN n0 n1 n2 n3 8).map fun x => upp (WL lw x)) fl' hp' := by
 have hlen : len ((zdh lw n0 n1 n2 n3 8).map V.str) = 8 := by rw [zao, zag, zd7]
 obtain ⟨fl', hp', e, h⟩ := zhm (F := gF) (xs := (zdh lw n0 n1 n2 n3 8).map V.str) (r := N + 5) (I := fun c fl hp => LD lw n0 n1 n2 n3 N rK q ((kdN n0 n1 n2 n3 c).map fun x => upp (WL lw x)) fl hp) (fun _ _ _ J => J.C.a5) 8 0 9 fl hp (by rw [hlen]) (by omega) I fun i x fl hp hx J => by
  obtain ⟨hi, rfl⟩ := zoh 8 hx
  exact gturn hl hi J
 rw [hlen] at h
 refine ⟨fl', hp', ?_, h⟩
 have hfor : ex cxL l18 fl hp = bd (forS gF (len ((zdh lw n0 n1 n2 n3 8).map V.str) + 1) (.live (N + 5) 0) fl hp) (aftL (exs cxL [])) := zu2 I.C.f131 I.C.a5
 rw [hfor, hlen, e]; rfl
end
end
end Mine
end
noncomputable section
namespace Mine
section
open PySem PySem.W PyProof.Rows
section
variable {lw c n0 n1 n2 n3 N rK q v b : Nat} {hp : Hp} {fl : L} {rs1 rs2 : List Row} {laid kinds : List (List Nat)} {c0 c1 c2 c3 c4 : Int}
theorem zh7 (lw n0 n1 n2 n3 : Nat) : ∀ c, (zfd lw n0 n1 n2 n3 c).map (·.1) = zdh lw n0 n1 n2 n3 c
 | 0 => rfl
 | c + 1 => by rw [zfd, zdh, List.map_append, zh7 lw n0 n1 n2 n3 c]; rfl
theorem st19 (hq : Nat.beq (zit n0 n1 n2 n3 8) (len (kdN n0 n1 n2 n3 8)) = true) (I : LD lw n0 n1 n2 n3 N rK (zit n0 n1 n2 n3 8) ((kdN n0 n1 n2 n3 8).map fun x => upp (WL lw x)) fl hp) : ex cxL l19 fl hp = some (.next, fl, hp) := by
 have hk := zwy I.C.a3 I.C.a4 (by rw [zc3]; omega)
 rw [zh7] at hk
 have hv := zi1 (zdh lw n0 n1 n2 n3 8)
 have hp1 := zc4 (zdh lw n0 n1 n2 n3 8)
 have he : Z.eqB (Int.ofNat (zit n0 n1 n2 n3 8)) (Int.ofNat (len (kdN n0 n1 n2 n3 8))) = true := hq
 simp only [l19, zbx, xIfe, xRet, hVar, hGlo, Mine.h2, kCmp, tCmp, hArg, zbc, zau, zal, tOr, same, lisA, zy1, zy3, zy5, zy7, zy8, zy16, zy17, zv21, zv34, zv35, zv39, zv46, zv63, zw4, zg32, zgm2, zgS, zq2, zq5, zq6, zq17, zq18, zq22, zq23, zq28, zq29, zq37, zq38, zq42, zq45, zq49, zq50, zq57, zq58, zq59, zq68, zq69, zu16, zu17, zu38, List.zip_nil_left, zd5_, Nat.beq, I.C.f130, I.C.a3, hk, I.C.f131, I.C.a5, hp1, hv, I.f135, I.f136, I.aK, zao, he, List.zip_nil_left, Nat.ble]
theorem zpn (hl : lw < 26) : ∀ l : List Nat, (∀ x ∈ l, x < 16) -> cntO (l.map (WL lw)) = cntT l
 | [], _ => rfl
 | x :: r, h => by
  simp only [List.map_cons, cntO, cntT, zvv hl (h x (by simp)), zpn hl r fun y hy => h y (by simp [hy])]
  all_goals (cases oddT x <;> rfl)
theorem zpm (hl : lw < 26) : ∀ l : List Nat, (∀ x ∈ l, x < 8) -> cntO (l.map (WS lw)) = cntT l
 | [], _ => rfl
 | x :: r, h => by
  simp only [List.map_cons, cntO, cntT, zvt hl (h x (by simp)), zpm hl r fun y hy => h y (by simp [hy])]
  all_goals (cases oddT x <;> rfl)
theorem st20 (hl : lw < 26) (hq : Nat.beq (len (selA n0 n1 n2 n3 0 16) + 2 * cntT (selM n0 n1 n2 n3 0 8)) (len (selM n0 n1 n2 n3 0 8) + 2 * cntT (selA n0 n1 n2 n3 0 16)) = true) (I : LD lw n0 n1 n2 n3 N rK q kinds fl hp) : ex cxL l20 fl hp = some (.ret (.v (.bool true)), fl, hp) := by
 have w0 : low [48, 88, 48] = low (WS lw 0) := rfl
 have w1 : low [48, 120, 48] = low (WL lw 0) := rfl
 have ga := zdd (s := [48, 88, 48]) I.C.a1 I.C.a2 rfl (by rw [zd2]; omega)
 rw [w0, get_A hl n0 n1 n2 n3 (by omega) 16] at ga
 have gm := zdd (s := [48, 120, 48]) I.C.a3 I.C.a4 rfl (by rw [zc3]; omega)
 rw [w1, get_M hl n0 n1 n2 n3 (by omega) 8] at gm
 have lA := zgx (n0 := n0) (n1 := n1) (n2 := n2) (n3 := n3) (v := 0) 16
 have lM := zgv (n0 := n0) (n1 := n1) (n2 := n2) (n3 := n3) (v := 0) 8
 have sA := zge ((selA n0 n1 n2 n3 0 16).map (WL lw)) (by simp; omega) hp
 have sM := zge ((selM n0 n1 n2 n3 0 8).map (WS lw)) (by simp; omega) hp
 have he : Z.eqB (surL ((selA n0 n1 n2 n3 0 16).map (WL lw))) (surL ((selM n0 n1 n2 n3 0 8).map (WS lw))) = true := by
  rw [Z.eqB_iff]
  unfold surL
  rw [zpn hl _ (zgw 16), zpm hl _ (zjb 8), zao, zao]
  have := zam hq
  simp only [Int.ofNat_eq_natCast]
  omega
 simp only [l20, xRet, hVar, hGlo, Mine.h2, kCmp, tCmp, hCmp, hArg, zbc, zau, zal, zy1, zy3, zy7, zy8, zy17, zv34, zv35, zv39, zv45, zv56, zg139, zgm2, zgS, zq4, zq5, zq6, zq10, zq17, zq18, zq22, zq23, zq45, zq57, zq58, zq68, zq69, List.zip_nil_left, Nat.beq, I.C.f129, I.C.f130, I.C.a1, I.C.a3, ga, gm, sA, sM, he, List.zip_nil_left, Nat.ble]
theorem ok_at (h0 : n0 < 8) (h1 : n1 < 8) (h2 : n2 < 8) (h3 : n3 < 8) : zic n0 n1 n2 n3 = true :=
 zad (p := fun n3 => zic n0 n1 n2 n3) (zad (p := fun n2 => allN 8 fun n3 => zic n0 n1 n2 n3) (zad (p := fun n1 => allN 8 fun n2 => allN 8 fun n3 => zic n0 n1 n2 n3) (zad (p := fun n0 => allN 8 fun n1 => allN 8 fun n2 => allN 8 fun n3 => zic n0 n1 n2 n3) ok_all n0 h0) n1 h1) n2 h2) n3 h3
noncomputable def zfr : List FS := [l2, l3, l4, l5, l6, l7, l8, l9, l10, l11, l12, l13, l14, l15, l16, l17, l18, l19, l20]
theorem law_run (c0 c1 c2 c3 c4 : Int) : ∃ fl' hp', exs cxL zfr [(96, .ref 0)] [zcd c0 c1 c2 c3 c4] = some (.ret (.v (.bool true)), fl', hp') := by
 obtain ⟨b, hb, e1⟩ := zdf c4 (by omega : 0 < 4)
 obtain ⟨lw, hl, e2⟩ := zdf (Int.fdiv c4 4) (by omega : 0 < 26)
 have s2 := st2 (c0 := c0) (c1 := c1) (c2 := c2) (c3 := c3) e1 e2
 have s3 := st3 (low := lw) hb [zcd c0 c1 c2 c3 c4]
 have s4 := st4 (b := b) (low := lw) (zac b) (zcd c0 c1 c2 c3 c4)
 have s5 := st5 (b := b) (low := lw) (zac b) (zcd c0 c1 c2 c3 c4)
 have s6 := st6 (b := b) hl (zac b) (zcd c0 c1 c2 c3 c4) (.list (zfx.map V.str))
 have s7 := st7 hb hl (zcd c0 c1 c2 c3 c4) (.list (zfx.map V.str)) (.list (zc9.map V.str)) (.list ((szL lw).map V.str)) (.list ((lnL lw).map V.str))
 have s8 := st8 b lw (zac b) (zcd c0 c1 c2 c3 c4) (.list (zfx.map V.str)) (.list (zc9.map V.str)) (.list ((szL lw).map V.str)) (.list ((lnL lw).map V.str)) (wsO (zac b ++ [120])) (.list (zei b))
 generalize hf8 : ([(96, V.ref 0), (99, .int (.ofNat b)), (100, .int (.ofNat lw)), (102, .str (zac b)), (49, .ref 2), (103, .ref 3), (104, .ref 4), (105, .ref 5), (106, .ref 6), (108, .ref 7), (109, .ref 8), (110, .str [40, 41])] : L) = fl8 at s8
 generalize hh8 : ([zcd c0 c1 c2 c3 c4, .list (zfx.map V.str), .list (zc9.map V.str), .list ((szL lw).map V.str), .list ((lnL lw).map V.str), wsO (zac b ++ [120]), .list (zei b), .list [], .list []] : Hp) = hp8 at s8
 have I8 : LB [.int c0, .int c1, .int c2, .int c3, .int c4] lw b [] fl8 hp8 := by
  rw [← hf8, ← hh8]
  exact ⟨rfl, rfl, rfl, rfl, rfl, rfl, rfl, rfl, ⟨[40, 41], rfl, zpp.1, zpp.2, by decide⟩, rfl, rfl, rfl, rfl, rfl, rfl, rfl, fun n h => by cases h⟩
 clear hf8 hh8
 obtain ⟨fl9, hp9, n0, n1, n2, n3, s9, I9⟩ := st9 hb I8
 obtain ⟨kept, g110, hkept⟩ := I9.f110
 have s10 := st10 (hp := hp9) g110 hkept
 have s11 := st11 (hp := hp9) hl I9.f100
 have hN9 : 9 ≤ len hp9 := by
  have := zdk I9.h8
  rw [zag]; omega
 have m11 : nth (hp9 ++ [O.list ((zbk lw).map V.str)]) (len hp9) = some (.list ((zbk lw).map V.str)) := zb8 _ _
 have s12 := st12 (fl := put fl9 126 (.ref (len hp9))) (hp := hp9 ++ [.list ((zbk lw).map V.str)]) hl (n := len hp9) (by simp [zaa]) (by simp [zaa, I9.f103]) m11 (zai _ I9.h3)
 have s13 := st13 (fl := put fl9 126 (.ref (len hp9))) (hp := hp9 ++ [.list ((zbk lw).map V.str)])
 have l11 : len (hp9 ++ [O.list ((zbk lw).map V.str)]) = len hp9 + 1 := by rw [zbr]; rfl
 rw [l11] at s13
 generalize hg : put (put (put (put fl9 126 (.ref (len hp9))) 129 (.ref (len hp9 + 1))) 130 (.ref (len hp9 + 1 + 2))) 131 (.ref (len hp9 + 1 + 4)) = fl13 at s13
 generalize hh : hp9 ++ [O.list ((zbk lw).map V.str)] ++ [.inst 277 [(65, .ref (len hp9 + 1 + 1))], .list [], .inst 277 [(65, .ref (len hp9 + 1 + 3))], .list [], .list []] = hp13 at s13
 have k13 : ∀ y, y ≠ 126 -> y ≠ 129 -> y ≠ 130 -> y ≠ 131 -> look fl13 y = look fl9 y := fun y h1 h2 h3 h4 => by rw [← hg]; simp [zaa, h1, h2, h3, h4]
 have a13 : ∀ {m : Nat} {o : O}, nth hp9 m = some o -> nth hp13 m = some o := fun h => by rw [← hh]; exact zai _ (zai _ h)
 have b13 : ∀ k, nth hp13 (len hp9 + 1 + k) = nth [O.inst 277 [(65, .ref (len hp9 + 1 + 1))], .list [], .inst 277 [(65, .ref (len hp9 + 1 + 3))], .list [], .list []] k := fun k => by
  rw [← hh, ← l11]; exact zfj _ _ k
 have I13 : LC lw n0 n1 n2 n3 (len hp9) [] [] [] fl13 hp13 := by
  refine ⟨(k13 _ (by decide) (by decide) (by decide) (by decide)).trans I9.f100, (k13 _ (by decide) (by decide) (by decide) (by decide)).trans I9.f103, (k13 _ (by decide) (by decide) (by decide) (by decide)).trans I9.f104, (k13 _ (by decide) (by decide) (by decide) (by decide)).trans I9.f108, (k13 _ (by decide) (by decide) (by decide) (by decide)).trans I9.f109, by rw [← hg]; simp [zaa], by rw [← hg]; simp [zaa], by rw [← hg]; simp [zaa], by rw [← hg]; simp [zaa], hN9, a13 I9.h3, a13 I9.h4, a13 I9.h7, a13 I9.h8, by rw [← hh]; exact zai _ m11, b13 0, b13 1, b13 2, b13 3, b13 4⟩
 clear hg hh
 obtain ⟨fl14, hp14, s14, I14⟩ := st14 hl I13
 obtain ⟨fl15, hp15, s15, I15⟩ := st15 hl I14
 obtain ⟨fl16, s16, I16⟩ := st16 I15
 have OK := ok_at (I9.lt n0 (by simp)) (I9.lt n1 (by simp)) (I9.lt n2 (by simp)) (I9.lt n3 (by simp))
 unfold zic at OK
 split at OK
 · rename_i A1
   split at OK
   · rename_i A2
     obtain ⟨fl17, hp17, s17, I17⟩ := st17 hl (fun v hv hne => by
      have := zad (p := fun v => match zl8 (selA n0 n1 n2 n3 v 16) with | true => true | false => Nat.beq (zb0 (selM n0 n1 n2 n3 (zb0 (selA n0 n1 n2 n3 v 16)) 8)) v) A1 v hv
      simp only [hne] at this
      exact zam this) I16
     obtain ⟨fl18, hp18, s18, I18⟩ := st18 hl I17
     have s19 := st19 A2 I18
     have s20 := st20 hl OK I18
     exact ⟨fl18, hp18, (by unfold zfr; rw [zar s2, zar s3, zar s4, zar s5, zar s6, zar s7, zar s8, zar s9, zar s10, zar s11, zar s12, zar s13, zar s14, zar s15, zar s16, zar s17, zar s18, zar s19, exs_r s20])⟩
   · cases OK
 · cases OK
end
end
end Mine
end
noncomputable section
open PySem PySem.W PyProof.Rows PySem.Calls
namespace Mine
section
noncomputable def zmd : Nat -> List V -> List V
 | _, [] => []
 | i, x :: r => .tup [.int (.ofNat i), x] :: zmd (i + 1) r
structure EnS (ea it l : Addr) (us : List Value) (i : Nat) (r : List V) (ρ : Rho) (s : Shared) : Prop where
 n1 : ea ≠ it
 n2 : l ≠ ea
 n3 : l ≠ it
 e : ∃ old, IsEnum s.heap ea it i old
 it : s.heap.IsListIter it l i
 l : ∃ n, s.heap.get? l = some (lstO us n)
 v : VRs ρ s.heap r (us.drop i)
noncomputable def EnP (ea : Addr) (ads : List Addr) (src : Src) (ρ : Rho) (s : Shared) : Prop := ∃ (it l : Addr) (us : List Value) (i : Nat) (r : List V), src = .items (zmd i r) /\ ads = [ea, it, l] /\ EnS ea it l us i r ρ s
section
variable {Ω : Bx} {cx : Cx} {Rm : Around -> Prop} {D : Dx} {fl : L} {hp : Hp} {ρ ρ' : Rho} {s s' : Shared} {A : Around} {ea it l : Addr} {us : List Value} {i : Nat} {r : List V}
theorem EnS.kp (P : EnS ea it l us i r ρ s) (k : Kp Ω [ea, it, l] [] ρ s ρ' s') : EnS ea it l us i r ρ' s' :=
 ⟨P.n1, P.n2, P.n3, P.e.imp fun _ h => k.keep ea (.head _) _ h, P.it.at fun o e => k.keep it (.tail _ (.head _)) o e, P.l.imp fun _ h => k.keep l (.tail _ (.tail _ (.head _))) _ h, VRs.mono k.ext k.imm _ _ P.v⟩
theorem en_ni {h : Heap} {i : Int} (x : ∃ old, IsEnum h ea it i old) : ∃ o, h.get? ea = some o /\ ¬ Imm o := x.elim fun _ x => ⟨_, x, zbs rfl rfl (by decide)⟩
theorem zus {h : Heap} (x : ∃ n, h.get? l = some (lstO us n)) : h.IsList l us.toArray := x.elim fun n h => ⟨_, h, rfl, _, rfl⟩
theorem EnS.stop (hh : A.handled = none) (P : EnS ea it l us i [] ρ s) (hb : AllBare s.gens) {Q : Option Value -> Shared -> Prop} {E : Value -> Shared -> Prop} (hQ : ∀ s', Ch [ea, it, l] [] s s' -> Q none s') : wpAny Ω.M A (pyNext (.ref ea)) Q E s := by
 obtain ⟨old, h1⟩ := P.e
 obtain ⟨o, g1, g2⟩ := li_ni P.it
 exact wpAny_pyNext_enum_end hh h1 P.it (zus P.l) ((List.getElem?_toArray ..).trans (List.getElem?_eq_none (List.drop_eq_nil_iff.mp (show us.drop i = [] from P.v)))) fun h' he => hQ _ (zj5 (it := it) (t := s.toks) (.tail _ (.head _)) g1 g2 (fun b o q e => he b o q e) hb)
theorem EnS.turn {x : V} {T : Expr} (hT : ∃ elts z p, T = .Tuple elts z p) (P : EnS ea it l us i (x :: r) ρ s) (hb : AllBare s.gens) {Q : Option Value -> Shared -> Prop} {E : Value -> Shared -> Prop}
 (hQ : ∀ v s1, (∀ (Q' : Unit -> Shared -> Prop) (E' : Value -> Shared -> Prop), (∀ s', Ch [ea, it, l] [] s s' -> VR ρ s'.heap (.tup [.int (.ofNat i), x]) v -> EnS ea it l us (i + 1) r ρ s' -> Q' () s') -> wpAny Ω.M A (letOwnedTupleGo T (.ref ea) v) Q' E' s1) -> Q (some v) s1) : wpAny Ω.M A (pyNext (.ref ea)) Q E s := by
 obtain ⟨v, t, he, hx, hr⟩ := P.v
 obtain ⟨e1, e2⟩ := zbl he
 obtain ⟨old, h1⟩ := P.e
 obtain ⟨oe, ge1, ge2⟩ := en_ni P.e
 obtain ⟨oi, gi1, gi2⟩ := li_ni P.it
 obtain ⟨elts, z, p, hT⟩ := hT
 refine wpAny_pyNext_enum_item h1 P.it (zus P.l) ((List.getElem?_toArray ..).trans e1) P.n1 fun h' a1 a2 a3 a4 a5 => hQ _ _ fun Q' E' hQ' => ?_
 rw [hT]
 refine wpAny_letOwnedTupleGo_enum a1 fun h'' b1 b2 => ?_
 have b2 : Heap.SameBut ea h' h'' := b2
 have kk : ∀ b o, b ≠ ea -> b ≠ it -> s.heap.get? b = some o -> h''.get? b = some o := fun b o p q z => (b2.2 b p).trans (a5 b o p q z)
 have im : ImmK s.heap h'' := fun b o z i => kk b o (fun q => ge2 (prf (ge1.symm.trans (q ▸ z)) ▸ i)) (fun q => gi2 (prf (gi1.symm.trans (q ▸ z)) ▸ i)) z
 exact hQ' _ ⟨fun b o z hn => kk b o (fun q => hn (q ▸ .head _)) (fun q => hn (q ▸ .tail _ (.head _))) z, im, fun _ _ _ e => e, hb, rfl⟩
  ⟨_, _, _, rfl, (b2.2 _ (Nat.ne_of_gt (Heap.lt_size h1))).trans a3, VRs.cons (x := .int (.ofNat i)) ⟨_, rfl⟩ (VRs.cons (VR.mono (Ext.refl ρ) im _ _ hx) VRs.nil), show 2 ≤ 65536 by decide⟩
  ⟨P.n1, P.n2, P.n3, ⟨v, b1⟩, a2.at fun o h => (b2.2 it (Ne.symm P.n1)).trans h, P.l.imp fun _ h => kk l _ P.n2 P.n3 h, by rw [e2]; exact VRs.mono (Ext.refl ρ) im _ _ hr⟩
theorem ztm (hh : A.handled = none) {T : Expr} (hT : ∃ elts z p, T = .Tuple elts z p) : CIt Ω A T EnP := by
 refine ⟨fun {ea ads src ρ hp s o Q E} S H e hN hQ => ?_, fun S k => ?_, fun {ea ads src ρ s} S => ?_⟩
 · obtain ⟨it, l, us, i, r, q1, q2, S⟩ := S
   rw [q1] at e
   rw [q2] at hN hQ
   cases r with
   | nil => exact S.stop hh H.gens (hN (prf e).symm)
   | cons x r => exact S.turn hT H.gens fun v s1 k => hQ _ _ (prf e).symm v s1 fun Q' E' q => k Q' E' fun s' c R S' => q s' c R ⟨it, l, us, i + 1, r, rfl, rfl, S'⟩
 · obtain ⟨it, l, us, i, r, q1, q2, S⟩ := S
   rw [q2] at k
   exact ⟨it, l, us, i, r, q1, q2, S.kp k⟩
 · obtain ⟨it, l, us, i, r, q1, q2, S⟩ := S
   rw [q2]
   exact fun a ha => (List.mem_cons.mp ha).elim (fun q => q ▸ en_ni S.e) (mem2 (p := fun a => ∃ o, s.heap.get? a = some o /\ ¬ Imm o) (li_ni S.it) (S.l.elim fun n h => ⟨_, h, zfm⟩) a)
theorem zte (C : CT Ω cx Rm) (hgl : look cx.glo 20 = some (.bi .enumerate)) {le : FE} {gp p : Nat} {xs : List V} {h1 : Hp} (wl : wE Ω.nms.length D.sc le = true) (hg : look D.sc 20 = some 4)
 (e1 : ev cx fl le hp = some (.l xs, h1)) (h : Here Ω Rm D fl hp ρ s) {Q : Value -> Shared -> Prop} {E' : Value -> Shared -> Prop}
 (hQ : ∀ ρ1 s1 ea ads, HS Ω ρ1 h1 s1 -> Go [] ρ s ρ1 s1 -> EnP ea ads (.items (zmd 0 xs)) ρ1 s1 -> (∀ a ∈ ads, a ∉ ρ1.flatten) -> (∀ a ∈ ads, s.heap.get? a = none) -> ziz Ω D.A ea ads s1 -> Q (.ref ea) s1) :
 wpAny Ω.M D.A (eval (tE (nmOf Ω) (.call (.glo 20 gp) [le] [] [] [] p)) D.env) (fun v s1 => wpAny Ω.M D.A (pyIter v) Q E' s1) D.E s := by
 refine wpAny_Call_Name_kw (zqa C hgl hg h.K h.H h.F fun u hu => ?_)
 rw [show u = Bi.enumerate.val from hu]
 refine callWith_of (P := fun h => zbb Ω.M h Bi.enumerate.val) (by rw [zek]; rfl) (fun h x => x) ?_
 refine zp3 (D := D) (es := [le]) (ks := []) (kn := []) (kp := []) (xs := ([.l xs], h1)) (ys := ([], h1)) rfl rfl (fun e he => by rw [List.mem_singleton.mp he]; exact (both C le).1) nofun (show and2 _ true = true by rw [wl]; rfl) rfl h (show zal _ _ _ = _ from by unfold zal; rw [e1]; rfl) rfl fun ρ2 s2 vs us h2 G2 R2 l1 => ?_
 refine zg8 (G := fun ks us => zbb Ω.M s2.heap Bi.enumerate.val /\ wpAny Ω.M D.A (call Bi.enumerate.val vs (([] : List Nat).map (nmOf Ω) |>.zip us)) _ D.E s2) (ks := []) rfl (by exact R2) l1 fun R3 => as1_e (P := fun vs => zbb Ω.M s2.heap Bi.enumerate.val /\ wpAny Ω.M D.A (call Bi.enumerate.val vs []) _ D.E s2) rfl R3 fun v R1 => ⟨zjt _ _ _, ?_⟩
 obtain ⟨l, vs, n, q, ho, hv, hl, hn, hi⟩ := R1
 rw [q]
 show wpAny _ _ (call (.type "enumerate") [.ref l] []) _ _ _
 have hlt : l < s2.heap.objs.size := Heap.lt_size ho
 refine call_enumerate_list (items := vs.toArray) ⟨_, ho, rfl, _, rfl⟩ fun h' a1 a2 a3 a4 => ?_
 have n1 : s2.heap.get? s2.heap.objs.size = none := zb7 s2.heap
 have n2 : s2.heap.get? (s2.heap.objs.size + 1) = none := zc5 (o := (none : Option Obj)) (fun _ e => absurd (Heap.lt_size e) (Nat.not_lt.mpr (Nat.le_succ _))) rfl
 have fresh : ∀ a ∈ [s2.heap.objs.size + 1, s2.heap.objs.size, l], a ∉ ρ2.flatten /\ s.heap.get? a = none := fun a ha => (List.mem_cons.mp ha).elim (fun q => q ▸ ⟨h2.H.notIn n2, G2.none n2⟩) (mem2 (p := fun a => a ∉ ρ2.flatten /\ s.heap.get? a = none) ⟨h2.H.notIn n1, G2.none n1⟩ ⟨hi, hn⟩ a)
 exact wpAny_pyIter_enum a1 (hQ ρ2 { s2 with heap := h' } (s2.heap.objs.size + 1) [s2.heap.objs.size + 1, s2.heap.objs.size, l] (h2.H.heap (t := s2.toks) a4) (zfv G2 (t := s2.toks) a4)
  ⟨_, _, vs, 0, xs, rfl, rfl, Nat.succ_ne_self _, Nat.ne_of_lt (Nat.lt_succ_of_lt hlt), Nat.ne_of_lt hlt, ⟨_, a1⟩, a2, ⟨n, a4 _ _ ho⟩, VRs.mono (Ext.refl _) (fun b o e _ => a4 b o e) _ _ hv⟩ (fun a ha => (fresh a ha).1) (fun a ha => (fresh a ha).2) fun s' k Q E q => wpAny_pyIter_enum (k _ (.head _) _ a1) q)
end
end
end Mine
end
noncomputable section
namespace Mine
section
open PySem PySem.W PyProof.Rows PySem.Calls
noncomputable def cxF (a : Addr) (xs : List Int) : Cx := { cx2 SL with frz := [(a, xs)] }
noncomputable def zcz (xs : List Int) (k : Int) : List Int := (sliceRange (sliceBounds (some k) none (some (Int.ofNat 5)) xs.length).1 (sliceBounds (some k) none (some (Int.ofNat 5)) xs.length).2.1 (sliceBounds (some k) none (some (Int.ofNat 5)) xs.length).2.2).filterMap (xs[·]?)
theorem zgm : ∀ l : List Int, zd9 (l.map V.int) = some l
 | [] => rfl
 | x :: r => by show bd (zd9 (r.map V.int)) _ = _; rw [zgm r]; rfl
noncomputable def e0 : FE := .bin .Add (.var 52 231013231018) (.call (.glo 97 231021231024) [.sli (.var 98 231025231031) (some (.var 21 231032231033)) none (some (.int 5 231035231036)) 231032231036 231025231037] [] [] [] 231021231038) 231013231038
noncomputable def it0 : FE := .call (.glo 20 231055231064) [.list [.int 61 231066231068, .int 235 231070231073, .int 115 231075231078, .int 137 231080231083, .int 39 231085231087] 231065231088] [] [] [] 231055231089
noncomputable def sc0 : List (Nat × Nat) := [(14, 0), (21, 0), (52, 0), (97, 4), (98, 2)]
theorem l1_eq : l1 = .asg [.name 96 231004231009] (.comp e0 [21, 52] [231043231044, 231046231051] 231043231051 it0 [] sc0 231012231090) 231004231090 := rfl
noncomputable def xs0 : List V := [.int (.ofNat 61), .int (.ofNat 235), .int (.ofNat 115), .int (.ofNat 137), .int (.ofNat 39)]
theorem st_run (a : Addr) (xs : List Int) (k : Int) : zkh (cxF a xs) (.v (.top a)) (some (.v (.int k))) none (.int 5 231035231036) = some (.l (zl0 xs k 5)) := by
 show bd (cs (Nat.beq a a) (some xs) none) _ = _
 rw [Nat.beq_refl]; rfl
theorem e0_run (a : Addr) (xs : List Int) (k st : Int) (hp : Hp) : ev (cxF a xs) (put (put [(98, .top a)] 21 (.int k)) 52 (.int st)) e0 hp = some (.v (.int (st + sumI (zcz xs k) 0)), hp) := by
 have hg : look (cxF a xs).glo 97 = some (.bi .sum) := rfl
 have pk : zl0 xs k 5 = (zcz xs k).map V.int := rfl
 simp only [e0, hVar, hGlo, Mine.h2, kBin, hBin, kSli, hSli, hArg, zbc, zal, zma, same, zy1, zy3, zy7, zy8, zy9, zy16, zv46, zv47, zq5, zq6, zq8, zq15, zq17, zq22, zq23, zq24, zq25, zq57, zq58, zq62, zq70, zq71, zu14, zu25, List.zip_nil_left, hg, st_run, pk, zgm, Nat.beq]
noncomputable abbrev f0 (a : Addr) (xs : List Int) : V -> Hp -> Option (Option V × Hp) := zcp (fun fl => ev (cxF a xs) fl e0) [21, 52] (fun fl => trA (cxF a xs) fl []) (flr sc0 [(98, .top a)])
theorem zir (a : Addr) (xs : List Int) (k st : Int) : f0 a xs (.tup [.int k, .int st]) [] = some (some (.int (st + sumI (zcz xs k) 0)), []) := by
 show bd (ev (cxF a xs) (put (put [(98, .top a)] 21 (.int k)) 52 (.int st)) e0 []) _ = _
 rw [e0_run]; rfl
theorem comp0 (a : Addr) (xs : List Int) : zbf (f0 a xs) (zhl (.items (zmd 0 xs0)) []) (.items (zmd 0 xs0)) [] = some ([.int (.ofNat 61 + sumI (zcz xs (.ofNat 0)) 0), .int (.ofNat 235 + sumI (zcz xs (.ofNat 1)) 0), .int (.ofNat 115 + sumI (zcz xs (.ofNat 2)) 0), .int (.ofNat 137 + sumI (zcz xs (.ofNat 3)) 0), .int (.ofNat 39 + sumI (zcz xs (.ofNat 4)) 0)], []) :=
 zcn (zir a xs _ _) (zcn (zir a xs _ _) (zcn (zir a xs _ _) (zcn (zir a xs _ _) (zcn (zir a xs _ _) rfl))))
noncomputable section
theorem fr_sub {Ω : Bx} {env : Env} {fa : List Addr} {fl fl' : L} {ρ : Rho} {s : Shared} (F : FR Ω env fa fl ρ s) (h : ∀ y v, look fl' y = some v -> look fl y = some v)   : FR Ω env fa fl' ρ s := by
 refine ⟨F.kind, F.glob, F.blt, fun x v hl => F.ids x v (h x v hl), ?_, fun x v hl hk => F.cel x v (h x v hl) hk, F.loc, F.disj, F.live⟩
 obtain ⟨m, hn, hm⟩ := F.ns
 exact ⟨m, hn, fun x v hl hk => hm x v (h x v hl) hk⟩
section
variable {prog : Program} {w : World} {s₁ : Shared} {P : Params}
theorem ctF (X : (K2 P).In s₁.heap) (lim : s₁.heap.NoLimit) (top : ∃ mg mb, s₁.heap.Ns mainGlobals mg /\ s₁.heap.Ns builtinsNs mb /\ ∀ x : Str, x ≠ "__name__" -> mb x = bootBuiltins x) {a : Addr} {xs : List Int} (hz : zt2 (OG prog w s₁.heap) a xs) : CT (OG prog w s₁.heap) (cxF a xs) (Rm 5) := by
 have T := tb2 (prog := prog) (w := w) (W := (OG prog w s₁.heap).Wk) X lim top SL
 refine mkCT (K := K2 P) ⟨T.X, T.lim, T.nm, T.inj, T.dbg, T.top, T.glo, T.cls, T.catt, T.pat, T.dct, T.nset, fun b ys h => ?_⟩ (zlv 5) (wk2 X lim top 3) (zke (cx := cxF a xs) (sumL X lim top))
 rcases zcu (show look [(a, xs)] b = some ys from h) with ⟨q, q'⟩ | h
 · rw [← q, ← q']; exact hz
 · exact nn h
theorem zsh (P : Params) : (K2 P).lookup 310 = some ⟨(obA P 310).cls, (obA P 310).dict, .func (fnA P 310 (tSs nm ztd) (scM nm zas (fdA P 310).scope.more)), (obA P 310).slots⟩ := by kernel_rfl
theorem zsi (P : Params) : codeIn (K2 P) (fdA P 310).code (fdA P 310).qualname = true := by kernel_rfl
theorem zsj (h₀ : Heap) (s : Shared) (v : Value) (n2 : List Stmt) (n3 : Scope) : BindsTo s (fnA P 310 n2 n3) ⟨[v], []⟩ (([98].map (nmOf (OG prog w h₀))).zip [v]) := by
 refine BindsTo.of_eq ?_
 kernel_rfl
theorem law_sc : fnSc nmL.length zas [] = true := by decide +kernel
theorem zut : wE nmL.length zas (.comp e0 [21, 52] [231043231044, 231046231051] 231043231051 it0 [] sc0 231012231090) = true := by decide +kernel
theorem law_wi : wE nmL.length zas (.list [.int 61 231066231068, .int 235 231070231073, .int 115 231075231078, .int 137 231080231083, .int 39 231085231087] 231065231088) = true := by decide +kernel
theorem law_w : wSs nmL.length zas zfr = true := by decide +kernel
noncomputable abbrev vs0 (xs : List Int) : List V := [.int (.ofNat 61 + sumI (zcz xs (.ofNat 0)) 0), .int (.ofNat 235 + sumI (zcz xs (.ofNat 1)) 0), .int (.ofNat 115 + sumI (zcz xs (.ofNat 2)) 0), .int (.ofNat 137 + sumI (zcz xs (.ofNat 3)) 0), .int (.ofNat 39 + sumI (zcz xs (.ofNat 4)) 0)]
theorem law_st : stOk nmL.length zas 96 = true := by decide +kernel
theorem ev_l0 (cx : Cx) (fl : L) (hp : Hp) : ev cx fl (.list [.int 61 231066231068, .int 235 231070231073, .int 115 231075231078, .int 137 231080231083, .int 39 231085231087] 231065231088) hp = some (.l xs0, hp) := rfl
theorem law_l1 {a : Addr} {xs : List Int} (CF : CT (OG prog w s₁.heap) (cxF a xs) (Rm 5)) {env : Env} {fa : List Addr} {A : Around} {E' : Value -> Shared -> Prop} {ρ : Rho} {s : Shared} (h : HereS (OG prog w s₁.heap) (Rm 5) ⟨env, zas, fa, A, E'⟩ [(98, .top a)] [] ρ s) {Q : Flow -> Shared -> Prop}
 (hQ : zmh (OG prog w s₁.heap) (Rm 5) ⟨env, zas, fa, A, E'⟩ ρ s (put [(98, .top a)] 96 (.ref 0), [.list (vs0 xs)]) Q) : WP (OG prog w s₁.heap) ⟨env, zas, fa, A, E'⟩ (exec (tS (nmOf (OG prog w s₁.heap)) l1) env) Q s := by
 rw [l1_eq]
 have I1 : EOk (OG prog w s₁.heap) (cxF a xs) (Rm 5) e0 := (both CF e0).1
 have I2 : ∀ c ∈ ([] : List FE), TOk (OG prog w s₁.heap) (cxF a xs) (Rm 5) c := fun c h => absurd h List.not_mem_nil
 exact zlj (D := ⟨env, zas, fa, A, E'⟩) (vs := vs0 xs) (h2 := []) (o := (put [(98, .top a)] 96 (.ref 0), [.list (vs0 xs)])) CF (fun k => zf0 (D := ⟨env, zas, fa, A, E'⟩) (src := .items (zmd 0 xs0)) (h1 := []) CF I1 I2 zut (ztm h.h.A.hd ⟨_, _, _, rfl⟩) (zte (D := ⟨env, zas, fa, A, E'⟩) CF rfl law_wi rfl (ev_l0 _ _ _) h.h) (comp0 a xs) (show 5 ≤ 65536 by decide) h.h k) zut law_st rfl h hQ
set_option maxHeartbeats 4000000 in
theorem law_call (X : (K2 P).In s₁.heap) (lim : s₁.heap.NoLimit) (top : ∃ mg mb, s₁.heap.Ns mainGlobals mg /\ s₁.heap.Ns builtinsNs mb /\ ∀ x : Str, x ≠ "__name__" -> mb x = bootBuiltins x) (hg : s₁.gens = #[]) {a : Addr} {vs : List Value} {xs : List Int} (hL : s₁.heap.IsList a vs.toArray) (hI : IntsAre vs xs) (hlen : xs.length ≤ 63) {A : Around} (hA : Rm 6 A) {R : Result -> Shared -> Prop}
 (hR : ∀ s', (∀ b o, s₁.heap.get? b = some o -> s'.heap.get? b = some o) -> s'.os = s₁.os -> AllBare s'.gens -> R (.ok (.ret (.bool true))) s') : codeAny (model prog w) A (.call (.ref 310) ⟨[.ref a], []⟩) R s₁ := by
 have hv : ∀ {vs : List Value} {xs : List Int}, IntsAre vs xs -> (∀ ρ h, VRs ρ h (xs.map V.int) vs) /\ vs.length = xs.length := by
  intro vs xs h
  induction h with
  | nil => exact ⟨fun _ _ => VRs.nil, rfl⟩
  | cons n t _ ih => exact ⟨fun ρ h => VRs.cons ⟨_, rfl⟩ (ih.1 ρ h), by simp [ih.2]⟩
 have hz : zt2 (OG prog w s₁.heap) a xs := ⟨vs, hL, (hv hI).1, by rw [(hv hI).2]; omega⟩
 have CF := ctF (prog := prog) (w := w) X lim top hz
 have CL := ctL (prog := prog) (w := w) X lim top
 have H0 : HS (OG prog w s₁.heap) [] [] s₁ := ⟨fun _ _ e => e, fun a ha => absurd ha List.not_mem_nil, List.nodup_nil, rfl, fun n o e h => nn (show none = some o from h), AllBare.of_eq hg⟩
 obtain ⟨fl', hp', hrun⟩ := law_run (.ofNat 61 + sumI (zcz xs (.ofNat 0)) 0) (.ofNat 235 + sumI (zcz xs (.ofNat 1)) 0) (.ofNat 115 + sumI (zcz xs (.ofNat 2)) 0) (.ofNat 137 + sumI (zcz xs (.ofNat 3)) 0) (.ofNat 39 + sumI (zcz xs (.ofNat 4)) 0)
 have p1 : Pars (OG prog w s₁.heap) zas [98] := ⟨law_sc, by decide, by decide⟩
 have k := @zhn (OG prog w s₁.heap) zas [] [] s₁ s₁ A CL.apart (Nat.lt_of_le_of_lt (Nat.le_add_right _ _) hA.dp) (K2 P) X lim 310 _ _ _ _ _ _ _ _ _ _ _ _ _ _ _ (zsh P) (zsi P) [98] p1 H0 ⟨[.ref a], []⟩ [.ref a] [.top a] (fun A' E' Q q => zsj (P := P) (prog := prog) (w := w) s₁.heap s₁ (.ref a) (tSs nm ztd) (scM (nmOf (OG prog w s₁.heap)) zas (fdA P 310).scope.more) (OG prog w s₁.heap).M A' E' Q q)
  (VRs.cons (x := .top a) (v := .ref a) rfl VRs.nil) R
 refine k fun env s2 E' F => ?_
 have h : HereS (OG prog w s₁.heap) (Rm 5) ⟨env, zas, env.locals :: faC (OG prog w s₁.heap) env, A.deeper env, E'⟩ [(98, .top a)] [] [] s2 := ⟨⟨F.K, hA.deeper _, F.H, F.F⟩, F.C⟩
 rw [ztc]
 show wpAny _ _ (execs (tS nm l1 :: tSs nm zfr) env) _ _ _
 refine wpAny_execs_cons ?_
 refine law_l1 CF h fun ρ3 s3 h3 G3 => ?_
 refine zvs (D := ⟨env, zas, env.locals :: faC (OG prog w s₁.heap) env, A.deeper env, E'⟩) CL zfr law_w (hp := [zcd _ _ _ _ _]) (fl := [(96, .ref 0)]) ⟨⟨h3.h.K, h3.h.A, h3.h.H, fr_sub h3.h.F fun y v q => ?_⟩, h3.C⟩ hrun fun ρ4 s4 f h4 G4 r => ?_
 · rcases zcu q with ⟨q1, q2⟩ | q
   · rw [← q1, ← q2]; rfl
   · exact nn q
 · obtain ⟨u, q, hu⟩ := r
   rw [q, show u = .bool true from hu]
   exact hR s4 h4.h.H.base ((G4.os.trans G3.os).trans F.G.os) h4.h.H.gens
end
end
end
end Mine
end
noncomputable section
open PySem PySem.W PyProof.Rows
set_option maxHeartbeats 8000000
namespace Mine
section
noncomputable def q02 : Program := { PySem.Challenge.pw_wn0122_02 with main := { PySem.Challenge.pw_wn0122_02.main with body := [0, 22].filterMap (PySem.Challenge.pw_wn0122_02.main.body[·]?) } }
noncomputable def zfn : List Str := ["_wall", "Whitespace", "COMPILER_FLAG_NAMES", "pretty_flags", "_iter_escaped_chars", "_strip_quoted_realnames", "_check_parenthesis", "tspecials", "_name_disallowed_re", "_value_disallowed_re", "_formatparam", "Headers", "_law_digits", "_law_column", "_law_words", "_law_surplus"].map Str.ofString
noncomputable def as02 : List Addr := [2,3,54,55,61,62,68,69,96,97,99,100,105,111,112,118,119,125,126,132,133,142,143,147,148,164,170,171,177,178,192,197,215,216,224,228,229,241,273,274,276,277,287,288,294,295,299,300,304,305,309,310]
theorem as_eq (P : Params) : as02 = (K02 P).map (·.1) := by kernel_rfl
noncomputable abbrev H02 : Hook := kHook K02 as02 as_eq
noncomputable abbrev r02 : RowW := OpenRow.toRowW (OpenLaw.row PySem.Challenge.rw_wn0122_02)
noncomputable abbrev zm9 (s : Shared) := (openSeen q02 zfn (importedModules PySem.Challenge.pw_wn0122_02.main.body) (fun s => xlAt q02 [] s && recOk (RowW.records r02) s) true s, H02.obs s)
noncomputable abbrev Br (b : Bool) : Prop := ∀ w : World, (fencedOpening treeTable PySem.Challenge.pw_wn0122_02 w 4050).map (fun s₀ =>
 (topFrom treeTable PySem.Challenge.pw_wn0122_02 (w.withFollow "special-get-raises" b) 4050 s₀).map zm9) = some (some (openGood q02 zfn, H02.val (w.withFollow "special-get-raises" b)))
theorem br_f : Br false := by
 unfold Br zm9
 rw [Fast.te4187177175401517315, Fast.te5923862056798008813, Fast.te14364793385576792824]
 intro w
 kernel_rfl
theorem br_t : Br true := by
 unfold Br zm9
 rw [Fast.te4187177175401517315, Fast.te5923862056798008813, Fast.te14364793385576792824]
 intro w
 kernel_rfl
theorem hl02 : LeftO r02.prog q02 zfn (fun s => xlAt q02 [] s && recOk (RowW.records r02) s) (Hook.obs H02) (Hook.val H02) 4050 := by
 refine LeftO.of_split "special-get-raises" fun w => ?_
 have f := br_f w
 have t := br_t w
 revert f t
 show Option.map _ (fencedOpening treeTable PySem.Challenge.pw_wn0122_02 w 4050) = _ -> Option.map _ (fencedOpening treeTable PySem.Challenge.pw_wn0122_02 w 4050) = _ -> Option.map _ (fencedOpening treeTable PySem.Challenge.pw_wn0122_02 w 4050) = _
 cases fencedOpening treeTable PySem.Challenge.pw_wn0122_02 w 4050 with
 | none => exact fun f _ => nomatch f
 | some s₀ => exact fun f t => congrArg some (Prod.ext (Option.some.inj f) (Option.some.inj t))
end
end Mine
end
noncomputable section
open PySem PySem.W PyProof.Rows
set_option maxHeartbeats 8000000
namespace Mine
section
theorem ok02 : PySem.Challenge.rw_wn0122_02.wellSaid = true := by kernel_rfl
theorem df02 : (defOf q02 (Str.ofString "law")).isSome = true := by kernel_rfl
noncomputable def dk02 : DefRec × List (Str × PySem.Expr) := (defOf q02 (Str.ofString "law")).get df02
noncomputable abbrev Xt02 (s : Shared) : Bool := xlAt q02 [] s && recOk (RowW.records r02) s
theorem hd (call : WalkO q02 zfn (XL q02 []) (Hook.says H02) r02 dk02.1 dk02.2 fun f vs => PySem.call f vs) : PySem.Challenge.rw_wn0122_02.Holds := by
 refine holds_law ok02 fun said => holds_open (q := q02) (loose := zfn) (Xt := Xt02) (XP := XL q02 []) (Yf := Hook.obs H02) (Ya := Hook.val H02) (YP := Hook.says H02) (N := 4050) (d := dk02.1) (kwd := dk02.2) hl02 (Hook.of H02) (Hook.keeps H02) (fun s e => xl_of s (Bool.and_eq_true_iff.mp e).1) XL.keeps
  (Option.some_get df02).symm ?_ ?_ (fun s e => recFacts_of (Bool.and_eq_true_iff.mp e).2) rfl said ?_ ⟨rfl, rfl, rfl, rfl, rfl, ?_⟩ ?_ call
 · kernel_rfl
 · kernel_rfl
 · kernel_rfl
 · kernel_rfl
 · exact ⟨[.list []], by decide +kernel, by decide +kernel⟩
end
end Mine
end
noncomputable section
open PySem PySem.W PyProof.Rows
set_option maxHeartbeats 8000000
theorem Mine.good_end {c : ClaimW} {cl : Str -> Option Addr} {mean : ExcName -> Option Value} {args : List WData} {s₁ s' : Shared} (hn : ∀ cls, c.raises args cls = false) (hp : c.post args (.bool true) args = true) (k : ∀ b o, s₁.heap.get? b = some o -> s'.heap.get? b = some o) (ho : s'.os = s₁.os) (hb : AllBare s'.gens) : GoodWG c cl mean args s₁ (.ok (.ret (.bool true))) s' :=
 ⟨.inl ⟨_, .bool true, [], rfl, hn, .bool true, hp, unshared_nil⟩, .of_keep k, ho, hb⟩
theorem Mine.tt : PySem.Challenge.rw_wn0122_02.Holds := by
 refine Mine.hd ?_
 intro w s₀ s₁ mg mb G Y fa o pm cd doc dV kV ho hd hcd hD hmg hg args vals as hpre hlay hrd hwl hlo
 have KX := kIn_of Y
 have X := (Ground.X G).1
 have V := (Ground.X G).2
 refine Ground.open G ?_
 intro T B D TE TW
 try (refine guard_noD D (by decide +kernel) ?_; clear D)
 wrow_args hpre hlay hrd hwl hlo
 all_goals (
  first | refine callC_kw (enter_call ?_) | refine enter_call ?_ | refine callC_kw (enter_callW ?_) | refine enter_callW ?_
  w_top on)
 have hf : fa = 310 := by
  have h1 := mg_of KX (Top.g T) (n := Str.ofString "law") (v := .ref 310) (by kernel_rfl)
  have h2 : mg (Str.ofString "law") = some (.ref fa) := hmg
  rw [h2] at h1
  cases h1; rfl
 subst hf
 refine Mine.law_call KX (Top.nolimit T) ⟨mg, mb, Top.g T, Top.b T, Top.builtins T⟩ hg (by assumption) (by assumption) ?_ ?_ fun s' k1 k2 k3 => Mine.good_end (fun _ => rfl) (by wrow_post) k1 k2 k3
 · omega
 · exact ⟨rfl, by decide, by decide⟩
end
theorem PySem.Challenge.cw_wn0122_02_holds : PySem.Challenge.rw_wn0122_02.Holds := by
 exact Mine.tt
