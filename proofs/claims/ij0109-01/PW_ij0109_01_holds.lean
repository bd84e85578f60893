import PyProof.Rows.All
import Wide.All
import OpenK.AllK
import Wide.FinOn
import PySem.Challenge.RW_ij0109_01
set_option Elab.async false

section
set_option Elab.async false
set_option linter.all false
namespace Mine
open PySem

inductive V where
  | none | bool (b : Bool) | int (i : Int) | str (s : List Nat) | tup (vs : List V) | ref (a : Nat) | app (a : Nat) | mgr (a : Nat) | scr (vs : List V)

inductive MO where
  | lst (xs : List V) | obj (k : Bool)

abbrev Hp := List MO
abbrev Rho := String → Option V
noncomputable def upd (r : Rho) (x : String) (v : V) : Rho := fun y => if y = x then some v else r y
noncomputable def updL : Rho → List String → List V → Rho
  | r, x :: xs, v :: vs => updL (upd r x v) xs vs
  | r, _, _ => r
noncomputable def rnil : Rho := fun _ => Option.none

inductive E where
  | cN | cB (b : Bool) | cI (i : Int) | cS (s : List Nat)
  | var (x : String)
  | bin (op : Operator) (l r : E)
  | neg (e : E)
  | cmp1 (op : CmpOp) (l r : E)
  | cmp2 (o1 o2 : CmpOp) (a b c : E)
  | and_ (es : List E) | or_ (es : List E)
  | not_ (e : E)
  | ite (c a b : E)
  | callG (f : String) (args : List E)
  | callL (f : String) (args : List E)
  | meth (o : E) (m : String) (args : List E)
  | sub (o i : E)
  | slc (o : E) (lo hi : Option E)
  | lst (es : List E) | tup (es : List E)
  | comp (elt : E) (ts : List String) (one : Bool) (fv : List String) (it : E) (ifs : List E)
  | fstr (parts : List E)
  | attr (o : E) (m : String)
  | joinGen (o it : E)
  | resub (e : E)
  | bad

inductive S where
  | asg (x : String) (e : E)
  | asgT (xs : List String) (e : E)
  | setI (o i e : E)
  | aug (x : String) (op : Operator) (e : E)
  | del (o i : E)
  | ret (e : E)
  | iff (c : E) (t f : List S)
  | whl (c : E) (b : List S)
  | for_ (ts : List String) (one : Bool) (it : E) (b : List S)
  | brk
  | ex (e : E)
  | asrt (e : E)
  | bad

inductive Fl where
  | nx | brk | ret (v : V)

/- the names: a Str of plain signs as a String -/
noncomputable def nameOf (s : Str) : Option String :=
  let t := String.ofList (s.cps.toList.map Char.ofNat)
  if Str.ofString t = s then some t else Option.none

noncomputable def kindIn (sc : Scope) (x : Str) : Option NameKind := sc.names.lookup x
noncomputable def isLocal (sc : Scope) (x : Str) : Bool := kindIn sc x == some .local
noncomputable def isDeref (sc : Scope) (x : Str) : Bool := kindIn sc x == some .cell || kindIn sc x == some .free
noncomputable def isGlob (sc : Scope) (x : Str) : Bool := kindIn sc x == some .globalImplicit

noncomputable def tgtOf (sc : Scope) : Expr → Option String
  | .Name x _ => if isLocal sc x then nameOf x else none
  | _ => none
noncomputable def tgtsOf (sc : Scope) : List Expr → Option (List String)
  | [] => some []
  | e :: es => (tgtOf sc e).bind fun t => (tgtsOf sc es).map (t :: ·)
noncomputable def targetsOf (sc : Scope) : Expr → Option (List String × Bool)
  | .Name x p => (tgtOf sc (.Name x p)).map fun t => ([t], true)
  | .Tuple es _ _ => (tgtsOf sc es).map fun l => (l, false)
  | _ => none

noncomputable def okGen (s : Scope) : Bool := s.isGenerator && !s.isCoroutine && (s.names.all fun x => x.2 != .cell && x.2 != .free) && s.names.lookup (".0" : Str) == some .local && s.names.lookup ("s" : Str) == some .local
noncomputable def bare (o : Expr) : Bool := match o with | .Name .. => true | .Constant .. => true | .Subscript .. => true | _ => false

noncomputable def notSlice (i : Expr) : Bool := match i with | .Slice .. => false | _ => true
noncomputable def few (l : List Expr) : Bool := match l with | [] => true | [_] => true | _ => false
noncomputable def freesOf : List (Str × NameKind) → Option (List String)
  | [] => some []
  | (x, .free) :: r => (nameOf x).bind fun t => (freesOf r).map (t :: ·)
  | _ :: r => freesOf r

/- looks at one layer each -/
noncomputable def conStr (e : Expr) (k : Str → Bool) : Bool := match e with | .Constant c _ _ => (match c with | .str s => k s | _ => false) | _ => false
noncomputable def conInt (e : Expr) : Bool := match e with | .Constant c _ _ => (match c with | .int _ => true | _ => false) | _ => false
noncomputable def nameIs (e : Expr) (k : Str → Pos → Bool) : Bool := match e with | .Name x p => k x p | _ => false
noncomputable def attrIs (e : Expr) (k : Expr → Str → Pos → Bool) : Bool := match e with | .Attribute o m p => k o m p | _ => false
noncomputable def callIs (e : Expr) (k : Expr → List Expr → Pos → Bool) : Bool := match e with | .Call f as ks p => ks.isEmpty && k f as p | _ => false
noncomputable def callN (e : Expr) : Bool := callIs e fun f _ _ => nameIs f fun x _ => !(x == ("__debug__" : Str))
noncomputable def genIs (e : Expr) (k : Expr → List Comprehension → Scope → Bool) : Bool := match e with | .GeneratorExp a b c _ => k a b c | _ => false
noncomputable def lamIs (e : Expr) (k : Arguments → Scope → Bool) : Bool := match e with | .Lambda a _ s _ => k a s | _ => false
noncomputable def tupIs (e : Expr) (k : List Expr → Bool) : Bool := match e with | .Tuple es _ _ => k es | _ => false
noncomputable def genOne (l : List Comprehension) (k : Expr → Expr → Bool) : Bool := match l with
  | [] => false
  | g :: l => match l with
    | [] => g.ifs.isEmpty && (g.is_async == 0 && k g.target g.iter)
    | _ :: _ => false
noncomputable def oneIs {α : Type} (l : List α) (k : α → Bool) : Bool := match l with | [a] => k a | _ => false
noncomputable def twoIs {α : Type} (l : List α) (k : α → α → Bool) : Bool := match l with | [a, b] => k a b | _ => false
noncomputable def strOf (e : Expr) : List Nat := match e with | .Constant c _ _ => (match c with | .str s => s.cps.toList | _ => []) | _ => []
noncomputable def nmOf (e : Expr) : Str := match e with | .Name x _ => x | _ => default
noncomputable def fstE (l : List Expr) : Expr := match l with | a :: _ => a | _ => default
noncomputable def sndE (l : List Expr) : Expr := match l with | _ :: b :: _ => b | _ => default

noncomputable def repIs (c : Str) (e : Expr) (k : Expr → Bool) : Bool := callIs e fun f as cp => attrIs f fun o r ap => twoIs as fun x y => conStr x fun a => conStr y fun _ => r == ("replace" : Str) && (a == c && (ap.endLine == cp.line && k o))
noncomputable def sIs (e : Expr) : Bool := nameIs e fun x _ => x == ("s" : Str)
noncomputable def jgEnds (sc sc' : Scope) (d m ch s2 : Str) (ap cp : Pos) : Bool := d == ("-" : Str) && (m == ("join" : Str) && (ch == ("chunks" : Str) && (s2 == ("s" : Str) && (isLocal sc ch && (ap.endLine == cp.line && (sc'.kind == .function && (okGen sc' && isGlob sc ("_twin_re_1" : Str))))))))
noncomputable def jgLook (sc : Scope) (o : Expr) (m : Str) (ap : Pos) (args : List Expr) (cp : Pos) : Bool :=
  conStr o fun d => oneIs args fun g => genIs g fun elt gens sc' => genOne gens fun tg itr => nameIs tg fun s2 _ => nameIs itr fun ch _ => repIs ("-" : Str) elt fun o2 => repIs ("\\" : Str) o2 fun o1 => sIs o1 && jgEnds sc sc' d m ch s2 ap cp
noncomputable def rsLook (sc : Scope) (o : Expr) (m : Str) (ap : Pos) (args : List Expr) (cp : Pos) : Bool :=
  nameIs o fun x _ => twoIs args fun l _ => lamIs l fun la ls => isGlob sc x && x == ("_twin_re_1" : Str) && m == ("sub" : Str) && la.defaults.isEmpty && la.kw_defaults.isEmpty && (ls.names.all fun x => x.2 != .free) && ap.endLine == cp.line

noncomputable def cConst (c : Const) : Option E := match c with
  | .none => some .cN
  | .bool b => some (.cB b)
  | .int i => some (.cI i)
  | .str s => some (.cS s.cps.toList)
  | _ => none
noncomputable def cUn (op : UnaryOp) (x : Option E) : Option E := match op with
  | .USub => x.map .neg
  | .Not => x.map .not_
  | _ => none
noncomputable def cBool (op : BoolOp) (x : Option (List E)) : Option E := match op with
  | .And => x.map .and_
  | .Or => x.map .or_
noncomputable def cCmpE (f : Expr → Option E) (l : Expr) (ops : List CmpOp) (rs : List Expr) : Option E := match ops with
  | [] => none
  | o1 :: ops => match rs with
    | [] => none
    | b :: rs => match ops with
      | [] => (match rs with | [] => (f l).bind fun a => (f b).map fun b => .cmp1 o1 a b | _ :: _ => none)
      | o2 :: ops => match rs with
        | [] => none
        | c :: rs => match ops with
          | [] => (match rs with | [] => (f l).bind fun x => (f b).bind fun y => (f c).map fun z => .cmp2 o1 o2 x y z | _ :: _ => none)
          | _ :: _ => none
noncomputable def cAttrCall (f : Expr → Option E) (fs : List Expr → Option (List E)) (sc : Scope) (o : Expr) (m : Str) (ap : Pos) (args : List Expr) (cp : Pos) : Option E :=
  if jgLook sc o m ap args cp then some (.joinGen (.cS (strOf o)) (.var "chunks"))
  else if rsLook sc o m ap args cp then (f (sndE args)).map .resub
  else if bare o && ap.endLine == cp.line && decide (args.length < 29) then (nameOf m).bind fun t => (f o).bind fun a => (fs args).map fun l => .meth a t l else none
noncomputable def cNameCall (fs : List Expr → Option (List E)) (sc : Scope) (f : Str) (args : List Expr) : Option E :=
  if decide (args.length < 29) && !(f == ("__debug__" : Str)) then (nameOf f).bind fun t => (fs args).bind fun l => if isGlob sc f then some (.callG t l) else if isLocal sc f then some (.callL t l) else none else none
noncomputable def cCall (f : Expr → Option E) (fs : List Expr → Option (List E)) (sc : Scope) (g : Expr) (args : List Expr) (cp : Pos) : Option E := match g with
  | .Attribute o m ap => cAttrCall f fs sc o m ap args cp
  | .Name x _ => cNameCall fs sc x args
  | _ => none
noncomputable def cSubs (f : Expr → Option E) (fo : Option Expr → Option (Option E)) (o i : Expr) : Option E := match i with
  | .Slice lo hi st _ => if st.isNone then (f o).bind fun a => (fo lo).bind fun b => (fo hi).map fun c => .slc a b c else none
  | i => (f o).bind fun a => (f i).map fun b => .sub a b
noncomputable def cComp (f : Expr → Option E) (f' : Expr → Option E) (fs : List Expr → Option (List E)) (sc sc' : Scope) (elt t it : Expr) (ifs : List Expr) : Option E :=
        if sc'.kind == .function && !isGlob sc' ("_twin_re_1" : Str) && (sc'.names.all fun x => x.2 != .cell && (x.2 != .local || sc'.names.lookup x.1 == some .local) && (x.2 != .free || (isDeref sc x.1 && sc'.names.lookup x.1 == some .free))) && few ifs then
          (targetsOf sc' t).bind fun (ts, one) => (freesOf sc'.names).bind fun fv => (f' elt).bind fun a => (f it).bind fun b => (fs ifs).map fun c => .comp a ts one fv b c
        else none
noncomputable def cComps (gs : List Comprehension) (k : Expr → Expr → List Expr → Option E) : Option E := match gs with
  | [] => none
  | g :: gs => match gs with
    | [] => if g.is_async == 0 then k g.target g.iter g.ifs else none
    | _ :: _ => none
noncomputable def cF1 (f : Expr → Option E) (fs : List Expr → Option (List E)) (e : Expr) (es : List Expr) : Option (List E) := match e with
  | .FormattedValue v c sp _ => if c == -1 && sp.isNone then (f v).bind fun a => (fs es).map (a :: ·) else none
  | .Constant c _ _ => (match c with | .str s => (fs es).map (.cS s.cps.toList :: ·) | _ => none)
  | _ => none

mutual
noncomputable def cE : Nat → Scope → Expr → Option E
  | 0, _, _ => none
  | n + 1, sc, e => match e with
    | .Constant c _ _ => cConst c
    | .Name x _ => if (isLocal sc x || isDeref sc x) && !(x == ("__debug__" : Str)) && !(x == ("__classdict__" : Str)) then (nameOf x).map .var else none
    | .BinOp l op r _ => (cE n sc l).bind fun a => (cE n sc r).map fun b => .bin op a b
    | .UnaryOp op x _ => cUn op (cE n sc x)
    | .Compare l ops rs _ => cCmpE (cE n sc) l ops rs
    | .BoolOp op es _ => cBool op (cEs n sc es)
    | .IfExp c a b _ => (cE n sc c).bind fun x => (cE n sc a).bind fun y => (cE n sc b).map fun z => .ite x y z
    | .Call g args kws cp => if kws.isEmpty then cCall (cE n sc) (cEs n sc) sc g args cp else none
    | .Subscript o i _ => cSubs (cE n sc) (cEo n sc) o i
    | .List es _ => (cEs n sc es).map .lst
    | .Tuple es _ _ => (cEs n sc es).map .tup
    | .ListComp elt gs sc' _ => cComps gs fun t it ifs => cComp (cE n sc) (cE n sc') (cEs n sc') sc sc' elt t it ifs
    | .JoinedStr es _ => if decide (2 ≤ es.length) then (cFs n sc es).map .fstr else none
    | .Attribute o m _ => if bare o then (nameOf m).bind fun t => (cE n sc o).map fun a => .attr a t else none
    | _ => none
noncomputable def cEs : Nat → Scope → List Expr → Option (List E)
  | 0, _, _ => none
  | n + 1, sc, es => match es with
    | [] => some []
    | e :: es => (cE n sc e).bind fun a => (cEs n sc es).map (a :: ·)
noncomputable def cEo : Nat → Scope → Option Expr → Option (Option E)
  | 0, _, _ => none
  | n + 1, sc, e => match e with
    | none => some none
    | some e => (cE n sc e).map some
noncomputable def cFs : Nat → Scope → List Expr → Option (List E)
  | 0, _, _ => none
  | n + 1, sc, es => match es with
    | [] => some []
    | e :: es => cF1 (cE n sc) (cFs n sc) e es
end

noncomputable def notComp (e : Expr) : Bool := match e with | .ListComp .. => false | .SetComp .. => false | .DictComp .. => false | _ => true
noncomputable def noTuple (e : Expr) : Bool := match e with | .Tuple .. => false | _ => true

noncomputable def is2 (sc : Scope) (es : List Expr) (e : Expr) : Bool :=
  twoIs es fun a b => nameIs a fun x px => nameIs b fun y py => tupIs e fun fs => twoIs fs fun c e2 => conInt c && (callN e2 && (isLocal sc x && isLocal sc y && px.line == py.line && !(x == y)))
noncomputable def cAsg (f : Expr → Option E) (sc : Scope) (t e : Expr) : Option S := match t with
  | .Name x _ => if isLocal sc x || kindIn sc x == some .cell then (nameOf x).bind fun t => (f e).map fun a => .asg t a else none
  | .Tuple es k p => if noTuple e then (targetsOf sc (.Tuple es k p)).bind fun (ts, _) => (f e).map fun a => .asgT ts a
      else if is2 sc es e then (nameOf (nmOf (fstE es))).bind fun tx => (nameOf (nmOf (sndE es))).bind fun ty => (f e).map fun a => .asgT [tx, ty] a else none
  | .Subscript o i _ => if notComp e && notSlice i then (f o).bind fun a => (f i).bind fun b => (f e).map fun c => .setI a b c else none
  | _ => none
noncomputable def cAug (f : Expr → Option E) (sc : Scope) (t : Expr) (op : Operator) (e : Expr) : Option S := match t with
  | .Name x _ => if isLocal sc x then (nameOf x).bind fun t => (f e).map fun a => .aug t op a else none
  | _ => none
noncomputable def cDel (f : Expr → Option E) (t : Expr) : Option S := match t with
  | .Subscript o i _ => if notSlice i then (f o).bind fun a => (f i).map fun b => .del a b else none
  | _ => none
noncomputable def one1 {α β : Type} (l : List α) (k : α → Option β) : Option β := match l with
  | [] => none
  | a :: l => match l with | [] => k a | _ :: _ => none

mutual
noncomputable def cS : Nat → Scope → Stmt → Option S
  | 0, _, _ => none
  | n + 1, sc, s => match s with
    | .Assign ts e _ => one1 ts fun t => cAsg (cE n sc) sc t e
    | .AugAssign t op e _ => cAug (cE n sc) sc t op e
    | .Delete ts _ => one1 ts fun t => cDel (cE n sc) t
    | .Return e _ => e.bind fun e => (cE n sc e).map .ret
    | .If c t f _ => (cE n sc c).bind fun a => (cSs n sc t).bind fun b => (cSs n sc f).map fun d => .iff a b d
    | .While c b els _ => if els.isEmpty then (cE n sc c).bind fun a => (cSs n sc b).map fun d => .whl a d else none
    | .For t it b els _ => if els.isEmpty then (targetsOf sc t).bind fun (ts, one) => (cE n sc it).bind fun a => (cSs n sc b).map fun d => .for_ ts one a d else none
    | .Break _ => some .brk
    | .Expr e _ => if notComp e then (cE n sc e).map .ex else none
    | .Assert e _ _ => (cE n sc e).map .asrt
    | _ => none
noncomputable def cSs : Nat → Scope → List Stmt → Option (List S)
  | 0, _, _ => none
  | n + 1, sc, ss => match ss with
    | [] => some []
    | s :: ss => (cSs n sc ss).map (((cS n sc s).getD .bad) :: ·)
end

/- small operations -/
noncomputable def lim : Nat := 1000000
noncomputable def chk {α : Type} (n : Nat) (k : Option α) : Option α := if n ≤ lim then k else Option.none

noncomputable def place (k : Int) (n : Nat) : Option Nat :=
  if 0 ≤ k then (if k.toNat < n then some k.toNat else Option.none)
  else if 0 ≤ k + n then some (k + n).toNat else Option.none

noncomputable def clampI (n : Nat) (i : Int) : Nat := if i < 0 then (i + n).toNat else min i.toNat n
noncomputable def pySlice {α : Type} (lo hi : Option Int) (l : List α) : List α :=
  (l.take (match hi with | some h => clampI l.length h | none => l.length)).drop (match lo with | some h => clampI l.length h | none => 0)

/- looks at a value -/
noncomputable def V.ref? (v : V) : Option Nat := match v with | .ref a => some a | _ => Option.none
noncomputable def V.str? (v : V) : Option (List Nat) := match v with | .str a => some a | _ => Option.none
noncomputable def V.int? (v : V) : Option Int := match v with | .int a => some a | _ => Option.none
noncomputable def V.bool? (v : V) : Option Bool := match v with | .bool a => some a | _ => Option.none
noncomputable def V.tup? (v : V) : Option (List V) := match v with | .tup a => some a | _ => Option.none
noncomputable def V.app? (v : V) : Option Nat := match v with | .app a => some a | _ => Option.none
noncomputable def V.mgr? (v : V) : Option Nat := match v with | .mgr a => some a | _ => Option.none
noncomputable def V.isN (v : V) : Bool := match v with | .none => true | _ => false
noncomputable def one {α : Type} (l : List α) : Option α := match l with
  | [] => Option.none
  | a :: l => match l with | [] => some a | _ :: _ => Option.none
noncomputable def two {α : Type} (l : List α) : Option (α × α) := match l with
  | [] => Option.none
  | a :: l => (one l).map fun b => (a, b)
noncomputable def three {α : Type} (l : List α) : Option (α × α × α) := match l with
  | [] => Option.none
  | a :: l => (two l).map fun b => (a, b)

noncomputable def hGet (H : Hp) (a : Nat) : Option (List V) := match H[a]? with | some (.lst xs) => some xs | _ => Option.none

noncomputable def eq1 (x y : V) : Option Bool := match x with
  | .str a => y.str?.map (a == ·)
  | .bool a => y.bool?.map (a == ·)
  | .int a => y.int?.map (a == ·)
  | _ => Option.none

noncomputable def eqW (f : V → V → Option Bool) : List V → List V → Option Bool
  | [], bs => match bs with | [] => some true | _ :: _ => Option.none
  | a :: as, bs => match bs with | [] => Option.none | b :: bs => (f a b).bind fun c => (eqW f as bs).map fun d => c && d
noncomputable def eqS (as bs : List V) : Option Bool := eqW eq1 as bs

noncomputable def eq2 (H : Hp) (x y : V) : Option Bool := match x.ref? with
  | some a => y.ref?.bind fun b => if a = b then Option.none else (hGet H a).bind fun xs => (hGet H b).bind fun ys => if xs.length = ys.length then eqS xs ys else some false
  | Option.none => eq1 x y

noncomputable def eqLst (H : Hp) (xs ys : List V) : Option Bool := if xs.length = ys.length then eqW (eq2 H) xs ys else some false

noncomputable def intC (f : Int → Int → Bool) (a b : V) : Option Bool := a.int?.bind fun x => b.int?.map (f x)
noncomputable def strC (f : List Nat → List Nat → Bool) (a b : V) : Option Bool := a.str?.bind fun x => b.str?.map (f x)
noncomputable def isIntV : V → Bool | .int _ => true | _ => false
noncomputable def pEq (a b : V) (H : Hp) : Option Bool := match a with
  | .int x => b.int?.map (x == ·)
  | .str x => b.str?.map (x == ·)
  | .bool x => b.bool?.map (x == ·)
  | .tup as => b.tup?.bind fun bs => if as.length = bs.length then eqS as bs else Option.none
  | .ref i => b.ref?.bind fun j => (hGet H i).bind fun xs => (hGet H j).bind fun ys => eqLst H xs ys
  | _ => Option.none
noncomputable def pNe (a b : V) (H : Hp) : Option Bool := match a with
  | .int x => b.int?.map (x != ·)
  | .str x => b.str?.map (x != ·)
  | .bool x => b.bool?.map (x != ·)
  | .ref i => b.ref?.bind fun j => (hGet H i).bind fun xs => (hGet H j).bind fun ys => (eqLst H xs ys).map not
  | _ => Option.none
noncomputable def pIs (a b : V) : Option Bool := match a with
  | .none => if b.isN then some true else Option.none
  | .tup _ => if b.isN then some false else Option.none
  | .ref x => b.ref?.map (x == ·)
  | .str _ => b.ref?.map fun _ => false
  | _ => Option.none
noncomputable def pIsNot (a b : V) : Option Bool := match a with
  | .ref x => b.ref?.map (x != ·)
  | .str _ => b.ref?.map fun _ => true
  | _ => Option.none
noncomputable def in2 (c : List Nat) (vs : List V) : Option Bool := (two vs).bind fun p => p.1.str?.bind fun a => p.2.str?.map fun b => c == a || c == b
noncomputable def inS (c s : List Nat) : Option Bool := (one c).map s.contains
noncomputable def pIn (a b : V) : Option Bool := a.str?.bind fun c => match b with
  | .str s => inS c s
  | .tup vs => in2 c vs
  | _ => Option.none
noncomputable def pNotIn (a b : V) : Option Bool := a.str?.bind fun c => b.str?.bind fun s => (inS c s).map not
noncomputable def pCmp (op : CmpOp) (a b : V) (H : Hp) : Option Bool := match op with
  | .Lt => intC (fun a b => decide (a < b)) a b
  | .LtE => if isIntV a then intC (fun a b => decide (a ≤ b)) a b else strC (fun a b => !decide (b < a)) a b
  | .Gt => if isIntV a then intC (fun a b => decide (b < a)) a b else strC (fun a b => decide (b < a)) a b
  | .GtE => intC (fun a b => decide (b ≤ a)) a b
  | .Eq => pEq a b H
  | .NotEq => pNe a b H
  | .Is => pIs a b
  | .IsNot => pIsNot a b
  | .In => pIn a b
  | .NotIn => pNotIn a b

noncomputable def pAdd (a b : V) (H : Hp) : Option (V × Hp) := match a with
  | .int x => b.int?.map fun y => (.int (x + y), H)
  | .str x => b.str?.bind fun y => chk (x.length + y.length) (some (.str (x ++ y), H))
  | .ref i => b.ref?.bind fun j => (hGet H i).bind fun xs => (hGet H j).bind fun ys => chk (xs.length + ys.length) (some (.ref H.length, H ++ [.lst (xs ++ ys)]))
  | _ => Option.none
noncomputable def intB (f : Int → Int → Option Int) (a b : V) (H : Hp) : Option (V × Hp) := a.int?.bind fun x => b.int?.bind fun y => (f x y).map fun z => (.int z, H)
noncomputable def pMul (a b : V) (H : Hp) : Option (V × Hp) := a.ref?.bind fun i => b.int?.bind fun n => (hGet H i).bind fun xs => (one xs).bind fun x => if 0 ≤ n && n < 1000000 then some (.ref H.length, H ++ [.lst (List.replicate n.toNat x)]) else Option.none
noncomputable def pBin (op : Operator) (a b : V) (H : Hp) : Option (V × Hp) := match op with
  | .Add => pAdd a b H
  | .Sub => intB (fun a b => some (a - b)) a b H
  | .Mod => intB (fun a b => if 0 < b then some (a % b) else Option.none) a b H
  | .FloorDiv => intB (fun a b => if 0 < b && 0 ≤ a && a < 1000000000 && b < 1000000000 then some (a / b) else Option.none) a b H
  | .Mult => pMul a b H
  | _ => Option.none

noncomputable def pSub (o i : V) (H : Hp) : Option V := i.int?.bind fun k => match o with
  | .ref a => (hGet H a).bind fun xs => (place k xs.length).bind fun j => xs[j]?
  | .tup xs => if 0 ≤ k then xs[k.toNat]? else Option.none
  | .str s => (place k s.length).bind fun j => (s[j]?).map fun c => V.str [c]
  | _ => Option.none

noncomputable def oInt (o : Option V) : Option (Option Int) := match o with
  | none => some Option.none
  | some v => v.int?.map some

noncomputable def slcAt (o : V) (lo hi : Option Int) (H : Hp) : Option (V × Hp) := match o with
    | .str s => some (.str (pySlice lo hi s), H)
    | .ref a => (hGet H a).map fun xs => (.ref H.length, H ++ [.lst (pySlice lo hi xs)])
    | .scr xs => some (.ref H.length, H ++ [.lst (pySlice lo hi xs)])
    | _ => Option.none
noncomputable def pSlc (o : V) (lo hi : Option V) (H : Hp) : Option (V × Hp) := (oInt lo).bind fun lo => (oInt hi).bind fun hi => slcAt o lo hi H

noncomputable def truth (v : V) (H : Hp) : Option Bool := match v with
  | .none => some false
  | .bool b => some b
  | .str s => some (!s.isEmpty)
  | .ref a => (hGet H a).map fun xs => !xs.isEmpty
  | _ => Option.none

noncomputable def findIn1 (c : Nat) (s : List Nat) (k j : Nat) : Int :=
  match ((s.take j).drop k).findIdx? (· == c) with
  | some i => (k + i : Nat)
  | none => -1

noncomputable def strsOf : List V → Option (List (List Nat))
  | [] => some []
  | v :: r => v.str?.bind fun s => (strsOf r).map (s :: ·)

noncomputable def intsOf : List V → Option (List Int)
  | [] => some []
  | v :: r => v.int?.bind fun s => (intsOf r).map (s :: ·)

noncomputable def glue (sep : List Nat) (l : List (List Nat)) : List Nat := (l.intersperse sep).flatten

noncomputable def joinOf (sep : List Nat) (xs : List V) : Option V :=
  (strsOf xs).bind fun l => chk ((l.map (·.length)).sum + sep.length * l.length) (some (.str (glue sep l)))

/- len, sum, object -/
noncomputable def gLen (args : List V) (H : Hp) : Option (V × Hp) := (one args).bind fun x => match x with
  | .str s => some (.int s.length, H)
  | .ref a => (hGet H a).map fun xs => (.int xs.length, H)
  | _ => Option.none
noncomputable def gSum (args : List V) (H : Hp) : Option (V × Hp) := (one args).bind fun x => x.ref?.bind fun a => (hGet H a).bind fun xs => (intsOf xs).bind fun l => if l.all (fun i => 0 ≤ i && i < 1000000) && l.length < 1000 then some (.int l.sum, H) else Option.none
noncomputable def gEsc (args : List V) (H : Hp) : Option (V × Hp) := (one args).bind fun x => x.str?.bind fun s => (one s).bind fun c => if c = 97 || c = 47 then some (.str [c], H) else if c = 46 then some (.str [92, 46], H) else Option.none
noncomputable def pGlob (f : String) (args : List V) (H : Hp) : Option (V × Hp) :=
  if f = "len" then gLen args H
  else if f = "sum" then gSum args H
  else if f = "object" then (if args.isEmpty then some (.ref H.length, H ++ [.obj false]) else Option.none)
  else if f = "HTTPPasswordMgr" then (if args.isEmpty then some (.mgr H.length, H ++ [.obj true]) else Option.none)
  else if f = "escape" then gEsc args H
  else Option.none

noncomputable def hSet (H : Hp) (a : Nat) (xs : List V) : Hp := H.set a (.lst xs)

noncomputable def lAppend (a : Nat) (args : List V) (H : Hp) : Option (V × Hp) := (one args).bind fun x => (hGet H a).bind fun xs => chk xs.length (some (.none, hSet H a (xs ++ [x])))
noncomputable def lExtend (a : Nat) (args : List V) (H : Hp) : Option (V × Hp) := (one args).bind fun x => x.ref?.bind fun b => if a = b then Option.none else (hGet H a).bind fun xs => (hGet H b).bind fun ys => chk (xs.length + ys.length) (some (.none, hSet H a (xs ++ ys)))
noncomputable def sJoin (sep : List Nat) (args : List V) (H : Hp) : Option (V × Hp) := (one args).bind fun x => x.ref?.bind fun a => (hGet H a).bind fun xs => (joinOf sep xs).map fun v => (v, H)
noncomputable def sFind (s : List Nat) (args : List V) (H : Hp) : Option (V × Hp) := (three args).bind fun p => p.1.str?.bind fun c => (one c).bind fun c => p.2.1.int?.bind fun k => p.2.2.int?.bind fun j => if 0 ≤ k && 0 ≤ j then some (.int (findIn1 c s k.toNat j.toNat), H) else Option.none
noncomputable def sReplace (s : List Nat) (args : List V) (H : Hp) : Option (V × Hp) := (two args).bind fun p => p.1.str?.bind fun c => (one c).bind fun c => p.2.str?.bind fun _ => if s.contains c then Option.none else some (.str s, H)
noncomputable def sStarts (s : List Nat) (args : List V) (H : Hp) : Option (V × Hp) := (one args).bind fun x => x.str?.map fun p => (.bool (p.isPrefixOf s), H)
noncomputable def pMeth (o : V) (m : String) (args : List V) (H : Hp) : Option (V × Hp) := match o with
  | .ref a => if m = "append" then lAppend a args H else if m = "extend" then lExtend a args H else Option.none
  | .str s => if m = "join" then sJoin s args H else if m = "find" then sFind s args H else if m = "replace" then sReplace s args H else if m = "startswith" then sStarts s args H else Option.none
  | _ => Option.none

noncomputable def isMgr (H : Hp) (i : Nat) : Bool := match H[i]? with | some (.obj true) => true | _ => false
noncomputable def okRecv (v : V) (H : Hp) : Bool := match v with | .ref a => (hGet H a).isSome | .str _ => true | _ => false

noncomputable def bindT (r : Rho) (ts : List String) (one1 : Bool) (v : V) (H : Hp) : Option Rho :=
  match one1 with
  | true => (one ts).map fun x => upd r x v
  | false => (match v with
    | .tup vs => some vs
    | .ref a => hGet H a
    | _ => Option.none).bind fun vs => if vs.length = ts.length then some (updL r ts vs) else Option.none

noncomputable def whileN (t : Rho → Hp → Option (Bool × Hp)) (b : Rho → Hp → Option (Fl × Rho × Hp)) : Nat → Rho → Hp → Option (Fl × Rho × Hp)
  | 0, _, _ => Option.none
  | n + 1, r, H => (t r H).bind fun (c, H1) => match c with
    | true => (b r H1).bind fun (f, r2, H2) => match f with
      | .nx => whileN t b n r2 H2
      | .brk => some (.nx, r2, H2)
      | .ret v => some (.ret v, r2, H2)
    | false => some (.nx, r, H1)

/- where the items come from: an int range or a list -/
inductive Src where
  | ints (l : List Int)
  | list (a : Nat)

noncomputable def srcLen (H : Hp) : Src → Option Nat
  | .ints l => some l.length
  | .list a => (hGet H a).map (·.length)
noncomputable def srcAt (H : Hp) (s : Src) (i : Nat) : Option V := match s with
  | .ints l => (l[i]?).map .int
  | .list a => (hGet H a).bind fun xs => xs[i]?

/- turns from i on, k of them to come; at the end the source has no more -/
noncomputable def forN (s : Src) (b : V → Rho → Hp → Option (Fl × Rho × Hp)) : Nat → Nat → Rho → Hp → Option (Fl × Rho × Hp)
  | 0, i, r, H => if srcLen H s = some i then some (.nx, r, H) else Option.none
  | k + 1, i, r, H => (srcAt H s i).bind fun v => (b v r H).bind fun (f, r2, H2) => match f with
      | .nx => forN s b k (i + 1) r2 H2
      | .brk => some (.nx, r2, H2)
      | .ret v => some (.ret v, r2, H2)

/- a comprehension's turns: the list at acc grows -/
noncomputable def compN (s : Src) (acc : Nat) (b : V → Hp → Option (Option V × Hp)) : Nat → Nat → Hp → Option Hp
  | 0, i, H => if srcLen H s = some i then some H else Option.none
  | k + 1, i, H => (srcAt H s i).bind fun v => (b v H).bind fun (x, H2) => match x with
      | some x => (hGet H2 acc).bind fun xs => chk xs.length (compN s acc b k (i + 1) (hSet H2 acc (xs ++ [x])))
      | none => compN s acc b k (i + 1) H2

/- what the law's patterns hand to sub -/
noncomputable def five : List (List Nat) := [[33, 97], [47, 45, 97], [33], [33, 47], [97, 45, 98]]

noncomputable def rangeUp (n : Int) : List Int := (List.range n.toNat).map fun (i : Nat) => (i : Int)
noncomputable def rangeDown (a b : Int) : List Int := (List.range (a - b).toNat).map fun (i : Nat) => a - (i : Int)

noncomputable def Prog := String → Option (List String × List S)

noncomputable def retOf (f : Fl) : Option V := match f with | .ret v => some v | _ => Option.none
noncomputable def augOK (v w : V) : Bool := match v with
  | .int _ => w.int?.isSome
  | .str _ => w.str?.isSome
  | _ => false
noncomputable def isAdd (op : Operator) : Bool := match op with | .Add => true | _ => false
noncomputable def rngArgs (e : E) : Option (List E) := match e with | .callG f args => if f = "range" then some args else Option.none | _ => Option.none

mutual
noncomputable def ev (P : Prog) : Nat → E → Rho → Hp → Option (V × Hp)
  | 0, _, _, _ => Option.none
  | n + 1, e, r, H => match e with
    | .cN => some (.none, H)
    | .cB b => some (.bool b, H)
    | .cI i => some (.int i, H)
    | .cS s => chk s.length (some (.str s, H))
    | .var x => (r x).map fun v => (v, H)
    | .bin op a b => (ev P n a r H).bind fun (va, H1) => (ev P n b r H1).bind fun (vb, H2) => pBin op va vb H2
    | .neg a => (ev P n a r H).bind fun (va, H1) => va.int?.map fun i => (.int (-i), H1)
    | .cmp1 op a b => (ev P n a r H).bind fun (va, H1) => (ev P n b r H1).bind fun (vb, H2) => (pCmp op va vb H2).map fun c => (.bool c, H2)
    | .cmp2 .. => Option.none
    | .and_ es => (two es).bind fun p => (ev P n p.1 r H).bind fun (va, H1) => (truth va H1).bind fun t => match t with | true => ev P n p.2 r H1 | false => some (va, H1)
    | .or_ es => (two es).bind fun p => (ev P n p.1 r H).bind fun (va, H1) => (truth va H1).bind fun t => match t with | true => some (va, H1) | false => ev P n p.2 r H1
    | .not_ a => (ev P n a r H).bind fun (va, H1) => (truth va H1).map fun t => (.bool (!t), H1)
    | .ite c a b => (tst P n c r H).bind fun (t, H1) => match t with | true => ev P n a r H1 | false => ev P n b r H1
    | .callG f args => (evs P n args r H).bind fun (vs, H1) => match P f with
      | some (ps, body) => if ps.length = vs.length ∧ f ≠ "is_suburi" then
          (exs P n body (updL rnil ps vs) H1).bind fun (f, _, H2) => (retOf f).map fun v => (v, H2)
        else Option.none
      | none => if 2 ≤ n then pGlob f vs H1 else Option.none
    | .callL f args => (evs P n args r H).bind fun (vs, H1) => (r f).bind fun v => v.app?.bind fun a => lAppend a vs H1
    | .meth o m args => (ev P n o r H).bind fun (vo, H1) => (evs P n args r H1).bind fun (vs, H2) => match vo.mgr? with
      | some i => (P m).bind fun (ps, body) => if ps.length = vs.length + 1 ∧ m = "is_suburi" ∧ isMgr H1 i = true then
            (exs P n body (updL rnil ps (.mgr i :: vs)) H2).bind fun (f, _, H2) => (retOf f).map fun v => (v, H2)
          else Option.none
      | none => if okRecv vo H1 then pMeth vo m vs H2 else Option.none
    | .sub o i => (ev P n o r H).bind fun (vo, H1) => (ev P n i r H1).bind fun (vi, H2) => (pSub vo vi H2).map fun v => (v, H2)
    | .slc o lo hi => (ev P n o r H).bind fun (vo, H1) => (evo P n lo r H1).bind fun (vl, H2) => (evo P n hi r H2).bind fun (vh, H3) => pSlc vo vl vh H3
    | .lst es => (evs P n es r H).bind fun (vs, H1) => chk vs.length (some (.ref H1.length, H1 ++ [.lst vs]))
    | .tup es => (evs P n es r H).bind fun (vs, H1) => chk vs.length (some (.tup vs, H1))
    | .comp elt ts one fv it ifs => (src P n it r H).bind fun (s, H1) =>
        let H2 := H1 ++ [.lst []]
        let r' : Rho := fun y => if fv.contains y then r y else Option.none
        (srcLen H2 s).bind fun k =>
        (compN s H1.length (fun v H => (bindT r' ts one v H).bind fun r2 => (tsts P n ifs r2 H).bind fun (t, H3) => match t with
          | true => (ev P n elt r2 H3).map fun (x, H4) => (some x, H4)
          | false => some (Option.none, H3)) k 0 H2).map fun H3 => (.ref H1.length, H3)
    | .fstr es => (evs P n es r H).bind fun (vs, H1) => (strsOf vs).bind fun l => chk (l.map (·.length)).sum (some (.str l.flatten, H1))
    | .attr o m => (ev P n o r H).bind fun (vo, H1) => if m = "append" then vo.ref?.bind fun a => (hGet H1 a).map fun _ => (.app a, H1) else Option.none
    | .joinGen o it => (ev P n o r H).bind fun (vo, H1) => (ev P n it r H1).bind fun (vi, H2) => vo.str?.bind fun sep => vi.ref?.bind fun a => (hGet H2 a).bind fun xs => (strsOf xs).bind fun l => if l.all (fun s => !s.contains 92 && !s.contains 45) then (joinOf sep xs).map fun v => (v, H2) else Option.none
    | .resub e => (ev P n e r H).bind fun (v, H1) => v.str?.bind fun s => if five.contains s then some (.str s, H1) else Option.none
    | .bad => Option.none
noncomputable def evo (P : Prog) : Nat → Option E → Rho → Hp → Option (Option V × Hp)
  | 0, _, _, _ => Option.none
  | n + 1, e, r, H => match e with
    | none => some (Option.none, H)
    | some e => (ev P n e r H).map fun (v, H1) => (some v, H1)
noncomputable def evs (P : Prog) : Nat → List E → Rho → Hp → Option (List V × Hp)
  | 0, _, _, _ => Option.none
  | n + 1, es, r, H => match es with
    | [] => some ([], H)
    | e :: es => (ev P n e r H).bind fun (v, H1) => (evs P n es r H1).map fun (vs, H2) => (v :: vs, H2)
noncomputable def tst (P : Prog) : Nat → E → Rho → Hp → Option (Bool × Hp)
  | 0, _, _, _ => Option.none
  | n + 1, e, r, H => match e with
    | .not_ a => (tst P n a r H).map fun (t, H1) => (!t, H1)
    | .and_ es => tAnd P n es r H
    | .or_ es => tOr P n es r H
    | .cmp1 op a b => (ev P n a r H).bind fun (va, H1) => (ev P n b r H1).bind fun (vb, H2) => (pCmp op va vb H2).map fun c => (c, H2)
    | .cmp2 o1 o2 a b c => (ev P n a r H).bind fun (va, H1) => (ev P n b r H1).bind fun (vb, H2) => (pCmp o1 va vb H2).bind fun t => match t with
        | true => (ev P n c r H2).bind fun (vc, H3) => (pCmp o2 vb vc H3).map fun c => (c, H3)
        | false => some (false, H2)
    | .ite .. => Option.none
    | e => (ev P n e r H).bind fun (v, H1) => (truth v H1).map fun t => (t, H1)
noncomputable def tAnd (P : Prog) : Nat → List E → Rho → Hp → Option (Bool × Hp)
  | 0, _, _, _ => Option.none
  | n + 1, es, r, H => match es with
    | [] => some (true, H)
    | e :: es => (tst P n e r H).bind fun (t, H1) => match t with | true => tAnd P n es r H1 | false => some (false, H1)
noncomputable def tOr (P : Prog) : Nat → List E → Rho → Hp → Option (Bool × Hp)
  | 0, _, _, _ => Option.none
  | n + 1, es, r, H => match es with
    | [] => some (false, H)
    | e :: es => (tst P n e r H).bind fun (t, H1) => match t with | true => some (true, H1) | false => tOr P n es r H1
noncomputable def tsts (P : Prog) : Nat → List E → Rho → Hp → Option (Bool × Hp)
  | 0, _, _, _ => Option.none
  | n + 1, es, r, H => match es with
    | [] => some (true, H)
    | e :: es => match es with | [] => tst P n e r H | _ :: _ => Option.none
noncomputable def src (P : Prog) : Nat → E → Rho → Hp → Option (Src × Hp)
  | 0, _, _, _ => Option.none
  | n + 1, e, r, H => match rngArgs e with
    | some args => (match one args with
      | some a => (ev P n a r H).bind fun (v, H1) => v.int?.bind fun k => if k < 1000000 && -1000000 < k then some (.ints (rangeUp k), H1) else Option.none
      | none => (three args).bind fun p => (ev P n p.1 r H).bind fun (va, H1) => (ev P n p.2.1 r H1).bind fun (vb, H2) => (ev P n p.2.2 r H2).bind fun (vc, H3) => va.int?.bind fun x => vb.int?.bind fun y => vc.int?.bind fun z =>
        if z = -1 then (if x < 1000000 && -1000000 < x && y < 1000000 && -1000000 < y then some (.ints (rangeDown x y), H3) else Option.none) else Option.none)
    | none => (ev P n e r H).bind fun (v, H1) => v.ref?.bind fun a => (hGet H1 a).map fun _ => (.list a, H1)
noncomputable def ex (P : Prog) : Nat → S → Rho → Hp → Option (Fl × Rho × Hp)
  | 0, _, _, _ => Option.none
  | n + 1, s, r, H => match s with
    | .asg x e => (ev P n e r H).map fun (v, H1) => (.nx, upd r x v, H1)
    | .asgT ts e => (ev P n e r H).bind fun (v, H1) => (bindT r ts false v H1).map fun r2 => (.nx, r2, H1)
    | .setI o i e => (ev P n e r H).bind fun (v, H1) => (ev P n o r H1).bind fun (vo, H2) => (ev P n i r H2).bind fun (vi, H3) => vo.ref?.bind fun a => vi.int?.bind fun k => (hGet H3 a).bind fun xs => (place k xs.length).map fun j => (.nx, r, hSet H3 a (xs.set j v))
    | .aug x op e => (r x).bind fun v => (ev P n e r H).bind fun (w, H1) => if isAdd op && augOK v w then (pBin .Add v w H1).map fun (u, H2) => (.nx, upd r x u, H2) else Option.none
    | .del o i => (ev P n o r H).bind fun (vo, H2) => (ev P n i r H2).bind fun (vi, H3) => vo.ref?.bind fun a => vi.int?.bind fun k => (hGet H3 a).bind fun xs => (place k xs.length).map fun j => (.nx, r, hSet H3 a (xs.eraseIdx j))
    | .ret e => (ev P n e r H).map fun (v, H1) => (.ret v, r, H1)
    | .iff c t f => (tst P n c r H).bind fun (b, H1) => match b with | true => exs P n t r H1 | false => exs P n f r H1
    | .whl c b => whileN (tst P n c) (exs P n b) 400 r H
    | .for_ ts one it b => (src P n it r H).bind fun (s, H1) => (srcLen H1 s).bind fun k =>
        forN s (fun v r H => (bindT r ts one v H).bind fun r2 => exs P n b r2 H) k 0 r H1
    | .brk => some (.brk, r, H)
    | .ex e => (ev P n e r H).bind fun (v, H1) => if v.isN then some (.nx, r, H1) else Option.none
    | .asrt e => (tst P n e r H).bind fun (t, H1) => match t with | true => some (.nx, r, H1) | false => Option.none
    | .bad => Option.none
noncomputable def exs (P : Prog) : Nat → List S → Rho → Hp → Option (Fl × Rho × Hp)
  | 0, _, _, _ => Option.none
  | n + 1, ss, r, H => match ss with
    | [] => some (.nx, r, H)
    | s :: ss => (ex P n s r H).bind fun (f, r1, H1) => match f with | .nx => exs P n ss r1 H1 | .brk => some (.brk, r1, H1) | .ret v => some (.ret v, r1, H1)
end

noncomputable def fBody (P : Prog) (n : Nat) (ts : List String) (one : Bool) (b : List S) (v : V) (r : Rho) (H : Hp) : Option (Fl × Rho × Hp) := (bindT r ts one v H).bind fun r2 => exs P n b r2 H
noncomputable def cBody (P : Prog) (n : Nat) (elt : E) (ts : List String) (one : Bool) (ifs : List E) (r' : Rho) (v : V) (H : Hp) : Option (Option V × Hp) := (bindT r' ts one v H).bind fun r2 => (tsts P n ifs r2 H).bind fun (t, H3) => match t with
          | true => (ev P n elt r2 H3).map fun (x, H4) => (some x, H4)
          | false => some (Option.none, H3)
noncomputable def rSub (fv : List String) (r : Rho) : Rho := fun y => if fv.contains y then r y else Option.none
/- the text's defs -/
noncomputable def defIn (n : Str) : List Stmt → Option (Arguments × List Stmt × Scope)
  | [] => Option.none
  | .FunctionDef m a b _ _ _ sc _ _ _ :: r => if m = n then some (a, b, sc) else defIn n r
  | .ClassDef _ _ _ b _ _ _ _ _ _ _ :: r => match b.findSome? (fun st => match st with | .FunctionDef m a b _ _ _ sc _ _ _ => if m = n then some (a, b, sc) else Option.none | _ => Option.none) with
    | some x => some x
    | none => defIn n r
  | _ :: r => defIn n r
noncomputable def cFn (n : Str) : Option (List String × List S) :=
  (defIn n PySem.Challenge.pw_ij0109_01.main.body).bind fun (a, b, sc) => (a.args.mapM fun x => nameOf x.arg).bind fun ps => (cSs 60 sc b).map fun l => (ps, l)

/- eliminators -/
theorem no {β : Type} {x : β} {G : Prop} (h : Option.none = some x) : G := nomatch h
theorem noB {G : Prop} (h : false = true) : G := nomatch h
theorem bindE {α β : Type} {x : Option α} {f : α → Option β} {y : β} {G : Prop} (h : x.bind f = some y) (k : ∀ a, x = some a → f a = some y → G) : G :=
  match x, h, k with
  | some a, h, k => k a rfl h
theorem bindP {α β γ : Type} {x : Option (α × β)} {f : α × β → Option γ} {y : γ} {G : Prop} (h : x.bind f = some y) (k : ∀ a b, x = some (a, b) → f (a, b) = some y → G) : G :=
  bindE h fun a => k a.1 a.2
theorem bindT3 {α β γ δ : Type} {x : Option (α × β × γ)} {f : α × β × γ → Option δ} {y : δ} {G : Prop} (h : x.bind f = some y) (k : ∀ a b c, x = some (a, b, c) → f (a, b, c) = some y → G) : G :=
  bindE h fun a => k a.1 a.2.1 a.2.2
@[elab_as_elim] theorem mapE {α β : Type} {x : Option α} {f : α → β} {G : β → Prop} {y : β} (h : x.map f = some y) (k : ∀ a, x = some a → G (f a)) : G y :=
  match x, h, k with
  | some a, h, k => Option.some.inj h ▸ k a rfl
@[elab_as_elim] theorem someE {β : Type} {a y : β} {G : β → Prop} (h : some a = some y) (g : G a) : G y := Option.some.inj h ▸ g
@[elab_as_elim] theorem someR {β γ : Type} {a : β × γ} {G : β → γ → Prop} {v : β} {w : γ} (h : some a = some (v, w)) (g : G a.1 a.2) : G v w := someE (G := fun p => G p.1 p.2) h g
@[elab_as_elim] theorem someT {β γ δ : Type} {a : β × γ × δ} {G : β → γ → δ → Prop} {v : β} {w : γ} {u : δ} (h : some a = some (v, w, u)) (g : G a.1 a.2.1 a.2.2) : G v w u := someE (G := fun p => G p.1 p.2.1 p.2.2) h g
@[elab_as_elim] theorem mapR {α β γ : Type} {x : Option α} {f : α → β × γ} {G : β → γ → Prop} {v : β} {w : γ} (h : x.map f = some (v, w)) (k : ∀ a, x = some a → G (f a).1 (f a).2) : G v w := mapE (G := fun p => G p.1 p.2) h k
@[elab_as_elim] theorem mapPR {α β γ δ : Type} {x : Option (α × β)} {f : α × β → γ × δ} {G : γ → δ → Prop} {v : γ} {w : δ} (h : x.map f = some (v, w)) (k : ∀ a b, x = some (a, b) → G (f (a, b)).1 (f (a, b)).2) : G v w := mapE (G := fun p => G p.1 p.2) h fun a => k a.1 a.2
@[elab_as_elim] theorem mapPT {α β γ δ ε : Type} {x : Option (α × β)} {f : α × β → γ × δ × ε} {G : γ → δ → ε → Prop} {v : γ} {w : δ} {u : ε} (h : x.map f = some (v, w, u)) (k : ∀ a b, x = some (a, b) → G (f (a, b)).1 (f (a, b)).2.1 (f (a, b)).2.2) : G v w u := mapE (G := fun p => G p.1 p.2.1 p.2.2) h fun a => k a.1 a.2
@[elab_as_elim] theorem mapT {α γ δ ε : Type} {x : Option α} {f : α → γ × δ × ε} {G : γ → δ → ε → Prop} {v : γ} {w : δ} {u : ε} (h : x.map f = some (v, w, u)) (k : ∀ a, x = some a → G (f a).1 (f a).2.1 (f a).2.2) : G v w u := mapE (G := fun p => G p.1 p.2.1 p.2.2) h k
theorem iteP {c : Prop} [Decidable c] {β : Type} {a : Option β} {y : β} {G : Prop} (h : (if c then a else Option.none) = some y) (k : c → a = some y → G) : G := by
  by_cases hc : c
  · exact k hc (by rw [if_pos hc] at h; exact h)
  · rw [if_neg hc] at h; exact no h
theorem andE {a b : Bool} {G : Prop} (h : (a && b) = true) (k : a = true → b = true → G) : G := match a, b, h, k with
  | true, true, _, k => k rfl rfl
theorem chkE {α : Type} {n : Nat} {a : Option α} {y : α} {G : Prop} (h : chk n a = some y) (k : n ≤ lim → a = some y → G) : G := iteP h k

@[elab_as_elim] theorem refE {G : V → Prop} {v : V} {a : Nat} (h : v.ref? = some a) (g : G (.ref a)) : G v := by
  cases v with
  | ref b => exact (Option.some.inj h : b = a) ▸ g
  | _ => exact no h
@[elab_as_elim] theorem strE {G : V → Prop} {v : V} {a : List Nat} (h : v.str? = some a) (g : G (.str a)) : G v := by
  cases v with
  | str b => exact (Option.some.inj h : b = a) ▸ g
  | _ => exact no h
@[elab_as_elim] theorem intE {G : V → Prop} {v : V} {a : Int} (h : v.int? = some a) (g : G (.int a)) : G v := by
  cases v with
  | int b => exact (Option.some.inj h : b = a) ▸ g
  | _ => exact no h
@[elab_as_elim] theorem boolE {G : V → Prop} {v : V} {a : Bool} (h : v.bool? = some a) (g : G (.bool a)) : G v := by
  cases v with
  | bool b => exact (Option.some.inj h : b = a) ▸ g
  | _ => exact no h
@[elab_as_elim] theorem tupE {G : V → Prop} {v : V} {a : List V} (h : v.tup? = some a) (g : G (.tup a)) : G v := by
  cases v with
  | tup b => exact (Option.some.inj h : b = a) ▸ g
  | _ => exact no h
@[elab_as_elim] theorem appE {G : V → Prop} {v : V} {a : Nat} (h : v.app? = some a) (g : G (.app a)) : G v := by
  cases v with
  | app b => exact (Option.some.inj h : b = a) ▸ g
  | _ => exact no h
@[elab_as_elim] theorem mgrE {G : V → Prop} {v : V} {a : Nat} (h : v.mgr? = some a) (g : G (.mgr a)) : G v := by
  cases v with
  | mgr b => exact (Option.some.inj h : b = a) ▸ g
  | _ => exact no h
@[elab_as_elim] theorem isNE {G : V → Prop} {v : V} (h : v.isN = true) (g : G .none) : G v := by
  cases v with
  | none => exact g
  | _ => exact noB h
@[elab_as_elim] theorem retE {G : Fl → Prop} {f : Fl} {a : V} (h : retOf f = some a) (g : G (.ret a)) : G f := by
  cases f with
  | ret b => exact (Option.some.inj h : b = a) ▸ g
  | _ => exact no h
@[elab_as_elim] theorem oneE {α : Type} {G : List α → Prop} {l : List α} {a : α} (h : one l = some a) (g : G [a]) : G l := by
  cases l with
  | nil => exact no h
  | cons b l => cases l with
    | nil => exact (Option.some.inj h : b = a) ▸ g
    | cons _ _ => exact no h
@[elab_as_elim] theorem twoE {α : Type} {G : List α → Prop} {l : List α} {p : α × α} (h : two l = some p) (g : G [p.1, p.2]) : G l := by
  cases l with
  | nil => exact no h
  | cons b l => exact mapE (G := fun p => G [p.1, p.2] → G (b :: l)) h (fun c hc g => oneE (G := fun l => G (b :: l)) hc g) g
@[elab_as_elim] theorem threeE {α : Type} {G : List α → Prop} {l : List α} {p : α × α × α} (h : three l = some p) (g : G [p.1, p.2.1, p.2.2]) : G l := by
  cases l with
  | nil => exact no h
  | cons b l => exact mapE (G := fun p => G [p.1, p.2.1, p.2.2] → G (b :: l)) h (fun c hc g => twoE (G := fun l => G (b :: l)) hc g) g
theorem iteN {c : Prop} [Decidable c] {β : Type} {a : Option β} {y : β} {G : Prop} (h : (if c then Option.none else a) = some y) (k : ¬ c → a = some y → G) : G := by
  by_cases hc : c
  · rw [if_pos hc] at h; exact no h
  · exact k hc (by rw [if_neg hc] at h; exact h)
theorem ite2 {c : Prop} [Decidable c] {β : Type} {a b : Option β} {y : β} {G : Prop} (h : (if c then a else b) = some y) (k1 : c → a = some y → G) (k2 : ¬ c → b = some y → G) : G := by
  by_cases hc : c
  · exact k1 hc (by rw [if_pos hc] at h; exact h)
  · exact k2 hc (by rw [if_neg hc] at h; exact h)

end Mine
end

section
set_option Elab.async false
namespace Mine
open PySem PySem.W PyProof.Rows PySem.Spec PySem.Calls

abbrev F0 : Value → Shared → Prop := fun _ _ => False

/- an object that a small value may be; a frame's table or a cell is none -/
noncomputable def ValO (o : Obj) : Prop := (o.cls = .type "tuple" ∨ o.cls = .type "builtin_function_or_method" ∨ o.cls = .ref 122 ∨ o.cls = .type "list") ∧ match o.data with | .seq .. => True | .fields _ => True | .plain => True | _ => False

/- what a small value is in the heap -/
mutual
inductive VR (X : List Addr) (σ : List Addr) (h : Heap) : V → Value → Prop where
  | none : VR X σ h .none .none
  | bool (b : Bool) : VR X σ h (.bool b) (.bool b)
  | int (i : Int) (t : Tok) : VR X σ h (.int i) (.int i t)
  | str (s : List Nat) (t : Tok) : s.length ≤ 2 * lim → VR X σ h (.str s) (.str ⟨s.toArray⟩ t)
  | tup (vs : List V) (a : Addr) (ws : List Value) (n : Nat) : h.get? a = some { cls := .type "tuple", data := .seq ws.toArray n } → a ∉ σ → a ∉ X → ws.length ≤ 2 * lim → VRs X σ h vs ws → VR X σ h (.tup vs) (.ref a)
  | ref (i : Nat) (a : Addr) : σ[i]? = some a → VR X σ h (.ref i) (.ref a)
  | app (i : Nat) (a b : Addr) : σ[i]? = some a → h.get? b = some { cls := .type "builtin_function_or_method", data := .fields #[.builtin "list.append", .ref a] } → b ∉ σ → b ∉ X → VR X σ h (.app i) (.ref b)
  | mgr (i : Nat) (b d : Addr) : σ[i]? = some d → h.get? b = some { cls := .ref 122, dict := some d } → b ∉ σ → b ∉ X → VR X σ h (.mgr i) (.ref b)
  | scr (vs : List V) (a : Addr) (ws : List Value) (n : Nat) : h.get? a = some { cls := .type "list", data := .seq ws.toArray n } → a ∉ σ → a ∉ X → ws.length ≤ 2 * lim → VRs X σ h vs ws → VR X σ h (.scr vs) (.ref a)
inductive VRs (X : List Addr) (σ : List Addr) (h : Heap) : List V → List Value → Prop where
  | nil : VRs X σ h [] []
  | cons {v : V} {w : Value} {vs : List V} {ws : List Value} : VR X σ h v w → VRs X σ h vs ws → VRs X σ h (v :: vs) (w :: ws)
end

variable {X : List Addr}

mutual
theorem VR.mono {σ σ' : List Addr} {h h' : Heap} (hp : σ <+: σ') (hk : ∀ b o, h.get? b = some o → b ∉ σ → b ∉ X → ValO o → h'.get? b = some o ∧ b ∉ σ') :
    ∀ {v : V} {w : Value}, VR X σ h v w → VR X σ' h' v w
  | _, _, .none => .none
  | _, _, .bool b => .bool b
  | _, _, .int i t => .int i t
  | _, _, .str s t e => .str s t e
  | _, _, .tup vs a ws n e h1 h2 h3 r => let ⟨e', h1'⟩ := hk a _ e h1 h2 ⟨.inl rfl, trivial⟩; .tup vs a ws n e' h1' h2 h3 (VRs.mono hp hk r)
  | _, _, .ref i a e => .ref i a (by
      obtain ⟨t, rfl⟩ := hp
      rw [List.getElem?_append_left (List.getElem?_eq_some_iff.mp e).1]; exact e)
  | _, _, .app i a b e e2 h1 h2 => let ⟨e', h1'⟩ := hk b _ e2 h1 h2 ⟨.inr (.inl rfl), trivial⟩; .app i a b (by
      obtain ⟨t, rfl⟩ := hp
      rw [List.getElem?_append_left (List.getElem?_eq_some_iff.mp e).1]; exact e) e' h1' h2
  | _, _, .scr vs a ws n e h1 h2 h3 r => let ⟨e', h1'⟩ := hk a _ e h1 h2 ⟨.inr (.inr (.inr rfl)), trivial⟩; .scr vs a ws n e' h1' h2 h3 (VRs.mono hp hk r)
  | _, _, .mgr i b d ei e h1 h2 => let ⟨e', h1'⟩ := hk b _ e h1 h2 ⟨.inr (.inr (.inl rfl)), trivial⟩; .mgr i b d (by
      obtain ⟨t, rfl⟩ := hp
      rw [List.getElem?_append_left (List.getElem?_eq_some_iff.mp ei).1]; exact ei) e' h1' h2
theorem VRs.mono {σ σ' : List Addr} {h h' : Heap} (hp : σ <+: σ') (hk : ∀ b o, h.get? b = some o → b ∉ σ → b ∉ X → ValO o → h'.get? b = some o ∧ b ∉ σ') :
    ∀ {v : List V} {w : List Value}, VRs X σ h v w → VRs X σ' h' v w
  | _, _, .nil => .nil
  | _, _, .cons a b => .cons (VR.mono hp hk a) (VRs.mono hp hk b)
end

theorem VRs.length {σ : List Addr} {h : Heap} : ∀ {vs : List V} {ws : List Value}, VRs X σ h vs ws → vs.length = ws.length
  | _, _, .nil => rfl
  | _, _, .cons _ r => by simp [VRs.length r]
theorem VRs.get {σ : List Addr} {h : Heap} : ∀ {vs : List V} {ws : List Value}, VRs X σ h vs ws → ∀ {i : Nat} {v : V}, vs[i]? = some v → ∃ w, ws[i]? = some w ∧ VR X σ h v w
  | _, _, .nil, i, v, e => by simp at e
  | _, _, .cons a r, 0, v, e => by simp at e; subst e; exact ⟨_, rfl, a⟩
  | _, _, .cons a r, i + 1, v, e => by simp at e; simpa using VRs.get r e
theorem VRs.append {σ : List Addr} {h : Heap} : ∀ {vs : List V} {ws : List Value}, VRs X σ h vs ws → ∀ {vs' : List V} {ws' : List Value}, VRs X σ h vs' ws' → VRs X σ h (vs ++ vs') (ws ++ ws')
  | _, _, .nil, _, _, b => b
  | _, _, .cons a r, _, _, b => .cons a (r.append b)
theorem VRs.take {σ : List Addr} {h : Heap} : ∀ {vs : List V} {ws : List Value}, VRs X σ h vs ws → ∀ n, VRs X σ h (vs.take n) (ws.take n)
  | _, _, .nil, n => by simp; exact .nil
  | _, _, .cons a r, 0 => by simp; exact .nil
  | _, _, .cons a r, n + 1 => by simp; exact .cons a (r.take n)
theorem VRs.drop {σ : List Addr} {h : Heap} : ∀ {vs : List V} {ws : List Value}, VRs X σ h vs ws → ∀ n, VRs X σ h (vs.drop n) (ws.drop n)
  | _, _, .nil, n => by simp; exact .nil
  | _, _, .cons a r, 0 => by simp; exact .cons a r
  | _, _, .cons a r, n + 1 => by simp; exact r.drop n
theorem VRs.set {σ : List Addr} {h : Heap} {v : V} {w : Value} (hv : VR X σ h v w) : ∀ {vs : List V} {ws : List Value}, VRs X σ h vs ws → ∀ n, VRs X σ h (vs.set n v) (ws.set n w)
  | _, _, .nil, n => by simp; exact .nil
  | _, _, .cons a r, 0 => by simp; exact .cons hv r
  | _, _, .cons a r, n + 1 => by simp; exact .cons a (VRs.set hv r n)
theorem VRs.erase {σ : List Addr} {h : Heap} : ∀ {vs : List V} {ws : List Value}, VRs X σ h vs ws → ∀ n, VRs X σ h (vs.eraseIdx n) (ws.eraseIdx n)
  | _, _, .nil, n => by simp; exact .nil
  | _, _, .cons a r, 0 => by simp; exact r
  | _, _, .cons a r, n + 1 => by simp; exact .cons a (r.erase n)
theorem VRs.replicate {σ : List Addr} {h : Heap} {v : V} {w : Value} (hv : VR X σ h v w) : ∀ n, VRs X σ h (List.replicate n v) (List.replicate n w)
  | 0 => .nil
  | n + 1 => .cons hv (VRs.replicate hv n)

/- the base: the heap behind the top's run with the script; the places that may be turned by the interpreter itself (tables of code); what holds of these -/
structure Cx where
  B : Heap
  X : List Addr
  Soft : Heap → Prop
  stable : ∀ h h' : Heap, (∀ b ∈ X, ∀ o, h.get? b = some o → h'.get? b = some o) → Soft h → Soft h'

/- an object of the run's own that is never turned: object() itself, or a manager's table -/
noncomputable def FixOK (k : Bool) (o : Obj) : Prop := match k with
  | false => o = { cls := .type "object" }
  | true => ∃ es n, o = dictOf es n ∧ getL ("is_suburi" : Str) es = some none

/- the whole state: the base heap is kept, every small list lies at its place -/
structure Inv (C : Cx) (σ : List Addr) (H : Hp) (s : Shared) : Prop where
  keep : ∀ b o, C.B.get? b = some o → b ∉ C.X → s.heap.get? b = some o
  len : σ.length = H.length
  nd : σ.Nodup
  fresh : ∀ a ∈ σ, C.B.get? a = none
  lst : ∀ (i : Nat) a xs, σ[i]? = some a → H[i]? = some (.lst xs) → ∃ vs n, s.heap.get? a = some { cls := .type "list", data := .seq vs n } ∧ VRs C.X σ s.heap xs vs.toList ∧ xs.length ≤ 2 * lim
  obj : ∀ (i : Nat) a k, σ[i]? = some a → H[i]? = some (.obj k) → ∃ o, s.heap.get? a = some o ∧ FixOK k o
  disj : ∀ a ∈ σ, a ∉ C.X
  soft : C.Soft s.heap
  softX : ∀ b ∈ C.X, ∃ o, s.heap.get? b = some o
  bare : AllBare s.gens

/- what a run leaves; W: the places of the run's own names -/
structure StepW (C : Cx) (W : List Addr) (σ : List Addr) (s : Shared) (σ' : List Addr) (H' : Hp) (s' : Shared) : Prop where
  pre : σ <+: σ'
  inv : Inv C σ' H' s'
  pres : ∀ b o, s.heap.get? b = some o → b ∉ σ → b ∉ C.X → (b ∈ W → ValO o) → s'.heap.get? b = some o
  new : ∀ a ∈ σ', a ∈ σ ∨ s.heap.get? a = none
  os : s'.os = s.os
  old : ∀ b o, s.heap.get? b = some o → ∃ o', s'.heap.get? b = some o'
abbrev Step (C : Cx) := StepW C []

variable {C : Cx} {W : List Addr}

theorem StepW.refl {σ H s} (I : Inv C σ H s) : StepW C W σ s σ H s := ⟨List.prefix_refl _, I, fun _ _ e _ _ _ => e, fun _ h => .inl h, rfl, fun _ o e => ⟨o, e⟩⟩
theorem Step.refl {σ H s} (I : Inv C σ H s) : Step C σ s σ H s := StepW.refl I
theorem StepW.kept {σ s σ' H' s'} (S : StepW C W σ s σ' H' s') : ∀ b o, s.heap.get? b = some o → b ∉ σ → b ∉ C.X → ValO o → s'.heap.get? b = some o ∧ b ∉ σ' := fun b o e h1 h2 h3 =>
  ⟨S.pres b o e h1 h2 fun _ => h3, fun h => (S.new b h).elim h1 fun q => by rw [q] at e; cases e⟩
theorem StepW.kept' {σ s σ' H' s'} (S : StepW C W σ s σ' H' s') : ∀ b o, s.heap.get? b = some o → b ∉ σ → b ∉ C.X → (b ∈ W → ValO o) → s'.heap.get? b = some o ∧ b ∉ σ' := fun b o e h1 h2 h3 =>
  ⟨S.pres b o e h1 h2 h3, fun h => (S.new b h).elim h1 fun q => by rw [q] at e; cases e⟩
theorem StepW.trans {σ s σ1 H1 s1 σ2 H2 s2} (S : StepW C W σ s σ1 H1 s1) (S' : StepW C W σ1 s1 σ2 H2 s2) : StepW C W σ s σ2 H2 s2 :=
  ⟨S.pre.trans S'.pre, S'.inv, fun b o e h1 h2 h3 => let ⟨e1, h4⟩ := S.kept' b o e h1 h2 h3; S'.pres b o e1 h4 h2 h3, fun a h => (S'.new a h).elim (S.new a) fun q => (by
    cases hq : s.heap.get? a with
    | none => exact .inr rfl
    | some o => exfalso; obtain ⟨o', ho'⟩ := S.old a o hq; rw [q] at ho'; cases ho'), S'.os.trans S.os, fun b o e => let ⟨o1, e1⟩ := S.old b o e; S'.old b o1 e1⟩
theorem StepW.weaken {σ s σ' H' s'} {W' : List Addr} (S : StepW C W σ s σ' H' s') (h : ∀ a ∈ W, a ∈ W') : StepW C W' σ s σ' H' s' :=
  ⟨S.pre, S.inv, fun b o e h1 h2 h3 => S.pres b o e h1 h2 fun q => h3 (h b q), S.new, S.os, S.old⟩
theorem StepW.wide {σ s σ' H' s'} (S : Step C σ s σ' H' s') : StepW C W σ s σ' H' s' := S.weaken fun _ h => nomatch h
/- own places that did not yet lie in the heap at the begin are no loss -/
theorem StepW.less {σ s σ' H' s'} {W' : List Addr} (S : StepW C W σ s σ' H' s') (h : ∀ a ∈ W, a ∈ W' ∨ s.heap.get? a = none) : StepW C W' σ s σ' H' s' :=
  ⟨S.pre, S.inv, fun b o e h1 h2 h3 => S.pres b o e h1 h2 fun q => (h b q).elim h3 fun n => (by rw [n] at e; cases e), S.new, S.os, S.old⟩
theorem StepW.drop {σ s σ' H' s'} (S : StepW C W σ s σ' H' s') (h : ∀ a ∈ W, s.heap.get? a = none) : Step C σ s σ' H' s' :=
  ⟨S.pre, S.inv, fun b o e h1 h2 _ => S.pres b o e h1 h2 fun q => (by rw [h b q] at e; cases e), S.new, S.os, S.old⟩
theorem StepW.vr {σ s σ' H' s'} (S : StepW C W σ s σ' H' s') {v : V} {w : Value} (h : VR C.X σ s.heap v w) : VR C.X σ' s'.heap v w := h.mono S.pre S.kept
theorem StepW.vrs {σ s σ' H' s'} (S : StepW C W σ s σ' H' s') {v : List V} {w : List Value} (h : VRs C.X σ s.heap v w) : VRs C.X σ' s'.heap v w := h.mono S.pre S.kept

/- a state that grew: nothing but new objects that are no small lists, tokens -/
theorem Inv.notX_fresh {σ H s} (I : Inv C σ H s) {a : Addr} (h : s.heap.get? a = none) : a ∉ C.X := fun hx => by obtain ⟨o, e⟩ := I.softX a hx; rw [h] at e; cases e
theorem Inv.notσ_fresh {σ H s} (I : Inv C σ H s) {a : Addr} (h : s.heap.get? a = none) : a ∉ σ := fun hx => by
  obtain ⟨i, hi, rfl⟩ := List.mem_iff_getElem.mp hx
  have hi' : i < H.length := by rw [← I.len]; exact hi
  cases hq : H[i] with
  | lst xs =>
    obtain ⟨vs, n, e, _⟩ := I.lst i σ[i] xs (List.getElem?_eq_getElem hi) (by rw [List.getElem?_eq_getElem hi', hq])
    rw [h] at e; cases e
  | obj k =>
    obtain ⟨o, e, _⟩ := I.obj i σ[i] k (List.getElem?_eq_getElem hi) (by rw [List.getElem?_eq_getElem hi', hq])
    rw [h] at e; cases e
theorem Inv.notB_fresh {σ H s} (I : Inv C σ H s) {a : Addr} (h : s.heap.get? a = none) : C.B.get? a = none := by
  cases hq : C.B.get? a with
  | none => rfl
  | some o => rw [I.keep a o hq (I.notX_fresh h)] at h; cases h

/- nothing that was there is turned, but C.Soft may be -/
theorem Inv.grow {σ H s s'} (I : Inv C σ H s) (hk : ∀ b o, s.heap.get? b = some o → b ∉ C.X → s'.heap.get? b = some o) (hx : ∀ b ∈ C.X, ∃ o, s'.heap.get? b = some o) (hs : C.Soft s'.heap) (hg : AllBare s'.gens) (ho : s'.os = s.os) : Step C σ s σ H s' := by
  have hX := I.disj
  have hk2 : ∀ b o, s.heap.get? b = some o → b ∉ σ → b ∉ C.X → ValO o → s'.heap.get? b = some o ∧ b ∉ σ := fun b o e h1 h2 _ => ⟨hk b o e h2, h1⟩
  refine ⟨List.prefix_refl _, ⟨fun b o e h => hk b o (I.keep b o e h) h, I.len, I.nd, I.fresh, fun i a xs e1 e2 => ?_, fun i a k e1 e2 => ?_, I.disj, hs, hx, hg⟩, fun b o e _ h _ => hk b o e h, fun a h => .inl h, ho, fun b o e => (by
    by_cases hb : b ∈ C.X
    · exact hx b hb
    · exact ⟨o, hk b o e hb⟩)⟩
  · obtain ⟨vs, n, e, r, l⟩ := I.lst i a xs e1 e2
    exact ⟨vs, n, hk a _ e (hX a (List.mem_of_getElem? e1)), r.mono (List.prefix_refl _) hk2, l⟩
  · obtain ⟨o, e, f⟩ := I.obj i a k e1 e2
    exact ⟨o, hk a _ e (hX a (List.mem_of_getElem? e1)), f⟩

theorem Inv.toks_ {σ H s} {tk : Nat} (I : Inv C σ H s) : Step C σ s σ H { s with toks := tk } :=
  I.grow (fun _ _ e _ => e) I.softX I.soft I.bare rfl

theorem nodup_idx {α : Type} : ∀ {l : List α}, l.Nodup → ∀ {i j : Nat} {a : α}, l[i]? = some a → l[j]? = some a → i = j
  | [], _, i, j, a, e, _ => by simp at e
  | x :: l, hn, 0, 0, a, _, _ => rfl
  | x :: l, hn, 0, j + 1, a, e, e' => by
    simp at e e'; subst e
    exact absurd (List.mem_of_getElem? e') (List.nodup_cons.mp hn).1
  | x :: l, hn, i + 1, 0, a, e, e' => by
    simp at e e'; subst e'
    exact absurd (List.mem_of_getElem? e) (List.nodup_cons.mp hn).1
  | x :: l, hn, i + 1, j + 1, a, e, e' => by
    simp at e e'
    rw [nodup_idx (List.nodup_cons.mp hn).2 e e']

theorem hGet_some {H : Hp} {i : Nat} {xs : List V} (e : hGet H i = some xs) : H[i]? = some (.lst xs) := by
  unfold hGet at e
  split at e
  · rename_i ys h; cases e; exact h
  · cases e
theorem fresh_at (h : Heap) : h.get? h.objs.size = none := by
  cases e : h.get? h.objs.size with
  | none => rfl
  | some o => exact absurd (Heap.lt_size e) (Nat.lt_irrefl _)
theorem Inv.at_ {σ H s} (I : Inv C σ H s) {i : Nat} {a : Addr} {xs : List V} (e1 : σ[i]? = some a) (e2 : hGet H i = some xs) :
    ∃ vs n, s.heap.get? a = some { cls := .type "list", data := .seq vs n } ∧ VRs C.X σ s.heap xs vs.toList ∧ xs.length ≤ 2 * lim := I.lst i a xs e1 (hGet_some e2)


theorem Inv.keeps {σ H s s'} (I : Inv C σ H s) (hk : ∀ b o, s.heap.get? b = some o → s'.heap.get? b = some o) (hg : s'.gens = s.gens) (ho : s'.os = s.os) : Step C σ s σ H s' :=
  I.grow (fun b o e _ => hk b o e) (fun b hb => let ⟨o, e⟩ := I.softX b hb; ⟨o, hk b o e⟩) (C.stable _ _ (fun b _ o e => hk b o e) I.soft) (hg ▸ I.bare) ho

theorem Inv.push {σ H s} {o : Obj} {tk : Nat} (I : Inv C σ H s) : Step C σ s σ H { s with heap := s.heap.push o, toks := tk } :=
  I.keeps (fun _ _ e => Heap.get?_push_of_some o e) rfl rfl

/- a new small list, made on top of a state that grew -/
theorem Inv.newList {σ H s} {s' : Shared} {xs : List V} {vs : Array Value} {n : Nat} {a : Addr} (I : Inv C σ H s) (hf : s.heap.get? a = none) (ha : s'.heap.get? a = some { cls := .type "list", data := .seq vs n })
    (hk : ∀ b o, s.heap.get? b = some o → s'.heap.get? b = some o) (hg : s'.gens = s.gens) (ho : s'.os = s.os) (hv : VRs C.X σ s.heap xs vs.toList) (hl : xs.length ≤ 2 * lim) :
    Step C σ s (σ ++ [a]) (H ++ [.lst xs]) s' ∧ VR C.X (σ ++ [a]) s'.heap (.ref H.length) (.ref a) := by
  have S := I.keeps hk hg ho
  have h1 := I.notσ_fresh hf
  have h2 := I.notX_fresh hf
  have h3 := I.notB_fresh hf
  have hp : σ <+: σ ++ [a] := List.prefix_append _ _
  have hk2 : ∀ b o, s.heap.get? b = some o → b ∉ σ → b ∉ C.X → ValO o → s'.heap.get? b = some o ∧ b ∉ σ ++ [a] := fun b o e q1 q2 _ => ⟨hk b o e, by
    intro hm
    rcases List.mem_append.mp hm with hm | hm
    · exact q1 hm
    · rw [List.mem_singleton.mp hm, hf] at e; cases e⟩
  refine ⟨⟨hp, ⟨S.inv.keep, ?_, ?_, ?_, ?_, ?_, ?_, S.inv.soft, S.inv.softX, S.inv.bare⟩, fun b o e _ _ _ => hk b o e, ?_, ho, fun b o e => ⟨o, hk b o e⟩⟩, ?_⟩
  · simp [I.len]
  · exact List.nodup_append.mpr ⟨I.nd, by simp, by
      intro x hx y hy
      rw [List.mem_singleton.mp hy]
      rintro rfl
      exact h1 hx⟩
  · intro x hx
    rcases List.mem_append.mp hx with hx | hx
    · exact I.fresh x hx
    · rw [List.mem_singleton.mp hx]; exact h3
  · intro i b ys e1 e2
    by_cases hi : i < σ.length
    · rw [List.getElem?_append_left hi] at e1
      rw [List.getElem?_append_left (by rw [← I.len]; exact hi)] at e2
      obtain ⟨ws, m, e, r, l⟩ := I.lst i b ys e1 e2
      exact ⟨ws, m, hk b _ e, r.mono hp hk2, l⟩
    · rw [List.getElem?_append_right (by (first | lia | omega))] at e1
      rw [List.getElem?_append_right (by rw [← I.len]; (first | lia | omega)), ← I.len] at e2
      cases hj : i - σ.length with
      | zero =>
        rw [hj] at e1 e2
        simp at e1 e2
        subst e1 e2
        exact ⟨vs, n, ha, hv.mono hp hk2, hl⟩
      | succ j => rw [hj] at e1; simp at e1
  · intro i b k e1 e2
    by_cases hi : i < σ.length
    · rw [List.getElem?_append_left hi] at e1
      rw [List.getElem?_append_left (by rw [← I.len]; exact hi)] at e2
      obtain ⟨o, e, f⟩ := I.obj i b k e1 e2
      exact ⟨o, hk b _ e, f⟩
    · rw [List.getElem?_append_right (by rw [← I.len]; (first | lia | omega)), ← I.len] at e2
      cases hj : i - σ.length with
      | zero => rw [hj] at e2; simp at e2
      | succ j => rw [hj] at e2; simp at e2
  · intro x hx
    rcases List.mem_append.mp hx with hx | hx
    · exact I.disj x hx
    · rw [List.mem_singleton.mp hx]; exact h2
  · intro x hx
    rcases List.mem_append.mp hx with hx | hx
    · exact .inl hx
    · rw [List.mem_singleton.mp hx]; exact .inr hf
  · refine .ref _ _ ?_
    rw [← I.len]; simp

theorem Inv.newObj {σ H s} {s' : Shared} {a : Addr} {k : Bool} {o : Obj} (I : Inv C σ H s) (hf : s.heap.get? a = none) (ha : s'.heap.get? a = some o) (hF : FixOK k o)
    (hk : ∀ b o, s.heap.get? b = some o → s'.heap.get? b = some o) (hg : s'.gens = s.gens) (ho : s'.os = s.os) :
    Step C σ s (σ ++ [a]) (H ++ [.obj k]) s' ∧ (σ ++ [a])[H.length]? = some a := by
  have S := I.keeps hk hg ho
  have h1 := I.notσ_fresh hf
  have h2 := I.notX_fresh hf
  have h3 := I.notB_fresh hf
  have hp : σ <+: σ ++ [a] := List.prefix_append _ _
  have hk2 : ∀ b o, s.heap.get? b = some o → b ∉ σ → b ∉ C.X → ValO o → s'.heap.get? b = some o ∧ b ∉ σ ++ [a] := fun b o e q1 q2 _ => ⟨hk b o e, by
    intro hm
    rcases List.mem_append.mp hm with hm | hm
    · exact q1 hm
    · rw [List.mem_singleton.mp hm, hf] at e; cases e⟩
  refine ⟨⟨hp, ⟨S.inv.keep, ?_, ?_, ?_, ?_, ?_, ?_, S.inv.soft, S.inv.softX, S.inv.bare⟩, fun b o e _ _ _ => hk b o e, ?_, ho, fun b o e => ⟨o, hk b o e⟩⟩, ?_⟩
  · simp [I.len]
  · exact List.nodup_append.mpr ⟨I.nd, by simp, by
      intro x hx y hy
      rw [List.mem_singleton.mp hy]
      rintro rfl
      exact h1 hx⟩
  · intro x hx
    rcases List.mem_append.mp hx with hx | hx
    · exact I.fresh x hx
    · rw [List.mem_singleton.mp hx]; exact h3
  · intro i b ys e1 e2
    by_cases hi : i < σ.length
    · rw [List.getElem?_append_left hi] at e1
      rw [List.getElem?_append_left (by rw [← I.len]; exact hi)] at e2
      obtain ⟨ws, m, e, r, l⟩ := I.lst i b ys e1 e2
      exact ⟨ws, m, hk b _ e, r.mono hp hk2, l⟩
    · rw [List.getElem?_append_right (by rw [← I.len]; (first | lia | omega)), ← I.len] at e2
      cases hj : i - σ.length with
      | zero => rw [hj] at e2; simp at e2
      | succ j => rw [hj] at e2; simp at e2
  · intro i b k e1 e2
    by_cases hi : i < σ.length
    · rw [List.getElem?_append_left hi] at e1
      rw [List.getElem?_append_left (by rw [← I.len]; exact hi)] at e2
      obtain ⟨o, e, f⟩ := I.obj i b k e1 e2
      exact ⟨o, hk b _ e, f⟩
    · rw [List.getElem?_append_right (by (first | lia | omega))] at e1
      rw [List.getElem?_append_right (by rw [← I.len]; (first | lia | omega)), ← I.len] at e2
      cases hj : i - σ.length with
      | zero =>
        rw [hj] at e1
        simp at e1
        subst e1
        rw [hj] at e2
        simp at e2
        subst e2
        exact ⟨o, ha, hF⟩
      | succ j => rw [hj] at e1; simp at e1
  · intro x hx
    rcases List.mem_append.mp hx with hx | hx
    · exact I.disj x hx
    · rw [List.mem_singleton.mp hx]; exact h2
  · intro x hx
    rcases List.mem_append.mp hx with hx | hx
    · exact .inl hx
    · rw [List.mem_singleton.mp hx]; exact .inr hf
  · rw [← I.len]; simp

/- a small list is turned -/
theorem Inv.setList {σ H s} {s' : Shared} {i : Nat} {a : Addr} {xs ys : List V} {vs : Array Value} {n : Nat} (I : Inv C σ H s) (e1 : σ[i]? = some a) (e2 : hGet H i = some xs)
    (ha : s'.heap.get? a = some { cls := .type "list", data := .seq vs n }) (hk : ∀ b o, b ≠ a → s.heap.get? b = some o → s'.heap.get? b = some o) (hg : s'.gens = s.gens) (ho : s'.os = s.os)
    (hv : VRs C.X σ s.heap ys vs.toList) (hl : ys.length ≤ 2 * lim) : Step C σ s σ (hSet H i ys) s' := by
  have ha0 := I.disj a (List.mem_of_getElem? e1)
  have hX : ∀ b ∈ C.X, b ≠ a := fun b hb e => ha0 (e ▸ hb)
  have hB : ∀ b o, C.B.get? b = some o → b ≠ a := fun b o e q => by rw [q, I.fresh a (List.mem_of_getElem? e1)] at e; cases e
  have hk2 : ∀ b o, s.heap.get? b = some o → b ∉ σ → b ∉ C.X → ValO o → s'.heap.get? b = some o ∧ b ∉ σ := fun b o e q1 q2 _ => ⟨hk b o (fun q => q1 (q ▸ List.mem_of_getElem? e1)) e, q1⟩
  refine ⟨List.prefix_refl _, ⟨fun b o e h => hk b o (hB b o e) (I.keep b o e h), by simp [hSet, I.len], I.nd, I.fresh, ?_, ?_, I.disj, C.stable _ _ (fun b hb o e => hk b o (hX b hb) e) I.soft, fun b hb => let ⟨o, e⟩ := I.softX b hb; ⟨o, hk b o (hX b hb) e⟩, hg ▸ I.bare⟩,
    fun b o e q1 q2 _ => hk b o (fun q => q1 (q ▸ List.mem_of_getElem? e1)) e, fun _ h => .inl h, ho, fun b o e => (by
      by_cases hb : b = a
      · subst hb; exact ⟨_, ha⟩
      · exact ⟨o, hk b o hb e⟩)⟩
  · intro j b zs q1 q2
    by_cases hj : j = i
    · subst hj
      rw [e1] at q1; cases q1
      have hi : j < H.length := by rw [← I.len]; exact (List.getElem?_eq_some_iff.mp e1).1
      rw [hSet, List.getElem?_set_self hi] at q2
      cases q2
      exact ⟨vs, n, ha, hv.mono (List.prefix_refl _) hk2, hl⟩
    · rw [hSet, List.getElem?_set_ne (Ne.symm hj)] at q2
      obtain ⟨ws, m, e, r, l⟩ := I.lst j b zs q1 q2
      have hb : b ≠ a := fun q => by
        subst q
        exact hj (nodup_idx I.nd q1 e1)
      exact ⟨ws, m, hk b _ hb e, r.mono (List.prefix_refl _) hk2, l⟩
  · intro j b k q1 q2
    by_cases hj : j = i
    · subst hj
      have hi : j < H.length := by rw [← I.len]; exact (List.getElem?_eq_some_iff.mp e1).1
      rw [hSet, List.getElem?_set_self hi] at q2
      cases q2
    · rw [hSet, List.getElem?_set_ne (Ne.symm hj)] at q2
      have hb : b ≠ a := fun q => by
        subst q
        exact hj (nodup_idx I.nd q1 e1)
      obtain ⟨o, e, f⟩ := I.obj j b k q1 q2
      exact ⟨o, hk b _ hb e, f⟩
end Mine
end

section
set_option Elab.async false
set_option linter.all false
namespace Mine
open PySem PySem.W PyProof.Rows PySem.Spec PySem.Calls

variable {C : Cx} {prog : Program} {w : World} {A : Around} {σ : List Addr} {H : Hp} {s : Shared}

/- what is wanted behind an expression -/
noncomputable def Ok (C : Cx) (σ : List Addr) (s : Shared) (H' : Hp) (v : V) : Value → Shared → Prop := fun r s' => ∃ σ', Step C σ s σ' H' s' ∧ VR C.X σ' s'.heap v r
noncomputable def OkB (C : Cx) (σ : List Addr) (s : Shared) (H' : Hp) (v : Bool) : Bool → Shared → Prop := fun r s' => r = v ∧ ∃ σ', Step C σ s σ' H' s'

abbrev mkS (l : List Nat) : Str := ⟨l.toArray⟩
theorem mkS_len (l : List Nat) : (mkS l).length = l.length := by simp [Str.length]
theorem mkS_app (a b : List Nat) : mkS a ++ mkS b = mkS (a ++ b) := by
  show Str.append _ _ = _
  simp [Str.append]
theorem mkS_beq (a b : List Nat) : (mkS a == mkS b) = (a == b) := by
  rw [Bool.eq_iff_iff]
  simp
theorem lim_size : 2 * lim ≤ sizeLine := by decide
theorem lim_is : lim = 1000000 := rfl

structure Room (n : Nat) (A : Around) : Prop where
  handled : A.handled = none
  depth : A.depth + n ≤ 950
  units : A.units + 5 * n ≤ 9000
theorem Room.lt {n : Nat} {A : Around} (R : Room n A) : A.units < cLine := by have := R.units; rw [cLine_is]; (first | lia | omega)
theorem Room.depth_lt {n : Nat} {A : Around} (R : Room n A) : A.depth < recursionLimit := by have := R.depth; show A.depth < 1000; (first | lia | omega)
theorem Room.pred {n : Nat} {A : Around} (R : Room (n + 1) A) : Room n A := ⟨R.handled, by have := R.depth; (first | lia | omega), by have := R.units; (first | lia | omega)⟩
theorem Room.deeper {n : Nat} {A : Around} {env : Env} (R : Room (n + 1) A) : Room n (A.deeper env) := ⟨R.handled, by have := R.depth; show A.depth + 1 + n ≤ _; (first | lia | omega), by have := R.units; show A.units + 3 + 5 * n ≤ _; (first | lia | omega)⟩
theorem Room.in1 {n : Nat} {A : Around} (R : Room (n + 1) A) : Room n A.in1 := ⟨R.handled, by have := R.depth; show A.depth + n ≤ _; (first | lia | omega), by have := R.units; show A.units + 1 + 5 * n ≤ _; (first | lia | omega)⟩

/- the simplest ends: nothing but tokens -/
theorem Ok.tok {v : V} {r : Value} {tk : Nat} (I : Inv C σ H s) (hv : VR C.X σ s.heap v r) : Ok C σ s H v r { s with toks := tk } :=
  ⟨σ, I.toks_, I.toks_.vr hv⟩
theorem Ok.same {v : V} {r : Value} (I : Inv C σ H s) (hv : VR C.X σ s.heap v r) : Ok C σ s H v r s := ⟨σ, .refl I, hv⟩
theorem OkB.tok {b : Bool} {tk : Nat} (I : Inv C σ H s) : OkB C σ s H b b { s with toks := tk } := ⟨rfl, σ, I.toks_⟩

theorem chk_some {α : Type} {n : Nat} {k : Option α} {x : α} (e : chk n k = some x) : n ≤ lim ∧ k = some x := chkE e fun a b => ⟨a, b⟩

theorem Ok.list {xs : List V} {vs : Array Value} {n : Nat} (I : Inv C σ H s) (hv : VRs C.X σ s.heap xs vs.toList) (hl : xs.length ≤ 2 * lim) :
    Ok C σ s (H ++ [.lst xs]) (.ref H.length) (.ref s.heap.objs.size) { s with heap := s.heap.push { cls := .type "list", data := .seq vs n } } := by
  obtain ⟨a, b⟩ := I.newList (s' := { s with heap := s.heap.push { cls := .type "list", data := .seq vs n } }) (a := s.heap.objs.size) (fresh_at _) (Heap.get?_push_size _ rfl) (fun _ _ e => Heap.get?_push_of_some _ e) rfl rfl hv hl
  exact ⟨_, a, b⟩


theorem VR.mkStr {h : Heap} {l : List Nat} {t : Tok} (hl : l.length ≤ 2 * lim) : VR C.X σ h (.str l) (.str (mkS l) t) := .str l t hl
theorem VR.str_inv {X : List Addr} {h : Heap} {l : List Nat} {r : Value} (v : VR X σ h (.str l) r) : ∃ t, r = .str (mkS l) t ∧ l.length ≤ 2 * lim := by
  cases v with | str _ t e => exact ⟨t, rfl, e⟩
@[elab_as_elim] theorem VR.strE {X : List Addr} {h : Heap} {l : List Nat} {r : Value} {G : Value → Prop} (v : VR X σ h (.str l) r) (g : ∀ t, l.length ≤ 2 * lim → G (.str (mkS l) t)) : G r := by
  cases v with | str _ t e => exact g t e
@[elab_as_elim] theorem VR.intE {X : List Addr} {h : Heap} {i : Int} {r : Value} {G : Value → Prop} (v : VR X σ h (.int i) r) (g : ∀ t, G (.int i t)) : G r := by
  cases v with | int _ t => exact g t
@[elab_as_elim] theorem VR.boolE {X : List Addr} {h : Heap} {b : Bool} {r : Value} {G : Value → Prop} (v : VR X σ h (.bool b) r) (g : G (.bool b)) : G r := by
  cases v with | bool _ => exact g
@[elab_as_elim] theorem VR.noneE {X : List Addr} {h : Heap} {r : Value} {G : Value → Prop} (v : VR X σ h .none r) (g : G .none) : G r := by
  cases v with | none => exact g
@[elab_as_elim] theorem VR.refE {X : List Addr} {h : Heap} {i : Nat} {r : Value} {G : Value → Prop} (v : VR X σ h (.ref i) r) (g : ∀ a, σ[i]? = some a → G (.ref a)) : G r := by
  cases v with | ref _ a e => exact g a e
@[elab_as_elim] theorem VR.tupE {X : List Addr} {h : Heap} {vs : List V} {r : Value} {G : Value → Prop} (v : VR X σ h (.tup vs) r) (g : ∀ a ws n, h.get? a = some { cls := .type "tuple", data := .seq ws.toArray n } → ws.length ≤ 2 * lim → VRs X σ h vs ws → G (.ref a)) : G r := by
  cases v with | tup _ a ws n e _ _ l q => exact g a ws n e l q
/- a small list at its place -/
@[elab_as_elim] theorem Inv.listE (I : Inv C σ H s) {i : Nat} {xs : List V} {r : Value} {G : Value → Prop} (e : hGet H i = some xs) (v : VR C.X σ s.heap (.ref i) r)
    (g : ∀ p vs n, σ[i]? = some p → s.heap.get? p = some { cls := .type "list", data := .seq vs n } → VRs C.X σ s.heap xs vs.toList → xs.length = vs.size → xs.length ≤ 2 * lim → G (.ref p)) : G r :=
  VR.refE v fun p hp => (I.at_ hp e).elim fun vs h => h.elim fun n h => g p vs n hp h.1 h.2.1 (h.2.1.length.trans Array.length_toList) h.2.2

theorem small_div {i j : Int} (h1 : 0 ≤ i) (h2 : i < 1000000000) (h3 : 0 < j) (h4 : j < 1000000000) : Builtin.divisionGoesByPylong i j = false := by
  unfold Builtin.divisionGoesByPylong
  have : j.natAbs.log2 ≤ 30 := by
    have h5 : j.natAbs ≠ 0 := by omega
    have : j.natAbs.log2 < 30 := (Nat.log2_lt h5).mpr (by omega)
    omega
  simp only [Bool.and_eq_false_iff, decide_eq_false_iff_not]
  left
  split
  · omega
  · have : j.natAbs.log2 / 30 ≤ 1 := by omega
    omega

theorem list_at {i : Nat} {xs : List V} {p : Addr} (I : Inv C σ H s) (hp : σ[i]? = some p) (e : hGet H i = some xs) {G : Prop} (g : ∀ vs n, s.heap.get? p = some { cls := .type "list", data := .seq vs n } → VRs C.X σ s.heap xs vs.toList → xs.length = vs.size → xs.length ≤ 2 * lim → G) : G :=
  (I.at_ hp e).elim fun vs h => h.elim fun n h => g vs n h.1 h.2.1 (h.2.1.length.trans Array.length_toList) h.2.2

theorem mul_one_ok {p : Addr} {z' : Value} {n1 : Nat} {k : Int} {u : Tok} {Q : Value → Shared → Prop} (g1 : s.heap.get? p = some { cls := .type "list", data := .seq #[z'] n1 }) (h0 : 0 ≤ k) (h1 : k < 1000000)
    (hq : Q (.ref s.heap.objs.size) { s with heap := s.heap.push { cls := .type "list", data := .seq (List.replicate k.toNat z').toArray 0 } }) : wpAny (model prog w) A (binaryOp .Mult (.ref p) (.int k u)) Q F0 s := by
  have hsz : sizeLine = 16777216 := by decide
  refine wpAny_binaryOp_repeat_ref (T := "list") (U := "int") (by decide) ⟨_, g1, rfl⟩ (fun s' => typeIs_int s' k u) noFill_list_mul F.fills_int_mul F.slot_int_rmul repeat_list F.slot_int_index.lookup
    (call_meets F.slot_int_rmul (typeIs_int s k u) F.entry_int_rmul (F.args_int_rmul_2 _ _) (lm_int_rmul_list_any k u p #[z'] n1 none #[])
      ⟨g1, rfl, ⟨_, g1, rfl⟩, call_meets F.slot_list_mul ⟨_, g1, rfl⟩ F.entry_list_mul (F.args_list_mul_2 _ _)
        (lm_list_mul_any p #[z'] n1 none #[] k u (by simp [Builtin.List.listFitsIndex]; (first | lia | omega)) (by simp; (first | lia | omega)) (by simp [Builtin.List.listTooLong, hsz]; (first | lia | omega)))
        ⟨g1, ?_⟩⟩)
  have e0 : ((List.replicate (if (#[z'] : Array Value).isEmpty = true then 0 else k.toNat) (#[z'] : Array Value)).foldl (fun a b => a ++ b) #[]) = (List.replicate k.toNat z').toArray := by
    rw [listMul_foldl_if]
    simp
  rw [← e0] at hq
  exact hq
theorem size2 {xs ys : List V} {vs ws : Array Value} (e1 : xs.length = vs.size) (e2 : ys.length = ws.size) (hl : xs.length + ys.length ≤ lim) : vs.size + ws.size ≤ sizeLine ∧ (xs ++ ys).length ≤ 2 * lim := by
  have := lim_size
  rw [List.length_append]
  (first | lia | omega)
theorem str2 {x y : List Nat} (hl : x.length + y.length ≤ lim) : (mkS x).length + (mkS y).length ≤ sizeLine ∧ (x ++ y).length ≤ 2 * lim := by
  have := lim_size
  rw [List.length_append, mkS_len, mkS_len]
  (first | lia | omega)
noncomputable def BinOK (C : Cx) (prog : Program) (w : World) (A : Around) (σ : List Addr) (H : Hp) (s : Shared) (op : Operator) (a b v : V) (H' : Hp) : Prop := ∀ {x y}, VR C.X σ s.heap a x → VR C.X σ s.heap b y → wpAny (model prog w) A (binaryOp op x y) (Ok C σ s H' v) F0 s
theorem add_ok {a b v : V} {H' : Hp} (e : pAdd a b H = some (v, H')) (I : Inv C σ H s) : BinOK C prog w A σ H s .Add a b v H' := by
  cases a with
  | int i => exact mapR (G := fun v H' => BinOK C prog w A σ H s .Add (.int i) b v H') e fun j hj => intE (G := fun b => BinOK C prog w A σ H s .Add (.int i) b (.int (i + j)) H) hj (fun ha hb => VR.intE ha fun _ => VR.intE hb fun _ => add_int (Ok.tok I (.int _ _)))
  | str i => exact bindE e fun j hj e => strE (G := fun b => BinOK C prog w A σ H s .Add (.str i) b v H') hj (chkE e fun hl e => someR (G := fun v H' => BinOK C prog w A σ H s .Add (.str i) (.str j) v H') e fun ha hb => VR.strE ha fun _ _ => VR.strE hb fun _ _ => add_str (fun t' tk => by rw [mkS_app]; exact Ok.tok I (.str _ _ (str2 hl).2)) (str2 hl).1)
  | ref i => exact bindE e fun j hj e => refE (G := fun b => BinOK C prog w A σ H s .Add (.ref i) b v H') hj (bindE e fun xs h1 e => bindE e fun ys h2 e => chkE e fun hl e => someR (G := fun v H' => BinOK C prog w A σ H s .Add (.ref i) (.ref j) v H') e fun ha hb => I.listE h1 ha fun p vs n1 _ g1 r1 e1 _ => I.listE h2 hb fun q ws n2 _ g2 r2 e2 _ =>
      P.add_list (n := n1) (n2 := n2) g1 g2 (Ok.list I (vs := vs ++ ws) (by rw [Array.toList_append]; exact r1.append r2) (size2 e1 e2 hl).2) (size2 e1 e2 hl).1)
  | _ => exact no e
theorem intB_ok {op : Operator} {f : Int → Int → Option Int} {a b v : V} {H' : Hp} (e : intB f a b H = some (v, H')) (g : ∀ x y z, f x y = some z → BinOK C prog w A σ H s op (.int x) (.int y) (.int z) H) : BinOK C prog w A σ H s op a b v H' :=
  bindE e fun x hx e => intE (G := fun a => BinOK C prog w A σ H s op a b v H') hx (bindE e fun y hy e => intE (G := fun b => BinOK C prog w A σ H s op (.int x) b v H') hy (mapR (G := fun v H' => BinOK C prog w A σ H s op (.int x) (.int y) v H') e fun z hz => g x y z hz))
theorem bin_ok' {op : Operator} {a b v : V} {H' : Hp} (e : pBin op a b H = some (v, H')) (I : Inv C σ H s) : BinOK C prog w A σ H s op a b v H' := by
  cases op with
  | Add => exact add_ok e I
  | Sub => exact intB_ok e fun x y z hz => someE (G := fun z => BinOK C prog w A σ H s .Sub (.int x) (.int y) (.int z) H) hz fun ha hb => VR.intE ha fun _ => VR.intE hb fun _ => sub_int (Ok.tok I (.int _ _))
  | Mod => exact intB_ok e fun x y z hz => iteP hz fun hy hz => someE (G := fun z => BinOK C prog w A σ H s .Mod (.int x) (.int y) (.int z) H) hz fun ha hb => VR.intE ha fun _ => VR.intE hb fun _ => mod_int' (Int.ne_of_gt hy) (by rw [Int.fmod_eq_emod_of_nonneg _ (Int.le_of_lt hy)]; exact Ok.tok I (.int _ _))
  | FloorDiv => exact intB_ok e fun x y z hz => iteP hz fun hj hz => someE (G := fun z => BinOK C prog w A σ H s .FloorDiv (.int x) (.int y) (.int z) H) hz (andE hj fun hj h4 => andE hj fun hj h3 => andE hj fun h1 h2 => fun ha hb => VR.intE ha fun _ => VR.intE hb fun _ =>
      floordiv_int (Int.ne_of_gt (of_decide_eq_true h1)) (by rw [Int.fdiv_eq_ediv_of_nonneg _ (Int.le_of_lt (of_decide_eq_true h1))]; exact Ok.tok I (.int _ _)) (.inl (small_div (of_decide_eq_true h2) (of_decide_eq_true h3) (of_decide_eq_true h1) (of_decide_eq_true h4))))
  | Mult => exact bindE e fun i hi e => refE (G := fun a => BinOK C prog w A σ H s .Mult a b v H') hi (bindE e fun k hk e => intE (G := fun b => BinOK C prog w A σ H s .Mult (.ref i) b v H') hk (bindE e fun xs h1 e => bindE e fun z hz e => iteP e fun hk e => andE hk fun k1 k2 => someR (G := fun v H' => BinOK C prog w A σ H s .Mult (.ref i) (.int k) v H') e fun ha hb => VR.intE hb fun u => I.listE h1 ha fun p vs n1 _ g1 r1 _ _ => by
      have hr : k.toNat ≤ 2 * lim := by have := of_decide_eq_true k2; rw [show 2 * lim = 2000000 from rfl]; (first | lia | omega)
      revert r1
      refine oneE (G := fun xs => VRs C.X σ s.heap xs vs.toList → _) hz fun r1 => ?_
      obtain ⟨vl⟩ := vs
      cases r1 with | cons r1 rn =>
      cases rn
      exact mul_one_ok g1 (of_decide_eq_true k1) (of_decide_eq_true k2) (Ok.list I (xs := List.replicate k.toNat z) (n := 0) (VRs.replicate r1 _) (by rw [List.length_replicate]; exact hr))))
  | _ => exact no e
theorem bin_ok {op : Operator} {a b v : V} {x y : Value} {H' : Hp} (e : pBin op a b H = some (v, H')) (I : Inv C σ H s) (ha : VR C.X σ s.heap a x) (hb : VR C.X σ s.heap b y) :
    wpAny (model prog w) A (binaryOp op x y) (Ok C σ s H' v) F0 s := bin_ok' e I ha hb

noncomputable def EqOK (A : Around) (s : Shared) (X σ : List Addr) (h : Heap) (a b : V) (c : Bool) : Prop := ∀ {x y}, VR X σ h a x → VR X σ h b y → SeqAt.EqAt A s x y c
theorem eq1_at' {a b : V} {c : Bool} {X : List Addr} {h : Heap} (e : eq1 a b = some c) : EqOK A s X σ h a b c := by
  cases a with
  | str i => exact mapE (G := EqOK A s X σ h (.str i) b) e fun j hj => strE (G := fun b => EqOK A s X σ h (.str i) b (i == j)) hj (fun ha hb => VR.strE ha fun _ _ => VR.strE hb fun _ _ => by rw [← mkS_beq]; exact SeqAt.EqAt.str_str _ _ _ _)
  | bool i => exact mapE (G := EqOK A s X σ h (.bool i) b) e fun j hj => boolE (G := fun b => EqOK A s X σ h (.bool i) b (i == j)) hj (fun ha hb => VR.boolE ha (VR.boolE hb (SeqAt.EqAt.bool_bool _ _)))
  | int i => exact mapE (G := EqOK A s X σ h (.int i) b) e fun j hj => intE (G := fun b => EqOK A s X σ h (.int i) b (i == j)) hj (fun ha hb => VR.intE ha fun _ => VR.intE hb fun _ => SeqAt.EqAt.int_int _ _ _ _)
  | _ => exact no e

theorem all_range_succ (e : Nat → Bool) (n : Nat) : (List.range (n + 1)).all e = (e 0 && (List.range n).all fun j => e (j + 1)) := by
  rw [List.range_succ_eq_map, List.all_cons, List.all_map]
  rfl
inductive AllEq (A : Around) (s : Shared) (xs ys : List Value) : Bool → Prop
  | mk (e : Nat → Bool) : xs.length = ys.length → (∀ j (h1 : j < xs.length) (h2 : j < ys.length), SeqAt.EqAt A s xs[j] ys[j] (e j)) → AllEq A s xs ys ((List.range xs.length).all e)
theorem AllEq.cons {s : Shared} {x y : Value} {xs ys : List Value} {c d : Bool} (h1 : SeqAt.EqAt A s x y c) (h : AllEq A s xs ys d) : AllEq A s (x :: xs) (y :: ys) (c && d) := by
  cases h with | mk e hl he =>
  have := AllEq.mk (A := A) (s := s) (xs := x :: xs) (ys := y :: ys) (fun j => match j with | 0 => c | j + 1 => e j) (congrArg (· + 1) hl) fun j a b => match j, a, b with
    | 0, _, _ => h1
    | j + 1, a, b => he j (Nat.lt_of_succ_lt_succ a) (Nat.lt_of_succ_lt_succ b)
  rw [List.length_cons, all_range_succ] at this
  exact this
theorem eqW_at {f : V → V → Option Bool} {X : List Addr} {h : Heap} (hf : ∀ {a b c}, f a b = some c → EqOK A s X σ h a b c) : ∀ (as bs : List V) (xs ys : List Value) (c : Bool), eqW f as bs = some c → VRs X σ h as xs → VRs X σ h bs ys → AllEq A s xs ys c
  | [], [], xs, ys, c, e, ha, hb => by
    cases ha; cases hb
    exact someE (G := AllEq A s [] []) e (.mk (fun _ => true) rfl fun j h => absurd h (Nat.not_lt_zero j))
  | [], _ :: _, _, _, _, e, _, _ => no e
  | _ :: _, [], _, _, _, e, _, _ => no e
  | a :: as, b :: bs, xs, ys, c, e, ha, hb => by
    cases ha with | cons ha ha' => cases hb with | cons hb hb' =>
    exact bindE e fun c1 e1 e => mapE (G := AllEq A s _ _) e fun d e2 => .cons (hf e1 ha hb) (eqW_at hf as bs _ _ d e2 ha' hb')

theorem isList_of {a : Addr} {vs : Array Value} {n : Nat} {h : Heap} (g : h.get? a = some { cls := .type "list", data := .seq vs n }) : h.IsList a vs := ⟨_, g, rfl, n, rfl⟩
/- two lists of the heap -/
theorem lists_at {p q : Addr} {vs ws : Array Value} {c : Bool} (h : AllEq A.in1 s vs.toList ws.toList c) (l1 : s.heap.IsList p vs) (l2 : s.heap.IsList q ws) (hu : A.units < cLine) : SeqAt.RcAt A s (.ref p) (.ref q) c ∧ SeqAt.RcNeAt A s (.ref p) (.ref q) (!c) := by
  cases h with | mk e hl he =>
  have he' : ∀ j (a : j < vs.size) (b : j < ws.size), SeqAt.EqAt A.in1 s vs[j] ws[j] (e j) := fun j a b => he j (by rw [Array.length_toList]; exact a) (by rw [Array.length_toList]; exact b)
  rw [Array.length_toList, Array.length_toList] at hl
  rw [Array.length_toList]
  exact ⟨SeqAt.RcAt.lists l1 l2 hl hu he', SeqAt.RcNeAt.lists l1 l2 hl hu he'⟩
theorem lens_at {p q : Addr} {vs ws : Array Value} {xs ys : List V} (e1 : xs.length = vs.size) (e2 : ys.length = ws.size) (hn : ¬ xs.length = ys.length) (l1 : s.heap.IsList p vs) (l2 : s.heap.IsList q ws) (hu : A.units < cLine) : SeqAt.RcAt A s (.ref p) (.ref q) false ∧ SeqAt.RcNeAt A s (.ref p) (.ref q) true :=
  have h : (vs.size != ws.size) = true := bne_iff_ne.mpr fun q => hn (e1.trans (q.trans e2.symm))
  ⟨SeqAt.RcAt.lists_lengths l1 l2 h hu, SeqAt.RcNeAt.lists_lengths l1 l2 h hu⟩

theorem eq2_at {a b : V} {c : Bool} (I : Inv C σ H s) (hu : A.units + 1 < cLine) (e : eq2 H a b = some c) : EqOK A s C.X σ s.heap a b c := by
  unfold eq2 at e
  cases ha : a.ref? with
  | none => rw [ha] at e; exact eq1_at' e
  | some i =>
    rw [ha] at e
    exact refE (G := fun a => EqOK A s C.X σ s.heap a b c) ha (bindE e fun j hj e => refE (G := fun b => EqOK A s C.X σ s.heap (.ref i) b c) hj (iteN e fun hij e => bindE e fun xs h1 e => bindE e fun ys h2 e => fun va vb => VR.refE va fun p hp => VR.refE vb fun q hq => list_at I hp h1 fun vs n1 g1 r1 e1 _ => list_at I hq h2 fun ws n2 g2 r2 e2 _ =>
      SeqAt.EqAt.of_refs (fun z => hij (nodup_idx I.nd hp (z ▸ hq))) (ite2 e (fun _ e => (lists_at (eqW_at (A := A.in1) eq1_at' _ _ _ _ _ e r1 r2) (isList_of g1) (isList_of g2) (Nat.lt_of_succ_lt hu)).1) fun hn e => someE (G := SeqAt.RcAt A s (.ref p) (.ref q)) e (lens_at e1 e2 hn (isList_of g1) (isList_of g2) (Nat.lt_of_succ_lt hu)).1)))

theorem eqLst_rc {i j : Nat} {xs ys : List V} {c : Bool} {p q : Addr} (e : eqLst H xs ys = some c) (I : Inv C σ H s) (hu : A.units + 2 < cLine) (hp : σ[i]? = some p) (h1 : hGet H i = some xs) (hq : σ[j]? = some q) (h2 : hGet H j = some ys) : SeqAt.RcAt A s (.ref p) (.ref q) c ∧ SeqAt.RcNeAt A s (.ref p) (.ref q) (!c) :=
  list_at I hp h1 fun vs n1 g1 r1 e1 _ => list_at I hq h2 fun ws n2 g2 r2 e2 _ =>
  have hu' : A.units < cLine := Nat.lt_of_succ_lt (Nat.lt_of_succ_lt hu)
  ite2 e (fun _ e => lists_at (eqW_at (A := A.in1) (eq2_at I hu) _ _ _ _ _ e r1 r2) (isList_of g1) (isList_of g2) hu') fun hn e => someE (G := fun c => SeqAt.RcAt A s (.ref p) (.ref q) c ∧ SeqAt.RcNeAt A s (.ref p) (.ref q) (!c)) e (lens_at e1 e2 hn (isList_of g1) (isList_of g2) hu')

theorem Inv.ref_obj (I : Inv C σ H s) {i : Nat} {p : Addr} (hp : σ[i]? = some p) : ∃ o, s.heap.get? p = some o ∧ o.cls ≠ .type "tuple" := by
  have hi : i < H.length := I.len ▸ (List.getElem?_eq_some_iff.mp hp).1
  have e := List.getElem?_eq_getElem hi
  cases hq : H[i] with
  | lst xs =>
    obtain ⟨vs, n, g, _⟩ := I.lst i p xs hp (e.trans (congrArg some hq))
    exact ⟨_, g, by simp⟩
  | obj k =>
    obtain ⟨o, g, f⟩ := I.obj i p k hp (e.trans (congrArg some hq))
    refine ⟨o, g, ?_⟩
    cases k with
    | false => rw [show o = _ from f]; simp
    | true => exact f.elim fun es f => f.elim fun n f => by rw [f.1]; simp

theorem contains_one (l : List Nat) (c : Nat) : Txt.contains (mkS l) (mkS [c]) = l.contains c := by
  have := StrLaws.found_one (mkS l) c
  unfold Txt.contains
  refine this.trans ?_
  simp [List.contains_eq_mem]

noncomputable def CmpOK (C : Cx) (prog : Program) (w : World) (A : Around) (σ : List Addr) (s : Shared) (op : CmpOp) (a b : V) (c : Bool) : Prop := ∀ {x y} {Q : Value → Shared → Prop}, VR C.X σ s.heap a x → VR C.X σ s.heap b y → (∀ tk, Q (.bool c) { s with toks := tk }) → wpAny (model prog w) A (compareOp op x y) Q F0 s

theorem intC_ok {op : CmpOp} {f : Int → Int → Bool} {a b : V} {c : Bool} (h : intC f a b = some c) (g : ∀ x y, CmpOK C prog w A σ s op (.int x) (.int y) (f x y)) : CmpOK C prog w A σ s op a b c :=
  bindE h fun x hx h => intE (G := fun a => CmpOK C prog w A σ s op a b c) hx (mapE (G := CmpOK C prog w A σ s op (.int x) b) h fun y hy => intE (G := fun b => CmpOK C prog w A σ s op (.int x) b (f x y)) hy (g x y))
theorem strC_ok {op : CmpOp} {f : List Nat → List Nat → Bool} {a b : V} {c : Bool} (h : strC f a b = some c) (g : ∀ x y, CmpOK C prog w A σ s op (.str x) (.str y) (f x y)) : CmpOK C prog w A σ s op a b c :=
  bindE h fun x hx h => strE (G := fun a => CmpOK C prog w A σ s op a b c) hx (mapE (G := CmpOK C prog w A σ s op (.str x) b) h fun y hy => strE (G := fun b => CmpOK C prog w A σ s op (.str x) b (f x y)) hy (g x y))
theorem int_int {op : CmpOp} {i j : Int} {c : Bool} (h : ∀ {t u} {Q : Value → Shared → Prop}, Q (.bool c) s → wpAny (model prog w) A (compareOp op (.int i t) (.int j u)) Q F0 s) : CmpOK C prog w A σ s op (.int i) (.int j) c := fun ha hb hq => VR.intE ha fun _ => VR.intE hb fun _ => h (hq s.toks)
theorem str_str {op : CmpOp} {i j : List Nat} {c : Bool} (h : ∀ {t u} {Q : Value → Shared → Prop}, Q (.bool c) s → wpAny (model prog w) A (compareOp op (.str (mkS i) t) (.str (mkS j) u)) Q F0 s) : CmpOK C prog w A σ s op (.str i) (.str j) c := fun ha hb hq => VR.strE ha fun _ _ => VR.strE hb fun _ _ => h (hq s.toks)

theorem eq_ok {a b : V} {c : Bool} (e : pEq a b H = some c) (I : Inv C σ H s) (hu : A.units + 2 < cLine) : CmpOK C prog w A σ s .Eq a b c := by
  cases a with
  | int i => exact mapE (G := CmpOK C prog w A σ s .Eq (.int i) b) e fun j hj => intE (G := fun b => CmpOK C prog w A σ s .Eq (.int i) b (i == j)) hj (int_int eq_int)
  | str i => exact mapE (G := CmpOK C prog w A σ s .Eq (.str i) b) e fun j hj => strE (G := fun b => CmpOK C prog w A σ s .Eq (.str i) b (i == j)) hj (str_str fun h => eq_str (by rw [mkS_beq]; exact h))
  | bool i => exact mapE (G := CmpOK C prog w A σ s .Eq (.bool i) b) e fun j hj => boolE (G := fun b => CmpOK C prog w A σ s .Eq (.bool i) b (i == j)) hj fun ha hb hq => VR.boolE ha (VR.boolE hb (EqBoolInt.of_rc (SeqAt.RcAt.bool_bool _ _) (hq s.toks)))
  | tup as =>
    exact bindE e fun bs hb e => tupE (G := fun b => CmpOK C prog w A σ s .Eq (.tup as) b c) hb (iteP e fun hlen e => fun ha hb hq => VR.tupE ha fun p vs n1 g1 l1 r1 => VR.tupE hb fun q ws n2 g2 l2 r2 => by
      cases eqW_at (A := A.in1) (s := s) eq1_at' _ _ _ _ _ e r1 r2 with | mk f hl hF =>
      refine EqBoolInt.of_rc (SeqAt.RcAt.tuples (e := f) (items := vs.toArray) (items2 := ws.toArray) ⟨_, g1, rfl, _, rfl⟩ ⟨_, g2, rfl, _, rfl⟩ (Nat.lt_of_succ_lt (Nat.lt_of_succ_lt hu)) fun j a b => hF j a b) ?_
      have := hq s.toks
      simp only [List.size_toArray, hl, Nat.min_self, beq_self_eq_true, Bool.and_true] at this ⊢
      exact this)
  | ref i => exact bindE e fun j hj e => refE (G := fun b => CmpOK C prog w A σ s .Eq (.ref i) b c) hj (bindE e fun xs h1 e => bindE e fun ys h2 e => fun ha hb hq => VR.refE ha fun p hp => VR.refE hb fun q hq' => EqBoolInt.of_rc (eqLst_rc e I hu hp h1 hq' h2).1 (hq s.toks))
  | _ => exact no e
theorem ne_ok {a b : V} {c : Bool} (e : pNe a b H = some c) (I : Inv C σ H s) (hu : A.units + 2 < cLine) : CmpOK C prog w A σ s .NotEq a b c := by
  cases a with
  | int i => exact mapE (G := CmpOK C prog w A σ s .NotEq (.int i) b) e fun j hj => intE (G := fun b => CmpOK C prog w A σ s .NotEq (.int i) b (i != j)) hj (int_int P.ne_int)
  | str i => exact mapE (G := CmpOK C prog w A σ s .NotEq (.str i) b) e fun j hj => strE (G := fun b => CmpOK C prog w A σ s .NotEq (.str i) b (i != j)) hj (str_str fun h => P.ne_str (by simpa using h))
  | bool i => exact mapE (G := CmpOK C prog w A σ s .NotEq (.bool i) b) e fun j hj => boolE (G := fun b => CmpOK C prog w A σ s .NotEq (.bool i) b (i != j)) hj fun ha hb hq => VR.boolE ha (VR.boolE hb (EqBoolInt.of_rcne (SeqAt.RcNeAt.bool_bool _ _) (by simpa [bne] using hq s.toks)))
  | ref i => exact bindE e fun j hj e => refE (G := fun b => CmpOK C prog w A σ s .NotEq (.ref i) b c) hj (bindE e fun xs h1 e => bindE e fun ys h2 e => mapE (G := CmpOK C prog w A σ s .NotEq (.ref i) (.ref j)) e fun c e => fun ha hb hq => VR.refE ha fun p hp => VR.refE hb fun q hq' => EqBoolInt.of_rcne (eqLst_rc e I hu hp h1 hq' h2).2 (hq s.toks))
  | _ => exact no e
theorem is_ok {a b : V} {c : Bool} (e : pIs a b = some c) (I : Inv C σ H s) : CmpOK C prog w A σ s .Is a b c := by
  cases a with
  | none => exact iteP e fun hb e => isNE (G := fun b => CmpOK C prog w A σ s .Is .none b c) hb (someE (G := CmpOK C prog w A σ s .Is .none .none) e fun ha hb hq => VR.noneE ha (VR.noneE hb (wpAny_is_self rfl (hq s.toks))))
  | tup as => exact iteP e fun hb e => isNE (G := fun b => CmpOK C prog w A σ s .Is (.tup as) b c) hb (someE (G := CmpOK C prog w A σ s .Is (.tup as) .none) e fun ha hb hq => VR.tupE ha fun _ _ _ _ _ _ => VR.noneE hb (wpAny_is_other rfl (fun h => nomatch h) (hq s.toks)))
  | ref i =>
    exact mapE (G := CmpOK C prog w A σ s .Is (.ref i) b) e fun j hj => refE (G := fun b => CmpOK C prog w A σ s .Is (.ref i) b (i == j)) hj fun ha hb hq => VR.refE ha fun p hp => VR.refE hb fun q hq' => by
      have hq := hq s.toks
      by_cases hij : i = j
      · have hpq : p = q := Option.some.inj (hp.symm.trans (hij ▸ hq'))
        rw [hpq]
        rw [hij, beq_self_eq_true] at hq
        exact wpAny_is_ref_self hq
      · obtain ⟨o1, g1, c1⟩ := I.ref_obj hp
        obtain ⟨o2, g2, c2⟩ := I.ref_obj hq'
        rw [beq_eq_false_iff_ne.mpr hij] at hq
        exact wpAny_is_ref_other (fun z => hij (nodup_idx I.nd hp (z ▸ hq'))) g1 g2 c1 hq
  | str i => exact mapE (G := CmpOK C prog w A σ s .Is (.str i) b) e fun j hj => refE (G := fun b => CmpOK C prog w A σ s .Is (.str i) b false) hj fun ha hb hq => VR.strE ha fun _ _ => VR.refE hb fun _ _ => wpAny_is_other rfl (fun h => nomatch h) (hq s.toks)
  | _ => exact no e
theorem isNot_ok {a b : V} {c : Bool} (e : pIsNot a b = some c) (I : Inv C σ H s) : CmpOK C prog w A σ s .IsNot a b c := by
  cases a with
  | ref i =>
    exact mapE (G := CmpOK C prog w A σ s .IsNot (.ref i) b) e fun j hj => refE (G := fun b => CmpOK C prog w A σ s .IsNot (.ref i) b (i != j)) hj fun ha hb hq => VR.refE ha fun p hp => VR.refE hb fun q hq' => by
      have hq := hq s.toks
      by_cases hij : i = j
      · have hpq : p = q := Option.some.inj (hp.symm.trans (hij ▸ hq'))
        rw [hpq]
        rw [hij, bne_self_eq_false] at hq
        exact wpAny_isNot_ref_self hq
      · obtain ⟨o1, g1, c1⟩ := I.ref_obj hp
        obtain ⟨o2, g2, c2⟩ := I.ref_obj hq'
        rw [bne_iff_ne.mpr hij] at hq
        exact wpAny_isNot_ref_other (fun z => hij (nodup_idx I.nd hp (z ▸ hq'))) g1 g2 c1 hq
  | str i => exact mapE (G := CmpOK C prog w A σ s .IsNot (.str i) b) e fun j hj => refE (G := fun b => CmpOK C prog w A σ s .IsNot (.str i) b true) hj fun ha hb hq => VR.strE ha fun _ _ => VR.refE hb fun _ _ => wpAny_isNot_other rfl (fun h => nomatch h) (hq s.toks)
  | _ => exact no e
theorem inTup_ok {l0 a1 b1 : List Nat} : CmpOK C prog w A σ s .In (.str l0) (.tup [.str a1, .str b1]) (l0 == a1 || l0 == b1) := fun {x y Q} ha hb hq => VR.strE ha fun t _ => VR.tupE hb fun p vs n1 g1 l1 r1 => by
  cases r1 with | cons r1 r2 =>
  cases r2 with | cons r2 r3 =>
  cases r3
  revert g1
  refine VR.strE r1 fun t1 _ => VR.strE r2 fun t2 _ => fun g1 => ?_
  show wpAny _ A (contains _ _ >>= fun b => pure (Value.bool b)) Q F0 s
  refine wpAny_bind (contains_tuple_strs (ys := [mkS a1, mkS b1]) ⟨_, g1, rfl, _, rfl⟩ (.cons _ _ (.cons _ _ .nil)) (wpAny_pure ?_))
  rw [List.any_cons, List.any_cons, List.any_nil, Bool.or_false, mkS_beq, mkS_beq, BEq.comm (a := a1), BEq.comm (a := b1)]
  exact hq s.toks
theorem in_ok {a b : V} {c : Bool} (e : pIn a b = some c) : CmpOK C prog w A σ s .In a b c := by
  refine bindE e fun l0 hl e => strE (G := fun a => CmpOK C prog w A σ s .In a b c) hl ?_
  cases b with
  | str l => exact mapE (G := CmpOK C prog w A σ s .In (.str l0) (.str l)) e fun c0 hc => oneE (G := fun l0 => CmpOK C prog w A σ s .In (.str l0) (.str l) (l.contains c0)) hc (str_str fun h => SB.contains (by rw [contains_one]; exact h))
  | tup vs0 => exact bindE e fun p hp e => twoE (G := fun vs0 => CmpOK C prog w A σ s .In (.str l0) (.tup vs0) c) hp (bindE e fun a1 h1 e => mapE (G := CmpOK C prog w A σ s .In (.str l0) (.tup [p.1, p.2])) e fun b1 h2 => strE (G := fun v => CmpOK C prog w A σ s .In (.str l0) (.tup [v, p.2]) (l0 == a1 || l0 == b1)) h1 (strE (G := fun v => CmpOK C prog w A σ s .In (.str l0) (.tup [.str a1, v]) (l0 == a1 || l0 == b1)) h2 inTup_ok))
  | _ => exact no e
theorem notIn_ok {a b : V} {c : Bool} (e : pNotIn a b = some c) : CmpOK C prog w A σ s .NotIn a b c :=
  bindE e fun l0 hl e => strE (G := fun a => CmpOK C prog w A σ s .NotIn a b c) hl (bindE e fun l hb e => strE (G := fun b => CmpOK C prog w A σ s .NotIn (.str l0) b c) hb (mapE (G := CmpOK C prog w A σ s .NotIn (.str l0) (.str l)) e fun c1 e => mapE (G := fun c1 => CmpOK C prog w A σ s .NotIn (.str l0) (.str l) (!c1)) e fun c0 hc => oneE (G := fun l0 => CmpOK C prog w A σ s .NotIn (.str l0) (.str l) (!l.contains c0)) hc (str_str fun h => SB.notContains (by rw [contains_one]; exact h))))

theorem cmp_ok {op : CmpOp} {a b : V} {x y : Value} {c : Bool} (e : pCmp op a b H = some c) (I : Inv C σ H s) (ha : VR C.X σ s.heap a x) (hb : VR C.X σ s.heap b y) (hu : A.units + 2 < cLine) {Q : Value → Shared → Prop} (hQ : ∀ tk, Q (.bool c) { s with toks := tk }) :
    wpAny (model prog w) A (compareOp op x y) Q F0 s := by
  refine (?_ : CmpOK C prog w A σ s op a b c) ha hb hQ
  cases op with
  | Lt => exact intC_ok e fun _ _ => int_int P.lt_int
  | LtE => exact ite2 (c := isIntV a = true) e (fun _ e => intC_ok e fun _ _ => int_int le_int) fun _ e => strC_ok e fun _ _ => str_str fun h => P.le_str (by simpa using h)
  | Gt => exact ite2 (c := isIntV a = true) e (fun _ e => intC_ok e fun _ _ => int_int P.gt_int) fun _ e => strC_ok e fun _ _ => str_str fun h => P.gt_str (by simpa using h)
  | GtE => exact intC_ok e fun _ _ => int_int P.ge_int
  | Eq => exact eq_ok e I hu
  | NotEq => exact ne_ok e I hu
  | Is => exact is_ok e I
  | IsNot => exact isNot_ok e I
  | In => exact in_ok e
  | NotIn => exact notIn_ok e
end Mine
end

section
set_option Elab.async false
set_option linter.all false
namespace Mine
open PySem PySem.W PyProof.Rows PySem.Spec PySem.Calls

variable {C : Cx} {prog : Program} {w : World} {A : Around} {σ : List Addr} {H : Hp} {s : Shared}

theorem subscripted_eq (slice : Expr) (o i : Value) : ∃ ops, subscripted slice false o i = operate ops (getItem o i) := by
  cases slice
  case Slice a b c d => cases c <;> exact ⟨_, rfl⟩
  all_goals exact ⟨_, rfl⟩
theorem tail_wp {value slice : Expr} {o i : Value} {T id : String} {Q : Value → Shared → Prop} {E : Value → Shared → Prop} (hT : s.TypeIs o T)
    (hl : typeLookup (.type T) "__getitem__" = pure (some (.builtin id))) (hg : wpAny (model prog w) A (getItem o i) Q E s) : wpAny (model prog w) A (subscriptTail value slice o i) Q E s := by
  obtain ⟨ops, h⟩ := subscripted_eq slice o i
  exact tail_any hT hl hg h

theorem tail_on {value slice : Expr} {o i : Value} {Q : Value → Shared → Prop} {E : Value → Shared → Prop} (h : ItemOn (model prog w) A E o i Q s) : wpAny (model prog w) A (subscriptTail value slice o i) Q E s :=
  let ⟨_, _, hl, hT, hg⟩ := h; tail_wp hT hl hg

theorem lim2 : 2 * lim = 2000000 := rfl
theorem sizeLine_is : sizeLine = 16777216 := by decide
@[elab_as_elim] theorem placeE {k : Int} {n j : Nat} {G : Nat → Prop} (e : place k n = some j) (hn : n ≤ 2 * lim) (g1 : 0 ≤ k → k < 2 ^ 63 → k < n → k.toNat < n → G k.toNat) (g2 : k < 0 → -(n : Int) ≤ k → -(2 ^ 63) ≤ k → G (k + n).toNat) : G j := by
  rw [lim2] at hn
  refine ite2 (c := 0 ≤ k) e (fun h e => iteP e fun q e => someE (G := G) e (g1 h ?_ ?_ q)) fun h e => iteP e fun q e => someE (G := G) e (g2 ?_ ?_ ?_) <;> clear e g1 g2 <;> (first | lia | omega)
theorem place_fits {k : Int} {n j : Nat} (e : place k n = some j) (hn : n ≤ 2 * lim) : -(2 ^ 63) ≤ k ∧ k < 2 ^ 63 := placeE (G := fun _ => -(2 ^ 63) ≤ k ∧ k < 2 ^ 63) e hn (fun h1 h2 _ _ => ⟨by (first | lia | omega), h2⟩) fun h1 _ h3 => ⟨h3, by (first | lia | omega)⟩
theorem place_seq {k : Int} {n j : Nat} (e : place k n = some j) (hn : n ≤ 2 * lim) : seqIndex? k n = some j ∧ j < n := by
  refine placeE (G := fun j => seqIndex? k n = some j ∧ j < n) e hn (fun h1 _ h3 h4 => ⟨?_, h4⟩) fun h1 h2 _ => ⟨?_, by (first | lia | omega)⟩
  · unfold seqIndex?
    rw [if_neg (Int.not_lt.mpr h1)]
    exact if_pos (by rw [decide_eq_true h1, decide_eq_true h3]; rfl)
  · unfold seqIndex?
    rw [if_pos h1]
    exact if_pos (by rw [decide_eq_true (show 0 ≤ k + (n : Int) by (first | lia | omega)), decide_eq_true (show k + (n : Int) < n by (first | lia | omega))]; rfl)

/- o[i] -/
noncomputable def SubOK (C : Cx) (prog : Program) (w : World) (A : Around) (σ : List Addr) (H : Hp) (s : Shared) (o i v : V) : Prop := ∀ {value slice : Expr} {x y}, VR C.X σ s.heap o x → VR C.X σ s.heap i y → wpAny (model prog w) A (subscriptTail value slice x y) (Ok C σ s H v) F0 s
theorem subL_ok {a : Nat} {k : Int} {v : V} {xs : List V} {j : Nat} (h1 : hGet H a = some xs) (e1 : place k xs.length = some j) (e2 : xs[j]? = some v) (I : Inv C σ H s) : SubOK C prog w A σ H s (.ref a) (.int k) v := fun ho hi => VR.intE hi fun t => I.listE h1 ho fun p vs n1 _ g1 r1 hlen l1 => by
  obtain ⟨z, hz, rz⟩ := r1.get e2
  rw [Array.getElem?_toList] at hz
  refine tail_wp ⟨_, g1, rfl⟩ slot_list_getitem.lookup ?_
  revert hz
  exact placeE (G := fun j => vs[j]? = some z → wpAny (model prog w) A (getItem (.ref p) (.int k t)) (Ok C σ s H v) F0 s) e1 l1 (fun h1 h2 _ _ hz => wpAny_getItem_list (isList_of g1) h1 h2 hz (Ok.same I rz)) fun h1 h2 h3 hz => wpAny_getItem_list_neg (isList_of g1) h1 (hlen ▸ h2) h3 (hlen ▸ hz) (Ok.same I rz)
theorem subT_ok {k : Int} {v : V} {xs : List V} (hk : 0 ≤ k) (e : xs[k.toNat]? = some v) (I : Inv C σ H s) : SubOK C prog w A σ H s (.tup xs) (.int k) v := fun ho hi => VR.intE hi fun t => VR.tupE ho fun p ws n1 g1 l1 r1 => by
  obtain ⟨z, hz, rz⟩ := r1.get e
  have hlt : k.toNat < ws.length := (List.getElem?_eq_some_iff.mp hz).1
  have hp : place k ws.length = some k.toNat := (if_pos hk).trans (if_pos hlt)
  have hT : IsTup s.heap p ws.toArray := ⟨_, g1, rfl, _, rfl⟩
  exact tail_wp hT.typeIs slot_tuple_getitem.lookup (getItem_tuple (j := k.toNat) hT (place_fits hp l1).1 (place_fits hp l1).2 (place_seq hp l1).1 (List.getElem?_toArray ▸ hz) (Ok.same I rz))
theorem subS_ok {k : Int} {l : List Nat} {j c : Nat} (e1 : place k l.length = some j) (e2 : l[j]? = some c) (I : Inv C σ H s) : SubOK C prog w A σ H s (.str l) (.int k) (.str [c]) := fun ho hi => VR.intE hi fun t => VR.strE ho fun u hl => by
  have hc : Txt.charAt (mkS l) k = some c := by
    unfold Txt.charAt
    rw [mkS_len, (place_seq e1 hl).1]
    show l.toArray[j]? = some c
    rw [List.getElem?_toArray]; exact e2
  have hf : fitsSsize k = true := by
    unfold fitsSsize
    rw [decide_eq_false (Int.not_lt.mpr (place_fits e1 hl).1), decide_eq_false (Int.not_le.mpr (place_fits e1 hl).2)]; rfl
  refine tail_on (SB.item hf (by rw [hc]; rfl) ?_)
  unfold Txt.item
  rw [hc]
  exact Ok.tok I (VR.mkStr (show 1 ≤ 2 * lim by rw [lim2]; decide))
theorem sub_ok {value slice : Expr} {o i v : V} {x y : Value} (e : pSub o i H = some v) (I : Inv C σ H s) (ho : VR C.X σ s.heap o x) (hi : VR C.X σ s.heap i y) :
    wpAny (model prog w) A (subscriptTail value slice x y) (Ok C σ s H v) F0 s := by
  refine (bindE e fun k hk e => intE (G := fun i => SubOK C prog w A σ H s o i v) hk ?_ : SubOK C prog w A σ H s o i v) ho hi
  cases o with
  | ref a => exact bindE e fun xs h1 e => bindE e fun j e1 e2 => subL_ok h1 e1 e2 I
  | tup xs => exact iteP e fun hk e => subT_ok hk e I
  | str l => exact bindE e fun j e1 e => mapE (G := SubOK C prog w A σ H s (.str l) (.int k)) e fun c e2 => subS_ok e1 e2 I
  | _ => exact no e

theorem filterMap_range {α : Type} (l : List α) (a n : Nat) (h : a + n ≤ l.length) : ((List.range n).map fun x => a + x).filterMap (fun i => l[i]?) = (l.drop a).take n := by
  induction n with
  | zero => simp
  | succ n ih =>
    rw [List.range_succ, List.map_append, List.filterMap_append, ih (by (first | lia | omega))]
    simp only [List.map_cons, List.map_nil, List.filterMap_cons, List.filterMap_nil]
    rw [List.getElem?_eq_getElem (by (first | lia | omega))]
    rw [List.take_succ, List.getElem?_drop, List.getElem?_eq_getElem (by (first | lia | omega))]
    rfl

theorem pick_slice {α : Type} (l : List α) (a b : Nat) (hb : b ≤ l.length) : (sliceRange a b 1).filterMap (fun i => l[i]?) = (l.take b).drop a := by
  rw [sliceRange_one, List.drop_take]
  by_cases h : a ≤ b
  · exact filterMap_range l a (b - a) (by (first | lia | omega))
  · rw [show b - a = 0 by (first | lia | omega)]; simp
theorem clampX (x : Int) (n : Nat) : max 0 (min x n) = ((min x.toNat n : Nat) : Int) := by
  by_cases h : 0 ≤ x
  · have hm : ((min x.toNat n : Nat) : Int) = min (x.toNat : Int) n := by omega
    rw [hm, Int.toNat_of_nonneg h]
    exact Int.max_eq_right (Int.le_min.mpr ⟨h, Int.natCast_nonneg _⟩)
  · rw [Int.toNat_of_nonpos (Int.le_of_lt (Int.not_le.mp h)), Nat.zero_min]
    exact Int.max_eq_left (Int.le_trans (Int.min_le_left ..) (Int.le_of_lt (Int.not_le.mp h)))
theorem clamp_le (n : Nat) (i : Int) : max 0 (min (if i < 0 then i + n else i) n) = ((min (clampI n i) n : Nat) : Int) := by
  rw [clampX]
  unfold clampI
  by_cases h : i < 0
  · rw [if_pos h, if_pos h]
  · rw [if_neg h, if_neg h, Nat.min_assoc, Nat.min_self]

noncomputable def loN (n : Nat) : Option Int → Nat
  | none => 0
  | some i => clampI n i
noncomputable def hiN (n : Nat) : Option Int → Nat
  | none => n
  | some i => clampI n i
theorem drop_min {α : Type} (l : List α) (a n : Nat) (h : l.length ≤ n) : l.drop (min a n) = l.drop a := by
  by_cases q : a ≤ n
  · rw [Nat.min_eq_left q]
  · rw [Nat.min_eq_right (by (first | lia | omega)), List.drop_eq_nil_of_le h, List.drop_eq_nil_of_le (by (first | lia | omega))]
theorem take_min {α : Type} (l : List α) (a : Nat) : l.take (min a l.length) = l.take a := by
  by_cases q : a ≤ l.length
  · rw [Nat.min_eq_left q]
  · rw [Nat.min_eq_right (by (first | lia | omega)), List.take_of_length_le (Nat.le_refl _), List.take_of_length_le (by (first | lia | omega))]
theorem pySlice_is {α : Type} (lo hi : Option Int) (l : List α) : pySlice lo hi l = (l.take (min (hiN l.length hi) l.length)).drop (min (loN l.length lo) l.length) := by
  rw [drop_min _ _ _ (by rw [List.length_take]; (first | lia | omega)), take_min]
  unfold pySlice
  cases hi <;> cases lo <;> rfl
theorem pySlice_len {α : Type} (lo hi : Option Int) (l : List α) : (pySlice lo hi l).length ≤ l.length := by
  unfold pySlice
  simp only [List.length_drop, List.length_take]; omega
theorem clip_lo (lo : Option Int) (n : Nat) : (match lo with | none => (0 : Int) | some i => max 0 (min (if i < 0 then i + n else i) n)) = ((min (loN n lo) n : Nat) : Int) := by
  cases lo with
  | none => simp [loN]
  | some i => simpa [loN] using clamp_le n i
theorem clip_hi (hi : Option Int) (n : Nat) : (match hi with | none => (n : Int) | some i => max 0 (min (if i < 0 then i + n else i) n)) = ((min (hiN n hi) n : Nat) : Int) := by
  cases hi with
  | none => simp [hiN]
  | some i => simpa [hiN] using clamp_le n i
theorem clipped (lo hi : Option Int) (n : Nat) : Builtin.Str.strSliceIndices lo hi 1 n = sliceRange ((min (loN n lo) n : Nat) : Int) ((min (hiN n hi) n : Nat) : Int) 1 := by
  rw [← clip_lo, ← clip_hi]
  rfl
theorem bounds (lo hi : Option Int) (n : Nat) : sliceBounds lo hi none n = (((min (loN n lo) n : Nat) : Int), ((min (hiN n hi) n : Nat) : Int), 1) := by
  rw [← clip_lo, ← clip_hi]
  rfl

noncomputable def VRo (X σ : List Addr) (h : Heap) : Option V → Value → Prop
  | none, w => w = .none
  | some v, w => VR X σ h v w

theorem oInt_part {X : List Addr} {h : Heap} {o : Option V} {k : Option Int} {x : Value} (e : oInt o = some k) (r : VRo X σ h o x) : ∃ q : Option (Int × Tok), q.map (·.1) = k ∧ x = partValue q ∧ IsPart x k := by
  cases o with
  | none => exact someE (G := fun k => ∃ q : Option (Int × Tok), q.map (·.1) = k ∧ x = partValue q ∧ IsPart x k) e ⟨none, rfl, r, (show x = Value.none from r) ▸ .none⟩
  | some v => exact mapE (G := fun k => ∃ q : Option (Int × Tok), q.map (·.1) = k ∧ x = partValue q ∧ IsPart x k) e fun i hi => (intE (G := fun v => VR X σ h v x → ∃ q : Option (Int × Tok), q.map (·.1) = some i ∧ x = partValue q ∧ IsPart x (some i)) hi fun r => VR.intE r fun t => ⟨some (i, t), rfl, rfl, .int _ _⟩) r

noncomputable abbrev slcH (s : Shared) (vl vu : Value) : Shared := { s with heap := s.heap.push { cls := .type "slice", data := .fields #[vl, vu, .none] } }
theorem picked {l : List Nat} {lo hi : Option Int} {ql qu : Option (Int × Tok)} (rl : ql.map (·.1) = lo) (ru : qu.map (·.1) = hi) : slicePicked (mkS l) ql qu none = sliceRange ((min (loN l.length lo) l.length : Nat) : Int) ((min (hiN l.length hi) l.length : Nat) : Int) 1 := by
  unfold slicePicked
  rw [rl, ru, mkS_len]
  exact clipped _ _ _
theorem min_le_r (a b : Nat) : min a b ≤ b := Nat.min_le_right a b
theorem slcS_ok {value slice : Expr} {l : List Nat} {lo hi : Option Int} {vl vu x : Value} {ql qu : Option (Int × Tok)} (rl : ql.map (·.1) = lo) (ru : qu.map (·.1) = hi) (xl : vl = partValue ql) (xu : vu = partValue qu) (I : Inv C σ H s) (ho : VR C.X σ s.heap (.str l) x) :
    wpAny (model prog w) A (subscriptTail value slice x (.ref s.heap.objs.size)) (Ok C σ s H (.str (pySlice lo hi l))) F0 (slcH s vl vu) := VR.strE ho fun t hlen => by
  refine tail_wp (typeIs_str _ _ _) F.slot_str_getitem.lookup (wpAny_getItem_str_slice (l := ql) (u := qu) (st := none) ⟨_, Heap.get?_push_size _ rfl, rfl, by rw [xl, xu]; rfl⟩ rfl ?_)
  have hle := Nat.le_trans (pySlice_len lo hi l) hlen
  have hok : ∀ tk t', Ok C σ s H (.str (pySlice lo hi l)) (.str (mkS (pySlice lo hi l)) t') { slcH s vl vu with toks := tk } := fun tk t' => ⟨σ, I.push.trans I.push.inv.toks_, VR.mkStr hle⟩
  unfold sliceMade
  by_cases hw : ((((none : Option (Int × Tok)).map (·.1)).getD 1 == 1 && (slicePicked (mkS l) ql qu none).length == (mkS l).length) = true)
  · rw [if_pos hw]
    have hw := eq_of_beq (andE hw fun _ h => h)
    have hfull : pySlice lo hi l = l := by
      have hs : (pySlice lo hi l).Sublist l := (List.drop_sublist _ _).trans (List.take_sublist _ _)
      refine hs.eq_of_length ?_
      rw [mkS_len, picked rl ru, sliceRange_one, List.length_map, List.length_range] at hw
      rw [pySlice_is, List.length_drop, List.length_take, Nat.min_eq_left (min_le_r _ _), hw]
    rw [hfull] at hok ⊢
    exact hok s.toks t
  · rw [if_neg hw]
    have hp : (slicePicked (mkS l) ql qu none).filterMap (fun i => (mkS l).cps[i]?) = pySlice lo hi l := by
      rw [picked rl ru, pySlice_is]
      simp only [List.getElem?_toArray]
      exact pick_slice l _ _ (min_le_r _ _)
    rw [hp]
    exact ⟨by rw [mkS_len, sizeLine_is]; exact Nat.le_trans hle (by rw [lim2]; decide), hok _ _⟩
theorem slcL_ok {value slice : Expr} {xs : List V} {lo hi : Option Int} {vl vu : Value} {p : Addr} {vs : Array Value} {n1 : Nat} (pl : IsPart vl lo) (pu : IsPart vu hi) (I : Inv C σ H s) (g1 : s.heap.get? p = some { cls := .type "list", data := .seq vs n1 }) (r1 : VRs C.X σ s.heap xs vs.toList) (l1 : xs.length ≤ 2 * lim) :
    wpAny (model prog w) A (subscriptTail value slice (.ref p) (.ref s.heap.objs.size)) (Ok C σ s (H ++ [.lst (pySlice lo hi xs)]) (.ref H.length)) F0 (slcH s vl vu) := by
  have S1 : Step C σ s σ H (slcH s vl vu) := I.push
  have hlen := r1.length
  have hsz := hlen.trans Array.length_toList
  have g2 : (slcH s vl vu).heap.get? p = some { cls := .type "list", data := .seq vs n1 } := Heap.get?_push_of_some _ g1
  refine tail_wp ⟨_, g2, rfl⟩ slot_list_getitem.lookup (wpAny_getItem_list_slice (isList_of g2) (.new s.heap vl vu .none) pl pu .none (by simp) ?_ (Nat.le_trans (hsz ▸ l1) (by rw [lim2, sizeLine_is]; decide)))
  have hpick : slicePick vs lo hi none = (pySlice lo hi vs.toList).toArray := by
    unfold slicePick
    rw [bounds, pySlice_is, Array.length_toList, ← pick_slice _ _ _ (by rw [Array.length_toList]; exact min_le_r _ _)]
    simp
  have R2 : VRs C.X σ (slcH s vl vu).heap (pySlice lo hi xs) (slicePick vs lo hi none).toList := by
    rw [hpick, pySlice_is, pySlice_is, ← hlen]
    exact ((S1.vrs r1).take _).drop _
  exact (Ok.list (n := 0) S1.inv R2 (Nat.le_trans (pySlice_len lo hi xs) l1)).elim fun σ' h => ⟨σ', S1.trans h.1, h.2⟩
theorem slc_ok {value slice : Expr} {o : V} {lo hi : Option V} {v : V} {x vl vu : Value} {H' : Hp} (e : pSlc o lo hi H = some (v, H')) (I : Inv C σ H s) (ho : VR C.X σ s.heap o x) (hl : VRo C.X σ s.heap lo vl) (hu : VRo C.X σ s.heap hi vu) :
    wpAny (model prog w) A (subscriptTail value slice x (.ref s.heap.objs.size)) (Ok C σ s H' v) F0 (slcH s vl vu) :=
  bindE e fun lo' e1 e => bindE e fun hi' e2 e => by
  obtain ⟨ql, rl, xl, pl⟩ := oInt_part e1 hl
  obtain ⟨qu, ru, xu, pu⟩ := oInt_part e2 hu
  clear e1 e2 hl hu
  cases o with
  | str l => exact someR (G := fun v H' => wpAny (model prog w) A (subscriptTail value slice x (.ref s.heap.objs.size)) (Ok C σ s H' v) F0 (slcH s vl vu)) e (slcS_ok rl ru xl xu I ho)
  | ref a => exact mapR (G := fun v H' => wpAny (model prog w) A (subscriptTail value slice x (.ref s.heap.objs.size)) (Ok C σ s H' v) F0 (slcH s vl vu)) e fun xs h1 => I.listE (G := fun x => wpAny (model prog w) A (subscriptTail value slice x (.ref s.heap.objs.size)) (Ok C σ s (H ++ [.lst (pySlice lo' hi' xs)]) (.ref H.length)) F0 (slcH s vl vu)) h1 ho fun p vs n1 _ g1 r1 _ l1 => slcL_ok pl pu I g1 r1 l1
  | scr xs => exact someR (G := fun v H' => wpAny (model prog w) A (subscriptTail value slice x (.ref s.heap.objs.size)) (Ok C σ s H' v) F0 (slcH s vl vu)) e (by
      cases ho with | scr _ p ws n1 g1 q1 q2 l1 r1 =>
      exact slcL_ok (vs := ws.toArray) pl pu I g1 r1 (r1.length ▸ l1))
  | _ => exact no e
end Mine
end

section
set_option Elab.async false
set_option linter.all false
namespace Mine
open PySem PySem.W PyProof.Rows PySem.Spec PySem.Calls

variable {C : Cx} {prog : Program} {w : World} {A : Around} {σ : List Addr} {H : Hp} {s : Shared}

theorem sizeLe {n k : Nat} (e : n = k) (h : n ≤ 2 * lim) : k ≤ sizeLine := by rw [← e, sizeLine_is]; exact Nat.le_trans h (by rw [lim2]; decide)
theorem small63 {n : Nat} (h : n ≤ 2 * lim) : (n : Int) < 9223372036854775808 := by rw [lim2] at h; (first | lia | omega)
theorem truth_ok {v : V} {x : Value} {b : Bool} (e : truth v H = some b) (I : Inv C σ H s) (hv : VR C.X σ s.heap v x) {Q : Bool → Shared → Prop} {E : Value → Shared → Prop} (hQ : ∀ tk, Q b { s with toks := tk }) :
    wpAny (model prog w) A (truthy x) Q E s := by
  cases v with
  | none => exact someE (G := fun b => (∀ tk, Q b { s with toks := tk }) → wpAny (model prog w) A (truthy x) Q E s) e (fun hQ => VR.noneE hv fun _ _ _ => hQ s.toks) hQ
  | bool b => exact someE (G := fun b => (∀ tk, Q b { s with toks := tk }) → wpAny (model prog w) A (truthy x) Q E s) e (fun hQ => VR.boolE hv (wpAny_truthy_bool (hQ s.toks))) hQ
  | str l => exact someE (G := fun b => (∀ tk, Q b { s with toks := tk }) → wpAny (model prog w) A (truthy x) Q E s) e (fun hQ => VR.strE hv fun t hl => P.truthy_str (by rw [mkS_len]; exact Int.not_le.mpr (small63 hl)) (by rw [mkS_len, show ((l.length : Int) != 0) = !l.isEmpty by cases l <;> simp; (first | lia | omega)]; exact hQ _)) hQ
  | ref a => exact mapE (G := fun b => (∀ tk, Q b { s with toks := tk }) → wpAny (model prog w) A (truthy x) Q E s) e (fun xs h1 hQ => I.listE (G := fun x => wpAny (model prog w) A (truthy x) Q E s) h1 hv fun p vs n1 _ g1 r1 hlen l1 => wpAny_truthy_list (isList_of g1) (hlen ▸ small63 l1) (by
      rw [show vs.isEmpty = xs.isEmpty by rw [Bool.eq_iff_iff, Array.isEmpty_iff_size_eq_zero, List.isEmpty_iff_length_eq_zero, hlen]]
      exact hQ _)) hQ
  | _ => exact no e

theorem len_str_ok {l : List Nat} {x : Value} (I : Inv C σ H s) (hv : VR C.X σ s.heap (.str l) x) : wpAny (model prog w) A (call (.builtin "len") [x]) (Ok C σ s H (.int l.length)) F0 s :=
  VR.strE hv fun t hl => SBL.len (by rw [mkS_len]; exact small63 hl) (by rw [mkS_len]; exact Ok.tok I (.int _ _))
theorem len_list_ok {a : Nat} {xs : List V} {x : Value} (e : hGet H a = some xs) (I : Inv C σ H s) (hv : VR C.X σ s.heap (.ref a) x) : wpAny (model prog w) A (call (.builtin "len") [x]) (Ok C σ s H (.int xs.length)) F0 s :=
  I.listE (G := fun x => wpAny (model prog w) A (call (.builtin "len") [x]) (Ok C σ s H (.int xs.length)) F0 s) e hv fun p vs n1 _ g1 r1 hlen l1 => call_len_list (isList_of g1) (hlen ▸ small63 l1) (by rw [← hlen]; exact Ok.tok I (.int _ _))

theorem ints_are {X σ : List Addr} {h : Heap} : ∀ (xs : List V) (l : List Int) (ws : List Value), intsOf xs = some l → VRs X σ h xs ws → ∃ q : List (Int × Tok), ws = q.map (fun p => Value.int p.1 p.2) ∧ q.map (·.1) = l
  | [], l, ws, e, r => by cases r; exact ⟨[], rfl, Option.some.inj e⟩
  | v :: xs, l, ws, e, r => by
    cases r with | cons r1 r2 =>
    exact bindE e fun i hi e => mapE (G := fun l => ∃ q : List (Int × Tok), _ = q.map (fun p => Value.int p.1 p.2) ∧ q.map (·.1) = l) e fun l' e => (ints_are xs l' _ e r2).elim fun q g => (intE (G := fun v => VR X σ h v _ → _) hi fun r1 => VR.intE r1 fun t => ⟨(i, t) :: q, congrArg (List.cons _) g.1, congrArg (List.cons _) g.2⟩) r1
theorem sum_ok {a : Nat} {xs : List V} {l : List Int} {x : Value} (hh : A.handled = none) (e : hGet H a = some xs) (e2 : intsOf xs = some l) (I : Inv C σ H s) (hv : VR C.X σ s.heap (.ref a) x) :
    wpAny (model prog w) A (call (.builtin "sum") [x]) (Ok C σ s H (.int l.sum)) F0 s :=
  I.listE (G := fun x => wpAny (model prog w) A (call (.builtin "sum") [x]) (Ok C σ s H (.int l.sum)) F0 s) e hv fun p vs n1 _ g1 r1 _ _ => by
  obtain ⟨q, hq, hl⟩ := ints_are _ _ _ e2 r1
  have hvs : vs = intItems q.toArray := by
    unfold intItems
    rw [← Array.toList_inj, hq]
    simp
  have hs : preSum (numAt q.toArray) q.toArray.size = l.sum := by
    rw [preSum_eq, List.take_of_length_le (by simp), hl]
  exact sum_intListG hh (xs := q.toArray) (hvs ▸ isList_of g1) fun h' tk t' hk => hs ▸ ⟨σ, I.keeps (s' := { s with heap := h', toks := tk }) hk rfl rfl, .int _ _⟩

/- methods of lists -/
theorem append_ok {a : Nat} {xs : List V} {v : V} {x y : Value} (e : hGet H a = some xs) (hl : xs.length ≤ lim) (I : Inv C σ H s) (hv : VR C.X σ s.heap (.ref a) x) (hy : VR C.X σ s.heap v y) :
    wpAny (model prog w) A (call (.builtin "list.append") [x, y]) (Ok C σ s (hSet H a (xs ++ [v])) .none) F0 s :=
  I.listE (G := fun x => wpAny (model prog w) A (call (.builtin "list.append") [x, y]) (Ok C σ s (hSet H a (xs ++ [v])) .none) F0 s) e hv fun p vs n1 hp g1 r1 hlen l1 => wpAny_list_append_plain ⟨n1, g1⟩ (fun h' hp' hsb => hp'.elim fun n2 g2 =>
    ⟨σ, I.setList (s' := { s with heap := h' }) (ys := xs ++ [v]) hp e g2 (fun b o hb q => (hsb.2 b hb).trans q) rfl rfl (by rw [Array.toList_push]; exact r1.append (.cons hy .nil)) (by rw [List.length_append, lim2]; rw [lim_is] at hl; exact Nat.le_trans (Nat.succ_le_succ hl) (by decide)), .none⟩) (sizeLe hlen l1)

theorem extend_ok {a b : Nat} {xs ys : List V} {x y : Value} (hab : a ≠ b) (e : hGet H a = some xs) (e2 : hGet H b = some ys) (hl : xs.length + ys.length ≤ lim) (I : Inv C σ H s) (hv : VR C.X σ s.heap (.ref a) x) (hy : VR C.X σ s.heap (.ref b) y) :
    wpAny (model prog w) A (call (.builtin "list.extend") [x, y]) (Ok C σ s (hSet H a (xs ++ ys)) .none) F0 s :=
  I.listE (G := fun x => wpAny (model prog w) A (call (.builtin "list.extend") [x, y]) (Ok C σ s (hSet H a (xs ++ ys)) .none) F0 s) e hv fun p vs n1 hp g1 r1 hlen l1 => I.listE (G := fun y => wpAny (model prog w) A (call (.builtin "list.extend") [.ref p, y]) (Ok C σ s (hSet H a (xs ++ ys)) .none) F0 s) e2 hy fun q ws n2 hq g2 r2 hlen2 l2 => by
  have hsz' : vs.size + ws.size ≤ sizeLine := (size2 hlen hlen2 hl).1
  refine call_meets PySem.F.slot_list_extend ⟨_, g1, rfl⟩ PySem.F.entry_list_extend (PySem.F.args_list_extend_2 _ _) (AutoSeq1.list_extend_list_list_0 p vs n1 q ws n2 (extend_door hsz') (Nat.le_trans (Nat.le_add_right _ _) hsz')) ⟨g1, g2, ?_⟩
  have ho' : (s.heap.update p (Obj.mapSeq fun x => x ++ ws)).get? p = some { cls := .type "list", data := .seq (vs ++ ws) (if (vs ++ ws).size == vs.size then n1 else n1 + 1) } := by
    rw [Heap.get?_update_self _ g1 (by rw [mapSeq_app]; rfl), mapSeq_app]
  exact ⟨σ, I.setList (s' := { s with heap := s.heap.update p (Obj.mapSeq fun x => x ++ ws) }) (ys := xs ++ ys) hp e ho' (fun b o hb q => (Heap.get?_update_other _ _ (Ne.symm hb)).trans q) rfl rfl (by rw [Array.toList_append]; exact r1.append r2) (size2 hlen hlen2 hl).2, .none⟩

/- methods of strs -/
theorem strs_are {X σ : List Addr} {h : Heap} : ∀ (xs : List V) (l : List (List Nat)) (ws : List Value), strsOf xs = some l → VRs X σ h xs ws → ∃ q : List (Str × Tok), ws = strValues q ∧ q.map (·.1) = l.map mkS
  | [], l, ws, e, r => by cases r; exact ⟨[], rfl, (Option.some.inj e : [] = l) ▸ rfl⟩
  | v :: xs, l, ws, e, r => by
    cases r with | cons r1 r2 =>
    exact bindE e fun i hi e => mapE (G := fun l => ∃ q : List (Str × Tok), _ = strValues q ∧ q.map (·.1) = l.map mkS) e fun l' e => (strs_are xs l' _ e r2).elim fun q g => (strE (G := fun v => VR X σ h v _ → _) hi fun r1 => VR.strE (G := fun w => ∃ q : List (Str × Tok), w :: _ = strValues q ∧ q.map (·.1) = (i :: l').map mkS) r1 fun t _ => ⟨(mkS i, t) :: q, congrArg (List.cons (Value.str (mkS i) t)) g.1, congrArg (List.cons (mkS i)) g.2⟩) r1

theorem startswith_ok {l p : List Nat} {x y : Value} (I : Inv C σ H s) (hv : VR C.X σ s.heap (.str l) x) (hy : VR C.X σ s.heap (.str p) y) :
    wpAny (model prog w) A (call (.builtin "str.startswith") [x, y]) (Ok C σ s H (.bool (p.isPrefixOf l))) F0 s := by
  refine VR.strE hv fun t _ => VR.strE hy fun u _ => SC.startswith ?_
  rw [show Txt.startswith (mkS l) (mkS p) = p.isPrefixOf l by
    unfold Txt.startswith Builtin.Str.subAt
    rw [mkS_len, mkS_len, Bool.eq_iff_iff]
    simp only [Nat.zero_add, Bool.and_eq_true, decide_eq_true_eq, beq_iff_eq, List.isPrefixOf_iff_prefix, List.prefix_iff_eq_take]
    constructor
    · rintro ⟨h1, h2⟩
      have := congrArg Array.toList h2
      simp at this
      exact this.symm
    · intro h
      refine ⟨by rw [h, List.length_take]; (first | lia | omega), ?_⟩
      rw [← Array.toList_inj]
      simp
      exact h.symm]
  exact Ok.same I (.bool _)

theorem setAt_step {a j : Nat} {xs : List V} {v : V} {z : Value} {p : Addr} {vs : Array Value} {n : Nat} (I : Inv C σ H s) (hp : σ[a]? = some p) (e : hGet H a = some xs) (g1 : s.heap.get? p = some { cls := .type "list", data := .seq vs n }) (r1 : VRs C.X σ s.heap xs vs.toList) (l1 : xs.length ≤ 2 * lim) (hz : VR C.X σ s.heap v z) :
    Step C σ s σ (hSet H a (xs.set j v)) { s with heap := s.heap.update p (Obj.mapSeq fun x => Array.setIfInBounds x j z) } := by
  have ho' : (s.heap.update p (Obj.mapSeq fun x => Array.setIfInBounds x j z)).get? p = some { cls := .type "list", data := .seq (vs.setIfInBounds j z) n } := by
    rw [Heap.get?_update_self _ g1 rfl]
    simp [Obj.mapSeq]
  exact I.setList (s' := { s with heap := s.heap.update p (Obj.mapSeq fun x => Array.setIfInBounds x j z) }) hp e ho' (fun b o hb q => (Heap.get?_update_other _ _ (Ne.symm hb)).trans q) rfl rfl
    (by rw [Array.toList_setIfInBounds]; exact VRs.set hz r1 j) (by simpa using l1)
theorem setItem_ok {a j : Nat} {k : Int} {xs : List V} {v : V} {x y z : Value} (e : hGet H a = some xs) (e2 : place k xs.length = some j) (I : Inv C σ H s) (hx : VR C.X σ s.heap (.ref a) x) (hy : VR C.X σ s.heap (.int k) y) (hz : VR C.X σ s.heap v z) :
    wpAny (model prog w) A (setItem x y z) (fun _ s' => Step C σ s σ (hSet H a (xs.set j v)) s') F0 s :=
  VR.intE hy fun t => I.listE (G := fun x => wpAny (model prog w) A (setItem x (.int k t) z) (fun _ s' => Step C σ s σ (hSet H a (xs.set j v)) s') F0 s) e hx fun p vs n1 hp g1 r1 hlen l1 =>
  placeE (G := fun j => wpAny (model prog w) A (setItem (.ref p) (.int k t) z) (fun _ s' => Step C σ s σ (hSet H a (xs.set j v)) s') F0 s) e2 l1 (fun h1 h2 h3 _ => ki_setAt (n := n1) g1 h1 h2 (hlen ▸ h3) (setAt_step I hp e g1 r1 l1 hz)) fun h1 h2 h3 => ki_setBack (n := n1) g1 h1 (hlen ▸ h2) h3 (hlen ▸ setAt_step I hp e g1 r1 l1 hz)
theorem delItem_ok {a j : Nat} {k : Int} {xs : List V} {x y : Value} (e : hGet H a = some xs) (e2 : place k xs.length = some j) (I : Inv C σ H s) (hx : VR C.X σ s.heap (.ref a) x) (hy : VR C.X σ s.heap (.int k) y) :
    wpAny (model prog w) A (delItem x y) (fun _ s' => Step C σ s σ (hSet H a (xs.eraseIdx j)) s') F0 s :=
  VR.intE hy fun t => I.listE (G := fun x => wpAny (model prog w) A (delItem x (.int k t)) (fun _ s' => Step C σ s σ (hSet H a (xs.eraseIdx j)) s') F0 s) e hx fun p vs n1 hp g1 r1 hlen l1 => by
  have hfit : Builtin.List.listFitsIndex k = true := by
    have := place_fits e2 l1
    simp [Builtin.List.listFitsIndex]
    exact this
  refine wpAny_delItem_plain ⟨n1, g1⟩ hfit (hlen ▸ (place_seq e2 l1).1) (fun h' hp' hsb => hp'.elim fun n2 g2 => I.setList (s' := { s with heap := h' }) hp e g2 (fun b o hb q => (hsb.2 b hb).trans q) rfl rfl ?_ (Nat.le_trans (List.length_eraseIdx_le ..) l1)) (sizeLe hlen l1)
  rw [show (vs.eraseIdxIfInBounds j).toList = vs.toList.eraseIdx j by
    rw [Array.eraseIdxIfInBounds, dif_pos (hlen ▸ (place_seq e2 l1).2)]
    simp]
  exact r1.erase j
end Mine
end

section
set_option Elab.async false
set_option linter.all false
namespace Mine
open PySem PySem.W PyProof.Rows PySem.Spec PySem.Calls

variable {C : Cx} {prog : Program} {w : World} {A : Around} {σ : List Addr} {H : Hp} {s : Shared} {E : Value → Shared → Prop}

abbrev nm (x : String) : Str := Str.ofString x
theorem nm_inj {x y : String} (h : nm x = nm y) : x = y := by
  have h := congrArg (fun s : Str => s.cps.toList) h
  simp only [Str.ofString_eq_toList] at h
  have h2 : x.toList = y.toList := by
    refine (List.map_inj_right (f := Char.toNat) fun a b e => ?_).mp h
    have : a.val = b.val := UInt32.toNat_inj.mp e
    exact Char.ext this
  exact String.toList_inj.mp h2

noncomputable def ownOf (env : Env) : List Addr := env.locals :: env.cells.map (·.2)

structure EnvOK (C : Cx) (σ : List Addr) (s : Shared) (env : Env) (r : Rho) : Prop where
  kind : env.scope.kind = .function
  globals : env.globals = mainGlobals
  builtins : env.builtins = builtinsNs
  loc : ∃ m, s.heap.Ns env.locals m ∧ ∀ x v, r x = some v → env.kindOf (nm x) = some .local → ∃ w, m (nm x) = some w ∧ VR C.X σ s.heap v w
  cel : ∀ x v, r x = some v → (env.kindOf (nm x) = some .cell ∨ env.kindOf (nm x) = some .free) → ∃ c w, env.cells.lookup (nm x) = some c ∧ s.heap.IsCell c (some w) ∧ VR C.X σ s.heap v w
  has : ∀ x, env.kindOf x = some .cell → ∃ c v, env.cells.lookup x = some c ∧ s.heap.IsCell c v
  own : ∀ a ∈ ownOf env, a ∉ σ ∧ a ∉ C.X ∧ C.B.get? a = none ∧ ∃ o, s.heap.get? a = some o ∧ ¬ ValO o
  apart : ∀ x y c, env.cells.lookup x = some c → env.cells.lookup y = some c → x = y
  above : ∀ p ∈ env.cells, p.2 ≠ env.locals

theorem EnvOK.move {σ' : List Addr} {s' : Shared} {env : Env} {r : Rho} (V : EnvOK C σ s env r) (hp : ∀ a ∈ ownOf env, ∀ o, s.heap.get? a = some o → s'.heap.get? a = some o) (hv : ∀ v w, VR C.X σ s.heap v w → VR C.X σ' s'.heap v w) (hσ : ∀ a ∈ ownOf env, a ∉ σ') : EnvOK C σ' s' env r :=
  have hc : ∀ {x c}, env.cells.lookup x = some c → c ∈ ownOf env := fun h => List.mem_cons_of_mem _ (List.mem_map.mpr ⟨_, mem_of_lookup h, rfl⟩)
  ⟨V.kind, V.globals, V.builtins, V.loc.elim fun m h => ⟨m, h.1.elim fun o g => ⟨o, g.elim fun es g => ⟨es, g.elim fun ep g => ⟨ep, hp _ List.mem_cons_self _ g.1, g.2⟩⟩⟩, fun x v hx hk => (h.2 x v hx hk).elim fun w g => ⟨w, g.1, hv _ _ g.2⟩⟩,
    fun x v h hk => (V.cel x v h hk).elim fun c g => g.elim fun w g => ⟨c, w, g.1, g.2.1.elim fun o k => ⟨o, hp _ (hc g.1) _ k.1, k.2⟩, hv _ _ g.2.2⟩,
    fun x hk => (V.has x hk).elim fun c g => g.elim fun v g => ⟨c, v, g.1, g.2.elim fun o k => ⟨o, hp _ (hc g.1) _ k.1, k.2⟩⟩,
    fun a ha => ⟨hσ a ha, (V.own a ha).2.1, (V.own a ha).2.2.1, (V.own a ha).2.2.2.elim fun o g => ⟨o, hp a ha o g.1, g.2⟩⟩, V.apart, V.above⟩
theorem some_none {α : Type} {x : Option α} {a : α} {G : Prop} (h1 : x = some a) (h2 : x = none) : G := no (h2.symm.trans h1)
theorem StepW.env {σ s σ' H' s'} {env : Env} {r : Rho} (S : Step C σ s σ' H' s') (V : EnvOK C σ s env r) : EnvOK C σ' s' env r :=
  V.move (fun a ha o e => S.pres a o e (V.own a ha).1 (V.own a ha).2.1 fun h => nomatch h) (fun _ _ h => S.vr h) fun a ha h => (S.new a h).elim (V.own a ha).1 fun n => (V.own a ha).2.2.2.elim fun o g => some_none g.1 n

/- a change at one place that holds no small value -/
theorem Inv.turn {σ H s} {a : Addr} {o : Obj} {h' : Heap} {tk : Nat} (I : Inv C σ H s) (h1 : a ∉ σ) (h2 : a ∉ C.X) (h3 : C.B.get? a = none) (h4 : s.heap.get? a = some o) (h5 : ¬ ValO o) (hk : ∀ b o, b ≠ a → s.heap.get? b = some o → h'.get? b = some o) : Inv C σ H { s with heap := h', toks := tk } ∧ (∀ v w, VR C.X σ s.heap v w → VR C.X σ h' v w) :=
  have hv : ∀ b o, s.heap.get? b = some o → b ∉ σ → b ∉ C.X → ValO o → h'.get? b = some o ∧ b ∉ σ := fun b o' e q1 _ q3 => ⟨hk b o' (fun q => h5 ((Option.some.inj ((q ▸ e).symm.trans h4)) ▸ q3)) e, q1⟩
  have hσ : ∀ b ∈ σ, b ≠ a := fun b hb q => h1 (q ▸ hb)
  ⟨⟨fun b o e q => hk b o (fun q => some_none (q ▸ e) h3) (I.keep b o e q), I.len, I.nd, I.fresh, fun i b xs e1 e2 => (I.lst i b xs e1 e2).elim fun vs g => g.elim fun n g => ⟨vs, n, hk b _ (hσ b (List.mem_of_getElem? e1)) g.1, g.2.1.mono (List.prefix_refl _) hv, g.2.2⟩, fun i b k e1 e2 => (I.obj i b k e1 e2).elim fun o g => ⟨o, hk b _ (hσ b (List.mem_of_getElem? e1)) g.1, g.2⟩, I.disj,
      C.stable _ _ (fun b hb o e => hk b o (fun q => h2 (q ▸ hb)) e) I.soft, fun b hb => (I.softX b hb).elim fun o e => ⟨o, hk b o (fun q => h2 (q ▸ hb)) e⟩, I.bare⟩, fun v w h => h.mono (List.prefix_refl _) hv⟩
/- a store at an own place -/
theorem Inv.own {σ H s} {a : Addr} {o : Obj} {h' : Heap} {tk : Nat} (I : Inv C σ H s) (h1 : a ∉ σ) (h2 : a ∉ C.X) (h3 : C.B.get? a = none) (h4 : s.heap.get? a = some o) (h5 : ¬ ValO o) (hs : Heap.SameBut a s.heap h') (h6 : ∃ o', h'.get? a = some o') :
    StepW C [a] σ s σ H { s with heap := h', toks := tk } :=
  have hk : ∀ b o, b ≠ a → s.heap.get? b = some o → h'.get? b = some o := fun b o hb e => (hs.2 b hb).trans e
  ⟨List.prefix_refl _, (I.turn h1 h2 h3 h4 h5 hk).1, fun b o' e q1 q2 q3 => hk b o' (fun q => h5 ((Option.some.inj ((q ▸ e).symm.trans h4)) ▸ q3 (q ▸ List.mem_cons_self))) e, fun _ h => .inl h, rfl, fun b o' e => if hb : b = a then hb ▸ h6 else ⟨o', hk b o' hb e⟩⟩

theorem notVal_dict {o : Obj} {es ep} (h : o.data = .dict es ep) : ¬ ValO o := by unfold ValO; rw [h]; exact fun q => q.2
theorem notVal_cell {o : Obj} {v} (h : o.data = .cell v) : ¬ ValO o := by unfold ValO; rw [h]; exact fun q => q.2

/- names -/
theorem load_ok {env : Env} {r : Rho} {x : String} {v : V} (V : EnvOK C σ s env r) (I : Inv C σ H s) (hr : r x = some v) (hk : env.kindOf (nm x) = some .local ∨ env.kindOf (nm x) = some .cell ∨ env.kindOf (nm x) = some .free)
    (hn : (nm x == ("__classdict__" : Str)) = false) : wpAny (model prog w) A (loadName env (nm x)) (Ok C σ s H v) F0 s := by
  rcases hk with hk | hk | hk
  · obtain ⟨m, hn, h⟩ := V.loc
    obtain ⟨w, h1, h2⟩ := h x v hr hk
    exact wpAny_loadName_local V.kind hk hn h1 (Ok.same I h2)
  · obtain ⟨c, w, h1, h2, h3⟩ := V.cel x v hr (.inl hk)
    exact wpAny_loadName_cell V.kind hk h1 h2 (Ok.same I h3)
  · obtain ⟨c, w, h1, h2, h3⟩ := V.cel x v hr (.inr hk)
    exact wpAny_loadName_free V.kind hk h1 h2 (Ok.same I h3) hn

theorem kind2 {G : Prop} {k1 k2 : NameKind} {o : Option NameKind} (h1 : o = some k1) (h2 : o = some k2) (hne : k1 ≠ k2) : G := absurd (Option.some.inj (h1.symm.trans h2)) hne
theorem upd_get {r : Rho} {x y : String} {v u : V} {G : Prop} (h : upd r x v y = some u) (g1 : y = x → u = v → G) (g2 : y ≠ x → r y = some u → G) : G := by
  have h : (if y = x then some v else r y) = some u := h
  by_cases hy : y = x
  · rw [if_pos hy] at h; exact g1 hy (Option.some.inj h).symm
  · rw [if_neg hy] at h; exact g2 hy h
theorem upd_str {x y : String} {f : Str → Option Value} {w : Option Value} (hne : y ≠ x) : (if nm y = nm x then w else f (nm y)) = f (nm y) := if_neg fun q => hne (nm_inj q)
theorem own_but {env : Env} {r : Rho} {a : Addr} {o' : Obj} {h' : Heap} (V : EnvOK C σ s env r) (hs : Heap.SameBut a s.heap h') (e : h'.get? a = some o') (n : ¬ ValO o') : ∀ b ∈ ownOf env, b ∉ σ ∧ b ∉ C.X ∧ C.B.get? b = none ∧ ∃ o, h'.get? b = some o ∧ ¬ ValO o := fun b hb =>
  ⟨(V.own b hb).1, (V.own b hb).2.1, (V.own b hb).2.2.1, if hba : b = a then hba ▸ ⟨o', e, n⟩ else (V.own b hb).2.2.2.elim fun o g => ⟨o, (hs.2 b hba).trans g.1, g.2⟩⟩
theorem store_local {env : Env} {r : Rho} {x : String} {v : V} {y : Value} (V : EnvOK C σ s env r) (I : Inv C σ H s) (hy : VR C.X σ s.heap v y) (hk : env.kindOf (nm x) = some .local) :
    wpAny (model prog w) A (storeName env (nm x) y) (fun _ s' => StepW C [env.locals] σ s σ H s' ∧ EnvOK C σ s' env (upd r x v)) F0 s :=
  V.loc.elim fun m h => (V.own _ List.mem_cons_self).2.2.2.elim fun o g => wpAny_storeName_local hk h.1 (fun h' hn' hs' => hn'.elim fun o' q => q.elim fun es' q => q.elim fun ep' q =>
  have S := I.own (tk := s.toks + 1) (V.own _ List.mem_cons_self).1 (V.own _ List.mem_cons_self).2.1 (V.own _ List.mem_cons_self).2.2.1 g.1 g.2 hs' ⟨o', q.1⟩
  ⟨S, V.kind, V.globals, V.builtins, ⟨_, hn', fun z u hz hkz => upd_get hz (fun e1 e2 => ⟨y, by rw [e1]; exact if_pos rfl, e2 ▸ S.vr hy⟩) fun hne hz => (h.2 z u hz hkz).elim fun w' g => ⟨w', (upd_str hne).trans g.1, S.vr g.2⟩⟩,
    fun z u hz hkz => upd_get hz (fun e1 _ => hkz.elim (fun q => kind2 (o := env.kindOf (nm z)) (k1 := .local) (e1 ▸ hk) q (by decide)) fun q => kind2 (o := env.kindOf (nm z)) (k1 := .local) (e1 ▸ hk) q (by decide)) fun _ hz => (V.cel z u hz hkz).elim fun c g => g.elim fun w' g => ⟨c, w', g.1, g.2.1.sameBut hs' (V.above _ (mem_of_lookup g.1)), S.vr g.2.2⟩,
    fun z hkz => (V.has z hkz).elim fun c g => g.elim fun u g => ⟨c, u, g.1, g.2.sameBut hs' (V.above _ (mem_of_lookup g.1))⟩, own_but V hs' q.1 (notVal_dict q.2.1), V.apart, V.above⟩) (by rw [V.kind]; rfl)

theorem store_cell {env : Env} {r : Rho} {x : String} {v : V} {y : Value} (V : EnvOK C σ s env r) (I : Inv C σ H s) (hy : VR C.X σ s.heap v y) (hk : env.kindOf (nm x) = some .cell) :
    wpAny (model prog w) A (storeName env (nm x) y) (fun _ s' => StepW C (ownOf env) σ s σ H s' ∧ EnvOK C σ s' env (upd r x v)) F0 s :=
  (V.has _ hk).elim fun c hc => hc.elim fun v0 hc =>
  have hl : c ∈ ownOf env := List.mem_cons_of_mem _ (List.mem_map.mpr ⟨_, mem_of_lookup hc.1, rfl⟩)
  (V.own _ hl).2.2.2.elim fun o g => wpAny_storeName_cell V.kind hk hc.1 hc.2 (fun h' hn' hs' => hn'.elim fun o' q =>
  have S := I.own (tk := s.toks) (V.own _ hl).1 (V.own _ hl).2.1 (V.own _ hl).2.2.1 g.1 g.2 hs' ⟨o', q.1⟩
  ⟨S.weaken fun a ha => List.mem_singleton.mp ha ▸ hl, V.kind, V.globals, V.builtins,
    V.loc.elim fun m h => ⟨m, h.1.sameBut hs' (Ne.symm (V.above _ (mem_of_lookup hc.1))), fun z u hz hkz => upd_get hz (fun e1 _ => kind2 (o := env.kindOf (nm z)) (k1 := .cell) (e1 ▸ hk) hkz (by decide)) fun _ hz => (h.2 z u hz hkz).elim fun w' g => ⟨w', g.1, S.vr g.2⟩⟩,
    fun z u hz hkz => upd_get hz (fun e1 e2 => ⟨c, y, e1 ▸ hc.1, hn', e2 ▸ S.vr hy⟩) fun hne hz => (V.cel z u hz hkz).elim fun c' g => g.elim fun w' g => ⟨c', w', g.1, g.2.1.sameBut hs' fun q => hne (nm_inj (V.apart _ _ _ (q ▸ g.1) hc.1)), S.vr g.2.2⟩,
    fun z hkz => (V.has z hkz).elim fun c' g => g.elim fun u g => if hcc : c' = c then ⟨c', some y, g.1, hcc ▸ hn'⟩ else ⟨c', u, g.1, g.2.sameBut hs' hcc⟩, own_but V hs' q.1 (notVal_cell q.2), V.apart, V.above⟩)

theorem store_ok {env : Env} {r : Rho} {x : String} {v : V} {y : Value} (V : EnvOK C σ s env r) (I : Inv C σ H s) (hy : VR C.X σ s.heap v y) (hk : env.kindOf (nm x) = some .local ∨ env.kindOf (nm x) = some .cell) :
    wpAny (model prog w) A (storeName env (nm x) y) (fun _ s' => StepW C (ownOf env) σ s σ H s' ∧ EnvOK C σ s' env (upd r x v)) F0 s := by
  rcases hk with hk | hk
  · exact wpAny_mono (store_local V I hy hk) (fun _ _ h => ⟨h.1.weaken fun a ha => by rw [List.mem_singleton.mp ha]; exact List.mem_cons_self, h.2⟩) fun _ _ h => h
  · exact store_cell V I hy hk
end Mine
end

section
set_option Elab.async false
set_option linter.all false
namespace Mine
open PySem PySem.W PyProof.Rows PySem.Spec PySem.Calls

variable {C : Cx} {prog : Program} {w : World} {A : Around} {σ : List Addr} {H : Hp} {s : Shared} {E : Value → Shared → Prop}

theorem Inv.ext {h' : Heap} {tk : Nat} (I : Inv C σ H s) (h : Heap.ExtBut s.heap.objs.size s.heap h') : Step C σ s σ H { s with heap := h', toks := tk } :=
  I.keeps (fun b o e => h b o (fun q => by subst q; rw [fresh_at] at e; cases e) e) rfl rfl

theorem lim_le {k : Nat} (h : k ≤ lim) : k ≤ 2 * lim := Nat.le_trans h (Nat.le_mul_of_pos_left _ (by decide))
/- join -/
theorem join_mk (sep : List Nat) : ∀ l : List (List Nat), Str.join (mkS sep) (l.map mkS) = mkS (glue sep l)
  | [] => rfl
  | [x] => by simp [glue, Str.join]
  | x :: y :: r => by
    have ih := join_mk sep (y :: r)
    have e : glue sep (x :: y :: r) = x ++ sep ++ glue sep (y :: r) := by simp [glue, List.intersperse]
    rw [e, ← mkS_app, ← mkS_app, ← ih]
    rfl
theorem glue_len (sep : List Nat) : ∀ l : List (List Nat), (glue sep l).length ≤ (l.map (·.length)).sum + l.length * sep.length
  | [] => Nat.zero_le _
  | [x] => by simp [glue]
  | x :: y :: r => by
    have ih := glue_len sep (y :: r)
    have e : glue sep (x :: y :: r) = x ++ sep ++ glue sep (y :: r) := by simp [glue, List.intersperse]
    rw [e, List.length_append, List.length_append, List.map_cons, List.sum_cons, List.length_cons, Nat.add_mul, Nat.one_mul, Nat.add_assoc, Nat.add_assoc]
    refine Nat.add_le_add_left ?_ _
    rw [← Nat.add_assoc, Nat.add_comm (List.sum _ + _)]
    exact Nat.add_le_add_left ih _
theorem join_ok {sep : List Nat} {a : Nat} {xs : List V} {v : V} {x y : Value} (e : hGet H a = some xs) (e2 : joinOf sep xs = some v) (I : Inv C σ H s) (hx : VR C.X σ s.heap (.str sep) x) (hy : VR C.X σ s.heap (.ref a) y) :
    wpAny (model prog w) A (call (.builtin "str.join") [x, y]) (Ok C σ s H v) F0 s :=
  bindE e2 fun l e3 e4 => chkE e4 fun hl e4 => someE (G := fun v => wpAny (model prog w) A (call (.builtin "str.join") [x, y]) (Ok C σ s H v) F0 s) e4 (VR.strE hx fun t _ => I.listE (G := fun y => wpAny (model prog w) A (call (.builtin "str.join") [.str (mkS sep) t, y]) (Ok C σ s H (.str (glue sep l))) F0 s) e hy fun p vs n1 _ g1 r1 _ _ => by
  obtain ⟨q, hq, hq2⟩ := strs_are _ _ _ e3 r1
  have hvs : vs = (strValues q).toArray := by rw [← Array.toList_inj, hq]
  have hm : (l.map mkS).map (·.length) = l.map (·.length) := by
    rw [List.map_map]
    exact List.map_congr_left fun a _ => mkS_len a
  rw [Nat.mul_comm] at hl
  refine SC.join (l := q) (texts := l.map mkS) (hvs ▸ isList_of g1) hq2 ?_ (fun t' k => ?_)
  · unfold JoinOk Builtin.Str.tooLong
    rw [StrLaws.joinTotal, hm, mkS_len, List.length_map, Bool.not_eq_true', decide_eq_false_iff_not]
    exact Nat.not_lt.mpr (sizeLe rfl (lim_le hl))
  · have : Txt.join (mkS sep) (l.map mkS) = mkS (glue sep l) := by
      show Builtin.Str.glued _ _ = _
      rw [StrLaws.glued_eq_join, join_mk]
    rw [this]
    exact Ok.tok I (VR.mkStr (Nat.le_trans (glue_len sep l) (lim_le hl))))

/- find -/
theorem gives_find4 (x y : Str) (i j : Int) (t u v v' : Tok) : Gives (Builtin.«str.find» ⟨[.str x t, .str y u, .int i v, .int j v'], []⟩)
    (.int (match Builtin.Str.occurrences x y (fromIndex x.length i) (min (fromIndex x.length j) x.length) 1 with | k :: _ => (k : Int) | [] => -1)) := by
  show Gives (match Builtin.Str.occurrences x y (fromIndex x.length i) (min (fromIndex x.length j) x.length) 1 with | k :: _ => retInt k | [] => (do rule "str.find.not-found"; retInt (-1))) _
  cases Builtin.Str.occurrences x y (fromIndex x.length i) (min (fromIndex x.length j) x.length) 1 with
  | nil => exact .rule (.of_eq rfl)
  | cons k _ => exact .of_eq rfl
theorem occ_from (x y : Str) (lo hi : Nat) :
    (Builtin.Str.occurrences x y lo hi 1 = [] ∧ ∀ i, lo ≤ i → ¬ StrLaws.At x y hi i) ∨
    ∃ i r, Builtin.Str.occurrences x y lo hi 1 = i :: r ∧ lo ≤ i ∧ StrLaws.At x y hi i ∧ ∀ k, lo ≤ k → k < i → ¬ StrLaws.At x y hi k := by
  rw [StrLaws.occ_eq]
  rcases StrLaws.occ_first x y hi 1 (Nat.le_refl 1) (List.range' lo (hi + 1 - lo)) lo (fun i hi => by have := List.mem_range'_1.mp hi; (first | lia | omega)) with ⟨h0, hn⟩ | ⟨pre, a, post, e, h0, ha, hn⟩
  · refine .inl ⟨by rw [h0], fun i hlo hi' => ?_⟩
    exact hn i (by have := hi'.1; rw [List.mem_range'_1]; (first | lia | omega)) hi'
  · have hs := StrLaws.range'_split_from e
    refine .inr ⟨a, ((forIn (List.range' lo (hi + 1 - lo)) ((#[] : Array Nat), lo) (StrLaws.occBody x y hi 1)).run.fst.toList).tail, ?_, hs.1, ha, fun k hk0 hk => hn k (hs.2 k hk0 hk)⟩
    generalize (forIn (List.range' lo (hi + 1 - lo)) ((#[] : Array Nat), lo) (StrLaws.occBody x y hi 1)).run.fst = arr at h0
    have h1 : arr.toList[0]? = some a := by simpa using h0
    cases hL : arr.toList with
    | nil => rw [hL] at h1; cases h1
    | cons b t => rw [hL] at h1; simp at h1; rw [h1]; rfl
theorem at_one (l : List Nat) (c hi i : Nat) (h : hi ≤ l.length) : StrLaws.At (mkS l) (mkS [c]) hi i ↔ i < hi ∧ l[i]? = some c := by
  have e := StrLaws.subAt_one (mkS l) c i
  rw [mkS_len] at e
  unfold StrLaws.At
  have h1 : (mkS [c]).length = 1 := rfl
  rw [h1]
  have e : (i + 1 ≤ l.length ∧ Builtin.Str.subAt (mkS l) (mkS [c]) i = true) ↔ l[i]? = some c := e
  constructor
  · rintro ⟨a, b⟩
    exact ⟨by (first | lia | omega), e.mp ⟨by (first | lia | omega), b⟩⟩
  · rintro ⟨a, b⟩
    exact ⟨by (first | lia | omega), (e.mpr b).2⟩
theorem find_is (l : List Nat) (c k j : Nat) :
    (match Builtin.Str.occurrences (mkS l) (mkS [c]) k (min j l.length) 1 with | i :: _ => (i : Int) | [] => -1) = findIn1 c l k j := by
  unfold findIn1
  have hm : min j l.length ≤ l.length := by (first | lia | omega)
  rcases occ_from (mkS l) (mkS [c]) k (min j l.length) with ⟨h0, hn⟩ | ⟨i, r, h0, hk, ha, hn⟩
  · rw [h0]
    have : ((l.take j).drop k).findIdx? (· == c) = none := by
      rw [List.findIdx?_eq_none_iff]
      intro x hx
      obtain ⟨m, hm', e⟩ := List.mem_iff_getElem.mp hx
      simp only [List.length_drop, List.length_take] at hm'
      have hq := hn (k + m) (by (first | lia | omega))
      rw [at_one _ _ _ _ hm] at hq
      simp only [beq_eq_false_iff_ne]
      intro hxc
      refine hq ⟨by (first | lia | omega), ?_⟩
      rw [← hxc, ← e]
      simp only [List.getElem_drop, List.getElem_take]
      exact List.getElem?_eq_getElem _
    rw [this]
  · rw [h0]
    rw [at_one _ _ _ _ hm] at ha
    have : ((l.take j).drop k).findIdx? (· == c) = some (i - k) := by
      rw [List.findIdx?_eq_some_iff_getElem]
      have hlt : i - k < ((l.take j).drop k).length := by simp only [List.length_drop, List.length_take]; (first | lia | omega)
      refine ⟨hlt, ?_, fun m hm' => ?_⟩
      · simp only [List.getElem_drop, List.getElem_take, beq_iff_eq]
        have h2 := ha.2
        obtain ⟨h3, h4⟩ := List.getElem?_eq_some_iff.mp h2
        rw [← h4]
        congr 1
        (first | lia | omega)
      · have hq := hn (k + m) (by (first | lia | omega)) (by (first | lia | omega))
        rw [at_one _ _ _ _ hm] at hq
        simp only [List.getElem_drop, List.getElem_take, beq_iff_eq]
        intro he
        refine hq ⟨by (first | lia | omega), ?_⟩
        rw [← he]
        exact List.getElem?_eq_getElem _
    rw [this]
    show (i : Int) = _
    simp only
    (first | lia | omega)
theorem from_nn (n : Nat) {k : Int} (h : 0 ≤ k) : fromIndex n k = k.toNat := by unfold fromIndex; rw [if_neg (Int.not_lt.mpr h), Int.max_eq_right h]
theorem find_ok {l : List Nat} {c : Nat} {k j : Int} {x y z z' : Value} (hk : 0 ≤ k) (hj : 0 ≤ j) (I : Inv C σ H s) (hx : VR C.X σ s.heap (.str l) x) (hy : VR C.X σ s.heap (.str [c]) y) (hz : VR C.X σ s.heap (.int k) z) (hz' : VR C.X σ s.heap (.int j) z') :
    wpAny (model prog w) A (call (.builtin "str.find") [x, y, z, z']) (Ok C σ s H (.int (findIn1 c l k.toNat j.toNat))) F0 s :=
  VR.strE hx fun t _ => VR.strE hy fun u _ => VR.intE hz fun v => VR.intE hz' fun v' =>
  call_gives F.slot_str_find (typeIs_str _ _ _) F.entry_str_find (F.args_str_find_4 _ _ _ _) (gives_find4 _ _ k j t u v v') (by
    rw [from_nn _ hk, from_nn _ hj, mkS_len, find_is]
    exact Ok.tok I (.int _ _))

/- replace of what is not there -/
theorem replace_ok {l r : List Nat} {c : Nat} {x y z : Value} (hc : l.contains c = false) (I : Inv C σ H s) (hx : VR C.X σ s.heap (.str l) x) (hy : VR C.X σ s.heap (.str [c]) y) (hz : VR C.X σ s.heap (.str r) z) :
    wpAny (model prog w) A (call (.builtin "str.replace") [x, y, z]) (Ok C σ s H (.str l)) F0 s :=
  VR.strE hx fun t hl => VR.strE hy fun u _ => VR.strE hz fun v _ => by
  have ho : Builtin.Str.occurrences (mkS l) (mkS [c]) 0 (mkS l).length ((mkS l).length + 1) = [] := by
    rcases StrLaws.occ_head (mkS l) (mkS [c]) ((mkS l).length + 1) (Nat.succ_le_succ (Nat.zero_le _)) with ⟨h0, _⟩ | ⟨i, _, _, ha, _⟩
    · exact h0
    · rw [mkS_len, at_one _ _ _ _ (Nat.le_refl _)] at ha
      have := List.mem_of_getElem? ha.2
      simp [this] at hc
  refine call_gives F.slot_str_replace (typeIs_str _ _ _) F.entry_str_replace (F.args_str_replace_3 _ _ _) (gives_str_replace (mkS l) (mkS [c]) (mkS r) t u v (fun h => by rw [ho] at h; simp at h)) ?_
  rw [ho]
  exact Ok.same I (VR.mkStr hl)

/- += -/
noncomputable def IaddOK (C : Cx) (prog : Program) (w : World) (A : Around) (σ : List Addr) (H : Hp) (s : Shared) (a b v : V) (H' : Hp) : Prop := ∀ {x y}, VR C.X σ s.heap a x → VR C.X σ s.heap b y → wpAny (model prog w) A (inplaceOp .Add x y) (Ok C σ s H' v) F0 s
theorem iadd_ok {a b v : V} {H' : Hp} (hab : augOK a b = true) (e : pBin .Add a b H = some (v, H')) (I : Inv C σ H s) : IaddOK C prog w A σ H s a b v H' := by
  cases a with
  | int i => exact mapR (G := fun v H' => IaddOK C prog w A σ H s (.int i) b v H') e fun j hj => intE (G := fun b => IaddOK C prog w A σ H s (.int i) b (.int (i + j)) H) hj fun ha hb => VR.intE ha fun _ => VR.intE hb fun _ => P.iadd_int (Ok.tok I (.int _ _))
  | str i => exact bindE e fun j hj e => strE (G := fun b => IaddOK C prog w A σ H s (.str i) b v H') hj (chkE e fun hl e => someR (G := fun v H' => IaddOK C prog w A σ H s (.str i) (.str j) v H') e fun ha hb => VR.strE ha fun _ _ => VR.strE hb fun _ _ => iadd_str (fun t' tk => by rw [mkS_app]; exact Ok.tok I (.str _ _ (str2 hl).2)) (str2 hl).1)
  | _ => exact noB hab

theorem neg_ok {i : Int} {x : Value} (I : Inv C σ H s) (hx : VR C.X σ s.heap (.int i) x) : wpAny (model prog w) A (unaryOp .USub x) (Ok C σ s H (.int (-i))) F0 s := VR.intE hx fun t => P.neg_int (Ok.tok I (.int _ _))
theorem not_ok {v : V} {b : Bool} {x : Value} (e : truth v H = some b) (I : Inv C σ H s) (hx : VR C.X σ s.heap v x) : wpAny (model prog w) A (unaryOp .Not x) (Ok C σ s H (.bool (!b))) F0 s := by
  show wpAny _ A (holding [x] _) _ _ s
  refine wpAny_holding ?_
  show wpAny _ A (truthy x >>= fun b => pure (Value.bool !b)) _ _ s
  exact wpAny_bind (truth_ok e I hx fun tk => wpAny_pure (Ok.tok I (.bool _)))
end Mine
end

section
set_option Elab.async false
set_option linter.all false
namespace Mine
open PySem PySem.W PyProof.Rows PySem.Spec PySem.Calls

theorem nameOf_some {x : Str} {t : String} (h : nameOf x = some t) : nm t = x :=
  iteP (c := Str.ofString (String.ofList (x.cps.toList.map Char.ofNat)) = x) h fun e h => Option.some.inj h ▸ e

noncomputable def dbg (x : Str) : Prop := (x == ("__debug__" : Str)) = false
noncomputable def cdi (x : Str) : Prop := (x == ("__classdict__" : Str)) = false

abbrev RE (m : Nat) (sc : Scope) (x : Expr) (a : E) : Prop := cE m sc x = some a
abbrev REs (m : Nat) (sc : Scope) (x : List Expr) (a : List E) : Prop := cEs m sc x = some a
abbrev REo (m : Nat) (sc : Scope) (x : Option Expr) (a : Option E) : Prop := cEo m sc x = some a
abbrev RFs (m : Nat) (sc : Scope) (x : List Expr) (a : List E) : Prop := cFs m sc x = some a

inductive Rep (c : Str) (o : Expr) : Expr → Prop
  | mk {r ap x k q a k2 q2 cp} : r = nm "replace" → x = c → (ap.endLine == cp.line) = true → Rep c o (.Call (.Attribute o r ap) [.Constant (.str x) k q, .Constant (.str a) k2 q2] [] cp)
inductive isJG (sc : Scope) : Expr → Prop
  | mk {d k p m ap elt s2 p2 ch p3 sc' gp cp o2 p1 o1} : jgEnds sc sc' d m ch s2 ap cp = true → o1 = .Name (nm "s") p1 → Rep (nm "-") o2 elt → Rep (nm "\\") o1 o2 → isJG sc (.Call (.Attribute (.Constant (.str d) k p) m ap) [.GeneratorExp elt [⟨.Name s2 p2, .Name ch p3, [], 0⟩] sc' gp] [] cp)
structure ReOK (sc : Scope) (x : Str) (m : Str) (ap : Pos) (la : Arguments) (ls : Scope) (cp : Pos) : Prop where
  glob : isGlob sc x = true
  x : x = nm "_twin_re_1"
  m : m = nm "sub"
  d : la.defaults = []
  kd : la.kw_defaults = []
  fr : ∀ x ∈ ls.names, x.2 ≠ .free
  ln : (ap.endLine == cp.line) = true
structure CompOK (m : Nat) (sc sc' : Scope) (elt t it : Expr) (ifs : List Expr) (a : E) (ts : List String) (one : Bool) (fv : List String) (b : E) (c : List E) : Prop where
  k : sc'.kind = .function
  nc : ∀ x ∈ sc'.names, x.2 ≠ .cell
  nl : ∀ x ∈ sc'.names, x.2 = .local → sc'.names.lookup x.1 = some .local
  nf : ∀ x ∈ sc'.names, x.2 = .free → isDeref sc x.1 = true ∧ sc'.names.lookup x.1 = some .free
  ng : isGlob sc' (nm "_twin_re_1") = false
  t : targetsOf sc' t = some (ts, one)
  fv : freesOf sc'.names = some fv
  e : RE m sc' elt a
  it : RE m sc it b
  i : REs m sc' ifs c

inductive RE1 (m : Nat) (sc : Scope) : Expr → E → Prop
  | cN {k p} : RE1 m sc (.Constant .none k p) .cN
  | cB {b k p} : RE1 m sc (.Constant (.bool b) k p) (.cB b)
  | cI {i k p} : RE1 m sc (.Constant (.int i) k p) (.cI i)
  | cS {s k p} : RE1 m sc (.Constant (.str s) k p) (.cS s.cps.toList)
  | var {t p} : (isLocal sc (nm t) || isDeref sc (nm t)) = true → dbg (nm t) → cdi (nm t) → RE1 m sc (.Name (nm t) p) (.var t)
  | bin {l r op p a b} : RE m sc l a → RE m sc r b → RE1 m sc (.BinOp l op r p) (.bin op a b)
  | neg {x p a} : RE m sc x a → RE1 m sc (.UnaryOp .USub x p) (.neg a)
  | not_ {x p a} : RE m sc x a → RE1 m sc (.UnaryOp .Not x p) (.not_ a)
  | cmp1 {l op r p a b} : RE m sc l a → RE m sc r b → RE1 m sc (.Compare l [op] [r] p) (.cmp1 op a b)
  | cmp2 {l o1 o2 x y p a b c} : RE m sc l a → RE m sc x b → RE m sc y c → RE1 m sc (.Compare l [o1, o2] [x, y] p) (.cmp2 o1 o2 a b c)
  | and_ {es p l} : REs m sc es l → RE1 m sc (.BoolOp .And es p) (.and_ l)
  | or_ {es p l} : REs m sc es l → RE1 m sc (.BoolOp .Or es p) (.or_ l)
  | ite {x y z p a b c} : RE m sc x a → RE m sc y b → RE m sc z c → RE1 m sc (.IfExp x y z p) (.ite a b c)
  | joinGen {o at_ ap args cp} : isJG sc (.Call (.Attribute o at_ ap) args [] cp) → strOf o = [45] → RE1 m sc (.Call (.Attribute o at_ ap) args [] cp) (.joinGen (.cS (strOf o)) (.var "chunks"))
  | resub {x xp at_ ap la lb ls lp y cp a} : ReOK sc x at_ ap la ls cp → RE m sc y a → RE1 m sc (.Call (.Attribute (.Name x xp) at_ ap) [.Lambda la lb ls lp, y] [] cp) (.resub a)
  | meth {o t ap args cp a l} : bare o = true → (ap.endLine == cp.line) = true → args.length < 29 → RE m sc o a → REs m sc args l → RE1 m sc (.Call (.Attribute o (nm t) ap) args [] cp) (.meth a t l)
  | callG {t p args cp l} : args.length < 29 → dbg (nm t) → isGlob sc (nm t) = true → REs m sc args l → RE1 m sc (.Call (.Name (nm t) p) args [] cp) (.callG t l)
  | callL {t p args cp l} : args.length < 29 → dbg (nm t) → isLocal sc (nm t) = true → REs m sc args l → RE1 m sc (.Call (.Name (nm t) p) args [] cp) (.callL t l)
  | slc {o lo hi sp p a b c} : RE m sc o a → REo m sc lo b → REo m sc hi c → RE1 m sc (.Subscript o (.Slice lo hi none sp) p) (.slc a b c)
  | sub {o i p a b} : RE m sc o a → RE m sc i b → RE1 m sc (.Subscript o i p) (.sub a b)
  | lst {es p l} : REs m sc es l → RE1 m sc (.List es p) (.lst l)
  | tup {es k p l} : REs m sc es l → RE1 m sc (.Tuple es k p) (.tup l)
  | comp {elt t it ifs sc' p a ts one fv b c} : CompOK m sc sc' elt t it ifs a ts one fv b c → RE1 m sc (.ListComp elt [⟨t, it, ifs, 0⟩] sc' p) (.comp a ts one fv b c)
  | fstr {es p l} : 2 ≤ es.length → RFs m sc es l → RE1 m sc (.JoinedStr es p) (.fstr l)
  | attr {o t p a} : bare o = true → RE m sc o a → RE1 m sc (.Attribute o (nm t) p) (.attr a t)

@[elab_as_elim] theorem conStrE {P : Expr → Prop} {e : Expr} {k : Str → Bool} (h : conStr e k = true) (g : ∀ s a b, k s = true → P (.Constant (.str s) a b)) : P e := by
  cases e with
  | Constant c a b => cases c with
    | str s => exact g s a b h
    | _ => exact noB h
  | _ => exact noB h
@[elab_as_elim] theorem conIntE {P : Expr → Prop} {e : Expr} (h : conInt e = true) (g : ∀ i a b, P (.Constant (.int i) a b)) : P e := by
  cases e with
  | Constant c a b => cases c with
    | int s => exact g s a b
    | _ => exact noB h
  | _ => exact noB h
@[elab_as_elim] theorem nameIsE {P : Expr → Prop} {e : Expr} {k : Str → Pos → Bool} (h : nameIs e k = true) (g : ∀ x p, k x p = true → P (.Name x p)) : P e := by
  cases e with
  | Name x p => exact g x p h
  | _ => exact noB h
@[elab_as_elim] theorem attrIsE {P : Expr → Prop} {e : Expr} {k : Expr → Str → Pos → Bool} (h : attrIs e k = true) (g : ∀ o m p, k o m p = true → P (.Attribute o m p)) : P e := by
  cases e with
  | Attribute o m p => exact g o m p h
  | _ => exact noB h
@[elab_as_elim] theorem nilE {α : Type} {P : List α → Prop} {l : List α} (h : l.isEmpty = true) (g : P []) : P l := by
  cases l with
  | nil => exact g
  | cons _ _ => exact noB h
@[elab_as_elim] theorem callIsE {P : Expr → Prop} {e : Expr} {k : Expr → List Expr → Pos → Bool} (h : callIs e k = true) (g : ∀ f as p, k f as p = true → P (.Call f as [] p)) : P e := by
  cases e with
  | Call f as ks p => exact andE h fun h1 h2 => nilE h1 (g f as p h2)
  | _ => exact noB h
@[elab_as_elim] theorem genIsE {P : Expr → Prop} {e : Expr} {k : Expr → List Comprehension → Scope → Bool} (h : genIs e k = true) (g : ∀ a b c p, k a b c = true → P (.GeneratorExp a b c p)) : P e := by
  cases e with
  | GeneratorExp a b c p => exact g a b c p h
  | _ => exact noB h
@[elab_as_elim] theorem lamIsE {P : Expr → Prop} {e : Expr} {k : Arguments → Scope → Bool} (h : lamIs e k = true) (g : ∀ a b s p, k a s = true → P (.Lambda a b s p)) : P e := by
  cases e with
  | Lambda a b s p => exact g a b s p h
  | _ => exact noB h
@[elab_as_elim] theorem tupIsE {P : Expr → Prop} {e : Expr} {k : List Expr → Bool} (h : tupIs e k = true) (g : ∀ es a b, k es = true → P (.Tuple es a b)) : P e := by
  cases e with
  | Tuple es a b => exact g es a b h
  | _ => exact noB h
@[elab_as_elim] theorem oneIsE {α : Type} {P : List α → Prop} {l : List α} {k : α → Bool} (h : oneIs l k = true) (g : ∀ a, k a = true → P [a]) : P l := by
  cases l with
  | nil => exact noB h
  | cons a l => cases l with
    | nil => exact g a h
    | cons _ _ => exact noB h
@[elab_as_elim] theorem genOneE {P : List Comprehension → Prop} {l : List Comprehension} {k : Expr → Expr → Bool} (h : genOne l k = true) (g : ∀ a b, k a b = true → P [⟨a, b, [], 0⟩]) : P l := by
  cases l with
  | nil => exact noB h
  | cons x l => cases l with
    | nil =>
      cases x with
      | mk a b c d => exact andE h fun h1 h => andE h fun h2 h => nilE (P := fun c => P [⟨a, b, c, d⟩]) h1 ((eq_of_beq h2 : d = 0) ▸ g a b h)
    | cons _ _ => exact noB h
@[elab_as_elim] theorem twoIsE {α : Type} {P : List α → Prop} {l : List α} {k : α → α → Bool} (h : twoIs l k = true) (g : ∀ a b, k a b = true → P [a, b]) : P l := by
  cases l with
  | nil => exact noB h
  | cons a l => cases l with
    | nil => exact noB h
    | cons b l => cases l with
      | nil => exact g a b h
      | cons _ _ => exact noB h
theorem dash_is : (Str.ofString "-").cps.toList = [45] := by decide +kernel

theorem repIsE {c : Str} {e : Expr} {k : Expr → Bool} {P : Prop} (h : repIs c e k = true) (g : ∀ o, k o = true → Rep c o e → P) : P :=
  callIsE (P := fun e => (∀ o, k o = true → Rep c o e → P) → P) h (fun _ _ _ h => attrIsE h fun _ _ _ h => twoIsE h fun _ _ h => conStrE h fun _ _ _ h => conStrE h fun _ _ _ h g => andE h fun h1 h => andE h fun h2 h => andE h fun h3 h => g _ h (.mk (eq_of_beq h1) (eq_of_beq h2) h3)) g
theorem sIsE {e : Expr} (h : sIs e = true) : ∃ p, e = .Name (nm "s") p := nameIsE (P := fun e => ∃ p, e = .Name (nm "s") p) h fun x p hx => ⟨p, congrArg (Expr.Name · p) (eq_of_beq hx)⟩
theorem jg_ok {m : Nat} {sc : Scope} {o : Expr} {at_ : Str} {ap : Pos} {args : List Expr} {cp : Pos} (hj : jgLook sc o at_ ap args cp = true) : RE1 m sc (.Call (.Attribute o at_ ap) args [] cp) (.joinGen (.cS (strOf o)) (.var "chunks")) :=
  conStrE hj fun d _ _ hj => oneIsE hj fun _ hj => genIsE hj fun _ _ _ _ hj => genOneE hj fun _ _ hj => nameIsE hj fun _ _ hj => nameIsE hj fun _ _ hj => repIsE hj fun _ hj r2 => repIsE hj fun _ hj r1 => andE hj fun h1 hj => (sIsE h1).elim fun _ h1 => .joinGen (.mk hj h1 r2 r1) (andE hj fun hd _ => (congrArg (fun s : Str => s.cps.toList) (eq_of_beq hd)).trans dash_is)
theorem rs_ok {m : Nat} {sc : Scope} {o : Expr} {at_ : Str} {ap : Pos} {args : List Expr} {cp : Pos} {a : E} (hj : rsLook sc o at_ ap args cp = true) : cE m sc (sndE args) = some a → RE1 m sc (.Call (.Attribute o at_ ap) args [] cp) (.resub a) :=
  nameIsE hj fun x _ hj => twoIsE hj fun l _ hj => lamIsE hj fun _ _ _ _ hc h => .resub (by
      simp only [Bool.and_eq_true, beq_iff_eq, List.isEmpty_iff, List.all_eq_true, bne_iff_ne] at hc
      exact ⟨hc.1.1.1.1.1.1, hc.1.1.1.1.1.2, hc.1.1.1.1.2, hc.1.1.1.2, hc.1.1.2, hc.1.2, by rw [hc.2]; exact beq_self_eq_true _⟩) h

theorem cAttrCall_ok {m : Nat} {sc : Scope} {o : Expr} {at_ : Str} {ap : Pos} {args : List Expr} {cp : Pos} {e : E} (h : cAttrCall (cE m sc) (cEs m sc) sc o at_ ap args cp = some e) : RE1 m sc (.Call (.Attribute o at_ ap) args [] cp) e := by
  unfold cAttrCall at h
  by_cases hj : jgLook sc o at_ ap args cp = true
  · rw [if_pos hj] at h
    exact someE h (jg_ok hj)
  · rw [if_neg hj] at h
    by_cases hr : rsLook sc o at_ ap args cp = true
    · rw [if_pos hr] at h
      exact mapE h fun a h1 => rs_ok hr h1
    · rw [if_neg hr] at h
      exact iteP h fun hc h => andE hc fun hc h3 => andE hc fun h1 h2 => bindE h fun t ht h => bindE h fun a ha h => mapE h fun l hl => nameOf_some ht ▸ .meth h1 h2 (of_decide_eq_true h3) ha hl
theorem notT {a : Bool} (h : (!a) = true) : a = false := by cases a <;> first | rfl | exact noB h
theorem cNameCall_ok {m : Nat} {sc : Scope} {x : Str} {p : Pos} {args : List Expr} {cp : Pos} {e : E} (h : cNameCall (cEs m sc) sc x args = some e) : RE1 m sc (.Call (.Name x p) args [] cp) e :=
  iteP h fun hc h => andE hc fun h1 h2 => bindE h fun t ht h => bindE h fun l hl h => nameOf_some ht ▸ (by
    have ht' := nameOf_some ht
    subst ht'
    by_cases hg : isGlob sc (nm t) = true
    · rw [if_pos hg] at h
      exact someE h (.callG (of_decide_eq_true h1) (notT h2) hg hl)
    · rw [if_neg hg] at h
      exact iteP h fun hg h => someE h (.callL (of_decide_eq_true h1) (notT h2) hg hl) : RE1 m sc (.Call (.Name (nm t) p) args [] cp) e)
theorem cCmpE_ok {m : Nat} {sc : Scope} {l : Expr} {ops : List CmpOp} {rs : List Expr} {p : Pos} {e : E} (h : cCmpE (cE m sc) l ops rs = some e) : RE1 m sc (.Compare l ops rs p) e := by
  cases ops with
  | nil => exact no h
  | cons o1 ops => cases rs with
    | nil => exact no h
    | cons b rs => cases ops with
      | nil => cases rs with
        | nil => exact bindE h fun a h1 h => mapE h fun b h2 => .cmp1 h1 h2
        | cons _ _ => exact no h
      | cons o2 ops => cases rs with
        | nil => exact no h
        | cons c rs => cases ops with
          | nil => cases rs with
            | nil => exact bindE h fun a h1 h => bindE h fun b h2 h => mapE h fun c h3 => .cmp2 h1 h2 h3
            | cons _ _ => exact no h
          | cons _ _ => exact no h
theorem cComp_ok {m : Nat} {sc sc' : Scope} {elt t it : Expr} {ifs : List Expr} {p : Pos} {e : E} (h : cComp (cE m sc) (cE m sc') (cEs m sc') sc sc' elt t it ifs = some e) : RE1 m sc (.ListComp elt [⟨t, it, ifs, 0⟩] sc' p) e :=
  iteP h fun hc h => bindP h fun ts one h1 h => bindE h fun fv h2 h => bindE h fun a h3 h => bindE h fun b h4 h => mapE h fun c h5 => .comp (by
    simp only [Bool.and_eq_true, beq_iff_eq, List.all_eq_true, Bool.or_eq_true, bne_iff_ne, Bool.not_eq_true'] at hc
    exact ⟨hc.1.1.1, fun x hx => (hc.1.2 x hx).1.1, fun x hx q => (hc.1.2 x hx).1.2.resolve_left fun z => z q, fun x hx q => (hc.1.2 x hx).2.resolve_left fun z => z q, hc.1.1.2, h1, h2, h3, h4, h5⟩)

theorem cSubs_ok {m : Nat} {sc : Scope} {o i : Expr} {p : Pos} {e : E} (h : cSubs (cE m sc) (cEo m sc) o i = some e) : RE1 m sc (.Subscript o i p) e := by
  have key : ((cE m sc o).bind fun a => (cE m sc i).map fun b => E.sub a b) = some e → RE1 m sc (.Subscript o i p) e := fun h => bindE h fun a h1 h => mapE h fun b h2 => .sub h1 h2
  cases i with
  | Slice lo hi st sp => cases st with
    | none => exact bindE h fun a h1 h => bindE h fun b h2 h => mapE h fun c h3 => .slc h1 h2 h3
    | some _ => exact no h
  | _ => exact key h

theorem RE.view {m : Nat} {sc : Scope} {x : Expr} {e : E} (h : RE m sc x e) : RE1 (m - 1) sc x e := by
  cases m with
  | zero => exact no h
  | succ n =>
  cases x with
  | Constant c k p => cases c with
    | none => exact someE (G := RE1 n sc _) h .cN
    | bool b => exact someE (G := RE1 n sc _) h .cB
    | int i => exact someE (G := RE1 n sc _) h .cI
    | str s => exact someE (G := RE1 n sc _) h .cS
    | _ => exact no h
  | Name x p => exact iteP h fun hc h => mapE (G := RE1 n sc _) h fun t ht => andE hc fun hc h3 => andE hc fun h1 h2 => nameOf_some ht ▸ .var (nameOf_some ht ▸ h1) (nameOf_some ht ▸ notT h2) (nameOf_some ht ▸ notT h3)
  | BinOp l op r p => exact bindE h fun a h1 h => mapE (G := RE1 n sc _) h fun b h2 => .bin h1 h2
  | UnaryOp op x p => cases op with
    | USub => exact mapE (G := RE1 n sc _) h fun a h1 => .neg h1
    | Not => exact mapE (G := RE1 n sc _) h fun a h1 => .not_ h1
    | _ => exact no h
  | Compare l ops rs p => exact cCmpE_ok h
  | BoolOp op es p => cases op with
    | And => exact mapE (G := RE1 n sc _) h fun a h1 => .and_ h1
    | Or => exact mapE (G := RE1 n sc _) h fun a h1 => .or_ h1
  | IfExp c a b p => exact bindE h fun a h1 h => bindE h fun b h2 h => mapE (G := RE1 n sc _) h fun c h3 => .ite h1 h2 h3
  | Call g args kws cp =>
    refine iteP h fun hk h => nilE (P := fun kws => RE1 n sc (.Call g args kws cp) e) hk ?_
    cases g with
    | Attribute o m ap => exact cAttrCall_ok h
    | Name x p => exact cNameCall_ok h
    | _ => exact no h
  | Subscript o i p => exact cSubs_ok h
  | List es p => exact mapE (G := RE1 n sc _) h fun a h1 => .lst h1
  | Tuple es k p => exact mapE (G := RE1 n sc _) h fun a h1 => .tup h1
  | ListComp elt gs sc' p => cases gs with
    | nil => exact no h
    | cons g gs => cases gs with
      | nil =>
        cases g with
        | mk t it ifs asy => exact iteP h fun ha h => (eq_of_beq ha : asy = 0) ▸ cComp_ok h
      | cons _ _ => exact no h
  | JoinedStr es p => exact iteP h fun hc h => mapE (G := RE1 n sc _) h fun a h1 => .fstr (of_decide_eq_true hc) h1
  | Attribute o m p => exact iteP h fun hc h => bindE h fun t ht h => mapE (G := RE1 n sc _) h fun a h1 => nameOf_some ht ▸ .attr hc h1
  | _ => exact no h

@[elab_as_elim] theorem REs.view {m : Nat} {sc : Scope} {G : List Expr → List E → Prop} {xs : List Expr} {as : List E} (h : REs m sc xs as) (g0 : G [] []) (g1 : ∀ x a xs as, RE (m - 1) sc x a → REs (m - 1) sc xs as → G (x :: xs) (a :: as)) : G xs as := by
  cases m with
  | zero => exact no h
  | succ n => cases xs with
    | nil => exact someE h g0
    | cons x xs => exact bindE h fun a h1 h => mapE h fun l h2 => g1 _ _ _ _ h1 h2
@[elab_as_elim] theorem REo.view {m : Nat} {sc : Scope} {G : Option Expr → Option E → Prop} {x : Option Expr} {a : Option E} (h : REo m sc x a) (g0 : G none none) (g1 : ∀ x a, RE (m - 1) sc x a → G (some x) (some a)) : G x a := by
  cases m with
  | zero => exact no h
  | succ n => cases x with
    | none => exact someE h g0
    | some x => exact mapE h fun a h1 => g1 _ _ h1
@[elab_as_elim] theorem RFs.view {m : Nat} {sc : Scope} {G : List Expr → List E → Prop} {xs : List Expr} {as : List E} (h : RFs m sc xs as) (g0 : G [] []) (g1 : ∀ x p a xs as, RE (m - 1) sc x a → RFs (m - 1) sc xs as → G (.FormattedValue x (-1) none p :: xs) (a :: as))
    (g2 : ∀ s k p xs as, RFs (m - 1) sc xs as → G (.Constant (.str s) k p :: xs) (.cS s.cps.toList :: as)) : G xs as := by
  cases m with
  | zero => exact no h
  | succ n => cases xs with
    | nil => exact someE h g0
    | cons x xs => cases x with
      | FormattedValue v c sp p => exact iteP h fun hc h => andE hc fun c1 c2 => bindE h fun a h1 h => mapE h fun l h2 => (eq_of_beq c1 : c = -1) ▸ Option.isNone_iff_eq_none.1 c2 ▸ g1 _ _ _ _ _ h1 h2
      | Constant c k p => cases c with
        | str s => exact mapE h fun l h2 => g2 _ _ _ _ _ h2
        | _ => exact no h
      | _ => exact no h

abbrev RS (m : Nat) (sc : Scope) (x : Stmt) (a : S) : Prop := cS m sc x = some a
abbrev RSs (m : Nat) (sc : Scope) (x : List Stmt) (a : List S) : Prop := cSs m sc x = some a

structure TwoOK (m : Nat) (sc : Scope) (px py : Pos) (tf : Str) (tx ty : String) : Prop where
  lx : isLocal sc (nm tx) = true
  ly : isLocal sc (nm ty) = true
  ln : (px.line == py.line) = true
  ne : nm tx ≠ nm ty
  d : dbg tf
inductive RS1 (m : Nat) (sc : Scope) : Stmt → S → Prop
  | asg {t p e q a} : (isLocal sc (nm t) || kindIn sc (nm t) == some .cell) = true → RE m sc e a → RS1 m sc (.Assign [.Name (nm t) p] e q) (.asg t a)
  | asgT {es k p e q ts one a} : noTuple e = true → targetsOf sc (.Tuple es k p) = some (ts, one) → RE m sc e a → RS1 m sc (.Assign [.Tuple es k p] e q) (.asgT ts a)
  | asg2 {tx px ty py k p i k1 q1 tf fp as fq k2 q2 q a} : TwoOK m sc px py tf tx ty → RE m sc (.Tuple [.Constant (.int i) k1 q1, .Call (.Name tf fp) as [] fq] k2 q2) a →
      RS1 m sc (.Assign [.Tuple [.Name (nm tx) px, .Name (nm ty) py] k p] (.Tuple [.Constant (.int i) k1 q1, .Call (.Name tf fp) as [] fq] k2 q2) q) (.asgT [tx, ty] a)
  | setI {o i p e q a b c} : notComp e = true → RE m sc o a → RE m sc i b → RE m sc e c → RS1 m sc (.Assign [.Subscript o i p] e q) (.setI a b c)
  | aug {t p op e q a} : isLocal sc (nm t) = true → RE m sc e a → RS1 m sc (.AugAssign (.Name (nm t) p) op e q) (.aug t op a)
  | del {o i p q a b} : RE m sc o a → RE m sc i b → RS1 m sc (.Delete [.Subscript o i p] q) (.del a b)
  | ret {e p a} : RE m sc e a → RS1 m sc (.Return (some e) p) (.ret a)
  | iff {c t f p a b d} : RE m sc c a → RSs m sc t b → RSs m sc f d → RS1 m sc (.If c t f p) (.iff a b d)
  | whl {c b p a d} : RE m sc c a → RSs m sc b d → RS1 m sc (.While c b [] p) (.whl a d)
  | for_ {t it b p ts one a d} : targetsOf sc t = some (ts, one) → RE m sc it a → RSs m sc b d → RS1 m sc (.For t it b [] p) (.for_ ts one a d)
  | brk {p} : RS1 m sc (.Break p) .brk
  | ex {e p a} : notComp e = true → RE m sc e a → RS1 m sc (.Expr e p) (.ex a)
  | asrt {e msg p a} : RE m sc e a → RS1 m sc (.Assert e msg p) (.asrt a)

theorem two_ok {m : Nat} {sc : Scope} {es : List Expr} {k : Nat} {p : Pos} {e : Expr} {q : Pos} {r : S} (hc : is2 sc es e = true) : ((nameOf (nmOf (fstE es))).bind fun tx => (nameOf (nmOf (sndE es))).bind fun ty => (cE m sc e).map fun a => S.asgT [tx, ty] a) = some r → RS1 m sc (.Assign [.Tuple es k p] e q) r :=
  twoIsE hc fun a b hc => nameIsE hc fun x px hc => nameIsE hc fun y py hc => tupIsE hc fun fs _ _ hc => twoIsE hc fun c e2 hc => andE hc fun h1 hc => andE hc fun h2 hc => conIntE h1 fun _ _ _ => callIsE h2 fun f _ _ h3 => nameIsE h3 fun tf _ h3 h => bindE h fun tx hx h => bindE h fun ty hy h => mapE h fun a h1 => by
    have ex : nm tx = x := nameOf_some hx
    have ey : nm ty = y := nameOf_some hy
    subst ex; subst ey
    exact .asg2 (andE hc fun hc c4 => andE hc fun hc c3 => andE hc fun c1 c2 => ⟨c1, c2, c3, fun q => by rw [q, beq_self_eq_true] at c4; exact noB c4, notT h3⟩) h1

theorem cAsg_ok {m : Nat} {sc : Scope} {t e : Expr} {q : Pos} {r : S} (h : cAsg (cE m sc) sc t e = some r) : RS1 m sc (.Assign [t] e q) r := by
  cases t with
  | Name x p => exact iteP h fun hc h => bindE h fun t ht h => mapE h fun a h1 => nameOf_some ht ▸ .asg (nameOf_some ht ▸ hc) h1
  | Tuple es k p =>
    have h' : (if noTuple e = true then (targetsOf sc (.Tuple es k p)).bind fun (ts, _) => (cE m sc e).map fun a => S.asgT ts a
      else if is2 sc es e = true then (nameOf (nmOf (fstE es))).bind fun tx => (nameOf (nmOf (sndE es))).bind fun ty => (cE m sc e).map fun a => S.asgT [tx, ty] a else none) = some r := h
    clear h
    by_cases hn : noTuple e = true
    · rw [if_pos hn] at h'
      exact bindP h' fun ts one ht h' => mapE h' fun a h1 => .asgT hn ht h1
    · rw [if_neg hn] at h'
      exact iteP h' fun hc h => two_ok hc h
  | Subscript o i p => exact iteP h fun hc h => andE hc fun hc _ => bindE h fun a h1 h => bindE h fun b h2 h => mapE h fun c h3 => .setI hc h1 h2 h3
  | _ => exact no h

@[elab_as_elim] theorem one1E {α β : Type} {P : List α → Prop} {l : List α} {k : α → Option β} {x : β} (h : one1 l k = some x) (g : ∀ a, k a = some x → P [a]) : P l := by
  cases l with
  | nil => exact no h
  | cons a l => cases l with
    | nil => exact g a h
    | cons _ _ => exact no h
theorem RS.view {m : Nat} {sc : Scope} {x : Stmt} {e : S} (h : RS m sc x e) : RS1 (m - 1) sc x e := by
  cases m with
  | zero => exact no h
  | succ n =>
  cases x with
  | Assign ts e q => exact one1E h fun t h => cAsg_ok h
  | AugAssign t op e q => cases t with
    | Name x p => exact iteP h fun hc h => bindE h fun t ht h => mapE (G := RS1 n sc _) h fun a h1 => nameOf_some ht ▸ .aug (nameOf_some ht ▸ hc) h1
    | _ => exact no h
  | Delete ts q =>
    refine one1E h fun t h => ?_
    cases t with
    | Subscript o i p => exact iteP h fun hc h => bindE h fun a h1 h => mapE (G := RS1 n sc _) h fun b h2 => .del h1 h2
    | _ => exact no h
  | Return e p =>
    cases e with
    | none => exact no h
    | some e => exact mapE (G := RS1 n sc _) h fun a h1 => .ret h1
  | If c t f p => exact bindE h fun a h1 h => bindE h fun b h2 h => mapE (G := RS1 n sc _) h fun c h3 => .iff h1 h2 h3
  | While c b els p => exact iteP h fun hc h => nilE (P := fun els => RS1 n sc (.While c b els p) e) hc (bindE h fun a h1 h => mapE h fun b h2 => .whl h1 h2)
  | For t it b els p => exact iteP h fun hc h => nilE (P := fun els => RS1 n sc (.For t it b els p) e) hc (bindP h fun ts one ht h => bindE h fun a h1 h => mapE h fun b h2 => .for_ ht h1 h2)
  | Break p => exact someE (G := RS1 n sc _) h .brk
  | Expr e p => exact iteP h fun hc h => mapE (G := RS1 n sc _) h fun a h1 => .ex hc h1
  | Assert e msg p => exact mapE (G := RS1 n sc _) h fun a h1 => .asrt h1
  | _ => exact no h
@[elab_as_elim] theorem RSs.view {m : Nat} {sc : Scope} {G : List Stmt → List S → Prop} {xs : List Stmt} {as : List S} (h : RSs m sc xs as) (g0 : G [] []) (g1 : ∀ x a xs as, (a = .bad ∨ RS (m - 1) sc x a) → RSs (m - 1) sc xs as → G (x :: xs) (a :: as)) : G xs as := by
  cases m with
  | zero => exact no h
  | succ n => cases xs with
    | nil => exact someE h g0
    | cons x xs =>
      refine mapE h fun l h2 => g1 _ _ _ _ ?_ h2
      cases hs : cS n sc x with
      | none => exact .inl rfl
      | some a => exact .inr hs

end Mine
end

section
set_option Elab.async false
set_option linter.all false
namespace Mine
open PySem PySem.W PyProof.Rows PySem.Spec PySem.Calls

variable {C : Cx} {prog : Program} {w : World} {A : Around} {σ : List Addr} {H : Hp} {s : Shared} {E : Value → Shared → Prop}

theorem lift {α : Type} {m : Sem α} {Q : α → Shared → Prop} {M : Model} (h : wpAny M A m Q F0 s) : wpAny M A m Q E s := wpAny_mono h (fun _ _ h => h) fun _ _ h => h.elim
theorem lift2 {α : Type} {m : Sem α} {Q Q' : α → Shared → Prop} {M : Model} (h : wpAny M A m Q F0 s) (k : ∀ a s', Q a s' → Q' a s') : wpAny M A m Q' E s := wpAny_mono h k fun _ _ h => h.elim

structure KindOK (sc : Scope) (env : Env) : Prop where
  loc : ∀ x, isLocal sc x = true → env.kindOf x = some .local
  der : ∀ x, isDeref sc x = true → env.kindOf x = some .cell ∨ env.kindOf x = some .free
  cel : ∀ x, kindIn sc x = some .cell → env.kindOf x = some .cell
  glo : ∀ x, isGlob sc x = true → env.kindOf x = some .globalImplicit
  fre : ∀ x, isDeref sc x = true → (env.cells.lookup x).isSome = true
  code : isGlob sc (nm "_twin_re_1") = true → env.code = .ref 68

noncomputable def OkS (C : Cx) (σ : List Addr) (s : Shared) (H' : Hp) (vs : List V) : List Value → Shared → Prop := fun ws s' => ∃ σ', Step C σ s σ' H' s' ∧ VRs C.X σ' s'.heap vs ws
noncomputable def OkO (C : Cx) (σ : List Addr) (s : Shared) (H' : Hp) (v : Option V) : Value → Shared → Prop := fun w s' => ∃ σ', Step C σ s σ' H' s' ∧ VRo C.X σ' s'.heap v w

inductive FlR (C : Cx) (σ : List Addr) (h : Heap) : Fl → Flow → Prop
  | nx : FlR C σ h .nx .next
  | brk : FlR C σ h .brk .brk
  | ret {v w} : VR C.X σ h v w → FlR C σ h (.ret v) (.ret w)

noncomputable def OkX (C : Cx) (σ : List Addr) (s : Shared) (env : Env) (f : Fl) (r : Rho) (H' : Hp) : Flow → Shared → Prop := fun f' s' => ∃ σ', StepW C (ownOf env) σ s σ' H' s' ∧ EnvOK C σ' s' env r ∧ FlR C σ' s'.heap f f'

/- a range in the making or a list: where items will come from -/
inductive IterOf (σ : List Addr) (h : Heap) : Src → Value → Prop
  | up (n : Int) (r : Addr) (t u v : Tok) : n < 1000000 → -1000000 < n → IsRange h r 0 n 1 t u v → IterOf σ h (.ints (rangeUp n)) (.ref r)
  | down (a b : Int) (r : Addr) (t u v : Tok) : a < 1000000 → -1000000 < a → b < 1000000 → -1000000 < b → IsRange h r a b (-1) t u v → IterOf σ h (.ints (rangeDown a b)) (.ref r)
  | list (a : Nat) (p : Addr) : σ[a]? = some p → IterOf σ h (.list a) (.ref p)
noncomputable def OkI (C : Cx) (σ : List Addr) (s : Shared) (H' : Hp) (sr : Src) : Value → Shared → Prop := fun w s' => ∃ σ', Step C σ s σ' H' s' ∧ IterOf σ' s'.heap sr w

noncomputable def EvOK (C : Cx) (P : Prog) (prog : Program) (w : World) (n : Nat) (sc : Scope) (x : Expr) (a : Mine.E) : Prop := ∀ env r σ H s A v H', KindOK sc env → EnvOK C σ s env r → Inv C σ H s → Room n A → ev P n a r H = some (v, H') → wpAny (model prog w) A (eval x env) (Ok C σ s H' v) F0 s
noncomputable def EsOK (C : Cx) (P : Prog) (prog : Program) (w : World) (n : Nat) (sc : Scope) (x : List Expr) (a : List Mine.E) : Prop := ∀ env r σ H s A v H', KindOK sc env → EnvOK C σ s env r → Inv C σ H s → Room n A → evs P n a r H = some (v, H') → ∀ pos, wpAny (model prog w) A (spliced (backTo pos (starEach x env))) (OkS C σ s H' v) F0 s
noncomputable def FsOK (C : Cx) (P : Prog) (prog : Program) (w : World) (n : Nat) (sc : Scope) (x : List Expr) (a : List Mine.E) : Prop := ∀ env r σ H s A v H' l acc, KindOK sc env → EnvOK C σ s env r → Inv C σ H s → Room n A → evs P n a r H = some (v, H') → strsOf v = some l → acc.length + (l.map (·.length)).sum ≤ lim →
    Joins (model prog w) A F0 (evalEach x env) (mkS acc) (fun out s' => out = mkS (acc ++ l.flatten) ∧ ∃ σ', Step C σ s σ' H' s') s
noncomputable def OOK (C : Cx) (P : Prog) (prog : Program) (w : World) (n : Nat) (sc : Scope) (x : Option Expr) (a : Option Mine.E) : Prop := ∀ env r σ H s A v H', KindOK sc env → EnvOK C σ s env r → Inv C σ H s → Room n A → evo P n a r H = some (v, H') → wpAny (model prog w) A (evalPart x env) (OkO C σ s H' v) F0 s
noncomputable def TOK (C : Cx) (P : Prog) (prog : Program) (w : World) (n : Nat) (sc : Scope) (x : Expr) (a : Mine.E) : Prop := ∀ env r σ H s A v H', KindOK sc env → EnvOK C σ s env r → Inv C σ H s → Room n A → tst P n a r H = some (v, H') → wpAny (model prog w) A (isTrue x env (eval x env)) (OkB C σ s H' v) F0 s
noncomputable def SrcOK (C : Cx) (P : Prog) (prog : Program) (w : World) (n : Nat) (sc : Scope) (x : Expr) (a : Mine.E) : Prop := ∀ env r σ H s A v H', KindOK sc env → EnvOK C σ s env r → Inv C σ H s → Room n A → src P n a r H = some (v, H') → wpAny (model prog w) A (eval x env) (OkI C σ s H' v) F0 s
noncomputable def XOK (C : Cx) (P : Prog) (prog : Program) (w : World) (n : Nat) (sc : Scope) (x : Stmt) (a : S) : Prop := ∀ env r σ H s A f r' H', KindOK sc env → EnvOK C σ s env r → Inv C σ H s → Room n A → ex P n a r H = some (f, r', H') → wpAny (model prog w) A (exec x env) (OkX C σ s env f r' H') F0 s
noncomputable def XsOK (C : Cx) (P : Prog) (prog : Program) (w : World) (n : Nat) (sc : Scope) (x : List Stmt) (a : List S) : Prop := ∀ env r σ H s A f r' H', KindOK sc env → EnvOK C σ s env r → Inv C σ H s → Room n A → exs P n a r H = some (f, r', H') → wpAny (model prog w) A (execs x env) (OkX C σ s env f r' H') F0 s
structure Sound (C : Cx) (P : Prog) (prog : Program) (w : World) (n : Nat) : Prop where
  e : ∀ {m sc x a}, RE m sc x a → EvOK C P prog w n sc x a
  es : ∀ {m sc x a}, REs m sc x a → EsOK C P prog w n sc x a
  fs : ∀ {m sc x a}, RFs m sc x a → FsOK C P prog w n sc x a
  o : ∀ {m sc x a}, REo m sc x a → OOK C P prog w n sc x a
  t : ∀ {m sc x a}, RE m sc x a → TOK C P prog w n sc x a
  ta : ∀ {m sc x a env r σ H s A v H'}, REs m sc x a → KindOK sc env → EnvOK C σ s env r → Inv C σ H s → Room n A → tAnd P n a r H = some (v, H') → wpAny (model prog w) A (allTrue .And x env) (OkB C σ s H' v) F0 s
  to : ∀ {m sc x a env r σ H s A v H'}, REs m sc x a → KindOK sc env → EnvOK C σ s env r → Inv C σ H s → Room n A → tOr P n a r H = some (v, H') → wpAny (model prog w) A (allTrue .Or x env) (OkB C σ s H' v) F0 s
  ts : ∀ {m sc x a env r σ H s A v H'}, REs m sc x a → KindOK sc env → EnvOK C σ s env r → Inv C σ H s → Room n A → tsts P n a r H = some (v, H') →
    wpAny (model prog w) A (forIn x true fun c r => if r = true then do let ok ← isTrue c env (eval c env); pure (ForInStep.yield ok) else pure (ForInStep.yield r)) (OkB C σ s H' v) F0 s
  src : ∀ {m sc x a}, RE m sc x a → SrcOK C P prog w n sc x a
  x : ∀ {m sc x a}, RS m sc x a → XOK C P prog w n sc x a
  xs : ∀ {m sc x a}, RSs m sc x a → XsOK C P prog w n sc x a

theorem Sound.zero {P : Prog} : Sound C P prog w 0 where
  e := fun _ _ _ _ _ _ _ _ _ _ _ _ _ h => no h
  es := fun _ _ _ _ _ _ _ _ _ _ _ _ _ h => no h
  fs := fun _ _ _ _ _ _ _ _ _ _ _ _ _ _ _ h => no h
  o := fun _ _ _ _ _ _ _ _ _ _ _ _ _ h => no h
  t := fun _ _ _ _ _ _ _ _ _ _ _ _ _ h => no h
  ta := fun _ _ _ _ _ h => no h
  to := fun _ _ _ _ _ h => no h
  ts := fun _ _ _ _ _ h => no h
  src := fun _ _ _ _ _ _ _ _ _ _ _ _ _ h => no h
  x := fun _ _ _ _ _ _ _ _ _ _ _ _ _ _ h => no h
  xs := fun _ _ _ _ _ _ _ _ _ _ _ _ _ _ h => no h

structure XF (env : Env) (x : Expr) : Prop where
  behind : ∀ op, behindInMarks op x = false
  star : ∀ es, starEach (x :: es) env = (false, eval x env) :: starEach es env
  bare : ∀ v, foldedSetIterable x env v = pure v
  swT : ∀ es k p l, swapsWith x (some (.Tuple es k p)) l env = pure false
  swN : ∀ y p l, ∃ b, swapsWith x (some (.Name y p)) l env = pure b ∧ (b = true → notComp x = false)
  sw : notComp x = true → ∀ t l, swapsWith x t l env = pure false
  tup : noTuple x = true → ∀ es k p, swappedStores [.Tuple es k p] x env = pure none

theorem RE1.xf {m sc x e} {env : Env} (h : RE1 m sc x e) : XF env x := by
  refine RE1.casesOn (motive := fun x _ _ => XF env x) h ?_ ?_ ?_ ?_ ?_ ?_ ?_ ?_ ?_ ?_ ?_ ?_ ?_ ?_ ?_ ?_ ?_ ?_ ?_ ?_ ?_ ?_ ?_ ?_ ?_
  all_goals
    intros
    first
    | exact ⟨fun _ => rfl, fun _ => rfl, fun _ => rfl, fun _ _ _ _ => rfl, fun _ _ _ => ⟨false, rfl, noB⟩, fun _ _ _ => rfl, fun _ _ _ _ => rfl⟩
    | exact ⟨fun _ => rfl, fun _ => rfl, fun _ => rfl, fun _ _ _ _ => rfl, fun _ _ _ => ⟨false, rfl, noB⟩, fun _ _ _ => rfl, fun h => noB h⟩
    | exact ⟨fun _ => rfl, fun _ => rfl, fun _ => rfl, fun _ _ _ _ => rfl, fun _ _ _ => ⟨_, rfl, fun _ => rfl⟩, fun h => noB h, fun _ _ _ _ => rfl⟩
theorem RE.xf {m sc x e} {env : Env} (h : RE m sc x e) : XF env x := h.view.xf
theorem behind_false {m sc x e op} (h : RE m sc x e) : behindInMarks op x = false := (h.xf (env := default)).behind op
theorem star_cons {m sc e es a env} (h : RE m sc e a) : starEach (e :: es) env = (false, eval e env) :: starEach es env := h.xf.star es

variable {P : Prog} {n : Nat} {sc : Scope} {env : Env} {r : Rho}


theorem KindOK.var (K : KindOK sc env) {x : Str} (hk : (isLocal sc x || isDeref sc x) = true) : env.kindOf x = some .local ∨ env.kindOf x = some .cell ∨ env.kindOf x = some .free :=
  ((Bool.or_eq_true _ _).mp hk).elim (fun h => .inl (K.loc _ h)) fun h => .inr (K.der _ h)
theorem var_ok {t : String} {p : Pos} {v : V} (hk : (isLocal sc (nm t) || isDeref sc (nm t)) = true) (hd : dbg (nm t)) (hc : cdi (nm t)) (K : KindOK sc env) (V : EnvOK C σ s env r) (I : Inv C σ H s) (e : r t = some v) :
    wpAny (model prog w) A (eval (.Name (nm t) p) env) (Ok C σ s H v) F0 s := wpAny_Name (load_ok V I e (K.var hk) hc) hd

/- two in a row -/
theorem Ok.then {H1 : Hp} {s1 : Shared} {m : Sem Value} {σ1 : List Addr} {H2 : Hp} {u : V} (S : Step C σ s σ1 H1 s1) (h : wpAny (model prog w) A m (Ok C σ1 s1 H2 u) F0 s1) : wpAny (model prog w) A m (Ok C σ s H2 u) E s1 :=
  lift2 h fun _ _ ⟨σ', S', r⟩ => ⟨σ', S.trans S', r⟩

section
variable {H1 : Hp} {E : Value → Shared → Prop}
theorem okE {m : Sem Value} {v : V} {Q : Value → Shared → Prop} (h : wpAny (model prog w) A m (Ok C σ s H1 v) F0 s) (k : ∀ y s1 σ1, Step C σ s σ1 H1 s1 → VR C.X σ1 s1.heap v y → Q y s1) : wpAny (model prog w) A m Q E s :=
  lift2 h fun y s1 h => h.elim fun σ1 h => k y s1 σ1 h.1 h.2
theorem Sound.eE (N : Sound C P prog w n) {m : Nat} {x : Expr} {a : Mine.E} {v : V} {Q : Value → Shared → Prop} (h1 : RE m sc x a) (K : KindOK sc env) (V : EnvOK C σ s env r) (I : Inv C σ H s) (R : Room n A) (e : ev P n a r H = some (v, H1))
    (k : ∀ y s1 σ1, Step C σ s σ1 H1 s1 → VR C.X σ1 s1.heap v y → Q y s1) : wpAny (model prog w) A (eval x env) Q E s := okE (N.e h1 _ _ _ _ _ _ _ _ K V I R e) k
theorem Sound.esE (N : Sound C P prog w n) {m : Nat} {x : List Expr} {a : List Mine.E} {v : List V} {pos : Pos} {Q : List Value → Shared → Prop} (h1 : REs m sc x a) (K : KindOK sc env) (V : EnvOK C σ s env r) (I : Inv C σ H s) (R : Room n A) (e : evs P n a r H = some (v, H1))
    (k : ∀ y s1 σ1, Step C σ s σ1 H1 s1 → VRs C.X σ1 s1.heap v y → Q y s1) : wpAny (model prog w) A (spliced (backTo pos (starEach x env))) Q E s :=
  lift2 (N.es h1 _ _ _ _ _ _ _ _ K V I R e pos) fun y s1 h => h.elim fun σ1 h => k y s1 σ1 h.1 h.2
theorem Sound.oE (N : Sound C P prog w n) {m : Nat} {x : Option Expr} {a : Option Mine.E} {v : Option V} {Q : Value → Shared → Prop} (h1 : REo m sc x a) (K : KindOK sc env) (V : EnvOK C σ s env r) (I : Inv C σ H s) (R : Room n A) (e : evo P n a r H = some (v, H1))
    (k : ∀ y s1 σ1, Step C σ s σ1 H1 s1 → VRo C.X σ1 s1.heap v y → Q y s1) : wpAny (model prog w) A (evalPart x env) Q E s :=
  lift2 (N.o h1 _ _ _ _ _ _ _ _ K V I R e) fun y s1 h => h.elim fun σ1 h => k y s1 σ1 h.1 h.2
theorem Sound.tE (N : Sound C P prog w n) {m : Nat} {x : Expr} {a : Mine.E} {b : Bool} {Q : Bool → Shared → Prop} (h1 : RE m sc x a) (K : KindOK sc env) (V : EnvOK C σ s env r) (I : Inv C σ H s) (R : Room n A) (e : tst P n a r H = some (b, H1))
    (k : ∀ s1 σ1, Step C σ s σ1 H1 s1 → Q b s1) : wpAny (model prog w) A (isTrue x env (eval x env)) Q E s :=
  lift2 (N.t h1 _ _ _ _ _ _ _ _ K V I R e) fun y s1 h => h.1 ▸ h.2.elim fun σ1 h => k s1 σ1 h
theorem Sound.srcE (N : Sound C P prog w n) {m : Nat} {x : Expr} {a : Mine.E} {v : Src} {Q : Value → Shared → Prop} (h1 : RE m sc x a) (K : KindOK sc env) (V : EnvOK C σ s env r) (I : Inv C σ H s) (R : Room n A) (e : Mine.src P n a r H = some (v, H1))
    (k : ∀ y s1 σ1, Step C σ s σ1 H1 s1 → IterOf σ1 s1.heap v y → Q y s1) : wpAny (model prog w) A (eval x env) Q E s :=
  lift2 (N.src h1 _ _ _ _ _ _ _ _ K V I R e) fun y s1 h => h.elim fun σ1 h => k y s1 σ1 h.1 h.2
theorem Sound.xE (N : Sound C P prog w n) {m : Nat} {x : Stmt} {a : S} {f : Fl} {r' : Rho} {Q : Flow → Shared → Prop} (h1 : RS m sc x a) (K : KindOK sc env) (V : EnvOK C σ s env r) (I : Inv C σ H s) (R : Room n A) (e : ex P n a r H = some (f, r', H1))
    (k : ∀ y s1 σ1, StepW C (ownOf env) σ s σ1 H1 s1 → EnvOK C σ1 s1 env r' → FlR C σ1 s1.heap f y → Q y s1) : wpAny (model prog w) A (exec x env) Q E s :=
  lift2 (N.x h1 _ _ _ _ _ _ _ _ _ K V I R e) fun y s1 h => h.elim fun σ1 h => k y s1 σ1 h.1 h.2.1 h.2.2
theorem Sound.xsE (N : Sound C P prog w n) {m : Nat} {x : List Stmt} {a : List S} {f : Fl} {r' : Rho} {Q : Flow → Shared → Prop} (h1 : RSs m sc x a) (K : KindOK sc env) (V : EnvOK C σ s env r) (I : Inv C σ H s) (R : Room n A) (e : exs P n a r H = some (f, r', H1))
    (k : ∀ y s1 σ1, StepW C (ownOf env) σ s σ1 H1 s1 → EnvOK C σ1 s1 env r' → FlR C σ1 s1.heap f y → Q y s1) : wpAny (model prog w) A (execs x env) Q E s :=
  lift2 (N.xs h1 _ _ _ _ _ _ _ _ _ K V I R e) fun y s1 h => h.elim fun σ1 h => k y s1 σ1 h.1 h.2.1 h.2.2
theorem Sound.ev (N : Sound C P prog w n) {m : Nat} {x : Expr} {a : Mine.E} {v : V} (h1 : RE m sc x a) (K : KindOK sc env) (V : EnvOK C σ s env r) (I : Inv C σ H s) (R : Room n A) (e : Mine.ev P n a r H = some (v, H1)) : wpAny (model prog w) A (eval x env) (Ok C σ s H1 v) F0 s := N.e h1 _ _ _ _ _ _ _ _ K V I R e
end

end Mine
end

section
set_option Elab.async false
set_option linter.all false
namespace Mine
open PySem PySem.W PyProof.Rows PySem.Spec PySem.Calls

variable {C : Cx} {prog : Program} {w : World} {A : Around} {σ : List Addr} {H : Hp} {s : Shared} {E : Value → Shared → Prop}
variable {P : Prog} {n m : Nat} {sc : Scope} {env : Env} {r : Rho}

theorem units2 {n : Nat} {A : Around} (R : Room n A) : A.units + 2 < cLine := by have := R.units; rw [cLine_is]; (first | lia | omega)
theorem OkB.tk {b : Bool} {σ1 : List Addr} {s1 : Shared} {H1 : Hp} {tk : Nat} (S : Step C σ s σ1 H1 s1) : OkB C σ s H1 b b { s1 with toks := tk } := ⟨rfl, σ1, S.trans S.inv.toks_⟩

theorem bin_e (N : Sound C P prog w n) {x y : Expr} {op : Operator} {p : Pos} {a b : Mine.E} (h1 : RE m sc x a) (h2 : RE m sc y b) : EvOK C P prog w (n + 1) sc (.BinOp x op y p) (.bin op a b) := fun env r σ H s A v H' K V I R e =>
  bindP e fun _ _ e1 e => bindP e fun _ _ e2 e =>
  wpAny_BinOp (N.eE h1 K V I R.pred e1 fun _ _ _ S1 r1 => N.eE h2 K (S1.env V) S1.inv R.pred e2 fun _ _ _ S2 r2 => Ok.then (S1.trans S2) (bin_ok e S2.inv (S2.vr r1) r2))

theorem cmp1_e (N : Sound C P prog w n) {x y : Expr} {op : CmpOp} {p : Pos} {a b : Mine.E} (h1 : RE m sc x a) (h2 : RE m sc y b) : EvOK C P prog w (n + 1) sc (.Compare x [op] [y] p) (.cmp1 op a b) := fun env r σ H s A v H' K V I R e =>
  bindP e fun _ _ e1 e => bindP e fun _ _ e2 e => mapR (G := fun v H' => wpAny (model prog w) A (eval (.Compare x [op] [y] p) env) (Ok C σ s H' v) F0 s) e fun _ e3 =>
  wpAny_Compare1 (N.eE h1 K V I R.pred e1 fun _ _ _ S1 r1 => N.eE h2 K (S1.env V) S1.inv R.pred e2 fun _ _ σ2 S2 r2 => cmp_ok e3 S2.inv (S2.vr r1) r2 (units2 R) fun _ => ⟨σ2, S1.trans (S2.trans S2.inv.toks_), .bool _⟩) (behind_false h2)

theorem not_e (N : Sound C P prog w n) {x : Expr} {p : Pos} {a : Mine.E} (h1 : RE m sc x a) : EvOK C P prog w (n + 1) sc (.UnaryOp .Not x p) (.not_ a) := fun env r σ H s A v H' K V I R e =>
  bindP e fun _ _ e1 e => mapR (G := fun v H' => wpAny (model prog w) A (eval (.UnaryOp .Not x p) env) (Ok C σ s H' v) F0 s) e fun _ e2 =>
  wpAny_UnaryOp (N.eE h1 K V I R.pred e1 fun _ _ _ S1 r1 => Ok.then S1 (not_ok e2 S1.inv r1))

theorem neg_e (N : Sound C P prog w n) {x : Expr} {p : Pos} {a : Mine.E} (h1 : RE m sc x a) : EvOK C P prog w (n + 1) sc (.UnaryOp .USub x p) (.neg a) := fun env r σ H s A v H' K V I R e =>
  bindP e fun va H1 e1 e => mapR (G := fun v H' => wpAny (model prog w) A (eval (.UnaryOp .USub x p) env) (Ok C σ s H' v) F0 s) e fun i hi => intE (G := fun va => ev P n a r H = some (va, H1) → wpAny (model prog w) A (eval (.UnaryOp .USub x p) env) (Ok C σ s H1 (.int (-i))) F0 s) hi (fun e1 => wpAny_UnaryOp (N.eE h1 K V I R.pred e1 fun _ _ _ S1 r1 => Ok.then S1 (neg_ok S1.inv r1))) e1

theorem ite_e (N : Sound C P prog w n) {x y z : Expr} {p : Pos} {a b c : Mine.E} (h1 : RE m sc x a) (h2 : RE m sc y b) (h3 : RE m sc z c) : EvOK C P prog w (n + 1) sc (.IfExp x y z p) (.ite a b c) := fun env r σ H s A v H' K V I R e =>
  bindP e fun t _ e1 e => wpAny_IfExp (N.tE h1 K V I R.pred e1 fun s1 σ1 S1 => match t, e with
    | true, e => Ok.then S1 (N.ev h2 K (S1.env V) S1.inv R.pred e)
    | false, e => Ok.then S1 (N.ev h3 K (S1.env V) S1.inv R.pred e))

theorem and_e (N : Sound C P prog w n) {m' : Nat} {x y : Expr} {p : Pos} {a b : Mine.E} (h1 : RE m sc x a) (h2 : RE m' sc y b) : EvOK C P prog w (n + 1) sc (.BoolOp .And [x, y] p) (.and_ [a, b]) := fun env r σ H s A v H' K V I R e =>
  bindP e fun va H1 e1 e => bindE e fun t e2 e =>
  wpAny_And2 (N.eE h1 K V I R.pred e1 fun y1 s1 σ1 S1 r1 => truth_ok e2 S1.inv r1 fun tk => match t, e with
    | true, e => Ok.then (S1.trans S1.inv.toks_) (N.ev h2 K ((S1.trans S1.inv.toks_).env V) (S1.trans S1.inv.toks_).inv R.pred e)
    | false, e => someR (G := fun v H' => Ok C σ s H' v y1 { s1 with toks := tk }) e ⟨σ1, S1.trans S1.inv.toks_, S1.inv.toks_.vr r1⟩)

theorem or_e (N : Sound C P prog w n) {m' : Nat} {x y : Expr} {p : Pos} {a b : Mine.E} (h1 : RE m sc x a) (h2 : RE m' sc y b) : EvOK C P prog w (n + 1) sc (.BoolOp .Or [x, y] p) (.or_ [a, b]) := fun env r σ H s A v H' K V I R e =>
  bindP e fun va H1 e1 e => bindE e fun t e2 e =>
  wpAny_Or2 (N.eE h1 K V I R.pred e1 fun y1 s1 σ1 S1 r1 => truth_ok e2 S1.inv r1 fun tk => match t, e with
    | true, e => someR (G := fun v H' => Ok C σ s H' v y1 { s1 with toks := tk }) e ⟨σ1, S1.trans S1.inv.toks_, S1.inv.toks_.vr r1⟩
    | false, e => Ok.then (S1.trans S1.inv.toks_) (N.ev h2 K ((S1.trans S1.inv.toks_).env V) (S1.trans S1.inv.toks_).inv R.pred e))

theorem sub_e (N : Sound C P prog w n) {x y : Expr} {p : Pos} {a b : Mine.E} (h1 : RE m sc x a) (h2 : RE m sc y b) : EvOK C P prog w (n + 1) sc (.Subscript x y p) (.sub a b) := fun env r σ H s A v H' K V I R e =>
  bindP e fun _ _ e1 e => bindP e fun _ _ e2 e => mapR (G := fun v H' => wpAny (model prog w) A (eval (.Subscript x y p) env) (Ok C σ s H' v) F0 s) e fun _ e3 =>
  Subscript_ (N.eE h1 K V I R.pred e1 fun _ _ _ S1 r1 => N.eE h2 K (S1.env V) S1.inv R.pred e2 fun _ _ _ S2 r2 => Ok.then (S1.trans S2) (sub_ok e3 S2.inv (S2.vr r1) r2))

theorem StepW.vro {W : List Addr} {σ s σ' H' s'} (S : StepW C W σ s σ' H' s') {v : Option V} {w : Value} (h : VRo C.X σ s.heap v w) : VRo C.X σ' s'.heap v w :=
  match v, h with
  | none, h => h
  | some _, h => S.vr h

theorem Ok.then' {H1 : Hp} {s1 : Shared} {m : Sem Value} {σ1 : List Addr} {H2 : Hp} {u : V} {s' : Shared} (S : Step C σ s σ1 H1 s1) (h : wpAny (model prog w) A m (Ok C σ1 s1 H2 u) F0 s') : wpAny (model prog w) A m (Ok C σ s H2 u) E s' :=
  lift2 h fun _ _ h => h.elim fun σ' h => ⟨σ', S.trans h.1, h.2⟩

theorem slc_e (N : Sound C P prog w n) {x : Expr} {lo hi : Option Expr} {sp p : Pos} {a : Mine.E} {b c : Option Mine.E} (h1 : RE m sc x a) (h2 : REo m sc lo b) (h3 : REo m sc hi c) : EvOK C P prog w (n + 1) sc (.Subscript x (.Slice lo hi none sp) p) (.slc a b c) := fun env r σ H s A v H' K V I R e =>
  bindP e fun _ _ e1 e => bindP e fun _ _ e2 e => bindP e fun _ _ e3 e =>
  Subscript_ (N.eE h1 K V I R.pred e1 fun _ _ _ S1 r1 => wpAny_Slice (N.oE h2 K (S1.env V) S1.inv R.pred e2 fun _ _ _ S2 r2 => N.oE h3 K (S2.env (S1.env V)) S2.inv R.pred e3 fun _ _ _ S3 r3 =>
    wpAny_pure (Ok.then' (S1.trans (S2.trans S3)) (slc_ok e S3.inv (S3.vr (S2.vr r1)) (S3.vro r2) r3))))
end Mine
end

section
set_option Elab.async false
set_option linter.all false
namespace Mine
open PySem PySem.W PyProof.Rows PySem.Spec PySem.Calls

variable {C : Cx} {prog : Program} {w : World} {A : Around} {σ : List Addr} {H : Hp} {s : Shared} {E : Value → Shared → Prop}
variable {P : Prog} {n m : Nat} {sc : Scope} {env : Env} {r : Rho}

theorem oper {M : Model} {vs : List Value} {m : Sem Value} {Q : Value → Shared → Prop} (h : wpAny M A m Q E s) : wpAny M A (operate vs m) Q E s := fun Γ p hΓ => by rw [Sem.wp_operate]; exact h Γ p hΓ
theorem size_of {xs : List V} {ws : List Value} {X σ : List Addr} {h : Heap} (r : VRs X σ h xs ws) (hl : xs.length ≤ lim) : ws.length ≤ sizeLine := by rw [← r.length, sizeLine_is]; rw [lim_is] at hl; (first | lia | omega)

theorem cons_es (N : Sound C P prog w n) {x : Expr} {xs : List Expr} {a : Mine.E} {as : List Mine.E} (h1 : RE m sc x a) (h2 : REs m sc xs as) : EsOK C P prog w (n + 1) sc (x :: xs) (a :: as) := fun env r σ H s A v H' K V I R e pos =>
  bindP e fun _ _ e1 e => mapPR (G := fun v H' => wpAny (model prog w) A (spliced (backTo pos (starEach (x :: xs) env))) (OkS C σ s H' v) F0 s) e fun _ _ e2 =>
  spliced_more (N.eE h1 K V I R.pred e1 fun _ _ _ S1 r1 => N.esE h2 K (S1.env V) S1.inv R.pred e2 fun _ _ σ2 S2 r2 => ⟨σ2, S1.trans S2, .cons (S2.vr r1) r2⟩) (star_cons h1)

theorem lst_e (N : Sound C P prog w n) {xs : List Expr} {p : Pos} {as : List Mine.E} (h1 : REs m sc xs as) : EvOK C P prog w (n + 1) sc (.List xs p) (.lst as) := fun env r σ H s A v H' K V I R e =>
  bindP e fun _ _ e1 e => chkE e fun hl e => someR (G := fun v H' => wpAny (model prog w) A (eval (.List xs p) env) (Ok C σ s H' v) F0 s) e
  (wpAny_List (N.esE h1 K V I R.pred e1 fun ws _ _ S1 r1 => ⟨size_of r1 hl, (Ok.list (n := 0) (vs := ws.toArray) S1.inv r1 (lim_le hl)).elim fun σ2 h => ⟨σ2, S1.trans h.1, h.2⟩⟩))

theorem tup_e (N : Sound C P prog w n) {xs : List Expr} {k : Nat} {p : Pos} {as : List Mine.E} (h1 : REs m sc xs as) : EvOK C P prog w (n + 1) sc (.Tuple xs k p) (.tup as) := fun env r σ H s A v H' K V I R e =>
  bindP e fun _ _ e1 e => chkE e fun hl e => someR (G := fun v H' => wpAny (model prog w) A (eval (.Tuple xs k p) env) (Ok C σ s H' v) F0 s) e
  (wpAny_Tuple_spliced (N.esE h1 K V I R.pred e1 fun ws s1 σ1 S1 r1 => ⟨size_of r1 hl, σ1, S1.trans S1.inv.push,
    .tup _ _ _ 0 (Heap.get?_push_size _ rfl) (S1.inv.notσ_fresh (fresh_at _)) (S1.inv.notX_fresh (fresh_at _)) (r1.length ▸ lim_le hl) (StepW.vrs (S1.inv.push (o := { cls := .type "tuple", data := .seq ws.toArray }) (tk := s1.toks)) r1)⟩))

/- f-strings -/
theorem joins_mono : ∀ (parts : List (Sem Value)) (acc : Str) {Q Q' : Str → Shared → Prop} (s : Shared), (∀ o s', Q o s' → Q' o s') → Joins (model prog w) A F0 parts acc Q s → Joins (model prog w) A F0 parts acc Q' s
  | [], acc, _, _, s, k, h => k _ _ h
  | x :: rest, acc, _, _, s, k, h => wpAny_mono h (fun v s1 h => h.elim fun y h => h.elim fun t h => ⟨y, t, h.1, h.2.1, joins_mono rest _ s1 k h.2.2⟩) fun _ _ h => h
theorem strs_cons {va : V} {vb : List V} {l : List (List Nat)} {G : V → List (List Nat) → Prop} (e : strsOf (va :: vb) = some l) (g : ∀ l0 l1, strsOf vb = some l1 → G (.str l0) (l0 :: l1)) : G va l :=
  bindE e fun l0 h0 e => strE (G := fun va => G va l) h0 (mapE (G := G _) e fun l1 e => g l0 l1 e)
theorem flat_nil (acc : List Nat) : acc = acc ++ ([] : List (List Nat)).flatten := (List.append_nil acc).symm
theorem fs_cons (N : Sound C P prog w n) {x : Expr} {xs : List Expr} {a : Mine.E} {as : List Mine.E}
    (h1 : ∀ {env r σ H s A H' l0}, KindOK sc env → EnvOK C σ s env r → Inv C σ H s → Room n A → ev P n a r H = some (.str l0, H') → wpAny (model prog w) A (eval x env) (Ok C σ s H' (.str l0)) F0 s) (h2 : RFs m sc xs as) : FsOK C P prog w (n + 1) sc (x :: xs) (a :: as) := fun env r σ H s A v H' l acc K V I R e e2 hl =>
  bindP e fun va H1 e1 e => mapPR (G := fun v H' => strsOf v = some l → Joins (model prog w) A F0 (evalEach (x :: xs) env) (mkS acc) (fun out s' => out = mkS (acc ++ l.flatten) ∧ ∃ σ', Step C σ s σ' H' s') s) e (fun vb H2 e3 e2 =>
  strs_cons (G := fun va l => acc.length + (l.map (·.length)).sum ≤ lim → ev P n a r H = some (va, H1) → Joins (model prog w) A F0 (evalEach (x :: xs) env) (mkS acc) (fun out s' => out = mkS (acc ++ l.flatten) ∧ ∃ σ', Step C σ s σ' H2 s') s) e2 (fun l0 l1 e4 hl e1 =>
    have hl' : (acc ++ l0).length + (l1.map (·.length)).sum ≤ lim := by rw [List.length_append, Nat.add_assoc]; exact hl
    Joins_cons (okE (h1 K V I R.pred e1) fun y1 s1 σ1 S1 r1 => VR.strE (G := fun y1 => ∃ z t, y1 = Value.str z t ∧ (mkS acc ++ z).length ≤ sizeLine ∧ Joins (model prog w) A F0 (evalEach xs env) (mkS acc ++ z) (fun out s' => out = mkS (acc ++ (l0 :: l1).flatten) ∧ ∃ σ', Step C σ s σ' H2 s') s1) r1 fun t _ => ⟨mkS l0, t, rfl,
      by rw [mkS_app, mkS_len, sizeLine_is]; rw [lim_is] at hl'; (first | lia | omega),
      by rw [mkS_app]; exact joins_mono _ _ _ (fun out s' h => ⟨h.1.trans (by rw [List.flatten_cons, List.append_assoc]), h.2.elim fun σ' S' => ⟨σ', S1.trans S'⟩⟩) (N.fs h2 _ _ _ _ _ _ _ _ _ _ K (S1.env V) S1.inv R.pred e3 e4 hl')⟩)) hl e1) e2

theorem fval_e (N : Sound C P prog w n) {x : Expr} {p : Pos} {a : Mine.E} (h1 : RE m sc x a) (K : KindOK sc env) (V : EnvOK C σ s env r) (I : Inv C σ H s) (R : Room n A) {H' : Hp} {l0 : List Nat} (e : ev P n a r H = some (.str l0, H')) :
    wpAny (model prog w) A (eval (.FormattedValue x (-1) none p) env) (Ok C σ s H' (.str l0)) F0 s :=
  wpAny_FormattedValue_plain (N.eE h1 K V I R e fun y1 s1 σ1 S1 r1 => VR.strE (G := fun y1 => VR C.X σ1 s1.heap (.str l0) y1 → wpAny (model prog w) A (formatField y1 (Str.ofString "")) (Ok C σ s H' (.str l0)) F0 s1) r1 (fun t hl r1 =>
    wpAny_formatField_str ⟨σ1, S1, r1⟩ ⟨σ1, S1.trans S1.inv.toks_, VR.mkStr hl⟩ (by rw [mkS_len, sizeLine_is]; rw [lim2] at hl; (first | lia | omega))) r1)

theorem fstr_e (N : Sound C P prog w n) {xs : List Expr} {p : Pos} {as : List Mine.E} (h0 : 2 ≤ xs.length) (h1 : RFs m sc xs as) : EvOK C P prog w (n + 1) sc (.JoinedStr xs p) (.fstr as) := fun env r σ H s A v H' K V I R e =>
  bindP e fun vs H1 e1 e => bindE e fun l e2 e => chkE e fun hl e => someR (G := fun v H' => wpAny (model prog w) A (eval (.JoinedStr xs p) env) (Ok C σ s H' v) F0 s) e (by
  have J := N.fs h1 _ _ _ _ _ _ _ _ _ [] K V I R.pred e1 e2 (by rw [List.length_nil, Nat.zero_add]; exact hl)
  cases xs with
  | nil => exact absurd h0 (Nat.not_succ_le_zero 1)
  | cons x1 xs => cases xs with
    | nil => exact absurd h0 (Nat.not_succ_le_self 1)
    | cons x2 rest =>
      have hf : l.flatten.length ≤ lim := by rw [List.length_flatten]; exact hl
      exact wpAny_JoinedStr (joins_mono _ _ _ (fun out s' h => h.2.elim fun σ' S' => h.1 ▸ ⟨by rw [mkS_len, sizeLine_is]; rw [lim_is] at hf; exact Nat.le_trans hf (by decide), σ', S'.trans S'.inv.toks_, VR.mkStr (lim_le hf)⟩) J))

/- tests -/
theorem value_t (N : Sound C P prog w n) {x : Expr} {a : Mine.E} {b : Bool} {H' : Hp} (h1 : RE m sc x a) (K : KindOK sc env) (V : EnvOK C σ s env r) (I : Inv C σ H s) (R : Room n A)
    (e : ((ev P n a r H).bind fun (v, H1) => (truth v H1).map fun t => (t, H1)) = some (b, H')) (hx : isTrue x env (eval x env) = (do let v ← eval x env; standAt x.pos; holding [v] (truthy v))) :
    wpAny (model prog w) A (isTrue x env (eval x env)) (OkB C σ s H' b) F0 s :=
  bindP e fun _ _ e1 e => mapR (G := fun b H' => wpAny (model prog w) A (isTrue x env (eval x env)) (OkB C σ s H' b) F0 s) e fun _ e2 =>
  wpAny_isTrue_value (N.eE h1 K V I R e1 fun _ _ _ S1 r1 => truth_ok e2 S1.inv r1 fun _ => OkB.tk S1) hx

theorem cmp1_t (N : Sound C P prog w n) {x y : Expr} {op : CmpOp} {p : Pos} {a b : Mine.E} (h1 : RE m sc x a) (h2 : RE m sc y b) : TOK C P prog w (n + 1) sc (.Compare x [op] [y] p) (.cmp1 op a b) := fun env r σ H s A v H' K V I R e =>
  bindP e fun _ _ e1 e => bindP e fun _ _ e2 e => mapR (G := fun v H' => wpAny (model prog w) A (isTrue (.Compare x [op] [y] p) env (eval (.Compare x [op] [y] p) env)) (OkB C σ s H' v) F0 s) e fun _ e3 =>
  wpAny_isTrue_Compare1 (N.eE h1 K V I R.pred e1 fun _ _ _ S1 r1 => N.eE h2 K (S1.env V) S1.inv R.pred e2 fun _ _ _ S2 r2 => cmp_ok e3 S2.inv (S2.vr r1) r2 (units2 R.pred) fun _ => wpAny_truthy_bool (OkB.tk (S1.trans S2))) (behind_false h2)

theorem chain2 {x y z : Expr} {o1 o2 : CmpOp} {p : Pos} {q : Sem Value} {Q : Bool → Shared → Prop} (hz : behindInMarks o2 z = false)
    (h : wpAny (model prog w) A (eval x env) (fun a s1 => wpAny (model prog w) A (eval y env) (fun b s2 => wpAny (model prog w) A (compareOp o1 a b) (fun c s3 => wpAny (model prog w) A (truthy c) (fun t s4 => if t = true then wpAny (model prog w) A (eval z env) (fun d s5 => wpAny (model prog w) A (compareOp o2 b d) (fun c s6 => wpAny (model prog w) A (truthy c) Q E s6) E s5) E s4 else Q false s4) E s3) E s2) E s1) E s) :
    wpAny (model prog w) A (isTrue (.Compare x [o1, o2] [y, z] p) env q) Q E s := by
  show wpAny _ A (do testChain p (← eval x env) [o1, o2] [eval y env, markedBehindIn o2 z (eval z env)]) _ _ s
  rw [markedBehindIn_of_false hz]
  refine wpAny_bind (wpAny_mono h (fun a s1 h => ?_) fun _ _ h => h)
  show wpAny _ A (do
    let rv ← holding [a] (eval y env)
    standAt p
    let c ← holding [a, rv] (compareOp o1 a rv)
    release [a, rv] [c]
    if ← holding [c, rv] (truthy c) then testChain p rv [o2] [eval z env] else pure false) _ _ s1
  refine wpAny_bind (wpAny_holding (wpAny_mono h (fun b s2 h => wpAny_bind (wpAny_standAt (wpAny_bind (wpAny_holding (wpAny_mono h (fun c s3 h => wpAny_bind (wpAny_release (wpAny_bind (wpAny_holding (wpAny_mono h (fun t s4 h => ?_) fun _ _ h => h))))) fun _ _ h => h))))) fun _ _ h => h))
  cases t with
  | false => exact wpAny_pure h
  | true => exact wpAny_bind (wpAny_holding (wpAny_mono h (fun d s5 h => wpAny_bind (wpAny_standAt (wpAny_bind (oper (wpAny_mono h (fun c s6 h => wpAny_holding h) fun _ _ h => h))))) fun _ _ h => h))

theorem cmp2_t (N : Sound C P prog w n) {x y z : Expr} {o1 o2 : CmpOp} {p : Pos} {a b c : Mine.E} (h1 : RE m sc x a) (h2 : RE m sc y b) (h3 : RE m sc z c) : TOK C P prog w (n + 1) sc (.Compare x [o1, o2] [y, z] p) (.cmp2 o1 o2 a b c) := fun env r σ H s A v H' K V I R e =>
  bindP e fun va H1 e1 e => bindP e fun vb H2 e2 e => bindE e fun t e3 e =>
  chain2 (behind_false h3) (N.eE h1 K V I R.pred e1 fun y1 s1 σ1 S1 r1 => N.eE h2 K (S1.env V) S1.inv R.pred e2 fun y2 s2 σ2 S2 r2 => cmp_ok e3 S2.inv (S2.vr r1) r2 (units2 R.pred) fun tk => wpAny_truthy_bool (match t, e with
    | false, e => someR (G := fun v H' => OkB C σ s H' v false { s2 with toks := tk }) e (OkB.tk (S1.trans S2))
    | true, e => bindP e fun vc H3 e5 e => mapR (G := fun v H' => wpAny (model prog w) A (eval z env) (fun d s5 => wpAny (model prog w) A (compareOp o2 y2 d) (fun c s6 => wpAny (model prog w) A (truthy c) (OkB C σ s H' v) F0 s6) F0 s5) F0 { s2 with toks := tk }) e fun c2 e6 =>
      have S3 := (S1.trans S2).trans (S2.inv.toks_ (tk := tk))
      N.eE h3 K (S3.env V) S3.inv R.pred e5 fun y3 s3 σ3 S4 r3 => cmp_ok e6 S4.inv (S4.vr ((S2.inv.toks_ (tk := tk)).vr r2)) r3 (units2 R.pred) fun _ => wpAny_truthy_bool (OkB.tk (S3.trans S4))))
end Mine
end

section
set_option Elab.async false
set_option linter.all false
namespace Mine
open PySem PySem.W PyProof.Rows PySem.Spec PySem.Calls

variable {C : Cx} {prog : Program} {w : World} {A : Around} {σ : List Addr} {H : Hp} {s : Shared} {E : Value → Shared → Prop}
variable {P : Prog} {n : Nat} {sc : Scope} {env : Env} {r : Rho}

noncomputable def Over (C : Cx) (h : Heap) : Prop := ∀ b o, C.B.get? b = some o → b ∉ C.X → h.get? b = some o

structure GOK (C : Cx) (prog : Program) (w : World) (f : String) (fv : Value) : Prop where
  load : ∀ {A : Around} {env : Env} {s : Shared} {Q : Value → Shared → Prop}, Over C s.heap → env.globals = mainGlobals → env.builtins = builtinsNs → Q fv s → wpAny (model prog w) A (loadGlobal env (nm f)) Q F0 s
  keep : ∀ h, Over C h → ∃ k, (k = Keeper.frame ∨ k = Keeper.machine ∨ k = Keeper.boundFrame) ∧ Looks (model prog w) h (keeperOf fv) k

structure FnD (C : Cx) (a : Addr) (ps : List String) (o : Obj) (fd : FuncData) (b : List Stmt) (c : Addr) (co : Obj) (vs : Array Value) (t : Tok) : Prop where
  fo : C.B.get? a = some o
  faX : a ∉ C.X
  fdat : o.data = .func fd
  fco : fd.scope.isCoroutine = false
  fgen : fd.scope.isGenerator = false
  fk : fd.scope.kind = .function
  fb : fd.body = .stmts b
  fcl : fd.closure = []
  fg : fd.globals = mainGlobals
  fbl : fd.builtins = builtinsNs
  fc1 : fd.code = .ref c
  fc2 : C.B.get? c = some co
  fc3 : c ∉ C.X
  fc4 : co.data = .fields vs
  fc5 : vs[1]? = some (.str fd.qualname t)
  fbind : ∀ ws : List Value, ws.length = ps.length → bindArgs fd ⟨ws, []⟩ = pure ((ps.map nm).zip ws)
  fkind : ∀ x ∈ ps, fd.scope.names.lookup (nm x) = some .local ∨ fd.scope.names.lookup (nm x) = some .cell
  fnd : ((cellsFrom 0 fd.scope.names []).map (·.1)).Nodup
  ffree : ∀ x, fd.scope.names.lookup x ≠ some .free
  fcode : isGlob fd.scope (nm "_twin_re_1") = true → fd.code = .ref 68
inductive FnAt (C : Cx) (a : Addr) (ps : List String) (body : List S) : Prop
  | mk {o fd b c co vs t} : FnD C a ps o fd b c co vs t → RSs 60 fd.scope b body → FnAt C a ps body

theorem mem_lookup {α : Type} : ∀ {l : List (Str × α)} {x : Str} {c : α}, (x, c) ∈ l → (l.lookup x).isSome = true
  | (k, v) :: r, x, c, h => by
    rw [List.lookup_cons]
    cases hb : x == k with
    | true => rfl
    | false => exact mem_lookup ((List.mem_cons.mp h).resolve_left fun e => by have e : x = k := congrArg Prod.fst e; rw [e, beq_self_eq_true] at hb; exact noB hb.symm)
theorem cellsFrom_acc : ∀ (names : List (Str × NameKind)) (k : Nat) (acc : List (Str × Addr)) (p : Str × Addr), p ∈ acc → p ∈ cellsFrom k names acc
  | [], _, _, _, h => h
  | (x, kd) :: r, k, acc, p, h => by
    show p ∈ (if kd == .cell then cellsFrom (k + 1) r ((x, k) :: acc) else cellsFrom k r acc)
    cases kd == .cell with
    | true => exact cellsFrom_acc r _ _ p (List.mem_cons_of_mem _ h)
    | false => exact cellsFrom_acc r _ _ p h
theorem cellsFrom_mem : ∀ (names : List (Str × NameKind)) (k : Nat) (acc : List (Str × Addr)) (x : Str), names.lookup x = some .cell → ∃ c, (x, c) ∈ cellsFrom k names acc
  | (y, kd) :: r, k, acc, x, h => by
    rw [List.lookup_cons] at h
    show ∃ c, (x, c) ∈ (if kd == .cell then cellsFrom (k + 1) r ((y, k) :: acc) else cellsFrom k r acc)
    cases hb : x == y with
    | true =>
      rw [hb] at h
      rw [show kd = .cell from Option.some.inj h, eq_of_beq hb]
      exact ⟨k, cellsFrom_acc r _ _ _ List.mem_cons_self⟩
    | false =>
      rw [hb] at h
      cases kd == .cell with
      | true => exact cellsFrom_mem r _ _ x h
      | false => exact cellsFrom_mem r _ _ x h
theorem cells_have {names : List (Str × NameKind)} {k : Nat} {x : Str} (h : names.lookup x = some .cell) : ((cellsFrom k names []).lookup x).isSome = true := let ⟨_, hc⟩ := cellsFrom_mem names k [] x h; mem_lookup hc

/- what a table of a frame knows of the small one -/
noncomputable def Rel (X σ : List Addr) (h : Heap) (kindOf : Str → Option NameKind) (kd : NameKind) (r : Rho) (m : Str → Option Value) : Prop := ∀ x v, r x = some v → kindOf (nm x) = some kd → ∃ w, m (nm x) = some w ∧ VR X σ h v w
theorem Rel.upd {X : List Addr} {h : Heap} {kindOf : Str → Option NameKind} {kd : NameKind} {r : Rho} {m : Str → Option Value} {p : String} {v : V} {w : Value} (R : Rel X σ h kindOf kd r m) (hv : VR X σ h v w) : Rel X σ h kindOf kd (upd r p v) (fun x => if x = nm p then some w else m x) := fun x u hx hkx =>
  upd_get hx (fun e1 e2 => ⟨w, by rw [e1]; exact if_pos rfl, e2 ▸ hv⟩) fun hne hx => (R x u hx hkx).elim fun w' g => ⟨w', (upd_str hne).trans g.1, g.2⟩
theorem Rel.skip {X : List Addr} {h : Heap} {kindOf : Str → Option NameKind} {kd : NameKind} {r : Rho} {m : Str → Option Value} {p : String} {v : V} (R : Rel X σ h kindOf kd r m) (hk : kindOf (nm p) ≠ some kd) : Rel X σ h kindOf kd (Mine.upd r p v) m := fun x u hx hkx =>
  upd_get hx (fun e1 _ => absurd (e1 ▸ hkx) hk) fun _ hx => R x u hx hkx
theorem bind_rel {X : List Addr} {h : Heap} {kindOf : Str → Option NameKind} : ∀ (ps : List String) (vs : List V) (ws : List Value) (r : Rho) (m cm : Str → Option Value), VRs X σ h vs ws → ps.length = vs.length →
    (∀ x ∈ ps, kindOf (nm x) = some .local ∨ kindOf (nm x) = some .cell) → Rel X σ h kindOf .local r m → Rel X σ h kindOf .cell r cm →
    Rel X σ h kindOf .local (updL r ps vs) (bindL kindOf ((ps.map nm).zip ws) m) ∧ Rel X σ h kindOf .cell (updL r ps vs) (bindC kindOf ((ps.map nm).zip ws) cm)
  | [], [], ws, r, m, cm, hv, _, _, h1, h2 => ⟨h1, h2⟩
  | p :: ps, v :: vs, ws, r, m, cm, hv, hl, hk, h1, h2 => by
    cases hv with | cons hv hvs =>
    rename_i w ws
    refine bind_rel ps vs ws _ _ _ hvs (Nat.succ.inj hl) (fun x hx => hk x (List.mem_cons_of_mem _ hx)) ?_ ?_
    · rcases hk p List.mem_cons_self with q | q
      · rw [if_pos q]; exact h1.upd hv
      · rw [if_neg (by rw [q]; decide)]; exact h1.skip (by rw [q]; decide)
    · rcases hk p List.mem_cons_self with q | q
      · rw [if_pos q]; exact h2.skip (by rw [q]; decide)
      · rw [if_neg (by rw [q]; decide)]; exact h2.upd hv

noncomputable abbrev frameOf (fd : FuncData) (s : Shared) (fn : Option Addr) : Env := newEnv fd.scope s.heap.objs.size fd.globals (cellsFrom (s.heap.objs.size + 1) fd.scope.names []) fd.qualname fn fd.code none fd.builtins
theorem KindOK.frame {fd : FuncData} {env : Env} (hk : ∀ y, env.kindOf y = fd.scope.names.lookup y) (hc : ∀ y, fd.scope.names.lookup y = some .cell → (env.cells.lookup y).isSome = true) (free : ∀ x, fd.scope.names.lookup x ≠ some .free) (hcode : isGlob fd.scope (nm "_twin_re_1") = true → env.code = .ref 68) : KindOK fd.scope env := by
  have hd : ∀ x, isDeref fd.scope x = true → fd.scope.names.lookup x = some .cell := fun x h => ((Bool.or_eq_true _ _).mp h).elim eq_of_beq fun h => absurd (eq_of_beq h) (free x)
  exact ⟨fun y h => (hk y).trans (eq_of_beq h), fun y h => .inl ((hk y).trans (hd y h)), fun y h => (hk y).trans h, fun y h => (hk y).trans (eq_of_beq h), fun y h => hc y (hd y h), hcode⟩

/- a call of a function of the text: what its body does in a new frame -/
theorem call_body {a : Addr} {ps : List String} {vs : List V} {ws : List Value} {v : V} {H' : Hp} {o : Obj} {fd : FuncData} {b : List Stmt} {c : Addr} {co : Obj} {cvs : Array Value} {t : Tok} (D : FnD C a ps o fd b c co cvs t)
    (hlim : ∀ h, Over C h → h.NoLimit) (hlen : ps.length = vs.length) (I : Inv C σ H s) (hr : VRs C.X σ s.heap vs ws) (R : Room (n + 1) A)
    (hrun : ∀ env s', EnvOK C σ s' env (updL rnil ps vs) → KindOK fd.scope env → Inv C σ H s' → wpAny (model prog w) (A.deeper env) (execs b env) (fun f s'' => ∃ σ', StepW C (ownOf env) σ s' σ' H' s'' ∧ ∃ y, f = .ret y ∧ VR C.X σ' s''.heap v y) F0 s') :
    wpAny (model prog w) A (call (.ref a) ws) (Ok C σ s H' v) F0 s := by
  refine wpAny_call (codeAny_call_function (o := o) (fd := fd) (body := b) R.depth_lt (I.keep a o D.fo D.faX) D.fdat D.fco D.fgen D.fb ⟨c, co, cvs, t, D.fc1, I.keep c co D.fc2 D.fc3, D.fc4, D.fc5⟩ ?_)
  rw [D.fbind ws (by rw [← hr.length, hlen]), D.fcl]
  refine wpAny_pure (wpAny_newFunctionEnv_cells D.fk (fun x hx => ?_) fun env he s' x => ?_)
  · obtain ⟨y, hy, e1⟩ := List.mem_map.mp (List.of_mem_zip (a := x.1) (b := x.2) hx).1
    exact e1 ▸ (D.fkind y hy).imp_right fun q => ⟨q, cells_have q⟩
  have hkeep := x.toInCall.keep
  have S1 : Step C σ s σ H s' := x.done.elim fun h' h => h.elim fun tk h => I.keeps hkeep ((congrArg Shared.gens h.1).trans rfl) ((congrArg Shared.os h.1).trans rfl)
  have hkO : ∀ y, env.kindOf y = fd.scope.names.lookup y := he ▸ fun _ => rfl
  have hcells : env.cells = cellsFrom (s.heap.objs.size + 1) fd.scope.names [] := he ▸ rfl
  have hloc : env.locals = s.heap.objs.size := he ▸ rfl
  have hhave : ∀ y, fd.scope.names.lookup y = some .cell → (env.cells.lookup y).isSome = true := fun y h => hcells ▸ cells_have h
  have hfr : ∀ q ∈ ownOf env, s.heap.get? q = none := fun q hq => by
    cases e : s.heap.get? q with
    | none => rfl
    | some o' =>
      refine absurd (Heap.lt_size e) (Nat.not_lt.mpr (hloc ▸ ?_))
      rcases List.mem_cons.mp hq with hq | hq
      · exact Nat.le_of_eq hq.symm
      · obtain ⟨z, hz, hq⟩ := List.mem_map.mp hq
        exact hq ▸ Nat.le_of_lt (x.above z.1 z.2 hz)
  have hrel := bind_rel (X := C.X) (h := s'.heap) (σ := σ) (kindOf := env.kindOf) ps vs ws rnil (fun _ => none) (fun _ => none) (S1.vrs hr) hlen (fun y hy => hkO (nm y) ▸ D.fkind y hy) (fun x v h => no h) (fun x v h => no h)
  have V : EnvOK C σ s' env (updL rnil ps vs) :=
    ⟨he ▸ D.fk, he ▸ D.fg, he ▸ D.fbl, ⟨_, x.toInCall.ns, hrel.1⟩, fun z u hz hkz => by
      have hkc : env.kindOf (nm z) = some .cell := hkz.resolve_right fun q => D.ffree _ ((hkO _).symm.trans q)
      obtain ⟨w', g1, g2⟩ := hrel.2 z u hz hkc
      obtain ⟨c', hc'⟩ := Option.isSome_iff_exists.mp (hhave _ ((hkO _).symm.trans hkc))
      exact ⟨c', w', hc', g1 ▸ x.cell _ _ hc', g2⟩, fun z hkz => by
      obtain ⟨c', hc'⟩ := Option.isSome_iff_exists.mp (hhave _ ((hkO _).symm.trans hkz))
      exact ⟨c', _, hc', x.cell _ _ hc'⟩, fun q hq => by
      have hn := hfr q hq
      refine ⟨I.notσ_fresh hn, I.notX_fresh hn, I.notB_fresh hn, ?_⟩
      rcases List.mem_cons.mp hq with e | hq
      · obtain ⟨o', es, ep, e1, e2, _⟩ := x.toInCall.ns
        exact e ▸ ⟨o', e1, notVal_dict e2⟩
      · obtain ⟨z, hz, e⟩ := List.mem_map.mp hq
        have hl : env.cells.lookup z.1 = some z.2 := lookup_of_mem_nodup (by rw [hcells]; exact cellsFrom_names fd.scope.names 0 (s.heap.objs.size + 1) [] [] rfl ▸ D.fnd) hz
        obtain ⟨o', e1, e2⟩ := x.cell _ _ hl
        exact e ▸ ⟨o', e1, notVal_cell e2⟩, fun a b c h1 h2 => name_of_addr x.apart (mem_of_lookup h1) (mem_of_lookup h2), fun p hp => Nat.ne_of_gt (x.above p.1 p.2 hp)⟩
  refine ⟨hlim _ (fun b o e h => hkeep b o (I.keep b o e h)), codeAny_func ?_⟩
  exact wpAny_mono (hrun env s' V (.frame hkO hhave D.ffree (he ▸ D.fcode)) S1.inv) (fun f s'' h => h.elim fun σ' h => h.2.elim fun y g => g.1 ▸ ⟨σ', ((S1.wide).trans h.1).drop hfr, g.2⟩) fun _ _ h => h.elim

theorem call_fn (N : Sound C P prog w n) {a : Addr} {ps : List String} {body : List S} {vs : List V} {ws : List Value} {v : V} {r' : Rho} {H' : Hp} (F : FnAt C a ps body) (hlim : ∀ h, Over C h → h.NoLimit) (hlen : ps.length = vs.length)
    (e : exs P n body (updL rnil ps vs) H = some (.ret v, r', H')) (I : Inv C σ H s) (hr : VRs C.X σ s.heap vs ws) (R : Room (n + 1) A) : wpAny (model prog w) A (call (.ref a) ws) (Ok C σ s H' v) F0 s :=
  F.casesOn fun D hbody => call_body D hlim hlen I hr R fun env s' V K I' => N.xsE hbody K V I' R.deeper e fun f s'' σ' S' _ fr => by
    cases fr with | ret hv => exact ⟨σ', S', _, rfl, hv⟩
end Mine
end

section
set_option Elab.async false
set_option linter.all false
namespace Mine
open PySem PySem.W PyProof.Rows PySem.Spec PySem.Calls

variable {C : Cx} {prog : Program} {w : World} {A : Around} {σ : List Addr} {H : Hp} {s : Shared} {E : Value → Shared → Prop}
variable {P : Prog} {n m : Nat} {sc : Scope} {env : Env} {r : Rho}

noncomputable def KeepK (prog : Program) (w : World) (fv : Value) (h : Heap) : Prop := ∃ k, (k = Keeper.frame ∨ k = Keeper.machine ∨ k = Keeper.boundFrame) ∧ Looks (model prog w) h (keeperOf fv) k
noncomputable def CallOK (C : Cx) (prog : Program) (w : World) (f : String) (fv : Value) : Prop := ∀ {args H v H'}, pGlob f args H = some (v, H') → ∀ {A σ s ws}, Room 3 A → Inv C σ H s → VRs C.X σ s.heap args ws → wpAny (model prog w) A (call fv ws) (Ok C σ s H' v) F0 s

structure Facts (C : Cx) (P : Prog) (prog : Program) (w : World) : Prop where
  nolim : ∀ h, Over C h → h.NoLimit
  fn : ∀ f ps body, P f = some (ps, body) → f ≠ "is_suburi" → ∃ a, GOK C prog w f (.ref a) ∧ FnAt C a ps body
  glob : ∀ f, P f = none → (∃ args H v H', pGlob f args H = some (v, H')) → ∃ fv, GOK C prog w f fv ∧ CallOK C prog w f fv
  rng : GOK C prog w "range" (.type "range")
  meth : ∀ ps body, P "is_suburi" = some (ps, body) → ∃ a, FnAt C a ps body ∧ ∀ {A σ H s i x pl} {Q : Value × List Value → Shared → Prop}, Inv C σ H s → H[i]? = some (.obj true) → VR C.X σ s.heap (.mgr i) x → Q (.ref a, [x]) s → wpAny (model prog w) A (getMethod x (nm "is_suburi") pl) Q F0 s
  attr : ∀ {A σ H s i xs x}, Inv C σ H s → hGet H i = some xs → VR C.X σ s.heap (.ref i) x → wpAny (model prog w) A (getAttr x (nm "append") true) (Ok C σ s H (.app i)) F0 s
  app : ∀ {A σ H s i xs v y b}, Inv C σ H s → Room 1 A → hGet H i = some xs → xs.length ≤ lim → VR C.X σ s.heap (.app i) b → VR C.X σ s.heap v y → wpAny (model prog w) A (call b [y]) (Ok C σ s (hSet H i (xs ++ [v])) .none) F0 s
  joinGen : ∀ {A σ H s sc x env r i xs l}, isJG sc x → KindOK sc env → EnvOK C σ s env r → Inv C σ H s → Room 2 A → r "chunks" = some (.ref i) → hGet H i = some xs → strsOf xs = some l → (l.all (fun s => !s.contains 92 && !s.contains 45)) = true →
    ∀ {v}, joinOf [45] xs = some v → wpAny (model prog w) A (eval x env) (Ok C σ s H v) F0 s
  resub : ∀ {A σ H s sc x xp m ap la lb ls lp y cp env r l H'}, ReOK sc x m ap la ls cp → (starEach [y] env = [(false, eval y env)]) → KindOK sc env → EnvOK C σ s env r → Inv C σ H s → Room 2 A →
    (∀ σ1 s1, Step C σ s σ1 H s1 → wpAny (model prog w) A (eval y env) (Ok C σ1 s1 H' (.str l)) F0 s1) → l ∈ five →
    wpAny (model prog w) A (eval (.Call (.Attribute (.Name x xp) m ap) [.Lambda la lb ls lp, y] [] cp) env) (Ok C σ s H' (.str l)) F0 s

theorem Inv.over (I : Inv C σ H s) : Over C s.heap := fun b o e h => I.keep b o e h

theorem load_glob {x : Str} {Q : Value → Shared → Prop} (hk : env.scope.kind = .function) (hx : env.kindOf x = some .globalImplicit) (h : wpAny (model prog w) A (loadGlobal env x) Q E s) : wpAny (model prog w) A (loadName env x) Q E s := by
  unfold loadName
  simp only [Env.blockKind, hk, hx, ScopeKind.isAnnotationScope, Bool.false_and, Bool.false_eq_true, if_false]
  exact h

theorem noStars (pos : Pos) : ∀ (m : Nat) (xs : List Expr) (as : List Mine.E), REs m sc xs as → ((backTo pos (starEach xs env)).any (·.1)) = false ∧ ((backTo pos (starEach xs env)).all (fun x => !x.1)) = true
  | 0, _, _, h => no h
  | _ + 1, [], _, _ => ⟨rfl, rfl⟩
  | n + 1, x :: xs, _, h => bindE h fun a h1 h => bindE (f := fun l => some (a :: l)) (x := cEs n sc xs) (by rw [← h]; exact (Option.map_eq_bind ..).symm) fun l h2 _ => by
    have ih := noStars pos n xs l h2
    rw [star_cons h1]
    exact ih
theorem noStar {xs : List Expr} {as : List Mine.E} (h : REs m sc xs as) (pos : Pos) : ((backTo pos (starEach xs env)).any (·.1)) = false := (noStars pos m xs as h).1
theorem eargs {xs : List Expr} {as : List Mine.E} {f : Value} {pos : Pos} {Q : Args → Shared → Prop} (h : REs m sc xs as) (g : wpAny (model prog w) A (spliced (backTo pos (starEach xs env))) (fun ws s1 => Q ⟨ws, []⟩ s1) E s) :
    wpAny (model prog w) A (evalArgs f true (backTo pos (starEach xs env)) []) Q E s := by
  revert g
  refine REs.view (G := fun xs _ => wpAny (model prog w) A (spliced (backTo pos (starEach xs env))) (fun ws s1 => Q ⟨ws, []⟩ s1) E s → wpAny (model prog w) A (evalArgs f true (backTo pos (starEach xs env)) []) Q E s) h (fun g => ?_) fun x a xs as h1 h2 g => ?_
  · unfold evalArgs
    show wpAny _ A (spliced [] >>= _) Q E s
    exact wpAny_bind (wpAny_mono g (fun vs s' h' => wpAny_bind (wpAny_pure (wpAny_holding (wpAny_bind (wpAny_pure (wpAny_bind (wpAny_pure (wpAny_pure h')))))))) fun _ _ x => x)
  · rw [star_cons h1] at g ⊢
    exact evalArgs_plain g

/- calling a value whose keeper is known, once the arguments are there -/
theorem call_args (N : Sound C P prog w n) {xs : List Expr} {as : List Mine.E} {fv : Value} {first : List Value} {pos : Pos} {vs : List V} {H1 : Hp} {Q : Value → Shared → Prop} (hR : REs m sc xs as) (K : KindOK sc env) (V : EnvOK C σ s env r) (I : Inv C σ H s) (R : Room n A)
    (e : evs P n as r H = some (vs, H1)) (PP : Heap → Prop) (hk : ∀ h, PP h → KeepK prog w fv h)
    (h : ∀ ws s1 σ1, Step C σ s σ1 H1 s1 → VRs C.X σ1 s1.heap vs ws → PP s1.heap ∧ wpAny (model prog w) A (call fv (first ++ ws)) Q F0 s1) :
    wpAny (model prog w) A (callWith pos fv first (backTo pos (starEach xs env)) []) Q F0 s :=
  callWith_of (P := PP) (by rw [noStar hR]; rfl) hk (eargs hR (N.esE hR K V I R e h))

theorem Room.le {n m : Nat} {A : Around} (R : Room n A) (h : m ≤ n) : Room m A := ⟨R.handled, by have := R.depth; (first | lia | omega), by have := R.units; (first | lia | omega)⟩

theorem callG_e (N : Sound C P prog w n) (F : Facts C P prog w) {t : String} {p cp : Pos} {xs : List Expr} {as : List Mine.E} (hd : dbg (nm t)) (hg : isGlob sc (nm t) = true) (h1 : REs m sc xs as) : EvOK C P prog w (n + 1) sc (.Call (.Name (nm t) p) xs [] cp) (.callG t as) := fun env r σ H s A v H' K V I R e =>
  bindP e fun vs H1 e1 e => by
  have key : ∀ fv {Q}, GOK C prog w t fv → (∀ ws s1 σ1, Step C σ s σ1 H1 s1 → VRs C.X σ1 s1.heap vs ws → wpAny (model prog w) A (call fv ws) Q F0 s1) → wpAny (model prog w) A (eval (.Call (.Name (nm t) p) xs [] cp) env) Q F0 s := fun fv {Q} G h =>
    wpAny_Call_NameR (wpAny_Name (load_glob V.kind (K.glo _ hg) (G.load I.over V.globals V.builtins (call_args (first := []) N h1 K V I R.pred e1 (Over C) G.keep fun ws s1 σ1 S1 r1 => ⟨S1.inv.over, h ws s1 σ1 S1 r1⟩))) hd)
  cases hP : P t with
  | some pb =>
    simp only [hP] at e
    exact iteP e fun hlen e => bindT3 e fun f r' H2 e3 e => mapR (G := fun v H' => wpAny (model prog w) A (eval (.Call (.Name (nm t) p) xs [] cp) env) (Ok C σ s H' v) F0 s) e fun u hu => (F.fn t pb.1 pb.2 hP hlen.2).elim fun a g => key (.ref a) g.1 fun ws s1 σ1 S1 r1 => Ok.then S1 (call_fn N g.2 F.nolim hlen.1 (retE (G := fun f => exs P n pb.2 (updL rnil pb.1 vs) H1 = some (f, r', H2) → exs P n pb.2 (updL rnil pb.1 vs) H1 = some (.ret u, r', H2)) hu id e3) S1.inv r1 R)
  | none =>
    simp only [hP] at e
    exact iteP e fun hn2 e => (F.glob t hP ⟨_, _, _, _, e⟩).elim fun fv g => key fv g.1 fun ws s1 σ1 S1 r1 => Ok.then S1 (g.2 e (R.le (Nat.succ_le_succ hn2)) S1.inv r1)

theorem load_loc {x : String} {v : V} (V : EnvOK C σ s env r) (I : Inv C σ H s) (hr : r x = some v) (hk : env.kindOf (nm x) = some .local) : wpAny (model prog w) A (loadName env (nm x)) (Ok C σ s H v) F0 s :=
  V.loc.elim fun m h => (h.2 x v hr hk).elim fun w g => wpAny_loadName_local V.kind hk h.1 g.1 (Ok.same I g.2)

theorem one_vr {X : List Addr} {h : Heap} {v : V} {ws : List Value} {G : List Value → Prop} (r : VRs X σ h [v] ws) (g : ∀ w, VR X σ h v w → G [w]) : G ws := by
  cases r with | cons a r =>
  cases r
  exact g _ a
theorem two_vr {X : List Addr} {h : Heap} {v u : V} {ws : List Value} {G : List Value → Prop} (r : VRs X σ h [v, u] ws) (g : ∀ w x, VR X σ h v w → VR X σ h u x → G [w, x]) : G ws := by
  cases r with | cons a r => exact one_vr (G := fun r => G (_ :: r)) r fun x b => g _ x a b
theorem three_vr {X : List Addr} {h : Heap} {v u t : V} {ws : List Value} {G : List Value → Prop} (r : VRs X σ h [v, u, t] ws) (g : ∀ w x y, VR X σ h v w → VR X σ h u x → VR X σ h t y → G [w, x, y]) : G ws := by
  cases r with | cons a r => exact two_vr (G := fun r => G (_ :: r)) r fun x y b c => g _ x y a b c
theorem app_inv {X : List Addr} {h : Heap} {i : Nat} {b : Value} {G : Value → Prop} (r : VR X σ h (.app i) b) (g : ∀ b' a, h.get? b' = some { cls := .type "builtin_function_or_method", data := .fields #[.builtin "list.append", .ref a] } → b' ∉ σ → b' ∉ X → G (.ref b')) : G b := by
  cases r with | app _ a b' g1 g2 g3 g4 => exact g b' a g2 g3 g4

theorem callL_e (N : Sound C P prog w n) (F : Facts C P prog w) {t : String} {p cp : Pos} {xs : List Expr} {as : List Mine.E} (hd : dbg (nm t)) (hg : isLocal sc (nm t) = true) (h1 : REs m sc xs as) : EvOK C P prog w (n + 1) sc (.Call (.Name (nm t) p) xs [] cp) (.callL t as) := fun env r σ H s A v H' K V I R e =>
  bindP e fun vs H1 e1 e => bindE e fun u hr e => bindE e fun i hi e => bindE e fun x hx e => bindE e fun xs' e3 e => chkE e fun hl e => someR (G := fun v H' => wpAny (model prog w) A (eval (.Call (.Name (nm t) p) xs [] cp) env) (Ok C σ s H' v) F0 s) e
  (appE (G := fun u => r t = some u → wpAny (model prog w) A (eval (.Call (.Name (nm t) p) xs [] cp) env) (Ok C σ s (hSet H1 i (xs' ++ [x])) .none) F0 s) hi (fun hr =>
  wpAny_Call_NameR (wpAny_Name (okE (load_loc V I hr (K.loc _ hg)) fun b s1 σ1 S1 r1 => app_inv (G := fun b => VR C.X σ1 s1.heap (.app i) b → wpAny (model prog w) A (callWith cp b [] (backTo cp (starEach xs env)) []) (Ok C σ s (hSet H1 i (xs' ++ [x])) .none) F0 s1) r1 (fun b' a g2 g3 g4 r1 =>
    call_args (first := []) N h1 K (S1.env V) S1.inv R.pred e1 (fun h => h.get? b' = some { cls := .type "builtin_function_or_method", data := .fields #[.builtin "list.append", .ref a] }) (fun h hh => ⟨.machine, .inr (.inl rfl), (Looks.ld (part := none) hh).andThen .now⟩) fun ws s2 σ2 S2 r2 =>
      ⟨S2.pres _ _ g2 g3 g4 (fun h => nomatch h), (oneE (G := fun vs => VRs C.X σ2 s2.heap vs ws → _) hx fun r2 => one_vr (G := fun ws => wpAny (model prog w) A (call (.ref b') ([] ++ ws)) (Ok C σ s (hSet H1 i (xs' ++ [x])) .none) F0 s2) r2 fun y r2 => Ok.then (S1.trans S2) (F.app S2.inv (R.le (Nat.succ_le_succ (Nat.zero_le _))) e3 hl (S2.vr r1) r2)) r2⟩) r1) hd)) hr)
end Mine
end

section
set_option Elab.async false
set_option linter.all false
namespace Mine
open PySem PySem.W PyProof.Rows PySem.Spec PySem.Calls

variable {C : Cx} {prog : Program} {w : World} {A : Around} {σ : List Addr} {H : Hp} {s : Shared} {E : Value → Shared → Prop}
variable {P : Prog} {n m : Nat} {sc : Scope} {env : Env} {r : Rho}

theorem base_bare {o : Expr} {m : Str} {t : Sem Value} (h : bare o = true) : attributeBase o m env t = t := by
  cases o <;> first | rfl | exact noB h

theorem call_any {o : Expr} {name : Str} {apos pos : Pos} {args : List Expr} {as : List Mine.E} {Q : Value → Shared → Prop} (hbase : bare o = true) (hR : REs m sc args as) (hlen : args.length < 29) (hline : (apos.endLine == pos.line) = true)
    (h : wpAny (model prog w) A (eval o env) (fun ov s₁ => ∀ pl, wpAny (model prog w) A (getMethod ov name pl) (fun p s₂ => wpAny (model prog w) A (callWith pos p.1 p.2 (backTo pos (starEach args env)) []) Q E s₂) E s₁) E s) :
    wpAny (model prog w) A (eval (.Call (.Attribute o name apos) args [] pos) env) Q E s := by
  rw [arm_eval_Call, base_bare hbase]
  refine wpAny_bind (wpAny_mono h (fun ov s₁ h₁ => ?_) fun _ _ e => e)
  refine wpAny_bind (wpAny_standAt ?_)
  have hform : methodCallForm (args.length + ([] : List Keyword).length) (backTo pos (starEach args env)) (backToKw pos (keywordEach [] env)) = true := by
    unfold methodCallForm
    rw [(noStars pos m args as hR).2]
    exact decide_eq_true (show args.length + 0 + 0 < 30 from Nat.lt_succ_of_lt hlen)
  have hpos : methodCallPos true o env apos pos = pure pos := by unfold methodCallPos; simp [hline]
  unfold methodCall
  rw [hform]
  exact wpAny_bind (wpAny_holding (wpAny_mono (h₁ _) (fun p s₂ h₂ => wpAny_bind (wpAny_of_eq hpos h₂)) fun _ _ e => e))

theorem builtin_keep {id : String} (h : Heap) : KeepK prog w (.builtin id) h := ⟨.machine, .inr (.inl rfl), Looks.of_pure rfl⟩

noncomputable def TypG (T : String) (s : Shared) (x : Value) : Prop := s.TypeIs x T ∧ ∀ q, x = .ref q → ∃ ob, s.heap.get? q = some ob ∧ ob.dict = none
noncomputable def TypT (C : Cx) (T : String) (vo : V) (H1 : Hp) : Prop := ∀ {σ1 s1 x}, Inv C σ1 H1 s1 → VR C.X σ1 s1.heap vo x → TypG T s1 x
noncomputable def MethT (C : Cx) (prog : Program) (w : World) (A : Around) (id : String) (vo : V) (vs : List V) (H2 : Hp) (v : V) (H' : Hp) : Prop := ∀ {σ2 s2 x ws}, Inv C σ2 H2 s2 → VR C.X σ2 s2.heap vo x → VRs C.X σ2 s2.heap vs ws → wpAny (model prog w) A (call (.builtin id) (x :: ws)) (Ok C σ2 s2 H' v) F0 s2
inductive MethOK (C : Cx) (prog : Program) (w : World) (A : Around) (t : String) (vo : V) (vs : List V) (H1 H2 : Hp) (v : V) (H' : Hp) : Prop
  | mk (T id : String) : PlainAttrs T → Slot T (nm t) id → typeOf (.builtin id) = pure (.type "method_descriptor") → TypT C T vo H1 → MethT C prog w A id vo vs H2 v H' → MethOK C prog w A t vo vs H1 H2 v H'

theorem meth_T (N : Sound C P prog w n) {o : Expr} {t : String} {ap cp : Pos} {args : List Expr} {a : Mine.E} {as : List Mine.E} {v vo : V} {vs : List V} {H1 H2 H' : Hp}
    (hb : bare o = true) (hl : (ap.endLine == cp.line) = true) (hn : args.length < 29) (h1 : RE m sc o a) (h2 : REs m sc args as) (K : KindOK sc env) (V : EnvOK C σ s env r) (I : Inv C σ H s) (R : Room (n + 1) A)
    (e1 : ev P n a r H = some (vo, H1)) (e2 : evs P n as r H1 = some (vs, H2)) (M : MethOK C prog w A t vo vs H1 H2 v H') :
    wpAny (model prog w) A (eval (.Call (.Attribute o (nm t) ap) args [] cp) env) (Ok C σ s H' v) F0 s :=
  M.casesOn fun T id pa slot hty hT hc => call_any hb h2 hn hl (N.eE h1 K V I R.pred e1 fun x s1 σ1 S1 r1 pl => getMethod_builtin (hT S1.inv r1).1 pa slot hty (hT S1.inv r1).2
    (call_args (first := [x]) N h2 K (S1.env V) S1.inv R.pred e2 (fun _ => True) (fun h _ => builtin_keep h) fun ws s2 σ2 S2 r2 => ⟨trivial, Ok.then (S1.trans S2) (hc S2.inv (S2.vr r1) r2)⟩))

theorem str_T {l : List Nat} : TypT C "str" (.str l) H := fun {_ s1 _} _ hv => VR.strE (G := TypG "str" s1) hv fun _ _ => ⟨typeIs_str _ _ _, fun q h => nomatch h⟩
theorem list_T {i : Nat} (hok : (hGet H i).isSome = true) : TypT C "list" (.ref i) H := fun {_ s1 _} I hv => (Option.isSome_iff_exists.mp hok).elim fun xs hx => I.listE (G := TypG "list" s1) hx hv fun p vs n _ g _ _ _ => ⟨⟨_, g, rfl⟩, fun q h => (Value.ref.inj h) ▸ ⟨_, g, rfl⟩⟩

theorem isMgr_is {i : Nat} (h : isMgr H i = true) : H[i]? = some (.obj true) := by
  have h : (match H[i]? with | some (.obj true) => true | _ => false) = true := h
  cases e : H[i]? with
  | none => rw [e] at h; exact noB h
  | some y => cases y with
    | lst xs => rw [e] at h; exact noB h
    | obj k => cases k with
      | true => rfl
      | false => rw [e] at h; exact noB h

theorem meth_ok {vo : V} {vs : List V} {t : String} {H1 H2 H' : Hp} {v : V} (hok : okRecv vo H1 = true) (e : pMeth vo t vs H2 = some (v, H')) : MethOK C prog w A t vo vs H1 H2 v H' := by
  cases vo with
  | ref i =>
    refine ite2 (c := t = "append") e (fun ht e => ht ▸ bindE e fun x hx e => oneE (G := fun vs => MethOK C prog w A "append" (.ref i) vs H1 H2 v H') hx (bindE e fun xs e4 e => chkE e fun hlim e => someR (G := fun v H' => MethOK C prog w A "append" (.ref i) [x] H1 H2 v H') e (.mk _ _ PySem.F.plainAttrs_list slot_list_append PySem.F.type_list_append (list_T hok) fun I2 rx r2 => one_vr (G := fun ws => wpAny (model prog w) A (call (.builtin "list.append") (_ :: ws)) _ F0 _) r2 fun y r2 => append_ok e4 hlim I2 rx r2))) fun _ e => iteP e fun ht e => ht ▸ bindE e fun x hx e => oneE (G := fun vs => MethOK C prog w A "extend" (.ref i) vs H1 H2 v H') hx (bindE e fun j hj e => refE (G := fun x => MethOK C prog w A "extend" (.ref i) [x] H1 H2 v H') hj (iteN e fun hij e => bindE e fun xs e4 e => bindE e fun ys e5 e => chkE e fun hlim e => someR (G := fun v H' => MethOK C prog w A "extend" (.ref i) [.ref j] H1 H2 v H') e (.mk _ _ PySem.F.plainAttrs_list PySem.F.slot_list_extend PySem.F.type_list_extend (list_T hok) fun I2 rx r2 => one_vr (G := fun ws => wpAny (model prog w) A (call (.builtin "list.extend") (_ :: ws)) _ F0 _) r2 fun y r2 => extend_ok hij e4 e5 hlim I2 rx r2)))
  | str l =>
    refine ite2 (c := t = "join") e (fun ht e => ht ▸ bindE e fun x hx e => oneE (G := fun vs => MethOK C prog w A "join" (.str l) vs H1 H2 v H') hx (bindE e fun j hj e => refE (G := fun x => MethOK C prog w A "join" (.str l) [x] H1 H2 v H') hj (bindE e fun xs e4 e => mapR (G := fun v H' => MethOK C prog w A "join" (.str l) [.ref j] H1 H2 v H') e fun u e5 => .mk _ _ PySem.F.plainAttrs_str PySem.F.slot_str_join PySem.F.type_str_join str_T fun I2 rx r2 => one_vr (G := fun ws => wpAny (model prog w) A (call (.builtin "str.join") (_ :: ws)) _ F0 _) r2 fun y r2 => join_ok e4 e5 I2 rx r2))) fun _ e => ?_
    refine ite2 (c := t = "find") e (fun ht e => ht ▸ bindE e fun p hp e => threeE (G := fun vs => MethOK C prog w A "find" (.str l) vs H1 H2 v H') hp (bindE e fun c hc e => strE (G := fun x => MethOK C prog w A "find" (.str l) [x, p.2.1, p.2.2] H1 H2 v H') hc (bindE e fun c1 hc1 e => oneE (G := fun c => MethOK C prog w A "find" (.str l) [.str c, p.2.1, p.2.2] H1 H2 v H') hc1 (bindE e fun k hk e => intE (G := fun x => MethOK C prog w A "find" (.str l) [.str [c1], x, p.2.2] H1 H2 v H') hk (bindE e fun j hj e => intE (G := fun x => MethOK C prog w A "find" (.str l) [.str [c1], .int k, x] H1 H2 v H') hj (iteP e fun hkj e => andE hkj fun g1 g2 => someR (G := fun v H' => MethOK C prog w A "find" (.str l) [.str [c1], .int k, .int j] H1 H2 v H') e (.mk _ _ PySem.F.plainAttrs_str PySem.F.slot_str_find PySem.F.type_str_find str_T fun I2 rx r2 => three_vr (G := fun ws => wpAny (model prog w) A (call (.builtin "str.find") (_ :: ws)) _ F0 _) r2 fun y1 y2 y3 r2 r3 r4 => find_ok (of_decide_eq_true g1) (of_decide_eq_true g2) I2 rx r2 r3 r4))))))) fun _ e => ?_
    refine ite2 (c := t = "replace") e (fun ht e => ht ▸ bindE e fun p hp e => twoE (G := fun vs => MethOK C prog w A "replace" (.str l) vs H1 H2 v H') hp (bindE e fun c hc e => strE (G := fun x => MethOK C prog w A "replace" (.str l) [x, p.2] H1 H2 v H') hc (bindE e fun c1 hc1 e => oneE (G := fun c => MethOK C prog w A "replace" (.str l) [.str c, p.2] H1 H2 v H') hc1 (bindE e fun z hz e => strE (G := fun x => MethOK C prog w A "replace" (.str l) [.str [c1], x] H1 H2 v H') hz (iteN e fun hc e => someR (G := fun v H' => MethOK C prog w A "replace" (.str l) [.str [c1], .str z] H1 H2 v H') e (.mk _ _ PySem.F.plainAttrs_str PySem.F.slot_str_replace PySem.F.type_str_replace str_T fun I2 rx r2 => two_vr (G := fun ws => wpAny (model prog w) A (call (.builtin "str.replace") (_ :: ws)) _ F0 _) r2 fun y1 y2 r2 r3 => replace_ok (Bool.eq_false_iff.mpr hc) I2 rx r2 r3)))))) fun _ e => ?_
    exact iteP e fun ht e => ht ▸ bindE e fun x hx e => oneE (G := fun vs => MethOK C prog w A "startswith" (.str l) vs H1 H2 v H') hx (mapR (G := fun v H' => MethOK C prog w A "startswith" (.str l) [x] H1 H2 v H') e fun z hz => strE (G := fun x => MethOK C prog w A "startswith" (.str l) [x] H1 H2 (.bool (z.isPrefixOf l)) H2) hz (.mk _ _ PySem.F.plainAttrs_str PySem.F.slot_str_startswith PySem.F.type_str_startswith str_T fun I2 rx r2 => one_vr (G := fun ws => wpAny (model prog w) A (call (.builtin "str.startswith") (_ :: ws)) _ F0 _) r2 fun y r2 => startswith_ok I2 rx r2))
  | _ => exact no e

theorem meth_e (N : Sound C P prog w n) (F : Facts C P prog w) {o : Expr} {t : String} {ap cp : Pos} {args : List Expr} {a : Mine.E} {as : List Mine.E}
    (hb : bare o = true) (hl : (ap.endLine == cp.line) = true) (hn : args.length < 29) (h1 : RE m sc o a) (h2 : REs m sc args as) : EvOK C P prog w (n + 1) sc (.Call (.Attribute o (nm t) ap) args [] cp) (.meth a t as) := fun env r σ H s A v H' K V I R e =>
  bindP e fun vo H1 e1 e => bindP e fun vs H2 e2 e => by
  cases hm : vo.mgr? with
  | none =>
    simp only [hm] at e
    exact iteP e fun hok e => meth_T N hb hl hn h1 h2 K V I R e1 e2 (meth_ok hok e)
  | some i =>
    simp only [hm] at e
    refine bindP e fun ps body hP e => iteP e fun hlen e => bindT3 e fun f r' H3 e4 e => mapR (G := fun v H' => wpAny (model prog w) A (eval (.Call (.Attribute o (nm t) ap) args [] cp) env) (Ok C σ s H' v) F0 s) e fun u hu => ?_
    obtain ⟨hlen, ht, hmg⟩ := hlen
    have e4 : exs P n body (updL rnil ps (.mgr i :: vs)) H2 = some (.ret u, r', H3) := retE (G := fun f => exs P n body (updL rnil ps (.mgr i :: vs)) H2 = some (f, r', H3) → exs P n body (updL rnil ps (.mgr i :: vs)) H2 = some (.ret u, r', H3)) hu id e4
    exact (F.meth ps body (ht ▸ hP)).elim fun q g => call_any hb h2 hn hl (N.eE h1 K V I R.pred e1 fun x s1 σ1 S1 r1 pl => (mgrE (G := fun vo => VR C.X σ1 s1.heap vo x → VR C.X σ1 s1.heap (.mgr i) x) hm id r1 : VR C.X σ1 s1.heap (.mgr i) x) |> fun r1 => ht ▸ g.2 S1.inv (isMgr_is hmg) r1
      (call_args (first := [x]) N h2 K (S1.env V) S1.inv R.pred e2 (Over C) (fun h hh => g.1.casesOn fun D _ => ⟨.frame, .inl rfl, (Looks.ld (part := none) (hh q _ D.fo D.faX)).andThen (by rw [D.fdat]; exact .now)⟩) fun ws s2 σ2 S2 r2 => ⟨S2.inv.over, Ok.then (S1.trans S2) (call_fn (vs := .mgr i :: vs) N g.1 F.nolim hlen e4 S2.inv (.cons (S2.vr r1) r2) R)⟩))
end Mine
end

section
set_option Elab.async false
set_option linter.all false
namespace Mine
open PySem PySem.W PyProof.Rows PySem.Spec PySem.Calls

variable {C : Cx} {prog : Program} {w : World} {A : Around} {σ : List Addr} {H : Hp} {s : Shared} {E : Value → Shared → Prop}
variable {P : Prog} {n : Nat} {sc : Scope} {env : Env} {r : Rho}

/- iterators -/
inductive SrcAt (σ : List Addr) (h : Heap) (it : Addr) : Src → Nat → Prop
  | rng (l : List Int) (x st : Int) (n i : Nat) : l = (List.range n).map (fun (j : Nat) => x + (j : Int) * st) → i ≤ n → IsRangeIter h it (x + (i : Int) * st) ((n : Int) - (i : Int)) st → SrcAt σ h it (.ints l) i
  | list (a p i : Nat) : σ[a]? = some p → h.IsListIter it p i → SrcAt σ h it (.list a) i

structure ItOK (C : Cx) (σ : List Addr) (it : Addr) : Prop where
  s : it ∉ σ
  x : it ∉ C.X
  b : C.B.get? it = none

structure ItObj (h : Heap) (it : Addr) (o : Obj) (nme : String) (vs : Array Value) : Prop where
  g : h.get? it = some o
  nv : ¬ ValO o
  c : o.cls = .type nme
  d : o.data = .fields vs
  n : nme = "list_iterator" ∨ nme = "range_iterator"
theorem notVal_fields {o : Obj} {nme : String} (hc : o.cls = .type nme) (hn : nme = "list_iterator" ∨ nme = "range_iterator") : ¬ ValO o := fun q => by
  have q := q.1
  rw [hc] at q
  rcases hn with rfl | rfl <;> simp at q
theorem SrcAt.obj {h : Heap} {it : Addr} {sr : Src} {i : Nat} (T : SrcAt σ h it sr i) : ∃ o nme vs, ItObj h it o nme vs := by
  cases T with
  | rng l x st n i h1 h2 h3 => exact ⟨_, _, _, h3, notVal_fields rfl (.inr rfl), rfl, rfl, .inr rfl⟩
  | list a p i h1 h2 => exact h2.elim fun o h => ⟨o, _, _, h.1, notVal_fields h.2.1 (.inl rfl), h.2.1, h.2.2, .inl rfl⟩
theorem SrcAt.val {h : Heap} {it : Addr} {sr : Src} {i : Nat} (T : SrcAt σ h it sr i) : ∃ o, h.get? it = some o ∧ ¬ ValO o := T.obj.elim fun o h => h.elim fun _ h => h.elim fun _ h => ⟨o, h.g, h.nv⟩
theorem pre_get {α : Type} {σ σ' : List α} (h : σ <+: σ') {i : Nat} {a : α} (e : σ[i]? = some a) : σ'[i]? = some a := by
  obtain ⟨t, rfl⟩ := h
  rw [List.getElem?_append_left (List.getElem?_eq_some_iff.mp e).1]; exact e
theorem SrcAt.move {h h' : Heap} {σ' : List Addr} {it : Addr} {sr : Src} {i : Nat} (T : SrcAt σ h it sr i) (hp : σ <+: σ') (hk : ∀ o, h.get? it = some o → h'.get? it = some o) : SrcAt σ' h' it sr i := by
  cases T with
  | rng l x st n i h1 h2 h3 => exact .rng l x st n i h1 h2 (hk _ h3)
  | list a p i h1 h2 => exact .list a p i (pre_get hp h1) (h2.elim fun o h => ⟨o, hk _ h.1, h.2⟩)

theorem rangeUp_is (k : Int) : rangeUp k = (List.range k.toNat).map (fun (j : Nat) => 0 + (j : Int) * 1) := by
  unfold rangeUp; apply List.map_congr_left; intro a _; (first | lia | omega)
theorem rangeDown_is (a b : Int) : rangeDown a b = (List.range (a - b).toNat).map (fun (j : Nat) => a + (j : Int) * (-1)) := by
  unfold rangeDown; apply List.map_congr_left; intro c _; (first | lia | omega)

noncomputable def IterQ (C : Cx) (σ : List Addr) (H : Hp) (s : Shared) (sr : Src) : Value → Shared → Prop := fun y s' => ∃ it, y = .ref it ∧ s.heap.get? it = none ∧ Step C σ s σ H s' ∧ SrcAt σ s'.heap it sr 0
theorem size_down (a b : Int) : Builtin.Range.rangeSize a b (-1) = ((a - b).toNat : Int) := by
  unfold Builtin.Range.rangeSize
  simp only [show ¬ ((-1 : Int) > 0) by decide, if_false, Int.neg_neg, Int.ediv_one]
  split <;> (first | lia | omega)
theorem size_up (k : Int) : Builtin.Range.rangeSize 0 k 1 = (k.toNat : Int) := by rw [rangeSize_one]; split <;> (first | lia | omega)
theorem small_down {a b : Int} (h1 : a < 1000000) (h2 : -1000000 < a) (h3 : b < 1000000) (h4 : -1000000 < b) : Builtin.Range.small a b (-1) = true := by
  unfold Builtin.Range.small Builtin.Range.rangeFitsLong
  rw [size_down]
  simp only [Bool.and_eq_true, decide_eq_true_eq, Bool.or_eq_true, beq_iff_eq]
  refine ⟨⟨⟨⟨by (first | lia | omega), by (first | lia | omega)⟩, by (first | lia | omega)⟩, by (first | lia | omega)⟩, .inr ?_⟩
  rw [if_neg (by decide)]
  simp only [Bool.and_eq_true, decide_eq_true_eq]
  (first | lia | omega)
theorem small_up {k : Int} (h1 : k < 1000000) (h2 : -1000000 < k) : Builtin.Range.small 0 k 1 = true := small_one (by (first | lia | omega)) (by (first | lia | omega)) (by (first | lia | omega)) (by (first | lia | omega))
theorem iter_ok {sr : Src} {x : Value} {k : Nat} (T : IterOf σ s.heap sr x) (hl : srcLen H sr = some k) (I : Inv C σ H s) :
    wpAny (model prog w) A (pyIter x) (IterQ C σ H s sr) F0 s := by
  cases T with
  | up k r t u v h1 h2 hr =>
    refine wpAny_pyIter_range hr (small_up h1 h2) ⟨_, rfl, fresh_at _, I.push, .rng _ 0 1 k.toNat 0 (rangeUp_is k) (Nat.zero_le _) ?_⟩
    rw [size_up]
    exact Heap.get?_push_size _ rfl
  | down a b r t u v h1 h2 h3 h4 hr =>
    refine wpAny_pyIter_range hr (small_down h1 h2 h3 h4) ⟨_, rfl, fresh_at _, I.push, .rng _ a (-1) (a - b).toNat 0 (rangeDown_is a b) (Nat.zero_le _) ?_⟩
    rw [size_down, Int.natCast_zero, Int.zero_mul, Int.add_zero, Int.sub_zero]
    exact Heap.get?_push_size _ rfl
  | list a p hp => exact bindE (f := fun xs => some xs.length) (x := hGet H a) (by rw [← hl]; exact (Option.map_eq_bind ..).symm) fun xs h1 _ => list_at I hp h1 fun vs n g _ _ _ => wpAny_pyIter_list (isList_of g) ⟨_, rfl, fresh_at _, I.push, .list a p 0 hp ⟨_, Heap.get?_push_size _ rfl, rfl, rfl⟩⟩

theorem again_ok {sr : Src} {it : Addr} {i : Nat} {Q : Value → Shared → Prop} (T : SrcAt σ s.heap it sr i) (h : Q (.ref it) s) : wpAny (model prog w) A (pyIter (.ref it)) Q E s := by
  cases T with
  | rng l x st n i h1 h2 h3 => exact wpAny_pyIter_rangeiter h3 h
  | list a p i h1 h2 => exact wpAny_pyIter_listiter h2 h

theorem step_next (x st : Int) (i : Nat) : x + ((i + 1 : Nat) : Int) * st = x + (i : Int) * st + st := by rw [Int.natCast_add, Int.add_mul, Int.natCast_one, Int.one_mul, Int.add_assoc]
theorem left_next (n i : Nat) : (n : Int) - ((i + 1 : Nat) : Int) = (n : Int) - (i : Int) - 1 := by (first | lia | omega)
noncomputable def NextQ (C : Cx) (σ : List Addr) (H : Hp) (s : Shared) (sr : Src) (it : Addr) (i : Nat) (v : V) : Option Value → Shared → Prop := fun y s' => ∃ z, y = some z ∧ StepW C [it] σ s σ H s' ∧ VR C.X σ s'.heap v z ∧ SrcAt σ s'.heap it sr (i + 1)
theorem next_ok {sr : Src} {it : Addr} {i : Nat} {v : V} (T : SrcAt σ s.heap it sr i) (O : ItOK C σ it) (e : srcAt H sr i = some v) (I : Inv C σ H s) :
    wpAny (model prog w) A (pyNext (.ref it)) (NextQ C σ H s sr it i v) F0 s := by
  obtain ⟨o, g, hv⟩ := T.val
  cases T with
  | rng l x st n _ h1 h2 h3 =>
    refine mapE (G := fun v => wpAny (model prog w) A (pyNext (.ref it)) (NextQ C σ H s (.ints l) it i v) F0 s) e fun z e1 => ?_
    rw [h1, List.getElem?_map] at e1
    refine mapE (G := fun z => wpAny (model prog w) A (pyNext (.ref it)) (NextQ C σ H s (.ints l) it i (.int z)) F0 s) e1 fun j e2 => ?_
    obtain ⟨hlt, e3⟩ := List.getElem?_eq_some_iff.mp e2
    rw [List.length_range] at hlt
    rw [List.getElem_range] at e3
    rw [← e3]
    refine wpAny_pyNext_range_item h3 (by (first | lia | omega)) fun h' hit hs => ⟨_, rfl, I.own (tk := s.toks + 1) O.s O.x O.b g hv hs ⟨_, hit⟩, .int _ _, .rng l x st n _ h1 hlt ?_⟩
    rw [step_next, left_next]
    exact hit
  | list a p _ h1 h2 => exact bindE e fun xs e1 e2 => list_at I h1 e1 fun vs n g' r' _ _ => (r'.get e2).elim fun z hz => wpAny_pyNext_list_item h2 (isList_of g') (by rw [← Array.getElem?_toList]; exact hz.1) fun h' hit hs =>
      have S := I.own (tk := s.toks) O.s O.x O.b g hv hs (hit.elim fun o' h => ⟨o', h.1⟩)
      ⟨z, rfl, S, S.vr hz.2, .list a p _ h1 hit⟩

noncomputable def EndQ (s : Shared) (it : Addr) : Option Value → Shared → Prop := fun y s' => y = none ∧ ∃ h', s' = { s with heap := h' } ∧ Heap.ExtBut it s.heap h'
theorem end_ok {sr : Src} {it : Addr} {i : Nat} (hh : A.handled = none) (T : SrcAt σ s.heap it sr i) (e : srcLen H sr = some i) (I : Inv C σ H s) :
    wpAny (model prog w) A (pyNext (.ref it)) (EndQ s it) F0 s := by
  cases T with
  | rng l x st n _ h1 h2 h3 =>
    have e : l.length = i := Option.some.inj e
    rw [h1, List.length_map, List.length_range] at e
    exact wpAny_pyNext_range_end hh h3 (by rw [e]; exact Int.le_of_eq (Int.sub_self _)) fun h' hs => ⟨rfl, h', rfl, hs⟩
  | list a p _ h1 h2 => exact mapE (G := fun i => s.heap.IsListIter it p i → wpAny (model prog w) A (pyNext (.ref it)) (EndQ s it) F0 s) e (fun xs e1 h2 => list_at I h1 e1 fun vs n g' _ hl _ => wpAny_pyNext_list_end hh h2 (isList_of g') (Array.getElem?_eq_none (Nat.le_of_eq hl.symm)) fun h' hs => ⟨rfl, h', rfl, hs⟩) h2

/- the iterator's last step may leave anything at its place, which was not there at the begin -/
theorem StepW.ended {W : List Addr} {σ s σ' H' s'} {it : Addr} {h' : Heap} (S : StepW C W σ s σ' H' s') (hf : s.heap.get? it = none) (O : ItOK C σ' it) (hv : ∃ o, s'.heap.get? it = some o ∧ ¬ ValO o) (hs : Heap.ExtBut it s'.heap h') :
    StepW C W σ s σ' H' { s' with heap := h' } :=
  have hne : ∀ b o, s.heap.get? b = some o → b ≠ it := fun b o e q => some_none (q ▸ e) hf
  hv.elim fun oi g => ⟨S.pre, (S.inv.turn (tk := s'.toks) O.s O.x O.b g.1 g.2 fun b o hb e => hs b o hb e).1, fun b o e h1 h2 h3 => hs b o (hne b o e) (S.pres b o e h1 h2 h3), S.new, S.os, fun b o e => (S.old b o e).elim fun o' e' => ⟨o', hs b o' (hne b o e) e'⟩⟩

theorem letOwned_ok {sr : Src} {it : Addr} {i : Nat} {target : Expr} {y : Value} {Q : Unit → Shared → Prop} (T : SrcAt σ s.heap it sr i) (h : Q () s) : wpAny (model prog w) A (letOwnedTupleGo target (.ref it) y) Q E s := by
  obtain ⟨o, nme, vs, O⟩ := T.obj
  have key : ∀ es k p, wpAny (model prog w) A (letOwnedTupleGo (.Tuple es k p) (.ref it) y) Q E s := fun es k p => by
    cases y with
    | ref a =>
      refine wpAny_bind (wpAny_load O.g ?_)
      rw [O.c, O.d]
      show wpAny _ A (if _ = true then _ else pure ()) Q E s
      rw [if_neg (fun hh => by
        have hh := andE hh fun a _ => a
        rcases O.n with hn | hn <;> rw [hn] at hh <;> exact absurd hh (by decide))]
      exact wpAny_pure h
    | _ => exact wpAny_pure h
  cases target with
  | Tuple es k p => exact key es k p
  | List es p => exact key es 0 p
  | _ => exact wpAny_pure h
end Mine
end

section
set_option Elab.async false
set_option linter.all false
namespace Mine
open PySem PySem.W PyProof.Rows PySem.Spec PySem.Calls

variable {C : Cx} {prog : Program} {w : World} {A : Around} {σ : List Addr} {H : Hp} {s : Shared} {E : Value → Shared → Prop}
variable {P : Prog} {n m : Nat} {sc : Scope} {env : Env} {r : Rho}

@[elab_as_elim] theorem tgtE {G : Expr → Prop} {e : Expr} {t : String} (h : tgtOf sc e = some t) (g : ∀ p, isLocal sc (nm t) = true → G (.Name (nm t) p)) : G e := by
  cases e with
  | Name x p => exact iteP h fun hl h => nameOf_some h ▸ g p (nameOf_some h ▸ hl)
  | _ => exact no h
@[elab_as_elim] theorem tgtsE {G : List Expr → List String → Prop} {es : List Expr} {ts : List String} (h : tgtsOf sc es = some ts) (g0 : G [] []) (g1 : ∀ t p es ts, isLocal sc (nm t) = true → tgtsOf sc es = some ts → G es ts → G (.Name (nm t) p :: es) (t :: ts)) : G es ts := by
  induction es generalizing ts with
  | nil => exact someE h g0
  | cons e es ih => exact bindE h fun t h1 h => mapE h fun ts' h2 => tgtE (G := fun e => G (e :: es) (t :: ts')) h1 fun p hl => g1 t p es ts' hl h2 (ih h2)

noncomputable def OkN (C : Cx) (σ : List Addr) (s : Shared) (H : Hp) (env : Env) (r : Rho) : Unit → Shared → Prop := fun _ s' => StepW C [env.locals] σ s σ H s' ∧ EnvOK C σ s' env r

theorem name_ok {t : String} {p : Pos} {v : V} {y : Value} (hl : isLocal sc (nm t) = true) (K : KindOK sc env) (V : EnvOK C σ s env r) (I : Inv C σ H s) (hv : VR C.X σ s.heap v y) :
    wpAny (model prog w) A (assign (.Name (nm t) p) env y) (OkN C σ s H env (upd r t v)) F0 s := wpAny_assign_Name (store_local V I hv (K.loc _ hl))

noncomputable def StoresOK (C : Cx) (prog : Program) (w : World) (A : Around) (σ : List Addr) (H : Hp) (env : Env) (es : List Expr) (ts : List String) : Prop := ∀ vs ws s r, ts.length = vs.length → EnvOK C σ s env r → Inv C σ H s → VRs C.X σ s.heap vs ws → wpAny (model prog w) A (assignInOrder ((assignEach es env).map (·.2)) ws) (OkN C σ s H env (updL r ts vs)) F0 s
theorem stores_ok (K : KindOK sc env) {es : List Expr} {ts : List String} (h : tgtsOf sc es = some ts) : StoresOK C prog w A σ H env es ts :=
  tgtsE h (fun vs ws s r hl V I hv => by
    cases hv with
    | nil => exact wpAny_pure ⟨.refl I, V⟩
    | cons _ _ => exact nomatch hl) fun t p es ts h3 h2 ih vs ws s r hl V I hv => by
    cases hv with
    | nil => exact nomatch hl
    | cons hv hvs => exact wpAny_bind (wpAny_holding (wpAny_mono (name_ok h3 K V I hv) (fun _ s1 h => wpAny_mono (ih _ _ _ _ (Nat.succ.inj hl) h.2 h.1.inv (h.1.vrs hvs)) (fun _ s2 g => ⟨h.1.trans g.1, g.2⟩) fun _ _ h => h) fun _ _ h => h))

structure TgtsOK (env : Env) (es : List Expr) (ts : List String) : Prop where
  l : (assignEach es env).length = ts.length
  f : (assignEach es env).findIdx? (·.1) = none
theorem tgts_len {es : List Expr} {ts : List String} (h : tgtsOf sc es = some ts) : TgtsOK env es ts :=
  tgtsE h ⟨rfl, rfl⟩ fun t p es ts _ _ ih => ⟨congrArg (· + 1) ih.l, by
    show ((false, assign (.Name (nm t) p) env) :: assignEach es env).findIdx? (·.1) = none
    rw [List.findIdx?_cons]
    simp only [Bool.false_eq_true, if_false]
    rw [ih.f]; rfl⟩

theorem unpackT_ok {es : List Expr} {ts : List String} {vs : List V} {y : Value} (ht : tgtsOf sc es = some ts) (hh : A.handled = none) (K : KindOK sc env) (V : EnvOK C σ s env r) (I : Inv C σ H s) (hl : vs.length = ts.length) (hv : VR C.X σ s.heap (.tup vs) y) :
    wpAny (model prog w) A (unpack y (assignEach es env)) (OkN C σ s H env (updL r ts vs)) F0 s :=
  VR.tupE hv fun a ws m g gl rv => wpAny_unpack_tuple hh (items := ws.toArray) ⟨_, g, rfl, _, rfl⟩ (by rw [(tgts_len ht).l, ← hl, rv.length]; rfl) (tgts_len ht).f fun h' hs =>
    have S : Step C σ s σ H { s with heap := h', toks := s.toks } := I.ext hs
    wpAny_mono (stores_ok K ht _ _ _ _ hl.symm (S.env V) S.inv (S.vrs rv)) (fun _ s2 h => ⟨(StepW.wide S).trans h.1, h.2⟩) fun _ _ h => h
theorem unpackL_ok {es : List Expr} {ts : List String} {i : Nat} {vs : List V} {y : Value} (ht : tgtsOf sc es = some ts) (hh : A.handled = none) (K : KindOK sc env) (V : EnvOK C σ s env r) (I : Inv C σ H s) (e1 : hGet H i = some vs) (hl : vs.length = ts.length) (hv : VR C.X σ s.heap (.ref i) y) :
    wpAny (model prog w) A (unpack y (assignEach es env)) (OkN C σ s H env (updL r ts vs)) F0 s :=
  I.listE (G := fun y => wpAny (model prog w) A (unpack y (assignEach es env)) (OkN C σ s H env (updL r ts vs)) F0 s) e1 hv fun p ws m _ g rv hsz _ => by
  unfold unpack
  rw [(tgts_len ht).f, (tgts_len ht).l, ← hl, hsz]
  exact wpAny_bind (wpAny_holding (kun_itemsOf hh (isList_of g) fun h' hs =>
    have S : Step C σ s σ H { s with heap := h', toks := s.toks } := I.ext hs
    wpAny_mono (stores_ok K ht _ _ _ _ hl.symm (S.env V) S.inv (S.vrs rv)) (fun _ s2 h => ⟨(StepW.wide S).trans h.1, h.2⟩) fun _ _ h => h))
theorem unpack_ok {es : List Expr} {ts : List String} {v : V} {y : Value} {r2 : Rho} (ht : tgtsOf sc es = some ts) (hh : A.handled = none) (K : KindOK sc env) (V : EnvOK C σ s env r) (I : Inv C σ H s) (hv : VR C.X σ s.heap v y) (e : bindT r ts false v H = some r2) :
    wpAny (model prog w) A (unpack y (assignEach es env)) (OkN C σ s H env r2) F0 s := by
  refine bindE e fun vs e1 e => iteP e fun hl e => someE (G := fun r2 => wpAny (model prog w) A (unpack y (assignEach es env)) (OkN C σ s H env r2) F0 s) e ?_
  cases v with
  | tup us => exact unpackT_ok ht hh K V I hl ((Option.some.inj e1 : us = vs) ▸ hv)
  | ref i => exact unpackL_ok ht hh K V I e1 hl hv
  | _ => exact no e1

@[elab_as_elim] theorem targetsE {G : Expr → List String → Bool → Prop} {t : Expr} {ts : List String} {one : Bool} (h : targetsOf sc t = some (ts, one)) (g1 : ∀ x p, isLocal sc (nm x) = true → G (.Name (nm x) p) [x] true) (g2 : ∀ es k p ts, tgtsOf sc es = some ts → G (.Tuple es k p) ts false) : G t ts one := by
  cases t with
  | Name x p => exact mapE (G := fun q => G (.Name x p) q.1 q.2) h fun y h1 => tgtE (G := fun e => G e [y] true) h1 fun p hl => g1 y p hl
  | Tuple es k p => exact mapE (G := fun q => G (.Tuple es k p) q.1 q.2) h fun l h1 => g2 es k p l h1
  | _ => exact no h
theorem bind_ok {t : Expr} {ts : List String} {one : Bool} {v : V} {y : Value} {r2 : Rho} (ht : targetsOf sc t = some (ts, one)) (hh : A.handled = none) (K : KindOK sc env) (V : EnvOK C σ s env r) (I : Inv C σ H s) (hv : VR C.X σ s.heap v y) (e : bindT r ts one v H = some r2) :
    wpAny (model prog w) A (assign t env y) (OkN C σ s H env r2) F0 s := by
  revert e
  refine targetsE (G := fun t ts one => bindT r ts one v H = some r2 → wpAny (model prog w) A (assign t env y) (OkN C σ s H env r2) F0 s) ht (fun x p hl e => someE (G := fun r2 => wpAny (model prog w) A (assign (.Name (nm x) p) env y) (OkN C σ s H env r2) F0 s) e (name_ok hl K V I hv)) fun es k p ts h1 e => ?_
  rw [arm_assign_Tuple]
  exact wpAny_bind (wpAny_standAt (unpack_ok h1 hh K V I hv e))

/- for -/
theorem run_own {c : Code} {Q : Flow → Shared → Prop} (h : codeAny (model prog w) A c (fun r s' => match r with | .ok f => Q f s' | .error _ => False) s) : wpAny (model prog w) A (runOwn c env) Q F0 s := by
  refine wpAny_runOwn (h := none) ?_ (by decide)
  rw [Around.mark_none]
  exact codeAny_mono h fun r s' hr => by cases r with | ok f => exact hr | error e => exact hr.elim

theorem StepW.env2 {W : List Addr} {σ' : List Addr} {H' : Hp} {s' : Shared} (S : StepW C W σ s σ' H' s') (V : EnvOK C σ s env r) (hW : ∀ a ∈ ownOf env, a ∉ W) : EnvOK C σ' s' env r :=
  V.move (fun a ha o e => S.pres a o e (V.own a ha).1 (V.own a ha).2.1 fun q => absurd q (hW a ha)) (fun _ _ h => S.vr h) fun a ha h => (S.new a h).elim (V.own a ha).1 fun n => (V.own a ha).2.2.2.elim fun o g => some_none g.1 n
theorem ended_env {it : Addr} {h' : Heap} (I : Inv C σ H s) (O : ItOK C σ it) (V : EnvOK C σ s env r) (hown : it ∉ ownOf env) (hv : ∃ o, s.heap.get? it = some o ∧ ¬ ValO o) (hs : Heap.ExtBut it s.heap h') : EnvOK C σ { s with heap := h' } env r :=
  hv.elim fun oi g => V.move (fun a ha o e => hs a o (fun q => hown (q ▸ ha)) e) (I.turn (tk := s.toks) O.s O.x O.b g.1 g.2 fun b o hb e => hs b o hb e).2 fun a ha => (V.own a ha).1
theorem ItOK.move {W : List Addr} {it : Addr} {σ' : List Addr} {H' : Hp} {s' : Shared} {o : Obj} (O : ItOK C σ it) (S : StepW C W σ s σ' H' s') (h : s.heap.get? it = some o) : ItOK C σ' it :=
  ⟨fun q => (S.new it q).elim O.s fun n => some_none h n, O.x, O.b⟩

/- where a loop stands: the whole of what it keeps -/
structure LoopAt (C : Cx) (env : Env) (W : List Addr) (it : Addr) (sr : Src) (s0 : Shared) (σ0 : List Addr) (i : Nat) (σ : List Addr) (H : Hp) (r : Rho) (s : Shared) : Prop where
  V : EnvOK C σ s env r
  S : StepW C W σ0 s0 σ H s
  O : ItOK C σ it
  T : SrcAt σ s.heap it sr i
  own : it ∉ ownOf env
  new : s0.heap.get? it = none
theorem LoopAt.fin {W : List Addr} {it : Addr} {sr : Src} {s0 s1 : Shared} {σ0 : List Addr} {i : Nat} {y : Option Value} (L : LoopAt C env W it sr s0 σ0 i σ H r s) (h : EndQ s it y s1) : y = none ∧ StepW C W σ0 s0 σ H s1 ∧ EnvOK C σ s1 env r :=
  ⟨h.1, h.2.elim fun h' g => g.1 ▸ ⟨L.S.ended L.new L.O L.T.val g.2, ended_env L.S.inv L.O L.V L.own L.T.val g.2⟩⟩
/- behind the next item -/
theorem LoopAt.next {W : List Addr} {it : Addr} {sr : Src} {s0 s1 : Shared} {σ0 : List Addr} {i : Nat} {v : Mine.V} {y : Option Value} (L : LoopAt C env W it sr s0 σ0 i σ H r s) (h : NextQ C σ H s sr it i v y s1) : ∃ z, y = some z ∧ VR C.X σ s1.heap v z ∧ LoopAt C env W it sr s0 σ0 (i + 1) σ H r s1 :=
  h.elim fun z h => ⟨z, h.1, h.2.2.1, h.2.1.env2 L.V fun a ha q => L.own (List.mem_singleton.mp q ▸ ha),
    ((L.S.weaken (W' := it :: W) fun a ha => List.mem_cons_of_mem _ ha).trans (h.2.1.weaken fun a ha => List.mem_singleton.mp ha ▸ List.mem_cons_self)).less fun a ha => (List.mem_cons.mp ha).elim (fun e => .inr (e ▸ L.new)) .inl, L.O, h.2.2.2, L.own, L.new⟩
/- behind a step of the body; W2: the body's own places -/
theorem LoopAt.step {W W2 : List Addr} {it : Addr} {sr : Src} {s0 s1 : Shared} {σ0 σ1 : List Addr} {H1 : Hp} {r1 : Rho} {i : Nat} (L : LoopAt C env W it sr s0 σ0 i σ H r s) (S : StepW C W2 σ s σ1 H1 s1) (V : EnvOK C σ1 s1 env r1) (hW : ∀ a ∈ W2, a ∈ ownOf env) (hW2 : ∀ a ∈ W2, a ∈ W ∨ s0.heap.get? a = none) : LoopAt C env W it sr s0 σ0 i σ1 H1 r1 s1 :=
  have hk : ∀ o, s.heap.get? it = some o → s1.heap.get? it = some o := fun o e => S.pres it o e L.O.s L.O.x fun q => absurd (hW it q) L.own
  ⟨V, ((L.S.weaken (W' := W ++ W2) fun a ha => List.mem_append_left _ ha).trans (S.weaken fun a ha => List.mem_append_right _ ha)).less fun a ha => (List.mem_append.mp ha).elim .inl (hW2 a), L.T.val.elim fun o g => L.O.move S g.1, L.T.move S.pre hk, L.own, L.new⟩

inductive ForInv (C : Cx) (P : Prog) (n : Nat) (env : Env) (it : Addr) (sr : Src) (s0 : Shared) (σ0 : List Addr) (ts : List String) (one : Bool) (b : List S) (f : Fl) (r' : Rho) (H' : Hp) (k : Nat) (s : Shared) : Prop
  | mk (i : Nat) (σ : List Addr) (H : Hp) (r : Rho) : LoopAt C env (ownOf env) it sr s0 σ0 i σ H r s → forN sr (fBody P n ts one b) k i r H = some (f, r', H') → ForInv C P n env it sr s0 σ0 ts one b f r' H' k s
noncomputable def ForQ (C : Cx) (σ : List Addr) (s : Shared) (env : Env) (f : Fl) (r' : Rho) (H' : Hp) : Result → Shared → Prop := fun q s' => match q with | .ok f' => OkX C σ s env f r' H' f' s' | .error _ => False
@[elab_as_elim] theorem FlR.go {G : Fl → Flow → Prop} {h : Heap} {f : Fl} {f' : Flow} (fr : FlR C σ h f f') (g1 : G .nx .next) (g2 : G .brk .brk) (g3 : ∀ v w, VR C.X σ h v w → G (.ret v) (.ret w)) : G f f' := FlR.casesOn (motive := fun f f' _ => G f f') fr g1 g2 fun hv => g3 _ _ hv
theorem for_end {sr : Src} {it : Addr} {i : Nat} {f : Fl} {r' : Rho} {H' : Hp} {s0 : Shared} {σ0 : List Addr} {B : V → Rho → Hp → Option (Fl × Rho × Hp)} (hh : A.handled = none) (L : LoopAt C env (ownOf env) it sr s0 σ0 i σ H r s) (e : forN sr B 0 i r H = some (f, r', H')) {Q : Option Value → Shared → Prop} (hq : ∀ s1, OkX C σ0 s0 env f r' H' .next s1 → Q none s1) : wpAny (model prog w) A (pyNext (.ref it)) Q E s :=
  iteP e fun hl e => lift2 (end_ok hh L.T hl L.S.inv) fun y s1 h => (L.fin h).1 ▸ hq s1 (someT (G := fun f r' H' => OkX C σ0 s0 env f r' H' .next s1) e ⟨σ, (L.fin h).2.1, (L.fin h).2.2, .nx⟩)
theorem for_next {sr : Src} {t : Expr} {ts : List String} {one : Bool} {body : List Stmt} {b : List S} {it : Addr} {k i : Nat} {f : Fl} {r' : Rho} {H' : Hp} {s0 : Shared} {σ0 : List Addr} (N : Sound C P prog w n) (ht : targetsOf sc t = some (ts, one)) (hb : RSs m sc body b) (K : KindOK sc env) (R : Room n A) (L : LoopAt C env (ownOf env) it sr s0 σ0 i σ H r s) (e : forN sr (fBody P n ts one b) (k + 1) i r H = some (f, r', H')) {Q : Option Value → Shared → Prop}
    (hq : ∀ v s1, wpAny (model prog w) A (letOwnedTupleGo t (.ref it) v) (fun _ s1' => wpAny (model prog w) A (assign t env v) (fun _ s2 => wpAny (model prog w) A (execs body env) (fun f' s3 => (f' = .next ∧ ForInv C P n env it sr s0 σ0 ts one b f r' H' k s3) ∨ (f' = .brk ∧ OkX C σ0 s0 env f r' H' .next s3) ∨ (∃ y, f' = .ret y ∧ OkX C σ0 s0 env f r' H' (.ret y) s3)) F0 s2) F0 s1') F0 s1 → Q (some v) s1) : wpAny (model prog w) A (pyNext (.ref it)) Q E s :=
  bindE e fun v hv e => bindT3 e fun f3 r3 H3 e2 e => bindE e2 fun r2 hb2 hx => lift2 (next_ok L.T L.O hv L.S.inv) fun y s1 h => (L.next h).elim fun z g => g.1 ▸ hq z s1 (letOwned_ok g.2.2.T (wpAny_mono (bind_ok ht R.handled K g.2.2.V g.2.2.S.inv g.2.1 hb2) (fun _ s2 g2 =>
    have L2 := g.2.2.step g2.1 g2.2 (fun a ha => List.mem_singleton.mp ha ▸ List.mem_cons_self) fun a ha => .inl (List.mem_singleton.mp ha ▸ List.mem_cons_self)
    N.xsE hb K L2.V L2.S.inv R hx fun f' s3 σ3 S3 V3 fr =>
    have L3 := L2.step S3 V3 (fun _ h => h) fun _ h => .inl h
    FlR.go (G := fun f3 f' => (match f3 with | .nx => forN sr (fBody P n ts one b) k (i + 1) r3 H3 | .brk => some (.nx, r3, H3) | .ret v => some (.ret v, r3, H3)) = some (f, r', H') → (f' = .next ∧ ForInv C P n env it sr s0 σ0 ts one b f r' H' k s3) ∨ (f' = .brk ∧ OkX C σ0 s0 env f r' H' .next s3) ∨ (∃ y, f' = .ret y ∧ OkX C σ0 s0 env f r' H' (.ret y) s3)) fr (fun e => .inl ⟨rfl, i + 1, σ3, H3, r3, L3, e⟩)
      (fun e => .inr (.inl ⟨rfl, someT (G := fun f r' H' => OkX C σ0 s0 env f r' H' .next s3) e ⟨σ3, L3.S, L3.V, .nx⟩⟩)) (fun v w hv e => .inr (.inr ⟨w, rfl, someT (G := fun f r' H' => OkX C σ0 s0 env f r' H' (.ret w) s3) e ⟨σ3, L3.S, L3.V, .ret hv⟩⟩)) e) fun _ _ h => h))

theorem for_loop {sr : Src} {t : Expr} {ts : List String} {one : Bool} {body : List Stmt} {b : List S} {it : Addr} {k : Nat} {f : Fl} {r' : Rho} {H' : Hp} {s0 : Shared} {σ0 : List Addr} (N : Sound C P prog w n) (ht : targetsOf sc t = some (ts, one)) (hb : RSs m sc body b) (K : KindOK sc env) (R : Room n A)
    (L : LoopAt C env (ownOf env) it sr s0 σ0 0 σ H r s) (e : forN sr (fBody P n ts one b) k 0 r H = some (f, r', H')) : codeAny (model prog w) A (.forLoop t (.ref it) body [] env) (ForQ C σ0 s0 env f r' H') s := by
  refine codeAny_forLoop_any (ForInv C P n env it sr s0 σ0 ts one b f r' H') (fun k s hI => ?_) k (.mk 0 σ H r L e)
  clear L e
  refine hI.casesOn fun i σ H r L e => ?_
  clear hI
  cases k with
  | zero => exact for_end R.handled L e fun s1 h => wpAny_pure h
  | succ k =>
    refine for_next N ht hb K R L e fun v s1 h => ?_
    clear L e
    refine wpAny_mono h (fun _ s1' h => wpAny_mono h (fun _ s2 h => wpAny_mono h (fun f' s3 h => ?_) fun _ _ h => h.elim) fun _ _ h => h.elim) fun _ _ h => h.elim
    rcases h with ⟨h1, h2⟩ | ⟨h1, h2⟩ | ⟨y, h1, h2⟩ <;> rw [h1]
    · exact ⟨k, Nat.lt_succ_self _, h2⟩
    · exact h2
    · exact h2

theorem bare_set {e : Expr} {a : Mine.E} (h : RE m sc e a) : ∀ x, foldedSetIterable e env x = pure x := h.xf.bare

theorem for_x (N : Sound C P prog w n) {t it : Expr} {ts : List String} {one : Bool} {body : List Stmt} {b : List S} {a : Mine.E} {p : Pos} (ht : targetsOf sc t = some (ts, one)) (hi : RE m sc it a) (hb : RSs m sc body b) : XOK C P prog w (n + 1) sc (.For t it body [] p) (.for_ ts one a b) := fun env r σ H s A f r' H' K V I R e =>
  bindP e fun sr H1 e1 e => bindE e fun k e2 e3 =>
  wpAny_For (N.srcE hi K V I R.pred e1 fun x s1 σ1 S1 T1 => wpAny_mono (iter_ok T1 e2 S1.inv) (fun y s2 h => h.elim fun it' h => by
    have hf0 : s.heap.get? it' = none := by
      cases q : s.heap.get? it' with
      | none => rfl
      | some o => exact (S1.old it' o q).elim fun o' h' => some_none h' h.2.1
    have hown : it' ∉ ownOf env := fun q => (V.own it' q).2.2.2.elim fun o g => some_none g.1 hf0
    rw [h.1]
    exact codeAny_mono (for_loop N ht hb K R.pred ⟨h.2.2.1.env (S1.env V), StepW.wide (S1.trans h.2.2.1), ⟨S1.inv.notσ_fresh h.2.1, S1.inv.notX_fresh h.2.1, S1.inv.notB_fresh h.2.1⟩, h.2.2.2, hown, hf0⟩ e3) fun q s' hq => by
      cases q with
      | ok f' => exact hq
      | error _ => exact hq.elim) fun _ _ h => h) (bare_set hi)
end Mine
end

section
set_option Elab.async false
set_option linter.all false
namespace Mine
open PySem PySem.W PyProof.Rows PySem.Spec PySem.Calls

variable {C : Cx} {prog : Program} {w : World} {A : Around} {σ : List Addr} {H : Hp} {s : Shared} {E : Value → Shared → Prop}
variable {P : Prog} {n : Nat} {sc : Scope} {env : Env} {r : Rho}

noncomputable def clF (env : Env) : List (Str × NameKind) → List (Str × Addr) → List (Str × Addr)
  | [], acc => acc
  | (x, k) :: r, acc => if k == .free then clF env r ((x, (env.cells.lookup x).getD 0) :: acc) else clF env r acc
theorem cellOf_is {x : Str} (h : (env.cells.lookup x).isSome = true) : cellOf env x = pure ((env.cells.lookup x).getD 0) := by
  unfold cellOf
  obtain ⟨c, hc⟩ := Option.isSome_iff_exists.mp h
  rw [hc]; rfl
theorem closure_is {scope : Scope} (h : ∀ x ∈ scope.names, x.2 = .free → (env.cells.lookup x.1).isSome = true) : closureFor scope env = pure (clF env scope.names []) := by
  simp only [closureFor]
  have key : ∀ (names : List (Str × NameKind)) (acc : List (Str × Addr)), (∀ x ∈ names, x.2 = .free → (env.cells.lookup x.1).isSome = true) → (forIn names acc fun x r => if (x.2 == NameKind.free) = true then do let __do_lift ← cellOf env x.1; pure (ForInStep.yield ((x.1, __do_lift) :: r)) else pure (ForInStep.yield r) : Sem _) = pure (clF env names acc) := by
    intro names
    induction names with
    | nil => intro acc _; rfl
    | cons x names ih =>
      intro acc h
      obtain ⟨n, k⟩ := x
      rw [List.forIn_cons]
      unfold clF
      cases hk : k == NameKind.free with
      | true =>
        simp only [if_true]
        rw [cellOf_is (h _ List.mem_cons_self (by simpa using hk))]
        exact ih _ fun x hx => h x (List.mem_cons_of_mem _ hx)
      | false =>
        simp only [Bool.false_eq_true, if_false]
        exact ih _ fun x hx => h x (List.mem_cons_of_mem _ hx)
  have := key scope.names [] h
  rw [this]
  rfl

theorem clF_acc : ∀ {names : List (Str × NameKind)} {acc : List (Str × Addr)} {p : Str × Addr}, p ∈ acc → p ∈ clF env names acc
  | [], _, _, h => h
  | (x, k) :: r, acc, p, h => by
    show p ∈ (if k == .free then clF env r ((x, (env.cells.lookup x).getD 0) :: acc) else clF env r acc)
    cases k == .free with
    | true => exact clF_acc (List.mem_cons_of_mem _ h)
    | false => exact clF_acc h
noncomputable def ClIn (env : Env) (names : List (Str × NameKind)) (p : Str × Addr) : Prop := p.2 = (env.cells.lookup p.1).getD 0 ∧ (p.1, NameKind.free) ∈ names
theorem ClIn.more {names : List (Str × NameKind)} {p : Str × Addr} {q : Str × NameKind} (h : ClIn env names p) : ClIn env (q :: names) p := ⟨h.1, List.mem_cons_of_mem _ h.2⟩
theorem clF_all : ∀ {names : List (Str × NameKind)} {acc : List (Str × Addr)} {p : Str × Addr}, p ∈ clF env names acc → p ∈ acc ∨ ClIn env names p
  | [], _, _, h => .inl h
  | (x, k) :: r, acc, p, h => by
    have h : p ∈ (if k == .free then clF env r ((x, (env.cells.lookup x).getD 0) :: acc) else clF env r acc) := h
    cases hk : k == .free with
    | true =>
      rw [hk] at h
      exact (clF_all h).elim (fun h => (List.mem_cons.mp h).elim (fun e => .inr (e ▸ ⟨rfl, eq_of_beq hk ▸ List.mem_cons_self⟩)) .inl) fun h => .inr h.more
    | false =>
      rw [hk] at h
      exact (clF_all h).elim .inl fun h => .inr h.more
theorem clF_mem : ∀ {names : List (Str × NameKind)} {acc : List (Str × Addr)} {x : Str}, (x, NameKind.free) ∈ names → (x, (env.cells.lookup x).getD 0) ∈ clF env names acc
  | (y, k) :: r, acc, x, h => by
    show _ ∈ (if k == .free then clF env r ((y, (env.cells.lookup y).getD 0) :: acc) else clF env r acc)
    rcases List.mem_cons.mp h with e | h
    · have e1 : x = y := congrArg Prod.fst e
      have e2 : NameKind.free = k := congrArg Prod.snd e
      rw [← e1, ← e2]
      exact clF_acc List.mem_cons_self
    · cases k == .free with
      | true => exact clF_mem h
      | false => exact clF_mem h
theorem getD_some {x : Str} {c c' : Addr} (h : env.cells.lookup x = some c) (e : c' = (env.cells.lookup x).getD 0) : c' = c := by rw [e, h]; rfl
theorem clF_get {names : List (Str × NameKind)} (h : ∀ x ∈ names, x.2 = .free → (env.cells.lookup x.1).isSome = true) {x : Str} {c : Addr} (e : (clF env names []).lookup x = some c) : env.cells.lookup x = some c ∧ (x, NameKind.free) ∈ names :=
  (clF_all (mem_of_lookup e)).elim (fun q => nomatch q) fun q => (Option.isSome_iff_exists.mp (h _ q.2 rfl)).elim fun c' hc' => ⟨(getD_some hc' q.1 : c = c') ▸ hc', q.2⟩
theorem clF_look {names : List (Str × NameKind)} (h : ∀ x ∈ names, x.2 = .free → (env.cells.lookup x.1).isSome = true) {x : Str} {c : Addr} (hm : (x, NameKind.free) ∈ names) (e : env.cells.lookup x = some c) : (clF env names []).lookup x = some c :=
  (Option.isSome_iff_exists.mp (mem_lookup (clF_mem (env := env) (acc := []) hm))).elim fun c' hc' => (Option.some.inj (e.symm.trans (clF_get h hc').1) : c = c') ▸ hc'

theorem lookup_map {α β : Type} {f : Str → α → β} : ∀ {l : List (Str × α)} {x : Str}, (l.map fun p => (p.1, f p.1 p.2)).lookup x = (l.lookup x).map (f x)
  | [], x => rfl
  | (y, k) :: r, x => by
    rw [List.map_cons, List.lookup_cons, List.lookup_cons]
    cases hb : x == y with
    | true => rw [beq_iff_eq.mp hb]; rfl
    | false => exact lookup_map
noncomputable def reK (env : Env) (x : Str) (k : NameKind) : NameKind := if (k == .free && env.scope.kind == .function && env.kindOf x == some .cell) = true then NameKind.cell else k
theorem relabel_is {sc' : Scope} : (relabel sc' env).names = sc'.names.map fun p => (p.1, reK env p.1 p.2) := by
  unfold relabel
  simp only
  apply List.map_congr_left
  intro p _
  obtain ⟨a, k⟩ := p
  unfold reK
  simp only
  split <;> rfl
theorem relabel_kind {sc' : Scope} {x : Str} : (relabel sc' env).names.lookup x = (sc'.names.lookup x).map (reK env x) := by
  rw [relabel_is]
  exact lookup_map (f := reK env)
theorem reK_free {x : Str} {k kd : NameKind} (h : reK env x kd = k) (hne : kd ≠ .free) : kd = k := by
  unfold reK at h
  rw [beq_eq_false_iff_ne.mpr hne] at h
  exact h
theorem reK_cell {x : Str} (h : reK env x .free = .cell) : env.kindOf x = some .cell := by
  unfold reK at h
  by_cases q : (NameKind.free == .free && env.scope.kind == .function && env.kindOf x == some .cell) = true
  · exact eq_of_beq (andE q fun _ q => q)
  · rw [if_neg q] at h; cases h
theorem reK_or {x : Str} : reK env x .free = .cell ∨ reK env x .free = .free := by
  unfold reK
  by_cases q : (NameKind.free == .free && env.scope.kind == .function && env.kindOf x == some .cell) = true
  · exact .inl (if_pos q)
  · exact .inr (if_neg q)

theorem frees_mem : ∀ {names : List (Str × NameKind)} {fv : List String}, freesOf names = some fv → ∀ {y : String}, y ∈ fv → (nm y, NameKind.free) ∈ names
  | [], fv, h, y, hy => by
    rw [← Option.some.inj h] at hy
    cases hy
  | (x, k) :: r, fv, h, y, hy => by
    cases k with
    | free => exact (bindE h fun t h1 h => mapE (G := fun fv => y ∈ fv → (nm y, NameKind.free) ∈ (x, NameKind.free) :: r) h fun l h2 hy => (List.mem_cons.mp hy).elim (fun e => by rw [e, nameOf_some h1]; exact List.mem_cons_self) fun hy => List.mem_cons_of_mem _ (frees_mem h2 hy)) hy
    | _ => exact List.mem_cons_of_mem _ (frees_mem (names := r) h hy)

theorem EnvOK.weaken {r r2 : Rho} (V : EnvOK C σ s env r2) (h : ∀ x v, r x = some v → r2 x = some v) : EnvOK C σ s env r :=
  ⟨V.kind, V.globals, V.builtins, let ⟨m, hn, hm⟩ := V.loc; ⟨m, hn, fun x v hx => hm x v (h x v hx)⟩, fun x v hx => V.cel x v (h x v hx), V.has, V.own, V.apart, V.above⟩

theorem upd_other {r : Rho} {x y : String} {v u : V} (hne : x ≠ y) (h : r x = some u) : upd r y v x = some u := (if_neg hne).trans h
theorem updL_keeps : ∀ {ts : List String} {vs : List V} {r : Rho} {x : String} {v : V}, x ∉ ts → r x = some v → updL r ts vs x = some v
  | [], [], r, x, v, _, h => h
  | [], _ :: _, r, x, v, _, h => h
  | t :: ts, [], r, x, v, _, h => h
  | t :: ts, u :: vs, r, x, v, hx, h => updL_keeps (ts := ts) (vs := vs) (r := upd r t u) (fun q => hx (List.mem_cons_of_mem _ q)) (upd_other (fun q => hx (q ▸ List.mem_cons_self)) h)
theorem bindT_keeps {ts : List String} {one : Bool} {r r2 : Rho} {v u : V} {x : String} (e : bindT r ts one v H = some r2) (hx : x ∉ ts) (h : r x = some u) : r2 x = some u := by
  cases one with
  | true => exact mapE (G := fun r2 => r2 x = some u) e fun y hy => oneE (G := fun ts => x ∉ ts → upd r y v x = some u) hy (fun hx => upd_other (fun q => hx (q ▸ List.mem_cons_self)) h) hx
  | false => exact bindE e fun vs _ e => iteP e fun _ e => someE (G := fun r2 => r2 x = some u) e (updL_keeps hx h)
theorem tgts_local {es : List Expr} {ts : List String} (h : tgtsOf sc es = some ts) : ∀ x ∈ ts, isLocal sc (nm x) = true :=
  tgtsE (G := fun _ ts => ∀ x ∈ ts, isLocal sc (nm x) = true) h (fun x hx => nomatch hx) fun t p es ts h3 _ ih x hx => (List.mem_cons.mp hx).elim (fun e => e ▸ h3) (ih x)
theorem targets_local {t : Expr} {ts : List String} {one : Bool} (h : targetsOf sc t = some (ts, one)) : ∀ x ∈ ts, isLocal sc (nm x) = true :=
  targetsE (G := fun _ ts _ => ∀ x ∈ ts, isLocal sc (nm x) = true) h (fun x p hl y hy => List.mem_singleton.mp hy ▸ hl) fun es k p ts h => tgts_local h

theorem compLoop_any {R : Result → Shared → Prop} {elt target iter : Expr} {ifs : List Expr} {scope : Scope} {pos : Pos} {it acc : Value} {env : Env} (I : Nat → Shared → Prop)
    (turn : ∀ n s, I n s → wpAny (model prog w) A (pyNext it) (fun r s₁ => match r with
      | none => R (.ok .next) s₁
      | some v => wpAny (model prog w) A (letOwnedTupleGo target it v) (fun _ s1' => wpAny (model prog w) A (assign target env v) (fun _ s₂ =>
          wpAny (model prog w) A (forIn ifs true fun c r => if r = true then do let ok ← isTrue c env (eval c env); pure (ForInStep.yield ok) else pure (ForInStep.yield r)) (fun ok s₃ =>
            if ok = true then wpAny (model prog w) A (eval elt env) (fun x s₄ =>
              wpAny (model prog w) A (call (.builtin "list.append") [acc, x]) (fun _ s₅ => ∃ m, m < n ∧ I m s₅) F0 s₄) F0 s₃
            else ∃ m, m < n ∧ I m s₃) F0 s₂) F0 s1') F0 s₁) F0 s)
    (n : Nat) (h : I n s) :
    codeAny (model prog w) A (.compLoop (.ListComp elt [⟨target, iter, ifs, 0⟩] scope pos) 0 it acc env) R s := by
  refine codeAny_loop rfl I (fun n s hI => ?_) n h
  show wpAny _ A ((compTurn (.ListComp elt [⟨target, iter, ifs, 0⟩] scope pos) 0 it acc env).onRaise (fun x => do noteFrame x env; theTreesLotGoes x)) _ _ s
  refine wpAny_noted ?_
  rw [compTurn_list]
  refine wpAny_bind (wpAny_standAt (wpAny_bind (wpAny_mono (turn n s hI) (fun r s₁ h₁ => ?_) fun _ _ h' => h'.elim)))
  cases r with
  | none => exact wpAny_pure h₁
  | some v =>
    refine wpAny_bind (wpAny_mono h₁ (fun _ s1' h1' => ?_) fun _ _ h' => h'.elim)
    refine wpAny_bind (wpAny_mono h1' (fun _ s₂ h₂ => wpAny_bind (wpAny_mono h₂ (fun ok s₃ h₃ => ?_) fun _ _ h' => h'.elim)) fun _ _ h' => h'.elim)
    cases ok with
    | false => exact wpAny_pure ⟨rfl, h₃⟩
    | true =>
      exact wpAny_bind (wpAny_bind (wpAny_mono h₃ (fun x s₄ h₄ => wpAny_bind (wpAny_mono h₄ (fun _ s₅ h₅ => wpAny_pure (wpAny_pure ⟨rfl, h₅⟩)) fun _ _ h' => h'.elim)) fun _ _ h' => h'.elim))
end Mine
end

section
set_option Elab.async false
set_option linter.all false
namespace Mine
open PySem PySem.W PyProof.Rows PySem.Spec PySem.Calls

variable {C : Cx} {prog : Program} {w : World} {A : Around} {σ : List Addr} {H : Hp} {s : Shared} {E : Value → Shared → Prop}
variable {P : Prog} {n m : Nat} {sc : Scope} {env : Env} {r : Rho}

theorem Sound.tsE (N : Sound C P prog w n) {x : List Expr} {a : List Mine.E} {b : Bool} {H1 : Hp} {Q : Bool → Shared → Prop} (h1 : REs m sc x a) (K : KindOK sc env) (V : EnvOK C σ s env r) (I : Inv C σ H s) (R : Room n A) (e : tsts P n a r H = some (b, H1)) (k : ∀ s1 σ1, Step C σ s σ1 H1 s1 → Q b s1) :
    wpAny (model prog w) A (forIn x true fun c r => if r = true then do let ok ← isTrue c env (eval c env); pure (ForInStep.yield ok) else pure (ForInStep.yield r)) Q E s :=
  lift2 (N.ts h1 K V I R e) fun y s1 h => h.1 ▸ h.2.elim fun σ1 h => k s1 σ1 h

inductive CompInv (C : Cx) (P : Prog) (n : Nat) (env : Env) (it : Addr) (sr : Src) (s0 : Shared) (σ0 : List Addr) (a0 : Nat) (acc : Addr) (B : V → Hp → Option (Option V × Hp)) (r : Rho) (H' : Hp) (k : Nat) (s : Shared) : Prop
  | mk (i : Nat) (σ : List Addr) (H : Hp) : LoopAt C env [] it sr s0 σ0 i σ H r s → σ[a0]? = some acc → compN sr a0 B k i H = some H' → CompInv C P n env it sr s0 σ0 a0 acc B r H' k s
noncomputable def CompQ (C : Cx) (σ0 : List Addr) (s0 : Shared) (env : Env) (r : Rho) (H' : Hp) (a0 : Nat) (acc : Addr) (s' : Shared) : Prop := ∃ σ', Step C σ0 s0 σ' H' s' ∧ EnvOK C σ' s' env r ∧ σ'[a0]? = some acc
theorem comp_end {sr : Src} {it acc : Addr} {i a0 : Nat} {H' : Hp} {s0 : Shared} {σ0 : List Addr} {B : V → Hp → Option (Option V × Hp)} (hh : A.handled = none) (L : LoopAt C env [] it sr s0 σ0 i σ H r s) (ha : σ[a0]? = some acc) (e : compN sr a0 B 0 i H = some H') {Q : Option Value → Shared → Prop} (hq : ∀ s1, CompQ C σ0 s0 env r H' a0 acc s1 → Q none s1) : wpAny (model prog w) A (pyNext (.ref it)) Q E s :=
  iteP e fun hl e => lift2 (end_ok hh L.T hl L.S.inv) fun y s1 h => (L.fin h).1 ▸ hq s1 (someE (G := fun H' => CompQ C σ0 s0 env r H' a0 acc s1) e ⟨σ, (L.fin h).2.1, (L.fin h).2.2, ha⟩)
theorem LoopAt.keep {it : Addr} {sr : Src} {s0 s1 : Shared} {σ0 σ1 : List Addr} {H1 : Hp} {r1 : Rho} {i : Nat} (L : LoopAt C env [] it sr s0 σ0 i σ H r s) (S : Step C σ s σ1 H1 s1) : LoopAt C env [] it sr s0 σ0 i σ1 H1 r s1 := L.step S (S.env L.V) (fun _ h => nomatch h) fun _ h => nomatch h
theorem LoopAt.weaken {W : List Addr} {it : Addr} {sr : Src} {s0 : Shared} {σ0 : List Addr} {r1 : Rho} {i : Nat} (L : LoopAt C env W it sr s0 σ0 i σ H r s) (h : ∀ x v, r1 x = some v → r x = some v) : LoopAt C env W it sr s0 σ0 i σ H r1 s := ⟨L.V.weaken h, L.S, L.O, L.T, L.own, L.new⟩

theorem comp_next {sr : Src} {t elt : Expr} {ifs : List Expr} {ts : List String} {one : Bool} {a : Mine.E} {c : List Mine.E} {it acc : Addr} {a0 k i : Nat} {H' : Hp} {s0 : Shared} {σ0 : List Addr}
    (N : Sound C P prog w n) (ht : targetsOf sc t = some (ts, one)) (he : RE m sc elt a) (hi : REs m sc ifs c) (K : KindOK sc env) (R : Room n A) (hfree : ∀ x ∈ ts, r x = none) (hC0 : s0.heap.get? env.locals = none)
    (L : LoopAt C env [] it sr s0 σ0 i σ H r s) (ha : σ[a0]? = some acc) (e : compN sr a0 (cBody P n a ts one c r) (k + 1) i H = some H') {Q : Option Value → Shared → Prop}
    (hq : ∀ v s1, wpAny (model prog w) A (letOwnedTupleGo t (.ref it) v) (fun _ s1' => wpAny (model prog w) A (assign t env v) (fun _ s₂ => wpAny (model prog w) A (forIn ifs true fun c r => if r = true then do let ok ← isTrue c env (eval c env); pure (ForInStep.yield ok) else pure (ForInStep.yield r)) (fun ok s₃ =>
            if ok = true then wpAny (model prog w) A (eval elt env) (fun x s₄ => wpAny (model prog w) A (call (.builtin "list.append") [.ref acc, x]) (fun _ => CompInv C P n env it sr s0 σ0 a0 acc (cBody P n a ts one c r) r H' k) F0 s₄) F0 s₃
            else CompInv C P n env it sr s0 σ0 a0 acc (cBody P n a ts one c r) r H' k s₃) F0 s₂) F0 s1') F0 s1 → Q (some v) s1) : wpAny (model prog w) A (pyNext (.ref it)) Q E s :=
  bindE e fun v hv e => bindP e fun x H2 e2 e => bindE e2 fun r2 hb2 e2 => bindP e2 fun tb H3 hts e3 => lift2 (next_ok L.T L.O hv L.S.inv) fun y s1 h => (L.next h).elim fun z g => g.1 ▸ hq z s1 (letOwned_ok g.2.2.T (wpAny_mono (bind_ok ht R.handled K g.2.2.V g.2.2.S.inv g.2.1 hb2) (fun _ s2 g2 =>
    have L2 := g.2.2.step g2.1 g2.2 (fun a ha => List.mem_singleton.mp ha ▸ List.mem_cons_self) fun a ha => .inr (List.mem_singleton.mp ha ▸ hC0)
    N.tsE hi K L2.V L2.S.inv R hts fun s3 σ3 S3 =>
    have L3 : LoopAt C env [] it sr s0 σ0 (i + 1) σ3 H3 r2 s3 := L2.step S3 (S3.env L2.V) (fun _ h => nomatch h) fun _ h => nomatch h
    have hkeep : ∀ x u, r x = some u → r2 x = some u := fun x u hx => bindT_keeps hb2 (fun q => some_none hx (hfree x q)) hx
    have ha3 := pre_get S3.pre ha
    match tb, e3 with
    | false, e3 => someR (G := fun x H2 => (match x with | some x => (hGet H2 a0).bind fun xs => chk xs.length (compN sr a0 (cBody P n a ts one c r) k (i + 1) (hSet H2 a0 (xs ++ [x]))) | none => compN sr a0 (cBody P n a ts one c r) k (i + 1) H2) = some H' → CompInv C P n env it sr s0 σ0 a0 acc (cBody P n a ts one c r) r H' k s3) e3 (fun e => .mk (i + 1) σ3 H3 (L3.weaken hkeep) ha3 e) e
    | true, e3 => mapPR (G := fun x H2 => (match x with | some x => (hGet H2 a0).bind fun xs => chk xs.length (compN sr a0 (cBody P n a ts one c r) k (i + 1) (hSet H2 a0 (xs ++ [x]))) | none => compN sr a0 (cBody P n a ts one c r) k (i + 1) H2) = some H' → wpAny (model prog w) A (eval elt env) (fun x s₄ => wpAny (model prog w) A (call (.builtin "list.append") [.ref acc, x]) (fun _ => CompInv C P n env it sr s0 σ0 a0 acc (cBody P n a ts one c r) r H' k) F0 s₄) F0 s3) e3 (fun u H4 hev e => bindE e fun xs hxs e => chkE e fun hlim e =>
        N.eE he K L3.V L3.S.inv R hev fun y s4 σ4 S4 r4 => okE (append_ok hxs hlim S4.inv (.ref _ _ (pre_get S4.pre ha3)) r4) fun _ s5 σ5 S5 _ => .mk (i + 1) σ5 _ ((((L3.keep (r1 := r2) S4).keep (r1 := r2) S5)).weaken hkeep) (pre_get S5.pre (pre_get S4.pre ha3)) e) e) fun _ _ h => h))

theorem comp_loop {sr : Src} {t elt iter : Expr} {ifs : List Expr} {pos : Pos} {ts : List String} {one : Bool} {a : Mine.E} {c : List Mine.E} {it acc : Addr} {a0 k : Nat} {H' : Hp} {s0 : Shared} {σ0 : List Addr}
    (N : Sound C P prog w n) (ht : targetsOf sc t = some (ts, one)) (he : RE m sc elt a) (hi : REs m sc ifs c) (K : KindOK sc env) (R : Room n A) (hfree : ∀ x ∈ ts, r x = none) (hC0 : s0.heap.get? env.locals = none)
    (L : LoopAt C env [] it sr s0 σ0 0 σ H r s) (ha : σ[a0]? = some acc) (e : compN sr a0 (cBody P n a ts one c r) k 0 H = some H') :
    codeAny (model prog w) A (.compLoop (.ListComp elt [⟨t, iter, ifs, 0⟩] sc pos) 0 (.ref it) (.ref acc) env) (fun q s' => match q with | .ok _ => CompQ C σ0 s0 env r H' a0 acc s' | .error _ => False) s := by
  refine compLoop_any (CompInv C P n env it sr s0 σ0 a0 acc (cBody P n a ts one c r) r H') (fun k s hI => ?_) k (.mk 0 σ H L ha e)
  clear L e ha
  refine hI.casesOn fun i σ H L ha e => ?_
  clear hI
  cases k with
  | zero => exact comp_end R.handled L ha e fun s1 h => h
  | succ k =>
    refine comp_next N ht he hi K R hfree hC0 L ha e fun v s1 h => ?_
    refine wpAny_mono h (fun _ s1' h => wpAny_mono h (fun _ s2 h => wpAny_mono h (fun ok s3 h => ?_) fun _ _ h => h) fun _ _ h => h) fun _ _ h => h
    cases ok with
    | false => exact ⟨k, Nat.lt_succ_self _, h⟩
    | true => exact wpAny_mono h (fun _ s4 h => wpAny_mono h (fun _ s5 h => ⟨k, Nat.lt_succ_self _, h⟩) fun _ _ h => h) fun _ _ h => h

section
variable {sc' : Scope} {elt t it : Expr} {ifs : List Expr} {a : Mine.E} {ts : List String} {one : Bool} {fv : List String} {b : Mine.E} {c : List Mine.E}
theorem CompOK.cells (Q : CompOK m sc sc' elt t it ifs a ts one fv b c) (K : KindOK sc env) : ∀ x ∈ sc'.names, x.2 = .free → (env.cells.lookup x.1).isSome = true := fun x hx hf => K.fre _ (Q.nf x hx hf).1
theorem CompOK.kind {cl : Addr} : ∀ x, (compEnvC sc' (clF env sc'.names []) cl env).kindOf x = (sc'.names.lookup x).map (reK env x) := fun x => relabel_kind
theorem CompOK.mem {cl : Addr} (Q : CompOK m sc sc' elt t it ifs a ts one fv b c) {x : Str} {kd : NameKind} (hx : (compEnvC sc' (clF env sc'.names []) cl env).kindOf x = some kd) (hne : kd = .cell ∨ kd = .free) : (x, NameKind.free) ∈ sc'.names := by
  rw [CompOK.kind] at hx
  refine bindE (f := fun k => some (reK env x k)) (x := sc'.names.lookup x) (by rw [← hx]; exact (Option.map_eq_bind ..).symm) fun k hl hx => ?_
  have hm := mem_of_lookup hl
  by_cases hkf : k = .free
  · exact hkf ▸ hm
  · have := reK_free (Option.some.inj hx) hkf
    exact hne.elim (fun h => absurd (this.trans h) (Q.nc _ hm)) fun h => absurd (this.trans h) hkf
theorem CompOK.own (Q : CompOK m sc sc' elt t it ifs a ts one fv b c) (K : KindOK sc env) {q : Addr} (h : q ∈ (clF env sc'.names []).map (·.2)) : q ∈ ownOf env :=
  (List.mem_map.mp h).elim fun p hp => (clF_all hp.1).elim (fun z => nomatch z) fun z => (Option.isSome_iff_exists.mp (Q.cells K _ z.2 rfl)).elim fun c' hc' => List.mem_cons_of_mem _ (List.mem_map.mpr ⟨(p.1, c'), mem_of_lookup hc', (getD_some hc' z.1).symm.trans hp.2⟩)
theorem rSub_some {x : String} {u : V} {G : Prop} (h : rSub fv r x = some u) (g : x ∈ fv → r x = some u → G) : G := by
  have h : (if fv.contains x = true then r x else Option.none) = some u := h
  exact iteP h fun hc h => g (by simpa using hc) h
theorem CompOK.envOK (Q : CompOK m sc sc' elt t it ifs a ts one fv b c) (K : KindOK sc env) {cl : Addr} (V : EnvOK C σ s env r) (hns : s.heap.Ns cl fun _ => none) (h1 : cl ∉ σ) (h2 : cl ∉ C.X) (h3 : C.B.get? cl = none) (hne : cl ∉ ownOf env) : EnvOK C σ s (compEnvC sc' (clF env sc'.names []) cl env) (rSub fv r) :=
  have hl := Q.cells K
  ⟨(show (relabel sc' env).kind = _ from Q.k), V.globals, V.builtins, ⟨_, hns, fun x u hx hkx => rSub_some hx fun hm _ => by
      rw [CompOK.kind, (Q.nf _ (frees_mem Q.fv hm) rfl).2] at hkx
      exact (reK_or (env := env) (x := nm x)).elim (fun e => nomatch e.symm.trans (Option.some.inj hkx)) fun e => nomatch e.symm.trans (Option.some.inj hkx)⟩,
    fun x u hx hkx => rSub_some hx fun hm hx =>
      have hm := frees_mem Q.fv hm
      (V.cel x u hx (K.der _ (Q.nf _ hm rfl).1)).elim fun c' g => g.elim fun w' g => ⟨c', w', clF_look hl hm g.1, g.2⟩,
    fun x hkx => by
      have hm := Q.mem hkx (.inl rfl)
      rw [CompOK.kind, (Q.nf _ hm rfl).2] at hkx
      exact (V.has x (reK_cell (Option.some.inj hkx))).elim fun c' g => g.elim fun u g => ⟨c', u, clF_look hl hm g.1, g.2⟩,
    fun q hq => (List.mem_cons.mp hq).elim (fun e => e ▸ ⟨h1, h2, h3, hns.elim fun o' g => g.elim fun es g => g.elim fun ep g => ⟨o', g.1, notVal_dict g.2.1⟩⟩) fun hq => V.own q (Q.own K hq),
    fun x y c h1 h2 => V.apart x y c (clF_get hl h1).1 (clF_get hl h2).1, fun p hp e => hne (by
      have e : p.2 = cl := e
      exact e ▸ Q.own K (List.mem_map.mpr ⟨p, hp, rfl⟩))⟩
theorem CompOK.kinds (Q : CompOK m sc sc' elt t it ifs a ts one fv b c) (K : KindOK sc env) {cl : Addr} : KindOK sc' (compEnvC sc' (clF env sc'.names []) cl env) := by
  have hd : ∀ x, isDeref sc' x = true → sc'.names.lookup x = some .free := fun x h => ((Bool.or_eq_true _ _).mp h).elim (fun h => absurd rfl (Q.nc _ (mem_of_lookup (eq_of_beq h)))) eq_of_beq
  refine ⟨fun x hx => ?_, fun x hx => ?_, fun x hx => ?_, fun x hx => ?_, fun x hx => ?_, fun hx => noB (Q.ng.symm.trans hx)⟩
  · rw [CompOK.kind, (eq_of_beq hx : sc'.names.lookup x = some .local)]; rfl
  · rw [CompOK.kind, hd x hx]
    exact reK_or.imp (congrArg some) (congrArg some)
  · exact absurd rfl (Q.nc _ (mem_of_lookup (show sc'.names.lookup x = some .cell from hx)))
  · rw [CompOK.kind, (eq_of_beq hx : sc'.names.lookup x = some .globalImplicit)]; rfl
  · have hm := mem_of_lookup (hd x hx)
    exact (Option.isSome_iff_exists.mp (Q.cells K _ hm rfl)).elim fun c' hc' => (congrArg Option.isSome (clF_look (Q.cells K) hm hc') : ((clF env sc'.names []).lookup x).isSome = true)
theorem CompOK.fresh (Q : CompOK m sc sc' elt t it ifs a ts one fv b c) : ∀ x ∈ ts, rSub fv r x = none := fun x hx => by
  show (if fv.contains x = true then r x else Option.none) = none
  by_cases hc : fv.contains x = true
  · have hm := (Q.nf _ (frees_mem Q.fv (by simpa using hc)) rfl).2
    have := eq_of_beq (targets_local Q.t x hx)
    exact nomatch (Option.some.inj (hm.symm.trans this))
  · exact if_neg hc
theorem src_len {sr : Src} {x : Value} {xs : List V} {k : Nat} (T : IterOf σ s.heap sr x) (I : Inv C σ H s) (e : srcLen (H ++ [.lst xs]) sr = some k) : ∃ k', srcLen H sr = some k' := by
  cases T with
  | list q p' hp =>
    have hq : q < H.length := I.len ▸ (List.getElem?_eq_some_iff.mp hp).1
    have : hGet (H ++ [.lst xs]) q = hGet H q := by unfold hGet; rw [List.getElem?_append_left hq]
    have e : (hGet (H ++ [.lst xs]) q).map (·.length) = some k := e
    rw [this] at e
    exact ⟨k, e⟩
  | up => exact ⟨_, rfl⟩
  | down => exact ⟨_, rfl⟩
end

noncomputable def CompUse (C : Cx) (prog : Program) (w : World) (A : Around) (σ : List Addr) (s : Shared) (use : Option (Value → Sem Unit)) (Q : Value → Shared → Prop) (v : V) (H' : Hp) : Prop := ∀ σ' s' acc cl m i, v = .ref i → σ'[i]? = some acc → Step C σ s σ' H' s' → s'.heap.Ns cl m → s.heap.get? cl = none → ItOK C σ' cl → compPost (model prog w) A F0 use Q (.ref acc) cl (.ok .next) s'
theorem comp_core (N : Sound C P prog w n) {elt t it : Expr} {ifs : List Expr} {sc' : Scope} {p p2 : Pos} {a : Mine.E} {ts : List String} {one : Bool} {fv : List String} {b : Mine.E} {c : List Mine.E} {v : V} {H' : Hp} {use : Option (Value → Sem Unit)} {Q : Value → Shared → Prop}
    (D : CompOK m sc sc' elt t it ifs a ts one fv b c) (K : KindOK sc env) (V : EnvOK C σ s env r) (I : Inv C σ H s) (R : Room n A) (e : ev P (n + 1) (.comp a ts one fv b c) r H = some (v, H')) (hQ : CompUse C prog w A σ s use Q v H') :
    wpAny (model prog w) A (comprehension (.ListComp elt [⟨t, it, ifs, 0⟩] sc' p) sc' env p2 (newList []) false (eval it env) use) Q F0 s := by
  refine bindP e fun sr H1 e1 e => bindE e fun k e2 e => mapR (G := fun v H' => CompUse C prog w A σ s use Q v H' → wpAny (model prog w) A (comprehension (.ListComp elt [⟨t, it, ifs, 0⟩] sc' p) sc' env p2 (newList []) false (eval it env) use) Q F0 s) e (fun H3 e3 hQ => ?_) hQ
  rename_i hQ0
  clear hQ0 e
  refine wpAny_comprehension_free (g := ⟨t, it, ifs, 0⟩) (gs := []) rfl (bare_set D.it) (closure_is (D.cells K)) D.k D.nl (N.srcE D.it K V I R e1 fun x s1 σ1 S1 T1 => (src_len T1 S1.inv e2).elim fun k' hk' => wpAny_mono (iter_ok T1 hk' S1.inv) (fun y s2 h => h.elim fun it' h => ?_) fun _ _ h => h)
  obtain ⟨hy, hf, S2, T2⟩ := h
  rw [hy]
  clear hk' hy
  refine wpAny_newObj_type ?_
  have g3 := S2.inv.newList (s' := { s2 with heap := s2.heap.push { cls := .type "list", data := .seq ([] : List Value).toArray } }) (xs := []) (vs := #[]) (n := 0) (a := s2.heap.objs.size) (fresh_at _) (Heap.get?_push_size _ rfl) (fun _ _ e => Heap.get?_push_of_some _ e) rfl rfl .nil (Nat.zero_le _)
  have hacc : (σ1 ++ [s2.heap.objs.size])[H1.length]? = some s2.heap.objs.size := by rw [← S1.inv.len, List.getElem?_append_right (Nat.le_refl _), Nat.sub_self]; rfl
  revert g3 hacc
  generalize s2.heap.objs.size = al
  generalize σ1 ++ [al] = σ2
  generalize ({ s2 with heap := s2.heap.push { cls := .type "list", data := .seq ([] : List Value).toArray } } : Shared) = s3
  intro g3 hacc
  have S3 := g3.1
  have S03 := (S1.trans S2).trans S3
  have hnew : ∀ {q}, s1.heap.get? q = none → s.heap.get? q = none := fun {q} hq => by
    cases h : s.heap.get? q with
    | none => rfl
    | some o => exact (S1.old q o h).elim fun o' h' => some_none h' hq
  have hf0 : ∀ q, s3.heap.get? q = none → s.heap.get? q = none := fun q hq => by
    cases h : s.heap.get? q with
    | none => rfl
    | some o => exact (S03.old q o h).elim fun o' h' => some_none h' hq
  have O1 : ItOK C σ1 it' := ⟨S1.inv.notσ_fresh hf, S1.inv.notX_fresh hf, S1.inv.notB_fresh hf⟩
  have hk3 : ∀ o, s2.heap.get? it' = some o → s3.heap.get? it' = some o := fun o h => S3.pres _ _ h O1.s O1.x fun q => nomatch q
  have O3 : ItOK C σ2 it' := T2.val.elim fun o g => O1.move S3 g.1
  refine wpAny_newFunctionEnv D.nc (fun x hx => nomatch hx) (fun h4 hns hsb => ?_) D.k
  have hCf := fresh_at s3.heap
  have S4 : Step C σ2 s3 σ2 (H1 ++ [.lst []]) { s3 with heap := h4, toks := s3.toks + ([] : List (Str × Value)).length } := S3.inv.keeps (fun b o h => (hsb.2 b fun q => some_none (q ▸ h) hCf).trans (Heap.get?_push_of_some _ h)) rfl rfl
  have T4 := (T2.move S3.pre hk3).move S4.pre fun o h => S4.pres _ _ h O3.s O3.x fun q => nomatch q
  have V3 := S03.env V
  have hCo : s3.heap.objs.size ∉ ownOf env := fun q => (V3.own _ q).2.2.2.elim fun o g => some_none g.1 hCf
  have Vc : EnvOK C σ2 { s3 with heap := h4, toks := s3.toks + ([] : List (Str × Value)).length } (compEnvC sc' (clF env sc'.names []) s3.heap.objs.size env) (rSub fv r) := D.envOK K (S4.env V3) hns (S3.inv.notσ_fresh hCf) (S3.inv.notX_fresh hCf) (S3.inv.notB_fresh hCf) hCo
  have hownC : it' ∉ ownOf (compEnvC sc' (clF env sc'.names []) s3.heap.objs.size env) := fun q => (List.mem_cons.mp q).elim (fun q => T2.val.elim fun o g => some_none (q ▸ hk3 o g.1) hCf) fun q => (V.own _ (D.own K q)).2.2.2.elim fun o g => some_none g.1 (hnew hf)
  have fin := codeAny_mono (comp_loop (iter := it) (pos := p) N D.t D.e D.i (D.kinds K) R D.fresh (hf0 _ hCf) ⟨Vc, S03.trans S4, O3, T4, hownC, hnew hf⟩ hacc e3) (R' := compPost (model prog w) A F0 use Q (.ref al) s3.heap.objs.size) fun q s' hq => by
    cases q with
    | error _ => exact hq.elim
    | ok f =>
      obtain ⟨σ', S', V', ha'⟩ := hq
      obtain ⟨m, hm, _⟩ := V'.loc
      have q := V'.own s3.heap.objs.size List.mem_cons_self
      have := hQ σ' s' _ s3.heap.objs.size m H1.length rfl ha' S' hm (hf0 _ hCf) ⟨q.1, q.2.1, q.2.2.1⟩
      cases use <;> exact this
  exact codeAny_compStart_list fin (again_ok T4 fin)
end Mine
end

section
set_option Elab.async false
set_option linter.all false
namespace Mine
open PySem PySem.W PyProof.Rows PySem.Spec PySem.Calls

variable {C : Cx} {prog : Program} {w : World} {A : Around} {σ : List Addr} {H : Hp} {s : Shared} {E : Value → Shared → Prop}
variable {P : Prog} {n m : Nat} {sc : Scope} {env : Env} {r : Rho}

theorem Ns.notVal {h : Heap} {cl : Addr} {m : Str → Option Value} (hm : h.Ns cl m) : ∃ o, h.get? cl = some o ∧ ¬ ValO o := let ⟨o, _, _, e, d, _⟩ := hm; ⟨o, e, notVal_dict d⟩

theorem comp_e (N : Sound C P prog w n) {elt t it : Expr} {ifs : List Expr} {sc' : Scope} {p : Pos} {a : Mine.E} {ts : List String} {one : Bool} {fv : List String} {b : Mine.E} {c : List Mine.E} (D : CompOK m sc sc' elt t it ifs a ts one fv b c) :
    EvOK C P prog w (n + 1) sc (.ListComp elt [⟨t, it, ifs, 0⟩] sc' p) (.comp a ts one fv b c) := fun env r σ H s A v H' K V I R e => by
  rw [eval_ListComp]
  exact comp_core (use := none) N D K V I R.pred e fun σ' s' acc cl m i hv ha S hm hc O => ⟨m, hm, fun h' hs => ⟨σ', S.ended hc O (Ns.notVal hm) hs.extBut, hv ▸ .ref _ _ ha⟩⟩

theorem iter_value (N : Sound C P prog w n) {x : Expr} {a : Mine.E} {v : Src} {H' : Hp} (h1 : RE m sc x a) (K : KindOK sc env) (V : EnvOK C σ s env r) (I : Inv C σ H s) (R : Room n A)
    (e : ((ev P n a r H).bind fun (v, H1) => v.ref?.bind fun a => (hGet H1 a).map fun _ => (Src.list a, H1)) = some (v, H')) : wpAny (model prog w) A (eval x env) (OkI C σ s H' v) F0 s :=
  bindP e fun va H1 e1 e => bindE e fun q hq e => mapR (G := fun v H' => wpAny (model prog w) A (eval x env) (OkI C σ s H' v) F0 s) e fun xs _ => N.eE h1 K V I R e1 fun y s1 σ1 S1 r1 =>
    (Mine.refE (G := fun va => VR C.X σ1 s1.heap va y → OkI C σ s H1 (.list q) y s1) hq fun r1 => VR.refE (G := fun y => OkI C σ s H1 (.list q) y s1) r1 fun p hp => ⟨σ1, S1, .list q p hp⟩) r1

@[elab_as_elim] theorem rngE {G : Mine.E → Prop} {a : Mine.E} {args : List Mine.E} (h : rngArgs a = some args) (g : G (.callG "range" args)) : G a := by
  cases a with
  | callG f as => exact iteP (c := f = "range") h fun hf h => hf ▸ (Option.some.inj h : as = args) ▸ g
  | _ => exact no h
noncomputable def callG? (a : Mine.E) : Option (String × List Mine.E) := match a with | .callG f args => some (f, args) | _ => none
@[elab_as_elim] theorem RE.callG {G : Expr → Prop} {x : Expr} {t : String} {as : List Mine.E} (h : RE m sc x (.callG t as)) (g : ∀ p cp xs, dbg (nm t) → isGlob sc (nm t) = true → REs (m - 1) sc xs as → G (.Call (.Name (nm t) p) xs [] cp)) : G x := by
  refine RE1.casesOn (motive := fun x a _ => ∀ q, callG? a = some q → q = (t, as) → G x) h.view ?_ ?_ ?_ ?_ ?_ ?_ ?_ ?_ ?_ ?_ ?_ ?_ ?_ ?_ ?_ ?_ ?_ ?_ ?_ ?_ ?_ ?_ ?_ ?_ ?_ (t, as) rfl rfl
  case refine_17 =>
    intro u p args cp l _ hd hg h1 q e e2
    have e3 : (u, l) = (t, as) := (Option.some.inj e).trans e2
    have e4 : u = t := congrArg Prod.fst e3
    have e5 : l = as := congrArg Prod.snd e3
    exact e4 ▸ g p cp args (e4 ▸ hd) (e4 ▸ hg) (e5 ▸ h1)
  all_goals
    intros
    exact no ‹_ = some _›
@[elab_as_elim] theorem REs.cons1 {G : List Expr → Prop} {xs : List Expr} {a : Mine.E} {as : List Mine.E} (h : REs m sc xs (a :: as)) (g : ∀ x xs, RE (m - 1) sc x a → REs (m - 1) sc xs as → G (x :: xs)) : G xs :=
  REs.view (G := fun xs bs => bs = a :: as → G xs) h (fun q => nomatch q) (fun x b xs bs h1 h2 q => g x xs ((List.cons.inj q).1 ▸ h1) ((List.cons.inj q).2 ▸ h2)) rfl
@[elab_as_elim] theorem REs.nil1 {G : List Expr → Prop} {xs : List Expr} (h : REs m sc xs []) (g : G []) : G xs := REs.view (G := fun xs bs => bs = [] → G xs) h (fun _ => g) (fun x b xs bs _ _ q => nomatch q) rfl

theorem rng_call (F : Facts C P prog w) {p cp : Pos} {xs : List Expr} {as : List Mine.E} {Q : Value → Shared → Prop} (hd : dbg (nm "range")) (hg : isGlob sc (nm "range") = true) (hR : REs m sc xs as) (K : KindOK sc env) (V : EnvOK C σ s env r) (I : Inv C σ H s)
    (h : wpAny (model prog w) A (spliced (backTo cp (starEach xs env))) (fun ws s1 => Over C s1.heap ∧ wpAny (model prog w) A (call (.type "range") ([] ++ ws)) Q F0 s1) F0 s) : wpAny (model prog w) A (eval (.Call (.Name (nm "range") p) xs [] cp) env) Q F0 s :=
  wpAny_Call_NameR (wpAny_Name (load_glob V.kind (K.glo _ hg) (F.rng.load I.over V.globals V.builtins (callWith_of (P := Over C) (by rw [noStar hR]; rfl) F.rng.keep (eargs hR h)))) hd)

theorem src_e (N : Sound C P prog w n) (F : Facts C P prog w) {x : Expr} {a : Mine.E} (h1 : RE m sc x a) : SrcOK C P prog w (n + 1) sc x a := fun env r σ H s A v H' K V I R e => by
  have e : (match rngArgs a with
    | some args => (match one args with
      | some a => (ev P n a r H).bind fun (v, H1) => v.int?.bind fun k => if k < 1000000 && -1000000 < k then some (.ints (rangeUp k), H1) else Option.none
      | none => (three args).bind fun p => (ev P n p.1 r H).bind fun (va, H1) => (ev P n p.2.1 r H1).bind fun (vb, H2) => (ev P n p.2.2 r H2).bind fun (vc, H3) => va.int?.bind fun x => vb.int?.bind fun y => vc.int?.bind fun z =>
        if z = -1 then (if x < 1000000 && -1000000 < x && y < 1000000 && -1000000 < y then some (.ints (rangeDown x y), H3) else Option.none) else Option.none)
    | none => (ev P n a r H).bind fun (v, H1) => v.ref?.bind fun a => (hGet H1 a).map fun _ => (Src.list a, H1)) = some (v, H') := e
  cases hr : rngArgs a with
  | none => rw [hr] at e; exact iter_value N h1 K V I R.pred e
  | some args =>
    rw [hr] at e
    refine (rngE (G := fun a => RE m sc x a → _) hr fun h1 => RE.callG (G := fun x => wpAny (model prog w) A (eval x env) (OkI C σ s H' v) F0 s) h1 fun p cp xs hd hg hR => ?_) h1
    refine rng_call F hd hg hR K V I ?_
    clear h1 hr hd hg
    cases ho : one args with
    | some a1 =>
      simp only [ho] at e
      refine bindP e fun va H1 e1 e => bindE e fun k hk e => iteP e fun hc e => someR (G := fun v H' => wpAny (model prog w) A (spliced (backTo cp (starEach xs env))) (fun ws s1 => Over C s1.heap ∧ wpAny (model prog w) A (call (.type "range") ([] ++ ws)) (OkI C σ s H' v) F0 s1) F0 s) e ?_
      refine (oneE (G := fun args => REs (m - 1) sc xs args → _) ho fun hR => REs.cons1 (G := fun xs => wpAny (model prog w) A (spliced (backTo cp (starEach xs env))) (fun ws s1 => Over C s1.heap ∧ wpAny (model prog w) A (call (.type "range") ([] ++ ws)) (OkI C σ s H1 (.ints (rangeUp k))) F0 s1) F0 s) hR fun y ys hy hR => REs.nil1 (G := fun ys => wpAny (model prog w) A (spliced (backTo cp (starEach (y :: ys) env))) (fun ws s1 => Over C s1.heap ∧ wpAny (model prog w) A (call (.type "range") ([] ++ ws)) (OkI C σ s H1 (.ints (rangeUp k))) F0 s1) F0 s) hR ?_) hR
      exact spliced_more (N.eE hy K V I R.pred e1 fun y s1 σ1 S1 r1 => spliced_none ⟨S1.inv.over, (intE (G := fun va => VR C.X σ1 s1.heap va y → _) hk fun r1 => VR.intE (G := fun y => wpAny (model prog w) A (call (.type "range") [y]) (OkI C σ s H1 (.ints (rangeUp k))) F0 s1) r1 fun t => call_range_1 ⟨σ1, S1.trans (S1.inv.push (tk := s1.toks + 1 + 1)), .up k _ _ _ _ (of_decide_eq_true (andE hc fun a _ => a)) (of_decide_eq_true (andE hc fun _ a => a)) (IsRange.new _ _ _ _ _ _ _)⟩) r1⟩) (star_cons hy)
    | none =>
      simp only [ho] at e
      refine bindE e fun q hq e => bindP e fun va H1 e1 e => bindP e fun vb H2 e2 e => bindP e fun vc H3 e3 e => bindE e fun i hi e => bindE e fun j hj e => bindE e fun z hz e => iteP e fun hz1 e => iteP e fun hc e => someR (G := fun v H' => wpAny (model prog w) A (spliced (backTo cp (starEach xs env))) (fun ws s1 => Over C s1.heap ∧ wpAny (model prog w) A (call (.type "range") ([] ++ ws)) (OkI C σ s H' v) F0 s1) F0 s) e ?_
      refine (threeE (G := fun args => REs (m - 1) sc xs args → _) hq fun hR => REs.cons1 (G := fun xs => wpAny (model prog w) A (spliced (backTo cp (starEach xs env))) (fun ws s1 => Over C s1.heap ∧ wpAny (model prog w) A (call (.type "range") ([] ++ ws)) (OkI C σ s H3 (.ints (rangeDown i j))) F0 s1) F0 s) hR fun y1 ys hy1 hR => REs.cons1 (G := fun ys => wpAny (model prog w) A (spliced (backTo cp (starEach (y1 :: ys) env))) (fun ws s1 => Over C s1.heap ∧ wpAny (model prog w) A (call (.type "range") ([] ++ ws)) (OkI C σ s H3 (.ints (rangeDown i j))) F0 s1) F0 s) hR fun y2 ys hy2 hR => REs.cons1 (G := fun ys => wpAny (model prog w) A (spliced (backTo cp (starEach (y1 :: y2 :: ys) env))) (fun ws s1 => Over C s1.heap ∧ wpAny (model prog w) A (call (.type "range") ([] ++ ws)) (OkI C σ s H3 (.ints (rangeDown i j))) F0 s1) F0 s) hR fun y3 ys hy3 hR => REs.nil1 (G := fun ys => wpAny (model prog w) A (spliced (backTo cp (starEach (y1 :: y2 :: y3 :: ys) env))) (fun ws s1 => Over C s1.heap ∧ wpAny (model prog w) A (call (.type "range") ([] ++ ws)) (OkI C σ s H3 (.ints (rangeDown i j))) F0 s1) F0 s) hR ?_) hR
      refine spliced_more (N.eE hy1 K V I R.pred e1 fun u1 s1 σ1 S1 r1 => spliced_more (N.eE hy2 K (S1.env V) S1.inv R.pred e2 fun u2 s2 σ2 S2 r2 => spliced_more (N.eE hy3 K (S2.env (S1.env V)) S2.inv R.pred e3 fun u3 s3 σ3 S3 r3 => spliced_none ⟨S3.inv.over, ?_⟩) (star_cons hy3)) (star_cons hy2)) (star_cons hy1)
      rw [hz1] at hz
      refine (intE (G := fun va => VR C.X σ1 s1.heap va u1 → _) hi fun r1 => VR.intE (G := fun y => wpAny (model prog w) A (call (.type "range") [y, u2, u3]) (OkI C σ s H3 (.ints (rangeDown i j))) F0 s3) r1 fun t => (intE (G := fun vb => VR C.X σ2 s2.heap vb u2 → _) hj fun r2 => VR.intE (G := fun y => wpAny (model prog w) A (call (.type "range") [.int i t, y, u3]) (OkI C σ s H3 (.ints (rangeDown i j))) F0 s3) r2 fun u => (intE (G := fun vc => VR C.X σ3 s3.heap vc u3 → _) hz fun r3 => VR.intE (G := fun y => wpAny (model prog w) A (call (.type "range") [.int i t, .int j u, y]) (OkI C σ s H3 (.ints (rangeDown i j))) F0 s3) r3 fun z => ?_) r3) r2) r1
      refine call_range_3 (by decide) ?_ (.inl (by unfold Builtin.divisionGoesByPylong; rfl))
      exact ⟨σ3, (S1.trans (S2.trans S3)).trans S3.inv.push, andE hc fun hc h4 => andE hc fun hc h3 => andE hc fun h1 h2 => .down _ _ _ _ _ _ (of_decide_eq_true h1) (of_decide_eq_true h2) (of_decide_eq_true h3) (of_decide_eq_true h4) (IsRange.new _ _ _ _ _ _ _)⟩
end Mine
end

section
set_option Elab.async false
set_option linter.all false
namespace Mine
open PySem PySem.W PyProof.Rows PySem.Spec PySem.Calls

variable {C : Cx} {prog : Program} {w : World} {A : Around} {σ : List Addr} {H : Hp} {s : Shared} {E : Value → Shared → Prop}
variable {P : Prog} {n m : Nat} {sc : Scope} {env : Env} {r : Rho}

theorem StepW.ownN {σ' : List Addr} {H' : Hp} {s' : Shared} (S : StepW C [env.locals] σ s σ' H' s') : StepW C (ownOf env) σ s σ' H' s' := S.weaken fun a ha => List.mem_singleton.mp ha ▸ List.mem_cons_self
theorem KindOK.store (K : KindOK sc env) {x : Str} (hk : (isLocal sc x || kindIn sc x == some .cell) = true) : env.kindOf x = some .local ∨ env.kindOf x = some .cell := ((Bool.or_eq_true _ _).mp hk).imp (K.loc _) fun h => K.cel _ (eq_of_beq h)

theorem store_x {σ0 : List Addr} {s0 : Shared} {t : String} {v : V} {y : Value} (S : Step C σ0 s0 σ H s) (K : KindOK sc env) (V : EnvOK C σ s env r) (hv : VR C.X σ s.heap v y) (hk : (isLocal sc (nm t) || kindIn sc (nm t) == some .cell) = true) :
    wpAny (model prog w) A (storeName env (nm t) y) (fun _ => OkX C σ0 s0 env .nx (upd r t v) H .next) F0 s :=
  wpAny_mono (store_ok V S.inv hv (K.store hk)) (fun _ s1 h => ⟨σ, (StepW.wide S).trans h.1, h.2, .nx⟩) fun _ _ h => h

@[elab_as_elim] theorem RE.comp {G : Expr → Mine.E → Prop} {x : Expr} {a : Mine.E} (h : RE m sc x a) (hc : notComp x = false)
    (g : ∀ elt t it ifs sc' p a ts one fv b c, CompOK (m - 1) sc sc' elt t it ifs a ts one fv b c → G (.ListComp elt [⟨t, it, ifs, 0⟩] sc' p) (.comp a ts one fv b c)) : G x a := by
  refine RE1.casesOn (motive := fun x a _ => notComp x = false → G x a) h.view ?_ ?_ ?_ ?_ ?_ ?_ ?_ ?_ ?_ ?_ ?_ ?_ ?_ ?_ ?_ ?_ ?_ ?_ ?_ ?_ ?_ ?_ ?_ ?_ ?_ hc
  case refine_23 => intro elt t it ifs sc' p a ts one fv b c D _; exact g _ _ _ _ _ _ _ _ _ _ _ _ D
  all_goals
    intros
    exact noB (Eq.symm ‹_ = false›)

theorem own_not {q : Addr} (V : EnvOK C σ s env r) (h : s.heap.get? q = none) : q ∉ ownOf env := fun z => (V.own _ z).2.2.2.elim fun o g => some_none g.1 h
theorem asg_x (N : Sound C P prog w n) (NS : ∀ k, n = k + 1 → Sound C P prog w k) {t : String} {p q : Pos} {x : Expr} {a : Mine.E} (hk : (isLocal sc (nm t) || kindIn sc (nm t) == some .cell) = true) (h1 : RE m sc x a) : XOK C P prog w (n + 1) sc (.Assign [.Name (nm t) p] x q) (.asg t a) := fun env r σ H s A f r' H' K V I R e =>
  mapPT (G := fun f r' H' => wpAny (model prog w) A (exec (.Assign [.Name (nm t) p] x q) env) (OkX C σ s env f r' H') F0 s) e fun v H1 e1 => (h1.xf.swN (nm t) p q.line).elim fun b hb => by
  cases b with
  | false => exact wpAny_Assign_Name (N.eE h1 K V I R.pred e1 fun y s1 σ1 S1 r1 => store_x S1 K (S1.env V) r1 hk) hb.1
  | true =>
    have hb1 := hb.1
    revert hb1 e1
    refine RE.comp (G := fun x a => ev P n a r H = some (v, H1) → swapsWith x (some (.Name (nm t) p)) q.line env = pure true → wpAny (model prog w) A (exec (.Assign [.Name (nm t) p] x q) env) (OkX C σ s env .nx (upd r t v) H1) F0 s) h1 (hb.2 rfl) fun elt tt it ifs sc' pp a' ts one fv b' c' D e1 hb1 => ?_
    cases n with
    | zero => exact no e1
    | succ n =>
      rw [exec_Assign_Name_used _ _ _ _ hb1]
      refine wpAny_bind (wpAny_standAt (wpAny_bind ?_))
      show wpAny _ A (do let _ ← comprehension (.ListComp elt [⟨tt, it, ifs, 0⟩] sc' pp) sc' env _ (newList []) false (eval it env) (some (assign (.Name (nm t) p) env))) _ _ s
      refine wpAny_bind (wpAny_mono (comp_core (Q := fun _ s' => OkX C σ s env .nx (upd r t v) H1 .next s') (NS n rfl) D K V I R.pred.pred e1 fun σ' s' acc cl m i hv ha S hm hc' O => ?_) (fun _ s' hq => wpAny_pure (wpAny_pure hq)) fun _ _ h => h)
      show wpAny _ A (assign (.Name (nm t) p) env (.ref acc)) _ _ _
      refine wpAny_assign_Name (wpAny_mono (store_ok (v := v) (S.env V) S.inv (hv ▸ .ref _ _ ha) (K.store hk)) (fun _ s2 h => ?_) fun _ _ h => h)
      have hcl := own_not V hc'
      obtain ⟨o, es, ep, g, d, kk⟩ := hm
      have g2 := h.1.pres cl o g O.s O.x fun q => absurd q hcl
      exact ⟨m, ⟨o, es, ep, g2, d, kk⟩, fun h' hs => ⟨σ', ((StepW.wide S).trans h.1).ended (it := cl) hc' O ⟨o, g2, notVal_dict d⟩ hs.extBut, ended_env h.1.inv O h.2 hcl ⟨o, g2, notVal_dict d⟩ hs.extBut, .nx⟩⟩

theorem asgT_x (N : Sound C P prog w n) {es : List Expr} {k : Nat} {p q : Pos} {x : Expr} {ts : List String} {one : Bool} {a : Mine.E} (hnt : noTuple x = true) (ht : targetsOf sc (.Tuple es k p) = some (ts, one)) (h1 : RE m sc x a) : XOK C P prog w (n + 1) sc (.Assign [.Tuple es k p] x q) (.asgT ts a) := fun env r σ H s A f r' H' K V I R e =>
  bindP e fun v H1 e1 e => mapT (G := fun f r' H' => wpAny (model prog w) A (exec (.Assign [.Tuple es k p] x q) env) (OkX C σ s env f r' H') F0 s) e fun r2 e2 =>
  have ho : one = false := mapE (G := fun q : List String × Bool => q.2 = false) ht fun l _ => rfl
  wpAny_Assign_stores (N.eE h1 K V I R.pred e1 fun y s1 σ1 S1 r1 => wpAny_mono (bind_ok (t := .Tuple es k p) (one := false) (ho ▸ ht) R.handled K (S1.env V) S1.inv r1 e2) (fun _ s2 h => ⟨σ1, (StepW.wide S1).trans h.1.ownN, h.2, .nx⟩) fun _ _ h => h) ((h1.xf (env := env)).swT es k p q.line) ((h1.xf (env := env)).tup hnt es k p)

theorem setI_x (N : Sound C P prog w n) {o i x : Expr} {p q : Pos} {a b c : Mine.E} (hnc : notComp x = true) (h1 : RE m sc o a) (h2 : RE m sc i b) (h3 : RE m sc x c) : XOK C P prog w (n + 1) sc (.Assign [.Subscript o i p] x q) (.setI a b c) := fun env r σ H s A f r' H' K V I R e =>
  bindP e fun v H1 e1 e => bindP e fun vo H2 e2 e => bindP e fun vi H3 e3 e => bindE e fun a' ha e => bindE e fun k' hk e => bindE e fun xs e5 e => mapT (G := fun f r' H' => wpAny (model prog w) A (exec (.Assign [.Subscript o i p] x q) env) (OkX C σ s env f r' H') F0 s) e fun j e6 =>
  wpAny_Assign_Subscript (N.eE h3 K V I R.pred e1 fun y s1 σ1 S1 r1 => N.eE h1 K (S1.env V) S1.inv R.pred e2 fun y2 s2 σ2 S2 r2 => N.eE h2 K (S2.env (S1.env V)) S2.inv R.pred e3 fun y3 s3 σ3 S3 r3 =>
    wpAny_mono (setItem_ok e5 e6 S3.inv (S3.vr (Mine.refE (G := fun vo => VR C.X σ2 s2.heap vo y2 → VR C.X σ2 s2.heap (.ref a') y2) ha id r2)) (intE (G := fun vi => VR C.X σ3 s3.heap vi y3 → VR C.X σ3 s3.heap (.int k') y3) hk id r3) (S3.vr (S2.vr r1))) (fun _ s4 S4 => ⟨σ3, StepW.wide ((S1.trans (S2.trans S3)).trans S4), ((S1.trans (S2.trans S3)).trans S4).env V, .nx⟩) fun _ _ h => h) (h3.xf.sw hnc _ _)

theorem aug_x (N : Sound C P prog w n) {t : String} {op : Operator} {x : Expr} {p q : Pos} {a : Mine.E} (hl : isLocal sc (nm t) = true) (h1 : RE m sc x a) : XOK C P prog w (n + 1) sc (.AugAssign (.Name (nm t) p) op x q) (.aug t op a) := fun env r σ H s A f r' H' K V I R e =>
  bindE e fun v hv e => bindP e fun u H1 e1 e => iteP e fun hc e => andE hc fun ho hab => mapPT (G := fun f r' H' => wpAny (model prog w) A (exec (.AugAssign (.Name (nm t) p) op x q) env) (OkX C σ s env f r' H') F0 s) e fun u' H2 hp => by
  cases op with
  | Add =>
    refine wpAny_AugAssign_Name (okE (load_loc V I hv (K.loc _ hl)) fun y s1 σ1 S1 r1 => N.eE h1 K (S1.env V) S1.inv R.pred e1 fun y2 s2 σ2 S2 r2 => okE (iadd_ok hab hp S2.inv (S2.vr r1) r2) fun y3 s3 σ3 S3 r3 => ?_)
    exact store_x (S1.trans (S2.trans S3)) K ((S1.trans (S2.trans S3)).env V) r3 (by rw [hl]; rfl)
  | _ => exact noB ho

theorem del_x (N : Sound C P prog w n) {o i : Expr} {p q : Pos} {a b : Mine.E} (h1 : RE m sc o a) (h2 : RE m sc i b) : XOK C P prog w (n + 1) sc (.Delete [.Subscript o i p] q) (.del a b) := fun env r σ H s A f r' H' K V I R e =>
  bindP e fun vo H2 e2 e => bindP e fun vi H3 e3 e => bindE e fun a' ha e => bindE e fun k' hk e => bindE e fun xs e5 e => mapT (G := fun f r' H' => wpAny (model prog w) A (exec (.Delete [.Subscript o i p] q) env) (OkX C σ s env f r' H') F0 s) e fun j e6 =>
  wpAny_Delete (wpAny_deleteEach_cons (wpAny_delete_Subscript (N.eE h1 K V I R.pred e2 fun y2 s2 σ2 S2 r2 => N.eE h2 K (S2.env V) S2.inv R.pred e3 fun y3 s3 σ3 S3 r3 =>
    wpAny_mono (delItem_ok e5 e6 S3.inv (S3.vr (Mine.refE (G := fun vo => VR C.X σ2 s2.heap vo y2 → VR C.X σ2 s2.heap (.ref a') y2) ha id r2)) (intE (G := fun vi => VR C.X σ3 s3.heap vi y3 → VR C.X σ3 s3.heap (.int k') y3) hk id r3)) (fun _ s4 S4 => wpAny_deleteEach_nil ⟨σ3, StepW.wide ((S2.trans S3).trans S4), ((S2.trans S3).trans S4).env V, .nx⟩) fun _ _ h => h)))

inductive WhlInv (C : Cx) (P : Prog) (n : Nat) (env : Env) (s0 : Shared) (σ0 : List Addr) (a : Mine.E) (d : List S) (f : Fl) (r' : Rho) (H' : Hp) (k : Nat) (s : Shared) : Prop
  | mk (σ : List Addr) (H : Hp) (r : Rho) : EnvOK C σ s env r → StepW C (ownOf env) σ0 s0 σ H s → whileN (tst P n a) (exs P n d) k r H = some (f, r', H') → WhlInv C P n env s0 σ0 a d f r' H' k s
theorem whl_turn (N : Sound C P prog w n) {c : Expr} {b : List Stmt} {a : Mine.E} {d : List S} {f : Fl} {r' : Rho} {H' : Hp} {k : Nat} {σ0 : List Addr} {s0 : Shared} (h1 : RE m sc c a) (h2 : RSs m sc b d) (K : KindOK sc env) (R : Room n A) (V : EnvOK C σ s env r) (S : StepW C (ownOf env) σ0 s0 σ H s) (e : whileN (tst P n a) (exs P n d) (k + 1) r H = some (f, r', H')) {Q : Bool → Shared → Prop}
    (hq : ∀ t s1, (t = true → wpAny (model prog w) A (execs b env) (fun f' s3 => (f' = .next ∧ WhlInv C P n env s0 σ0 a d f r' H' k s3) ∨ (f' = .brk ∧ OkX C σ0 s0 env f r' H' .next s3) ∨ (∃ y, f' = .ret y ∧ OkX C σ0 s0 env f r' H' (.ret y) s3)) F0 s1) → (t = false → OkX C σ0 s0 env f r' H' .next s1) → Q t s1) : wpAny (model prog w) A (isTrue c env (eval c env)) Q E s :=
  bindP e fun t H1 ht e => N.tE h1 K V S.inv R ht fun s1 σ1 S1 => match t, e with
    | false, e => hq false s1 (fun h => noB h) fun _ => someT (G := fun f r' H' => OkX C σ0 s0 env f r' H' .next s1) e ⟨σ1, S.trans (StepW.wide S1), S1.env V, .nx⟩
    | true, e => hq true s1 (fun _ => bindT3 e fun f3 r3 H3 hx e => N.xsE h2 K (S1.env V) S1.inv R hx fun f' s3 σ3 S3 V3 fr =>
      have S03 := S.trans ((StepW.wide S1).trans S3)
      FlR.go (G := fun f3 f' => (match f3 with | .nx => whileN (tst P n a) (exs P n d) k r3 H3 | .brk => some (.nx, r3, H3) | .ret v => some (.ret v, r3, H3)) = some (f, r', H') → (f' = .next ∧ WhlInv C P n env s0 σ0 a d f r' H' k s3) ∨ (f' = .brk ∧ OkX C σ0 s0 env f r' H' .next s3) ∨ (∃ y, f' = .ret y ∧ OkX C σ0 s0 env f r' H' (.ret y) s3)) fr (fun e => .inl ⟨rfl, σ3, H3, r3, V3, S03, e⟩)
        (fun e => .inr (.inl ⟨rfl, someT (G := fun f r' H' => OkX C σ0 s0 env f r' H' .next s3) e ⟨σ3, S03, V3, .nx⟩⟩)) (fun v w hv e => .inr (.inr ⟨w, rfl, someT (G := fun f r' H' => OkX C σ0 s0 env f r' H' (.ret w) s3) e ⟨σ3, S03, V3, .ret hv⟩⟩)) e) fun h => noB h.symm
theorem whl_x (N : Sound C P prog w n) {c : Expr} {b : List Stmt} {p : Pos} {a : Mine.E} {d : List S} (h1 : RE m sc c a) (h2 : RSs m sc b d) : XOK C P prog w (n + 1) sc (.While c b [] p) (.whl a d) := fun env r σ H s A f r' H' K V I R e => by
  refine wpAny_While (codeAny_mono (?_ : codeAny (model prog w) A (.whileLoop c b [] env) (ForQ C σ s env f r' H') s) fun q s' hq => ?_)
  · refine codeAny_whileLoop (WhlInv C P n env s σ a d f r' H') (fun k s1 hI => ?_) 400 (.mk σ H r V (.refl I) e)
    clear V I e
    refine hI.casesOn fun σ H r V S e => ?_
    clear hI
    cases k with
    | zero => exact no e
    | succ k =>
      refine whl_turn N h1 h2 K R.pred V S e fun t s1 g1 g2 => ?_
      clear V S e
      cases t with
      | true =>
        rw [if_pos rfl]
        refine wpAny_mono (g1 rfl) (fun f' s3 h => ?_) fun _ _ h => h.elim
        rcases h with ⟨h1, h2⟩ | ⟨h1, h2⟩ | ⟨y, h1, h2⟩ <;> rw [h1]
        · exact ⟨k, Nat.lt_succ_self _, h2⟩
        · exact h2
        · exact h2
      | false =>
        rw [if_neg Bool.false_ne_true]
        exact wpAny_execs_nil (g2 rfl)
  · cases q with
    | ok f' => exact hq
    | error _ => exact hq.elim
end Mine
end

section
set_option Elab.async false
set_option linter.all false
namespace Mine
open PySem PySem.W PyProof.Rows PySem.Spec PySem.Calls

variable {C : Cx} {prog : Program} {w : World} {A : Around} {σ : List Addr} {H : Hp} {s : Shared} {E : Value → Shared → Prop}
variable {P : Prog} {n m : Nat} {sc : Scope} {env : Env} {r : Rho}

theorem swapped_is {x y : Str} {px py : Pos} {k : Nat} {p : Pos} {i : Int} {k1 : Nat} {q1 : Pos} {tf : Str} {fp : Pos} {as : List Expr} {fq : Pos} {k2 : Nat} {q2 : Pos} (hf : env.scope.kind = .function) (hx : env.kindOf x = some .local) (hy : env.kindOf y = some .local) (hl : (px.line == py.line) = true) (hxy : x ≠ y) :
    swappedStores [.Tuple [.Name x px, .Name y py] k p] (.Tuple [.Constant (.int i) k1 q1, .Call (.Name tf fp) as [] fq] k2 q2) env = pure (some [x, y]) := by
  have hb : env.blockKind = .function := by unfold Env.blockKind; rw [hf]; rfl
  have h1 : (if (env.kindOf x == some .local && px.line == px.line) = true then some x else none) = some x := by rw [hx, beq_self_eq_true, beq_self_eq_true]; rfl
  have h2 : (if (env.kindOf y == some .local && py.line == px.line) = true then some y else none) = some y := by rw [hy, beq_self_eq_true, eq_of_beq hl, beq_self_eq_true]; rfl
  have hn : ∀ f : Expr → Option Str, f (.Name x px) = some x → f (.Name y py) = some y → [Expr.Name x px, .Name y py].filterMap f = [x, y] := fun f h1 h2 => by
    rw [List.filterMap_cons_some h1, List.filterMap_cons_some h2]; rfl
  have hd : [x, y].eraseDups = [x, y] := by
    have : (y == x) = false := beq_eq_false_iff_ne.mpr (Ne.symm hxy)
    rw [List.eraseDups_cons, List.filter_cons, this]
    rfl
  have hc : (!(([.Name x px, .Name y py] : List Expr).length == 2 || ([.Name x px, .Name y py] : List Expr).length == 3) || ([.Constant (.int i) k1 q1, .Call (.Name tf fp) as [] fq] : List Expr).length != ([.Name x px, .Name y py] : List Expr).length || env.blockKind != .function) = false := by rw [hb]; rfl
  unfold swappedStores
  refine (if_neg (by rw [hc]; exact Bool.false_ne_true)).trans ?_
  refine (if_neg (by exact Bool.false_ne_true)).trans ?_
  show (if (_ != _ || _ != _) = true then _ else _ : Sem _) = _
  rw [hn _ h1 h2, hd]
  rfl

theorem tup_of {es : List Expr} {k : Nat} {q : Pos} {a : Mine.E} (h : RE m sc (.Tuple es k q) a) : ∃ as, a = .tup as := by
  cases m with
  | zero => exact no h
  | succ m => exact mapE (G := fun a => ∃ as, a = .tup as) h fun as _ => ⟨as, rfl⟩
theorem tup_val {as : List Mine.E} {v : V} {H1 : Hp} (e : ev P n (.tup as) r H = some (v, H1)) : ∃ vs, v = .tup vs := by
  cases n with
  | zero => exact no e
  | succ n => exact bindP e fun vs H2 _ e => chkE e fun _ e => someR (G := fun v _ => ∃ vs, v = .tup vs) e ⟨vs, rfl⟩
@[elab_as_elim] theorem len2 {α : Type} {G : List α → Prop} {vs : List α} (h : vs.length = 2) (g : ∀ a b, G [a, b]) : G vs := by
  cases vs with
  | nil => exact nomatch h
  | cons a vs => cases vs with
    | nil => exact nomatch h
    | cons b vs => cases vs with
      | nil => exact g a b
      | cons _ _ => exact nomatch h
theorem upd2 {tx ty : String} {v1 v2 : V} (hxy : nm tx ≠ nm ty) : updL r [tx, ty] [v1, v2] = upd (upd r ty v2) tx v1 := by
  funext z
  show (if z = ty then some v2 else if z = tx then some v1 else r z) = (if z = tx then some v1 else if z = ty then some v2 else r z)
  by_cases h1 : z = tx
  · rw [if_neg (fun h2 => hxy (congrArg nm (h1.symm.trans h2))), if_pos h1, if_pos h1]
  · rw [if_neg h1, if_neg h1]
theorem store2 {tx ty : String} {v1 v2 : V} {y : Value} {st : List (Value → Sem Unit)} {Q : Flow → Shared → Prop} (hh : A.handled = none) (hxy : nm tx ≠ nm ty) (K : KindOK sc env) (hx : isLocal sc (nm tx) = true) (hy : isLocal sc (nm ty) = true) (V : EnvOK C σ s env r) (I : Inv C σ H s) (hv : VR C.X σ s.heap (.tup [v1, v2]) y)
    (h : ∀ s3, StepW C (ownOf env) σ s σ H s3 → EnvOK C σ s3 env (updL r [tx, ty] [v1, v2]) → Q .next s3) : wpAny (model prog w) A (assignStores env y (some [nm tx, nm ty]) st) Q F0 s := by
  unfold assignStores
  refine wpAny_bind (wpAny_rule ?_)
  refine VR.tupE (G := fun y => wpAny (model prog w) A (unpackItems y 2 none >>= fun items => assignInOrder [bindName env (nm ty), bindName env (nm tx)] items.reverse >>= fun _ => pure Flow.next) Q F0 s) hv fun pa ws m g gl rv => ?_
  revert g gl
  refine two_vr (G := fun ws => s.heap.get? pa = some { cls := .type "tuple", data := .seq ws.toArray m } → ws.length ≤ 2 * lim → _) rv fun w1 w2 rv1 rv2 g gl => ?_
  refine wpAny_bind (wpAny_unpackItems_tuple hh (items := [w1, w2].toArray) ⟨_, g, rfl, _, rfl⟩ fun h' hs => ?_)
  have S := I.ext (tk := s.toks) hs
  show wpAny _ A (assignInOrder [bindName env (nm ty), bindName env (nm tx)] [w2, w1] >>= fun _ => pure Flow.next) _ _ _
  refine wpAny_bind ?_
  show wpAny _ A (do holding [w1] (bindName env (nm ty) w2); assignInOrder [bindName env (nm tx)] [w1]) _ _ _
  refine wpAny_bind (wpAny_holding (wpAny_bindName (wpAny_mono (store_local (S.env V) S.inv (S.vr rv2) (K.loc _ hy)) (fun _ s2 g2 => ?_) fun _ _ h => h)))
  show wpAny _ A (do holding [] (bindName env (nm tx) w1); assignInOrder [] []) _ _ _
  refine wpAny_bind (wpAny_holding (wpAny_bindName (wpAny_mono (store_local g2.2 g2.1.inv (g2.1.vr (S.vr rv1)) (K.loc _ hx)) (fun _ s3 g3 => ?_) fun _ _ h => h)))
  exact wpAny_pure (wpAny_pure (h s3 ((StepW.wide S).trans (g2.1.ownN.trans g3.1.ownN)) (upd2 hxy ▸ g3.2)))

theorem asg2_x (N : Sound C P prog w n) {tx ty : String} {px py : Pos} {k : Nat} {p q : Pos} {i : Int} {k1 : Nat} {q1 : Pos} {tf : Str} {fp : Pos} {as : List Expr} {fq : Pos} {k2 : Nat} {q2 : Pos} {a : Mine.E} (D : TwoOK m sc px py tf tx ty) (h1 : RE m sc (.Tuple [.Constant (.int i) k1 q1, .Call (.Name tf fp) as [] fq] k2 q2) a) :
    XOK C P prog w (n + 1) sc (.Assign [.Tuple [.Name (nm tx) px, .Name (nm ty) py] k p] (.Tuple [.Constant (.int i) k1 q1, .Call (.Name tf fp) as [] fq] k2 q2) q) (.asgT [tx, ty] a) := fun env r σ H s A f r' H' K V I R e => by
  rw [PySem.exec_Assign_arm]
  refine bindP e fun v H1 e1 e => mapT (G := fun f r' H' => wpAny (model prog w) A _ (OkX C σ s env f r' H') F0 s) e fun r2 e2 => ?_
  have hv : ∃ vs, v = .tup vs := (tup_of h1).elim fun as ha => tup_val (ha ▸ e1)
  refine wpAny_bind (wpAny_standAt (wpAny_bind (wpAny_of_eq (a := false) ((h1.xf (env := env)).swT [.Name (nm tx) px, .Name (nm ty) py] k p q.line) ?_)))
  show wpAny _ A (eval _ env >>= _) _ _ s
  refine wpAny_bind (N.eE h1 K V I R.pred e1 fun y s1 σ1 S1 r1 => ?_)
  refine wpAny_bind (wpAny_of_eq (swapped_is V.kind (K.loc _ D.lx) (K.loc _ D.ly) D.ln D.ne) ?_)
  clear e e1 h1
  refine hv.elim fun vs hv => ?_
  rw [hv] at e2 r1
  refine iteP (c := vs.length = 2) e2 fun hl e2 => ?_
  revert r1 e2
  exact len2 (G := fun vs => VR C.X σ1 s1.heap (.tup vs) y → some (updL r [tx, ty] vs) = some r2 → _) hl fun v1 v2 r1 e2 => store2 R.handled D.ne K D.lx D.ly (S1.env V) S1.inv r1 fun s3 S3 V3 => someE (G := fun r2 => OkX C σ s env .nx r2 H1 .next s3) e2 ⟨σ1, (StepW.wide S1).trans S3, V3, .nx⟩

theorem attr_e {o : Expr} {m : Str} {p : Pos} {Q : Value → Shared → Prop} (hb : bare o = true) (h : wpAny (model prog w) A (eval o env) (fun v s1 => wpAny (model prog w) A (getAttr v m true) Q F0 s1) F0 s) : wpAny (model prog w) A (eval (.Attribute o m p) env) Q F0 s := by
  show wpAny _ A (do
    let ov ← attributeBase o m env (eval o env)
    standAt p.atName
    let r ← holding [ov] (getAttr ov m true)
    letTemporaryGo o ov r
    pure r) _ _ s
  rw [base_bare hb]
  exact wpAny_bind (wpAny_mono h (fun v s1 h1 => wpAny_bind (wpAny_standAt (wpAny_bind (wpAny_holding (wpAny_mono h1 (fun r s2 h2 => wpAny_bind (wpAny_letTemporaryGo (wpAny_pure h2))) fun _ _ h => h))))) fun _ _ h => h)

noncomputable abbrev GoalE (C : Cx) (prog : Program) (w : World) (A : Around) (x : Expr) (env : Env) (σ : List Addr) (s : Shared) (v : V) (H' : Hp) : Prop := wpAny (model prog w) A (eval x env) (Ok C σ s H' v) F0 s
theorem lit_e {x : Expr} {a : Mine.E} {v0 : V} (h : ∀ r H, ev P (n + 1) a r H = some (v0, H)) (g : ∀ {env A σ H s}, Inv C σ H s → GoalE C prog w A x env σ s v0 H) : EvOK C P prog w (n + 1) sc x a := fun env r σ H s A v H' K V I R e => someR (G := GoalE C prog w A x env σ s) ((h r H).symm.trans e) (g I)
theorem str_e {s0 : Str} {k : Nat} {p : Pos} : EvOK C P prog w (n + 1) sc (.Constant (.str s0) k p) (.cS s0.cps.toList) := fun env r σ H s A v H' K V I R e => chkE e fun hl e => someR (G := GoalE C prog w A _ env σ s) e (wpAny_Constant_str (Ok.tok I (VR.mkStr (lim_le hl))))
theorem var_e {t : String} {p : Pos} (hk : (isLocal sc (nm t) || isDeref sc (nm t)) = true) (hd : dbg (nm t)) (hc : cdi (nm t)) : EvOK C P prog w (n + 1) sc (.Name (nm t) p) (.var t) := fun env r σ H s A v H' K V I R e => mapR (G := GoalE C prog w A _ env σ s) e fun u hu => var_ok hk hd hc K V I hu
theorem two_e {bop : BoolOp} {xs : List Expr} {as : List Mine.E} {p : Pos} {v : V} {H' : Hp} {q : Mine.E × Mine.E} (hR : REs m sc xs as) (hq : two as = some q) (g : ∀ m m' x y, RE m sc x q.1 → RE m' sc y q.2 → GoalE C prog w A (.BoolOp bop [x, y] p) env σ s v H') : GoalE C prog w A (.BoolOp bop xs p) env σ s v H' :=
  (twoE (G := fun as => REs m sc xs as → GoalE C prog w A (.BoolOp bop xs p) env σ s v H') hq fun hR => REs.cons1 (G := fun xs => GoalE C prog w A (.BoolOp bop xs p) env σ s v H') hR fun x ys hx hR => REs.cons1 (G := fun ys => GoalE C prog w A (.BoolOp bop (x :: ys) p) env σ s v H') hR fun y zs hy hR => REs.nil1 (G := fun zs => GoalE C prog w A (.BoolOp bop (x :: y :: zs) p) env σ s v H') hR (g _ _ x y hx hy)) hR
theorem andor_e (N : Sound C P prog w n) {xs : List Expr} {as : List Mine.E} {p : Pos} (hR : REs m sc xs as) : EvOK C P prog w (n + 1) sc (.BoolOp .And xs p) (.and_ as) ∧ EvOK C P prog w (n + 1) sc (.BoolOp .Or xs p) (.or_ as) :=
  ⟨fun env r σ H s A v H' K V I R e => bindE e fun q hq e => two_e hR hq fun _ _ x y hx hy => and_e N hx hy _ _ _ _ _ _ _ _ K V I R e, fun env r σ H s A v H' K V I R e => bindE e fun q hq e => two_e hR hq fun _ _ x y hx hy => or_e N hx hy _ _ _ _ _ _ _ _ K V I R e⟩
theorem joinGen_e (F : Facts C P prog w) {o : Expr} {at_ : Str} {ap : Pos} {args : List Expr} {cp : Pos} (hj : isJG sc (.Call (.Attribute o at_ ap) args [] cp)) (ho : strOf o = [45]) : EvOK C P prog w (n + 1) sc (.Call (.Attribute o at_ ap) args [] cp) (.joinGen (.cS (strOf o)) (.var "chunks")) := fun env r σ H s A v H' K V I R e =>
  bindP e fun vo H1 e1 e3 => bindP e3 fun vi H2 e2 e4 => by
  clear e e3
  cases n with
  | zero => exact no e1
  | succ n =>
    refine chkE e1 fun _ e1 => bindE e4 fun sep hs e => bindE e fun i hi e => bindE e fun xs hx e => bindE e fun l hl e => iteP e fun hall e => mapR (G := GoalE C prog w A _ env σ s) e fun v' hv => ?_
    have h1 : vo = .str (strOf o) ∧ H1 = H := someR (G := fun vo H1 => vo = .str (strOf o) ∧ H1 = H) e1 ⟨rfl, rfl⟩
    have h2 : r "chunks" = some vi ∧ H2 = H1 := mapR (G := fun vi H2 => r "chunks" = some vi ∧ H2 = H1) e2 fun u hu => ⟨hu, rfl⟩
    have hh : H2 = H := h2.2.trans h1.2
    rw [h1.1] at hs
    rw [hh] at hx ⊢
    exact F.joinGen hj K V I (R.le (Nat.le_add_left 2 _)) (Mine.refE (G := fun u => r "chunks" = some u → r "chunks" = some (.ref i)) hi id h2.1) hx hl hall (((Option.some.inj hs).symm.trans ho : sep = [45]) ▸ hv)
theorem resub_e (N : Sound C P prog w n) (F : Facts C P prog w) {x : Str} {xp : Pos} {at_ : Str} {ap : Pos} {la : Arguments} {lb : Expr} {ls : Scope} {lp : Pos} {y : Expr} {cp : Pos} {a : Mine.E} (D : ReOK sc x at_ ap la ls cp) (h1 : RE m sc y a) : EvOK C P prog w (n + 1) sc (.Call (.Attribute (.Name x xp) at_ ap) [.Lambda la lb ls lp, y] [] cp) (.resub a) := fun env r σ H s A v H' K V I R e =>
  bindP e fun u H1 e1 e => bindE e fun l hl e => iteP e fun hc e => someR (G := GoalE C prog w A _ env σ s) e (by
  cases n with
  | zero => exact no e1
  | succ n => exact F.resub D (star_cons h1) K V I (R.le (Nat.le_add_left 2 _)) (fun σ1 s1 S1 => N.ev h1 K (S1.env V) S1.inv R.pred (Mine.strE (G := fun u => ev P (n + 1) a r H = some (u, H1) → ev P (n + 1) a r H = some (.str l, H1)) hl id e1)) (by simpa using hc))
theorem get_e (N : Sound C P prog w n) (F : Facts C P prog w) {o : Expr} {t : String} {p : Pos} {a : Mine.E} (hb : bare o = true) (h1 : RE m sc o a) : EvOK C P prog w (n + 1) sc (.Attribute o (nm t) p) (.attr a t) := fun env r σ H s A v H' K V I R e =>
  bindP e fun u H1 e1 e => iteP (c := t = "append") e fun ht e => bindE e fun i hi e => mapR (G := GoalE C prog w A _ env σ s) e fun xs hx => attr_e hb (N.eE h1 K V I R.pred e1 fun y s1 σ1 S1 r1 => Ok.then S1 (ht ▸ F.attr S1.inv hx (Mine.refE (G := fun u => VR C.X σ1 s1.heap u y → VR C.X σ1 s1.heap (.ref i) y) hi id r1)))
theorem sound_e (N : Sound C P prog w n) (F : Facts C P prog w) {x : Expr} {a : Mine.E} (h : RE m sc x a) : EvOK C P prog w (n + 1) sc x a :=
  RE1.casesOn (motive := fun x a _ => EvOK C P prog w (n + 1) sc x a) h.view (lit_e (fun _ _ => rfl) fun I => wpAny_Constant_none (Ok.same I .none)) (lit_e (fun _ _ => rfl) fun I => wpAny_Constant_bool (Ok.same I (.bool _))) (lit_e (fun _ _ => rfl) fun I => wpAny_Constant_int (Ok.tok I (.int _ _))) str_e
    var_e (bin_e N) (neg_e N) (not_e N) (cmp1_e N) (fun _ _ _ _ _ _ _ _ _ _ _ _ _ _ _ e => no e) (fun hR => (andor_e N hR).1) (fun hR => (andor_e N hR).2) (ite_e N) (joinGen_e F) (resub_e N F) (meth_e N F) (fun _ => callG_e N F) (fun _ => callL_e N F) (slc_e N) (sub_e N) (lst_e N) (tup_e N) (comp_e N) (fstr_e N) (get_e N F)

/- tests -/
theorem valT (N : Sound C P prog w n) {x : Expr} {a : Mine.E} (h1 : RE m sc x a) (ha : ∀ r H, tst P (n + 1) a r H = ((ev P n a r H).bind fun (v, H1) => (truth v H1).map fun t => (t, H1))) (hx : ∀ env, isTrue x env (eval x env) = (do let v ← eval x env; standAt x.pos; holding [v] (truthy v))) : TOK C P prog w (n + 1) sc x a := fun env r σ H s A v H' K V I R e => value_t N h1 K V I R.pred ((ha r H).symm.trans e) (hx env)
theorem not_t (N : Sound C P prog w n) {x : Expr} {p : Pos} {a : Mine.E} (h1 : RE m sc x a) : TOK C P prog w (n + 1) sc (.UnaryOp .Not x p) (.not_ a) := fun env r σ H s A v H' K V I R e =>
  mapPR (G := fun v H' => wpAny (model prog w) A (isTrue (.UnaryOp .Not x p) env (eval (.UnaryOp .Not x p) env)) (OkB C σ s H' v) F0 s) e fun t H1 e1 => wpAny_isTrue_Not (N.tE h1 K V I R.pred e1 fun s1 σ1 S1 => ⟨rfl, σ1, S1⟩)
theorem sound_t (N : Sound C P prog w n) {x : Expr} {a : Mine.E} (h : RE m sc x a) : TOK C P prog w (n + 1) sc x a := by
  refine RE1.casesOn (motive := fun x a _ => RE m sc x a → TOK C P prog w (n + 1) sc x a) h.view ?_ ?_ ?_ ?_ ?_ ?_ ?_ (fun h1 _ => not_t N h1) (fun h1 h2 _ => cmp1_t N h1 h2) (fun h1 h2 h3 _ => cmp2_t N h1 h2 h3) (fun hR _ env r σ H s A v H' K V I R e => wpAny_isTrue_BoolOp (N.ta hR K V I R.pred e)) (fun hR _ env r σ H s A v H' K V I R e => wpAny_isTrue_BoolOp (N.to hR K V I R.pred e)) (fun _ _ _ _ _ _ _ _ _ _ _ _ _ _ _ _ e => no e) ?_ ?_ ?_ ?_ ?_ ?_ ?_ ?_ ?_ ?_ ?_ ?_ h
  all_goals
    intros
    exact valT N ‹RE _ _ _ _› (fun _ _ => rfl) fun _ => rfl

theorem sound_x (N : Sound C P prog w n) (NS : ∀ k, n = k + 1 → Sound C P prog w k) {x : Stmt} {a : S} (h : RS m sc x a) : XOK C P prog w (n + 1) sc x a := by
  refine RS1.casesOn (motive := fun x a _ => XOK C P prog w (n + 1) sc x a) h.view (asg_x N NS) (asgT_x N) (asg2_x N) (setI_x N) (aug_x N) (del_x N) ?_ ?_ (whl_x N) (for_x N) ?_ ?_ ?_
  · exact fun h1 env r σ H s A f r' H' K V I R e => mapPT (G := fun f r' H' => wpAny (model prog w) A (exec (.Return (some _) _) env) (OkX C σ s env f r' H') F0 s) e fun u H1 e1 => wpAny_Return_some (N.eE h1 K V I R.pred e1 fun y s1 σ1 S1 r1 => ⟨σ1, StepW.wide S1, S1.env V, .ret r1⟩)
  · exact fun h1 h2 h3 env r σ H s A f r' H' K V I R e => bindP e fun t H1 e1 e => wpAny_If (N.tE h1 K V I R.pred e1 fun s1 σ1 S1 => match t, e with
      | true, e => N.xsE h2 K (S1.env V) S1.inv R.pred e fun f' s2 σ2 S2 V2 fr => ⟨σ2, (StepW.wide S1).trans S2, V2, fr⟩
      | false, e => N.xsE h3 K (S1.env V) S1.inv R.pred e fun f' s2 σ2 S2 V2 fr => ⟨σ2, (StepW.wide S1).trans S2, V2, fr⟩)
  · exact fun {p} env r σ H s A f r' H' K V I R e => someT (G := fun f r' H' => wpAny (model prog w) A (exec (.Break p) env) (OkX C σ s env f r' H') F0 s) e (wpAny_Break ⟨σ, .refl I, V, .brk⟩)
  · exact fun {x p a} hnc h1 env r σ H s A f r' H' K V I R e => bindP e fun u H1 e1 e => iteP e fun _ e => wpAny_Expr_any (N.eE h1 K V I R.pred e1 fun y s1 σ1 S1 r1 => someT (G := fun f r' H' => OkX C σ s env f r' H' .next s1) e ⟨σ1, StepW.wide S1, S1.env V, .nx⟩) (by unfold interactive; rw [V.kind]; rfl) ((h1.xf (env := env)).sw hnc _ _)
  · exact fun {x msg p a} h1 env r σ H s A f r' H' K V I R e => bindP e fun t H1 e1 e => wpAny_Assert_holds (N.tE h1 K V I R.pred e1 fun s1 σ1 S1 => match t, e with
      | true, e => ⟨rfl, someT (G := fun f r' H' => OkX C σ s env f r' H' .next s1) e ⟨σ1, StepW.wide S1, S1.env V, .nx⟩⟩
      | false, e => no e)

theorem xs_cons (N : Sound C P prog w n) {x : Stmt} {xs : List Stmt} {a : S} {as : List S} (h1 : a = .bad ∨ RS m sc x a) (h2 : RSs m sc xs as) : XsOK C P prog w (n + 1) sc (x :: xs) (a :: as) := fun env r σ H s A f r' H' K V I R e =>
  bindT3 e fun f1 r1 H1 e1 e => h1.elim (fun hb => by
    rw [hb] at e1
    cases n with
    | zero => exact no e1
    | succ n => exact no e1) fun h1 => wpAny_execs_cons (N.xE h1 K V I R.pred e1 fun f' s1 σ1 S1 V1 fr => FlR.go (G := fun f1 f' => (match f1 with | .nx => exs P n as r1 H1 | .brk => some (.brk, r1, H1) | .ret v => some (.ret v, r1, H1)) = some (f, r', H') → (match f' with | .next => wpAny (model prog w) A (execs xs env) (OkX C σ s env f r' H') F0 s1 | f' => OkX C σ s env f r' H' f' s1)) fr
      (fun e => N.xsE h2 K V1 S1.inv R.pred e fun f' s2 σ2 S2 V2 fr => ⟨σ2, S1.trans S2, V2, fr⟩)
      (fun e => someT (G := fun f r' H' => OkX C σ s env f r' H' .brk s1) e ⟨σ1, S1, V1, .brk⟩)
      (fun v w hv e => someT (G := fun f r' H' => OkX C σ s env f r' H' (.ret w) s1) e ⟨σ1, S1, V1, .ret hv⟩) e)

theorem sound_succ (N : Sound C P prog w n) (NS : ∀ k, n = k + 1 → Sound C P prog w k) (F : Facts C P prog w) : Sound C P prog w (n + 1) where
  e := sound_e N F
  es := fun h => REs.view (G := fun x a => EsOK C P prog w (n + 1) _ x a) h (fun env r σ H s A v H' K V I R e pos => someR (G := fun v H' => wpAny (model prog w) A (spliced (backTo pos (starEach [] env))) (OkS C σ s H' v) F0 s) e (args_nil ⟨σ, .refl I, .nil⟩)) fun x a xs as h1 h2 => cons_es N h1 h2
  fs := fun h => RFs.view (G := fun x a => FsOK C P prog w (n + 1) _ x a) h (fun env r σ H s A v H' l acc K V I R e e2 hl => someR (G := fun v H' => strsOf v = some l → Joins (model prog w) A F0 (evalEach [] env) (mkS acc) (fun out s' => out = mkS (acc ++ l.flatten) ∧ ∃ σ', Step C σ s σ' H' s') s) e (fun e2 => someE (G := fun l : List (List Nat) => Joins (model prog w) A F0 (evalEach [] env) (mkS acc) (fun out s' => out = mkS (acc ++ l.flatten) ∧ ∃ σ', Step C σ s σ' H s') s) e2 (Joins_nil ⟨congrArg mkS (flat_nil acc), σ, .refl I⟩)) e2)
    (fun x p a xs as h1 h2 => fs_cons N (fun K V I R e => fval_e N h1 K V I R e) h2) fun s k p xs as h2 => fs_cons N (fun {env r σ H s' A H' l0} K V I R e => by
      cases n with
      | zero => exact no e
      | succ n => exact str_e (C := C) (prog := prog) (w := w) _ _ _ _ _ _ _ _ K V I R e) h2
  o := fun h => REo.view (G := fun x a => OOK C P prog w (n + 1) _ x a) h (fun env r σ H s A v H' K V I R e => someR (G := fun v H' => wpAny (model prog w) A (evalPart none env) (OkO C σ s H' v) F0 s) e (by rw [evalPart_none]; exact wpAny_pure ⟨σ, .refl I, rfl⟩)) fun x a h1 env r σ H s A v H' K V I R e => mapPR (G := fun v H' => wpAny (model prog w) A (evalPart (some x) env) (OkO C σ s H' v) F0 s) e fun u H1 e1 => by rw [evalPart_some]; exact N.ev h1 K V I R.pred e1
  t := sound_t N
  ta := fun {m sc x a env r σ H s A v H'} h K V I R e => (REs.view (G := fun x a => tAnd P (n + 1) a r H = some (v, H') → wpAny (model prog w) A (allTrue .And x env) (OkB C σ s H' v) F0 s) h (fun e => someR (G := fun v H' => wpAny (model prog w) A (allTrue .And [] env) (OkB C σ s H' v) F0 s) e (wpAny_allTrue_And_nil ⟨rfl, σ, .refl I⟩)) fun x a xs as h1 h2 e => bindP e fun t H1 e1 e => wpAny_allTrue_And_cons (N.tE h1 K V I R.pred e1 fun s1 σ1 S1 => match t, e with
    | true, e => wpAny_mono (N.ta h2 K (S1.env V) S1.inv R.pred e) (fun b s2 h => ⟨h.1, h.2.elim fun σ2 S2 => ⟨σ2, S1.trans S2⟩⟩) fun _ _ h => h
    | false, e => someR (G := fun v H' => OkB C σ s H' v false s1) e ⟨rfl, σ1, S1⟩)) e
  to := fun {m sc x a env r σ H s A v H'} h K V I R e => (REs.view (G := fun x a => tOr P (n + 1) a r H = some (v, H') → wpAny (model prog w) A (allTrue .Or x env) (OkB C σ s H' v) F0 s) h (fun e => someR (G := fun v H' => wpAny (model prog w) A (allTrue .Or [] env) (OkB C σ s H' v) F0 s) e (wpAny_allTrue_Or_nil ⟨rfl, σ, .refl I⟩)) fun x a xs as h1 h2 e => bindP e fun t H1 e1 e => wpAny_allTrue_Or_cons (N.tE h1 K V I R.pred e1 fun s1 σ1 S1 => match t, e with
    | true, e => someR (G := fun v H' => OkB C σ s H' v true s1) e ⟨rfl, σ1, S1⟩
    | false, e => wpAny_mono (N.to h2 K (S1.env V) S1.inv R.pred e) (fun b s2 h => ⟨h.1, h.2.elim fun σ2 S2 => ⟨σ2, S1.trans S2⟩⟩) fun _ _ h => h)) e
  ts := fun {m sc x a env r σ H s A v H'} h K V I R e => (REs.view (G := fun x a => tsts P (n + 1) a r H = some (v, H') → wpAny (model prog w) A (forIn x true fun c r => if r = true then do let ok ← isTrue c env (eval c env); pure (ForInStep.yield ok) else pure (ForInStep.yield r)) (OkB C σ s H' v) F0 s) h (fun e => someR (G := fun v H' => wpAny (model prog w) A (forIn ([] : List Expr) true fun c r => if r = true then do let ok ← isTrue c env (eval c env); pure (ForInStep.yield ok) else pure (ForInStep.yield r)) (OkB C σ s H' v) F0 s) e (wpAny_tests_nil ⟨rfl, σ, .refl I⟩)) fun x a xs as h1 h2 e => by
    cases as with
    | nil => exact REs.nil1 (G := fun xs => wpAny (model prog w) A (forIn (x :: xs) true fun c r => if r = true then do let ok ← isTrue c env (eval c env); pure (ForInStep.yield ok) else pure (ForInStep.yield r)) (OkB C σ s H' v) F0 s) h2 (wpAny_tests_one (N.t h1 _ _ _ _ _ _ _ _ K V I R.pred e))
    | cons _ _ => exact no e) e
  src := src_e N F
  x := sound_x N NS
  xs := fun h => RSs.view (G := fun x a => XsOK C P prog w (n + 1) _ x a) h (fun env r σ H s A f r' H' K V I R e => someT (G := fun f r' H' => wpAny (model prog w) A (execs [] env) (OkX C σ s env f r' H') F0 s) e (wpAny_execs_nil ⟨σ, .refl I, V, .nx⟩)) fun x a xs as h1 h2 => xs_cons N h1 h2

theorem sound2 (F : Facts C P prog w) : ∀ n, Sound C P prog w n ∧ ∀ k, n = k + 1 → Sound C P prog w k
  | 0 => ⟨.zero, fun _ h => nomatch h⟩
  | n + 1 => ⟨sound_succ (sound2 F n).1 (sound2 F n).2 F, fun k h => Nat.succ.inj h ▸ (sound2 F n).1⟩
theorem sound (F : Facts C P prog w) (n : Nat) : Sound C P prog w n := (sound2 F n).1
end Mine
end

section
set_option Elab.async false
set_option linter.all false
set_option maxRecDepth 100000
namespace Mine
open PySem PySem.W PyProof.Rows PySem.Spec PySem.Calls

variable {C : Cx} {prog : Program} {w : World} {A : Around} {σ : List Addr} {H : Hp} {s : Shared} {E : Value → Shared → Prop}

/- object() -/
theorem mro_obj : mroOf (.type "object") = pure [.type "object"] := by rw [mroOf_type]; kernel_rfl
theorem new_obj : typeLookup (.type "object") "__new__" = pure (some (.builtin "object.__new__")) := by rw [typeLookup_type, builtinLookup_eq_fast]; kernel_rfl
theorem called_obj : TypeCalled "object" "object.__new__" "object.__init__" :=
  ⟨by decide +kernel, by decide +kernel, ⟨_, _, mro_obj⟩, madeBy_type mro_obj new_obj (by decide +kernel), by decide +kernel, by rw [isSubtype_type]; kernel_rfl, PySem.F.slot_object_init⟩
theorem entry_obj_new : entryFor table "object.__new__" = some Builtin.«object.__new__» := entryFor_of_tree (by kernel_rfl)
theorem isType_obj : isType (.type "object") = pure true := by first | rfl | kernel_rfl | (unfold isType; rw [isSubtype_type]; kernel_rfl)
theorem madeHere_obj : Bind.madeHere "object.__new__" (.type "object") = pure () := by
  first | rfl | kernel_rfl | (unfold Bind.madeHere; rw [called_obj.made]; first | rfl | kernel_rfl)
theorem noDict_obj : typeHasDict (.type "object") = false := by first | rfl | kernel_rfl | decide +kernel
theorem noDel_obj : diesByItsTypesDel "object" = false := by first | rfl | kernel_rfl | decide +kernel
theorem refuses_obj : ((Manifest.find? "object").elim false (fun b => b.mro.any fun t => (Manifest.find? t).elim false (fun b => b.noNew))) = false := by first | rfl | kernel_rfl | decide +kernel
theorem obj_new_meets : Meets (Builtin.«object.__new__» ⟨[.type "object"], []⟩) (fun _ R s => R (.ok (.ret (.ref s.heap.objs.size))) { s with heap := s.heap.push { cls := .type "object" } }) := by
  refine Meets.of_wp fun prog w A R s hs => ?_
  unfold Builtin.«object.__new__»
  refine wpAny_bind (wpAny_of_eq isType_obj ?_)
  simp only [Bool.not_true, Bool.false_eq_true, if_false, refuses_obj, List.isEmpty_nil, Bool.or_false, noDict_obj, noDel_obj]
  refine wpAny_bind (wpAny_of_eq madeHere_obj ?_)
  refine wpAny_bind (wpAny_pure ?_)
  refine wpAny_bind (wpAny_newObj_type (wpAny_pure ⟨_, rfl, hs⟩))

theorem obj_init_meets (self : Value) : Meets (Builtin.«object.__init__» ⟨[self], []⟩) (fun _ R s => R (.ok (.ret .none)) s) := by
  refine Meets.of_wp fun prog w A R s hs => ?_
  exact wpAny_pure ⟨_, rfl, hs⟩

theorem call_object {Q : Value → Shared → Prop} (h : Q (.ref s.heap.objs.size) { s with heap := s.heap.push { cls := .type "object" } }) : wpAny (model prog w) A (call (.type "object") []) Q E s :=
  callType_meets (Q₁ := fun obj s1 => s1.TypeIs obj "object" ∧ Q obj s1) called_obj (by kernel_rfl) (by kernel_rfl) entry_obj_new PySem.F.entry_object_init obj_new_meets
    ⟨⟨_, Heap.get?_push_size _ rfl, rfl⟩, h⟩
    (fun obj s1 hq => ⟨hq.1, PySem.F.args_object_init_1 obj, _, obj_init_meets obj, rfl, hq.2⟩)

theorem object_ok (I : Inv C σ H s) : wpAny (model prog w) A (call (.type "object") []) (Ok C σ s (H ++ [.obj false]) (.ref H.length)) F0 s := by
  refine call_object ?_
  obtain ⟨a, b⟩ := I.newObj (s' := { s with heap := s.heap.push { cls := .type "object" } }) (a := s.heap.objs.size) (k := false) (fresh_at _) (Heap.get?_push_size _ rfl) rfl (fun _ _ e => Heap.get?_push_of_some _ e) rfl rfl
  exact ⟨_, a, .ref _ _ b⟩
end Mine
end

section
set_option Elab.async false
set_option linter.all false
set_option maxRecDepth 100000
namespace Mine
open PySem PySem.W PyProof.Rows PySem.Spec PySem.Calls

variable {C : Cx} {prog : Program} {w : World} {A : Around} {σ : List Addr} {H : Hp} {s : Shared} {E : Value → Shared → Prop}

abbrev boundApp (a : Addr) : Obj := { cls := .type "builtin_function_or_method", data := .fields #[.builtin "list.append", .ref a] }
theorem slot_mdget : Slot "method_descriptor" "__get__" "method_descriptor.__get__" :=
  .of (owner := "method_descriptor") (n := "__get__") (by rw [typeLookup_type, builtinLookup_eq_fast]; kernel_rfl) (by decide +kernel) (by decide +kernel) (by decide +kernel)
    (by first | exact .inl (by decide +kernel) | exact .inr (by decide +kernel)) (by rw [isSubtype_type]; kernel_rfl)
theorem entry_mdget : entryFor table "method_descriptor.__get__" = some Builtin.«method_descriptor.__get__» := entryFor_of_tree (by kernel_rfl)
theorem args_mdget (a b c : Value) : argsOk "method_descriptor.__get__" ⟨[a, b, c], []⟩ := by unfold argsOk; kernel_rfl
theorem told_append : Manifest.toldItsClass.contains "list.append" = false := by decide +kernel
theorem mdget_run {a : Addr} {xs : Array Value} {n : Nat} (g : s.heap.get? a = some { cls := .type "list", data := .seq xs n }) {P : Fin → Shared → Prop} (h : P (.done (.ret (.ref s.heap.objs.size))) { s with heap := s.heap.push (boundApp a) }) :
    wpAny (model prog w) A (Builtin.«method_descriptor.__get__» ⟨[.builtin "list.append", .ref a, .type "list"], []⟩) P E s := by
  unfold Builtin.«method_descriptor.__get__»
  refine wpAny_bind (wpAny_of_eq (a := (.builtin "list.append", some (.ref a), some (.type "list"))) (by first | rfl | kernel_rfl) ?_)
  simp only [told_append]
  rw [if_neg (by decide)]
  have hT : s.TypeIs (.ref a) "list" := ⟨_, g, rfl⟩
  refine wpAny_bind ?_
  · refine wpAny_bind ?_
    refine wpAny_of_eq (a := (("append" : Str), Value.type "list")) (by kernel_rfl) ?_
    refine wpAny_bind (wpAny_isInstance hT sub_list_self ?_)
    simp only [Bool.not_true, Bool.false_eq_true, if_false]
    refine wpAny_pure ?_
    exact wpAny_bind (wpAny_newObj_type (wpAny_pure h))

theorem look_append : typeLookup (.type "list") ("append" : Str) = pure (some (.builtin "list.append")) := slot_list_append.lookup
theorem md_set : typeLookup (.type "method_descriptor") ("__set__" : Str) = pure none := by rw [typeLookup_type, builtinLookup_eq_fast]; kernel_rfl
theorem md_del : typeLookup (.type "method_descriptor") ("__delete__" : Str) = pure none := by rw [typeLookup_type, builtinLookup_eq_fast]; kernel_rfl
theorem meets_getattribute_append (a : Addr) (xs : Array Value) (k : Nat) (u : Tok) :
    Meets (Builtin.«object.__getattribute__» ⟨[.ref a, .str ("append" : Str) u], []⟩) (fun A R s => s.heap.get? a = some { cls := .type "list", data := .seq xs k } ∧ R (.ok (.ret (.ref s.heap.objs.size))) { s with heap := s.heap.push (boundApp a) }) :=
  Meets.of_wp fun prog w A R s hs => by
    obtain ⟨hp, g, d, tk, os⟩ := s
    obtain ⟨hx, hs⟩ := hs
    have hT : (⟨hp, g, d, tk, os⟩ : Shared).TypeIs (.ref a) "list" := ⟨_, hx, rfl⟩
    have f1 := look_append
    have f2 := PySem.F.type_list_append
    have f3 := slot_mdget.lookup
    unfold Builtin.«object.__getattribute__»
    have f4 := md_set
    have f5 := md_del
    repeat (any_goals (first | assumption | ((with_reducible show wpAny _ _ (call (Value.builtin "method_descriptor.__get__") _ _) _ _ _); refine wpAny_call_entry slot_mdget PySem.F.type_list_append entry_mdget (mdget_run hx ?_) (args_mdget _ _ _)) | wp_step))
    exact ⟨_, rfl, wpAny_pure ⟨_, rfl, hs⟩⟩

theorem getAttr_append {a : Addr} {xs : Array Value} {k : Nat} {Q : Value → Shared → Prop} (hx : s.heap.get? a = some { cls := .type "list", data := .seq xs k })
    (h : Q (.ref s.heap.objs.size) { s with heap := s.heap.push (boundApp a), toks := s.toks + 1 }) : wpAny (model prog w) A (getAttr (.ref a) ("append" : Str) true) Q E s := by
  obtain ⟨hp, g, d, tk, os⟩ := s
  have hT : ∀ tk', (⟨hp, g, d, tk', os⟩ : Shared).TypeIs (.ref a) "list" := fun _ => ⟨_, hx, rfl⟩
  have f3 := PySem.F.slot_list_getattribute.lookup
  have f4 := PySem.F.slot_list_getattribute.bind (.ref a)
  have f5 := am_list_getattr_none
  unfold getAttr getAttrBy
  repeat (any_goals (first | assumption | exact hT _ | ((with_reducible show wpAny _ _ (call (Value.builtin "list.__getattribute__") _ _) _ _ _); refine call_meets PySem.F.slot_list_getattribute (hT _) am_entry_list_getattribute (PySem.F.args_list_getattribute_2 _ _) (meets_getattribute_append a xs k _) ⟨hx, ?_⟩) | wp_step))
  show wpAny _ _ (handedOut (.ref _)) _ _ _
  exact wpAny_pure h

theorem attr_ok {i : Nat} {xs : List V} {x : Value} (I : Inv C σ H s) (e : hGet H i = some xs) (hv : VR C.X σ s.heap (.ref i) x) : wpAny (model prog w) A (getAttr x ("append" : Str) true) (Ok C σ s H (.app i)) F0 s := by
  refine I.listE (G := fun x => wpAny (model prog w) A (getAttr x ("append" : Str) true) (Ok C σ s H (.app i)) F0 s) e hv fun p vs n hp g _ _ _ => getAttr_append g ?_
  have S : Step C σ s σ H { s with heap := s.heap.push (boundApp p), toks := s.toks + 1 } := I.push
  have hf := fresh_at s.heap
  exact ⟨σ, S, .app i p _ hp (Heap.get?_push_size _ rfl) (I.notσ_fresh hf) (I.notX_fresh hf)⟩
end Mine
end

section
set_option Elab.async false
set_option linter.all false
set_option maxRecDepth 100000
namespace Mine
open PySem PySem.W PyProof.Rows PySem.Spec PySem.Calls

variable {C : Cx} {prog : Program} {w : World} {A : Around} {σ : List Addr} {H : Hp} {s : Shared} {E : Value → Shared → Prop}

theorem sig_append : ∃ sg, Manifest.signature? "list.append" = some sg ∧ ∀ a b, Bind.checkArgs "list.append" { sg with full := s!"{Bind.lastOf "list"}.{Bind.lastOf "list.append"}" } ⟨[a, b], []⟩ = pure () := by
  have h : (Manifest.signature? "list.append").isSome = true := by decide +kernel
  exact ⟨(Manifest.signature? "list.append").get h, by simp, fun a b => by kernel_rfl⟩
theorem kind_append : builtinKind "list.append" = some .method := by decide +kernel
theorem sub_list_module : isSubtype (.type "list") (.type "module") = pure false := by rw [isSubtype_type]; kernel_rfl
theorem varargs_append : Manifest.varargsMethods.contains "list.append" = false := by decide +kernel
theorem a_isType {a : Addr} {o : Obj} {Q : Bool → Shared → Prop} (g : s.heap.get? a = some o) (hd : (match o.data with | .cls _ => true | _ => false) = false) (h : Q false s) : wpAny (model prog w) A (isType (.ref a)) Q E s := by
  unfold isType loadHead
  refine wpAny_bind (wpAny_loadPart_at g ?_)
  refine wpAny_pure ?_
  have : Q ((match o.data with | .cls _ => true | _ => false)) s := by rw [hd]; exact h
  exact this
theorem check_append {a : Addr} {y : Value} {xs : Array Value} {n : Nat} {Q : Unit → Shared → Prop} (g : s.heap.get? a = some { cls := .type "list", data := .seq xs n }) (h : Q () s) :
    wpAny (model prog w) A (checkBoundCall "list.append" ⟨[.ref a, y], []⟩) Q E s := by
  obtain ⟨sg, h1, h2⟩ := sig_append
  have hT : s.TypeIs (.ref a) "list" := ⟨_, g, rfl⟩
  unfold checkBoundCall
  rw [h1, kind_append]
  simp only [varargs_append, Bool.false_or]
  rw [if_neg (by decide)]
  refine wpAny_bind (wpAny_isInstance hT sub_list_module ?_)
  simp only [Bool.false_eq_true, if_false]
  refine wpAny_bind (a_isType g rfl ?_)
  simp only [Bool.false_eq_true, if_false]
  refine wpAny_bind (wpAny_typeOf hT ?_)
  exact wpAny_of_eq (h2 _ _) h

theorem call_bound {a b : Addr} {y : Value} {xs : Array Value} {n : Nat} {Q : Value → Shared → Prop} (hb : s.heap.get? b = some (boundApp a)) (g : s.heap.get? a = some { cls := .type "list", data := .seq xs n }) (hsz : xs.size ≤ sizeLine)
    (hQ : ∀ h', h'.PlainList a (xs.push y) → Heap.SameBut a s.heap h' → Q .none { s with heap := h' }) : wpAny (model prog w) A (call (.ref b) [y]) Q E s := by
  refine wpAny_call (codeAny_of_tree ?_)
  show wpAny _ A.in1 (callAny (.ref b) ⟨[y], []⟩) _ _ s
  simp only [callAny]
  refine wpAny_bind (wpAny_load hb ?_)
  simp only [boundApp, show (Value.type "builtin_function_or_method" == Value.type "method" || Value.type "builtin_function_or_method" == Value.type "builtin_function_or_method" || Value.type "builtin_function_or_method" == Value.type "method-wrapper") = true by decide, if_true]
  show wpAny _ A.in1 (if (Value.type "builtin_function_or_method" != Value.type "method") = true then do
          checkBoundCall "list.append" { pos := [.ref a, y] }
          again (Code.builtin "list.append" { pos := [.ref a, y] })
        else again (Code.call (.builtin "list.append") { pos := [.ref a, y] })) _ _ s
  rw [if_pos (by decide)]
  refine wpAny_bind (check_append g ?_)
  refine wpAny_bind (wpAny_pure (wpAny_pure ?_))
  refine ⟨Code.quiet_builtin _ (by decide +kernel), codeAny_builtin entry_list_append ?_⟩
  show wpAny _ _ (updateSeq a (·.push y) >>= fun _ => ret .none) _ _ s
  refine wpAny_bind ?_
  refine wpAny_updateSeq g rfl (wpAny_pure (hQ _ ⟨n + 1, ?_⟩ (Heap.SameBut.update ..)))
  rw [Heap.get?_update_self _ g (by rw [Obj.mapSeq_push_plain]; rfl), Obj.mapSeq_push_plain]

theorem app_ok {i : Nat} {xs : List V} {v : V} {y b : Value} (I : Inv C σ H s) (e : hGet H i = some xs) (hl : xs.length ≤ lim) (hb : VR C.X σ s.heap (.app i) b) (hy : VR C.X σ s.heap v y) :
    wpAny (model prog w) A (call b [y]) (Ok C σ s (hSet H i (xs ++ [v])) .none) F0 s := by
  cases hb with | app _ p b' hp g1 q1 q2 =>
  obtain ⟨vs, n1, g, r1, l1⟩ := I.at_ hp e
  have hlen := r1.length
  simp only [Array.length_toList] at hlen
  have hz := sizeLine_is
  rw [lim_is] at hl
  refine call_bound g1 g (by (first | lia | omega)) fun h' hp' hsb => ?_
  obtain ⟨n2, g2⟩ := hp'
  have S := I.setList (s' := { s with heap := h' }) (ys := xs ++ [v]) hp e g2 (fun b o hb q => (hsb.2 b hb).trans q) rfl rfl (by rw [Array.toList_push]; exact r1.append (.cons hy .nil)) (by simp [lim2]; (first | lia | omega))
  exact ⟨σ, S, .none⟩
end Mine
end

section
set_option Elab.async false
set_option linter.all false
set_option maxRecDepth 100000
namespace Mine
open PySem PySem.W PyProof.Rows PySem.Spec PySem.Calls

variable {C : Cx} {prog : Program} {w : World} {A : Around} {σ : List Addr} {H : Hp} {s : Shared} {E : Value → Shared → Prop}

theorem getItem_int_missing {d : Addr} {f : Int → Option Value} {k : Int} {t : Tok} {Q : Value → Shared → Prop} (hm : s.heap.MapOf (intKind prog w) d f) (hf : f k = none) (hh : A.handled = none) (hd : (d == sysModules) = false)
    (h : ∀ h' e, Heap.NewExc s.heap h' e "KeyError" → E (.ref e) { s with heap := h', toks := s.toks + 1 }) : wpAny (model prog w) A (getItem (.ref d) (.int k t)) Q E s := by
  unfold getItem
  refine wpAny_holding ?_
  refine wpAny_bind (wpAny_sequenceKey hm.typeIs (by decide) ?_)
  refine wpAny_bind <| wpAny_callSpecial?_slot (name := Str.ofString "__getitem__") hm.typeIs slot_dict_getitem
    (wpAny_call_entry slot_dict_getitem hm.typeIs entry_dict_getitem ?_ (args_dict_getitem _ _))
  show wpAny _ _ (dictGet d (.int k t) >>= _) _ _ s
  refine wpAny_bind (wpAny_dictGet_of (knd := intKind prog w) (intKind_is _ _ _ _) hm ?_)
  rw [hf]
  show wpAny _ _ (Builtin.Dict.missed d (.int k t) >>= _) _ _ _
  refine wpAny_bind (wpAny_missed_other hd ?_)
  refine wpAny_bind (wpAny_typeOf (s := { s with toks := s.toks + 1 }) hm.typeIs ?_)
  show wpAny _ _ (if (Value.type "dict" != Value.type "dict") = true then _ else _) _ _ _
  rw [if_neg (by decide)]
  exact wpAny_bind (wpAny_rule (wpAny_raise_newExc (A := A.in1) plainExc_KeyError hh h))

theorem sub_key_lookup : isSubtype (.type "KeyError") (.type "LookupError") = pure true := by rw [isSubtype_type]; kernel_rfl

theorem lookup_keep {d : Addr} {f : Int → Option Value} {c : Nat} {Q : Builtin.Str.Mapped → Shared → Prop} (hm : s.heap.MapOf (intKind prog w) d f) (hf : f c = none) (hh : A.handled = none) (hd : (d == sysModules) = false)
    (h : ∀ h' tk, (∀ b o, s.heap.get? b = some o → h'.get? b = some o) → Q .keep { s with heap := h', toks := tk }) : wpAny (model prog w) A (Builtin.Str.tableLookup (.ref d) c) Q E s := by
  unfold Builtin.Str.tableLookup
  refine wpAny_bind (wpAny_attempt (wpAny_bind (wpAny_mkInt ?_)))
  refine getItem_int_missing (s := { s with toks := s.toks + 1 }) hm hf hh hd fun h' e hx => ?_
  obtain ⟨ob, t, h1, h2, h3⟩ := hx.there
  refine wpAny_bind (wpAny_isInstance (T := "KeyError") ⟨ob, h1, h2⟩ sub_key_lookup ?_)
  exact wpAny_bind (wpAny_rule (wpAny_pure (h _ _ hx.keeps)))
theorem lookup_text {d : Addr} {f : Int → Option Value} {c : Nat} {x : Str} {t : Tok} {Q : Builtin.Str.Mapped → Shared → Prop} (hm : s.heap.MapOf (intKind prog w) d f) (hf : f c = some (.str x t))
    (h : ∀ tk, Q (.text x) { s with toks := tk }) : wpAny (model prog w) A (Builtin.Str.tableLookup (.ref d) c) Q E s := by
  unfold Builtin.Str.tableLookup
  refine wpAny_bind (wpAny_attempt (wpAny_bind (wpAny_mkInt ?_)))
  refine wpAny_getItem_intMap (s := { s with toks := s.toks + 1 }) hm.intMap hf ?_
  refine wpAny_bind (wpAny_of_eq (a := none) rfl ?_)
  refine wpAny_bind (wpAny_of_eq (a := some x) rfl ?_)
  exact wpAny_pure (h _)

theorem translate_tree {d : Addr} {f : Int → Option Value} {c : Nat} {t : Tok} {P : Fin → Shared → Prop} (hm : s.heap.MapOf (intKind prog w) d f) (hc : c < 128) (hh : A.handled = none) (hd : (d == sysModules) = false)
    (hf : f c = none) (h : ∀ h' tk t', (∀ b o, s.heap.get? b = some o → h'.get? b = some o) → P (.done (.ret (.str (mkS [c]) t'))) { s with heap := h', toks := tk }) :
    wpAny (model prog w) A (Builtin.«str.translate» ⟨[.str (mkS [c]) t, .ref d], []⟩) P E s := by
  unfold Builtin.«str.translate»
  refine wpAny_bind (wpAny_of_eq (a := (.str (mkS [c]) t, mkS [c], .ref d)) rfl ?_)
  have h1 : ((mkS [c]).length == 0) = false := rfl
  have h2 : (mkS [c]).cps.all (fun x => decide (x < 128)) = true := by simp [hc]
  have h3 : Builtin.Str.tooLong 0 = false := by decide
  simp only [h1, h2, Bool.false_eq_true, if_false]
  simp only [List.forIn_toArray, List.forIn_cons, List.forIn_nil, h3, Bool.false_eq_true, if_false, if_true, List.lookup_nil]
  refine wpAny_bind (wpAny_bind (wpAny_bind (lookup_keep hm hf hh hd fun h' tk hk => ?_)))
  refine wpAny_bind (wpAny_pure (wpAny_pure (wpAny_pure ?_)))
  show wpAny _ _ (if Builtin.Str.tooLong 1 = true then _ else retStr (mkS [c])) _ _ _
  rw [if_neg (by decide)]
  exact wpAny_bind (wpAny_mkStr (wpAny_pure (h _ _ _ hk)) (by rw [mkS_len, sizeLine_is]; simp))

theorem translate_dot {d : Addr} {f : Int → Option Value} {t u : Tok} {P : Fin → Shared → Prop} (hm : s.heap.MapOf (intKind prog w) d f) 
    (hf : f 46 = some (.str (mkS [92, 46]) u)) (h : ∀ tk t', P (.done (.ret (.str (mkS [92, 46]) t'))) { s with toks := tk }) :
    wpAny (model prog w) A (Builtin.«str.translate» ⟨[.str (mkS [46]) t, .ref d], []⟩) P E s := by
  unfold Builtin.«str.translate»
  refine wpAny_bind (wpAny_of_eq (a := (.str (mkS [46]) t, mkS [46], .ref d)) rfl ?_)
  have h1 : ((mkS [46]).length == 0) = false := rfl
  have h2 : (mkS [46]).cps.all (fun x => decide (x < 128)) = true := by simp
  have h3 : Builtin.Str.tooLong 0 = false := by decide
  simp only [h1, h2, Bool.false_eq_true, if_false]
  simp only [List.forIn_toArray, List.forIn_cons, List.forIn_nil, h3, Bool.false_eq_true, if_false, if_true, List.lookup_nil]
  refine wpAny_bind (wpAny_bind (wpAny_bind (lookup_text hm hf fun tk => ?_)))
  show wpAny _ _ (do
    let answer ← pure none
    match answer with
    | some (some d) => pure (ForInStep.yield ([{ cps := #[d] }], 0 + 1, true, [], false))
    | some none => pure (ForInStep.yield ([], 0, true, [], false))
    | none => do
      rule "str.translate.fast-road-left"
      let __do_lift ← Builtin.Str.tableLookup (Value.ref d) 46
      match __do_lift with
      | Builtin.Str.Mapped.keep => pure (ForInStep.yield ([{ cps := #[46] }], 0 + 1, false, [], false))
      | Builtin.Str.Mapped.drop => pure (ForInStep.yield ([], 0, false, [], true))
      | Builtin.Str.Mapped.char d => pure (ForInStep.yield ([{ cps := #[d] }], 0 + 1, false, [], false))
      | Builtin.Str.Mapped.text t => pure (ForInStep.yield ([t], 0 + t.length, false, [], false))) _ _ _
  refine wpAny_bind (wpAny_pure (wpAny_bind (wpAny_rule (wpAny_bind (lookup_text (s := { s with toks := tk }) hm hf fun tk2 => ?_)))))
  refine wpAny_pure (wpAny_pure ?_)
  show wpAny _ _ (if Builtin.Str.tooLong 2 = true then _ else retStr (mkS [92, 46])) _ _ _
  rw [if_neg (by decide)]
  exact wpAny_bind (wpAny_mkStr (wpAny_pure (h _ _)) (by rw [mkS_len, sizeLine_is]; simp))
end Mine
end

section
set_option Elab.async false
set_option linter.all false
set_option maxRecDepth 100000
namespace Mine
open PySem PySem.W PyProof.Rows PySem.Spec PySem.Calls

variable {C : Cx} {prog : Program} {w : World} {A : Around} {σ : List Addr} {H : Hp} {s : Shared} {E : Value → Shared → Prop}
variable {P : Prog} {n : Nat} {sc : Scope} {env : Env} {r : Rho}

noncomputable def GLoad (C : Cx) (prog : Program) (w : World) (f : String) (fv : Value) : Prop :=
  ∀ {A : Around} {env : Env} {s : Shared} {Q : Value → Shared → Prop}, Over C s.heap → env.globals = mainGlobals → env.builtins = builtinsNs → Q fv s → wpAny (model prog w) A (loadGlobal env (nm f)) Q F0 s

noncomputable def SpecialMap (C : Cx) (prog : Program) (w : World) (d : Addr) : Prop := (d == sysModules) = false ∧ ∀ h, Over C h → ∃ f, h.MapOf (intKind prog w) d f ∧ f 97 = none ∧ f 47 = none ∧ ∃ u, f 46 = some (.str (mkS [92, 46]) u)

theorem escape_body {p1 p2 p3 p4 p5 p6 p7 p8 p9 p10 : Pos} {els : List Stmt} {rest : List Stmt} {d : Addr} {c : Nat} {l : List Nat} (hl : (c = 97 ∧ l = [97]) ∨ (c = 47 ∧ l = [47]) ∨ (c = 46 ∧ l = [92, 46]))
    (g1 : GLoad C prog w "isinstance" (.builtin "isinstance")) (g2 : GLoad C prog w "str" (.type "str")) (g3 : GLoad C prog w "_special_chars_map" (.ref d)) (D : SpecialMap C prog w d)
    (k0 : env.kindOf (nm "pattern") = some .local) (k1 : env.kindOf (nm "isinstance") = some .globalImplicit) (k2 : env.kindOf (nm "str") = some .globalImplicit) (k3 : env.kindOf (nm "_special_chars_map") = some .globalImplicit) (hline : (p7.endLine == p9.line) = true)
    (V : EnvOK C σ s env r) (hr : r "pattern" = some (.str [c])) (I : Inv C σ H s) (R : Room 1 A) :
    wpAny (model prog w) A (execs (.If (.Call (.Name (nm "isinstance") p1) [.Name (nm "pattern") p2, .Name (nm "str") p3] [] p4) [.Return (some (.Call (.Attribute (.Name (nm "pattern") p6) (nm "translate") p7) [.Name (nm "_special_chars_map") p8] [] p9)) p10] els p5 :: rest) env)
      (fun f s'' => ∃ σ', StepW C (ownOf env) σ s σ' H s'' ∧ ∃ y, f = .ret y ∧ VR C.X σ' s''.heap (.str l) y) F0 s := by
  obtain ⟨m, hn, hm⟩ := V.loc
  obtain ⟨x0, hx0, hv⟩ := hm _ _ hr k0
  obtain ⟨t, rfl, _⟩ := hv.str_inv
  have ldp : ∀ {A : Around} {p : Pos} {Q : Value → Shared → Prop}, Q (.str (mkS [c]) t) s → wpAny (model prog w) A (eval (.Name (nm "pattern") p) env) Q F0 s := fun h =>
    wpAny_Name (wpAny_loadName_local V.kind k0 hn hx0 h) (by decide +kernel)
  refine wpAny_execs_cons (wpAny_If (wpAny_isTrue_value ?_ rfl))
  refine wpAny_Call_NameR (wpAny_Name (load_glob V.kind k1 (g1 I.over V.globals V.builtins ?_)) (by decide +kernel))
  refine Calls.callWith_builtin rfl (evalArgs_plain (spliced_cons (ldp ?_)))
  refine spliced_cons (wpAny_Name (load_glob V.kind k2 (g2 I.over V.globals V.builtins ?_)) (by decide +kernel))
  refine Calls.spliced_nil ?_
  show wpAny _ A (call (.builtin "isinstance") [.str (mkS [c]) t, .type "str"]) _ _ _
  refine call_isinstance (isinstance_true (Tx := "str") (by rfl) (by rw [isSubtype_type]; kernel_rfl)) ⟨typeIs_str _ _ _, ?_⟩
  refine wpAny_truthy_bool ?_
  rw [if_pos rfl]
  refine wpAny_execs_cons (wpAny_Return_some ?_)
  have hbase : attributeBase (.Name (nm "pattern") p6) (nm "translate") env (eval (.Name (nm "pattern") p6) env) = eval (.Name (nm "pattern") p6) env := rfl
  refine Call_method1 hbase rfl hline (ldp ?_)
  refine ⟨"str", "str.translate", PySem.F.plainAttrs_str, PySem.F.slot_str_translate, PySem.F.type_str_translate, typeIs_str _ _ _, (fun a h => nomatch h), ?_⟩
  refine Calls.callWith_builtin rfl (evalArgs_plain (spliced_cons (wpAny_Name (load_glob V.kind k3 (g3 I.over V.globals V.builtins ?_)) (by decide +kernel))))
  refine Calls.spliced_nil ?_
  show wpAny _ A (call (.builtin "str.translate") [.str (mkS [c]) t, .ref d]) _ _ _
  obtain ⟨hd, D⟩ := D
  obtain ⟨f, hmap, f97, f47, u, f46⟩ := D _ I.over
  refine wpAny_call_entry PySem.F.slot_str_translate (typeIs_str _ _ _) PySem.F.entry_str_translate ?_ (PySem.F.args_str_translate_2 _ _)
  have fin : ∀ h' tk t', (∀ b o, s.heap.get? b = some o → h'.get? b = some o) → ∃ σ', StepW C (ownOf env) σ s σ' H { s with heap := h', toks := tk } ∧ ∃ y, Flow.ret (.str (mkS l) t') = .ret y ∧ VR C.X σ' h' (.str l) y := fun h' tk t' hk => by
    have S := I.keeps (s' := { s with heap := h', toks := tk }) hk rfl rfl
    refine ⟨σ, StepW.wide S, _, rfl, VR.mkStr ?_⟩
    rcases hl with ⟨_, rfl⟩ | ⟨_, rfl⟩ | ⟨_, rfl⟩ <;> decide
  rcases hl with ⟨rfl, rfl⟩ | ⟨rfl, rfl⟩ | ⟨rfl, rfl⟩
  · exact translate_tree hmap (by decide) R.handled hd f97 fun h' tk t' hk => ⟨_, rfl, fin h' tk t' hk⟩
  · exact translate_tree hmap (by decide) R.handled hd f47 fun h' tk t' hk => ⟨_, rfl, fin h' tk t' hk⟩
  · exact translate_dot hmap f46 fun tk t' => ⟨_, rfl, fin s.heap tk t' fun _ _ e => e⟩
end Mine
end

section
set_option Elab.async false
set_option linter.all false
set_option maxRecDepth 100000
namespace Mine
open PySem PySem.W PyProof.Rows PySem.Spec PySem.Calls

variable {C : Cx} {prog : Program} {w : World} {A : Around} {σ : List Addr} {H : Hp} {s : Shared} {E : Value → Shared → Prop}
variable {P : Prog} {n : Nat} {sc : Scope} {env : Env} {r : Rho}

/- the class and its __init__, in a part of the base that is never turned -/
structure MgrFacts (C : Cx) (prog : Program) (w : World) (K : Frag) (fI : Addr) : Prop where
  over : ∀ h, Over C h → K.In h
  makes : makesIn K 122 = true
  init : findIn K (.ref 122) "__init__" = some (some (.ref fI))
  fn : typeIn K (.ref fI) = some (.type "function")
  setattr : findIn K (.ref 122) "__setattr__" = some (some (.builtin "object.__setattr__"))
  plain : plainOver K 122 = true
  taker : takerIn K 122 ("passwd" : Str) = some none
  hasDict : (clsIn K 122).any (·.hasDict) = true
  code : ∃ o fd c co cvs t x0 p1 p2 p3 p4, K.lookup fI = some o ∧ o.data = .func fd ∧ fd.scope.isCoroutine = false ∧ fd.scope.isGenerator = false ∧ fd.scope.kind = .function ∧ fd.closure = [] ∧
    fd.body = .stmts [.Assign [.Attribute (.Name (nm "self") p1) (nm "passwd") p2] (.Dict [] [] p3) p4] ∧ fd.code = .ref c ∧ K.lookup c = some co ∧ co.data = .fields cvs ∧ cvs[1]? = some (.str fd.qualname t) ∧
    (∀ v, bindArgs fd ⟨[v], []⟩ = pure [(nm "self", v)]) ∧ fd.scope.names.lookup (nm "self") = some .local ∧ x0 = fd

theorem new_mgr {K : Frag} {fI : Addr} (M : MgrFacts C prog w K fI) (hlim : ∀ h, Over C h → h.NoLimit) (O : Over C s.heap) (R : Room 3 A) {Q : Value → Shared → Prop}
    (h : ∀ x dx h' tk, (∀ b o, s.heap.get? b = some o → h'.get? b = some o) → s.heap.get? x = none → h'.get? x = some (instObj 122 dx) → s.heap.get? dx = none → x ≠ dx → (∃ o, h'.get? dx = some o ∧ FixOK true o) → Q (.ref x) { s with heap := h', toks := tk }) :
    wpAny (model prog w) A (call (.ref 122) []) Q E s := by
  obtain ⟨o, fd, c, co, cvs, t, _, p1, p2, p3, p4, hf, hd, hco, hgen, hk, hcl, hb, hc, hcc, hcd, hcq, hbind, hself, _⟩ := M.code
  have X := M.over _ O
  obtain ⟨hh, g, d, tk, os⟩ := s
  refine wpAny_call (make_core (makes_of X M.makes) (looks_findIn X M.init) (fun self => bind_fn X self M.fn) (.inl rfl) ?_)
  generalize hA : A.under (.builtin "type.__call__" ⟨[.ref 122], []⟩) = A'
  have RA : A'.handled = none ∧ A'.depth < recursionLimit ∧ True := by
    subst hA
    refine ⟨R.handled, ?_, trivial⟩
    show A.depth + 1 < 1000
    have := R.depth
    (first | lia | omega)
  have hk0 : ∀ b o, hh.get? b = some o → ((hh.push emptyDict).push (instObj 122 hh.objs.size)).get? b = some o := fun b o e => Heap.get?_push_of_some _ (Heap.get?_push_of_some _ e)
  have hx : ((hh.push emptyDict).push (instObj 122 hh.objs.size)).get? (hh.objs.size + 1) = some (instObj 122 hh.objs.size) := by heap_get
  have hdx : ((hh.push emptyDict).push (instObj 122 hh.objs.size)).get? hh.objs.size = some emptyDict := Heap.get?_push_of_some _ (Heap.get?_push_size _ rfl)
  generalize hh2 : (hh.push emptyDict).push (instObj 122 hh.objs.size) = h2 at hk0 hx hdx
  have X2 := X.keeps hk0
  refine codeAny_call_function (o := o) (fd := fd) RA.2.1 (X2 _ _ hf) hd hco hgen hb ⟨c, co, cvs, t, hc, X2 _ _ hcc, hcd, hcq⟩ ?_
  rw [hbind, hcl]
  refine wpAny_pure (wpAny_newFunctionEnv_cells hk (fun y hy => ?_) fun env he s' x => ?_)
  · rw [List.mem_singleton.mp hy]; exact .inl hself
  have hkeep := x.toInCall.keep
  obtain ⟨h3, tk3, hs3, _⟩ := x.done
  have O2 : Over C s'.heap := fun b ob e1 e2 => hkeep b ob (hk0 b ob (O b ob e1 e2))
  refine ⟨hlim _ O2, codeAny_func ?_⟩
  subst hs3
  have hke : env.scope.kind = .function := by subst he; exact hk
  have hks : env.kindOf (nm "self") = some .local := by subst he; exact hself
  refine wpAny_execs_cons (plainObj_wpAny_Assign_Attribute (wpAny_Dict_empty ?_) rfl)
  have hm : bindL env.kindOf [(nm "self", Value.ref (hh.objs.size + 1))] (fun _ => none) (nm "self") = some (.ref (hh.objs.size + 1)) := by
    unfold bindL
    rw [if_pos hks]
    simp [bindL]
  have hns := x.toInCall.ns.push { cls := .type "dict", data := .dict #[] }
  refine wpAny_Name (wpAny_loadName_local hke hks hns hm ?_) (by decide +kernel)
  have hL : env.locals = h2.objs.size := by subst he; rfl
  have k4 : ∀ b o, h2.get? b = some o → (h3.push { cls := .type "dict", data := .dict #[] }).get? b = some o := fun b o e => Heap.get?_push_of_some _ (hkeep b o e)
  have hne : ∀ b o, h2.get? b = some o → b ≠ env.locals := fun b o e q => by rw [q, hL, fresh_at] at e; cases e
  have hhx : hh.get? (hh.objs.size + 1) = none := Heap.get?_none_of_le (by simp)
  have I : InstAt (h3.push { cls := .type "dict", data := .dict #[] }) (hh.objs.size + 1) (instObj 122 hh.objs.size) 122 (some emptyDict) := ⟨k4 _ _ hx, rfl, rfl, k4 _ _ hdx⟩
  have F : Fr hh env.locals (h3.push { cls := .type "dict", data := .dict #[] }) _ := ⟨hns, fun b o e => k4 b o (hk0 b o e), by rw [hL, ← hh2, Heap.size_push, Heap.size_push]; (first | lia | omega)⟩
  have N : News hh env.locals (h3.push { cls := .type "dict", data := .dict #[] }) ([(hh.objs.size + 1, instObj 122 hh.objs.size)] ++ (hh.objs.size, emptyDict) :: []) := fun p hp => by
    simp only [List.cons_append, List.nil_append, List.mem_cons, List.not_mem_nil, or_false] at hp
    rcases hp with rfl | rfl
    · exact ⟨k4 _ _ hx, hne _ _ hx, hhx⟩
    · exact ⟨k4 _ _ hdx, hne _ _ hdx, fresh_at _⟩
  refine set_plain (X2.keeps k4) I M.setattr (osa_dict F N (X2.keeps k4) I rfl M.plain M.taker M.hasDict (by rfl) (by simp) (by simp) rfl (by rfl) (by simp) fun h' F' N' => ?_)
  refine wpAny_execs_nil ⟨rfl, ?_⟩
  have n1 := (N' _ (List.mem_append_left _ List.mem_cons_self)).1
  have n2 := (N' _ (List.mem_append_right _ List.mem_cons_self)).1
  refine h _ _ _ _ F'.keep hhx n1 (fresh_at _) (Nat.succ_ne_self _) ⟨_, n2, ?_⟩
  exact ⟨[⟨_, _, _⟩], 1, by rfl, by rfl⟩

theorem mgr_ok {K : Frag} {fI : Addr} (M : MgrFacts C prog w K fI) (hlim : ∀ h, Over C h → h.NoLimit) (I : Inv C σ H s) (R : Room 3 A) : wpAny (model prog w) A (call (.ref 122) []) (Ok C σ s (H ++ [.obj true]) (.mgr H.length)) F0 s := by
  refine new_mgr M hlim I.over R fun x dx h' tk hk hn hx hd hxd ⟨o, ho, hF⟩ => ?_
  obtain ⟨S, hg⟩ := I.newObj (s' := { s with heap := h', toks := tk }) (k := true) hd ho hF hk rfl rfl
  refine ⟨_, S, .mgr _ x dx hg hx (fun q => ?_) (I.notX_fresh hn)⟩
  rcases List.mem_append.mp q with q | q
  · exact I.notσ_fresh hn q
  · exact hxd (List.mem_singleton.mp q)
structure SubFacts (C : Cx) (K : Frag) (a : Addr) : Prop where
  over : ∀ h, Over C h → K.In h
  plain : plainGet K 122 ("is_suburi" : Str) = true
  find : findIn K (.ref 122) ("is_suburi" : Str) = some (some (.ref a))
  fn : isFn K (.ref a) = true

theorem mgr_get {K : Frag} {a : Addr} (M : SubFacts C K a) {i : Nat} {x : Value} {pl : Sem Bool} {Q : Value × List Value → Shared → Prop} (I : Inv C σ H s) (hm : H[i]? = some (.obj true)) (hv : VR C.X σ s.heap (.mgr i) x) (h : Q (.ref a, [x]) s) :
    wpAny (model prog w) A (getMethod x ("is_suburi" : Str) pl) Q F0 s := by
  cases hv with | mgr _ b d hd g q1 q2 =>
  obtain ⟨o, go, es, n, rfl, hg⟩ := I.obj i d true hd hm
  have X := M.over _ I.over
  have II : InstAt s.heap b { cls := .ref 122, dict := some d } 122 (some (dictOf es n)) := ⟨g, rfl, rfl, go⟩
  exact method_fn X II (plainGet_of M.plain).1 (plainGet_of M.plain).2 M.find (beq_iff_eq.mp M.fn) (by show (lookIn _ (dictOf es n)).map _ = _; rw [lookIn_dict, hg]; rfl) h
end Mine
end

section
set_option Elab.async false
set_option linter.all false
set_option maxRecDepth 100000
namespace Mine
open PySem PySem.W PyProof.Rows PySem.Spec PySem.Calls

variable {C : Cx} {prog : Program} {w : World} {A : Around} {σ : List Addr} {H : Hp} {s : Shared} {E : Value → Shared → Prop}
variable {P : Prog} {n : Nat} {sc : Scope} {env : Env} {r : Rho}

noncomputable def reCode : Array Nat := #[14, 14, 4, 1, 1, 9, 0, 64, 0, 1342177280, 0, 0, 0, 0, 0, 17, 0, 13, 11, 9, 0, 64, 0, 1342177280, 0, 0, 0, 0, 0, 17, 1, 1]
noncomputable def isFailed (m : Sre.M) : Bool := match m.outcome with | some .failed => true | _ => false
noncomputable def driven : Nat → Sre.M → Option Sre.M
  | 0, _ => none
  | k + 1, m => if (m.runFor 4).outcome.isSome then some (m.runFor 4) else driven k (m.runFor 4)
theorem five_fail : five.all (fun l => ((driven 100 (Sre.forSearch reCode l.toArray 1 0 l.length false)).any isFailed)) = true := by decide +kernel

theorem drive_ok {Q : Sre.M → Shared → Prop} {M : Model} : ∀ (k turns : Nat) (m m' : Sre.M), k ≤ turns → driven k m = some m' → Q m' s → wpAny M A (Builtin.Re.reDrive turns m) Q E s
  | 0, _, _, _, _, h, _ => by simp [driven] at h
  | k + 1, 0, _, _, hk, _, _ => by (first | lia | omega)
  | k + 1, t + 1, m, m', hk, h, hq => by
    unfold driven at h
    unfold Builtin.Re.reDrive
    show wpAny M A (if (m.runFor 4).outcome.isSome = true then pure (m.runFor 4) else do rule "sre.turn"; Builtin.Re.reDrive t (m.runFor 4)) Q E s
    split at h
    · rename_i hc
      cases h
      rw [if_pos hc]
      exact wpAny_pure hq
    · rename_i hc
      rw [if_neg hc]
      exact wpAny_bind (wpAny_rule (drive_ok k t _ m' (by (first | lia | omega)) h hq))

theorem rules_ok {Q : Unit → Shared → Prop} {M : Model} (p : Nat → Bool) (f : Nat → String) : ∀ l : List Nat, Q () s → wpAny M A (forIn l () (fun i (_ : Unit) => if p i = true then do rule (f i); pure (ForInStep.yield ()) else pure (ForInStep.yield ()))) Q E s
  | [], h => by rw [List.forIn_nil]; exact wpAny_pure h
  | i :: l, h => by
    rw [List.forIn_cons]
    split
    · exact wpAny_bind (wpAny_bind (wpAny_rule (wpAny_pure (rules_ok p f l h))))
    · exact wpAny_bind (wpAny_pure (rules_ok p f l h))

theorem runToEnd_ok {Q : Option Sre.M → Shared → Prop} {M : Model} {m m' : Sre.M} {k : Nat} (hk : k ≤ 2 ^ 64) (hd : driven k m = some m') (hf : isFailed m' = true) (h : Q none s) : wpAny M A (Builtin.Re.reRunToEnd m) Q E s := by
  unfold Builtin.Re.reRunToEnd
  refine wpAny_bind (drive_ok k _ m m' hk hd ?_)
  refine wpAny_bind (rules_ok (fun i => m'.seen.has i) (fun i => Sre.names.getD i "") _ ?_)
  unfold isFailed at hf
  split at hf
  · rename_i ho
    rw [ho]
    exact wpAny_pure h
  · cases hf

theorem next_none {l : List Nat} (hl : l ∈ five) {Q : Option Sre.M → Shared → Prop} {M : Model} {t : Builtin.Re.ReTarget} (h1 : t.code = reCode) (h2 : t.text = l.toArray) (h3 : t.groups = 1) (h4 : t.lim = l.length) (h : Q none s) : wpAny M A (Builtin.Re.reNextFound t 0 false) Q E s := by
  unfold Builtin.Re.reNextFound
  rw [h1, h2, h3, h4]
  have := List.all_eq_true.mp five_fail l hl
  obtain ⟨m', hm, hf⟩ := any_some this
  exact runToEnd_ok (k := 100) (by decide) hm hf h
end Mine
end

section
set_option Elab.async false
set_option linter.all false
set_option maxRecDepth 100000
namespace Mine
open PySem PySem.W PyProof.Rows PySem.Spec PySem.Calls

variable {C : Cx} {prog : Program} {w : World} {A : Around} {σ : List Addr} {H : Hp} {s : Shared} {E : Value → Shared → Prop}
variable {P : Prog} {n : Nat} {sc : Scope} {env : Env} {r : Rho}

structure PatAt (h : Heap) (a : Addr) : Prop where
  get : ∃ p0 p1 t2 t6 b its k, h.get? a = some { cls := .type "re.Pattern", data := .fields #[p0, p1, .int 1 t2, .none, .none, .ref b, .int 0 t6] } ∧ h.get? b = some { cls := .type "tuple", data := .seq its k } ∧ (its.map Builtin.Re.reRawOf).map (·.toNat) = reCode

theorem target_ok {M : Model} {a : Addr} {l : List Nat} {t : Tok} {Q : Builtin.Re.ReTarget → Shared → Prop} (hp : PatAt s.heap a) (h : Q { pattern := .ref a, string := .str (mkS l) t, code := reCode, text := l.toArray, kind := 0, groups := 1, pos := 0, lim := l.length } s) :
    wpAny M A (Builtin.Re.reWholeTarget (.ref a) (.str (mkS l) t)) Q E s := by
  obtain ⟨p0, p1, t2, t6, b, its, k, h1, h2, h3⟩ := hp.get
  unfold Builtin.Re.reWholeTarget fieldsOf
  refine wpAny_bind (wpAny_bind (wpAny_load h1 ?_))
  refine wpAny_pure ?_
  refine wpAny_bind (wpAny_of_eq (a := (l.toArray, 0)) (by rfl) ?_)
  have e1 : Builtin.Re.reRawNat ((#[p0, p1, .int 1 t2, .none, .none, .ref b, .int 0 t6] : Array Value).getD 6 .none) = 0 := rfl
  have e2 : Builtin.Re.reRawNat ((#[p0, p1, .int 1 t2, .none, .none, .ref b, .int 0 t6] : Array Value).getD 2 .none) = 1 := rfl
  have e3 : (#[p0, p1, .int 1 t2, .none, .none, .ref b, .int 0 t6] : Array Value).getD 5 .none = .ref b := rfl
  simp only [e1, e2, e3]
  rw [if_neg (by decide), if_neg (by decide)]
  refine wpAny_bind (wpAny_of_eq (a := ()) (by rfl) ?_)
  unfold Builtin.Re.reRawItems seqItems?
  refine wpAny_bind (wpAny_bind (wpAny_bind (wpAny_load h2 ?_)))
  refine wpAny_pure (wpAny_pure (wpAny_pure ?_))
  simp only [Option.getD_some, h3, List.size_toArray]
  exact h

theorem sub_fn_call : typeLookup (.type "function") ("__call__" : Str) = pure (some (.builtin "function.__call__")) := by rw [typeLookup_type, builtinLookup_eq_fast]; kernel_rfl
theorem sub_str_bytearray : isSubtype (.type "str") (.type "bytearray") = pure false := by rw [isSubtype_type]; kernel_rfl

theorem entry_loop : entryFor table "re.Pattern.sub.loop" = some Builtin.«re.Pattern.sub.loop» := entryFor_of_tree (by kernel_rfl)
theorem plain_loop : plainId "re.Pattern.sub.loop" = true := by decide +kernel
theorem five_ne {l : List Nat} (h : l ∈ five) : 0 < l.length ∧ l.length ≤ 3 := by
  simp only [five, List.mem_cons, List.not_mem_nil, or_false] at h
  rcases h with rfl | rfl | rfl | rfl | rfl <;> simp

theorem sub_loop {a f p : Addr} {l : List Nat} {t : Tok} {R : Result → Shared → Prop} (hl : l ∈ five) (hp : PatAt s.heap a) (hp2 : s.heap.get? p = some { cls := .type "list", data := .seq #[] })
    (h : ∀ h' tk t', (∀ b o, b ≠ p → s.heap.get? b = some o → h'.get? b = some o) → R (.ok (.ret (.str (mkS l) t'))) { s with heap := h', toks := tk }) :
    codeAny (model prog w) A (.builtin "re.Pattern.sub.loop" ⟨[.ref a, .str (mkS l) t, .ref f, rawInt 1, rawInt 0, rawInt 0, rawInt 0, rawInt 0, .bool false, .ref p, .bool false], []⟩) R s := by
  obtain ⟨hl0, hl3⟩ := five_ne hl
  refine codeAny_builtin entry_loop ?_
  rw [Around.under_plainId plain_loop]
  unfold Builtin.«re.Pattern.sub.loop»
  simp only [rawInt]
  refine wpAny_bind (target_ok hp ?_)
  rw [if_neg (by decide)]
  refine wpAny_bind ?_
  · rw [if_neg (by decide)]
    refine next_none hl rfl rfl rfl rfl ?_
    simp only
    rw [if_pos (by show (0 : Int).toNat < l.length; exact hl0)]
    show wpAny _ _ (mkStr (⟨l.toArray.extract 0 l.length⟩ : Str) >>= _) _ _ _
    have hx : (⟨l.toArray.extract 0 l.length⟩ : Str) = mkS l := by simp [mkS]
    rw [hx]
    refine wpAny_bind (wpAny_mkStr ?_ (by rw [mkS_len, sizeLine_is]; (first | lia | omega)))
    refine wpAny_bind (wpAny_updateSeq hp2 rfl ?_)
    have hq : (s.heap.update p (Obj.mapSeq fun x => x.push (.str (mkS l) s.toks))).get? p = some { cls := .type "list", data := .seq #[.str (mkS l) s.toks] 1 } := by
      rw [Heap.get?_update_self _ hp2 rfl]
      simp [Obj.mapSeq]
    have hk : ∀ b o, b ≠ p → s.heap.get? b = some o → (s.heap.update p (Obj.mapSeq fun x => x.push (.str (mkS l) s.toks))).get? b = some o := fun b o hb e => (Heap.get?_update_other _ _ (Ne.symm hb)).trans e
    show wpAny _ _ (mkStr (⟨l.toArray.extract 0 0⟩ : Str) >>= _) _ _ _
    have hx0 : (⟨l.toArray.extract 0 0⟩ : Str) = mkS [] := by simp [mkS]
    rw [hx0]
    refine wpAny_bind (wpAny_mkStr ?_ (by rw [mkS_len, sizeLine_is]; simp))
    unfold seqItems?
    refine wpAny_bind (wpAny_bind (wpAny_load hq (wpAny_pure ?_)))
    rw [if_neg (by simp)]
    refine wpAny_bind (SC.join (l := [(mkS l, s.toks)]) (texts := [mkS l]) ⟨_, hq, rfl, _, rfl⟩ rfl ?_ fun t' k => ?_)
    · unfold JoinOk Builtin.Str.tooLong
      rw [StrLaws.joinTotal, mkS_len, sizeLine_is]
      simp only [List.map_cons, List.map_nil, List.sum_cons, List.sum_nil, mkS_len, Bool.not_eq_true', decide_eq_false_iff_not, List.length_nil]
      (first | lia | omega)
    · rw [if_neg (by decide)]
      have hj : Txt.join (mkS []) [mkS l] = mkS l := rfl
      rw [hj]
      exact wpAny_pure (h _ k t' hk)

theorem sub_start {a f : Addr} {of : Obj} {l : List Nat} {t : Tok} {R : Result → Shared → Prop} (hl : l ∈ five) (hp : PatAt s.heap a) (hf : s.heap.get? f = some of) (hfc : of.cls = .type "function")
    (h : ∀ h' tk t', (∀ b o, s.heap.get? b = some o → h'.get? b = some o) → R (.ok (.ret (.str (mkS l) t'))) { s with heap := h', toks := tk }) :
    wpAny (model prog w) A.in1 (Builtin.«re.Pattern.sub» ⟨[.ref a, .ref f, .str (mkS l) t], []⟩) (fun fin s' => match fin with | .done f => R (.ok f) s' | .again c' => c'.quiet = true ∧ codeAny (model prog w) A c' R s') (fun e s' => R (.error e) s') s := by
  unfold Builtin.«re.Pattern.sub» Builtin.Re.reSubstitute
  simp only
  refine wpAny_bind (wpAny_of_eq (a := [some (.ref f), some (.str (mkS l) t), none]) (by rfl) ?_)
  simp only
  refine wpAny_bind (wpAny_pure ?_)
  have hT : s.TypeIs (.ref f) "function" := ⟨of, hf, hfc⟩
  refine wpAny_bind (wpAny_specialOf hT sub_fn_call ?_)
  simp only [Option.isSome_some, if_true]
  refine wpAny_bind (wpAny_pure (wpAny_bind (wpAny_pure ?_)))
  simp only
  refine wpAny_bind (wpAny_holding (target_ok hp ?_))
  rw [if_pos (by decide)]
  refine wpAny_bind ?_
  · unfold Builtin.Re.reNotHeld
    refine wpAny_bind (wpAny_isInstance (typeIs_str _ _ _) sub_str_bytearray ?_)
    simp only [Bool.false_eq_true, if_false]
    refine wpAny_pure ?_
    refine wpAny_bind (wpAny_newObj_type ?_)
    refine wpAny_pure ⟨Code.quiet_builtin _ (by decide +kernel), ?_⟩
    refine sub_loop hl (t := t) ?_ (Heap.get?_push_size _ rfl) fun h' tk t' hk => ?_
    · obtain ⟨p0, p1, t2, t6, b, its, k, h1, h2, h3⟩ := hp.get
      exact ⟨p0, p1, t2, t6, b, its, k, Heap.get?_push_of_some _ h1, Heap.get?_push_of_some _ h2, h3⟩
    · exact h h' tk t' fun b o e => hk b o (fun q => by rw [q, fresh_at] at e; cases e) (Heap.get?_push_of_some _ e)
end Mine
end

section
set_option Elab.async false
set_option linter.all false
set_option maxRecDepth 100000
namespace Mine
open PySem PySem.W PyProof.Rows PySem.Spec PySem.Calls

variable {C : Cx} {prog : Program} {w : World} {A : Around} {σ : List Addr} {H : Hp} {s : Shared} {E : Value → Shared → Prop}
variable {P : Prog} {n : Nat} {sc : Scope} {env : Env} {r : Rho}

structure CodeFacts (C : Cx) (mg : Str → Option Value) : Prop where
  X : C.X = [64]
  soft : ∀ h, C.Soft h ↔ ∃ ps, h.get? 64 = some (tabObj ps) ∧ TriplesOk ps.toList
  head : ∀ h, Over C h → CodeHd h 68 64
  ns : ∀ h, Over C h → h.Ns mainGlobals mg
  bm : ∀ h, Over C h → h.BuiltinsAt mg 64

theorem triples_snoc : ∀ (l : List Value) (a b : Int) (t u : Tok) (c : Value), TriplesOk l → TriplesOk (l ++ [.int a t, .int b u, c])
  | [], _, _, _, _, _, _ => trivial
  | .int _ _ :: .int _ _ :: _ :: rest, a, b, t, u, c, h => triples_snoc rest a b t u c h
  | .int _ _ :: .int _ _ :: [], _, _, _, _, _, h => h.elim
  | [.int _ _], _, _, _, _, _, h => h.elim
  | .none :: _, _, _, _, _, _, h => h.elim
  | .ellipsis :: _, _, _, _, _, _, h => h.elim
  | .notImplemented :: _, _, _, _, _, _, h => h.elim
  | .bool _ :: _, _, _, _, _, _, h => h.elim
  | .float _ _ :: _, _, _, _, _, _, h => h.elim
  | .str _ _ :: _, _, _, _, _, _, h => h.elim
  | .bytes _ _ :: _, _, _, _, _, _, h => h.elim
  | .type _ :: _, _, _, _, _, _, h => h.elim
  | .builtin _ :: _, _, _, _, _, _, h => h.elim
  | .ref _ :: _, _, _, _, _, _, h => h.elim
  | .int _ _ :: .none :: _, _, _, _, _, _, h => h.elim
  | .int _ _ :: .ellipsis :: _, _, _, _, _, _, h => h.elim
  | .int _ _ :: .notImplemented :: _, _, _, _, _, _, h => h.elim
  | .int _ _ :: .bool _ :: _, _, _, _, _, _, h => h.elim
  | .int _ _ :: .float _ _ :: _, _, _, _, _, _, h => h.elim
  | .int _ _ :: .str _ _ :: _, _, _, _, _, _, h => h.elim
  | .int _ _ :: .bytes _ _ :: _, _, _, _, _, _, h => h.elim
  | .int _ _ :: .type _ :: _, _, _, _, _, _, h => h.elim
  | .int _ _ :: .builtin _ :: _, _, _, _, _, _, h => h.elim
  | .int _ _ :: .ref _ :: _, _, _, _, _, _, h => h.elim

/- a function object made while the table of code may grow -/
noncomputable def OkF (C : Cx) (σ : List Addr) (s : Shared) (H : Hp) : Value → Shared → Prop := fun v s' => ∃ f o, v = .ref f ∧ Step C σ s σ H s' ∧ s'.heap.get? f = some o ∧ o.cls = .type "function" ∧ f ∉ σ ∧ f ∉ C.X

theorem soft_step {mg : Str → Option Value} (F : CodeFacts C mg) (I : Inv C σ H s) {h' : Heap} {tk : Nat} {ps : Array Value} (hx : Heap.ExtBut 64 s.heap h') (ht : h'.get? 64 = some (tabObj ps)) (hok : TriplesOk ps.toList) : Step C σ s σ H { s with heap := h', toks := tk } :=
  I.grow (fun b o e q => hx b o (fun z => q (by rw [F.X, z]; exact List.mem_singleton.mpr rfl)) e) (fun b hb => by rw [F.X, List.mem_singleton] at hb; subst hb; exact ⟨_, ht⟩) ((F.soft _).mpr ⟨ps, ht, hok⟩) I.bare rfl

theorem lambda_ok {mg : Str → Option Value} (F : CodeFacts C mg) {la : Arguments} {lb : Expr} {ls : Scope} {lp : Pos} (h1 : la.defaults = []) (h2 : la.kw_defaults = []) (hfr : ∀ x ∈ ls.names, x.2 ≠ .free) (hcode : env.code = .ref 68) (V : EnvOK C σ s env r) (I : Inv C σ H s) :
    wpAny (model prog w) A (eval (.Lambda la lb ls lp) env) (OkF C σ s H) F0 s := by
  have hdef : defaultsOf la env = ([], []) := by
    obtain ⟨a, b, c, d, e, f, g⟩ := la
    simp only at h1 h2
    subst h1 h2
    rfl
  refine kla_eval hdef ?_
  obtain ⟨ps, hP, ht⟩ := (F.soft _).mp I.soft
  have hgP : mainGlobals ≠ 64 := by decide
  cases hca : codeAmong lp ps.toList with
  | none =>
    refine kla_makeFunction (closureFor_none hfr) V.globals (F.ns _ I.over) hcode (F.head _ I.over) hP ht hca hgP (F.bm _ I.over) fun c' ctv h' tk hx hge hlt hrec htb => ?_
    have hok := triples_snoc ps.toList lp.line lp.col 0 0 (.ref c') ht
    have S := soft_step (h' := h'.push (kla_obj "<lambda>" (env.qual ++ "<lambda>") la lb ls [] ((mg "__name__").getD .none) c' ctv)) (tk := tk) (ps := ps ++ #[rawInt lp.line, rawInt lp.col, .ref c']) F I (fun b o hb e => Heap.get?_push_of_some _ (hx b o hb e)) (Heap.get?_push_of_some _ htb) (by rw [Array.toList_append]; exact hok)
    have hfn : s.heap.get? h'.objs.size = none := Heap.get?_none_of_le (by (first | lia | omega))
    exact ⟨_, _, rfl, S, Heap.get?_push_size _ rfl, rfl, I.notσ_fresh hfn, I.notX_fresh hfn⟩
  | some cv =>
    refine kla_makeFunctionHit (closureFor_none hfr) V.globals (F.ns _ I.over) hcode (F.head _ I.over) hP ht hca (F.bm _ I.over) fun ctv h' tk hk hsz => ?_
    have hfn : s.heap.get? h'.objs.size = none := Heap.get?_none_of_le hsz
    refine ⟨_, _, rfl, I.keeps (fun b o e => Heap.get?_push_of_some _ (hk b o e)) rfl rfl, Heap.get?_push_size _ rfl, rfl, I.notσ_fresh hfn, I.notX_fresh hfn⟩

theorem plain_pat : PlainAttrs "re.Pattern" := ⟨⟨"object.__getattribute__", by rw [typeLookup_type, builtinLookup_eq_fast]; kernel_rfl, by decide +kernel⟩, by rw [typeLookup_type, builtinLookup_eq_fast]; kernel_rfl⟩
theorem slot_sub : Slot "re.Pattern" "sub" "re.Pattern.sub" :=
  .of (owner := "re.Pattern") (n := "sub") (by rw [typeLookup_type, builtinLookup_eq_fast]; kernel_rfl) (by decide +kernel) (by decide +kernel) (by decide +kernel)
    (by first | exact .inl (by decide +kernel) | exact .inr (by decide +kernel)) (by rw [isSubtype_type]; kernel_rfl)
theorem entry_sub : entryFor table "re.Pattern.sub" = some Builtin.«re.Pattern.sub» := entryFor_of_tree (by kernel_rfl)
theorem type_sub : typeOf (.builtin "re.Pattern.sub") = pure (.type "method_descriptor") := by show builtinType _ = _; rw [builtinType_eq_fast]; kernel_rfl
theorem args_sub (a b c : Value) : argsOk "re.Pattern.sub" ⟨[a, b, c], []⟩ := by unfold argsOk; kernel_rfl

theorem call_sub {a f : Addr} {of : Obj} {l : List Nat} {t : Tok} {Q : Value → Shared → Prop} (hl : l ∈ five) (hp : PatAt s.heap a) (hf : s.heap.get? f = some of) (hfc : of.cls = .type "function")
    (h : ∀ h' tk t', (∀ b o, s.heap.get? b = some o → h'.get? b = some o) → Q (.str (mkS l) t') { s with heap := h', toks := tk }) :
    wpAny (model prog w) A (call (.builtin "re.Pattern.sub") [.ref a, .ref f, .str (mkS l) t]) Q E s := by
  have hT : s.TypeIs (.ref a) "re.Pattern" := by
    obtain ⟨p0, p1, t2, t6, b, its, k, h1, _⟩ := hp.get
    exact ⟨_, h1, rfl⟩
  refine wpAny_call (codeAny_call_builtin slot_sub.plain entry_sub (slot_sub.check _ _ _ _ _ _ _ _ hT (args_sub _ _ _) ?_))
  exact sub_start (R := fun r s' => match r with | .ok (.ret v) => Q v s' | .ok _ => False | .error e => E e s') hl hp hf hfc fun h' tk t' hk => h h' tk t' hk

theorem resub_ok {mg : Str → Option Value} (F : CodeFacts C mg) (hpat : ∀ h, Over C h → PatAt h 43) (G : GLoad C prog w "_twin_re_1" (.ref 43)) {xp ap : Pos} {la : Arguments} {lb : Expr} {ls : Scope} {lp : Pos} {y : Expr} {cp : Pos} {l : List Nat} {H' : Hp}
    (hg : isGlob sc (nm "_twin_re_1") = true) (h1 : la.defaults = []) (h2 : la.kw_defaults = []) (hfr : ∀ x ∈ ls.names, x.2 ≠ .free) (hst : starEach [y] env = [(false, eval y env)]) (hline : (ap.endLine == cp.line) = true) (K : KindOK sc env) (V : EnvOK C σ s env r) (I : Inv C σ H s) (R : Room 2 A)
    (hy : ∀ σ1 s1, Step C σ s σ1 H s1 → wpAny (model prog w) A (eval y env) (Ok C σ1 s1 H' (.str l)) F0 s1) (hl : l ∈ five) :
    wpAny (model prog w) A (eval (.Call (.Attribute (.Name (nm "_twin_re_1") xp) (nm "sub") ap) [.Lambda la lb ls lp, y] [] cp) env) (Ok C σ s H' (.str l)) F0 s := by
  have hstar : starEach [.Lambda la lb ls lp, y] env = [(false, eval (.Lambda la lb ls lp) env), (false, eval y env)] := by
    show (false, eval (.Lambda la lb ls lp) env) :: starEach [y] env = _
    rw [hst]
  have hbase : attributeBase (.Name (nm "_twin_re_1") xp) (nm "sub") env (eval (.Name (nm "_twin_re_1") xp) env) = eval (.Name (nm "_twin_re_1") xp) env := rfl
  refine wpAny_Call_method_lateS hbase (by rw [hstar]; rfl) hline ?_
  refine wpAny_Name (load_glob V.kind (K.glo _ hg) (G I.over V.globals V.builtins ?_)) (by decide +kernel)
  rw [hstar]
  have hT : ∀ {s : Shared}, Over C s.heap → s.TypeIs (.ref 43) "re.Pattern" ∧ ∃ ob, s.heap.get? 43 = some ob ∧ ob.dict = none := fun {s} hO => by
    obtain ⟨p0, p1, t2, t6, b, its, k, h1, _⟩ := (hpat _ hO).get
    exact ⟨⟨_, h1, rfl⟩, _, h1, rfl⟩
  refine ⟨"re.Pattern", "re.Pattern.sub", plain_pat, slot_sub, type_sub, (hT I.over).1, (fun a h => by cases h; exact (hT I.over).2), ?_⟩
  refine Calls.callWith_builtin rfl (evalArgs_plain (spliced_cons (wpAny_mono (lambda_ok F h1 h2 hfr (K.code hg) V I) (fun v s1 ⟨f, o, hv, S1, gf, cf, nf, xf⟩ => ?_) fun _ _ h => h)))
  subst hv
  refine spliced_cons (wpAny_mono (hy σ s1 S1) (fun v s2 ⟨σ2, S2, r2⟩ => ?_) fun _ _ h => h)
  obtain ⟨t, rfl, _⟩ := r2.str_inv
  refine Calls.spliced_nil ?_
  show wpAny _ A (call (.builtin "re.Pattern.sub") [.ref 43, .ref f, .str (mkS l) t]) _ _ _
  have gf2 := S2.pres f o gf nf xf fun q => nomatch q
  refine call_sub hl (hpat _ S2.inv.over) gf2 cf fun h' tk t' hk => ?_
  have S3 := S2.inv.keeps (s' := { s2 with heap := h', toks := tk }) hk rfl rfl
  exact ⟨σ2, S1.trans (S2.trans S3), VR.mkStr (by have := five_ne hl; rw [lim2]; (first | lia | omega))⟩
end Mine
end

section
set_option Elab.async false
set_option linter.all false
set_option maxRecDepth 100000
namespace Mine
open PySem PySem.W PyProof.Rows PySem.Spec PySem.Calls

variable {C : Cx} {prog : Program} {w : World} {A : Around} {σ : List Addr} {H : Hp} {s : Shared} {E : Value → Shared → Prop}
variable {P : Prog} {n : Nat} {sc : Scope} {env : Env} {r : Rho}

theorem gen_code_ok {mg : Str → Option Value} (F : CodeFacts C mg) {pos : Pos} {q : Str} {ls : Scope} (hcode : env.code = .ref 68) (hO : Over C s.heap) (hS : C.Soft s.heap) :
    wpAny (model prog w) A (genexprCode env pos q ls) (fun _ s' => ∃ h' tk, s' = { s with heap := h', toks := tk } ∧ Heap.ExtBut 64 s.heap h' ∧ ∃ ps', h'.get? 64 = some (tabObj ps') ∧ TriplesOk ps'.toList) F0 s := by
  obtain ⟨ps, hP, ht⟩ := (F.soft _).mp hS
  cases hca : codeAmong pos ps.toList with
  | none =>
    refine wpAny_genexprCodeX hcode ((F.head _ hO).code hP ht) ((F.head _ hO).tab hP) hca fun c' h' tk hx _ _ _ _ htb _ => ?_
    exact ⟨h', tk, rfl, hx, _, htb.2, by rw [Array.toList_append]; exact triples_snoc ps.toList pos.line pos.col 0 0 (.ref c') ht⟩
  | some cv => exact wpAny_genexprCode_hit hcode ((F.head _ hO).code hP ht) hca ⟨s.heap, s.toks, rfl, fun _ _ _ e => e, ps, hP, ht⟩

/- one item: nothing to double -/
theorem rep_call {c : Nat} {y : List Nat} {a : Str} {t u v : Tok} {Q : Value → Shared → Prop} (hc : y.contains c = false) (hq : Q (.str (mkS y) t) s) : wpAny (model prog w) A (call (.builtin "str.replace") [.str (mkS y) t, .str (mkS [c]) u, .str a v]) Q E s := by
  have ho : Builtin.Str.occurrences (mkS y) (mkS [c]) 0 (mkS y).length ((mkS y).length + 1) = [] := by
    rcases StrLaws.occ_head (mkS y) (mkS [c]) ((mkS y).length + 1) (Nat.le_add_left 1 _) with ⟨h0, _⟩ | ⟨i, _, _, ha, _⟩
    · exact h0
    · rw [mkS_len, at_one _ _ _ _ (Nat.le_refl _)] at ha
      have := List.mem_of_getElem? ha.2
      exact absurd (List.contains_iff_mem.mpr this) (by rw [hc]; exact Bool.false_ne_true)
  refine call_gives PySem.F.slot_str_replace (typeIs_str _ _ _) PySem.F.entry_str_replace (PySem.F.args_str_replace_3 _ _ _) (gives_str_replace (mkS y) (mkS [c]) a t u v (fun h => by rw [ho] at h; simp at h)) ?_
  rw [ho]
  exact hq
theorem keeps_tok {s1 : Shared} {k : Nat} (h : Keeps s s1) : Keeps s { s1 with toks := k } := h.elim fun h' h => h.elim fun tk h => ⟨h', k, by rw [h.1], h.2⟩
theorem rep_ok {c : Nat} {o e : Expr} {y : List Nat} {t : Tok} (hr : Rep (mkS [c]) o e) (hb : ∀ {env}, attributeBase o (nm "replace") env (eval o env) = eval o env) (hc : y.contains c = false)
    (ho : ∀ {A : Around} {E : Value → Shared → Prop}, wpAny (model prog w) A (eval o env) (fun v s' => v = .str (mkS y) t ∧ Keeps s s') E s) : wpAny (model prog w) A (eval e env) (fun v s' => v = .str (mkS y) t ∧ Keeps s s') E s := by
  cases hr with | @mk r ap x k q a k2 q2 cp h1 h2 h3 =>
  rw [h1, h2]
  refine wpAny_Call_method_lateS hb rfl h3 (wpAny_mono ho (fun v s1 h => ?_) fun _ _ h => h)
  rw [h.1]
  refine ⟨"str", "str.replace", PySem.F.plainAttrs_str, PySem.F.slot_str_replace, PySem.F.type_str_replace, typeIs_str _ _ _, (fun a h => nomatch h), ?_⟩
  exact Calls.callWith_builtin rfl (evalArgs_plain (spliced_cons (wpAny_Constant_str (k := k) (pos := q) (spliced_cons (wpAny_Constant_str (k := k2) (pos := q2) (Calls.spliced_nil (rep_call hc ⟨rfl, keeps_tok (s1 := s1) h.2⟩)))))))
theorem elt_ok {o1 o2 e : Expr} {p1 : Pos} {y : List Nat} {t : Tok} {m : Str → Option Value} (hk : env.scope.kind = .function) (hl : env.kindOf (nm "s") = some .local) (hd : dbg (nm "s")) (hn : s.heap.Ns env.locals m) (hm : m (nm "s") = some (.str (mkS y) t))
    (h1 : o1 = .Name (nm "s") p1) (h2 : Rep (mkS [45]) o2 e) (h3 : Rep (mkS [92]) o1 o2) (c1 : y.contains 92 = false) (c2 : y.contains 45 = false) :
    wpAny (model prog w) A (eval e env) (fun v s' => v = .str (mkS y) t ∧ Keeps s s') E s :=
  rep_ok h2 (fun {env} => by cases h3; rfl) c2 (rep_ok h3 (fun {env} => by rw [h1]; rfl) c1 (h1 ▸ wpAny_Name (wpAny_loadName_local hk hl hn hm ⟨rfl, _, _, rfl, fun _ _ e => e⟩) hd))

theorem strs_get {X σ : List Addr} {h : Heap} : ∀ {xs : List V} {l : List (List Nat)} {ws : List Value}, strsOf xs = some l → VRs X σ h xs ws → ws.length = l.length ∧ ∀ (i : Nat) v, ws[i]? = some v → ∃ y t, l[i]? = some y ∧ v = .str (mkS y) t
  | [], l, ws, e, r => by cases r; exact (Option.some.inj e : [] = l) ▸ ⟨rfl, fun i v h => nomatch h⟩
  | x :: xs, l, ws, e, r => by
    cases r with | cons r1 r2 =>
    refine bindE e fun y hy e => mapE (G := fun l => (_ :: _ : List Value).length = l.length ∧ ∀ (i : Nat) v, (_ :: _ : List Value)[i]? = some v → ∃ y t, l[i]? = some y ∧ v = .str (mkS y) t) e fun l' e => ⟨congrArg (· + 1) (strs_get e r2).1, fun i v hv => ?_⟩
    cases i with
    | zero => exact (Mine.strE (G := fun x => VR X σ h x v → ∃ y' t, (y :: l')[0]? = some y' ∧ v = .str (mkS y') t) hy fun r1 => VR.strE (G := fun v => ∃ y' t, (y :: l')[0]? = some y' ∧ v = .str (mkS y') t) r1 fun t _ => ⟨y, t, rfl, rfl⟩) ((Option.some.inj hv : _ = v) ▸ r1)
    | succ i => exact (strs_get e r2).2 i v hv
end Mine
end

section
set_option Elab.async false
set_option linter.all false
set_option maxRecDepth 100000
namespace Mine
open PySem PySem.W PyProof.Rows PySem.Spec PySem.Calls

variable {C : Cx} {prog : Program} {w : World} {A : Around} {σ : List Addr} {H : Hp} {s : Shared} {E : Value → Shared → Prop}
variable {P : Prog} {n : Nat} {sc : Scope} {env : Env} {r : Rho}

theorem s_is : (Str.ofString "-") = mkS [45] := by decide +kernel
theorem bs_is : (Str.ofString "\\") = mkS [92] := by decide +kernel
theorem dbg_s : dbg (Str.ofString "s") := by unfold dbg; decide +kernel

structure GenOK (sc' : Scope) : Prop where
  co : sc'.isCoroutine = false
  cell : ∀ y ∈ sc'.names, y.2 ≠ .cell
  free : ∀ y ∈ sc'.names, y.2 ≠ .free
  l0 : sc'.names.lookup (nm ".0") = some .local
  ls : sc'.names.lookup (nm "s") = some .local
theorem okGen_of {sc' : Scope} (h : okGen sc' = true) : GenOK sc' :=
  andE h fun h h5 => andE h fun h h4 => andE h fun h h3 => andE h fun _ h2 =>
    ⟨notT h2, fun y hy e => andE (List.all_eq_true.mp h3 y hy) fun h _ => bne_iff_ne.mp h e, fun y hy e => andE (List.all_eq_true.mp h3 y hy) fun _ h => bne_iff_ne.mp h e, eq_of_beq h4, eq_of_beq h5⟩
def IsOf (l : List (List Nat)) (j : Nat) (u : Value) : Prop := ∃ y t, l[j]? = some y ∧ u = .str (mkS y) t
def IsAt (l : List (List Nat)) (k : Nat) (i : Nat) (v : Value) : Prop := ∃ j, (List.range k)[i]? = some j ∧ IsOf l j v
theorem jg_map {l : List (List Nat)} {k : Nat} {lt : List (Str × Tok)} (hlen : k = l.length) (h : ItemsOf (IsAt l k) (strValues lt).toArray k) : lt.map (·.1) = l.map mkS := by
  have h1 : lt.length = k := (by simp [strValues] : lt.length = (strValues lt).toArray.size).trans h.1
  refine List.ext_getElem? fun j => ?_
  by_cases hj : j < k
  · have hj' : j < lt.length := h1 ▸ hj
    obtain ⟨j2, hj2, y, t, hy, e⟩ := h.2 j (.str lt[j].1 lt[j].2) (by simp [strValues, List.getElem?_eq_getElem hj'])
    rw [List.getElem?_eq_getElem (by rw [List.length_range]; exact hj), List.getElem_range] at hj2
    rw [← Option.some.inj hj2] at hy
    rw [List.getElem?_map, List.getElem?_map, List.getElem?_eq_getElem hj', hy]
    injection e with e1 _
    exact congrArg some e1
  · rw [List.getElem?_eq_none (by rw [List.length_map, h1]; exact Nat.le_of_not_lt hj), List.getElem?_eq_none (by rw [List.length_map, ← hlen]; exact Nat.le_of_not_lt hj)]
theorem jg_end {l : List (List Nat)} {lt : List Str} (e : lt = l.map mkS) (hlim : (l.map (·.length)).sum + 1 * l.length ≤ lim) : JoinOk (mkS [45]) lt = true ∧ Txt.join (mkS [45]) lt = mkS (glue [45] l) := by
  rw [e]
  refine ⟨?_, (show Builtin.Str.glued _ _ = _ by rw [StrLaws.glued_eq_join, join_mk])⟩
  have hml : (l.map mkS).map (·.length) = l.map (·.length) := by
    rw [List.map_map]
    exact List.map_congr_left fun a _ => mkS_len a
  unfold JoinOk Builtin.Str.tooLong
  rw [StrLaws.joinTotal, hml, mkS_len, List.length_map, Bool.not_eq_true', decide_eq_false_iff_not, sizeLine_is]
  rw [lim_is] at hlim
  generalize (l.map (·.length)).sum = a at hlim ⊢
  generalize l.length = b at hlim ⊢
  simp only [List.length_cons, List.length_nil]
  (first | lia | omega)
theorem jg_val {X σ : List Addr} {h : Heap} {l : List (List Nat)} {t : Tok} (hlim : (l.map (·.length)).sum + 1 * l.length ≤ lim) : VR X σ h (.str (glue [45] l)) (.str (mkS (glue [45] l)) t) := .str _ _ (Nat.le_trans (glue_len [45] l) (Nat.le_trans (Nat.le_of_eq (congrArg (_ + ·) (Nat.mul_comm _ _))) (lim_le hlim)))
theorem join_lim {l : List (List Nat)} {xs : List V} {v : V} (hl : strsOf xs = some l) (hv : joinOf [45] xs = some v) : (l.map (·.length)).sum + 1 * l.length ≤ lim ∧ v = .str (glue [45] l) :=
  bindE hv fun l' hl' e => chkE e fun h e => by
    rw [Option.some.inj (hl.symm.trans hl')]
    exact ⟨h, (Option.some.inj e).symm⟩
/- what was there stays, but the table of code -/
theorem jg_step {mg : Str → Option Value} (F : CodeFacts C mg) (I : Inv C σ H s) {S5 s' : Shared} {wr : List Addr} {G : Array GenState → Array GenState → Prop} {ps : Array Value} (hm : Moved wr G S5 s') (hw : ∀ b o, s.heap.get? b = some o → b ∉ wr) (hk : ∀ b o, b ≠ 64 → s.heap.get? b = some o → S5.heap.get? b = some o) (ht : S5.heap.get? 64 = some (tabObj ps)) (hok : TriplesOk ps.toList) (hb : AllBare s'.gens) (ho : S5.os = s.os) (kk : Nat) : Step C σ s σ H { s' with toks := kk } := by
  have t6 : s'.heap.get? 64 = some (tabObj ps) := by
    obtain ⟨qs, hq, _⟩ := (F.soft _).mp I.soft
    exact hm.heap 64 _ (hw 64 _ hq) ht
  exact I.grow (fun b o e q => hm.heap b o (hw b o e) (hk b o (fun z => q (by rw [F.X, z]; exact List.mem_singleton.mpr rfl)) e)) (fun b hb => by rw [F.X, List.mem_singleton] at hb; subst hb; exact ⟨_, t6⟩) ((F.soft _).mpr ⟨ps, t6, hok⟩) hb (hm.os.trans ho)
theorem notin_two {h : Heap} {g i : Addr} (hi : h.get? i = none) (hg : h.objs.size ≤ g) : ∀ b o, h.get? b = some o → b ∉ [g, i] := fun b o e q =>
  (List.mem_cons.mp q).elim (fun q => Nat.lt_irrefl _ (Nat.lt_of_lt_of_le (q ▸ Heap.lt_size e) hg)) fun q => no (hi.symm.trans ((List.mem_singleton.mp q) ▸ e))
theorem chunks_at {xs : List V} {l : List (List Nat)} {i : Nat} {G : Prop} (V : EnvOK C σ s env r) (I : Inv C σ H s) (hr : r "chunks" = some (.ref i)) (hc : env.kindOf (nm "chunks") = some .local) (hx : hGet H i = some xs) (hl : strsOf xs = some l)
    (g : ∀ m0 pl vs n1, s.heap.Ns env.locals m0 → m0 (nm "chunks") = some (.ref pl) → s.heap.get? pl = some { cls := .type "list", data := .seq vs n1 } → pl ∉ C.X → vs.size = l.length → (∀ j u, vs[j]? = some u → IsOf l j u) → vs.size ≤ sizeLine → G) : G :=
  V.loc.elim fun m0 h => (h.2 _ _ hr hc).elim fun w0 h2 => VR.refE (G := fun w0 => m0 (nm "chunks") = some w0 → G) h2.2 (fun pl hp hw => (I.at_ hp hx).elim fun vs h3 => h3.elim fun n1 h3 => by
    have hs := strs_get hl h3.2.1
    refine g m0 pl vs n1 h.1 hw h3.1 (I.disj pl (List.mem_of_getElem? hp)) hs.1 (fun j u hu => hs.2 j u (by rw [Array.getElem?_toList]; exact hu)) ?_
    have h4 := h3.2.1.length
    have h5 := h3.2.2
    rw [lim2] at h5
    rw [sizeLine_is]
    exact Nat.le_trans (Nat.le_of_eq h4.symm) (Nat.le_trans h5 (by decide))) h2.1
theorem pass_all (k : Nat) : passing (fun _ => true) k 0 = List.range k := by unfold passing; simp
/- the generator, and the call on it -/
theorem gen_part {mg : Str → Option Value} (F : CodeFacts C mg) (nolim : ∀ h, Over C h → h.NoLimit) {elt o1 o2 : Expr} {p1 p2 p3 gp : Pos} {sc' : Scope} {i : Nat} {xs : List V} {l : List (List Nat)} {v : V} {t : Tok} (D : GenOK sc') (hk' : sc'.kind = .function) (e1 : o1 = .Name (nm "s") p1) (e2 : Rep (mkS [45]) o2 elt) (e3 : Rep (mkS [92]) o1 o2)
    (hcode : env.code = .ref 68) (hloc : env.kindOf (nm "chunks") = some .local) (V : EnvOK C σ s env r) (I : Inv C σ H s) (R : Room 2 A)
    (hr : r "chunks" = some (.ref i)) (hx : hGet H i = some xs) (hl : strsOf xs = some l) (hall : (l.all (fun s => !s.contains 92 && !s.contains 45)) = true) (hv : joinOf [45] xs = some v) :
    wpAny (model prog w) A (eval (.GeneratorExp elt [⟨.Name (nm "s") p2, .Name (nm "chunks") p3, [], 0⟩] sc' gp) env) (fun g s' => wpAny (model prog w) A (call (.builtin "str.join") [.str (mkS [45]) t, g]) (Ok C σ s H v) F0 s') F0 s := by
  refine chunks_at V I hr hloc hx hl fun m0 pl vs n1 hn0 hw0 g1 hpX hlen hget hsz => ?_
  rw [F.X, List.mem_singleton] at hpX
  refine wpAny_GeneratorExp_walksQ R.handled D.co (closureFor_none D.free) D.cell D.l0 D.ls hk' R.depth_lt ?_ (fun _ => rfl)
  refine wpAny_Name (wpAny_loadName_local V.kind hloc hn0 hw0 ?_) (by decide +kernel)
  refine wpAny_pyIter_list (items := vs) (isList_of g1) ?_
  have fI : s.heap.get? s.heap.objs.size = none := fresh_at _
  generalize hit : s.heap.objs.size = it at fI ⊢
  generalize hsB : ({ s with heap := s.heap.push { cls := .type "list_iterator", data := .fields #[.ref pl, .int 0 0] } } : Shared) = sB
  have hhB : sB.heap = s.heap.push { cls := .type "list_iterator", data := .fields #[.ref pl, .int 0 0] } := by rw [← hsB]
  have kB : ∀ b o, s.heap.get? b = some o → sB.heap.get? b = some o := fun b o e => by rw [hhB]; exact Heap.get?_push_of_some _ e
  have hoB : sB.os = s.os := by rw [← hsB]
  have SB := I.keeps (s' := sB) kB (by rw [← hsB]) hoB
  have gIB : sB.heap.get? it = some { cls := .type "list_iterator", data := .fields #[.ref pl, .int 0 0] } := by rw [hhB, ← hit]; exact Heap.get?_push_size _ rfl
  clear hhB hsB
  refine ⟨nolim _ SB.inv.over, ?_⟩
  refine wpAny_mono (gen_code_ok F hcode SB.inv.over SB.inv.soft) (fun code sC hC0 => hC0.elim fun hC hC0 => hC0.elim fun tC hC0 => ?_) fun _ _ h => h
  obtain ⟨hsC, hxC, ps', hP', htr'⟩ := hC0
  have SC' := soft_step F SB.inv (h' := hC) (tk := tC) hxC hP' htr'
  rw [← hsC] at SC'
  have kC : ∀ b o, b ≠ 64 → sB.heap.get? b = some o → sC.heap.get? b = some o := fun b o q e => by rw [hsC]; exact hxC b o q e
  have tC' : sC.heap.get? 64 = some (tabObj ps') := by rw [hsC]; exact hP'
  have hoC : sC.os = s.os := by rw [hsC]; exact hoB
  clear hsC hxC hP' hC0 SB hoB
  have h64 : it ≠ 64 := fun q => by
    obtain ⟨ps, hps, _⟩ := (F.soft _).mp I.soft
    rw [← q, fI] at hps; exact nomatch hps
  have gIC := kC _ _ h64 gIB
  have gPC := kC _ _ hpX (kB _ _ g1)
  have hne : pl ≠ it := fun q => nomatch (q ▸ g1).symm.trans fI
  have hcs : cStatics ∉ [it] := fun q => by
    obtain ⟨mc, ⟨o, _, _, hc, _⟩, _⟩ := nolim _ I.over
    rw [List.mem_singleton.mp q, fI] at hc; exact nomatch hc
  have hgs : s.heap.objs.size ≤ sC.heap.objs.size := by rw [hit]; exact Nat.le_of_lt (Heap.lt_size gIC)
  have kS : ∀ b o, b ≠ 64 → s.heap.get? b = some o → sC.heap.get? b = some o := fun b o q e => kC b o q (kB b o e)
  clear kC kB gIB g1
  have hN := nolim _ SC'.inv.over
  have hB := SC'.inv.bare
  obtain ⟨bm, ob, hbm, hne0, _, _, hbo, hcls, hdict, hdata⟩ := F.bm _ SC'.inv.over
  refine wpAny_builtinsFor (by rw [V.globals]; exact F.ns _ SC'.inv.over) hbm hne0 hbo hcls hdict hdata ?_
  clear SC' hbm hbo hcls hdict hdata hne0
  refine ⟨it, [it, pl], [it], vs.size, fun j u => vs[j]? = some u, fun j h => h.IsListIter it pl j ∧ h.IsList pl vs, fun _ => true, IsOf l, rfl,
    fun A' hA' => Walks.list hA' _ _ hne vs, ⟨⟨_, gIC, rfl, rfl⟩, isList_of gPC⟩, ?_, hN, hcs, ?_, ?_⟩
  · intro b hb
    exact (List.mem_cons.mp hb).elim (fun e => e ▸ Heap.lt_size gIC) fun hb => (List.mem_singleton.mp hb) ▸ Heap.lt_size gPC
  · intro href _
    refine ⟨fun A' E' j u s2 m2 _ _ _ _ _ => wpAny_tests_nil ⟨rfl, _, _, rfl, fun _ _ e => e⟩, fun A' E' j u s2 m2 _ hP _ hn hm _ => (hget j u hP).elim fun y hy => hy.elim fun t hy => ?_⟩
    have hyc := List.all_eq_true.mp hall y (List.mem_of_getElem? hy.1)
    exact andE hyc fun c1 c2 => wpAny_mono (elt_ok (m := m2) hk' D.ls dbg_s hn (hm.trans (congrArg some hy.2)) e1 e2 e3 (notT c1) (notT c2)) (fun y' s3 h => ⟨⟨y, t, hy.1, h.1⟩, h.2⟩) fun _ _ h => h
  · intro a h5 tk gs hbare hlt hsz5 hk5 W hst
    rw [pass_all, List.length_range] at W
    refine SC.joinGen (P := IsAt l vs.size) W.in4_2 (fun j s hs => hs.1.typeIs) hst ?_ List.mem_cons_self (fun j u hu => ?_) (fun s' lt hm hacc => ?_) hsz
    · intro b hb
      show b < h5.objs.size
      rw [hsz5]
      exact (List.mem_cons.mp hb).elim (fun e => e ▸ Nat.lt_succ_self _) fun hb => (List.mem_cons.mp hb).elim (fun e => e ▸ Nat.lt_succ_of_lt hlt) fun hb => Nat.lt_succ_of_lt (Nat.lt_trans (List.mem_range.mp hb) hlt)
    · exact hu.elim fun j' h => h.2.elim fun y h => h.elim fun t h => ⟨_, t, h.2⟩
    · have hj := join_lim hl hv
      have he := jg_end (jg_map hlen hacc) hj.1
      rw [he.2, hj.2]
      exact ⟨he.1, fun t' kk => ⟨σ, jg_step F I hm (notin_two fI hgs) (fun b o q e => hk5 b o (kS b o q e)) (hk5 64 _ tC') htr' (AllBare.movedS (s := { heap := h5, gens := sC.gens.push gs, drawn := sC.drawn, toks := tk, os := sC.os }) (hB.push hbare) hm) hoC kk, jg_val hj.1⟩⟩
theorem joinGen_core {v : V} {k : Nat} {p ap cp : Pos} {gx : Expr} (hs : starEach [gx] env = [(false, eval gx env)]) (hln : (ap.endLine == cp.line) = true)
    (g : ∀ {t s1}, EnvOK C σ s1 env r → Inv C σ H s1 → wpAny (model prog w) A (eval gx env) (fun g s' => wpAny (model prog w) A (call (.builtin "str.join") [.str (mkS [45]) t, g]) (Ok C σ s1 H v) F0 s') F0 s1) (V : EnvOK C σ s env r) (I : Inv C σ H s) :
    wpAny (model prog w) A (eval (.Call (.Attribute (.Constant (.str (mkS [45])) k p) (nm "join") ap) [gx] [] cp) env) (Ok C σ s H v) F0 s := by
  have hbase : attributeBase (.Constant (.str (mkS [45])) k p) (nm "join") env (eval (.Constant (.str (mkS [45])) k p) env) = eval (.Constant (.str (mkS [45])) k p) env := rfl
  refine wpAny_Call_method_lateS hbase (by rw [hs]; rfl) hln (wpAny_Constant_str ?_)
  rw [hs]
  refine ⟨"str", "str.join", PySem.F.plainAttrs_str, PySem.F.slot_str_join, PySem.F.type_str_join, typeIs_str _ _ _, (fun a h => nomatch h), ?_⟩
  have S := I.keeps (s' := { s with toks := s.toks + 1 }) (fun _ _ e => e) rfl rfl
  exact Calls.callWith_builtin rfl (evalArgs_plain (spliced_cons (wpAny_mono (g (S.env V) S.inv) (fun g s' h => Calls.spliced_nil (wpAny_mono h (fun _ _ h => h.elim fun σ' h => ⟨σ', S.trans h.1, h.2⟩) fun _ _ h => h)) fun _ _ h => h)))
theorem joinGen_ok {mg : Str → Option Value} (F : CodeFacts C mg) (nolim : ∀ h, Over C h → h.NoLimit) {x : Expr} {i : Nat} {xs : List V} {l : List (List Nat)} {v : V} (hj : isJG sc x) (K : KindOK sc env) (V : EnvOK C σ s env r) (I : Inv C σ H s) (R : Room 2 A)
    (hr : r "chunks" = some (.ref i)) (hx : hGet H i = some xs) (hl : strsOf xs = some l) (hall : (l.all (fun s => !s.contains 92 && !s.contains 45)) = true) (hv : joinOf [45] xs = some v) : wpAny (model prog w) A (eval x env) (Ok C σ s H v) F0 s := by
  cases hj with | @mk d k p m ap elt s2 p2 ch p3 sc' gp cp o2 p1 o1 he e1 e2 e3 =>
  refine andE he fun hd he => andE he fun hm he => andE he fun hch he => andE he fun hs2 he => andE he fun hlc he => andE he fun hln he => andE he fun hk he => andE he fun hok hgl => ?_
  rw [eq_of_beq hd, eq_of_beq hm, eq_of_beq hs2, eq_of_beq hch]
  rw [eq_of_beq hch] at hlc
  exact s_is ▸ joinGen_core rfl hln (fun V I => gen_part F nolim (okGen_of hok) (eq_of_beq hk) e1 (s_is ▸ (show Rep (Str.ofString "-") o2 elt from e2)) (bs_is ▸ (show Rep (Str.ofString "\\") o1 o2 from e3)) (K.code hgl) (K.loc _ hlc) V I R hr hx hl hall hv) V I
end Mine
end

section
set_option Elab.async false
set_option linter.all false
set_option maxRecDepth 100000
namespace Mine
open PySem PySem.W PySem.W.X PyProof.Rows PySem.Spec PySem.Calls

variable {prog : Program} {w : World} {A : Around} {σ : List Addr} {H : Hp} {s : Shared} {E : Value → Shared → Prop}
variable {P : Prog} {n : Nat} {sc : Scope} {env : Env} {r : Rho} {h : Heap} {t : KT}

/- the base, from the heap at the law's call -/
noncomputable def cx (h : Heap) : Cx where
  B := h
  X := [64]
  Soft := fun h => ∃ ps, h.get? 64 = some (tabObj ps) ∧ TriplesOk ps.toList
  stable := fun a b hk ⟨ps, h1, h2⟩ => ⟨ps, hk 64 (List.mem_singleton.mpr rfl) _ h1, h2⟩

noncomputable def objAt (t : KT) (a : Addr) : Obj := (t.get a).getD { cls := .none }
noncomputable def fdAt (t : KT) (a : Addr) : FuncData := match (objAt t a).data with | .func fd => fd | _ => default
noncomputable def stAt (t : KT) (a : Addr) : List Stmt := match (fdAt t a).body with | .stmts b => b | _ => []
noncomputable def fldAt (t : KT) (a : Addr) : Array Value := match (objAt t a).data with | .fields vs => vs | _ => #[]
noncomputable def dicAt (t : KT) (a : Addr) : Array DictEntry := match (objAt t a).data with | .dict es _ => es | _ => #[]

theorem get_at (ZH : KT.Holds h 1 0 t) {a : Addr} (e : (t.get a).isSome = true) : h.get? a = some (objAt t a) := by
  obtain ⟨o, ho⟩ := Option.isSome_iff_exists.mp e
  rw [kt_at ZH ho]
  simp [objAt, ho]
theorem not64 {a : Addr} (ha : a ≠ 64) : a ∉ (cx h).X := fun q => ha (List.mem_singleton.mp q)
theorem over_at {h' : Heap} (ZH : KT.Holds h 1 0 t) {a : Addr} (e : (t.get a).isSome = true) (ha : a ≠ 64) (O : Over (cx h) h') : h'.get? a = some (objAt t a) := O a _ (get_at ZH e) (not64 ha)

noncomputable def isDic (o : Obj) : Bool := match o.data with | .dict es _ => es.all (fun e => (match e.key with | .str _ _ => true | _ => false)) | _ => false
theorem ns_at {h' : Heap} (ZH : KT.Holds h 1 0 t) {a : Addr} (e : ((t.get a).isSome && isDic (objAt t a) && a != 64) = true) (O : Over (cx h) h') : h'.Ns a (nsFind (dicAt t a)) := by
  simp only [Bool.and_eq_true, bne_iff_ne] at e
  obtain ⟨⟨e1, e2⟩, e3⟩ := e
  have g := over_at ZH e1 e3 O
  unfold isDic at e2
  unfold dicAt
  split at e2
  · rename_i es k hd
    refine ⟨_, es, k, g, hd, fun e he => ?_, fun x => rfl⟩
    have := Array.all_eq_true_iff_forall_mem.mp e2 e he
    split at this
    · rename_i x y hx; exact ⟨x, y, hx⟩
    · cases this
  · cases e2

noncomputable def strIs (vs : Array Value) (x : Str) : Bool := match vs[1]? with | some v => (match v with | .str q _ => q == x | _ => false) | none => false
noncomputable def funIs (d : Data) : Bool := match d with | .func _ => true | _ => false
noncomputable def fldIs (d : Data) : Bool := match d with | .fields _ => true | _ => false
noncomputable def stmtsIs (d : FuncBody) : Bool := match d with | .stmts _ => true | _ => false
noncomputable def refIs (v : Value) (k : Addr → Bool) : Bool := match v with | .ref c => k c | _ => false
noncomputable def fnChk (t : KT) (a : Addr) (ps : List String) : Bool :=
  (t.get a).isSome && a != 64 && funIs (objAt t a).data && !(fdAt t a).scope.isCoroutine && !(fdAt t a).scope.isGenerator && (fdAt t a).scope.kind == .function &&
  stmtsIs (fdAt t a).body && (fdAt t a).closure.isEmpty && (fdAt t a).globals == mainGlobals && (fdAt t a).builtins == builtinsNs &&
  refIs (fdAt t a).code (fun c => c != 64 && (t.get c).isSome && fldIs (objAt t c).data && strIs (fldAt t c) (fdAt t a).qualname) &&
  (ps.all fun x => (fdAt t a).scope.names.lookup (nm x) == some .local || (fdAt t a).scope.names.lookup (nm x) == some .cell) && decide ((cellsFrom 0 (fdAt t a).scope.names []).map (·.1)).Nodup && ((fdAt t a).scope.names.all fun x => x.2 != .free) &&
  (!isGlob (fdAt t a).scope (nm "_twin_re_1") || (fdAt t a).code == .ref 68)

theorem fun_at {a : Addr} (h : funIs (objAt t a).data = true) : (objAt t a).data = .func (fdAt t a) := by
  unfold fdAt
  cases hd : (objAt t a).data <;> rw [hd] at h <;> first | rfl | exact noB h
theorem fld_at {a : Addr} (h : fldIs (objAt t a).data = true) : (objAt t a).data = .fields (fldAt t a) := by
  unfold fldAt
  cases hd : (objAt t a).data <;> rw [hd] at h <;> first | rfl | exact noB h
theorem stmts_at {a : Addr} (h : stmtsIs (fdAt t a).body = true) : (fdAt t a).body = .stmts (stAt t a) := by
  unfold stAt
  cases hd : (fdAt t a).body <;> rw [hd] at h <;> first | rfl | exact noB h
theorem refIsE {v : Value} {k : Addr → Bool} {G : Prop} (h : refIs v k = true) (g : ∀ c, v = .ref c → k c = true → G) : G := by
  cases v with
  | ref c => exact g c rfl h
  | _ => exact noB h
theorem strIsE {vs : Array Value} {x : Str} (h : strIs vs x = true) : ∃ t, vs[1]? = some (.str x t) := by
  unfold strIs at h
  cases hv : vs[1]? with
  | none => rw [hv] at h; exact noB h
  | some v =>
    rw [hv] at h
    cases v with
    | str q t => exact ⟨t, (eq_of_beq h : q = x) ▸ rfl⟩
    | _ => exact noB h

inductive FnParts (h : Heap) (a : Addr) (ps : List String) (fd : FuncData) (b : List Stmt) : Prop
  | mk {o c co vs t} : FnD (cx h) a ps o fd b c co vs t → FnParts h a ps fd b
theorem parts_of (ZH : KT.Holds h 1 0 t) {a : Addr} {ps : List String} (e : fnChk t a ps = true) (hb : ∀ ws : List Value, ws.length = ps.length → bindArgs (fdAt t a) ⟨ws, []⟩ = pure ((ps.map nm).zip ws)) : FnParts h a ps (fdAt t a) (stAt t a) :=
  andE e fun e e15 => andE e fun e e14 => andE e fun e e13 => andE e fun e e12 => andE e fun e e11 => andE e fun e e10 => andE e fun e e9 => andE e fun e e8 => andE e fun e e7 => andE e fun e e6 => andE e fun e e5 => andE e fun e e4 => andE e fun e e3 => andE e fun e1 e2 =>
  refIsE e11 fun c hc k => andE k fun k k4 => andE k fun k k3 => andE k fun k1 k2 => (strIsE k4).elim fun tq hq =>
  .mk ⟨get_at ZH e1, not64 (bne_iff_ne.mp e2), fun_at e3, notT e4, notT e5, eq_of_beq e6, stmts_at e7, List.isEmpty_iff.mp e8, eq_of_beq e9, eq_of_beq e10, hc, get_at ZH k2, not64 (bne_iff_ne.mp k1), fld_at k3, hq, hb,
    fun x hx => ((Bool.or_eq_true _ _).mp (List.all_eq_true.mp e12 x hx)).imp eq_of_beq eq_of_beq, of_decide_eq_true e13, fun x hx => bne_iff_ne.mp (List.all_eq_true.mp e14 (x, .free) (mem_of_lookup hx)) rfl, fun hg => by rw [hg] at e15; exact eq_of_beq e15⟩

theorem fnAt_of (ZH : KT.Holds h 1 0 t) {a : Addr} {ps : List String} {body : List S} (e : fnChk t a ps = true) (hb : ∀ ws : List Value, ws.length = ps.length → bindArgs (fdAt t a) ⟨ws, []⟩ = pure ((ps.map nm).zip ws)) (hc : cSs 60 (fdAt t a).scope (stAt t a) = some body) : FnAt (cx h) a ps body :=
  (parts_of ZH e hb).casesOn fun D => ⟨D, hc⟩

theorem bind1 {fd : FuncData} {p : String} (h : ∀ v, bindArgs fd ⟨[v], []⟩ = pure [(nm p, v)]) : ∀ ws : List Value, ws.length = [p].length → bindArgs fd ⟨ws, []⟩ = pure (([p].map nm).zip ws)
  | [v], _ => h v
theorem bind2 {fd : FuncData} {p q : String} (h : ∀ u v, bindArgs fd ⟨[u, v], []⟩ = pure [(nm p, u), (nm q, v)]) : ∀ ws : List Value, ws.length = [p, q].length → bindArgs fd ⟨ws, []⟩ = pure (([p, q].map nm).zip ws)
  | [u, v], _ => h u v
theorem bind3 {fd : FuncData} {p q r : String} (h : ∀ u v w, bindArgs fd ⟨[u, v, w], []⟩ = pure [(nm p, u), (nm q, v), (nm r, w)]) : ∀ ws : List Value, ws.length = [p, q, r].length → bindArgs fd ⟨ws, []⟩ = pure (([p, q, r].map nm).zip ws)
  | [u, v, w], _ => h u v w

/- globals -/
theorem load_own (ZH : KT.Holds h 1 0 t) (d3 : ((t.get mainGlobals).isSome && isDic (objAt t mainGlobals) && mainGlobals != 64) = true) {f : String} {fv : Value} (e : nsFind (dicAt t mainGlobals) (nm f) = some fv) : GLoad (cx h) prog w f fv := by
  intro A env s Q O hg hb hq
  unfold loadGlobal
  rw [hg]
  refine wpAny_bind (wpAny_nsGet (ns_at ZH d3 O) ?_)
  rw [e]
  exact wpAny_pure hq
theorem load_blt (ZH : KT.Holds h 1 0 t) (d3 : ((t.get mainGlobals).isSome && isDic (objAt t mainGlobals) && mainGlobals != 64) = true) (d0 : ((t.get builtinsNs).isSome && isDic (objAt t builtinsNs) && builtinsNs != 64) = true) {f : String} {fv : Value}
    (e : nsFind (dicAt t mainGlobals) (nm f) = none) (e2 : nsFind (dicAt t builtinsNs) (nm f) = some fv) : GLoad (cx h) prog w f fv := by
  intro A env s Q O hg hb hq
  exact Calls.loadGlobal_builtin (by rw [hg]; exact ns_at ZH d3 O) e (by rw [hb]; exact ns_at ZH d0 O) e2 hq
end Mine
end

section
set_option Elab.async false
set_option linter.all false
set_option maxRecDepth 100000
namespace Mine
open PySem PySem.W PySem.W.X PyProof.Rows PySem.Spec PySem.Calls

variable {prog : Program} {w : World} {A : Around} {σ : List Addr} {H : Hp} {s : Shared} {E : Value → Shared → Prop}
variable {P : Prog} {n : Nat} {sc : Scope} {env : Env} {r : Rho} {h : Heap} {t : KT} {K : Frag}

/- the top's text without the one object that may be turned -/
noncomputable def cut (K : Frag) : Frag := K.filter (fun p => p.1 != 64)
theorem cut_lookup : ∀ {K : Frag} {a : Addr} {o : Obj}, (cut K).lookup a = some o → K.lookup a = some o ∧ a ≠ 64
  | [], _, _, h => by cases h
  | (b, ob) :: K, a, o, h => by
    unfold cut at h
    rw [List.filter_cons] at h
    rw [List.lookup_cons]
    by_cases hb : b = 64
    · subst hb
      simp only [bne_self_eq_false, Bool.false_eq_true, if_false] at h
      obtain ⟨h1, h2⟩ := cut_lookup (K := K) h
      have : (a == 64) = false := by simpa using h2
      rw [this]
      exact ⟨h1, h2⟩
    · have hb' : (b != 64) = true := by simpa using hb
      simp only [hb', if_true] at h
      rw [List.lookup_cons] at h
      cases hab : a == b
      · rw [hab] at h
        obtain ⟨h1, h2⟩ := cut_lookup (K := K) h
        exact ⟨h1, h2⟩
      · rw [hab] at h
        have : a = b := by simpa using hab
        exact ⟨h, this ▸ hb⟩
theorem cut_over (X : K.In h) {h' : Heap} (O : Over (cx h) h') : (cut K).In h' := fun a o e => by
  obtain ⟨h1, h2⟩ := cut_lookup e
  exact O a o (X a o h1) (not64 h2)

theorem nolim_of (ZH : KT.Holds h 1 0 t) (d2 : ((t.get cStatics).isSome && isDic (objAt t cStatics) && cStatics != 64) = true) (e : nsFind (dicAt t cStatics) "sys.recursionlimit" = none) (h' : Heap) (O : Over (cx h) h') : h'.NoLimit :=
  ⟨_, ns_at ZH d2 O, e⟩

theorem gok_own (ZH : KT.Holds h 1 0 t) (X : K.In h) (d3 : ((t.get mainGlobals).isSome && isDic (objAt t mainGlobals) && mainGlobals != 64) = true) {f : String} {a : Addr} (e : nsFind (dicAt t mainGlobals) (nm f) = some (.ref a)) (k : keepIn (cut K) (.ref a) = true) : GOK (cx h) prog w f (.ref a) :=
  ⟨load_own ZH d3 e, fun h' O => keeps_K k h' (cut_over X O)⟩
theorem gok_blt (ZH : KT.Holds h 1 0 t) (d3 : ((t.get mainGlobals).isSome && isDic (objAt t mainGlobals) && mainGlobals != 64) = true) (d0 : ((t.get builtinsNs).isSome && isDic (objAt t builtinsNs) && builtinsNs != 64) = true) {f q : String} 
    (e : nsFind (dicAt t mainGlobals) (nm f) = none) (e2 : nsFind (dicAt t builtinsNs) (nm f) = some (.builtin q)) : GOK (cx h) prog w f (.builtin q) :=
  ⟨load_blt ZH d3 d0 e e2, fun _ _ => ⟨.machine, .inr (.inl rfl), Looks.of_pure rfl⟩⟩
theorem gok_typ (ZH : KT.Holds h 1 0 t) (d3 : ((t.get mainGlobals).isSome && isDic (objAt t mainGlobals) && mainGlobals != 64) = true) (d0 : ((t.get builtinsNs).isSome && isDic (objAt t builtinsNs) && builtinsNs != 64) = true) {f q : String} 
    (e : nsFind (dicAt t mainGlobals) (nm f) = none) (e2 : nsFind (dicAt t builtinsNs) (nm f) = some (.type q)) : GOK (cx h) prog w f (.type q) :=
  ⟨load_blt ZH d3 d0 e e2, fun _ _ => ⟨.machine, .inr (.inl rfl), Looks.of_pure rfl⟩⟩

end Mine
end

section
set_option Elab.async false
set_option linter.all false
set_option maxRecDepth 100000
namespace Mine
open PySem PySem.W PySem.W.X PyProof.Rows PySem.Spec PySem.Calls

variable {prog : Program} {w : World} {A : Around} {σ : List Addr} {H : Hp} {s : Shared} {E : Value → Shared → Prop}
variable {P : Prog} {n : Nat} {sc : Scope} {env : Env} {r : Rho} {h : Heap} {t : KT} {K : Frag}

noncomputable def escShape (b : List Stmt) : Prop := ∃ (p1 p2 p3 p4 p5 p6 p7 p8 p9 p10 : Pos) (els rest : List Stmt), (p7.endLine == p9.line) = true ∧
  b = .If (.Call (.Name (nm "isinstance") p1) [.Name (nm "pattern") p2, .Name (nm "str") p3] [] p4) [.Return (some (.Call (.Attribute (.Name (nm "pattern") p6) (nm "translate") p7) [.Name (nm "_special_chars_map") p8] [] p9)) p10] els p5 :: rest

theorem esc_ok (ZH : KT.Holds h 1 0 t) (e : fnChk t 62 ["pattern"] = true) (hb : ∀ v, bindArgs (fdAt t 62) ⟨[v], []⟩ = pure [(nm "pattern", v)]) (hs : escShape (stAt t 62))
    (k0 : (fdAt t 62).scope.names.lookup (nm "pattern") = some .local) (k1 : isGlob (fdAt t 62).scope (nm "isinstance") = true) (k2 : isGlob (fdAt t 62).scope (nm "str") = true) (k3 : isGlob (fdAt t 62).scope (nm "_special_chars_map") = true)
    (g1 : GLoad (cx h) prog w "isinstance" (.builtin "isinstance")) (g2 : GLoad (cx h) prog w "str" (.type "str")) (g3 : GLoad (cx h) prog w "_special_chars_map" (.ref 52)) (D' : SpecialMap (cx h) prog w 52) (hlim : ∀ h', Over (cx h) h' → h'.NoLimit)
    {c : Nat} {l : List Nat} (hl : (c = 97 ∧ l = [97]) ∨ (c = 47 ∧ l = [47]) ∨ (c = 46 ∧ l = [92, 46])) {ws : List Value} (I : Inv (cx h) σ H s) (R : Room 3 A) (hr : VRs (cx h).X σ s.heap [.str [c]] ws) :
    wpAny (model prog w) A (call (.ref 62) ws) (Ok (cx h) σ s H (.str l)) F0 s := by
  refine (parts_of ZH e (bind1 hb)).casesOn fun D => call_body (vs := [.str [c]]) (n := 2) D hlim rfl I hr R fun env s' V Kk I' => ?_
  obtain ⟨p1, p2, p3, p4, p5, p6, p7, p8, p9, p10, els, rest, hline, hb'⟩ := hs
  rw [hb']
  exact escape_body hl g1 g2 g3 D' (Kk.loc _ (beq_iff_eq.mpr k0)) (Kk.glo _ k1) (Kk.glo _ k2) (Kk.glo _ k3) hline V rfl I' R.deeper.pred

end Mine
end

section
set_option Elab.async false
set_option linter.all false
set_option maxRecDepth 100000
namespace Mine
open PySem PySem.W PySem.W.X PyProof.Rows PySem.Spec PySem.Calls

variable {prog : Program} {w : World} {A : Around} {σ : List Addr} {H : Hp} {s : Shared} {E : Value → Shared → Prop}
variable {P : Prog} {n : Nat} {sc : Scope} {env : Env} {r : Rho} {h : Heap} {t : KT} {K : Frag}

noncomputable def intKeyed (es : List DictEntry) : Bool := es.all fun e => match e.key with | .int k _ => e.hash == hashInt k | _ => false
noncomputable def strOpt (v : Option Value) (x : Str) : Bool := match v with | some (.str y _) => y == x | _ => false
noncomputable def mapShape (t : KT) : Prop := (t.get 52).isSome = true ∧ (objAt t 52).cls = .type "dict" ∧ (objAt t 52).dict = none ∧ (objAt t 52).slots = #[] ∧ ∃ es k, (objAt t 52).data = .dict es k ∧ intKeyed es.toList = true ∧
  findBy Value.isInt es 97 = none ∧ findBy Value.isInt es 47 = none ∧ strOpt (findBy Value.isInt es 46) (mkS [92, 46]) = true

theorem special_of (ZH : KT.Holds h 1 0 t) (m : mapShape t) : SpecialMap (cx h) prog w 52 := by
  obtain ⟨m0, m1, m2, m3, es, k, m4, m5, m6, m7, m8⟩ := m
  refine ⟨by decide, fun h' O => ⟨findBy Value.isInt es, ⟨_, es, k, over_at ZH m0 (by decide) O, ⟨m1, m2, m3⟩, m4, fun e he => ?_, fun _ => rfl⟩, m6, m7, ?_⟩⟩
  · have := List.all_eq_true.mp m5 e (Array.mem_toList_iff.mpr he)
    split at this
    · rename_i i u hk
      refine ⟨i, ?_, eq_of_beq this⟩
      rw [hk]
      show Value.isInt i (.int i u) = true
      simp [Value.isInt]
    · cases this
  · unfold strOpt at m8
    split at m8
    · rename_i y u hy
      exact ⟨u, by rw [hy, eq_of_beq m8]⟩
    · cases m8

noncomputable def patShape (t : KT) : Prop := (t.get 43).isSome = true ∧ (t.get 42).isSome = true ∧ ∃ p0 p1 t2 t6 its k, objAt t 43 = { cls := .type "re.Pattern", data := .fields #[p0, p1, .int 1 t2, .none, .none, .ref 42, .int 0 t6] } ∧ objAt t 42 = { cls := .type "tuple", data := .seq its k } ∧ (its.map Builtin.Re.reRawOf).map (·.toNat) = reCode
theorem pat_of (ZH : KT.Holds h 1 0 t) (m : patShape t) (h' : Heap) (O : Over (cx h) h') : PatAt h' 43 := by
  obtain ⟨m0, m1, p0, p1, t2, t6, its, k, m2, m3, m4⟩ := m
  exact ⟨p0, p1, t2, t6, 42, its, k, by rw [over_at ZH m0 (by decide) O, m2], by rw [over_at ZH m1 (by decide) O, m3], m4⟩

noncomputable def bltShape (t : KT) (bm : Addr) : Prop := nsFind (dicAt t mainGlobals) "__builtins__" = some (.ref bm) ∧ bm ≠ builtinsNs ∧ bm ≠ mainGlobals ∧ bm ≠ 64 ∧ (t.get bm).isSome = true ∧ (objAt t bm).cls = .type "module" ∧ (objAt t bm).dict = some builtinsNs ∧ (objAt t bm).data = .plain
theorem code_of (ZH : KT.Holds h 1 0 t) (X : K.In h) (d3 : ((t.get mainGlobals).isSome && isDic (objAt t mainGlobals) && mainGlobals != 64) = true) (c : codeHdIn (cut K) 68 64 = true) {bm : Addr} (b : bltShape t bm) : CodeFacts (cx h) (nsFind (dicAt t mainGlobals)) := by
  obtain ⟨b1, b2, b3, b4, b5, b6, b7, b8⟩ := b
  exact ⟨rfl, fun _ => Iff.rfl, fun h' O => codeHd_of_K (cut_over X O) c, fun h' O => ns_at ZH d3 O, fun h' O => ⟨bm, _, b1, b2, b3, b4, over_at ZH b5 b4 O, b6, b7, b8⟩⟩

theorem lookup_mem {α : Type} : ∀ {l : List (String × α)} {x : String} {c : α}, l.lookup x = some c → (x, c) ∈ l
  | [], _, _, h => by cases h
  | (k, v) :: r, x, c, h => by
    rw [List.lookup_cons] at h
    split at h
    · rename_i hk
      cases h
      rw [eq_of_beq hk]
      exact List.mem_cons_self ..
    · exact List.mem_cons_of_mem _ (lookup_mem h)
/- everything together -/
abbrev Table := List (String × Addr × List String × List S)
noncomputable def progOf (T : Table) : Prog := fun f => (List.lookup f T).map (·.2)

@[elab_as_elim] theorem pGlobE {G : String → V → Hp → Prop} {f : String} {args : List V} {v : V} {H' : Hp} (e : pGlob f args H = some (v, H')) (g1 : gLen args H = some (v, H') → G "len" v H') (g2 : gSum args H = some (v, H') → G "sum" v H')
    (g3 : args.isEmpty = true → G "object" (.ref H.length) (H ++ [.obj false])) (g4 : args.isEmpty = true → G "HTTPPasswordMgr" (.mgr H.length) (H ++ [.obj true])) (g5 : gEsc args H = some (v, H') → G "escape" v H') : G f v H' :=
  ite2 (c := f = "len") e (fun h e => h ▸ g1 e) fun _ e => ite2 (c := f = "sum") e (fun h e => h ▸ g2 e) fun _ e => ite2 (c := f = "object") e (fun h e => iteP e fun he e => h ▸ someR (G := G "object") e (g3 he)) fun _ e => ite2 (c := f = "HTTPPasswordMgr") e (fun h e => iteP e fun he e => h ▸ someR (G := G "HTTPPasswordMgr") e (g4 he)) fun _ e => iteP (c := f = "escape") e fun h e => h ▸ g5 e

structure TopOK (h : Heap) (t : KT) (K : Frag) (prog : Program) (w : World) (T : Table) : Prop where
  ZH : KT.Holds h 1 0 t
  X : K.In h
  d3 : ((t.get mainGlobals).isSome && isDic (objAt t mainGlobals) && mainGlobals != 64) = true
  d0 : ((t.get builtinsNs).isSome && isDic (objAt t builtinsNs) && builtinsNs != 64) = true
  d2 : ((t.get cStatics).isSome && isDic (objAt t cStatics) && cStatics != 64) = true
  st : nsFind (dicAt t cStatics) "sys.recursionlimit" = none
  fns : ∀ x ∈ T, (x.1 ≠ "is_suburi" → nsFind (dicAt t mainGlobals) (nm x.1) = some (.ref x.2.1) ∧ keepIn (cut K) (.ref x.2.1) = true) ∧ FnAt (cx h) x.2.1 x.2.2.1 x.2.2.2
  sub : ∀ x ∈ T, x.1 = "is_suburi" → x.2.1 = 119
  blt : ∀ f ∈ ["len", "sum", "range", "object", "isinstance", "str"], nsFind (dicAt t mainGlobals) (nm f) = none
  b1 : nsFind (dicAt t builtinsNs) "len" = some (.builtin "len")
  b2 : nsFind (dicAt t builtinsNs) "sum" = some (.builtin "sum")
  b3 : nsFind (dicAt t builtinsNs) "range" = some (.type "range")
  b4 : nsFind (dicAt t builtinsNs) "object" = some (.type "object")
  b5 : nsFind (dicAt t builtinsNs) "isinstance" = some (.builtin "isinstance")
  b6 : nsFind (dicAt t builtinsNs) "str" = some (.type "str")
  g1 : nsFind (dicAt t mainGlobals) "HTTPPasswordMgr" = some (.ref 122)
  g2 : nsFind (dicAt t mainGlobals) "escape" = some (.ref 62)
  g3 : nsFind (dicAt t mainGlobals) "_special_chars_map" = some (.ref 52)
  g4 : nsFind (dicAt t mainGlobals) "_twin_re_1" = some (.ref 43)
  k1 : keepIn (cut K) (.ref 122) = true
  k2 : keepIn (cut K) (.ref 62) = true
  e1 : fnChk t 62 ["pattern"] = true
  e2 : ∀ v, bindArgs (fdAt t 62) ⟨[v], []⟩ = pure [(nm "pattern", v)]
  e3 : escShape (stAt t 62)
  e4 : (fdAt t 62).scope.names.lookup (nm "pattern") = some .local
  e5 : isGlob (fdAt t 62).scope (nm "isinstance") = true
  e6 : isGlob (fdAt t 62).scope (nm "str") = true
  e7 : isGlob (fdAt t 62).scope (nm "_special_chars_map") = true
  mp : mapShape t
  pt : patShape t
  ch : codeHdIn (cut K) 68 64 = true
  bm : ∃ bm, bltShape t bm
  mgr : MgrFacts (cx h) prog w (cut K) 90
  sb : SubFacts (cx h) (cut K) 119

@[elab_as_elim] theorem nilV {X σ : List Addr} {h : Heap} {G : List Value → Prop} {args : List V} {ws : List Value} (e : args.isEmpty = true) (r : VRs X σ h args ws) (g : G []) : G ws := by
  cases r with
  | nil => exact g
  | cons _ _ => exact noB e
noncomputable def CallG (C : Cx) (prog : Program) (w : World) (fv : Value) (args : List V) (H : Hp) (v : V) (H' : Hp) : Prop := ∀ {A σ s ws}, Room 3 A → Inv C σ H s → VRs C.X σ s.heap args ws → wpAny (model prog w) A (call fv ws) (Ok C σ s H' v) F0 s
theorem len_call {args : List V} {v : V} {H' : Hp} {C : Cx} (e : gLen args H = some (v, H')) : CallG C prog w (.builtin "len") args H v H' :=
  bindE e fun x hx e => oneE (G := fun args => CallG C prog w (.builtin "len") args H v H') hx (by
    cases x with
    | str l => exact someR (G := CallG C prog w (.builtin "len") [.str l] H) e fun R I hr => one_vr (G := fun ws => wpAny (model prog w) _ (call (.builtin "len") ws) _ F0 _) hr fun y r => len_str_ok I r
    | ref a => exact mapR (G := CallG C prog w (.builtin "len") [.ref a] H) e fun xs hx => (fun R I hr => one_vr (G := fun ws => wpAny (model prog w) _ (call (.builtin "len") ws) _ F0 _) hr fun y r => len_list_ok hx I r)
    | _ => exact no e)
theorem sum_call {args : List V} {v : V} {H' : Hp} {C : Cx} (e : gSum args H = some (v, H')) : CallG C prog w (.builtin "sum") args H v H' :=
  bindE e fun x hx e => oneE (G := fun args => CallG C prog w (.builtin "sum") args H v H') hx (bindE e fun a ha e => Mine.refE (G := fun x => CallG C prog w (.builtin "sum") [x] H v H') ha (bindE e fun xs h1 e => bindE e fun l h2 e => iteP e fun _ e => someR (G := CallG C prog w (.builtin "sum") [.ref a] H) e fun R I hr => one_vr (G := fun ws => wpAny (model prog w) _ (call (.builtin "sum") ws) _ F0 _) hr fun y r => sum_ok R.handled h1 h2 I r))
theorem esc_call {args : List V} {v : V} {H' : Hp} {C : Cx} {fv : Value} (e : gEsc args H = some (v, H')) (g : ∀ c l, (c = 97 ∧ l = [97]) ∨ (c = 47 ∧ l = [47]) ∨ (c = 46 ∧ l = [92, 46]) → CallG C prog w fv [.str [c]] H (.str l) H) : CallG C prog w fv args H v H' :=
  bindE e fun x hx e => oneE (G := fun args => CallG C prog w fv args H v H') hx (bindE e fun s0 hs e => Mine.strE (G := fun x => CallG C prog w fv [x] H v H') hs (bindE e fun c hc e => oneE (G := fun s0 => CallG C prog w fv [.str s0] H v H') hc (ite2 e (fun h e => someR (G := CallG C prog w fv [.str [c]] H) e (g c [c] (((Bool.or_eq_true _ _).mp h).elim (fun h => .inl ⟨of_decide_eq_true h, congrArg (fun c => [c]) (of_decide_eq_true h)⟩) fun h => .inr (.inl ⟨of_decide_eq_true h, congrArg (fun c => [c]) (of_decide_eq_true h)⟩)))) fun _ e => iteP e fun h e => someR (G := CallG C prog w fv [.str [c]] H) e (g c [92, 46] (.inr (.inr ⟨h, rfl⟩))))))

theorem prog_mem {T : Table} {f : String} {ps : List String} {body : List S} (e : progOf T f = some (ps, body)) : ∃ a, (f, a, ps, body) ∈ T := by
  have e : (List.lookup f T).map (·.2) = some (ps, body) := e
  exact bindE (f := fun x => some x.2) (x := List.lookup f T) (by rw [← e]; exact (Option.map_eq_bind ..).symm) fun y q e => ⟨y.1, (Option.some.inj e : y.2 = (ps, body)) ▸ lookup_mem q⟩
theorem facts_of {T : Table} (O : TopOK h t K prog w T) : Facts (cx h) (progOf T) prog w :=
  have L := nolim_of O.ZH O.d2 O.st
  O.bm.elim fun bm hbm =>
  have CF := code_of O.ZH O.X O.d3 O.ch hbm
  { nolim := L
    fn := fun f ps body e hf => (prog_mem e).elim fun a hm => ⟨a, gok_own O.ZH O.X O.d3 ((O.fns _ hm).1 hf).1 ((O.fns _ hm).1 hf).2, (O.fns _ hm).2⟩
    glob := fun f _ hx => by
      have key : ∀ f, (∃ args H v H', pGlob f args H = some (v, H')) → f = "len" ∨ f = "sum" ∨ f = "object" ∨ f = "HTTPPasswordMgr" ∨ f = "escape" := fun f hx => hx.elim fun args hx => hx.elim fun H hx => hx.elim fun v hx => hx.elim fun H' hx => pGlobE (G := fun f _ _ => f = "len" ∨ f = "sum" ∨ f = "object" ∨ f = "HTTPPasswordMgr" ∨ f = "escape") hx (fun _ => .inl rfl) (fun _ => .inr (.inl rfl)) (fun _ => .inr (.inr (.inl rfl))) (fun _ => .inr (.inr (.inr (.inl rfl)))) fun _ => .inr (.inr (.inr (.inr rfl)))
      rcases key f hx with e | e | e | e | e <;> rw [e]
      · exact ⟨_, gok_blt O.ZH O.d3 O.d0 (O.blt _ (by decide)) O.b1, fun e => len_call e⟩
      · exact ⟨_, gok_blt O.ZH O.d3 O.d0 (O.blt _ (by decide)) O.b2, fun e => sum_call e⟩
      · exact ⟨_, gok_typ O.ZH O.d3 O.d0 (O.blt _ (by decide)) O.b4, fun {args H v H'} e => iteP (c := args.isEmpty = true) e fun he e => someR (G := CallG (cx h) prog w (.type "object") args H) e fun R I hr => nilV (G := fun ws => wpAny (model prog w) _ (call (.type "object") ws) _ F0 _) he hr (object_ok I)⟩
      · exact ⟨_, gok_own O.ZH O.X O.d3 O.g1 O.k1, fun {args H v H'} e => iteP (c := args.isEmpty = true) e fun he e => someR (G := CallG (cx h) prog w (.ref 122) args H) e fun R I hr => nilV (G := fun ws => wpAny (model prog w) _ (call (.ref 122) ws) _ F0 _) he hr (mgr_ok O.mgr L I R)⟩
      · exact ⟨_, gok_own O.ZH O.X O.d3 O.g2 O.k2, fun e => esc_call e fun c l hl => (fun R I hr => esc_ok O.ZH O.e1 O.e2 O.e3 O.e4 O.e5 O.e6 O.e7 (load_blt O.ZH O.d3 O.d0 (O.blt _ (by decide)) O.b5) (load_blt O.ZH O.d3 O.d0 (O.blt _ (by decide)) O.b6) (load_own O.ZH O.d3 O.g3) (special_of O.ZH O.mp) L hl I R hr)⟩
    rng := gok_typ O.ZH O.d3 O.d0 (O.blt _ (by decide)) O.b3
    meth := fun ps body e => (prog_mem e).elim fun a hm => ⟨119, (O.sub _ hm rfl : a = 119) ▸ (O.fns _ hm).2, fun I hm' hv h => mgr_get O.sb I hm' hv h⟩
    attr := fun I e hv => attr_ok I e hv
    app := fun I _ e hl hb hy => app_ok I e hl hb hy
    joinGen := fun hj K V I R hr hx hl hall v hv => joinGen_ok CF L hj K V I R hr hx hl hall hv
    resub := fun {A σ H s sc x xp m ap la lb ls lp y cp env r l H'} D hst Kk V I R hy hl => D.x ▸ D.m ▸ resub_ok CF (pat_of O.ZH O.pt) (load_own O.ZH O.d3 O.g4) (D.x ▸ D.glob) D.d D.kd D.fr hst D.ln Kk V I R hy hl }
end Mine
end

section
set_option Elab.async false
set_option linter.all false
set_option maxRecDepth 100000
namespace Mine
open PySem PySem.W PySem.W.X PyProof.Rows PySem.Spec PySem.Calls

variable {w : World} {prog : Program} {h : Heap} {t : KT} {K : Frag}

noncomputable def fbody (f : String) : List S := ((cFn (nm f)).getD ([], [])).2
noncomputable def fnTable : Table := [("translate", 50, ["pat"], fbody "translate"), ("_translate", 69, ["pat", "STAR", "QUESTION_MARK"], fbody "_translate"), ("_join_translated_parts", 76, ["inp", "STAR"], fbody "_join_translated_parts"),
  ("_law_piece", 133, ["kind", "more"], fbody "_law_piece"), ("_law_last", 140, ["number"], fbody "_law_last"), ("_law_in", 145, ["item", "sign"], fbody "_law_in"), ("_law_meant", 152, ["items", "path"], fbody "_law_meant"), ("_law_member", 159, ["body", "at"], fbody "_law_member"),
  ("_law_set", 166, ["body", "at"], fbody "_law_set"), ("_law_read", 173, ["text"], fbody "_law_read"), ("_law_here", 178, ["run", "name", "at"], fbody "_law_here"), ("_law_takes", 185, ["runs", "name"], fbody "_law_takes"), ("law", 190, ["script"], fbody "law"),
  ("is_suburi", 119, ["self", "base", "test"], fbody "is_suburi")]

noncomputable def RowOK (h : Heap) (t : KT) (K : Frag) (x : String × Addr × List String × List S) : Prop := (x.1 ≠ "is_suburi" → nsFind (dicAt t mainGlobals) (nm x.1) = some (.ref x.2.1) ∧ keepIn (cut K) (.ref x.2.1) = true) ∧ FnAt (cx h) x.2.1 x.2.2.1 x.2.2.2
noncomputable def RowsOK (h : Heap) (t : KT) (K : Frag) : Table → Prop
  | [] => True
  | x :: T => RowOK h t K x ∧ RowsOK h t K T
theorem RowsOK.all : ∀ {T : Table}, RowsOK h t K T → ∀ x ∈ T, RowOK h t K x
  | [], _, _, hx => by cases hx
  | y :: T, ⟨h1, h2⟩, x, hx => by
    rcases List.mem_cons.mp hx with rfl | hx
    · exact h1
    · exact RowsOK.all h2 x hx

/- the run's start -/
theorem start_inv {s : Shared} {ps : Array Value} (h64 : s.heap.get? 64 = some (tabObj ps)) (hp : TriplesOk ps.toList) (hg : AllBare s.gens) : Inv (cx s.heap) [] [] s where
  keep := fun _ _ e _ => e
  len := rfl
  nd := List.nodup_nil
  fresh := fun a ha => by cases ha
  lst := fun i a xs e => by simp at e
  obj := fun i a k e => by simp at e
  disj := fun a ha => by cases ha
  soft := ⟨ps, h64, hp⟩
  softX := fun b hb => by
    have : b = 64 := List.mem_singleton.mp hb
    subst this
    exact ⟨_, h64⟩
  bare := hg

theorem law_runs {s : Shared} (F : Facts (cx s.heap) (progOf fnTable) prog w) {n : Nat} {v : V} {r' : Rho} {H' : Hp} {vs : List V} {ws : List Value} {A : Around} (FA : FnAt (cx s.heap) 190 ["script"] (fbody "law")) (I : Inv (cx s.heap) [] [] s) (R : Room (n + 1) A) (hv : VRs (cx s.heap).X [] s.heap vs ws) (hlen : vs.length = 1)
    (e : exs (progOf fnTable) n (fbody "law") (updL rnil ["script"] vs) [] = some (.ret v, r', H')) : wpAny (model prog w) A (call (.ref 190) ws) (Ok (cx s.heap) [] s H' v) F0 s :=
  call_fn (sound F n) FA F.nolim (by simp [hlen]) e I hv R
end Mine
end

section
set_option Elab.async false
set_option linter.all false
set_option maxRecDepth 100000
namespace Mine
open PySem PySem.W PySem.W.X PyProof.Rows PySem.Spec PySem.Calls
variable {σ : List Addr} {H : Hp} {s s' : Shared}

theorem oldK_of (I : Inv (cx s.heap) σ H s') (ht : s.heap.TableAt 68 64 #[]) : OldK s.heap s'.heap := by
  obtain ⟨ps, h64, _⟩ := I.soft
  refine ⟨fun b o e => ?_, fun b o e => ?_⟩
  · by_cases hb : b = 64
    · subst hb
      have e₀ : o = { cls := .none, data := .fields #[] } := Option.some.inj (e.symm.trans ht.2)
      subst e₀
      exact .inr (.inl ⟨ht.isCodeTable, rfl, #[], ps, rfl, by rw [h64]; simp [tabObj]⟩)
    · exact .inl (I.keep b o e (not64 hb))
  · by_cases hb : b = 64
    · subst hb; exact ⟨_, h64⟩
    · exact ⟨o, I.keep b o e (not64 hb)⟩

theorem ints_vrs {X σ : List Addr} {h : Heap} : ∀ {ws : List Value} {ns : List Int}, IntsAre ws ns → VRs X σ h (ns.map V.int) ws
  | _, _, .nil => .nil
  | _, _, .cons n t r => .cons (.int n t) (ints_vrs r)
theorem ints_len : ∀ {ws : List Value} {ns : List Int}, IntsAre ws ns → ws.length = ns.length
  | _, _, .nil => rfl
  | _, _, .cons n t r => by simp [ints_len r]

theorem law_good {prog : Program} {w : World} {t : KT} {K : Frag} {ws : List Value} {ns : List Int} {n : Nat} {r' : Rho} {H' : Hp} (O : TopOK s.heap t K prog w fnTable) (FA : FnAt (cx s.heap) 190 ["script"] (fbody "law")) (ht : s.heap.TableAt 68 64 #[]) (hobj : s.heap.get? 191 = some { cls := .type "list", data := .seq ws.toArray }) (hi : IntsAre ws ns) (hlen : ns.length ≤ 2 ^ 20) (hg : AllBare s.gens)
    (e : exs (progOf fnTable) n (fbody "law") (updL rnil ["script"] [.scr (ns.map .int)]) [] = some (.ret (.bool true), r', H')) (hn : n ≤ 600) :
    wpAny (model prog w) callerA (call (.ref 190) [.ref 191]) (fun v s' => v = .bool true ∧ OldK s.heap s'.heap ∧ s'.os = s.os ∧ AllBare s'.gens) F0 s := by
  have I : Inv (cx s.heap) [] [] s := start_inv (ps := #[]) ht.2 trivial hg
  have R : Room (n + 1) callerA := ⟨rfl, by show 1 + claimMargin + (n + 1) ≤ 950; have : claimMargin = 300 := rfl; (first | lia | omega), by show 4 + 5 * (n + 1) ≤ 9000; (first | lia | omega)⟩
  have hv : VRs (cx s.heap).X [] s.heap [.scr (ns.map .int)] [.ref 191] := .cons (.scr _ 191 ws _ hobj (by simp) (not64 (by decide)) (by rw [ints_len hi, lim2]; (first | lia | omega)) (ints_vrs hi)) .nil
  refine wpAny_mono (law_runs (facts_of O) FA I R hv rfl e) (fun v s' ⟨σ', S, hr⟩ => ?_) fun _ _ h => h
  cases hr
  exact ⟨rfl, oldK_of S.inv ht, S.os, S.inv.bare⟩
end Mine
end

section
set_option Elab.async false
set_option linter.all false
set_option maxRecDepth 100000
namespace Mine
open PySem PyProof.Rows

noncomputable def bdtranslate : List S := [
  .asg "STAR" (.callG "object" []),
  .asg "parts" (.callG "_translate" [.var "pat", .var "STAR", .cS [46]]),
  .ret (.callG "_join_translated_parts" [.var "parts", .var "STAR"])]
theorem fbodytranslate : fbody "translate" = bdtranslate := by kernel_rfl

noncomputable def bd_translate : List S := [
  .asg "res" (.lst []),
  .asg "add" (.attr (.var "res") "append"),
  .asgT ["i", "n"] (.tup [.cI 0, .callG "len" [.var "pat"]]),
  .whl (.cmp1 (PySem.CmpOp.Lt) (.var "i") (.var "n")) [.asg "c" (.sub (.var "pat") (.var "i")), .asg "i" (.bin (PySem.Operator.Add) (.var "i") (.cI 1)), .iff (.cmp1 (PySem.CmpOp.Eq) (.var "c") (.cS [42])) [.iff (.or_ [.not_ (.var "res"), .cmp1 (PySem.CmpOp.IsNot) (.sub (.var "res") (.neg (.cI 1))) (.var "STAR")]) [.ex (.callL "add" [.var "STAR"])] []] [.iff (.cmp1 (PySem.CmpOp.Eq) (.var "c") (.cS [63])) [.ex (.callL "add" [.var "QUESTION_MARK"])] [.iff (.cmp1 (PySem.CmpOp.Eq) (.var "c") (.cS [91])) [.asg "j" (.var "i"), .iff (.and_ [.cmp1 (PySem.CmpOp.Lt) (.var "j") (.var "n"), .cmp1 (PySem.CmpOp.Eq) (.sub (.var "pat") (.var "j")) (.cS [33])]) [.asg "j" (.bin (PySem.Operator.Add) (.var "j") (.cI 1))] [], .iff (.and_ [.cmp1 (PySem.CmpOp.Lt) (.var "j") (.var "n"), .cmp1 (PySem.CmpOp.Eq) (.sub (.var "pat") (.var "j")) (.cS [93])]) [.asg "j" (.bin (PySem.Operator.Add) (.var "j") (.cI 1))] [], .whl (.and_ [.cmp1 (PySem.CmpOp.Lt) (.var "j") (.var "n"), .cmp1 (PySem.CmpOp.NotEq) (.sub (.var "pat") (.var "j")) (.cS [93])]) [.asg "j" (.bin (PySem.Operator.Add) (.var "j") (.cI 1))], .iff (.cmp1 (PySem.CmpOp.GtE) (.var "j") (.var "n")) [.ex (.callL "add" [.cS [92, 91]])] [.asg "stuff" (.slc (.var "pat") (some (.var "i")) (some (.var "j"))), .iff (.cmp1 (PySem.CmpOp.NotIn) (.cS [45]) (.var "stuff")) [.asg "stuff" (.meth (.var "stuff") "replace" [.cS [92], .cS [92, 92]])] [.asg "chunks" (.lst []), .asg "k" (.ite (.cmp1 (PySem.CmpOp.Eq) (.sub (.var "pat") (.var "i")) (.cS [33])) (.bin (PySem.Operator.Add) (.var "i") (.cI 2)) (.bin (PySem.Operator.Add) (.var "i") (.cI 1))), .whl (.cB true) [.asg "k" (.meth (.var "pat") "find" [.cS [45], .var "k", .var "j"]), .iff (.cmp1 (PySem.CmpOp.Lt) (.var "k") (.cI 0)) [.brk] [], .ex (.meth (.var "chunks") "append" [.slc (.var "pat") (some (.var "i")) (some (.var "k"))]), .asg "i" (.bin (PySem.Operator.Add) (.var "k") (.cI 1)), .asg "k" (.bin (PySem.Operator.Add) (.var "k") (.cI 3))], .asg "chunk" (.slc (.var "pat") (some (.var "i")) (some (.var "j"))), .iff (.var "chunk") [.ex (.meth (.var "chunks") "append" [.var "chunk"])] [.bad], .for_ ["k"] true (.callG "range" [.bin (PySem.Operator.Sub) (.callG "len" [.var "chunks"]) (.cI 1), .cI 0, .neg (.cI 1)]) [.iff (.cmp1 (PySem.CmpOp.Gt) (.sub (.sub (.var "chunks") (.bin (PySem.Operator.Sub) (.var "k") (.cI 1))) (.neg (.cI 1))) (.sub (.sub (.var "chunks") (.var "k")) (.cI 0))) [.setI (.var "chunks") (.bin (PySem.Operator.Sub) (.var "k") (.cI 1)) (.bin (PySem.Operator.Add) (.slc (.sub (.var "chunks") (.bin (PySem.Operator.Sub) (.var "k") (.cI 1))) none (some (.neg (.cI 1)))) (.slc (.sub (.var "chunks") (.var "k")) (some (.cI 1)) none)), .del (.var "chunks") (.var "k")] []], .asg "stuff" (.joinGen (.cS [45]) (.var "chunks"))], .asg "stuff" (.resub (.var "stuff")), .asg "i" (.bin (PySem.Operator.Add) (.var "j") (.cI 1)), .iff (.not_ (.var "stuff")) [.ex (.callL "add" [.cS [40, 63, 33, 41]])] [.iff (.cmp1 (PySem.CmpOp.Eq) (.var "stuff") (.cS [33])) [.ex (.callL "add" [.cS [46]])] [.iff (.cmp1 (PySem.CmpOp.Eq) (.sub (.var "stuff") (.cI 0)) (.cS [33])) [.asg "stuff" (.bin (PySem.Operator.Add) (.cS [94]) (.slc (.var "stuff") (some (.cI 1)) none))] [.iff (.cmp1 (PySem.CmpOp.In) (.sub (.var "stuff") (.cI 0)) (.tup [.cS [94], .cS [91]])) [.asg "stuff" (.bin (PySem.Operator.Add) (.cS [92]) (.var "stuff"))] []], .ex (.callL "add" [.fstr [.cS [91], .var "stuff", .cS [93]]])]]]] [.ex (.callL "add" [.callG "escape" [.var "c"]])]]]],
  .asrt (.cmp1 (PySem.CmpOp.Eq) (.var "i") (.var "n")),
  .ret (.var "res")]
theorem fbody_translate : fbody "_translate" = bd_translate := by kernel_rfl

noncomputable def bd_join_translated_parts : List S := [
  .asg "res" (.lst []),
  .asg "add" (.attr (.var "res") "append"),
  .asgT ["i", "n"] (.tup [.cI 0, .callG "len" [.var "inp"]]),
  .whl (.and_ [.cmp1 (PySem.CmpOp.Lt) (.var "i") (.var "n"), .cmp1 (PySem.CmpOp.IsNot) (.sub (.var "inp") (.var "i")) (.var "STAR")]) [.ex (.callL "add" [.sub (.var "inp") (.var "i")]), .aug "i" (PySem.Operator.Add) (.cI 1)],
  .whl (.cmp1 (PySem.CmpOp.Lt) (.var "i") (.var "n")) [.asrt (.cmp1 (PySem.CmpOp.Is) (.sub (.var "inp") (.var "i")) (.var "STAR")), .aug "i" (PySem.Operator.Add) (.cI 1), .iff (.cmp1 (PySem.CmpOp.Eq) (.var "i") (.var "n")) [.ex (.callL "add" [.cS [46, 42]]), .brk] [], .asrt (.cmp1 (PySem.CmpOp.IsNot) (.sub (.var "inp") (.var "i")) (.var "STAR")), .asg "fixed" (.lst []), .whl (.and_ [.cmp1 (PySem.CmpOp.Lt) (.var "i") (.var "n"), .cmp1 (PySem.CmpOp.IsNot) (.sub (.var "inp") (.var "i")) (.var "STAR")]) [.ex (.meth (.var "fixed") "append" [.sub (.var "inp") (.var "i")]), .aug "i" (PySem.Operator.Add) (.cI 1)], .asg "fixed" (.meth (.cS []) "join" [.var "fixed"]), .iff (.cmp1 (PySem.CmpOp.Eq) (.var "i") (.var "n")) [.ex (.callL "add" [.cS [46, 42]]), .ex (.callL "add" [.var "fixed"])] [.ex (.callL "add" [.fstr [.cS [40, 63, 62, 46, 42, 63], .var "fixed", .cS [41]]])]],
  .asrt (.cmp1 (PySem.CmpOp.Eq) (.var "i") (.var "n")),
  .asg "res" (.meth (.cS []) "join" [.var "res"]),
  .ret (.fstr [.cS [40, 63, 115, 58], .var "res", .cS [41, 92, 90]])]
theorem fbody_join_translated_parts : fbody "_join_translated_parts" = bd_join_translated_parts := by kernel_rfl

noncomputable def bdis_suburi : List S := [
  .iff (.cmp1 (PySem.CmpOp.Eq) (.var "base") (.var "test")) [.ret (.cB true)] [],
  .iff (.cmp1 (PySem.CmpOp.NotEq) (.sub (.var "base") (.cI 0)) (.sub (.var "test") (.cI 0))) [.ret (.cB false)] [],
  .asg "prefix" (.sub (.var "base") (.cI 1)),
  .iff (.cmp1 (PySem.CmpOp.NotEq) (.slc (.var "prefix") (some (.neg (.cI 1))) none) (.cS [47])) [.aug "prefix" (PySem.Operator.Add) (.cS [47])] [],
  .ret (.meth (.sub (.var "test") (.cI 1)) "startswith" [.var "prefix"])]
theorem fbodyis_suburi : fbody "is_suburi" = bdis_suburi := by kernel_rfl

noncomputable def bd_law_piece : List S := [
  .iff (.cmp1 (PySem.CmpOp.Lt) (.var "kind") (.cI 2)) [.ret (.tup [.cS [42], .cN, .sub (.lst [.cS [], .cS [47], .cS [97], .cS [98, 47], .cS [47, 97]]) (.bin (PySem.Operator.Mod) (.var "more") (.cI 5))])] [],
  .iff (.cmp1 (PySem.CmpOp.Eq) (.var "kind") (.cI 2)) [.ret (.tup [.cS [63], .tup [.cB true, .lst []], .sub (.cS [47, 97, 98]) (.bin (PySem.Operator.Mod) (.var "more") (.cI 3))])] [],
  .iff (.cmp1 (PySem.CmpOp.Eq) (.var "kind") (.cI 3)) [.ret (.tup [.cS [91, 33, 97, 93], .tup [.cB true, .lst [.tup [.cS [97], .cS [97]]]], .sub (.cS [47, 98]) (.bin (PySem.Operator.Mod) (.var "more") (.cI 2))])] [],
  .iff (.cmp1 (PySem.CmpOp.Eq) (.var "kind") (.cI 4)) [.ret (.tup [.cS [91, 47, 45, 97, 93], .tup [.cB false, .lst [.tup [.cS [47], .cS [97]]]], .sub (.cS [47, 97, 98]) (.bin (PySem.Operator.Mod) (.var "more") (.cI 3))])] [],
  .iff (.cmp1 (PySem.CmpOp.Eq) (.var "kind") (.cI 5)) [.ret (.tup [.cS [47], .tup [.cB false, .lst [.tup [.cS [47], .cS [47]]]], .cS [47]])] [],
  .iff (.cmp1 (PySem.CmpOp.Eq) (.var "kind") (.cI 6)) [.asg "sign" (.sub (.cS [97, 46]) (.bin (PySem.Operator.Mod) (.var "more") (.cI 2))), .ret (.tup [.var "sign", .tup [.cB false, .lst [.tup [.var "sign", .var "sign"]]], .sub (.cS [97, 46]) (.bin (PySem.Operator.Mod) (.bin (PySem.Operator.FloorDiv) (.var "more") (.cI 2)) (.cI 2))])] [],
  .ret (.tup [.cS [91, 33, 98, 45, 97, 93], .tup [.cB true, .lst []], .sub (.cS [47, 97, 98]) (.bin (PySem.Operator.Mod) (.var "more") (.cI 3))])]
theorem fbody_law_piece : fbody "_law_piece" = bd_law_piece := by kernel_rfl

noncomputable def bd_law_last : List S := [
  .iff (.cmp1 (PySem.CmpOp.Eq) (.bin (PySem.Operator.Mod) (.var "number") (.cI 3)) (.cI 0)) [.ret (.tup [.cS [97], .tup [.cB false, .lst [.tup [.cS [97], .cS [97]]]], .cS [97]])] [],
  .iff (.cmp1 (PySem.CmpOp.Eq) (.bin (PySem.Operator.Mod) (.var "number") (.cI 3)) (.cI 1)) [.ret (.tup [.cS [91, 33, 47, 93], .tup [.cB true, .lst [.tup [.cS [47], .cS [47]]]], .cS [97]])] [],
  .ret (.tup [.cS [91, 97, 45, 98, 93], .tup [.cB false, .lst [.tup [.cS [97], .cS [98]]]], .cS [97]])]
theorem fbody_law_last : fbody "_law_last" = bd_law_last := by kernel_rfl

noncomputable def bd_law_in : List S := [
  .asgT ["barred", "ranges"] (.var "item"),
  .ret (.cmp1 (PySem.CmpOp.NotEq) (.cmp1 (PySem.CmpOp.NotEq) (.comp (.var "low") ["low", "high"] false ["sign"] (.var "ranges") [.cmp2 (PySem.CmpOp.LtE) (PySem.CmpOp.LtE) (.var "low") (.var "sign") (.var "high")]) (.lst [])) (.var "barred"))]
theorem fbody_law_in : fbody "_law_in" = bd_law_in := by kernel_rfl

noncomputable def bd_law_meant : List S := [
  .asg "reach" (.bin (PySem.Operator.Add) (.lst [.cB true]) (.bin (PySem.Operator.Mult) (.lst [.cB false]) (.callG "len" [.var "items"]))),
  .asg "meant" (.lst []),
  .for_ ["k"] true (.callG "range" [.bin (PySem.Operator.Add) (.callG "len" [.var "path"]) (.cI 1)]) [.for_ ["place"] true (.callG "range" [.callG "len" [.var "items"]]) [.iff (.and_ [.sub (.var "reach") (.var "place"), .cmp1 (PySem.CmpOp.Is) (.sub (.var "items") (.var "place")) (.cN)]) [.setI (.var "reach") (.bin (PySem.Operator.Add) (.var "place") (.cI 1)) (.cB true)] []], .ex (.meth (.var "meant") "append" [.sub (.var "reach") (.neg (.cI 1))]), .asg "after" (.bin (PySem.Operator.Mult) (.lst [.cB false]) (.bin (PySem.Operator.Add) (.callG "len" [.var "items"]) (.cI 1))), .for_ ["place"] true (.callG "range" [.callG "len" [.var "items"]]) [.iff (.and_ [.cmp1 (PySem.CmpOp.Lt) (.var "k") (.callG "len" [.var "path"]), .sub (.var "reach") (.var "place")]) [.iff (.cmp1 (PySem.CmpOp.Is) (.sub (.var "items") (.var "place")) (.cN)) [.setI (.var "after") (.var "place") (.cB true)] [.iff (.callG "_law_in" [.sub (.var "items") (.var "place"), .sub (.var "path") (.var "k")]) [.setI (.var "after") (.bin (PySem.Operator.Add) (.var "place") (.cI 1)) (.cB true)] []]] []], .asg "reach" (.var "after")],
  .ret (.var "meant")]
theorem fbody_law_meant : fbody "_law_meant" = bd_law_meant := by kernel_rfl

noncomputable def bd_law_member : List S := [
  .iff (.cmp1 (PySem.CmpOp.Eq) (.sub (.var "body") (.var "at")) (.cS [92])) [.ret (.tup [.sub (.var "body") (.bin (PySem.Operator.Add) (.var "at") (.cI 1)), .bin (PySem.Operator.Add) (.var "at") (.cI 2)])] [],
  .ret (.tup [.sub (.var "body") (.var "at"), .bin (PySem.Operator.Add) (.var "at") (.cI 1)])]
theorem fbody_law_member : fbody "_law_member" = bd_law_member := by kernel_rfl

noncomputable def bd_law_set : List S := [
  .asg "barred" (.cmp1 (PySem.CmpOp.Eq) (.sub (.var "body") (.var "at")) (.cS [94])),
  .iff (.var "barred") [.asg "at" (.bin (PySem.Operator.Add) (.var "at") (.cI 1))] [],
  .asg "ranges" (.lst []),
  .whl (.or_ [.cmp1 (PySem.CmpOp.Eq) (.var "ranges") (.lst []), .cmp1 (PySem.CmpOp.NotEq) (.sub (.var "body") (.var "at")) (.cS [93])]) [.asgT ["low", "at"] (.callG "_law_member" [.var "body", .var "at"]), .asg "high" (.var "low"), .iff (.and_ [.cmp1 (PySem.CmpOp.Eq) (.sub (.var "body") (.var "at")) (.cS [45]), .cmp1 (PySem.CmpOp.NotEq) (.sub (.var "body") (.bin (PySem.Operator.Add) (.var "at") (.cI 1))) (.cS [93])]) [.asgT ["high", "at"] (.callG "_law_member" [.var "body", .bin (PySem.Operator.Add) (.var "at") (.cI 1)])] [], .ex (.meth (.var "ranges") "append" [.tup [.var "low", .var "high"]])],
  .ret (.tup [.tup [.var "barred", .var "ranges"], .bin (PySem.Operator.Add) (.var "at") (.cI 1)])]
theorem fbody_law_set : fbody "_law_set" = bd_law_set := by kernel_rfl

noncomputable def bd_law_read : List S := [
  .iff (.or_ [.cmp1 (PySem.CmpOp.NotEq) (.slc (.var "text") none (some (.cI 4))) (.cS [40, 63, 115, 58]), .cmp1 (PySem.CmpOp.NotEq) (.slc (.var "text") (some (.neg (.cI 3))) none) (.cS [41, 92, 90])]) [.ret (.lst [])] [],
  .asg "body" (.slc (.var "text") (some (.cI 4)) (some (.neg (.cI 3)))),
  .asg "runs" (.lst [.lst [.cS [102, 114, 111, 110, 116], .lst []]]),
  .asg "at" (.cI 0),
  .whl (.cmp1 (PySem.CmpOp.Lt) (.var "at") (.callG "len" [.var "body"])) [.iff (.cmp1 (PySem.CmpOp.Eq) (.slc (.var "body") (some (.var "at")) (some (.bin (PySem.Operator.Add) (.var "at") (.cI 6)))) (.cS [40, 63, 62, 46, 42, 63])) [.ex (.meth (.var "runs") "append" [.lst [.cS [104, 101, 108, 100], .lst []]]), .asg "at" (.bin (PySem.Operator.Add) (.var "at") (.cI 6))] [.iff (.cmp1 (PySem.CmpOp.Eq) (.slc (.var "body") (some (.var "at")) (some (.bin (PySem.Operator.Add) (.var "at") (.cI 4)))) (.cS [40, 63, 33, 41])) [.ex (.meth (.sub (.sub (.var "runs") (.neg (.cI 1))) (.cI 1)) "append" [.tup [.cB false, .lst []]]), .asg "at" (.bin (PySem.Operator.Add) (.var "at") (.cI 4))] [.iff (.cmp1 (PySem.CmpOp.Eq) (.slc (.var "body") (some (.var "at")) (some (.bin (PySem.Operator.Add) (.var "at") (.cI 2)))) (.cS [46, 42])) [.ex (.meth (.var "runs") "append" [.lst [.cS [108, 97, 115, 116], .lst []]]), .asg "at" (.bin (PySem.Operator.Add) (.var "at") (.cI 2))] [.iff (.and_ [.cmp1 (PySem.CmpOp.Eq) (.sub (.var "body") (.var "at")) (.cS [41]), .cmp1 (PySem.CmpOp.Eq) (.sub (.sub (.var "runs") (.neg (.cI 1))) (.cI 0)) (.cS [104, 101, 108, 100])]) [.setI (.sub (.var "runs") (.neg (.cI 1))) (.cI 0) (.cS [115, 104, 117, 116]), .asg "at" (.bin (PySem.Operator.Add) (.var "at") (.cI 1))] [.iff (.cmp1 (PySem.CmpOp.Eq) (.sub (.var "body") (.var "at")) (.cS [46])) [.ex (.meth (.sub (.sub (.var "runs") (.neg (.cI 1))) (.cI 1)) "append" [.tup [.cB true, .lst []]]), .asg "at" (.bin (PySem.Operator.Add) (.var "at") (.cI 1))] [.iff (.cmp1 (PySem.CmpOp.Eq) (.sub (.var "body") (.var "at")) (.cS [91])) [.asgT ["item", "at"] (.callG "_law_set" [.var "body", .bin (PySem.Operator.Add) (.var "at") (.cI 1)]), .ex (.meth (.sub (.sub (.var "runs") (.neg (.cI 1))) (.cI 1)) "append" [.var "item"])] [.iff (.cmp1 (PySem.CmpOp.In) (.sub (.var "body") (.var "at")) (.cS [40, 41, 42, 43, 63, 123, 125, 124, 94, 36])) [.ret (.lst [])] [.asgT ["sign", "at"] (.callG "_law_member" [.var "body", .var "at"]), .ex (.meth (.sub (.sub (.var "runs") (.neg (.cI 1))) (.cI 1)) "append" [.tup [.cB false, .lst [.tup [.var "sign", .var "sign"]]]])]]]]]]]],
  .ret (.var "runs")]
theorem fbody_law_read : fbody "_law_read" = bd_law_read := by kernel_rfl

noncomputable def bd_law_here : List S := [
  .iff (.cmp1 (PySem.CmpOp.Gt) (.bin (PySem.Operator.Add) (.var "at") (.callG "len" [.var "run"])) (.callG "len" [.var "name"])) [.ret (.cB false)] [],
  .ret (.cmp1 (PySem.CmpOp.Eq) (.comp (.var "k") ["k"] true ["at", "name", "run"] (.callG "range" [.callG "len" [.var "run"]]) [.not_ (.callG "_law_in" [.sub (.var "run") (.var "k"), .sub (.var "name") (.bin (PySem.Operator.Add) (.var "at") (.var "k"))])]) (.lst []))]
theorem fbody_law_here : fbody "_law_here" = bd_law_here := by kernel_rfl

noncomputable def bd_law_takes : List S := [
  .asg "at" (.cI 0),
  .for_ ["mark", "run"] false (.var "runs") [.iff (.cmp1 (PySem.CmpOp.Eq) (.var "mark") (.cS [104, 101, 108, 100])) [.ret (.cB false)] [], .iff (.cmp1 (PySem.CmpOp.Eq) (.var "mark") (.cS [115, 104, 117, 116])) [.whl (.and_ [.cmp1 (PySem.CmpOp.LtE) (.bin (PySem.Operator.Add) (.var "at") (.callG "len" [.var "run"])) (.callG "len" [.var "name"]), .not_ (.callG "_law_here" [.var "run", .var "name", .var "at"])]) [.asg "at" (.bin (PySem.Operator.Add) (.var "at") (.cI 1))]] [], .iff (.cmp1 (PySem.CmpOp.Eq) (.var "mark") (.cS [108, 97, 115, 116])) [.iff (.cmp1 (PySem.CmpOp.Lt) (.bin (PySem.Operator.Sub) (.callG "len" [.var "name"]) (.callG "len" [.var "run"])) (.var "at")) [.ret (.cB false)] [], .asg "at" (.bin (PySem.Operator.Sub) (.callG "len" [.var "name"]) (.callG "len" [.var "run"]))] [], .iff (.not_ (.callG "_law_here" [.var "run", .var "name", .var "at"])) [.ret (.cB false)] [], .asg "at" (.bin (PySem.Operator.Add) (.var "at") (.callG "len" [.var "run"]))],
  .ret (.and_ [.cmp1 (PySem.CmpOp.NotEq) (.var "runs") (.lst []), .cmp1 (PySem.CmpOp.Eq) (.var "at") (.callG "len" [.var "name"])])]
theorem fbody_law_takes : fbody "_law_takes" = bd_law_takes := by kernel_rfl

noncomputable def bdlaw : List S := [
  .asg "numbers" (.comp (.bin (PySem.Operator.Mod) (.var "x") (.cI 1000000)) ["x"] true [] (.slc (.var "script") none (some (.cI 6))) []),
  .asg "pieces" (.bin (PySem.Operator.Add) (.comp (.callG "_law_piece" [.bin (PySem.Operator.Mod) (.var "number") (.cI 8), .bin (PySem.Operator.FloorDiv) (.var "number") (.cI 8)]) ["number"] true [] (.var "numbers") []) (.lst [.callG "_law_last" [.callG "sum" [.var "numbers"]]])),
  .asg "pattern" (.meth (.cS []) "join" [.comp (.sub (.var "piece") (.cI 0)) ["piece"] true [] (.var "pieces") []]),
  .asg "tails" (.comp (.sub (.lst [.cS [], .cS [47], .cS [97], .cS [47, 98]]) (.bin (PySem.Operator.Mod) (.bin (PySem.Operator.FloorDiv) (.var "number") (.cI 64)) (.cI 4))) ["number"] true [] (.var "numbers") []),
  .asg "path" (.slc (.bin (PySem.Operator.Add) (.meth (.cS []) "join" [.comp (.sub (.var "piece") (.cI 2)) ["piece"] true [] (.var "pieces") []]) (.meth (.cS []) "join" [.var "tails"])) none (some (.cI 10))),
  .asg "longer" (.bin (PySem.Operator.Add) (.var "path") (.cS [47])),
  .asg "heads" (.comp (.slc (.var "longer") none (some (.var "k"))) ["k"] true ["longer"] (.callG "range" [.bin (PySem.Operator.Add) (.callG "len" [.var "longer"]) (.cI 1)]) []),
  .asg "meant" (.callG "_law_meant" [.comp (.sub (.var "piece") (.cI 1)) ["piece"] true [] (.var "pieces") [], .var "longer"]),
  .asg "beside" (.bin (PySem.Operator.Add) (.comp (.or_ [.cmp1 (PySem.CmpOp.Eq) (.slc (.var "longer") (some (.var "k")) (some (.bin (PySem.Operator.Add) (.var "k") (.cI 1)))) (.cS [47]), .cmp1 (PySem.CmpOp.Eq) (.slc (.slc (.var "longer") none (some (.var "k"))) (some (.neg (.cI 1))) none) (.cS [47])]) ["k"] true ["longer"] (.callG "range" [.callG "len" [.var "longer"]]) []) (.lst [.cB false])),
  .asg "runs" (.callG "_law_read" [.callG "translate" [.var "pattern"]]),
  .asg "manager" (.callG "HTTPPasswordMgr" []),
  .asg "takes" (.comp (.callG "_law_takes" [.var "runs", .var "head"]) ["head"] true ["runs"] (.var "heads") []),
  .asg "covers" (.comp (.meth (.var "manager") "is_suburi" [.tup [.cS [104], .var "head"], .tup [.cS [104], .var "path"]]) ["head"] true ["manager", "path"] (.var "heads") []),
  .asg "other" (.comp (.meth (.var "manager") "is_suburi" [.tup [.cS [103], .var "head"], .tup [.cS [104], .var "path"]]) ["head"] true ["manager", "path"] (.var "heads") []),
  .asg "strange" (.comp (.meth (.var "manager") "is_suburi" [.tup [.cS [104], .bin (PySem.Operator.Add) (.cS [99]) (.slc (.var "head") (some (.cI 1)) none)], .tup [.cS [104], .var "path"]]) ["head"] true ["manager", "path"] (.var "heads") []),
  .ex (.meth (.var "strange") "extend" [.comp (.meth (.var "manager") "is_suburi" [.tup [.cS [104], .bin (PySem.Operator.Add) (.slc (.var "head") none (some (.neg (.cI 1)))) (.cS [99])], .tup [.cS [104], .var "path"]]) ["head"] true ["manager", "path"] (.var "heads") []]),
  .asg "none" (.comp (.cB false) ["head"] true [] (.var "heads") []),
  .iff (.cmp1 (PySem.CmpOp.NotEq) (.lst [.var "takes", .var "covers", .var "other", .var "strange"]) (.lst [.var "meant", .var "beside", .var "none", .bin (PySem.Operator.Add) (.var "none") (.var "none")])) [.ret (.cB false)] [],
  .asg "below" (.callG "_law_takes" [.callG "_law_read" [.callG "translate" [.bin (PySem.Operator.Add) (.var "pattern") (.cS [47, 42])]], .var "path"]),
  .asg "tree" (.cmp1 (PySem.CmpOp.NotEq) (.comp (.var "k") ["k"] true ["covers", "takes"] (.callG "range" [.callG "len" [.var "heads"]]) [.and_ [.sub (.var "takes") (.var "k"), .sub (.var "covers") (.var "k")]]) (.lst [])),
  .ret (.cmp1 (PySem.CmpOp.Eq) (.or_ [.sub (.var "takes") (.callG "len" [.var "path"]), .var "below"]) (.var "tree"))]
theorem fbodylaw : fbody "law" = bdlaw := by kernel_rfl
end Mine
end

section
set_option Elab.async false
set_option linter.all false
set_option maxRecDepth 100000
namespace Mine
open PySem PyProof.Rows

section Engine
variable {P : Prog} {n : Nat} {r : Rho} {H H1 H2 H3 : Hp}

@[simp] theorem upd_app (r : Rho) (x y : String) (v : V) : upd r x v y = if y = x then some v else r y := rfl
@[simp] theorem updL_nil (vs : List V) : updL r [] vs = r := by cases vs <;> rfl
@[simp] theorem updL_cons (x : String) (xs : List String) (v : V) (vs : List V) : updL r (x :: xs) (v :: vs) = updL (upd r x v) xs vs := rfl
@[simp] theorem rnil_app (x : String) : rnil x = none := rfl
@[simp] theorem chk_eq {α : Type} (k : Nat) (x : Option α) : chk k x = if k ≤ lim then x else none := rfl
@[simp] theorem lim_lit {k : Nat} (h : k ≤ 64) : k ≤ lim := by unfold lim; (first | lia | omega)
theorem lim_of {k : Nat} (h : k ≤ 10000) : k ≤ lim := by unfold lim; (first | lia | omega)

noncomputable def kBin (P : Prog) (n : Nat) (op : Operator) (b : E) (r : Rho) (x : Option (V × Hp)) : Option (V × Hp) := x.bind fun (va, H1) => (ev P n b r H1).bind fun (vb, H2) => pBin op va vb H2
noncomputable def kBin2 (op : Operator) (va : V) (x : Option (V × Hp)) : Option (V × Hp) := x.bind fun (vb, H2) => pBin op va vb H2
noncomputable def kNeg (x : Option (V × Hp)) : Option (V × Hp) := x.bind fun (va, H1) => va.int?.map fun i => (.int (-i), H1)
noncomputable def kCmp (P : Prog) (n : Nat) (op : CmpOp) (b : E) (r : Rho) (x : Option (V × Hp)) : Option (V × Hp) := x.bind fun (va, H1) => (ev P n b r H1).bind fun (vb, H2) => (pCmp op va vb H2).map fun c => (.bool c, H2)
noncomputable def kCmp2 (op : CmpOp) (va : V) (x : Option (V × Hp)) : Option (V × Hp) := x.bind fun (vb, H2) => (pCmp op va vb H2).map fun c => (.bool c, H2)
noncomputable def kCB (x : Option Bool) (H : Hp) : Option (V × Hp) := x.map fun c => (.bool c, H)
noncomputable def kAnd (P : Prog) (n : Nat) (b : E) (r : Rho) (x : Option (V × Hp)) : Option (V × Hp) := x.bind fun (va, H1) => (truth va H1).bind fun t => match t with | true => ev P n b r H1 | false => some (va, H1)
noncomputable def kOr (P : Prog) (n : Nat) (b : E) (r : Rho) (x : Option (V × Hp)) : Option (V × Hp) := x.bind fun (va, H1) => (truth va H1).bind fun t => match t with | true => some (va, H1) | false => ev P n b r H1
noncomputable def kAndT (P : Prog) (n : Nat) (b : E) (r : Rho) (va : V) (H1 : Hp) (x : Option Bool) : Option (V × Hp) := x.bind fun t => match t with | true => ev P n b r H1 | false => some (va, H1)
noncomputable def kOrT (P : Prog) (n : Nat) (b : E) (r : Rho) (va : V) (H1 : Hp) (x : Option Bool) : Option (V × Hp) := x.bind fun t => match t with | true => some (va, H1) | false => ev P n b r H1
noncomputable def kNot (x : Option (V × Hp)) : Option (V × Hp) := x.bind fun (va, H1) => (truth va H1).map fun t => (.bool (!t), H1)
noncomputable def kNotT (x : Option Bool) (H : Hp) : Option (V × Hp) := x.map fun t => (.bool (!t), H)
noncomputable def kIte (P : Prog) (n : Nat) (a b : E) (r : Rho) (x : Option (Bool × Hp)) : Option (V × Hp) := x.bind fun (t, H1) => match t with | true => ev P n a r H1 | false => ev P n b r H1
noncomputable def kCall (P : Prog) (n : Nat) (f : String) (vs : List V) (H1 : Hp) : Option (V × Hp) := match P f with
      | some (ps, body) => if ps.length = vs.length ∧ f ≠ "is_suburi" then
          (exs P n body (updL rnil ps vs) H1).bind fun (f, _, H2) => (retOf f).map fun v => (v, H2)
        else Option.none
      | none => if 2 ≤ n then pGlob f vs H1 else Option.none
noncomputable def kCallA (P : Prog) (n : Nat) (f : String) (x : Option (List V × Hp)) : Option (V × Hp) := x.bind fun (vs, H1) => kCall P n f vs H1
noncomputable def kCallL (o : Option V) (x : Option (List V × Hp)) : Option (V × Hp) := x.bind fun (vs, H1) => o.bind fun v => v.app?.bind fun a => lAppend a vs H1
noncomputable def kMth (P : Prog) (n : Nat) (m : String) (vo : V) (H1 : Hp) (vs : List V) (H2 : Hp) : Option (V × Hp) := match vo.mgr? with
      | some i => (P m).bind fun (ps, body) => if ps.length = vs.length + 1 ∧ m = "is_suburi" ∧ isMgr H1 i = true then
            (exs P n body (updL rnil ps (.mgr i :: vs)) H2).bind fun (f, _, H2) => (retOf f).map fun v => (v, H2)
          else Option.none
      | none => if okRecv vo H1 then pMeth vo m vs H2 else Option.none
noncomputable def kMth2 (P : Prog) (n : Nat) (m : String) (vo : V) (H1 : Hp) (x : Option (List V × Hp)) : Option (V × Hp) := x.bind fun (vs, H2) => kMth P n m vo H1 vs H2
noncomputable def kMth1 (P : Prog) (n : Nat) (m : String) (args : List E) (r : Rho) (x : Option (V × Hp)) : Option (V × Hp) := x.bind fun (vo, H1) => kMth2 P n m vo H1 (evs P n args r H1)
noncomputable def kSub (P : Prog) (n : Nat) (i : E) (r : Rho) (x : Option (V × Hp)) : Option (V × Hp) := x.bind fun (vo, H1) => (ev P n i r H1).bind fun (vi, H2) => (pSub vo vi H2).map fun v => (v, H2)
noncomputable def kSub2 (vo : V) (x : Option (V × Hp)) : Option (V × Hp) := x.bind fun (vi, H2) => (pSub vo vi H2).map fun v => (v, H2)
noncomputable def kV (x : Option V) (H : Hp) : Option (V × Hp) := x.map fun v => (v, H)
noncomputable def kSlc (P : Prog) (n : Nat) (lo hi : Option E) (r : Rho) (x : Option (V × Hp)) : Option (V × Hp) := x.bind fun (vo, H1) => (evo P n lo r H1).bind fun (vl, H2) => (evo P n hi r H2).bind fun (vh, H3) => pSlc vo vl vh H3
noncomputable def kSlc2 (P : Prog) (n : Nat) (hi : Option E) (r : Rho) (vo : V) (x : Option (Option V × Hp)) : Option (V × Hp) := x.bind fun (vl, H2) => (evo P n hi r H2).bind fun (vh, H3) => pSlc vo vl vh H3
noncomputable def kSlc3 (vo : V) (vl : Option V) (x : Option (Option V × Hp)) : Option (V × Hp) := x.bind fun (vh, H3) => pSlc vo vl vh H3
noncomputable def kLst (x : Option (List V × Hp)) : Option (V × Hp) := x.bind fun (vs, H1) => chk vs.length (some (.ref H1.length, H1 ++ [.lst vs]))
noncomputable def kTup (x : Option (List V × Hp)) : Option (V × Hp) := x.bind fun (vs, H1) => chk vs.length (some (.tup vs, H1))
noncomputable def kFst (x : Option (List V × Hp)) : Option (V × Hp) := x.bind fun (vs, H1) => (strsOf vs).bind fun l => chk (l.map (·.length)).sum (some (.str l.flatten, H1))
noncomputable def kAttr (m : String) (x : Option (V × Hp)) : Option (V × Hp) := x.bind fun (vo, H1) => if m = "append" then vo.ref?.bind fun a => (hGet H1 a).map fun _ => (.app a, H1) else Option.none
noncomputable def kEvo (x : Option (V × Hp)) : Option (Option V × Hp) := x.map fun (v, H1) => (some v, H1)
noncomputable def kEvs (P : Prog) (n : Nat) (es : List E) (r : Rho) (x : Option (V × Hp)) : Option (List V × Hp) := x.bind fun (v, H1) => (evs P n es r H1).map fun (vs, H2) => (v :: vs, H2)
noncomputable def kEvs2 (v : V) (x : Option (List V × Hp)) : Option (List V × Hp) := x.map fun (vs, H2) => (v :: vs, H2)
noncomputable def kTNot (x : Option (Bool × Hp)) : Option (Bool × Hp) := x.map fun (t, H1) => (!t, H1)
noncomputable def kTCmp (P : Prog) (n : Nat) (op : CmpOp) (b : E) (r : Rho) (x : Option (V × Hp)) : Option (Bool × Hp) := x.bind fun (va, H1) => (ev P n b r H1).bind fun (vb, H2) => (pCmp op va vb H2).map fun c => (c, H2)
noncomputable def kTCmp2 (op : CmpOp) (va : V) (x : Option (V × Hp)) : Option (Bool × Hp) := x.bind fun (vb, H2) => (pCmp op va vb H2).map fun c => (c, H2)
noncomputable def kT (x : Option Bool) (H : Hp) : Option (Bool × Hp) := x.map fun c => (c, H)
noncomputable def kTruth (x : Option (V × Hp)) : Option (Bool × Hp) := x.bind fun (v, H1) => (truth v H1).map fun t => (t, H1)
noncomputable def kTAnd (P : Prog) (n : Nat) (es : List E) (r : Rho) (x : Option (Bool × Hp)) : Option (Bool × Hp) := x.bind fun (t, H1) => match t with | true => tAnd P n es r H1 | false => some (false, H1)
noncomputable def kTOr (P : Prog) (n : Nat) (es : List E) (r : Rho) (x : Option (Bool × Hp)) : Option (Bool × Hp) := x.bind fun (t, H1) => match t with | true => some (true, H1) | false => tOr P n es r H1
noncomputable def kAsg (r : Rho) (x : String) (y : Option (V × Hp)) : Option (Fl × Rho × Hp) := y.map fun (v, H1) => (.nx, upd r x v, H1)
noncomputable def kAsgT (r : Rho) (ts : List String) (y : Option (V × Hp)) : Option (Fl × Rho × Hp) := y.bind fun (v, H1) => (bindT r ts false v H1).map fun r2 => (.nx, r2, H1)
noncomputable def kNx (x : Option Rho) (H : Hp) : Option (Fl × Rho × Hp) := x.map fun r2 => (.nx, r2, H)
noncomputable def kSet3 (r : Rho) (v vo : V) (y : Option (V × Hp)) : Option (Fl × Rho × Hp) := y.bind fun (vi, H3) => vo.ref?.bind fun a => vi.int?.bind fun k => (hGet H3 a).bind fun xs => (place k xs.length).map fun j => (.nx, r, hSet H3 a (xs.set j v))
noncomputable def kSet2 (P : Prog) (n : Nat) (i : E) (r : Rho) (v : V) (y : Option (V × Hp)) : Option (Fl × Rho × Hp) := y.bind fun (vo, H2) => kSet3 r v vo (ev P n i r H2)
noncomputable def kSet (P : Prog) (n : Nat) (o i : E) (r : Rho) (y : Option (V × Hp)) : Option (Fl × Rho × Hp) := y.bind fun (v, H1) => kSet2 P n i r v (ev P n o r H1)
noncomputable def kSetP (r : Rho) (H : Hp) (a : Nat) (v : V) (xs : List V) (y : Option Nat) : Option (Fl × Rho × Hp) := y.map fun j => (.nx, r, hSet H a (xs.set j v))
noncomputable def kAug (x : String) (op : Operator) (r : Rho) (v : V) (y : Option (V × Hp)) : Option (Fl × Rho × Hp) := y.bind fun (w, H1) => if isAdd op && augOK v w then (pBin .Add v w H1).map fun (u, H2) => (.nx, upd r x u, H2) else Option.none
noncomputable def kAug1 (P : Prog) (n : Nat) (x : String) (op : Operator) (e : E) (r : Rho) (H : Hp) (o : Option V) : Option (Fl × Rho × Hp) := o.bind fun v => kAug x op r v (ev P n e r H)
noncomputable def kDel2 (r : Rho) (vo : V) (y : Option (V × Hp)) : Option (Fl × Rho × Hp) := y.bind fun (vi, H3) => vo.ref?.bind fun a => vi.int?.bind fun k => (hGet H3 a).bind fun xs => (place k xs.length).map fun j => (.nx, r, hSet H3 a (xs.eraseIdx j))
noncomputable def kDel (P : Prog) (n : Nat) (i : E) (r : Rho) (y : Option (V × Hp)) : Option (Fl × Rho × Hp) := y.bind fun (vo, H2) => kDel2 r vo (ev P n i r H2)
noncomputable def kRet (r : Rho) (y : Option (V × Hp)) : Option (Fl × Rho × Hp) := y.map fun (v, H1) => (.ret v, r, H1)
noncomputable def kIf (P : Prog) (n : Nat) (t f : List S) (r : Rho) (y : Option (Bool × Hp)) : Option (Fl × Rho × Hp) := y.bind fun (b, H1) => match b with | true => exs P n t r H1 | false => exs P n f r H1
noncomputable def kFB (P : Prog) (n : Nat) (b : List S) (H : Hp) (y : Option Rho) : Option (Fl × Rho × Hp) := y.bind fun r2 => exs P n b r2 H
noncomputable def kFor2 (P : Prog) (n : Nat) (ts : List String) (one : Bool) (b : List S) (r : Rho) (s : Src) (H1 : Hp) (y : Option Nat) : Option (Fl × Rho × Hp) := y.bind fun k => forN s (fBody P n ts one b) k 0 r H1
noncomputable def kFor (P : Prog) (n : Nat) (ts : List String) (one : Bool) (b : List S) (r : Rho) (y : Option (Src × Hp)) : Option (Fl × Rho × Hp) := y.bind fun (s, H1) => kFor2 P n ts one b r s H1 (srcLen H1 s)
noncomputable def kEx (r : Rho) (y : Option (V × Hp)) : Option (Fl × Rho × Hp) := y.bind fun (v, H1) => if v.isN then some (.nx, r, H1) else Option.none
noncomputable def kAs (r : Rho) (y : Option (Bool × Hp)) : Option (Fl × Rho × Hp) := y.bind fun (t, H1) => match t with | true => some (.nx, r, H1) | false => Option.none
noncomputable def kCons (P : Prog) (n : Nat) (ss : List S) (y : Option (Fl × Rho × Hp)) : Option (Fl × Rho × Hp) := y.bind fun (f, r1, H1) => match f with | .nx => exs P n ss r1 H1 | .brk => some (.brk, r1, H1) | .ret v => some (.ret v, r1, H1)
noncomputable def kRes (y : Option (V × Hp)) : Option (V × Hp) := y.bind fun (v, H1) => v.str?.bind fun s => if five.contains s then some (.str s, H1) else Option.none
noncomputable def kJG2 (vo : V) (y : Option (V × Hp)) : Option (V × Hp) := y.bind fun (vi, H2) => vo.str?.bind fun sep => vi.ref?.bind fun a => (hGet H2 a).bind fun xs => (strsOf xs).bind fun l => if l.all (fun s => !s.contains 92 && !s.contains 45) then (joinOf sep xs).map fun v => (v, H2) else Option.none
noncomputable def kJG (P : Prog) (n : Nat) (it : E) (r : Rho) (y : Option (V × Hp)) : Option (V × Hp) := y.bind fun (vo, H1) => kJG2 vo (ev P n it r H1)
noncomputable def kR1 (y : Option (V × Hp)) : Option (Src × Hp) := y.bind fun (v, H1) => v.int?.bind fun k => if k < 1000000 && -1000000 < k then some (.ints (rangeUp k), H1) else Option.none
noncomputable def kR3c (va vb : V) (y : Option (V × Hp)) : Option (Src × Hp) := y.bind fun (vc, H3) => va.int?.bind fun x => vb.int?.bind fun y => vc.int?.bind fun z => if z = -1 then (if x < 1000000 && -1000000 < x && y < 1000000 && -1000000 < y then some (.ints (rangeDown x y), H3) else Option.none) else Option.none
noncomputable def kR3b (P : Prog) (n : Nat) (c : E) (r : Rho) (va : V) (y : Option (V × Hp)) : Option (Src × Hp) := y.bind fun (vb, H2) => kR3c va vb (ev P n c r H2)
noncomputable def kR3a (P : Prog) (n : Nat) (b c : E) (r : Rho) (y : Option (V × Hp)) : Option (Src × Hp) := y.bind fun (va, H1) => kR3b P n c r va (ev P n b r H1)
noncomputable def kSrc (y : Option (V × Hp)) : Option (Src × Hp) := y.bind fun (v, H1) => v.ref?.bind fun a => (hGet H1 a).map fun _ => (.list a, H1)
noncomputable def kCB2 (P : Prog) (n : Nat) (elt : E) (ifs : List E) (H : Hp) (y : Option Rho) : Option (Option V × Hp) := y.bind fun r2 => (tsts P n ifs r2 H).bind fun (t, H3) => match t with
          | true => (ev P n elt r2 H3).map fun (x, H4) => (some x, H4)
          | false => some (Option.none, H3)
noncomputable def kCB3 (P : Prog) (n : Nat) (elt : E) (r2 : Rho) (y : Option (Bool × Hp)) : Option (Option V × Hp) := y.bind fun (t, H3) => match t with
          | true => (ev P n elt r2 H3).map fun (x, H4) => (some x, H4)
          | false => some (Option.none, H3)
noncomputable def kCB4 (y : Option (V × Hp)) : Option (Option V × Hp) := y.map fun (x, H4) => (some x, H4)
noncomputable def kRef (a : Nat) (y : Option Hp) : Option (V × Hp) := y.map fun H3 => (.ref a, H3)
noncomputable def kCo2 (P : Prog) (n : Nat) (elt : E) (ts : List String) (one : Bool) (ifs : List E) (r' : Rho) (s : Src) (H1 : Hp) (y : Option Nat) : Option (V × Hp) := y.bind fun k => kRef H1.length (compN s H1.length (cBody P n elt ts one ifs r') k 0 (H1 ++ [.lst []]))
noncomputable def kCo (P : Prog) (n : Nat) (elt : E) (ts : List String) (one : Bool) (ifs : List E) (r' : Rho) (y : Option (Src × Hp)) : Option (V × Hp) := y.bind fun (s, H1) => kCo2 P n elt ts one ifs r' s H1 (srcLen (H1 ++ [.lst []]) s)
noncomputable def kCm2 (P : Prog) (n : Nat) (o1 o2 : CmpOp) (b c : E) (r : Rho) (x : Option (V × Hp)) : Option (Bool × Hp) := x.bind fun (va, H1) => (ev P n b r H1).bind fun (vb, H2) => (pCmp o1 va vb H2).bind fun t => match t with
        | true => (ev P n c r H2).bind fun (vc, H3) => (pCmp o2 vb vc H3).map fun c => (c, H3)
        | false => some (false, H2)
noncomputable def kCm2b (P : Prog) (n : Nat) (o1 o2 : CmpOp) (c : E) (r : Rho) (va : V) (x : Option (V × Hp)) : Option (Bool × Hp) := x.bind fun (vb, H2) => (pCmp o1 va vb H2).bind fun t => match t with
        | true => (ev P n c r H2).bind fun (vc, H3) => (pCmp o2 vb vc H3).map fun c => (c, H3)
        | false => some (false, H2)
noncomputable def kCm2c (P : Prog) (n : Nat) (o2 : CmpOp) (c : E) (r : Rho) (vb : V) (H2 : Hp) (x : Option Bool) : Option (Bool × Hp) := x.bind fun t => match t with
        | true => (ev P n c r H2).bind fun (vc, H3) => (pCmp o2 vb vc H3).map fun c => (c, H3)
        | false => some (false, H2)
noncomputable def kApp (H : Hp) (a : Nat) (x : V) (y : Option (List V)) : Option (V × Hp) := y.bind fun xs => chk xs.length (some (.none, hSet H a (xs ++ [x])))
theorem ev_cN' : ev P (n + 1) .cN r H = some (.none, H) := rfl
@[simp] theorem ev_cN : ev P (n + 1) .cN r H = some (.none, H) := rfl
@[simp] theorem ev_cB (b : Bool) : ev P (n + 1) (.cB b) r H = some (.bool b, H) := rfl
@[simp] theorem ev_cI (i : Int) : ev P (n + 1) (.cI i) r H = some (.int i, H) := rfl
@[simp] theorem ev_cS (s : List Nat) : ev P (n + 1) (.cS s) r H = chk s.length (some (.str s, H)) := rfl
@[simp] theorem ev_var (x : String) : ev P (n + 1) (.var x) r H = kV (r x) H := rfl
@[simp] theorem kV_some (v : V) : kV (some v) H = some (v, H) := rfl
@[simp] theorem ev_bin (op : Operator) (a b : E) : ev P (n + 1) (.bin op a b) r H = kBin P n op b r (ev P n a r H) := rfl
@[simp] theorem kBin_some (op : Operator) (b : E) (va : V) : kBin P n op b r (some (va, H1)) = kBin2 op va (ev P n b r H1) := rfl
@[simp] theorem kBin2_some (op : Operator) (va vb : V) : kBin2 op va (some (vb, H2)) = pBin op va vb H2 := rfl
@[simp] theorem ev_neg (a : E) : ev P (n + 1) (.neg a) r H = kNeg (ev P n a r H) := rfl
@[simp] theorem kNeg_some (i : Int) : kNeg (some (.int i, H)) = some (.int (-i), H) := rfl
@[simp] theorem ev_cmp1 (op : CmpOp) (a b : E) : ev P (n + 1) (.cmp1 op a b) r H = kCmp P n op b r (ev P n a r H) := rfl
@[simp] theorem kCmp_some (op : CmpOp) (b : E) (va : V) : kCmp P n op b r (some (va, H1)) = kCmp2 op va (ev P n b r H1) := rfl
@[simp] theorem kCmp2_some (op : CmpOp) (va vb : V) : kCmp2 op va (some (vb, H2)) = kCB (pCmp op va vb H2) H2 := rfl
@[simp] theorem kCB_some (b : Bool) : kCB (some b) H = some (.bool b, H) := rfl
@[simp] theorem ev_and (a b : E) : ev P (n + 1) (.and_ [a, b]) r H = kAnd P n b r (ev P n a r H) := rfl
@[simp] theorem kAnd_some (b : E) (va : V) : kAnd P n b r (some (va, H1)) = kAndT P n b r va H1 (truth va H1) := rfl
@[simp] theorem kAndT_some (b : E) (va : V) (t : Bool) : kAndT P n b r va H1 (some t) = if t then ev P n b r H1 else some (va, H1) := by cases t <;> rfl
@[simp] theorem ev_or (a b : E) : ev P (n + 1) (.or_ [a, b]) r H = kOr P n b r (ev P n a r H) := rfl
@[simp] theorem kOr_some (b : E) (va : V) : kOr P n b r (some (va, H1)) = kOrT P n b r va H1 (truth va H1) := rfl
@[simp] theorem kOrT_some (b : E) (va : V) (t : Bool) : kOrT P n b r va H1 (some t) = if t then some (va, H1) else ev P n b r H1 := by cases t <;> rfl
@[simp] theorem ev_not (a : E) : ev P (n + 1) (.not_ a) r H = kNot (ev P n a r H) := rfl
@[simp] theorem kNot_some (va : V) : kNot (some (va, H1)) = kNotT (truth va H1) H1 := rfl
@[simp] theorem kNotT_some (t : Bool) : kNotT (some t) H = some (.bool (!t), H) := rfl
@[simp] theorem ev_ite (c a b : E) : ev P (n + 1) (.ite c a b) r H = kIte P n a b r (tst P n c r H) := rfl
@[simp] theorem kIte_some (a b : E) (t : Bool) : kIte P n a b r (some (t, H1)) = if t then ev P n a r H1 else ev P n b r H1 := by cases t <;> rfl
@[simp] theorem ev_callG (f : String) (args : List E) : ev P (n + 1) (.callG f args) r H = kCallA P n f (evs P n args r H) := rfl
@[simp] theorem kCallA_some (f : String) (vs : List V) : kCallA P n f (some (vs, H1)) = kCall P n f vs H1 := rfl
@[simp] theorem ev_callL (f : String) (args : List E) : ev P (n + 1) (.callL f args) r H = kCallL (r f) (evs P n args r H) := rfl
@[simp] theorem kCallL_some (a : Nat) (x : V) : kCallL (some (.app a)) (some ([x], H1)) = kApp H1 a x (hGet H1 a) := rfl
@[simp] theorem ev_meth (o : E) (m : String) (args : List E) : ev P (n + 1) (.meth o m args) r H = kMth1 P n m args r (ev P n o r H) := rfl
@[simp] theorem kMth1_some (m : String) (args : List E) (vo : V) : kMth1 P n m args r (some (vo, H1)) = kMth2 P n m vo H1 (evs P n args r H1) := rfl
@[simp] theorem kMth2_some (m : String) (vo : V) (vs : List V) : kMth2 P n m vo H1 (some (vs, H2)) = kMth P n m vo H1 vs H2 := rfl
@[simp] theorem kMth_ref (m : String) (a : Nat) (vs : List V) : kMth P n m (.ref a) H1 vs H2 = if (hGet H1 a).isSome then pMeth (.ref a) m vs H2 else none := rfl
@[simp] theorem kMth_str (m : String) (a : List Nat) (vs : List V) : kMth P n m (.str a) H1 vs H2 = pMeth (.str a) m vs H2 := rfl
@[simp] theorem ev_sub (o i : E) : ev P (n + 1) (.sub o i) r H = kSub P n i r (ev P n o r H) := rfl
@[simp] theorem kSub_some (i : E) (vo : V) : kSub P n i r (some (vo, H1)) = kSub2 vo (ev P n i r H1) := rfl
@[simp] theorem kSub2_some (vo vi : V) : kSub2 vo (some (vi, H2)) = kV (pSub vo vi H2) H2 := rfl
@[simp] theorem ev_slc (o : E) (lo hi : Option E) : ev P (n + 1) (.slc o lo hi) r H = kSlc P n lo hi r (ev P n o r H) := rfl
@[simp] theorem kSlc_some (lo hi : Option E) (vo : V) : kSlc P n lo hi r (some (vo, H1)) = kSlc2 P n hi r vo (evo P n lo r H1) := rfl
@[simp] theorem kSlc2_some (hi : Option E) (vo : V) (vl : Option V) : kSlc2 P n hi r vo (some (vl, H1)) = kSlc3 vo vl (evo P n hi r H1) := rfl
@[simp] theorem kSlc3_some (vo : V) (vl vh : Option V) : kSlc3 vo vl (some (vh, H1)) = pSlc vo vl vh H1 := rfl
@[simp] theorem ev_lst (es : List E) : ev P (n + 1) (.lst es) r H = kLst (evs P n es r H) := rfl
@[simp] theorem kLst_some (vs : List V) : kLst (some (vs, H1)) = chk vs.length (some (.ref H1.length, H1 ++ [.lst vs])) := rfl
@[simp] theorem ev_tup (es : List E) : ev P (n + 1) (.tup es) r H = kTup (evs P n es r H) := rfl
@[simp] theorem kTup_some (vs : List V) : kTup (some (vs, H1)) = chk vs.length (some (.tup vs, H1)) := rfl
@[simp] theorem ev_fstr (es : List E) : ev P (n + 1) (.fstr es) r H = kFst (evs P n es r H) := rfl
@[simp] theorem kFst_some (vs : List V) : kFst (some (vs, H1)) = (strsOf vs).bind fun l => chk (l.map (·.length)).sum (some (.str l.flatten, H1)) := rfl
@[simp] theorem ev_attr (o : E) (m : String) : ev P (n + 1) (.attr o m) r H = kAttr m (ev P n o r H) := rfl
@[simp] theorem kAttr_some (a : Nat) : kAttr "append" (some (.ref a, H1)) = if (hGet H1 a).isSome then some (.app a, H1) else none := by
  show (if "append" = "append" then (hGet H1 a).map fun _ => (V.app a, H1) else none) = _
  rw [if_pos rfl]
  cases hGet H1 a <;> rfl
@[simp] theorem ev_comp (elt : E) (ts : List String) (one : Bool) (fv : List String) (it : E) (ifs : List E) : ev P (n + 1) (.comp elt ts one fv it ifs) r H = kCo P n elt ts one ifs (rSub fv r) (src P n it r H) := rfl
@[simp] theorem kCo_some (elt : E) (ts : List String) (one : Bool) (ifs : List E) (s : Src) : kCo P n elt ts one ifs r (some (s, H1)) = kCo2 P n elt ts one ifs r s H1 (srcLen (H1 ++ [.lst []]) s) := rfl
@[simp] theorem kCo2_some (elt : E) (ts : List String) (one : Bool) (ifs : List E) (s : Src) (k : Nat) : kCo2 P n elt ts one ifs r s H1 (some k) = kRef H1.length (compN s H1.length (cBody P n elt ts one ifs r) k 0 (H1 ++ [.lst []])) := rfl
@[simp] theorem kRef_some (a : Nat) : kRef a (some H) = some (.ref a, H) := rfl
@[simp] theorem rSub_app (fv : List String) (x : String) : rSub fv r x = if fv.contains x then r x else none := rfl
@[simp] theorem cBody_eq (elt : E) (ts : List String) (one : Bool) (ifs : List E) (v : V) : cBody P n elt ts one ifs r v H = kCB2 P n elt ifs H (bindT r ts one v H) := rfl
@[simp] theorem kCB2_some (elt : E) (ifs : List E) (r2 : Rho) : kCB2 P n elt ifs H (some r2) = kCB3 P n elt r2 (tsts P n ifs r2 H) := rfl
@[simp] theorem kCB3_some (elt : E) (t : Bool) : kCB3 P n elt r (some (t, H1)) = if t then kCB4 (ev P n elt r H1) else some (none, H1) := by cases t <;> rfl
@[simp] theorem kCB4_some (v : V) : kCB4 (some (v, H)) = some (some v, H) := rfl
@[simp] theorem ev_joinGen (o it : E) : ev P (n + 1) (.joinGen o it) r H = kJG P n it r (ev P n o r H) := rfl
@[simp] theorem kJG_some (it : E) (vo : V) : kJG P n it r (some (vo, H1)) = kJG2 vo (ev P n it r H1) := rfl
@[simp] theorem ev_resub (e : E) : ev P (n + 1) (.resub e) r H = kRes (ev P n e r H) := rfl
@[simp] theorem kRes_some (s : List Nat) : kRes (some (.str s, H)) = if five.contains s then some (.str s, H) else none := rfl
@[simp] theorem evo_none : evo P (n + 1) none r H = some (none, H) := rfl
@[simp] theorem evo_some (e : E) : evo P (n + 1) (some e) r H = kEvo (ev P n e r H) := rfl
@[simp] theorem kEvo_some (v : V) : kEvo (some (v, H)) = some (some v, H) := rfl
@[simp] theorem evs_nil : evs P (n + 1) [] r H = some ([], H) := rfl
@[simp] theorem evs_cons (e : E) (es : List E) : evs P (n + 1) (e :: es) r H = kEvs P n es r (ev P n e r H) := rfl
@[simp] theorem kEvs_some (es : List E) (v : V) : kEvs P n es r (some (v, H1)) = kEvs2 v (evs P n es r H1) := rfl
@[simp] theorem kEvs2_some (v : V) (vs : List V) : kEvs2 v (some (vs, H)) = some (v :: vs, H) := rfl
@[simp] theorem tst_not (a : E) : tst P (n + 1) (.not_ a) r H = kTNot (tst P n a r H) := rfl
@[simp] theorem kTNot_some (t : Bool) : kTNot (some (t, H)) = some (!t, H) := rfl
@[simp] theorem tst_and (es : List E) : tst P (n + 1) (.and_ es) r H = tAnd P n es r H := rfl
@[simp] theorem tst_or (es : List E) : tst P (n + 1) (.or_ es) r H = tOr P n es r H := rfl
@[simp] theorem tAnd_nil : tAnd P (n + 1) [] r H = some (true, H) := rfl
@[simp] theorem tAnd_cons (e : E) (es : List E) : tAnd P (n + 1) (e :: es) r H = kTAnd P n es r (tst P n e r H) := rfl
@[simp] theorem kTAnd_some (es : List E) (t : Bool) : kTAnd P n es r (some (t, H1)) = if t then tAnd P n es r H1 else some (false, H1) := by cases t <;> rfl
@[simp] theorem tOr_nil : tOr P (n + 1) [] r H = some (false, H) := rfl
@[simp] theorem tOr_cons (e : E) (es : List E) : tOr P (n + 1) (e :: es) r H = kTOr P n es r (tst P n e r H) := rfl
@[simp] theorem kTOr_some (es : List E) (t : Bool) : kTOr P n es r (some (t, H1)) = if t then some (true, H1) else tOr P n es r H1 := by cases t <;> rfl
@[simp] theorem tst_cmp1 (op : CmpOp) (a b : E) : tst P (n + 1) (.cmp1 op a b) r H = kTCmp P n op b r (ev P n a r H) := rfl
@[simp] theorem kTCmp_some (op : CmpOp) (b : E) (va : V) : kTCmp P n op b r (some (va, H1)) = kTCmp2 op va (ev P n b r H1) := rfl
@[simp] theorem kTCmp2_some (op : CmpOp) (va vb : V) : kTCmp2 op va (some (vb, H2)) = kT (pCmp op va vb H2) H2 := rfl
@[simp] theorem kT_some (t : Bool) : kT (some t) H = some (t, H) := rfl
@[simp] theorem tst_cmp2 (o1 o2 : CmpOp) (a b c : E) : tst P (n + 1) (.cmp2 o1 o2 a b c) r H = kCm2 P n o1 o2 b c r (ev P n a r H) := rfl
@[simp] theorem kCm2_some (o1 o2 : CmpOp) (b c : E) (va : V) : kCm2 P n o1 o2 b c r (some (va, H1)) = kCm2b P n o1 o2 c r va (ev P n b r H1) := rfl
@[simp] theorem kCm2b_some (o1 o2 : CmpOp) (c : E) (va vb : V) : kCm2b P n o1 o2 c r va (some (vb, H2)) = kCm2c P n o2 c r vb H2 (pCmp o1 va vb H2) := rfl
@[simp] theorem kCm2c_some (o2 : CmpOp) (c : E) (vb : V) (t : Bool) : kCm2c P n o2 c r vb H2 (some t) = if t then kTCmp2 o2 vb (ev P n c r H2) else some (false, H2) := by cases t <;> rfl
@[simp] theorem tst_var (x : String) : tst P (n + 1) (.var x) r H = kTruth (ev P n (.var x) r H) := rfl
@[simp] theorem tst_cB (x : Bool) : tst P (n + 1) (.cB x) r H = kTruth (ev P n (.cB x) r H) := rfl
@[simp] theorem tst_sub (o i : E) : tst P (n + 1) (.sub o i) r H = kTruth (ev P n (.sub o i) r H) := rfl
@[simp] theorem tst_callG (f : String) (es : List E) : tst P (n + 1) (.callG f es) r H = kTruth (ev P n (.callG f es) r H) := rfl
@[simp] theorem kTruth_some (v : V) : kTruth (some (v, H)) = kT (truth v H) H := rfl
@[simp] theorem tsts_nil : tsts P (n + 1) [] r H = some (true, H) := rfl
@[simp] theorem tsts_one (e : E) : tsts P (n + 1) [e] r H = tst P n e r H := rfl
@[simp] theorem src_r1 (a : E) : src P (n + 1) (.callG "range" [a]) r H = kR1 (ev P n a r H) := rfl
theorem kR1_some (k : Int) : kR1 (some (.int k, H)) = if k < 1000000 && -1000000 < k then some (.ints (rangeUp k), H) else none := rfl
noncomputable def rangeN (k : Nat) : List Int := rangeUp k
theorem kR1_nat {k : Nat} (h : k < 1000000) : kR1 (some (.int k, H)) = some (.ints (rangeN k), H) := by
  unfold rangeN
  have h1 : (k : Int) < 1000000 := by (first | lia | omega)
  have h2 : -1000000 < (k : Int) := by (first | lia | omega)
  rw [kR1_some, if_pos (by rw [decide_eq_true h1, decide_eq_true h2]; rfl)]
theorem kR1_nat1 {k : Nat} (h : k + 1 < 1000000) : kR1 (some (.int ((k : Int) + 1), H)) = some (.ints (rangeN (k + 1)), H) := kR1_nat h
@[simp] theorem src_r3 (a b c : E) : src P (n + 1) (.callG "range" [a, b, c]) r H = kR3a P n b c r (ev P n a r H) := rfl
@[simp] theorem kR3a_some (b c : E) (va : V) : kR3a P n b c r (some (va, H1)) = kR3b P n c r va (ev P n b r H1) := rfl
@[simp] theorem kR3b_some (c : E) (va vb : V) : kR3b P n c r va (some (vb, H1)) = kR3c va vb (ev P n c r H1) := rfl
@[simp] theorem kR3c_some (x y : Int) : kR3c (.int x) (.int y) (some (.int (-1), H)) = if x < 1000000 && -1000000 < x && y < 1000000 && -1000000 < y then some (.ints (rangeDown x y), H) else none := rfl
@[simp] theorem src_var (x : String) : src P (n + 1) (.var x) r H = kSrc (ev P n (.var x) r H) := rfl
@[simp] theorem src_slc (o : E) (lo hi : Option E) : src P (n + 1) (.slc o lo hi) r H = kSrc (ev P n (.slc o lo hi) r H) := rfl
@[simp] theorem kSrc_some (a : Nat) : kSrc (some (.ref a, H)) = if (hGet H a).isSome then some (.list a, H) else none := by
  show (hGet H a).map (fun _ => (Src.list a, H)) = _
  cases hGet H a <;> rfl
@[simp] theorem ex_asg (x : String) (e : E) : ex P (n + 1) (.asg x e) r H = kAsg r x (ev P n e r H) := rfl
@[simp] theorem kAsg_some (x : String) (v : V) : kAsg r x (some (v, H)) = some (.nx, upd r x v, H) := rfl
@[simp] theorem ex_asgT (ts : List String) (e : E) : ex P (n + 1) (.asgT ts e) r H = kAsgT r ts (ev P n e r H) := rfl
@[simp] theorem kAsgT_some (ts : List String) (v : V) : kAsgT r ts (some (v, H)) = kNx (bindT r ts false v H) H := rfl
@[simp] theorem kNx_some : kNx (some r) H = some (.nx, r, H) := rfl
@[simp] theorem ex_setI (o i e : E) : ex P (n + 1) (.setI o i e) r H = kSet P n o i r (ev P n e r H) := rfl
@[simp] theorem kSet_some (o i : E) (v : V) : kSet P n o i r (some (v, H)) = kSet2 P n i r v (ev P n o r H) := rfl
@[simp] theorem kSet2_some (i : E) (v vo : V) : kSet2 P n i r v (some (vo, H)) = kSet3 r v vo (ev P n i r H) := rfl
noncomputable def kSetH (r : Rho) (H : Hp) (a : Nat) (v : V) (k : Int) (y : Option (List V)) : Option (Fl × Rho × Hp) := y.bind fun xs => kSetP r H a v xs (place k xs.length)
@[simp] theorem kSet3_some (v : V) (a : Nat) (k : Int) : kSet3 r v (.ref a) (some (.int k, H)) = kSetH r H a v k (hGet H a) := rfl
@[simp] theorem kSetH_some (v : V) (a : Nat) (k : Int) (xs : List V) : kSetH r H a v k (some xs) = kSetP r H a v xs (place k xs.length) := rfl
@[simp] theorem kSetP_some (v : V) (a j : Nat) (xs : List V) : kSetP r H a v xs (some j) = some (.nx, r, hSet H a (xs.set j v)) := rfl
@[simp] theorem ex_aug (x : String) (op : Operator) (e : E) : ex P (n + 1) (.aug x op e) r H = kAug1 P n x op e r H (r x) := rfl
@[simp] theorem kAug1_some (x : String) (op : Operator) (e : E) (v : V) : kAug1 P n x op e r H (some v) = kAug x op r v (ev P n e r H) := rfl
noncomputable def kAug2 (r : Rho) (x : String) (y : Option (V × Hp)) : Option (Fl × Rho × Hp) := y.map fun (u, H2) => (.nx, upd r x u, H2)
@[simp] theorem kAug_int (x : String) (i j : Int) : kAug x .Add r (.int i) (some (.int j, H)) = kAsg r x (pBin .Add (.int i) (.int j) H) := rfl
@[simp] theorem kAug_str (x : String) (i j : List Nat) : kAug x .Add r (.str i) (some (.str j, H)) = kAsg r x (pBin .Add (.str i) (.str j) H) := rfl
@[simp] theorem ex_del (o i : E) : ex P (n + 1) (.del o i) r H = kDel P n i r (ev P n o r H) := rfl
@[simp] theorem kDel_some (i : E) (v : V) : kDel P n i r (some (v, H)) = kDel2 r v (ev P n i r H) := rfl
noncomputable def kDelH (r : Rho) (H : Hp) (a : Nat) (k : Int) (y : Option (List V)) : Option (Fl × Rho × Hp) := y.bind fun xs => (place k xs.length).map fun j => (.nx, r, hSet H a (xs.eraseIdx j))
@[simp] theorem kDel2_some (a : Nat) (k : Int) : kDel2 r (.ref a) (some (.int k, H)) = kDelH r H a k (hGet H a) := rfl
@[simp] theorem kDelH_some (a : Nat) (k : Int) (xs : List V) : kDelH r H a k (some xs) = (place k xs.length).map fun j => (.nx, r, hSet H a (xs.eraseIdx j)) := rfl
@[simp] theorem ex_ret (e : E) : ex P (n + 1) (.ret e) r H = kRet r (ev P n e r H) := rfl
@[simp] theorem kRet_some (v : V) : kRet r (some (v, H)) = some (.ret v, r, H) := rfl
@[simp] theorem ex_iff (c : E) (t f : List S) : ex P (n + 1) (.iff c t f) r H = kIf P n t f r (tst P n c r H) := rfl
@[simp] theorem kIf_some (t f : List S) (b : Bool) : kIf P n t f r (some (b, H)) = if b then exs P n t r H else exs P n f r H := by cases b <;> rfl
@[simp] theorem ex_whl (c : E) (b : List S) : ex P (n + 1) (.whl c b) r H = whileN (tst P n c) (exs P n b) 400 r H := rfl
@[simp] theorem ex_for (ts : List String) (one : Bool) (it : E) (b : List S) : ex P (n + 1) (.for_ ts one it b) r H = kFor P n ts one b r (src P n it r H) := rfl
@[simp] theorem kFor_some (ts : List String) (one : Bool) (b : List S) (s : Src) : kFor P n ts one b r (some (s, H)) = kFor2 P n ts one b r s H (srcLen H s) := rfl
@[simp] theorem kFor2_some (ts : List String) (one : Bool) (b : List S) (s : Src) (k : Nat) : kFor2 P n ts one b r s H (some k) = forN s (fBody P n ts one b) k 0 r H := rfl
@[simp] theorem fBody_eq (ts : List String) (one : Bool) (b : List S) (v : V) : fBody P n ts one b v r H = kFB P n b H (bindT r ts one v H) := rfl
@[simp] theorem kFB_some (b : List S) : kFB P n b H (some r) = exs P n b r H := rfl
@[simp] theorem ex_brk : ex P (n + 1) .brk r H = some (.brk, r, H) := rfl
@[simp] theorem ex_ex (e : E) : ex P (n + 1) (.ex e) r H = kEx r (ev P n e r H) := rfl
@[simp] theorem kEx_some : kEx r (some (.none, H)) = some (.nx, r, H) := rfl
@[simp] theorem ex_asrt (e : E) : ex P (n + 1) (.asrt e) r H = kAs r (tst P n e r H) := rfl
@[simp] theorem kAs_some : kAs r (some (true, H)) = some (.nx, r, H) := rfl
@[simp] theorem exs_nil : exs P (n + 1) [] r H = some (.nx, r, H) := rfl
@[simp] theorem exs_cons (s : S) (ss : List S) : exs P (n + 1) (s :: ss) r H = kCons P n ss (ex P n s r H) := rfl
@[simp] theorem kCons_nx (ss : List S) : kCons P n ss (some (.nx, r, H)) = exs P n ss r H := rfl
@[simp] theorem kCons_brk (ss : List S) : kCons P n ss (some (.brk, r, H)) = some (.brk, r, H) := rfl
@[simp] theorem kCons_ret (ss : List S) (v : V) : kCons P n ss (some (.ret v, r, H)) = some (.ret v, r, H) := rfl
@[simp] theorem bindT_one (x : String) (v : V) : bindT r [x] true v H = some (upd r x v) := rfl
@[simp] theorem bindT_tup (ts : List String) (vs : List V) : bindT r ts false (.tup vs) H = if vs.length = ts.length then some (updL r ts vs) else none := rfl
noncomputable def kBT (r : Rho) (ts : List String) (y : Option (List V)) : Option Rho := y.bind fun vs => if vs.length = ts.length then some (updL r ts vs) else none
@[simp] theorem bindT_ref (ts : List String) (a : Nat) : bindT r ts false (.ref a) H = kBT r ts (hGet H a) := rfl
@[simp] theorem kBT_some (ts : List String) (vs : List V) : kBT r ts (some vs) = if vs.length = ts.length then some (updL r ts vs) else none := rfl

noncomputable def kW2 (t : Rho → Hp → Option (Bool × Hp)) (b : Rho → Hp → Option (Fl × Rho × Hp)) (k : Nat) (y : Option (Fl × Rho × Hp)) : Option (Fl × Rho × Hp) := y.bind fun (f, r2, H2) => match f with
      | .nx => whileN t b k r2 H2
      | .brk => some (.nx, r2, H2)
      | .ret v => some (.ret v, r2, H2)
noncomputable def kW (t : Rho → Hp → Option (Bool × Hp)) (b : Rho → Hp → Option (Fl × Rho × Hp)) (k : Nat) (r : Rho) (y : Option (Bool × Hp)) : Option (Fl × Rho × Hp) := y.bind fun (c, H1) => match c with
    | true => (b r H1).bind fun (f, r2, H2) => match f with
      | .nx => whileN t b k r2 H2
      | .brk => some (.nx, r2, H2)
      | .ret v => some (.ret v, r2, H2)
    | false => some (.nx, r, H1)
variable {t : Rho → Hp → Option (Bool × Hp)} {b : Rho → Hp → Option (Fl × Rho × Hp)} {k : Nat}
theorem whileN_succ : whileN t b (k + 1) r H = kW t b k r (t r H) := (Eq.refl (whileN t b (k + 1) r H)).trans (Eq.refl (kW t b k r (t r H)))
@[simp] theorem kW_true : kW t b k r (some (true, H1)) = kW2 t b k (b r H1) := rfl
@[simp] theorem kW_false : kW t b k r (some (false, H1)) = some (.nx, r, H1) := rfl
@[simp] theorem kW2_nx : kW2 t b k (some (.nx, r, H)) = whileN t b k r H := rfl
@[simp] theorem kW2_brk : kW2 t b k (some (.brk, r, H)) = some (.nx, r, H) := rfl
@[simp] theorem kW2_ret (v : V) : kW2 t b k (some (.ret v, r, H)) = some (.ret v, r, H) := rfl

@[simp] theorem pBin_addI (a b : Int) : pBin .Add (.int a) (.int b) H = some (.int (a + b), H) := rfl
@[simp] theorem pBin_subI (a b : Int) : pBin .Sub (.int a) (.int b) H = some (.int (a - b), H) := rfl
@[simp] theorem pBin_modI (a b : Int) : pBin .Mod (.int a) (.int b) H = if 0 < b then some (.int (a % b), H) else none := by
  show (if 0 < b then some (a % b) else none).map (fun z => (V.int z, H)) = _
  by_cases h : 0 < b
  · rw [if_pos h, if_pos h]; rfl
  · rw [if_neg h, if_neg h]; rfl
@[simp] theorem pBin_divI (a b : Int) : pBin .FloorDiv (.int a) (.int b) H = if 0 < b && 0 ≤ a && a < 1000000000 && b < 1000000000 then some (.int (a / b), H) else none := by
  show (if 0 < b && 0 ≤ a && a < 1000000000 && b < 1000000000 then some (a / b) else none).map (fun z => (V.int z, H)) = _
  by_cases h : (0 < b && 0 ≤ a && a < 1000000000 && b < 1000000000) = true
  · rw [if_pos h, if_pos h]; rfl
  · rw [if_neg h, if_neg h]; rfl
@[simp] theorem pBin_addS (a b : List Nat) : pBin .Add (.str a) (.str b) H = chk (a.length + b.length) (some (.str (a ++ b), H)) := rfl
noncomputable def kAddL (H : Hp) (x y : Option (List V)) : Option (V × Hp) := x.bind fun xs => y.bind fun ys => chk (xs.length + ys.length) (some (.ref H.length, H ++ [.lst (xs ++ ys)]))
@[simp] theorem pBin_addL (a b : Nat) : pBin .Add (.ref a) (.ref b) H = kAddL H (hGet H a) (hGet H b) := rfl
@[simp] theorem kAddL_some (xs ys : List V) : kAddL H (some xs) (some ys) = chk (xs.length + ys.length) (some (.ref H.length, H ++ [.lst (xs ++ ys)])) := rfl
noncomputable def kMulL (H : Hp) (n : Int) (x : Option (List V)) : Option (V × Hp) := x.bind fun xs => (one xs).bind fun x => if 0 ≤ n && n < 1000000 then some (.ref H.length, H ++ [.lst (List.replicate n.toNat x)]) else Option.none
@[simp] theorem pBin_mulL (a : Nat) (k : Int) : pBin .Mult (.ref a) (.int k) H = kMulL H k (hGet H a) := rfl
theorem kMulL_some (v : V) (k : Int) : kMulL H k (some [v]) = if 0 ≤ k && k < 1000000 then some (.ref H.length, H ++ [.lst (List.replicate k.toNat v)]) else Option.none := rfl
@[simp] theorem pCmp_ltI (a b : Int) : pCmp .Lt (.int a) (.int b) H = some (decide (a < b)) := rfl
@[simp] theorem pCmp_leI (a b : Int) : pCmp .LtE (.int a) (.int b) H = some (decide (a ≤ b)) := rfl
@[simp] theorem pCmp_gtI (a b : Int) : pCmp .Gt (.int a) (.int b) H = some (decide (b < a)) := rfl
@[simp] theorem pCmp_geI (a b : Int) : pCmp .GtE (.int a) (.int b) H = some (decide (b ≤ a)) := rfl
@[simp] theorem pCmp_eqI (a b : Int) : pCmp .Eq (.int a) (.int b) H = some (a == b) := rfl
@[simp] theorem pCmp_neI (a b : Int) : pCmp .NotEq (.int a) (.int b) H = some (a != b) := rfl
@[simp] theorem pCmp_eqS (a b : List Nat) : pCmp .Eq (.str a) (.str b) H = some (a == b) := rfl
@[simp] theorem pCmp_neS (a b : List Nat) : pCmp .NotEq (.str a) (.str b) H = some (a != b) := rfl
@[simp] theorem pCmp_leS (a b : List Nat) : pCmp .LtE (.str a) (.str b) H = some (!decide (b < a)) := rfl
@[simp] theorem pCmp_gtS (a b : List Nat) : pCmp .Gt (.str a) (.str b) H = some (decide (b < a)) := rfl
@[simp] theorem pCmp_eqB (a b : Bool) : pCmp .Eq (.bool a) (.bool b) H = some (a == b) := rfl
@[simp] theorem pCmp_neB (a b : Bool) : pCmp .NotEq (.bool a) (.bool b) H = some (a != b) := rfl
@[simp] theorem pCmp_eqT (a b : List V) : pCmp .Eq (.tup a) (.tup b) H = if a.length = b.length then eqS a b else none := rfl
noncomputable def kEqL (H : Hp) (x y : Option (List V)) : Option Bool := x.bind fun xs => y.bind fun ys => eqLst H xs ys
noncomputable def kNeL (H : Hp) (x y : Option (List V)) : Option Bool := x.bind fun xs => y.bind fun ys => (eqLst H xs ys).map not
@[simp] theorem pCmp_eqL (a b : Nat) : pCmp .Eq (.ref a) (.ref b) H = kEqL H (hGet H a) (hGet H b) := rfl
@[simp] theorem pCmp_neL (a b : Nat) : pCmp .NotEq (.ref a) (.ref b) H = kNeL H (hGet H a) (hGet H b) := rfl
@[simp] theorem kEqL_some (xs ys : List V) : kEqL H (some xs) (some ys) = eqLst H xs ys := rfl
@[simp] theorem kNeL_some (xs ys : List V) : kNeL H (some xs) (some ys) = (eqLst H xs ys).map not := rfl
@[simp] theorem pCmp_isN : pCmp .Is .none .none H = some true := rfl
@[simp] theorem pCmp_isTN (a : List V) : pCmp .Is (.tup a) .none H = some false := rfl
@[simp] theorem pCmp_isNR (a b : Nat) : pCmp .IsNot (.ref a) (.ref b) H = some (a != b) := rfl
@[simp] theorem pCmp_isNS (a : List Nat) (b : Nat) : pCmp .IsNot (.str a) (.ref b) H = some true := rfl
@[simp] theorem pCmp_isR (a b : Nat) : pCmp .Is (.ref a) (.ref b) H = some (a == b) := rfl
@[simp] theorem pCmp_isS (a : List Nat) (b : Nat) : pCmp .Is (.str a) (.ref b) H = some false := rfl
@[simp] theorem pCmp_in (c : Nat) (s : List Nat) : pCmp .In (.str [c]) (.str s) H = some (s.contains c) := rfl
@[simp] theorem pCmp_notIn (c : Nat) (s : List Nat) : pCmp .NotIn (.str [c]) (.str s) H = some (!s.contains c) := rfl
@[simp] theorem pCmp_inT (c a b : List Nat) : pCmp .In (.str c) (.tup [.str a, .str b]) H = some (c == a || c == b) := rfl
noncomputable def kIx (k : Int) (y : Option (List V)) : Option V := y.bind fun xs => (place k xs.length).bind fun j => xs[j]?
@[simp] theorem pSub_ref (a : Nat) (k : Int) : pSub (.ref a) (.int k) H = kIx k (hGet H a) := rfl
@[simp] theorem kIx_some (k : Int) (xs : List V) : kIx k (some xs) = (place k xs.length).bind fun j => xs[j]? := rfl
@[simp] theorem pSub_tup (k : Int) (xs : List V) : pSub (.tup xs) (.int k) H = if 0 ≤ k then xs[k.toNat]? else none := rfl
theorem pSub_str (k : Int) (s : List Nat) : pSub (.str s) (.int k) H = (place k s.length).bind fun j => (s[j]?).map fun c => V.str [c] := rfl
@[simp] theorem truth_b (b : Bool) : truth (.bool b) H = some b := rfl
@[simp] theorem truth_N : truth .none H = some false := rfl
@[simp] theorem truth_S (s : List Nat) : truth (.str s) H = some (!s.isEmpty) := rfl
noncomputable def kTL (y : Option (List V)) : Option Bool := y.map fun xs => !xs.isEmpty
@[simp] theorem truth_L (a : Nat) : truth (.ref a) H = kTL (hGet H a) := rfl
@[simp] theorem kTL_some (xs : List V) : kTL (some xs) = some (!xs.isEmpty) := rfl
@[simp] theorem pMeth_append (a : Nat) (x : V) : pMeth (.ref a) "append" [x] H = kApp H a x (hGet H a) := rfl
@[simp] theorem kApp_some (a : Nat) (x : V) (xs : List V) : kApp H a x (some xs) = chk xs.length (some (.none, hSet H a (xs ++ [x]))) := rfl
noncomputable def kJoin (H : Hp) (sep : List Nat) (y : Option (List V)) : Option (V × Hp) := y.bind fun xs => (joinOf sep xs).map fun v => (v, H)
@[simp] theorem pMeth_join (a : Nat) (sep : List Nat) : pMeth (.str sep) "join" [.ref a] H = kJoin H sep (hGet H a) := rfl
@[simp] theorem kJoin_some (xs : List V) (sep : List Nat) : kJoin H sep (some xs) = kV (joinOf sep xs) H := rfl
@[simp] theorem pMeth_find (c : Nat) (s : List Nat) (k j : Int) : pMeth (.str s) "find" [.str [c], .int k, .int j] H = if 0 ≤ k && 0 ≤ j then some (.int (findIn1 c s k.toNat j.toNat), H) else none := rfl
@[simp] theorem pMeth_replace (c : Nat) (s t : List Nat) : pMeth (.str s) "replace" [.str [c], .str t] H = if s.contains c then none else some (.str s, H) := rfl
@[simp] theorem pMeth_startswith (s t : List Nat) : pMeth (.str s) "startswith" [.str t] H = some (.bool (t.isPrefixOf s), H) := rfl
@[simp] theorem str?_str (s : List Nat) : (V.str s).str? = some s := rfl
@[simp] theorem int?_int (i : Int) : (V.int i).int? = some i := rfl
@[simp] theorem bool?_bool (i : Bool) : (V.bool i).bool? = some i := rfl
@[simp] theorem ref?_ref (i : Nat) : (V.ref i).ref? = some i := rfl
theorem oInt_none : oInt none = some none := rfl
theorem oInt_int (k : Int) : oInt (some (.int k)) = some (some k) := rfl
theorem slcAt_str (s : List Nat) (lo hi : Option Int) : slcAt (.str s) lo hi H = some (.str (pySlice lo hi s), H) := rfl
theorem slcAt_scr (xs : List V) (lo hi : Option Int) : slcAt (.scr xs) lo hi H = some (.ref H.length, H ++ [.lst (pySlice lo hi xs)]) := rfl
/- the heap -/
theorem hGet_end (H : Hp) (xs : List V) : hGet (H ++ [.lst xs]) H.length = some xs := by simp [hGet]
theorem hGet_old {a : Nat} (H X : Hp) (h : a < H.length) : hGet (H ++ X) a = hGet H a := by simp only [hGet, List.getElem?_append_left h]
theorem hGet_set (H : Hp) {a : Nat} (xs : List V) (h : a < H.length) : hGet (hSet H a xs) a = some xs := by simp [hGet, hSet, h]
theorem hGet_set_ne (H : Hp) {a b : Nat} (xs : List V) (h : a ≠ b) : hGet (hSet H a xs) b = hGet H b := by simp [hGet, hSet, h]
@[simp] theorem len_set (H : Hp) (a : Nat) (xs : List V) : (hSet H a xs).length = H.length := by simp [hSet]
theorem hGet_lt {H : Hp} {a : Nat} {xs : List V} (h : hGet H a = some xs) : a < H.length := by
  unfold hGet at h
  cases e : H[a]? with
  | none => rw [e] at h; cases h
  | some y => exact (List.getElem?_eq_some_iff.1 e).1

noncomputable def Ext (H H' : Hp) : Prop := H.length ≤ H'.length ∧ ∀ a, a < H.length → H'[a]? = H[a]?
theorem Ext.rfl' {H : Hp} : Ext H H := ⟨Nat.le_refl _, fun _ _ => rfl⟩
theorem Ext.trans {H1 H2 H3 : Hp} (h : Ext H1 H2) (g : Ext H2 H3) : Ext H1 H3 := ⟨Nat.le_trans h.1 g.1, fun a ha => (g.2 a (Nat.lt_of_lt_of_le ha h.1)).trans (h.2 a ha)⟩
theorem Ext.app {H X : Hp} : Ext H (H ++ X) := ⟨by simp, fun a ha => List.getElem?_append_left ha⟩
theorem Ext.add {H H' X : Hp} (h : Ext H H') : Ext H (H' ++ X) := h.trans .app
theorem Ext.set {H H' : Hp} {a : Nat} {xs : List V} (h : Ext H H') (ha : H.length ≤ a) : Ext H (hSet H' a xs) := ⟨by simpa using h.1, fun b hb => by rw [← h.2 b hb]; simp [hSet, List.getElem?_set, show a ≠ b by (first | lia | omega)]⟩
theorem Ext.get {H H' : Hp} {a : Nat} {xs : List V} (h : Ext H H') (e : hGet H a = some xs) : hGet H' a = some xs := by
  have := hGet_lt e
  unfold hGet at *
  rw [h.2 a this]; exact e
theorem Ext.isMgr {H H' : Hp} {a : Nat} (h : Ext H H') (e : isMgr H a = true) : isMgr H' a = true := by
  have : a < H.length := by
    unfold Mine.isMgr at e
    cases e' : H[a]? with
    | none => rw [e'] at e; cases e
    | some y => exact (List.getElem?_eq_some_iff.1 e').1
  unfold Mine.isMgr at *
  rw [h.2 a this]; exact e
end Engine
end Mine
end

section
set_option Elab.async false
set_option linter.all false
set_option maxRecDepth 100000
namespace Mine
open PySem PyProof.Rows

noncomputable def PP : Prog := progOf fnTable
theorem PP_translate : PP "translate" = some (["pat"], bdtranslate) := by rw [← fbodytranslate]; rfl
theorem PP_tr : PP "_translate" = some (["pat", "STAR", "QUESTION_MARK"], bd_translate) := by rw [← fbody_translate]; rfl
theorem PP_join : PP "_join_translated_parts" = some (["inp", "STAR"], bd_join_translated_parts) := by rw [← fbody_join_translated_parts]; rfl
theorem PP_piece : PP "_law_piece" = some (["kind", "more"], bd_law_piece) := by rw [← fbody_law_piece]; rfl
theorem PP_last : PP "_law_last" = some (["number"], bd_law_last) := by rw [← fbody_law_last]; rfl
theorem PP_in : PP "_law_in" = some (["item", "sign"], bd_law_in) := by rw [← fbody_law_in]; rfl
theorem PP_meant : PP "_law_meant" = some (["items", "path"], bd_law_meant) := by rw [← fbody_law_meant]; rfl
theorem PP_member : PP "_law_member" = some (["body", "at"], bd_law_member) := by rw [← fbody_law_member]; rfl
theorem PP_set : PP "_law_set" = some (["body", "at"], bd_law_set) := by rw [← fbody_law_set]; rfl
theorem PP_read : PP "_law_read" = some (["text"], bd_law_read) := by rw [← fbody_law_read]; rfl
theorem PP_here : PP "_law_here" = some (["run", "name", "at"], bd_law_here) := by rw [← fbody_law_here]; rfl
theorem PP_takes : PP "_law_takes" = some (["runs", "name"], bd_law_takes) := by rw [← fbody_law_takes]; rfl
theorem PP_sub : PP "is_suburi" = some (["self", "base", "test"], bdis_suburi) := by rw [← fbodyis_suburi]; rfl
theorem PP_len : PP "len" = none := rfl
theorem PP_sum : PP "sum" = none := rfl
theorem PP_object : PP "object" = none := rfl
theorem PP_mgr : PP "HTTPPasswordMgr" = none := rfl
theorem PP_escape : PP "escape" = none := rfl

variable {n : Nat} {H H' : Hp}
/- an equation that simp leaves whole -/
noncomputable def Same {α : Type} (x y : α) : Prop := x = y
theorem same {α : Type} {x : α} : Same x x := rfl
noncomputable def Yld (x : Option (Fl × Rho × Hp)) (v : V) (H' : Hp) : Prop := ∃ r', x = some (.ret v, r', H')
@[simp] theorem Yld_some (v v' : V) (r : Rho) (H H' : Hp) : Yld (some (.ret v', r, H)) v H' = Same (v', H) (v, H') := by
  unfold Yld Same
  exact propext ⟨fun ⟨r', h⟩ => by injection h with h; injection h with h1 h2; injection h1 with h1; injection h2 with _ h2; rw [h1, h2], fun h => ⟨r, by injection h with h1 h2; rw [h1, h2]⟩⟩
theorem kCall_fn {P : Prog} {f : String} {ps : List String} {body : List S} {vs : List V} {v : V} (hP : P f = some (ps, body)) (hl : ps.length = vs.length) (hf : f ≠ "is_suburi") (h : Yld (exs P n body (updL rnil ps vs) H) v H') : kCall P n f vs H = some (v, H') := by
  unfold kCall
  rw [hP]
  exact (if_pos ⟨hl, hf⟩).trans (h.elim fun r' h => by rw [h]; rfl)
theorem kCall_none {f : String} {vs : List V} (hP : PP f = none) : kCall PP (n + 2) f vs H = pGlob f vs H := by
  unfold kCall
  rw [hP]
  exact if_pos (Nat.le_add_left 2 n)
@[simp] theorem kCall_lenS (s : List Nat) : kCall PP (n + 2) "len" [.str s] H = some (.int s.length, H) := (kCall_none PP_len).trans rfl
noncomputable def kLen (H : Hp) (y : Option (List V)) : Option (V × Hp) := y.map fun xs => (.int xs.length, H)
@[simp] theorem kCall_lenL (a : Nat) : kCall PP (n + 2) "len" [.ref a] H = kLen H (hGet H a) := (kCall_none PP_len).trans rfl
@[simp] theorem kLen_some (xs : List V) : kLen H (some xs) = some (.int xs.length, H) := rfl
@[simp] theorem kCall_obj : kCall PP (n + 2) "object" [] H = some (.ref H.length, H ++ [.obj false]) := (kCall_none PP_object).trans rfl
@[simp] theorem kCall_mgr : kCall PP (n + 2) "HTTPPasswordMgr" [] H = some (.mgr H.length, H ++ [.obj true]) := (kCall_none PP_mgr).trans rfl
@[simp] theorem kCall_esc (c : Nat) : kCall PP (n + 2) "escape" [.str [c]] H = if c = 97 || c = 47 then some (.str [c], H) else if c = 46 then some (.str [92, 46], H) else none := (kCall_none PP_escape).trans rfl
noncomputable def kSum (H : Hp) (y : Option (List V)) : Option (V × Hp) := y.bind fun xs => (intsOf xs).bind fun l => if l.all (fun i => 0 ≤ i && i < 1000000) && l.length < 1000 then some (.int l.sum, H) else Option.none
@[simp] theorem kCall_sum (a : Nat) : kCall PP (n + 2) "sum" [.ref a] H = kSum H (hGet H a) := (kCall_none PP_sum).trans rfl

/- a glyph: its text and what it means (none: the star) -/
inductive Glyph where
  | star | any | notA | slashA | slash | chA | dot | notBA | notSlash | aToB
  deriving DecidableEq

noncomputable def Glyph.text : Glyph → List Nat
  | .star => [42] | .any => [63] | .notA => [91, 33, 97, 93] | .slashA => [91, 47, 45, 97, 93] | .slash => [47] | .chA => [97] | .dot => [46] | .notBA => [91, 33, 98, 45, 97, 93] | .notSlash => [91, 33, 47, 93] | .aToB => [91, 97, 45, 98, 93]
noncomputable def Glyph.item : Glyph → Option (Bool × List (Nat × Nat))
  | .star => none | .any => some (true, []) | .notA => some (true, [(97, 97)]) | .slashA => some (false, [(47, 97)]) | .slash => some (false, [(47, 47)]) | .chA => some (false, [(97, 97)]) | .dot => some (false, [(46, 46)]) | .notBA => some (true, [])
  | .notSlash => some (true, [(47, 47)]) | .aToB => some (false, [(97, 98)])

noncomputable def lastGl (k : Int) : Glyph := if k % 3 = 0 then .chA else if k % 3 = 1 then .notSlash else .aToB
noncomputable def pieceGl (kind more : Int) : Glyph := if kind < 2 then .star else if kind = 2 then .any else if kind = 3 then .notA else if kind = 4 then .slashA else if kind = 5 then .slash else if kind = 6 then (if more % 2 = 0 then .chA else .dot) else .notBA

/- ranges as values -/
noncomputable def rngV (l : List (Nat × Nat)) : List V := l.map fun p => .tup [.str [p.1], .str [p.2]]
/- v is the item of the glyph's meaning, in H -/
noncomputable def ItemAt (H : Hp) (v : V) : Option (Bool × List (Nat × Nat)) → Prop
  | none => v = .none
  | some (b, l) => ∃ a, v = .tup [.bool b, .ref a] ∧ hGet H a = some (rngV l)
theorem ItemAt.ext {v : V} : ∀ {i : Option (Bool × List (Nat × Nat))}, Ext H H' → ItemAt H v i → ItemAt H' v i
  | none, _, h => h
  | some (_, _), e, ⟨a, h1, h2⟩ => ⟨a, h1, e.get h2⟩

noncomputable def ItemF (F : Nat → Prop) (H : Hp) (v : V) : Option (Bool × List (Nat × Nat)) → Prop
  | none => v = .none
  | some (b, l) => ∃ a, v = .tup [.bool b, .ref a] ∧ hGet H a = some (rngV l) ∧ F a
/- signs a path may have -/
noncomputable def Plain (t : List Nat) : Prop := ∀ c ∈ t, c = 47 ∨ c = 97 ∨ c = 98 ∨ c = 46

/- rules: a run, one step at a time -/
section
variable {P : Prog} {r : Rho} {H1 H2 : Hp} {e c a b : E} {es : List E} {t f ss : List S} {v va vb : V} {vs : List V} {x : String}
theorem Yr (h : ev P n e r H = some (v, H')) : Yld (exs P (n + 2) (.ret e :: ss) r H) v H' := ⟨r, by rw [exs_cons, ex_ret, h]; rfl⟩
theorem Yc {s : S} {r1 : Rho} (h : ex P n s r H = some (.nx, r1, H1)) (k : Yld (exs P n ss r1 H1) v H') : Yld (exs P (n + 1) (s :: ss) r H) v H' := k.elim fun r' k => ⟨r', by rw [exs_cons, h]; exact k⟩
theorem Yt (hc : tst P n c r H = some (true, H)) (h : Yld (exs P n t r H) v H') : Yld (exs P (n + 2) (.iff c t f :: ss) r H) v H' := h.elim fun r' h => ⟨r', by rw [exs_cons, ex_iff, hc]; exact (congrArg (kCons P (n + 1) ss) h).trans rfl⟩
theorem Yf (hc : tst P (n + 1) c r H = some (false, H)) (k : Yld (exs P (n + 2) ss r H) v H') : Yld (exs P (n + 3) (.iff c t [] :: ss) r H) v H' := Yc (by rw [ex_iff, hc]; rfl) k
theorem Ya (h : ev P n e r H = some (va, H1)) (k : Yld (exs P (n + 1) ss (upd r x va) H1) v H') : Yld (exs P (n + 2) (.asg x e :: ss) r H) v H' := Yc (by rw [ex_asg, h]; rfl) k
theorem eC (h : ev P n e r H = some (v, H1)) (k : evs P n es r H1 = some (vs, H2)) : evs P (n + 1) (e :: es) r H = some (v :: vs, H2) := by rw [evs_cons, h, kEvs_some, k]; rfl
theorem eT (h : evs P n es r H = some (vs, H1)) (hl : vs.length ≤ 64) : ev P (n + 1) (.tup es) r H = some (.tup vs, H1) := by rw [ev_tup, h]; exact if_pos (lim_lit hl)
theorem eL (h : evs P n es r H = some (vs, H1)) (hl : vs.length ≤ 64) : ev P (n + 1) (.lst es) r H = some (.ref H1.length, H1 ++ [.lst vs]) := by rw [ev_lst, h]; exact if_pos (lim_lit hl)
theorem eS (h : ev P n a r H = some (va, H1)) (k : ev P n b r H1 = some (vb, H2)) (g : pSub va vb H2 = some v) : ev P (n + 1) (.sub a b) r H = some (v, H2) := by rw [ev_sub, h, kSub_some, k, kSub2_some, g]; rfl
theorem eB {op : PySem.Operator} {w : V × Hp} (h : ev P n a r H = some (va, H1)) (k : ev P n b r H1 = some (vb, H2)) (g : pBin op va vb H2 = some w) : ev P (n + 1) (.bin op a b) r H = some w := by rw [ev_bin, h, kBin_some, k]; exact g
theorem eK {s : List Nat} (h : s.length ≤ 64) : ev P (n + 1) (.cS s) r H = some (.str s, H) := if_pos (lim_lit h)
theorem eV (h : r x = some v) : ev P (n + 1) (.var x) r H = some (v, H) := congrArg (fun o => kV o H) h
theorem eT3 {va vb vc : V} {H3 : Hp} (h1 : ev P (n + 3) a r H = some (va, H1)) (h2 : ev P (n + 2) b r H1 = some (vb, H2)) (h3 : ev P (n + 1) c r H2 = some (vc, H3)) : ev P (n + 5) (.tup [a, b, c]) r H = some (.tup [va, vb, vc], H3) := eT (eC h1 (eC h2 (eC h3 rfl))) (Nat.le_of_ble_eq_true rfl)
theorem eT2 {va vb : V} (h1 : ev P (n + 3) a r H = some (va, H1)) (h2 : ev P (n + 2) b r H1 = some (vb, H2)) : ev P (n + 5) (.tup [a, b]) r H = some (.tup [va, vb], H2) := eT (eC h1 (eC h2 rfl)) (Nat.le_of_ble_eq_true rfl)
theorem eItem {s : Bool} {l : List (Nat × Nat)} (h : evs P (n + 1) es r H = some (rngV l, H)) (hl : l.length ≤ 64) : ev P (n + 5) (.tup [.cB s, .lst es]) r H = some (.tup [.bool s, .ref H.length], H ++ [.lst (rngV l)]) := eT2 rfl (eL h (by rw [rngV, List.length_map]; exact hl))
theorem eRng {x y : Nat} (h1 : ev P (n + 4) a r H = some (.str [x], H)) (h2 : ev P (n + 3) b r H = some (.str [y], H)) : evs P (n + 7) [.tup [a, b]] r H = some (rngV [(x, y)], H) := eC (eT2 h1 h2) rfl
theorem eModI {k d : Int} (hd : 0 < d) (h : ev P (n + 1) a r H = some (.int k, H1)) : ev P (n + 2) (.bin .Mod a (.cI d)) r H = some (.int (k % d), H1) := eB h rfl ((pBin_modI k d).trans (if_pos hd))
theorem eMod {k d : Int} (hd : 0 < d) (h : r x = some (.int k)) : ev P (n + 2) (.bin .Mod (.var x) (.cI d)) r H = some (.int (k % d), H) := eModI hd (eV h)
theorem tEq {x y : Int} {t : Bool} (h1 : ev P n a r H = some (.int x, H)) (h2 : ev P n b r H = some (.int y, H)) (ht : (x == y) = t) : tst P (n + 1) (.cmp1 .Eq a b) r H = some (t, H) := by rw [tst_cmp1, h1, kTCmp_some, h2, ← ht]; rfl
theorem tLt {x y : Int} {t : Bool} (h1 : ev P n a r H = some (.int x, H)) (h2 : ev P n b r H = some (.int y, H)) (ht : decide (x < y) = t) : tst P (n + 1) (.cmp1 .Lt a b) r H = some (t, H) := by rw [tst_cmp1, h1, kTCmp_some, h2, ← ht]; rfl
end
noncomputable def lastR (k : Int) : Rho := updL rnil ["number"] [.int k]
theorem lastR_n (k : Int) : lastR k "number" = some (.int k) := rfl
theorem last_at {H : Hp} {k : Int} {g : Glyph} {b : Bool} {l : List (Nat × Nat)} (hg : lastGl k = g) (e : g.item = some (b, l)) (h : ∀ m, Yld (exs PP (m + 20) bd_law_last (lastR k) H) (.tup [.str g.text, .tup [.bool b, .ref H.length], .str [97]]) (H ++ [.lst (rngV l)])) : ∃ v H', (∀ m, kCall PP (m + 20) "_law_last" [.int k] H = some (.tup [.str (lastGl k).text, v, .str [97]], H')) ∧ Ext H H' ∧ ItemF (fun a => H.length ≤ a) H' v (lastGl k).item := by
  rw [hg, e]
  exact ⟨_, _, fun m => kCall_fn PP_last rfl (by decide) (h m), .app, _, rfl, hGet_end _ _, Nat.le_refl _⟩
theorem run_last (H : Hp) (k : Int) : ∃ v H', (∀ m, kCall PP (m + 20) "_law_last" [.int k] H = some (.tup [.str (lastGl k).text, v, .str [97]], H')) ∧ Ext H H' ∧ ItemF (fun a => H.length ≤ a) H' v (lastGl k).item := by
  have three : (0 : Int) < 3 := by decide
  by_cases h0 : k % 3 = 0
  · exact last_at (g := .chA) (if_pos h0) rfl fun m => Yt (tEq (eMod three (lastR_n k)) rfl (beq_iff_eq.mpr h0)) (Yr (eT3 (eK (by decide)) (eItem (eRng (eK (by decide)) (eK (by decide))) (by decide)) (eK (by decide))))
  · have f0 : ∀ m, tst PP (m + 4) (.cmp1 .Eq (.bin .Mod (.var "number") (.cI 3)) (.cI 0)) (lastR k) H = some (false, H) := fun m => tEq (eMod three (lastR_n k)) rfl (beq_eq_false_iff_ne.mpr h0)
    by_cases h1 : k % 3 = 1
    · exact last_at (g := .notSlash) ((if_neg h0).trans (if_pos h1)) rfl fun m => Yf (f0 _) (Yt (tEq (eMod three (lastR_n k)) rfl (beq_iff_eq.mpr h1)) (Yr (eT3 (eK (by decide)) (eItem (eRng (eK (by decide)) (eK (by decide))) (by decide)) (eK (by decide)))))
    · exact last_at (g := .aToB) ((if_neg h0).trans (if_neg h1)) rfl fun m => Yf (f0 _) (Yf (tEq (eMod three (lastR_n k)) rfl (beq_eq_false_iff_ne.mpr h1)) (Yr (eT3 (eK (by decide)) (eItem (eRng (eK (by decide)) (eK (by decide))) (by decide)) (eK (by decide)))))

theorem plain_nil : Plain [] := by intro c h; cases h
theorem plain_one {a : Nat} (h : a = 47 ∨ a = 97 ∨ a = 98 ∨ a = 46) : Plain [a] := by intro c hc; simp at hc; subst hc; exact h
theorem plain_two {a b : Nat} (h : a = 47 ∨ a = 97 ∨ a = 98 ∨ a = 46) (g : b = 47 ∨ b = 97 ∨ b = 98 ∨ b = 46) : Plain [a, b] := by intro c hc; simp at hc; rcases hc with rfl | rfl <;> assumption
theorem plain_app {s t : List Nat} (h : Plain s) (g : Plain t) : Plain (s ++ t) := fun c hc => (List.mem_append.1 hc).elim (h c) (g c)

theorem place_mod {n : Nat} {j k : Int} (hk : (n : Int) = k) (h : 0 < k) : (j % k).toNat < n ∧ place (j % k) n = some (j % k).toNat := by
  have h1 := Int.emod_nonneg j (Int.ne_of_gt h)
  have h2 := Int.emod_lt_of_pos j h
  have h3 : (j % k).toNat < n := by (first | lia | omega)
  exact ⟨h3, by unfold place; rw [if_pos h1, if_pos h3]⟩
theorem pick_str (l : List Nat) {j k : Int} (hk : (l.length : Int) = k) (h : 0 < k) : ∃ c, c ∈ l ∧ ∀ H, pSub (.str l) (.int (j % k)) H = some (.str [c]) :=
  have p := place_mod (j := j) hk h
  have q := p.1
  ⟨l[(j % k).toNat]'q, List.getElem_mem _, fun H => by rw [pSub_str, p.2, Option.bind_some, List.getElem?_eq_getElem q]; rfl⟩
theorem pick_lst (l : List (List Nat)) {j k : Int} (hk : (l.length : Int) = k) (h : 0 < k) : ∃ c, c ∈ l ∧ ∀ H : Hp, pSub (.ref H.length) (.int (j % k)) (H ++ [.lst (l.map .str)]) = some (.str c) :=
  have p := place_mod (j := j) hk h
  have q := p.1
  ⟨l[(j % k).toNat]'q, List.getElem_mem _, fun H => by
    show (hGet _ _).bind _ = _
    rw [hGet_end, Option.bind_some, List.length_map, p.2, Option.bind_some, List.getElem?_map, List.getElem?_eq_getElem q]; rfl⟩
theorem sgn {l : List Nat} (h : (l.all fun c => c == 47 || c == 97 || c == 98 || c == 46) = true) : Plain l := fun c hc => by
  have := List.all_eq_true.mp h c hc
  simpa only [Bool.or_eq_true, beq_iff_eq, or_assoc] using this
noncomputable def pcR (k j : Int) : Rho := updL rnil ["kind", "more"] [.int k, .int j]
theorem pcR_k (k j : Int) : pcR k j "kind" = some (.int k) := by simp [pcR]
theorem pcR_m (k j : Int) : pcR k j "more" = some (.int j) := by simp [pcR]
noncomputable def PcAt (H : Hp) (k j : Int) (g : Glyph) : Prop := ∃ v t H', (∀ m, kCall PP (m + 30) "_law_piece" [.int k, .int j] H = some (.tup [.str g.text, v, .str t], H')) ∧ Ext H H' ∧ ItemF (fun a => H.length ≤ a) H' v g.item ∧ Plain t ∧ t.length ≤ 2
theorem pc_at {H : Hp} {k j : Int} {g : Glyph} {b : Bool} {l : List (Nat × Nat)} {c : Nat} (e : g.item = some (b, l)) (hc : Plain [c]) (h : ∀ m, Yld (exs PP (m + 30) bd_law_piece (pcR k j) H) (.tup [.str g.text, .tup [.bool b, .ref H.length], .str [c]]) (H ++ [.lst (rngV l)])) : PcAt H k j g :=
  ⟨_, _, _, fun m => kCall_fn PP_piece rfl (by decide) (h m), .app, by rw [e]; exact ⟨_, rfl, hGet_end _ _, Nat.le_refl _⟩, hc, Nat.le_of_ble_eq_true rfl⟩
theorem plain_in {l : List Nat} {c : Nat} (h : Plain l) (hc : c ∈ l) : Plain [c] := fun x hx => (List.mem_singleton.mp hx) ▸ h c hc
section
variable {H : Hp} {j : Int}
theorem pc_lo {k : Int} (hk : k < 2) : PcAt H k j .star := by
  obtain ⟨t, ht, hp⟩ := pick_lst [[], [47], [97], [98, 47], [47, 97]] (j := j) (k := 5) rfl (by decide)
  have hq : Plain t ∧ t.length ≤ 2 := by
    have : ∀ t ∈ [[], [47], [97], [98, 47], [47, 97]], (t.all fun c => c == 47 || c == 97 || c == 98 || c == 46) = true ∧ t.length ≤ 2 := by decide
    exact ⟨sgn (this t ht).1, (this t ht).2⟩
  exact ⟨.none, t, H ++ [.lst ([[], [47], [97], [98, 47], [47, 97]].map V.str)], fun m => kCall_fn PP_piece rfl (by decide) (Yt (tLt (eV (pcR_k k j)) rfl (decide_eq_true hk)) (Yr (eT3 (eK (by decide)) rfl (eS (eL (eC (eK (by decide)) (eC (eK (by decide)) (eC (eK (by decide)) (eC (eK (by decide)) (eC (eK (by decide)) rfl))))) (by decide)) (eMod (by decide) (pcR_m k j)) (hp H))))), .app, rfl, hq.1, hq.2⟩
theorem pc_skip {n : Nat} {k y : Int} {t ss : List S} {v : V} {H' : Hp} (h : (k == y) = false) (g : Yld (exs PP (n + 4) ss (pcR k j) H) v H') : Yld (exs PP (n + 5) (.iff (.cmp1 .Eq (.var "kind") (.cI y)) t [] :: ss) (pcR k j) H) v H' := Yf (tEq (eV (pcR_k k j)) rfl h) g
theorem pc_go {n : Nat} {k : Int} {t ss : List S} {v : V} {H' : Hp} (g : Yld (exs PP (n + 3) t (pcR k j) H) v H') : Yld (exs PP (n + 5) (.iff (.cmp1 .Eq (.var "kind") (.cI k)) t [] :: ss) (pcR k j) H) v H' := Yt (tEq (eV (pcR_k k j)) rfl (beq_self_eq_true k)) g
theorem pc_lt {n : Nat} {k : Int} {t ss : List S} {v : V} {H' : Hp} (h : decide (k < 2) = false) (g : Yld (exs PP (n + 4) ss (pcR k j) H) v H') : Yld (exs PP (n + 5) (.iff (.cmp1 .Lt (.var "kind") (.cI 2)) t [] :: ss) (pcR k j) H) v H' := Yf (tLt (eV (pcR_k k j)) rfl h) g
theorem pc_ret {n : Nat} {s l : List Nat} {c : Nat} {b : Bool} {es : List E} {q : List (Nat × Nat)} {k d : Int} {ss : List S} (hs : s.length ≤ 64) (he : evs PP (n + 8) es (pcR k j) H = some (rngV q, H)) (hq : q.length ≤ 64) (hl : l.length ≤ 64) (hd : 0 < d) (hp : ∀ H, pSub (.str l) (.int (j % d)) H = some (.str [c])) :
    Yld (exs PP (n + 17) (.ret (.tup [.cS s, .tup [.cB b, .lst es], .sub (.cS l) (.bin .Mod (.var "more") (.cI d))]) :: ss) (pcR k j) H) (.tup [.str s, .tup [.bool b, .ref H.length], .str [c]]) (H ++ [.lst (rngV q)]) :=
  Yr (eT3 (eK hs) (eItem he hq) (eS (eK hl) (eMod hd (pcR_m k j)) (hp _)))
theorem pc_2 : PcAt H 2 j .any := (pick_str [47, 97, 98] (j := j) (k := 3) rfl (by decide)).elim fun _ h => pc_at rfl (plain_in (sgn rfl) h.1) fun m => pc_lt rfl (pc_go (pc_ret (by decide) rfl (by decide) (by decide) (by decide) h.2))
theorem pc_3 : PcAt H 3 j .notA := (pick_str [47, 98] (j := j) (k := 2) rfl (by decide)).elim fun _ h => pc_at rfl (plain_in (sgn rfl) h.1) fun m => pc_lt rfl (pc_skip rfl (pc_go (pc_ret (by decide) (eRng (eK (by decide)) (eK (by decide))) (by decide) (by decide) (by decide) h.2)))
theorem pc_4 : PcAt H 4 j .slashA := (pick_str [47, 97, 98] (j := j) (k := 3) rfl (by decide)).elim fun _ h => pc_at rfl (plain_in (sgn rfl) h.1) fun m => pc_lt rfl (pc_skip rfl (pc_skip rfl (pc_go (pc_ret (by decide) (eRng (eK (by decide)) (eK (by decide))) (by decide) (by decide) (by decide) h.2))))
theorem pc_5 : PcAt H 5 j .slash := pc_at rfl (sgn rfl) fun m => pc_lt rfl (pc_skip rfl (pc_skip rfl (pc_skip rfl (pc_go (Yr (eT3 (eK (by decide)) (eItem (eRng (eK (by decide)) (eK (by decide))) (by decide)) (eK (by decide))))))))
theorem pc_6 {g : Glyph} {a : Nat} (h0 : 0 ≤ j) (hj : j < 1000000) (hg : g.text = [a]) (hi : g.item = some (false, [(a, a)])) (ha : ∀ H, pSub (.str [97, 46]) (.int (j % 2)) H = some (.str [a])) : PcAt H 6 j g := (pick_str [97, 46] (j := j / 2) (k := 2) rfl (by decide)).elim fun c h => by
  have hd : ∀ H, pBin .FloorDiv (.int j) (.int 2) H = some (.int (j / 2), H) := fun H => (pBin_divI j 2).trans (if_pos (by simp; (first | lia | omega)))
  refine pc_at hi (plain_in (sgn rfl) h.1) fun m => ?_
  rw [hg]
  have hv : upd (pcR 6 j) "sign" (.str [a]) "sign" = some (.str [a]) := by simp
  have hm : upd (pcR 6 j) "sign" (.str [a]) "more" = some (.int j) := by simp [pcR_m]
  exact pc_lt rfl (pc_skip rfl (pc_skip rfl (pc_skip rfl (pc_skip rfl (pc_go (Ya (eS (eK (by decide)) (eMod (by decide) (pcR_m 6 j)) (ha H)) (Yr (eT3 (eV hv) (eItem (eRng (eV hv) (eV hv)) (Nat.le_of_ble_eq_true rfl)) (eS (eK (by decide)) (eModI (by decide) (eB (eV hm) rfl (hd _))) (h.2 _))))))))))
theorem pc_7 : PcAt H 7 j .notBA := (pick_str [47, 97, 98] (j := j) (k := 3) rfl (by decide)).elim fun _ h => pc_at rfl (plain_in (sgn rfl) h.1) fun m => pc_lt rfl (pc_skip rfl (pc_skip rfl (pc_skip rfl (pc_skip rfl (pc_skip rfl (pc_ret (by decide) rfl (by decide) (by decide) (by decide) h.2))))))
end
theorem kind_cases {k : Int} (h2 : ¬ k < 2) (h8 : k < 8) : k = 2 ∨ k = 3 ∨ k = 4 ∨ k = 5 ∨ k = 6 ∨ k = 7 := by (first | lia | omega)
theorem run_piece (H : Hp) (k j : Int) (h0 : 0 ≤ k) (h8 : k < 8) (hj : 0 ≤ j) (hj2 : j < 1000000) : PcAt H k j (pieceGl k j) := by
  by_cases c0 : k < 2
  · rw [show pieceGl k j = .star from if_pos c0]; exact pc_lo c0
  rcases kind_cases c0 h8 with rfl | rfl | rfl | rfl | rfl | rfl
  · exact pc_2
  · exact pc_3
  · exact pc_4
  · exact pc_5
  · by_cases e : j % 2 = 0
    · rw [show pieceGl 6 j = .chA from if_pos e]; exact pc_6 hj hj2 rfl rfl fun H => by rw [e]; rfl
    · rw [show pieceGl 6 j = .dot from if_neg e]; exact pc_6 hj hj2 rfl rfl fun H => by rw [show j % 2 = 1 by (first | lia | omega)]; rfl
  · exact pc_7
end Mine
end

section
set_option Elab.async false
set_option linter.all false
set_option maxRecDepth 100000
namespace Mine
open PySem PyProof.Rows

theorem srcLen_ints (H : Hp) (l : List Int) : srcLen H (.ints l) = some l.length := rfl
theorem srcAt_ints (H : Hp) (l : List Int) (i : Nat) : srcAt H (.ints l) i = (l[i]?).map .int := rfl
@[simp] theorem rangeUp_len (n : Nat) : (rangeN n).length = n := by simp [rangeN, rangeUp]
theorem rangeUp_get (n i : Nat) (h : i < n) : (rangeN n)[i]? = some (i : Int) := by simp [rangeN, rangeUp, h]
@[simp] theorem srcLen_up (H : Hp) (n : Nat) : srcLen H (.ints (rangeN n)) = some n := by simp [srcLen_ints]
theorem srcAt_up (H : Hp) {n i : Nat} (h : i < n) : srcAt H (.ints (rangeN n)) i = some (.int i) := by simp [srcAt_ints, rangeUp_get n i h]

theorem forN_zero {src : Src} {b : V → Rho → Hp → Option (Fl × Rho × Hp)} {i : Nat} {r : Rho} {H : Hp} (h : srcLen H src = some i) : forN src b 0 i r H = some (.nx, r, H) := if_pos h
theorem forN_step {src : Src} {b : V → Rho → Hp → Option (Fl × Rho × Hp)} {k i : Nat} {r r2 : Rho} {H H2 : Hp} {v : V} (h : srcAt H src i = some v) (g : b v r H = some (.nx, r2, H2)) : forN src b (k + 1) i r H = forN src b k (i + 1) r2 H2 := by
  show (srcAt H src i).bind _ = _
  rw [h]
  show (b v r H).bind _ = _
  rw [g]
  rfl
theorem forN_ret {src : Src} {b : V → Rho → Hp → Option (Fl × Rho × Hp)} {k i : Nat} {r r2 : Rho} {H H2 : Hp} {v u : V} (h : srcAt H src i = some v) (g : b v r H = some (.ret u, r2, H2)) : forN src b (k + 1) i r H = some (.ret u, r2, H2) := by
  show (srcAt H src i).bind _ = _
  rw [h]
  show (b v r H).bind _ = _
  rw [g]
  rfl
theorem compN_zero {src : Src} {acc : Nat} {b : V → Hp → Option (Option V × Hp)} {i : Nat} {H : Hp} (h : srcLen H src = some i) : compN src acc b 0 i H = some H := if_pos h
theorem compN_none {src : Src} {acc : Nat} {b : V → Hp → Option (Option V × Hp)} {k i : Nat} {H H2 : Hp} {v : V} (h : srcAt H src i = some v) (g : b v H = some (none, H2)) : compN src acc b (k + 1) i H = compN src acc b k (i + 1) H2 := by
  show (srcAt H src i).bind _ = _
  rw [h]
  show (b v H).bind _ = _
  rw [g]
  rfl
theorem compN_some {src : Src} {acc : Nat} {b : V → Hp → Option (Option V × Hp)} {k i : Nat} {H H2 : Hp} {v x : V} {xs : List V} (h : srcAt H src i = some v) (g : b v H = some (some x, H2)) (hx : hGet H2 acc = some xs) (hl : xs.length ≤ lim) : compN src acc b (k + 1) i H = compN src acc b k (i + 1) (hSet H2 acc (xs ++ [x])) := by
  show (srcAt H src i).bind _ = _
  rw [h]
  show (b v H).bind _ = _
  rw [g]
  show (hGet H2 acc).bind _ = _
  rw [hx]
  exact if_pos hl
/- for over a range -/
theorem for_up {b : Nat → V → Rho → Hp → Option (Fl × Rho × Hp)} {n : Nat} (Inv : Nat → Rho → Hp → Prop)
    (hs : ∀ i r H, i < n → Inv i r H → ∃ r2 H2, (∀ m, b m (.int i) r H = some (.nx, r2, H2)) ∧ Inv (i + 1) r2 H2) :
    ∀ k i r H, i + k = n → Inv i r H → ∃ r' H', (∀ m, forN (.ints (rangeN n)) (b m) k i r H = some (.nx, r', H')) ∧ Inv n r' H'
  | 0, i, r, H, e, h => ⟨r, H, fun m => forN_zero ((srcLen_up H n).trans (congrArg some e.symm)), (e : i = n) ▸ h⟩
  | k + 1, i, r, H, e, h =>
    have hi : i < n := by (first | lia | omega)
    (hs i r H hi h).elim fun r2 h => h.elim fun H2 h => (for_up Inv hs k (i + 1) r2 H2 (by (first | lia | omega)) h.2).elim fun r' g => g.elim fun H' g => ⟨r', H', fun m => (forN_step (srcAt_up H hi) (h.1 m)).trans (g.1 m), g.2⟩

theorem while_rule {t : Nat → Rho → Hp → Option (Bool × Hp)} {b : Nat → Rho → Hp → Option (Fl × Rho × Hp)} (Inv : Nat → Rho → Hp → Prop) (Q : Rho → Hp → Prop)
    (hs : ∀ k r H, Inv k r H → (∃ H1, (∀ m, t m r H = some (false, H1)) ∧ Q r H1) ∨ (∃ H1 r2 H2 k', k = k' + 1 ∧ (∀ m, t m r H = some (true, H1)) ∧ (∀ m, b m r H1 = some (.nx, r2, H2)) ∧ Inv k' r2 H2) ∨ (∃ H1 r2 H2, (∀ m, t m r H = some (true, H1)) ∧ (∀ m, b m r H1 = some (.brk, r2, H2)) ∧ Q r2 H2)) :
    ∀ K k r H, k < K → Inv k r H → ∃ r' H', (∀ m, whileN (t m) (b m) K r H = some (.nx, r', H')) ∧ Q r' H'
  | 0, k, _, _, hk, _ => absurd hk (Nat.not_lt_zero k)
  | K + 1, k, r, H, hk, h => by
    rcases hs k r H h with ⟨H1, h1, h2⟩ | ⟨H1, r2, H2, k', e, h1, h2, h3⟩ | ⟨H1, r2, H2, h1, h2, h3⟩
    · exact ⟨r, H1, fun m => by rw [whileN_succ, h1]; rfl, h2⟩
    · exact (while_rule Inv Q hs K k' r2 H2 (by (first | lia | omega)) h3).elim fun r' g => g.elim fun H' g => ⟨r', H', fun m => by rw [whileN_succ, h1, kW_true, h2, kW2_nx]; exact g.1 m, g.2⟩
    · exact ⟨r2, H2, fun m => by rw [whileN_succ, h1, kW_true, h2]; rfl, h3⟩

/- a comprehension whose elements are known, some left out -/
theorem comp_known {b : Nat → V → Hp → Option (Option V × Hp)} {s : Src} {H0 : Hp} {n : Nat} (f : Nat → Option V) (g : Nat → V) (hn : n ≤ lim)
    (hlen : ∀ H, Ext H0 H → srcLen H s = some n) (hsrc : ∀ i H, i < n → Ext H0 H → srcAt H s i = some (g i))
    (hb : ∀ i H, i < n → Ext H0 H → ∃ H2, (∀ m, b m (g i) H = some (f i, H2)) ∧ Ext H H2) :
    ∀ k i H xs, i + k = n → Ext H0 H → hGet H H0.length = some xs → xs.length ≤ i → ∃ H', (∀ m, compN s H0.length (b m) k i H = some H') ∧ Ext H0 H' ∧ hGet H' H0.length = some (xs ++ (List.range' i k).filterMap f)
  | 0, i, H, xs, e, h, hx, hl => ⟨H, fun m => compN_zero ((hlen H h).trans (congrArg some e.symm)), h, hx.trans (congrArg some (List.append_nil xs).symm)⟩
  | k + 1, i, H, xs, e, h, hx, hl => by
    have hi : i < n := by (first | lia | omega)
    obtain ⟨H2, h1, h2⟩ := hb i H hi h
    rw [List.range'_succ]
    cases hf : f i with
    | none =>
      rw [hf] at h1
      rw [List.filterMap_cons_none hf]
      exact (comp_known f g hn hlen hsrc hb k (i + 1) H2 xs (by (first | lia | omega)) (h.trans h2) (h2.get hx) (by (first | lia | omega))).elim fun H' q => ⟨H', fun m => (compN_none (hsrc i H hi h) (h1 m)).trans (q.1 m), q.2⟩
    | some x =>
      rw [hf] at h1
      rw [List.filterMap_cons_some hf]
      have hg := h2.get hx
      exact (comp_known f g hn hlen hsrc hb k (i + 1) (hSet H2 H0.length (xs ++ [x])) (xs ++ [x]) (by (first | lia | omega)) ((h.trans h2).set (Nat.le_refl _)) (hGet_set _ _ (hGet_lt hg)) (by rw [List.length_append]; exact Nat.succ_le_succ hl)).elim fun H' q => ⟨H', fun m => (compN_some (hsrc i H hi h) (h1 m) hg (by (first | lia | omega))).trans (q.1 m), q.2.1, q.2.2.trans (by rw [List.append_assoc]; rfl)⟩

/- as the interpreter says it -/
theorem comp_run {P : Prog} {c : Nat} {elt : E} {ts : List String} {one : Bool} {ifs : List E} {r : Rho} {s : Src} {H0 : Hp} {n : Nat} (f : Nat → Option V) (g : Nat → V) (hn : n ≤ lim)
    (hlen : ∀ H, Ext H0 H → srcLen H s = some n) (hsrc : ∀ i H, i < n → Ext H0 H → srcAt H s i = some (g i))
    (hb : ∀ i H, i < n → Ext H0 H → ∃ H2, (∀ m, cBody P (m + c) elt ts one ifs r (g i) H = some (f i, H2)) ∧ Ext H H2) :
    ∃ H', (∀ m, kCo P (m + c) elt ts one ifs r (some (s, H0)) = some (.ref H0.length, H')) ∧ Ext H0 H' ∧ H0.length < H'.length ∧ hGet H' H0.length = some ((List.range n).filterMap f) := by
  obtain ⟨H', h1, h2, h3⟩ := comp_known (b := fun m => cBody P (m + c) elt ts one ifs r) f g hn hlen hsrc hb n 0 (H0 ++ [.lst []]) [] (by (first | lia | omega)) .app (hGet_end _ _) (Nat.le_refl _)
  exact ⟨H', fun m => by simp [hlen _ Ext.app, h1], h2, hGet_lt h3, by rw [h3, List.range_eq_range', List.nil_append]⟩

theorem comp_map {P : Prog} {c : Nat} {elt : E} {ts : List String} {one : Bool} {r : Rho} {s : Src} {H0 : Hp} {n : Nat} (f : Nat → V) (g : Nat → V) (hn : n ≤ lim)
    (hlen : ∀ H, Ext H0 H → srcLen H s = some n) (hsrc : ∀ i H, i < n → Ext H0 H → srcAt H s i = some (g i))
    (hb : ∀ i H, i < n → Ext H0 H → ∃ r2 H2, bindT r ts one (g i) H = some r2 ∧ (∀ m, ev P (m + c) elt r2 H = some (f i, H2)) ∧ Ext H H2) :
    ∃ H', (∀ m, kCo P (m + (c + 1)) elt ts one [] r (some (s, H0)) = some (.ref H0.length, H')) ∧ Ext H0 H' ∧ H0.length < H'.length ∧ hGet H' H0.length = some ((List.range n).map f) := by
  have := comp_run (P := P) (c := c + 1) (elt := elt) (ts := ts) (one := one) (ifs := []) (r := r) (s := s) (H0 := H0) (n := n) (fun i => some (f i)) g hn hlen hsrc (fun i H hi h => by
    obtain ⟨r2, H2, h1, h2, h3⟩ := hb i H hi h
    refine ⟨H2, fun m => ?_, h3⟩
    have h2' := h2 (m + 1)
    rw [Nat.add_assoc, Nat.add_comm 1 c] at h2'
    simp [h1, ← Nat.add_assoc, h2']
    rw [show m + c + 1 = m + (c + 1) by (first | lia | omega), h2']
    rfl)
  simpa using this
end Mine
end

section
set_option Elab.async false
set_option linter.all false
set_option maxRecDepth 100000
namespace Mine
open PySem PyProof.Rows
variable {H : Hp}

noncomputable def inB (it : Bool × List (Nat × Nat)) (c : Nat) : Bool := (it.2.any fun p => decide (p.1 ≤ c) && decide (c ≤ p.2)) != it.1
@[simp] theorem eqLst_nil (H : Hp) (xs : List V) : eqLst H xs [] = some xs.isEmpty := by cases xs <;> rfl
theorem lt_one (a b : Nat) : ([a] < [b]) ↔ a < b := by
  constructor
  · intro h; cases h with
    | rel h => exact h
    | cons h => cases h
  · intro h; exact .rel h

theorem run_in {v : V} {b : Bool} {l : List (Nat × Nat)} (c : Nat) (hv : ItemAt H v (some (b, l))) (hl : l.length ≤ 1) :
    ∃ H', (∀ m, kCall PP (m + 20) "_law_in" [v, .str [c]] H = some (.bool (inB (b, l) c), H')) ∧ Ext H H' := by
  obtain ⟨a, rfl, ha⟩ := hv
  have R : ∃ H', (∀ m, kCo PP (m + 10) (.var "low") ["low", "high"] false [.cmp2 (PySem.CmpOp.LtE) (PySem.CmpOp.LtE) (.var "low") (.var "sign") (.var "high")] (rSub ["sign"] (upd (upd (upd (upd rnil "item" (.tup [.bool b, .ref a])) "sign" (.str [c])) "barred" (.bool b)) "ranges" (.ref a))) (some (.list a, H)) = some (.ref H.length, H')) ∧ Ext H H' ∧ H.length < H'.length ∧ hGet H' H.length = some ((List.range l.length).filterMap fun i => match l[i]? with | some p => if p.1 ≤ c ∧ c ≤ p.2 then some (.str [p.1]) else none | none => none) := by
    refine comp_run _ (fun i => ((rngV l)[i]?).getD .none) (lim_of (by (first | lia | omega))) (fun H' h => by simp [srcLen, h.get ha, rngV]) (fun i H' hi h => by simp [srcAt, h.get ha, rngV, hi]) (fun i H' hi h => ⟨H', fun m => ?_, .rfl'⟩)
    have hp : l[i]? = some l[i] := by simp [hi]
    rw [hp]
    by_cases h1 : l[i].1 ≤ c
    · by_cases h2 : c ≤ l[i].2
      · simp [rngV, hi, h1, h2, lt_one]
      · simp [rngV, hi, h1, h2, lt_one]
    · simp [rngV, hi, h1, lt_one]
  obtain ⟨H', h1, h2, h3, h4⟩ := R
  refine ⟨_, fun m => kCall_fn PP_in rfl (by decide) (v := .bool (inB (b, l) c)) (H' := H' ++ [.lst []]) ?_, h2.add⟩
  have e : (!(((List.range l.length).filterMap fun i => match l[i]? with | some p => if p.1 ≤ c ∧ c ≤ p.2 then some (V.str [p.1]) else none | none => none).isEmpty) != b) = inB (b, l) c := by
    match l, hl with
    | [], _ => simp [inB]
    | [p], _ =>
      by_cases h1 : p.1 ≤ c
      · by_cases h2 : c ≤ p.2
        · simp [inB, h1, h2, List.range_succ]
        · simp [inB, h1, h2, List.range_succ]
      · simp [inB, h1, List.range_succ]
  simp [bd_law_in, ha, h1, hGet_old H' [.lst []] h3, h4, hGet_end]
  rw [← e]
  exact same

/- a run's list: the items, none a star -/
noncomputable def ItemsAt (H : Hp) (vs : List V) (its : List (Option (Bool × List (Nat × Nat)))) : Prop := vs.length = its.length ∧ ∀ (i : Nat) (v : V) (it : Option (Bool × List (Nat × Nat))), vs[i]? = some v → its[i]? = some it → ItemAt H v it
theorem ItemsAt.ext {H H' : Hp} {vs : List V} {its : List (Option (Bool × List (Nat × Nat)))} (e : Ext H H') (h : ItemsAt H vs its) : ItemsAt H' vs its := ⟨h.1, fun i v it h1 h2 => (h.2 i v it h1 h2).ext e⟩
theorem ItemsAt.nil : ItemsAt H [] [] := ⟨rfl, fun i v it h _ => by simp at h⟩
theorem ItemsAt.snoc {vs : List V} {its : List (Option (Bool × List (Nat × Nat)))} {v : V} {it : Option (Bool × List (Nat × Nat))} (h : ItemsAt H vs its) (g : ItemAt H v it) : ItemsAt H (vs ++ [v]) (its ++ [it]) := by
  refine ⟨by simp [h.1], fun i w jt h1 h2 => ?_⟩
  by_cases hi : i < vs.length
  · rw [List.getElem?_append_left hi] at h1
    rw [List.getElem?_append_left (h.1 ▸ hi)] at h2
    exact h.2 i w jt h1 h2
  · rw [List.getElem?_append_right (by (first | lia | omega))] at h1
    rw [List.getElem?_append_right (by have := h.1; (first | lia | omega))] at h2
    have : i - vs.length = 0 := by
      have := (List.getElem?_eq_some_iff.1 h1).1
      simp at this; (first | lia | omega)
    rw [this] at h1
    rw [← h.1, this] at h2
    simp at h1 h2
    subst h1; subst h2; exact g

theorem gl_len (g : Glyph) : ∀ it, g.item = some it → it.2.length ≤ 1 := by cases g <;> intro it h <;> simp [Glyph.item] at h <;> subst h <;> simp

/- a glyph takes a sign -/
noncomputable def Glyph.takes (g : Glyph) (c : Nat) : Bool := match g.item with | some it => inB it c | none => false
theorem run_inG {v : V} {g : Glyph} (c : Nat) (hg : g ≠ .star) (hv : ItemAt H v g.item) : ∃ H', (∀ m, kCall PP (m + 20) "_law_in" [v, .str [c]] H = some (.bool (g.takes c), H')) ∧ Ext H H' := by
  cases e : g.item with
  | none => cases g <;> first | exact absurd rfl hg | cases e
  | some it =>
    obtain ⟨H', h1, h2⟩ := run_in (H := H) (v := v) (b := it.1) (l := it.2) c (by rw [← e]; exact hv) (gl_len g it e)
    exact ⟨H', fun m => by rw [h1]; simp [Glyph.takes, e], h2⟩

/- the run of glyphs fits the name at k -/
noncomputable def fits (gs : List Glyph) (w : List Nat) (k : Nat) : Bool := decide (k + gs.length ≤ w.length) && (List.range gs.length).all fun i => match gs[i]?, w[k + i]? with | some g, some c => g.takes c | _, _ => false

theorem place_nat2 (k i n : Nat) : place ((k : Int) + (i : Int)) n = if k + i < n then some (k + i) else none := by
  rw [show (k : Int) + (i : Int) = ((k + i : Nat) : Int) by (first | lia | omega)]; simp only [place, show (0 : Int) ≤ ((k + i : Nat) : Int) by (first | lia | omega), if_true, Int.toNat_natCast]
theorem place_nat (k n : Nat) : place (k : Int) n = if k < n then some k else none := by simp [place]

theorem run_here {a : Nat} {vs : List V} {gs : List Glyph} {w : List Nat} (k : Nat) (ha : hGet H a = some vs) (hv : ItemsAt H vs (gs.map Glyph.item)) (hs : ∀ g ∈ gs, g ≠ .star) (hl : gs.length ≤ 1000) (hw : w.length ≤ 1000) :
    ∃ H', (∀ m, kCall PP (m + 40) "_law_here" [.ref a, .str w, .int k] H = some (.bool (fits gs w k), H')) ∧ Ext H H' := by
  have hlen : vs.length = gs.length := by simpa using hv.1
  by_cases hc : w.length < k + gs.length
  · refine ⟨H, fun m => kCall_fn PP_here rfl (by decide) ?_, .rfl'⟩
    simp [bd_law_here, ha, hlen, show (w.length : Int) < (k : Int) + (gs.length : Int) by (first | lia | omega)]
    simp [fits, show ¬ k + gs.length ≤ w.length by (first | lia | omega), same]
  have R : ∃ H', (∀ m, kCo PP (m + 30) (.var "k") ["k"] true [.not_ (.callG "_law_in" [.sub (.var "run") (.var "k"), .sub (.var "name") (.bin (PySem.Operator.Add) (.var "at") (.var "k"))])] (rSub ["at", "name", "run"] (upd (upd (upd rnil "run" (.ref a)) "name" (.str w)) "at" (.int k))) (some (.ints (rangeN gs.length), H)) = some (.ref H.length, H')) ∧ Ext H H' ∧ H.length < H'.length ∧ hGet H' H.length = some ((List.range gs.length).filterMap fun i => if (match gs[i]?, w[k + i]? with | some g, some c => g.takes c | _, _ => false) then none else some (.int i)) := by
    refine comp_run _ (fun i => .int i) (lim_of (by (first | lia | omega))) (fun H' h => by simp) (fun i H' hi h => srcAt_up H' hi) (fun i H' hi h => ?_)
    have e1 : vs[i]? = some vs[i] := by simp [show i < vs.length by (first | lia | omega)]
    have e2 : gs[i]? = some gs[i] := by simp [hi]
    have hk : k + i < w.length := by (first | lia | omega)
    have e3 : w[k + i]? = some w[k + i] := by simp [hk]
    obtain ⟨H2, h1, h2⟩ := run_inG (H := H') (v := vs[i]) (g := gs[i]) w[k + i] (hs _ (List.getElem_mem hi)) ((hv.2 i vs[i] gs[i].item e1 (by simp [e2])).ext h)
    refine ⟨H2, fun m => ?_, h2⟩
    simp [h.get ha, hlen, place_nat, hi, e1, e3, e2, pSub_str, place_nat2, hk, h1]
    cases gs[i].takes w[k + i] <;> simp
  obtain ⟨H', h1, h2, h3, h4⟩ := R
  refine ⟨H' ++ [.lst []], fun m => kCall_fn PP_here rfl (by decide) ?_, h2.add⟩
  have e : ((List.range gs.length).filterMap fun i => if (match gs[i]?, w[k + i]? with | some g, some c => g.takes c | _, _ => false) then none else some (V.int i)).isEmpty = fits gs w k := by
    rw [fits]
    simp only [show k + gs.length ≤ w.length by (first | lia | omega), decide_true, Bool.true_and]
    rw [Bool.eq_iff_iff, List.isEmpty_iff, List.filterMap_eq_nil_iff, List.all_eq_true]
    refine forall_congr' fun i => forall_congr' fun hi => ?_
    cases (match gs[i]?, w[k + i]? with | some g, some c => g.takes c | _, _ => false) <;> simp
  simp [bd_law_here, ha, hlen, show ¬ (w.length : Int) < (k : Int) + (gs.length : Int) by (first | lia | omega), kR1_nat (show gs.length < 1000000 by (first | lia | omega)), h1, hGet_old H' [.lst []] h3, h4, hGet_end]
  rw [← e]
  exact same
end Mine
end

section
set_option Elab.async false
set_option linter.all false
set_option maxRecDepth 100000
namespace Mine
open PySem PyProof.Rows
variable {H : Hp}

noncomputable def mF : List Nat := [102, 114, 111, 110, 116]
noncomputable def mH : List Nat := [104, 101, 108, 100]
noncomputable def mS : List Nat := [115, 104, 117, 116]
noncomputable def mL : List Nat := [108, 97, 115, 116]

structure RunAt (H : Hp) (v : V) (mk : List Nat) (gs : List Glyph) (a c : Nat) (vs : List V) : Prop where
  v : v = .ref a
  l : hGet H a = some [.str mk, .ref c]
  g : hGet H c = some vs
  it : ItemsAt H vs (gs.map Glyph.item)
theorem RunAt.ext {H H' : Hp} {v : V} {mk : List Nat} {gs : List Glyph} {a c : Nat} {vs : List V} (e : Ext H H') (h : RunAt H v mk gs a c vs) : RunAt H' v mk gs a c vs := ⟨h.v, e.get h.l, e.get h.g, h.it.ext e⟩
noncomputable def RunsAt (H : Hp) (a : Nat) (l : List (List Nat × List Glyph)) : Prop := ∃ xs, hGet H a = some xs ∧ xs.length = l.length ∧ ∀ (i : Nat) (v : V) (x : List Nat × List Glyph), xs[i]? = some v → l[i]? = some x → ∃ b c vs, RunAt H v x.1 x.2 b c vs
theorem RunsAt.ext {H H' : Hp} {a : Nat} {l : List (List Nat × List Glyph)} (e : Ext H H') : RunsAt H a l → RunsAt H' a l
  | ⟨xs, h1, h2, h3⟩ => ⟨xs, e.get h1, h2, fun i v x g1 g2 => by obtain ⟨b, c, vs, h⟩ := h3 i v x g1 g2; exact ⟨b, c, vs, h.ext e⟩⟩

noncomputable def seek (gs : List Glyph) (w : List Nat) : Nat → Nat → Nat
  | 0, k => k
  | n + 1, k => if k + gs.length ≤ w.length ∧ fits gs w k = false then seek gs w n (k + 1) else k

noncomputable def tk (w : List Nat) : List (List Nat × List Glyph) → Nat → Option Nat
  | [], k => some k
  | (mk, gs) :: l, k =>
    if mk = mS then (if fits gs w (seek gs w (w.length + 1) k) then tk w l (seek gs w (w.length + 1) k + gs.length) else none)
    else if mk = mL then (if k + gs.length ≤ w.length ∧ fits gs w (w.length - gs.length) = true then tk w l w.length else none)
    else if fits gs w k then tk w l (k + gs.length) else none

structure LF (r : Rho) (k a c : Nat) (w mk : List Nat) : Prop where
  at_ : r "at" = some (.int k)
  run : r "run" = some (.ref c)
  name : r "name" = some (.str w)
  runs : r "runs" = some (.ref a)
  mark : r "mark" = some (.str mk)

noncomputable def GsOK (gs : List Glyph) : Prop := (∀ g ∈ gs, g ≠ .star) ∧ gs.length ≤ 100

set_option maxHeartbeats 1000000 in
theorem shut_loop {r : Rho} {k a c : Nat} {w mk : List Nat} {vs : List V} {gs : List Glyph} (h : LF r k a c w mk) (hc : hGet H c = some vs) (hv : ItemsAt H vs (gs.map Glyph.item)) (hs : GsOK gs) (hw : w.length ≤ 100) :
    ∃ r' H', (∀ m, whileN (tst PP (m + 50) (.and_ [.cmp1 (PySem.CmpOp.LtE) (.bin (PySem.Operator.Add) (.var "at") (.callG "len" [.var "run"])) (.callG "len" [.var "name"]), .not_ (.callG "_law_here" [.var "run", .var "name", .var "at"])])) (exs PP (m + 50) [.asg "at" (.bin (PySem.Operator.Add) (.var "at") (.cI 1))]) 400 r H = some (.nx, r', H')) ∧ LF r' (seek gs w (w.length + 1) k) a c w mk ∧ Ext H H' := by
  refine while_rule (fun j r' H' => ∃ k', LF r' k' a c w mk ∧ seek gs w j k' = seek gs w (w.length + 1) k ∧ Ext H H' ∧ w.length < j + k') _ (fun j r' H' => ?_) 400 (w.length + 1) r H (by (first | lia | omega)) ⟨k, h, rfl, .rfl', by (first | lia | omega)⟩
  rintro ⟨k', h1, h2, h3, h4⟩
  have hlen : vs.length = gs.length := by simpa using hv.1
  by_cases c1 : k' + gs.length ≤ w.length
  · obtain ⟨H2, g1, g2⟩ := run_here (H := H') (w := w) k' (h3.get hc) (hv.ext h3) hs.1 (by have := hs.2; (first | lia | omega)) (by (first | lia | omega))
    cases c2 : fits gs w k' with
    | true =>
      refine .inl ⟨H2, fun m => ?_, ?_, h3.trans g2⟩
      · simp [h1.at_, h1.run, h1.name, h3.get hc, hlen, show (k' : Int) + (gs.length : Int) ≤ (w.length : Int) by (first | lia | omega), g1, c2]
      · rw [← h2]
        cases j with
        | zero => exact h1
        | succ j => simp [seek, c2]; exact h1
    | false =>
      cases j with
      | zero => (first | lia | omega)
      | succ j =>
        refine .inr (.inl ⟨H2, _, _, j, rfl, fun m => ?_, fun m => by simp [h1.at_]; rfl, k' + 1, ?_, ?_, h3.trans g2, by (first | lia | omega)⟩)
        · simp [h1.at_, h1.run, h1.name, h3.get hc, hlen, show (k' : Int) + (gs.length : Int) ≤ (w.length : Int) by (first | lia | omega), g1, c2]
        · exact ⟨by simp, by first | exact h1.run | simp [h1.run], by first | exact h1.name | simp [h1.name], by first | exact h1.runs | simp [h1.runs], by first | exact h1.mark | simp [h1.mark]⟩
        · rw [← h2]; simp [seek, c2, c1]
  · refine .inl ⟨H', fun m => ?_, ?_, h3⟩
    · simp [h1.at_, h1.run, h1.name, h3.get hc, hlen, show ¬ (k' : Int) + (gs.length : Int) ≤ (w.length : Int) by (first | lia | omega)]
    · rw [← h2]
      cases j with
      | zero => exact h1
      | succ j => simp [seek, c1]; exact h1

noncomputable def takesBody : List S := [.iff (.cmp1 (PySem.CmpOp.Eq) (.var "mark") (.cS [104, 101, 108, 100])) [.ret (.cB false)] [], .iff (.cmp1 (PySem.CmpOp.Eq) (.var "mark") (.cS [115, 104, 117, 116])) [.whl (.and_ [.cmp1 (PySem.CmpOp.LtE) (.bin (PySem.Operator.Add) (.var "at") (.callG "len" [.var "run"])) (.callG "len" [.var "name"]), .not_ (.callG "_law_here" [.var "run", .var "name", .var "at"])]) [.asg "at" (.bin (PySem.Operator.Add) (.var "at") (.cI 1))]] [], .iff (.cmp1 (PySem.CmpOp.Eq) (.var "mark") (.cS [108, 97, 115, 116])) [.iff (.cmp1 (PySem.CmpOp.Lt) (.bin (PySem.Operator.Sub) (.callG "len" [.var "name"]) (.callG "len" [.var "run"])) (.var "at")) [.ret (.cB false)] [], .asg "at" (.bin (PySem.Operator.Sub) (.callG "len" [.var "name"]) (.callG "len" [.var "run"]))] [], .iff (.not_ (.callG "_law_here" [.var "run", .var "name", .var "at"])) [.ret (.cB false)] [], .asg "at" (.bin (PySem.Operator.Add) (.var "at") (.callG "len" [.var "run"]))]

structure LG (r : Rho) (k a : Nat) (w : List Nat) : Prop where
  at_ : r "at" = some (.int k)
  name : r "name" = some (.str w)
  runs : r "runs" = some (.ref a)

/- what a turn of takes leaves -/
noncomputable def TurnQ (x : Nat → Option (Fl × Rho × Hp)) (H : Hp) (a : Nat) (w : List Nat) : Option Nat → Prop
  | none => ∃ r' H', (∀ m, x m = some (.ret (.bool false), r', H')) ∧ Ext H H'
  | some k => ∃ r' H', (∀ m, x m = some (.nx, r', H')) ∧ LG r' k a w ∧ Ext H H'

noncomputable def step1 (w : List Nat) (mk : List Nat) (gs : List Glyph) (k : Nat) : Option Nat :=
    if mk = mS then (if fits gs w (seek gs w (w.length + 1) k) then some (seek gs w (w.length + 1) k + gs.length) else none)
    else if mk = mL then (if k + gs.length ≤ w.length ∧ fits gs w (w.length - gs.length) = true then some w.length else none)
    else if fits gs w k then some (k + gs.length) else none
theorem tk_cons (w : List Nat) (mk : List Nat) (gs : List Glyph) (l : List (List Nat × List Glyph)) (k : Nat) : tk w ((mk, gs) :: l) k = (step1 w mk gs k).bind (tk w l) := by
  unfold step1
  rw [tk]
  split
  · split <;> rfl
  · split
    · split <;> rfl
    · split <;> rfl

theorem mFH : (mF = [104, 101, 108, 100]) = False := by simp [mF]
theorem mFS : (mF = [115, 104, 117, 116]) = False := by simp [mF]
theorem mFL : (mF = [108, 97, 115, 116]) = False := by simp [mF]
theorem mSH : (mS = [104, 101, 108, 100]) = False := by simp [mS]
theorem mSS : (mS = [115, 104, 117, 116]) = True := by simp [mS]
theorem mSL : (mS = [108, 97, 115, 116]) = False := by simp [mS]
theorem mLH : (mL = [104, 101, 108, 100]) = False := by simp [mL]
theorem mLS : (mL = [115, 104, 117, 116]) = False := by simp [mL]
theorem mLL : (mL = [108, 97, 115, 116]) = True := by simp [mL]
set_option maxHeartbeats 1000000 in
theorem takes_turn {r : Rho} {k a b c : Nat} {v : V} {w mk : List Nat} {vs : List V} {gs : List Glyph} (h : LG r k a w) (hR : RunAt H v mk gs b c vs) (hm : mk = mF ∨ mk = mS ∨ mk = mL) (hs : GsOK gs) (hw : w.length ≤ 100) :
    TurnQ (fun m => fBody PP (m + 70) ["mark", "run"] false takesBody v r H) H a w (step1 w mk gs k) := by
  have hlen : vs.length = gs.length := by simpa using hR.it.1
  have hl : gs.length ≤ 1000 := by have := hs.2; (first | lia | omega)
  have h0 : LF (upd (upd r "mark" (.str mk)) "run" (.ref c)) k a c w mk := ⟨by first | exact h.at_ | simp [h.at_], by simp, by first | exact h.name | simp [h.name], by first | exact h.runs | simp [h.runs], by simp⟩
  generalize hr0 : upd (upd r "mark" (.str mk)) "run" (.ref c) = r0 at h0
  rcases hm with rfl | rfl | rfl
  · obtain ⟨H1, g1, g2⟩ := run_here (H := H) (w := w) k hR.g hR.it hs.1 hl (by (first | lia | omega))
    simp only [step1, show ¬ mF = mS by decide, show ¬ mF = mL by decide, if_false]
    cases c2 : fits gs w k with
    | false => exact ⟨_, _, fun m => by simp [takesBody, hR.v, hR.l, hr0, h0.at_, h0.run, h0.name, h0.mark, mFH, mFS, mFL, g1, c2]; rfl, g2⟩
    | true =>
      refine ⟨_, _, fun m => by simp [takesBody, hR.v, hR.l, hr0, h0.at_, h0.run, h0.name, h0.mark, mFH, mFS, mFL, g1, c2, g2.get hR.g, hlen]; rfl, ⟨by simp, by first | exact h0.name | simp [h0.name], by first | exact h0.runs | simp [h0.runs]⟩, g2⟩
  · obtain ⟨r1, H1, s1, s2, s3⟩ := shut_loop h0 hR.g hR.it hs hw
    obtain ⟨H2, g1, g2⟩ := run_here (H := H1) (w := w) (seek gs w (w.length + 1) k) (s3.get hR.g) (hR.it.ext s3) hs.1 hl (by (first | lia | omega))
    simp only [step1, if_true]
    cases c2 : fits gs w (seek gs w (w.length + 1) k) with
    | false => exact ⟨_, _, fun m => by simp [takesBody, hR.v, hR.l, hr0, h0.mark, mSH, mSS, mSL, s1, s2.at_, s2.run, s2.name, s2.mark, g1, c2]; rfl, s3.trans g2⟩
    | true =>
      refine ⟨_, _, fun m => by simp [takesBody, hR.v, hR.l, hr0, h0.mark, mSH, mSS, mSL, s1, s2.at_, s2.run, s2.name, s2.mark, g1, c2, (s3.trans g2).get hR.g, hlen]; rfl, ⟨by simp, by first | exact s2.name | simp [s2.name], by first | exact s2.runs | simp [s2.runs]⟩, s3.trans g2⟩
  · simp only [step1, if_true, if_false, show ¬ mL = mS by decide]
    by_cases c1 : k + gs.length ≤ w.length
    · obtain ⟨H1, g1, g2⟩ := run_here (H := H) (w := w) (w.length - gs.length) hR.g hR.it hs.1 hl (by (first | lia | omega))
      have ei : (w.length : Int) - (gs.length : Int) = ((w.length - gs.length : Nat) : Int) := by (first | lia | omega)
      simp only [c1, true_and]
      have ci : ¬ (((w.length - gs.length : Nat) : Int) < (k : Int)) := by (first | lia | omega)
      cases c2 : fits gs w (w.length - gs.length) with
      | false =>
        exact ⟨_, _, fun m => by simp [takesBody, hR.v, hR.l, hr0, h0.at_, h0.run, h0.name, h0.mark, h0.runs, mLH, mLS, mLL, hR.g, hlen, ei, ci, g1, c2]; rfl, g2⟩
      | true =>
        refine ⟨_, _, fun m => by simp [takesBody, hR.v, hR.l, hr0, h0.at_, h0.run, h0.name, h0.mark, mLH, mLS, mLL, hR.g, hlen, ei, ci, g1, c2, g2.get hR.g]; rfl, ⟨by simp; (first | lia | omega), by first | exact h0.name | simp [h0.name], by first | exact h0.runs | simp [h0.runs]⟩, g2⟩
    · simp only [c1, false_and, if_false]
      have ci : (w.length : Int) - (gs.length : Int) < (k : Int) := by (first | lia | omega)
      exact ⟨_, _, fun m => by simp [takesBody, hR.v, hR.l, hr0, h0.at_, h0.run, h0.name, h0.mark, mLH, mLS, mLL, hR.g, hlen, ci]; rfl, .rfl'⟩

noncomputable def RunsOK (l : List (List Nat × List Glyph)) : Prop := ∀ x ∈ l, (x.1 = mF ∨ x.1 = mS ∨ x.1 = mL) ∧ GsOK x.2

theorem TurnQ.of {x y : Nat → Option (Fl × Rho × Hp)} {H H0 : Hp} {a : Nat} {w : List Nat} (e : ∀ m, y m = x m) (h : Ext H0 H) : ∀ {o : Option Nat}, TurnQ x H a w o → TurnQ y H0 a w o
  | none, T => T.elim fun r' T => T.elim fun H' T => ⟨r', H', fun m => (e m).trans (T.1 m), h.trans T.2⟩
  | some _, T => T.elim fun r' T => T.elim fun H' T => ⟨r', H', fun m => (e m).trans (T.1 m), T.2.1, h.trans T.2.2⟩
theorem takes_loop {H0 : Hp} {a : Nat} {w : List Nat} {l : List (List Nat × List Glyph)} (hR : RunsAt H0 a l) (hl : RunsOK l) (hw : w.length ≤ 100) :
    ∀ k i r H kk, i + k = l.length → LG r kk a w → Ext H0 H → TurnQ (fun m => forN (.list a) (fBody PP (m + 70) ["mark", "run"] false takesBody) k i r H) H0 a w (tk w (l.drop i) kk)
  | 0, i, r, H, kk, e, h, x => hR.elim fun xs hx => by
    rw [List.drop_eq_nil_of_le (show l.length ≤ i from Nat.le_of_eq e.symm)]
    exact ⟨r, H, fun m => forN_zero (by show (hGet H a).map _ = _; rw [x.get hx.1]; exact congrArg some (hx.2.1.trans e.symm)), h, x⟩
  | k + 1, i, r, H, kk, e, h, x => hR.elim fun xs hx => by
    have hi : i < l.length := by (first | lia | omega)
    have hi2 : i < xs.length := hx.2.1 ▸ hi
    have es : srcAt H (.list a) i = some xs[i] := by show (hGet H a).bind _ = _; rw [x.get hx.1]; exact List.getElem?_eq_getElem hi2
    have o := hl _ (List.getElem_mem hi)
    rw [List.drop_eq_getElem_cons hi, show l[i] = (l[i].1, l[i].2) from rfl, tk_cons]
    refine (hx.2.2 i _ _ (List.getElem?_eq_getElem hi2) (List.getElem?_eq_getElem hi)).elim fun b g => g.elim fun c g => g.elim fun vs g => ?_
    have T := takes_turn h (g.ext x) o.1 o.2 hw
    clear g
    cases hk : step1 w l[i].1 l[i].2 kk with
    | none =>
      rw [hk] at T
      exact T.elim fun r' T => T.elim fun H' T => ⟨r', H', fun m => forN_ret es (T.1 m), x.trans T.2⟩
    | some k' =>
      rw [hk] at T
      exact T.elim fun r' T => T.elim fun H' T => TurnQ.of (fun m => forN_step es (T.1 m)) .rfl' (takes_loop hR hl hw k (i + 1) r' H' k' (by (first | lia | omega)) T.2.1 (x.trans T.2.2))

noncomputable def takesB (l : List (List Nat × List Glyph)) (w : List Nat) : Bool := match tk w l 0 with | none => false | some k => decide (l ≠ []) && k == w.length

set_option maxHeartbeats 1000000 in
theorem run_takes {a : Nat} {w : List Nat} {l : List (List Nat × List Glyph)} (hR : RunsAt H a l) (hl : RunsOK l) (hw : w.length ≤ 100) :
    ∃ H', (∀ m, kCall PP (m + 100) "_law_takes" [.ref a, .str w] H = some (.bool (takesB l w), H')) ∧ Ext H H' := by
  have hR' := hR
  obtain ⟨xs, h1, h2, h3⟩ := hR'
  have h0 : LG (upd (upd (upd rnil "runs" (.ref a)) "name" (.str w)) "at" (.int 0)) 0 a w := ⟨by simp, by simp, by simp⟩
  have T := takes_loop hR hl hw l.length 0 _ H 0 (by (first | lia | omega)) h0 .rfl'
  rw [List.drop_zero] at T
  unfold takesB
  cases hk : tk w l 0 with
  | none =>
    rw [hk] at T
    obtain ⟨r', H', t1, t2⟩ := T
    refine ⟨H', fun m => kCall_fn PP_takes rfl (by decide) ?_, t2⟩
    simp [bd_law_takes, h1, srcLen, h2]
    have := t1 (m + 27)
    simp only [takesBody, Nat.add_assoc, Nat.reduceAdd] at this
    simp [this, same]
  | some k =>
    rw [hk] at T
    obtain ⟨r', H', t1, t2, t3⟩ := T
    refine ⟨H' ++ [.lst []], fun m => kCall_fn PP_takes rfl (by decide) ?_, t3.add⟩
    simp [bd_law_takes, h1, srcLen, h2]
    have := t1 (m + 27)
    simp only [takesBody, Nat.add_assoc, Nat.reduceAdd] at this
    have hg := hGet_old H' [.lst []] (hGet_lt (t3.get h1))
    have e : xs.isEmpty = decide (l = []) := by cases xs <;> cases l <;> simp at h2 ⊢
    by_cases hl0 : l = []
    · rw [this]; simp [t2.at_, t2.name, t2.runs, hg, t3.get h1, hGet_end, e, hl0, same]
    · rw [this]; simp [t2.at_, t2.name, t2.runs, hg, t3.get h1, hGet_end, e, hl0]
      rw [show (((k : Int)) == (w.length : Int)) = (k == w.length) by rw [Bool.eq_iff_iff]; simp; (first | lia | omega)]
      exact same
end Mine
end

section
set_option Elab.async false
set_option linter.all false
set_option maxRecDepth 100000
namespace Mine
open PySem PyProof.Rows
variable {H : Hp}

noncomputable def bl (R : List Bool) : List V := R.map V.bool
@[simp] theorem bl_length (R : List Bool) : (bl R).length = R.length := by simp [bl]
@[simp] theorem bl_get (R : List Bool) (i : Nat) : (bl R)[i]? = (R[i]?).map V.bool := by simp [bl]
@[simp] theorem bl_getE (R : List Bool) (i : Nat) (h : i < (bl R).length) : (bl R)[i]'h = .bool (R[i]'(by simpa using h)) := by simp [bl]
theorem bl_set (R : List Bool) (i : Nat) (b : Bool) : (bl R).set i (.bool b) = bl (R.set i b) := by simp [bl, List.map_set]
theorem bl_snoc (R : List Bool) (b : Bool) : bl R ++ [.bool b] = bl (R ++ [b]) := by simp [bl]
theorem bl_rep (n : Nat) (b : Bool) : List.replicate n (V.bool b) = bl (List.replicate n b) := by simp [bl]

theorem place_succ (i n : Nat) : place ((i : Int) + 1) n = if i + 1 < n then some (i + 1) else none := place_nat2 i 1 n

noncomputable def clo1 (gs : List Glyph) (p : Nat) (R : List Bool) : List Bool := if R[p]? = some true ∧ gs[p]? = some .star then R.set (p + 1) true else R
noncomputable def clo (gs : List Glyph) (R : List Bool) : Nat → List Bool
  | 0 => R
  | p + 1 => clo1 gs p (clo gs R p)
noncomputable def aft1 (gs : List Glyph) (R : List Bool) (c : Nat) (p : Nat) (A : List Bool) : List Bool :=
  if R[p]? = some true then (match gs[p]? with | none => A | some g => if g = .star then A.set p true else if g.takes c then A.set (p + 1) true else A) else A
noncomputable def aft (gs : List Glyph) (R : List Bool) (c : Nat) : Nat → List Bool
  | 0 => List.replicate (gs.length + 1) false
  | p + 1 => aft1 gs R c p (aft gs R c p)
noncomputable def reachN (gs : List Glyph) (w : List Nat) : Nat → List Bool
  | 0 => true :: List.replicate gs.length false
  | k + 1 => match w[k]? with | some c => aft gs (clo gs (reachN gs w k) gs.length) c gs.length | none => List.replicate (gs.length + 1) false
noncomputable def cloN (gs : List Glyph) (w : List Nat) (k : Nat) : List Bool := clo gs (reachN gs w k) gs.length
noncomputable def meantB (gs : List Glyph) (w : List Nat) (k : Nat) : Bool := ((cloN gs w k)[gs.length]?).getD false

theorem clo1_len (gs : List Glyph) (p : Nat) (R : List Bool) : (clo1 gs p R).length = R.length := by unfold clo1; split <;> simp
theorem clo_len (gs : List Glyph) (R : List Bool) : ∀ p, (clo gs R p).length = R.length
  | 0 => rfl
  | p + 1 => by rw [clo, clo1_len, clo_len gs R p]
theorem aft1_len (gs : List Glyph) (R A : List Bool) (c p : Nat) : (aft1 gs R c p A).length = A.length := by
  unfold aft1
  split
  · split
    · rfl
    · split
      · simp
      · split <;> simp
  · rfl
theorem aft_len (gs : List Glyph) (R : List Bool) (c : Nat) : ∀ p, (aft gs R c p).length = gs.length + 1
  | 0 => by simp [aft]
  | p + 1 => by rw [aft, aft1_len, aft_len gs R c p]
theorem reach_len (gs : List Glyph) (w : List Nat) : ∀ k, (reachN gs w k).length = gs.length + 1
  | 0 => by simp [reachN]
  | k + 1 => by
    rw [reachN]
    split
    · exact aft_len ..
    · simp
theorem cloN_len (gs : List Glyph) (w : List Nat) (k : Nat) : (cloN gs w k).length = gs.length + 1 := by rw [cloN, clo_len, reach_len]

noncomputable def mB1 : List S := [.iff (.and_ [.sub (.var "reach") (.var "place"), .cmp1 (PySem.CmpOp.Is) (.sub (.var "items") (.var "place")) (.cN)]) [.setI (.var "reach") (.bin (PySem.Operator.Add) (.var "place") (.cI 1)) (.cB true)] []]
noncomputable def mB2 : List S := [.iff (.and_ [.cmp1 (PySem.CmpOp.Lt) (.var "k") (.callG "len" [.var "path"]), .sub (.var "reach") (.var "place")]) [.iff (.cmp1 (PySem.CmpOp.Is) (.sub (.var "items") (.var "place")) (.cN)) [.setI (.var "after") (.var "place") (.cB true)] [.iff (.callG "_law_in" [.sub (.var "items") (.var "place"), .sub (.var "path") (.var "k")]) [.setI (.var "after") (.bin (PySem.Operator.Add) (.var "place") (.cI 1)) (.cB true)] []]] []]

structure MR (r : Rho) (ia ma ra k : Nat) (w : List Nat) : Prop where
  it : r "items" = some (.ref ia)
  pa : r "path" = some (.str w)
  me : r "meant" = some (.ref ma)
  re : r "reach" = some (.ref ra)
  k : r "k" = some (.int k)

/- the first inner loop: other lists stand -/
noncomputable def Only (a : Nat) (H H' : Hp) : Prop := H'.length = H.length ∧ ∀ b, b ≠ a → H'[b]? = H[b]?
theorem Only.set {a : Nat} {xs : List V} : Only a H (hSet H a xs) := ⟨by simp, fun b hb => by simp [hSet, List.getElem?_set, show a ≠ b by (first | lia | omega)]⟩
theorem Only.rfl' {a : Nat} : Only a H H := ⟨rfl, fun _ _ => rfl⟩
theorem Only.trans {a : Nat} {H1 H2 H3 : Hp} (h : Only a H1 H2) (g : Only a H2 H3) : Only a H1 H3 := ⟨g.1.trans h.1, fun b hb => (g.2 b hb).trans (h.2 b hb)⟩
theorem Only.get {a b : Nat} {H1 H2 : Hp} (h : Only a H1 H2) (hb : b ≠ a) : hGet H2 b = hGet H1 b := by simp only [hGet, h.2 b hb]
theorem Only.ext {a : Nat} {H1 H2 : Hp} {H0 : Hp} (h : Only a H1 H2) (e : Ext H0 H1) (ha : H0.length ≤ a) : Ext H0 H2 := ⟨by rw [h.1]; exact e.1, fun b hb => by rw [h.2 b (by (first | lia | omega))]; exact e.2 b hb⟩

theorem item_star {v : V} (h : ItemAt H v (Glyph.item .star)) : v = .none := h
theorem item_not {v : V} {g : Glyph} (hg : g ≠ .star) (h : ItemAt H v g.item) : ∃ l, v = .tup l := by
  cases g <;> first | exact absurd rfl hg | (obtain ⟨a, e, _⟩ := h; exact ⟨_, e⟩)

theorem mloop1 {r : Rho} {ia ma ra k : Nat} {w : List Nat} {vs : List V} {gs : List Glyph} {R : List Bool} (h : MR r ia ma ra k w) (hi : hGet H ia = some vs) (hv : ItemsAt H vs (gs.map Glyph.item)) (hr : hGet H ra = some (bl R)) (hR : R.length = gs.length + 1) (hne : ia ≠ ra) :
    ∃ r' H', (∀ m, forN (.ints (rangeN gs.length)) (fBody PP (m + 30) ["place"] true mB1) gs.length 0 r H = some (.nx, r', H')) ∧ MR r' ia ma ra k w ∧ hGet H' ra = some (bl (clo gs R gs.length)) ∧ Only ra H H' := by
  have hlen : vs.length = gs.length := by simpa using hv.1
  refine for_up (b := fun m => fBody PP (m + 30) ["place"] true mB1) (fun i r' H' => MR r' ia ma ra k w ∧ hGet H' ra = some (bl (clo gs R i)) ∧ Only ra H H') (fun i r1 H1 hi' ⟨g1, g2, g3⟩ => ?_) gs.length 0 r H (by omega) ⟨h, hr, .rfl'⟩
  have e0 := hi
  rw [← g3.get hne] at hi
  have e1 : vs[i]? = some vs[i] := by simp [show i < vs.length by omega]
  have e2 : gs[i]? = some gs[i] := by simp [hi']
  have hL := clo_len gs R i
  have hc : i < (clo gs R i).length := by omega
  have e3 : (clo gs R i)[i]? = some (clo gs R i)[i] := by simp [hc]
  have M2 : MR (upd r1 "place" (.int i)) ia ma ra k w := ⟨by first | exact g1.it | simp [g1.it], by first | exact g1.pa | simp [g1.pa], by first | exact g1.me | simp [g1.me], by first | exact g1.re | simp [g1.re], by first | exact g1.k | simp [g1.k]⟩
  have hI := hv.2 i vs[i] gs[i].item e1 (by simp [e2])
  have c1 : clo gs R (i + 1) = if (clo gs R i)[i] = true ∧ gs[i] = .star then (clo gs R i).set (i + 1) true else clo gs R i := by
    rw [clo, clo1, e3, e2]; simp only [Option.some.injEq]
  cases cr : (clo gs R i)[i] with
  | false =>
    rw [cr] at e3
    refine ⟨_, _, fun m => by simp [mB1, g1.re, g1.it, g2, hL, hR, place_nat, hi', show i < gs.length + 1 by omega, cr] <;> rfl, M2, by rw [c1, cr]; simp [g2], g3⟩
  | true =>
    rw [cr] at e3
    by_cases cs : gs[i] = .star
    · rw [cs] at hI
      have hn := item_star hI
      rw [hn] at e1
      refine ⟨_, hSet H1 ra (bl ((clo gs R i).set (i + 1) true)), fun m => by simp [mB1, g1.re, g1.it, g2, hL, hR, place_nat, place_succ, hi', hi, hlen, show i < gs.length + 1 by omega, cr, hn, bl_set] <;> rfl, M2, ?_, g3.trans .set⟩
      rw [c1, cr, cs, if_pos ⟨rfl, rfl⟩]
      exact hGet_set _ _ (hGet_lt g2)
    · obtain ⟨l, hn⟩ := item_not cs hI
      rw [hn] at e1
      refine ⟨_, H1, fun m => by simp [mB1, g1.re, g1.it, g2, hL, hR, place_nat, place_succ, hi', hi, hlen, show i < gs.length + 1 by omega, cr, hn] <;> rfl, M2, ?_, g3⟩
      rw [c1, if_neg (fun h => cs h.2)]
      exact g2

structure MR2 (r : Rho) (ia ma ra fa k : Nat) (w : List Nat) : Prop extends MR r ia ma ra k w where
  af : r "after" = some (.ref fa)

/- fresh things may come too -/
noncomputable def Only2 (a : Nat) (H H' : Hp) : Prop := H.length ≤ H'.length ∧ ∀ b, b ≠ a → b < H.length → H'[b]? = H[b]?
theorem Only2.set {a : Nat} {xs : List V} : Only2 a H (hSet H a xs) := ⟨by simp, fun b hb _ => by simp [hSet, List.getElem?_set, show a ≠ b by (first | lia | omega)]⟩
theorem Only2.rfl' {a : Nat} : Only2 a H H := ⟨Nat.le_refl _, fun _ _ _ => rfl⟩
theorem Only2.of {a : Nat} {H1 H2 : Hp} (e : Ext H1 H2) : Only2 a H1 H2 := ⟨e.1, fun b _ hl => e.2 b hl⟩
theorem Only.o2 {a : Nat} {H1 H2 : Hp} (e : Only a H1 H2) : Only2 a H1 H2 := ⟨by rw [e.1]; exact Nat.le_refl _, fun b h _ => e.2 b h⟩
theorem Only2.trans {a : Nat} {H1 H2 H3 : Hp} (h : Only2 a H1 H2) (g : Only2 a H2 H3) : Only2 a H1 H3 := ⟨Nat.le_trans h.1 g.1, fun b hb hl => (g.2 b hb (Nat.lt_of_lt_of_le hl h.1)).trans (h.2 b hb hl)⟩
theorem Only2.get {a b : Nat} {H1 H2 : Hp} {xs : List V} (h : Only2 a H1 H2) (hb : b ≠ a) (e : hGet H1 b = some xs) : hGet H2 b = some xs := by simp only [hGet, h.2 b hb (hGet_lt e)]; exact e
theorem Only2.ext {a : Nat} {H1 H2 : Hp} {H0 : Hp} (h : Only2 a H1 H2) (e : Ext H0 H1) (ha : H0.length ≤ a) : Ext H0 H2 := ⟨Nat.le_trans e.1 h.1, fun b hb => by rw [h.2 b (by (first | lia | omega)) (Nat.lt_of_lt_of_le hb e.1)]; exact e.2 b hb⟩

theorem mloop2 {H0 : Hp} {r : Rho} {ia ma ra fa k c : Nat} {w : List Nat} {vs : List V} {gs : List Glyph} {R : List Bool} (h : MR2 r ia ma ra fa k w) (hi : hGet H ia = some vs) (hv : ItemsAt H0 vs (gs.map Glyph.item)) (h0 : Ext H0 H) (hr : hGet H ra = some (bl R)) (hf : hGet H fa = some (bl (List.replicate (gs.length + 1) false))) (hR : R.length = gs.length + 1) (hne : ia ≠ fa) (hnf : ra ≠ fa) (h0f : H0.length ≤ fa) (hk : k < w.length) (hc : w[k]? = some c) :
    ∃ r' H', (∀ m, forN (.ints (rangeN gs.length)) (fBody PP (m + 50) ["place"] true mB2) gs.length 0 r H = some (.nx, r', H')) ∧ MR2 r' ia ma ra fa k w ∧ hGet H' fa = some (bl (aft gs R c gs.length)) ∧ Only2 fa H H' := by
  have hlen : vs.length = gs.length := by simpa using hv.1
  have hck : w[k] = c := by simpa [hk] using hc
  refine for_up (b := fun m => fBody PP (m + 50) ["place"] true mB2) (fun i r' H' => MR2 r' ia ma ra fa k w ∧ hGet H' fa = some (bl (aft gs R c i)) ∧ Only2 fa H H') (fun i r1 H1 hi' ⟨g1, g2, g3⟩ => ?_) gs.length 0 r H (by omega) ⟨h, hf, .rfl'⟩
  have i1 := g3.get hne hi
  have i2 := g3.get hnf hr
  have x0 : Ext H0 H1 := g3.ext h0 h0f
  have e1 : vs[i]? = some vs[i] := by simp [show i < vs.length by omega]
  have e2 : gs[i]? = some gs[i] := by simp [hi']
  have e3 : R[i]? = some R[i] := by simp [show i < R.length by omega]
  have hL := aft_len gs R c i
  have M2 : MR2 (upd r1 "place" (.int i)) ia ma ra fa k w := { it := by first | exact g1.it | simp [g1.it], pa := by first | exact g1.pa | simp [g1.pa], me := by first | exact g1.me | simp [g1.me], re := by first | exact g1.re | simp [g1.re], k := by first | exact g1.k | simp [g1.k], af := by simp [g1.af] }
  have hI := (hv.2 i vs[i] gs[i].item e1 (by simp [e2])).ext x0
  have c1 : aft gs R c (i + 1) = if R[i] = true then (if gs[i] = .star then (aft gs R c i).set i true else if gs[i].takes c then (aft gs R c i).set (i + 1) true else aft gs R c i) else aft gs R c i := by
    rw [aft, aft1, e3, e2]; simp only [Option.some.injEq]
  cases cr : R[i] with
  | false =>
    refine ⟨_, _, fun m => by simp [mB2, g1.re, g1.it, g1.pa, g1.k, hk, i2, hR, place_nat, hi', show i < gs.length + 1 by omega, cr] <;> rfl, M2, by rw [c1, cr]; simp [g2], g3⟩
  | true =>
    by_cases cs : gs[i] = .star
    · rw [cs] at hI
      have hn := item_star hI
      refine ⟨_, hSet H1 fa (bl ((aft gs R c i).set i true)), fun m => by simp [mB2, g1.re, g1.it, g1.pa, g1.k, g1.af, g2, hL, hk, i1, i2, hlen, hR, place_nat, hi', show i < gs.length + 1 by omega, cr, hn, bl_set] <;> rfl, M2, ?_, g3.trans .set⟩
      rw [c1, cr, cs]; simp only [if_true]
      exact hGet_set _ _ (hGet_lt g2)
    · obtain ⟨l, hn⟩ := item_not cs hI
      obtain ⟨H2, s1, s2⟩ := run_inG (H := H1) (v := vs[i]) (g := gs[i]) c cs hI
      rw [hn] at s1
      have g2' := s2.get g2
      cases ct : gs[i].takes c with
      | false =>
        refine ⟨_, H2, fun m => by simp [mB2, g1.re, g1.it, g1.pa, g1.k, g1.af, g2, hL, hk, i1, i2, hlen, hR, place_nat, hi', show i < gs.length + 1 by omega, cr, hn, pSub_str, hck, s1, ct] <;> rfl, M2, ?_, g3.trans (.of s2)⟩
        rw [c1, cr, if_pos rfl, if_neg cs, ct]
        exact g2'
      | true =>
        refine ⟨_, hSet H2 fa (bl ((aft gs R c i).set (i + 1) true)), fun m => by simp [mB2, g1.re, g1.it, g1.pa, g1.k, g1.af, g2', hL, hk, i1, i2, hlen, hR, place_nat, place_succ, hi', show i < gs.length + 1 by omega, cr, hn, pSub_str, hck, s1, ct, bl_set] <;> rfl, M2, ?_, g3.trans (.trans (.of s2) .set)⟩
        rw [c1, cr, if_pos rfl, if_neg cs, ct]
        exact hGet_set _ _ (hGet_lt g2')

/- past the end of the path nothing is turned -/
theorem mloop3 {r : Rho} {ia ma ra fa k : Nat} {w : List Nat} {n : Nat} (h : MR2 r ia ma ra fa k w) (hk : w.length ≤ k) :
    ∃ r' H', (∀ m, forN (.ints (rangeN n)) (fBody PP (m + 50) ["place"] true mB2) n 0 r H = some (.nx, r', H')) ∧ MR2 r' ia ma ra fa k w ∧ H' = H := by
  refine for_up (b := fun m => fBody PP (m + 50) ["place"] true mB2) (fun i r' H' => MR2 r' ia ma ra fa k w ∧ H' = H) (fun i r1 H1 hi' ⟨g1, g2⟩ => ?_) n 0 r H (by (first | lia | omega)) ⟨h, rfl⟩
  have M2 : MR2 (upd r1 "place" (.int i)) ia ma ra fa k w := { it := by first | exact g1.it | simp [g1.it], pa := by first | exact g1.pa | simp [g1.pa], me := by first | exact g1.me | simp [g1.me], re := by first | exact g1.re | simp [g1.re], k := by first | exact g1.k | simp [g1.k], af := by simp [g1.af] }
  exact ⟨_, _, fun m => by simp [mB2, g1.pa, g1.k, show ¬ k < w.length by (first | lia | omega)] <;> rfl, M2, g2⟩

structure MO1 (H0 : Hp) (r : Rho) (H : Hp) (ia : Nat) (w : List Nat) (gs : List Glyph) (k : Nat) : Prop where
  it : r "items" = some (.ref ia)
  pa : r "path" = some (.str w)
  ma : ∃ ma ra, r "meant" = some (.ref ma) ∧ r "reach" = some (.ref ra) ∧ ma ≠ ra ∧ H0.length ≤ ma ∧ H0.length ≤ ra ∧ hGet H ma = some (bl ((List.range k).map (meantB gs w))) ∧ hGet H ra = some (bl (reachN gs w k))
  ex : Ext H0 H

noncomputable def mBody : List S := [.for_ ["place"] true (.callG "range" [.callG "len" [.var "items"]]) mB1, .ex (.meth (.var "meant") "append" [.sub (.var "reach") (.neg (.cI 1))]), .asg "after" (.bin (PySem.Operator.Mult) (.lst [.cB false]) (.bin (PySem.Operator.Add) (.callG "len" [.var "items"]) (.cI 1))), .for_ ["place"] true (.callG "range" [.callG "len" [.var "items"]]) mB2, .asg "reach" (.var "after")]

theorem kMulL_nat1 {v : V} {k : Nat} (h : k + 1 < 1000000) : kMulL H ((k : Int) + 1) (some [v]) = some (.ref H.length, H ++ [.lst (List.replicate (k + 1) v)]) := by
  have h1 : (0 : Int) ≤ (k : Int) + 1 := by (first | lia | omega)
  have h2 : (k : Int) + 1 < 1000000 := by (first | lia | omega)
  rw [kMulL_some, if_pos (by rw [decide_eq_true h1, decide_eq_true h2]; rfl)]
  rfl
theorem kMulL_nat {v : V} {k : Nat} (h : k < 1000000) : kMulL H (k : Int) (some [v]) = some (.ref H.length, H ++ [.lst (List.replicate k v)]) := by
  have h1 : (0 : Int) ≤ (k : Int) := by (first | lia | omega)
  have h2 : (k : Int) < 1000000 := by (first | lia | omega)
  rw [kMulL_some, if_pos (by rw [decide_eq_true h1, decide_eq_true h2]; rfl)]
  rfl
theorem place_last {n : Nat} : place (-1) (n + 1) = some n := by simp [place]; (first | lia | omega)

set_option maxHeartbeats 1000000 in
theorem mturn {H0 : Hp} {r : Rho} {ia k : Nat} {w : List Nat} {vs : List V} {gs : List Glyph} (h : MO1 H0 r H ia w gs k) (hi : hGet H0 ia = some vs) (hv : ItemsAt H0 vs (gs.map Glyph.item)) (hg : gs.length ≤ 100) (hk : k ≤ w.length) (hw : w.length ≤ 100) :
    ∃ r' H', (∀ m, fBody PP (m + 70) ["k"] true mBody (.int k) r H = some (.nx, r', H')) ∧ MO1 H0 r' H' ia w gs (k + 1) := by
  obtain ⟨h1, h2, ⟨ma, ra, a1, a2, a3, a4, a5, a6, a7⟩, x0⟩ := h
  have hlen : vs.length = gs.length := by simpa using hv.1
  have hia := hGet_lt hi
  have M : MR (upd r "k" (.int k)) ia ma ra k w := ⟨by simp [h1], by simp [h2], by simp [a1], by simp [a2], by simp⟩
  obtain ⟨r1, H1, b1, b2, b3, b4⟩ := mloop1 M (x0.get hi) (hv.ext x0) a7 (reach_len gs w k) (by (first | lia | omega))
  have i1 := b4.get (b := ia) (by (first | lia | omega))
  rw [x0.get hi] at i1
  have m1 := b4.get (b := ma) a3
  rw [a6] at m1
  have x1 := b4.ext x0 a5
  have cl : ((clo gs (reachN gs w k) gs.length))[gs.length]? = some (meantB gs w k) := by
    have := cloN_len gs w k
    unfold meantB cloN at *
    simp [show gs.length < (clo gs (reachN gs w k) gs.length).length by (first | lia | omega)]
  -- after append
  have hsma := hGet_lt m1
  have hsra := hGet_lt b3
  generalize hH2 : hSet H1 ma (bl ((List.range k).map (meantB gs w)) ++ [.bool (meantB gs w k)]) = H2
  have m2 : hGet H2 ma = some (bl ((List.range (k + 1)).map (meantB gs w))) := by rw [← hH2, hGet_set _ _ hsma, bl_snoc]; simp [List.range_succ]
  have r2 : hGet H2 ra = some (bl (cloN gs w k)) := by rw [← hH2, hGet_set_ne _ _ a3]; exact b3
  have i2 : hGet H2 ia = some vs := by rw [← hH2, hGet_set_ne _ _ (by (first | lia | omega))]; exact i1
  have x2 : Ext H0 H2 := by rw [← hH2]; exact x1.set a4
  have l2 : H2.length = H1.length := by rw [← hH2]; simp
  generalize hH3 : H2 ++ [.lst [.bool false]] = H3
  have l3 : H3.length = H1.length + 1 := by rw [← hH3]; simp [l2]
  have f3 : hGet H3 H1.length = some [.bool false] := by rw [← hH3, ← l2]; exact hGet_end _ _
  have i3 : hGet H3 ia = some vs := by rw [← hH3, hGet_old _ _ (hGet_lt i2)]; exact i2
  have m3 : hGet H3 ma = some (bl ((List.range (k + 1)).map (meantB gs w))) := by rw [← hH3, hGet_old _ _ (hGet_lt m2)]; exact m2
  have r3 : hGet H3 ra = some (bl (cloN gs w k)) := by rw [← hH3, hGet_old _ _ (hGet_lt r2)]; exact r2
  have x3 : Ext H0 H3 := by rw [← hH3]; exact x2.add
  generalize hH4 : H3 ++ [.lst (List.replicate (gs.length + 1) (.bool false))] = H4
  have f4 : hGet H4 H3.length = some (bl (List.replicate (gs.length + 1) false)) := by rw [← hH4, hGet_end, bl_rep]
  have i4 : hGet H4 ia = some vs := by rw [← hH4, hGet_old _ _ (hGet_lt i3)]; exact i3
  have m4 : hGet H4 ma = some (bl ((List.range (k + 1)).map (meantB gs w))) := by rw [← hH4, hGet_old _ _ (hGet_lt m3)]; exact m3
  have r4 : hGet H4 ra = some (bl (cloN gs w k)) := by rw [← hH4, hGet_old _ _ (hGet_lt r3)]; exact r3
  have x4 : Ext H0 H4 := by rw [← hH4]; exact x3.add
  have M4 : MR2 (upd r1 "after" (.ref H3.length)) ia ma ra H3.length k w := { it := by first | exact b2.it | simp [b2.it], pa := by first | exact b2.pa | simp [b2.pa], me := by first | exact b2.me | simp [b2.me], re := by first | exact b2.re | simp [b2.re], k := by first | exact b2.k | simp [b2.k], af := by simp }
  have fuel1 : ∀ m, exs PP (m + 70) mBody (upd r "k" (.int k)) H = exs PP (m + 67) [.for_ ["place"] true (.callG "range" [.callG "len" [.var "items"]]) mB2, .asg "reach" (.var "after")] (upd r1 "after" (.ref H3.length)) H4 := fun m => by
    have e5 : place (-1) (clo gs (reachN gs w k) gs.length).length = some gs.length := by
      have := cloN_len gs w k
      unfold cloN at this
      rw [this, place_last]
    simp [mBody, h1, x0.get hi, hlen, kR1_nat (show gs.length < 1000000 by (first | lia | omega)), b1, b2.me, b2.re, m1, b3, e5, cl, lim_of (show k ≤ 10000 by (first | lia | omega)), hH2, hH3, b2.it, i3, l2, kMulL_nat1 (show gs.length + 1 < 1000000 by (first | lia | omega)), f3, hH4]
  have fin : ∃ r' H', (∀ m, exs PP (m + 67) [.for_ ["place"] true (.callG "range" [.callG "len" [.var "items"]]) mB2, .asg "reach" (.var "after")] (upd r1 "after" (.ref H3.length)) H4 = some (.nx, r', H')) ∧ MO1 H0 r' H' ia w gs (k + 1) := by
    by_cases hkw : k < w.length
    · obtain ⟨r5, H5, c1, c2, c3, c4⟩ := mloop2 (c := w[k]) M4 i4 hv x4 r4 f4 (cloN_len gs w k) (by have := x3.1; (first | lia | omega)) (by have := hGet_lt r3; (first | lia | omega)) (by have := x3.1; (first | lia | omega)) hkw (by simp [hkw])
      refine ⟨_, H5, fun m => by simp [b2.it, i4, hlen, kR1_nat (show gs.length < 1000000 by (first | lia | omega)), c1, c2.af] <;> rfl, ⟨by first | exact c2.it | simp [c2.it], by first | exact c2.pa | simp [c2.pa], ⟨ma, H3.length, by first | exact c2.me | simp [c2.me], by simp, ?_, a4, ?_, ?_, ?_⟩, c4.ext x4 ?_⟩⟩
      · have := hGet_lt m3; (first | lia | omega)
      · have := x3.1; (first | lia | omega)
      · exact c4.get (by have := hGet_lt m3; (first | lia | omega)) m4
      · rw [reachN, show w[k]? = some w[k] by simp [hkw]]
        exact c3
      · have := x3.1; (first | lia | omega)
    · obtain ⟨r5, H5, c1, c2, c3⟩ := mloop3 (H := H4) (n := gs.length) M4 (by (first | lia | omega))
      subst c3
      refine ⟨_, _, fun m => by simp [b2.it, i4, hlen, kR1_nat (show gs.length < 1000000 by (first | lia | omega)), c1, c2.af] <;> rfl, ⟨by first | exact c2.it | simp [c2.it], by first | exact c2.pa | simp [c2.pa], ⟨ma, H3.length, by first | exact c2.me | simp [c2.me], by simp, ?_, a4, ?_, m4, ?_⟩, x4⟩⟩
      · have := hGet_lt m3; (first | lia | omega)
      · have := x3.1; (first | lia | omega)
      · rw [reachN, show w[k]? = none by simp; (first | lia | omega)]
        exact f4
  obtain ⟨r', H', d1, d2⟩ := fin
  exact ⟨r', H', fun m => by rw [fBody_eq, bindT_one, kFB_some, fuel1, d1], d2⟩

theorem exs_step {P : Prog} {n : Nat} {s : S} {ss : List S} {r r1 : Rho} {H H1 : Hp} (h : ex P n s r H = some (.nx, r1, H1)) : exs P (n + 1) (s :: ss) r H = exs P n ss r1 H1 := by rw [exs_cons, h, kCons_nx]
set_option maxHeartbeats 1000000 in
theorem run_meant {ia : Nat} {w : List Nat} {vs : List V} {gs : List Glyph} (hi : hGet H ia = some vs) (hv : ItemsAt H vs (gs.map Glyph.item)) (hg : gs.length ≤ 100) (hw : w.length ≤ 100) :
    ∃ a H', (∀ m, kCall PP (m + 100) "_law_meant" [.ref ia, .str w] H = some (.ref a, H')) ∧ hGet H' a = some (bl ((List.range (w.length + 1)).map (meantB gs w))) ∧ Ext H H' := by
  have hlen : vs.length = gs.length := by simpa using hv.1
  have hia := hGet_lt hi
  generalize hH1 : H ++ [MO.lst [V.bool true]] = H1
  have l1 : H1.length = H.length + 1 := by rw [← hH1]; simp
  have i1 : hGet H1 ia = some vs := by rw [← hH1, hGet_old _ _ hia]; exact hi
  have t1 : hGet H1 H.length = some [.bool true] := by rw [← hH1]; exact hGet_end _ _
  have x1 : Ext H H1 := by rw [← hH1]; exact .app
  generalize hH2 : H1 ++ [MO.lst [V.bool false]] = H2
  have l2 : H2.length = H.length + 2 := by rw [← hH2]; simp [l1]
  have i2 : hGet H2 ia = some vs := by rw [← hH2, hGet_old _ _ (hGet_lt i1)]; exact i1
  have t2 : hGet H2 H.length = some [.bool true] := by rw [← hH2, hGet_old _ _ (hGet_lt t1)]; exact t1
  have u2 : hGet H2 H1.length = some [.bool false] := by rw [← hH2]; exact hGet_end _ _
  have x2 : Ext H H2 := by rw [← hH2]; exact x1.add
  generalize hH3 : H2 ++ [MO.lst (List.replicate gs.length (V.bool false))] = H3
  have l3 : H3.length = H.length + 3 := by rw [← hH3]; simp [l2]
  have t3 : hGet H3 H.length = some [.bool true] := by rw [← hH3, hGet_old _ _ (hGet_lt t2)]; exact t2
  have u3 : hGet H3 H2.length = some (List.replicate gs.length (V.bool false)) := by rw [← hH3]; exact hGet_end _ _
  have x3 : Ext H H3 := by rw [← hH3]; exact x2.add
  generalize hH4 : H3 ++ [MO.lst (V.bool true :: List.replicate gs.length (V.bool false))] = H4
  have l4 : H4.length = H.length + 4 := by rw [← hH4]; simp [l3]
  have u4 : hGet H4 H3.length = some (bl (reachN gs w 0)) := by rw [← hH4, hGet_end, bl_rep]; rfl
  have x4 : Ext H H4 := by rw [← hH4]; exact x3.add
  generalize hH5 : H4 ++ [MO.lst []] = H5
  have l5 : H5.length = H.length + 5 := by rw [← hH5]; simp [l4]
  have u5 : hGet H5 H3.length = some (bl (reachN gs w 0)) := by rw [← hH5, hGet_old _ _ (hGet_lt u4)]; exact u4
  have v5 : hGet H5 H4.length = some (bl []) := by rw [← hH5]; exact hGet_end _ _
  have x5 : Ext H H5 := by rw [← hH5]; exact x4.add
  obtain ⟨r', H', c1, c2⟩ := for_up (b := fun m => fBody PP (m + 70) ["k"] true mBody) (n := w.length + 1) (fun k r1 H1 => MO1 H r1 H1 ia w gs k) (fun k r1 H1 hk h => mturn h hi hv hg (by (first | lia | omega)) hw) (w.length + 1) 0
    (upd (upd (upd (upd rnil "items" (.ref ia)) "path" (.str w)) "reach" (.ref H3.length)) "meant" (.ref H4.length)) H5 (by (first | lia | omega)) ⟨by simp, by simp, ⟨H4.length, H3.length, by simp, by simp, by (first | lia | omega), by (first | lia | omega), by (first | lia | omega), v5, u5⟩, x5⟩
  obtain ⟨d1, d2, ⟨ma, ra, e1, e2, e3, e4, e5, e6, e7⟩, e8⟩ := c2
  simp only [mBody, mB1, mB2] at c1
  have s1 : ∀ m, ex PP (m + 99) (bd_law_meant[0]) (updL rnil ["items", "path"] [.ref ia, .str w]) H = some (.nx, upd (upd (upd rnil "items" (.ref ia)) "path" (.str w)) "reach" (.ref H3.length), H4) := fun m => by
    simp [bd_law_meant, hH1, hH2, i2, hlen, u2, kMulL_nat (show gs.length < 1000000 by (first | lia | omega)), hH3, t3, u3, lim_of (show 1 + gs.length ≤ 10000 by (first | lia | omega)), hH4]
  have s2 : ∀ m, ex PP (m + 98) (bd_law_meant[1]) (upd (upd (upd rnil "items" (.ref ia)) "path" (.str w)) "reach" (.ref H3.length)) H4 = some (.nx, upd (upd (upd (upd rnil "items" (.ref ia)) "path" (.str w)) "reach" (.ref H3.length)) "meant" (.ref H4.length), H5) := fun m => by
    simp [bd_law_meant, hH5]
  have s3 : ∀ m, ex PP (m + 97) (bd_law_meant[2]) (upd (upd (upd (upd rnil "items" (.ref ia)) "path" (.str w)) "reach" (.ref H3.length)) "meant" (.ref H4.length)) H5 = some (.nx, r', H') := fun m => by
    simp [bd_law_meant, kR1_nat1 (show w.length + 1 < 1000000 by (first | lia | omega)), c1]
  have e : bd_law_meant = [bd_law_meant[0], bd_law_meant[1], bd_law_meant[2], .ret (.var "meant")] := rfl
  refine ⟨ma, H', fun m => kCall_fn PP_meant rfl (by decide) ?_, e6, e8⟩
  rw [e, exs_step (s1 m), exs_step (s2 m), exs_step (s3 m)]
  simp [e1]
  exact same
end Mine
end

section
set_option Elab.async false
set_option linter.all false
set_option maxRecDepth 100000
namespace Mine
open PySem PyProof.Rows
variable {H : Hp}

/- what stands in s from i on -/
noncomputable def At (s : List Nat) (i : Nat) (u : List Nat) : Prop := s.drop i = u ∧ i ≤ s.length
theorem At.len {s u : List Nat} {i : Nat} (h : At s i u) : s.length = i + u.length := by rw [← h.1, List.length_drop]; have := h.2; (first | lia | omega)
theorem At.get {s u : List Nat} {i : Nat} (h : At s i u) (k : Nat) : s[i + k]? = u[k]? := by rw [← h.1, List.getElem?_drop]
theorem At.next {s u v : List Nat} {i : Nat} (h : At s i (u ++ v)) : At s (i + u.length) v := ⟨by rw [← List.drop_drop, h.1]; simp, by have := h.len; simp at this; (first | lia | omega)⟩
theorem At.take {s u : List Nat} {i : Nat} (h : At s i u) (k : Nat) : (s.take (i + k)).drop i = u.take k := by rw [List.drop_take, h.1]; congr 1; (first | lia | omega)

theorem at_sub {s u : List Nat} {i : Nat} (h : At s i u) (k : Nat) : pSub (.str s) (.int ((i : Int) + (k : Int))) H = (u[k]?).map fun c => V.str [c] := by
  rw [pSub_str, place_nat2]
  have := h.len
  by_cases hk : i + k < s.length
  · rw [if_pos hk, Option.bind_some, h.get]
  · rw [if_neg hk, Option.bind_none, List.getElem?_eq_none (by (first | lia | omega))]; rfl
theorem at_sub0 {s u : List Nat} {i : Nat} (h : At s i u) : pSub (.str s) (.int (i : Int)) H = (u[0]?).map fun c => V.str [c] := by
  have := at_sub (H := H) h 0
  simpa using this
theorem clampI_nat (n k : Nat) : clampI n (k : Int) = min k n := by simp [clampI, show ¬ ((k : Int) < 0) by (first | lia | omega)]
theorem at_slc {s u : List Nat} {i : Nat} (h : At s i u) (k l : Nat) (hl : l ≤ k) : pSlc (.str s) (some (.int ((i : Int) + (l : Int)))) (some (.int ((i : Int) + (k : Int)))) H = some (.str ((u.take k).drop l), H) := by
  have e : ∀ j : Nat, (i : Int) + (j : Int) = ((i + j : Nat) : Int) := fun j => by (first | lia | omega)
  simp only [pSlc, oInt_none, oInt_int, Option.bind_some, slcAt_str, slcAt_scr, pySlice, e, clampI_nat]
  have h3 : s.take (min (i + k) s.length) = s.take (i + k) := by
    by_cases hk : i + k ≤ s.length
    · rw [Nat.min_eq_left hk]
    · rw [Nat.min_eq_right (by (first | lia | omega)), List.take_length, List.take_of_length_le (by (first | lia | omega))]
  rw [h3]
  have hL := h.len
  have h4 : (s.take (i + k)).drop (i + l) = (u.take k).drop l := by rw [← List.drop_drop, h.take]
  by_cases hk : i + l ≤ s.length
  · rw [Nat.min_eq_left hk, h4]
  · rw [Nat.min_eq_right (by (first | lia | omega)), ← h4, List.drop_eq_nil_of_le (by simp; (first | lia | omega)), List.drop_eq_nil_of_le (by simp; (first | lia | omega))]
theorem at_slc0 {s u : List Nat} {i : Nat} (h : At s i u) (k : Nat) : pSlc (.str s) (some (.int (i : Int))) (some (.int ((i : Int) + (k : Int)))) H = some (.str (u.take k), H) := by
  have := at_slc (H := H) h k 0 (by (first | lia | omega))
  simpa using this

theorem run_member {s u : List Nat} {i c : Nat} (h : At s i (c :: u)) (hc : c ≠ 92) (m : Nat) : kCall PP (m + 20) "_law_member" [.str s, .int i] H = some (.tup [.str [c], .int ((i : Int) + 1)], H) := by
  refine kCall_fn PP_member rfl (by decide) ?_
  simp [bd_law_member, at_sub0 h, hc]
  exact same
theorem run_member_esc {s u : List Nat} {i c : Nat} (h : At s i (92 :: c :: u)) (m : Nat) : kCall PP (m + 20) "_law_member" [.str s, .int i] H = some (.tup [.str [c], .int ((i : Int) + 2)], H) := by
  refine kCall_fn PP_member rfl (by decide) ?_
  have := at_sub (H := H) h 1
  simp only [Int.ofNat_one] at this
  simp [bd_law_member, at_sub0 h, show pSub (.str s) (.int ((i : Int) + 1)) H = some (.str [c]) from at_sub (H := H) h 1]
  exact same

/- a heap's end written out -/
theorem hGet_app0 (H l : Hp) : hGet (H ++ l) H.length = hGet l 0 := by simp only [hGet, List.getElem?_append_right (Nat.le_refl _), Nat.sub_self]
theorem hGet_appk (H l : Hp) (k : Nat) : hGet (H ++ l) (H.length + k) = hGet l k := by simp only [hGet, List.getElem?_append_right (Nat.le_add_right _ _), Nat.add_sub_cancel_left]
theorem hGet_cons0 (xs : List V) (l : Hp) : hGet (.lst xs :: l) 0 = some xs := rfl
theorem hGet_conss (x : MO) (l : Hp) (k : Nat) : hGet (x :: l) (k + 1) = hGet l k := by simp [hGet]
theorem hSet_app0 (H l : Hp) (xs : List V) : hSet (H ++ l) H.length xs = H ++ hSet l 0 xs := by simp [hSet]
theorem hSet_appk (H l : Hp) (k : Nat) (xs : List V) : hSet (H ++ l) (H.length + k) xs = H ++ hSet l k xs := by simp [hSet]
theorem hSet_cons0 (x : MO) (xs : List V) (l : Hp) : hSet (x :: l) 0 xs = .lst xs :: l := rfl
theorem hSet_conss (x : MO) (xs : List V) (l : Hp) (k : Nat) : hSet (x :: l) (k + 1) xs = x :: hSet l k xs := rfl

section
variable {P : Prog} {r : Rho} {n : Nat} {H H' H1 H2 : Hp} {e c a b : E} {es : List E} {s : S} {t f ss : List S} {v va vb : V} {vs : List V} {x y : String} {w : Fl × Rho × Hp}
theorem Xc {r1 : Rho} (h : ex P n s r H = some (.nx, r1, H1)) (k : exs P n ss r1 H1 = some w) : exs P (n + 1) (s :: ss) r H = some w := by rw [exs_cons, h]; exact k
theorem X0 : exs P (n + 1) [] r H = some (.nx, r, H) := rfl
theorem xA (h : ev P n e r H = some (v, H1)) : ex P (n + 1) (.asg x e) r H = some (.nx, upd r x v, H1) := by rw [ex_asg, h]; rfl
theorem xT (h : ev P n e r H = some (.tup [va, vb], H1)) : ex P (n + 1) (.asgT [x, y] e) r H = some (.nx, upd (upd r x va) y vb, H1) := by rw [ex_asgT, h]; rfl
theorem xIt (h : tst P n c r H = some (true, H1)) (k : exs P n t r H1 = some w) : ex P (n + 1) (.iff c t f) r H = some w := by rw [ex_iff, h]; exact k
theorem xIf (h : tst P n c r H = some (false, H1)) (k : exs P n f r H1 = some w) : ex P (n + 1) (.iff c t f) r H = some w := by rw [ex_iff, h]; exact k
theorem tV {q : Bool} (h : r x = some (.bool q)) : tst P (n + 2) (.var x) r H = some (q, H) := (congrArg kTruth (eV (n := n) h)).trans rfl
theorem eCl {p : V × Hp} {g : String} (h : evs P n es r H = some (vs, H1)) (k : kCall P n g vs H1 = some p) : ev P (n + 1) (.callG g es) r H = some p := by rw [ev_callG, h]; exact k
theorem eCm {op : PySem.CmpOp} {q : Bool} (h1 : ev P n a r H = some (va, H1)) (h2 : ev P n b r H1 = some (vb, H2)) (h3 : pCmp op va vb H2 = some q) : ev P (n + 1) (.cmp1 op a b) r H = some (.bool q, H2) := by rw [ev_cmp1, h1, kCmp_some, h2, kCmp2_some, h3]; rfl
theorem tCm {op : PySem.CmpOp} {q : Bool} (h1 : ev P n a r H = some (va, H1)) (h2 : ev P n b r H1 = some (vb, H2)) (h3 : pCmp op va vb H2 = some q) : tst P (n + 1) (.cmp1 op a b) r H = some (q, H2) := by rw [tst_cmp1, h1, kTCmp_some, h2, kTCmp2_some, h3]; rfl
theorem tA1 {q : Bool} (h1 : tst P (n + 1) a r H = some (true, H1)) (h2 : tst P n b r H1 = some (q, H2)) : tst P (n + 3) (.and_ [a, b]) r H = some (q, H2) := by
  rw [tst_and, tAnd_cons, h1, kTAnd_some, if_pos rfl, tAnd_cons]
  cases n with
  | zero => exact no h2
  | succ n => rw [h2, kTAnd_some]; cases q <;> rfl
theorem tA0 (h1 : tst P n a r H = some (false, H1)) : tst P (n + 2) (.and_ [a, b]) r H = some (false, H1) := by rw [tst_and, tAnd_cons, h1]; rfl
theorem tO1 (h1 : tst P n a r H = some (true, H1)) : tst P (n + 2) (.or_ [a, b]) r H = some (true, H1) := by rw [tst_or, tOr_cons, h1]; rfl
theorem tO0 {q : Bool} (h1 : tst P (n + 1) a r H = some (false, H1)) (h2 : tst P n b r H1 = some (q, H2)) : tst P (n + 3) (.or_ [a, b]) r H = some (q, H2) := by
  rw [tst_or, tOr_cons, h1, kTOr_some, if_neg Bool.false_ne_true, tOr_cons]
  cases n with
  | zero => exact no h2
  | succ n => rw [h2, kTOr_some]; cases q <;> rfl
theorem xAp {i : Nat} {xs : List V} (ho : r x = some (.ref i)) (h : ev P (n + 1) e r H = some (v, H1)) (hg : hGet H i = some xs) (hg1 : hGet H1 i = some xs) (hl : xs.length ≤ 64) : ex P (n + 4) (.ex (.meth (.var x) "append" [e])) r H = some (.nx, r, hSet H1 i (xs ++ [v])) := by
  have h2 : ev P (n + 3) (.meth (.var x) "append" [e]) r H = some (.none, hSet H1 i (xs ++ [v])) := by
    rw [ev_meth, eV ho, kMth1_some, eC h rfl, kMth2_some, kMth_ref, hg, if_pos (show (some xs).isSome = true from rfl), pMeth_append, hg1]
    exact if_pos (lim_lit hl)
  rw [ex_ex, h2]; rfl
theorem W1 {T : Rho → Hp → Option (Bool × Hp)} {B : Rho → Hp → Option (Fl × Rho × Hp)} {r1 : Rho} {k : Nat} (h1 : T r H = some (true, H1)) (h2 : B r H1 = some (.nx, r1, H2)) (h3 : whileN T B k r1 H2 = some w) : whileN T B (k + 1) r H = some w := by rw [whileN_succ, h1, kW_true, h2]; exact h3
theorem W0 {T : Rho → Hp → Option (Bool × Hp)} {B : Rho → Hp → Option (Fl × Rho × Hp)} {k : Nat} (h1 : T r H = some (false, H1)) : whileN T B (k + 1) r H = some (.nx, r, H1) := by rw [whileN_succ, h1]; rfl
theorem eAdd {i j : Int} (h1 : ev P n a r H = some (.int i, H1)) (h2 : ev P n b r H1 = some (.int j, H2)) : ev P (n + 1) (.bin .Add a b) r H = some (.int (i + j), H2) := eB h1 h2 rfl
end
/- a member of a set read: the loop's body -/
noncomputable def setB : List S := [.asgT ["low", "at"] (.callG "_law_member" [.var "body", .var "at"]), .asg "high" (.var "low"), .iff (.and_ [.cmp1 (PySem.CmpOp.Eq) (.sub (.var "body") (.var "at")) (.cS [45]), .cmp1 (PySem.CmpOp.NotEq) (.sub (.var "body") (.bin (PySem.Operator.Add) (.var "at") (.cI 1))) (.cS [93])]) [.asgT ["high", "at"] (.callG "_law_member" [.var "body", .bin (PySem.Operator.Add) (.var "at") (.cI 1)])] [], .ex (.meth (.var "ranges") "append" [.tup [.var "low", .var "high"]])]
structure SetAt (r : Rho) (s : List Nat) (i a : Nat) (b : Bool) : Prop where
  body : r "body" = some (.str s)
  at_ : r "at" = some (.int i)
  rng : r "ranges" = some (.ref a)
  bar : r "barred" = some (.bool b)
theorem at_c {s u : List Nat} {i c : Nat} (h : At s i (c :: u)) : pSub (.str s) (.int (i : Int)) H = some (.str [c]) := at_sub0 h
theorem at_c1 {s u : List Nat} {i c d : Nat} (h : At s i (c :: d :: u)) : pSub (.str s) (.int ((i : Int) + 1)) H = some (.str [d]) := at_sub h 1
theorem eAt {r : Rho} {s u : List Nat} {i c n : Nat} (hb : r "body" = some (.str s)) (ha : r "at" = some (.int i)) (h : At s i (c :: u)) : ev PP (n + 2) (.sub (.var "body") (.var "at")) r H = some (.str [c], H) := eS (eV hb) (eV ha) (at_c h)
theorem eAt1 {r : Rho} {s u : List Nat} {i c d n : Nat} (hb : r "body" = some (.str s)) (ha : r "at" = some (.int i)) (h : At s i (c :: d :: u)) : ev PP (n + 3) (.sub (.var "body") (.bin .Add (.var "at") (.cI 1))) r H = some (.str [d], H) := eS (eV hb) (eAdd (eV ha) rfl) (at_c1 h)
theorem set_one {r : Rho} {s u : List Nat} {i a c d : Nat} {b : Bool} (R : SetAt r s i a b) (h : At s i (c :: d :: u)) (hc : c ≠ 92) (hd : d ≠ 45) (hG : hGet H a = some []) :
    ∃ r', (∀ m, exs PP (m + 40) setB r H = some (.nx, r', hSet H a [.tup [.str [c], .str [c]]])) ∧ SetAt r' s (i + 1) a b := by
  have h1 : At s (i + 1) (d :: u) := At.next (u := [c]) h
  let r1 := upd (upd (upd r "low" (.str [c])) "at" (.int ((i + 1 : Nat) : Int))) "high" (.str [c])
  have R1 : SetAt r1 s (i + 1) a b := ⟨R.body, rfl, R.rng, R.bar⟩
  have hl : r1 "low" = some (.str [c]) := rfl
  have hh : r1 "high" = some (.str [c]) := rfl
  refine ⟨r1, fun m => Xc (xT (eCl (eC (eV R.body) (eC (eV R.at_) rfl)) (run_member h hc (m + 18)))) (Xc (xA (eV rfl)) (Xc (xIf (tA0 (tCm (eAt R1.body R1.at_ h1) (eK (by decide)) ((pCmp_eqS _ _).trans (congrArg some (by simpa using hd))))) X0) (Xc (xAp R1.rng (eT2 (eV hl) (eV hh)) hG hG (Nat.zero_le _)) X0))), R1⟩
theorem set_two {r : Rho} {s u : List Nat} {i a c d : Nat} {b : Bool} (R : SetAt r s i a b) (h : At s i (c :: 45 :: d :: u)) (hc : c ≠ 92) (hd : d ≠ 92) (hd2 : d ≠ 93) (hG : hGet H a = some []) :
    ∃ r', (∀ m, exs PP (m + 40) setB r H = some (.nx, r', hSet H a [.tup [.str [c], .str [d]]])) ∧ SetAt r' s (i + 3) a b := by
  have h1 : At s (i + 1) (45 :: d :: u) := At.next (u := [c]) h
  have h2 : At s (i + 2) (d :: u) := At.next (u := [c, 45]) h
  let r1 := upd (upd (upd r "low" (.str [c])) "at" (.int ((i + 1 : Nat) : Int))) "high" (.str [c])
  have R1 : SetAt r1 s (i + 1) a b := ⟨R.body, rfl, R.rng, R.bar⟩
  let r2 := upd (upd r1 "high" (.str [d])) "at" (.int ((i + 3 : Nat) : Int))
  have R2 : SetAt r2 s (i + 3) a b := ⟨R.body, rfl, R.rng, R.bar⟩
  have hl : r2 "low" = some (.str [c]) := rfl
  have hh : r2 "high" = some (.str [d]) := rfl
  refine ⟨r2, fun m => Xc (xT (eCl (eC (eV R.body) (eC (eV R.at_) rfl)) (run_member h hc (m + 18)))) (Xc (xA (eV rfl)) (Xc (xIt (tA1 (tCm (eAt R1.body R1.at_ h1) (eK (by decide)) rfl) (tCm (eAt1 R1.body R1.at_ h1) (eK (by decide)) ((pCmp_neS _ _).trans (congrArg some (by simpa using hd2))))) (Xc (xT (eCl (eC (eV R1.body) (eC (eAdd (eV R1.at_) rfl) rfl)) (run_member (i := i + 2) h2 hd (m + 14)))) X0)) (Xc (xAp R2.rng (eT2 (eV hl) (eV hh)) hG hG (Nat.zero_le _)) X0))), R2⟩
noncomputable def setU (lo hi : Nat) : List Nat := if lo = hi then [lo] else [lo, 45, hi]
theorem set_body {r : Rho} {s u : List Nat} {i a lo hi : Nat} {b : Bool} (R : SetAt r s i a b) (h : At s i (setU lo hi ++ 93 :: u)) (hl : lo ≠ 92) (hh : hi ≠ 92) (hh2 : hi ≠ 93) (hG : hGet H a = some []) :
    ∃ r', (∀ m, exs PP (m + 40) setB r H = some (.nx, r', hSet H a (rngV [(lo, hi)]))) ∧ SetAt r' s (i + (setU lo hi).length) a b := by
  unfold setU at h ⊢
  by_cases e : lo = hi
  · rw [if_pos e] at h ⊢
    rw [← e]
    exact set_one R h hl (by decide) hG
  · rw [if_neg e] at h ⊢
    exact set_two R h hl hh hh2 hG
/- the loop and what stands after it -/
theorem bd_set_drop : bd_law_set.drop 2 = [.asg "ranges" (.lst []), .whl (.or_ [.cmp1 .Eq (.var "ranges") (.lst []), .cmp1 .NotEq (.sub (.var "body") (.var "at")) (.cS [93])]) setB, .ret (.tup [.tup [.var "barred", .var "ranges"], .bin .Add (.var "at") (.cI 1)])] := rfl
theorem set_tail {r : Rho} {s u : List Nat} {i lo hi : Nat} {b : Bool} (hb : r "body" = some (.str s)) (ha : r "at" = some (.int i)) (hbar : r "barred" = some (.bool b)) (h : At s i (setU lo hi ++ 93 :: u)) (hl : lo ≠ 92) (hl2 : lo ≠ 93) (hh : hi ≠ 92) (hh2 : hi ≠ 93) :
    ∃ H', (∀ m, Yld (exs PP (m + 50) (bd_law_set.drop 2) r H) (.tup [.tup [.bool b, .ref H.length], .int (((i + (setU lo hi).length : Nat) : Int) + 1)]) H') ∧ Ext H H' ∧ hGet H' H.length = some (rngV [(lo, hi)]) := by
  rw [bd_set_drop]
  have R : SetAt (upd r "ranges" (.ref H.length)) s i H.length b := ⟨hb, ha, rfl, hbar⟩
  have g1 : hGet (H ++ [.lst []]) H.length = some [] := hGet_end _ _
  have g2 : hGet (H ++ [.lst []] ++ [.lst []]) H.length = some [] := by rw [List.append_assoc, hGet_app0]; rfl
  have e2 : hGet (H ++ [.lst []] ++ [.lst []]) (H ++ [MO.lst []]).length = some [] := hGet_end _ _
  obtain ⟨r', hr, R'⟩ := set_body (H := H ++ [.lst []] ++ [.lst []]) R h hl hh hh2 g2
  have hs : hSet (H ++ [.lst []] ++ [.lst []]) H.length (rngV [(lo, hi)]) = H ++ [.lst (rngV [(lo, hi)]), .lst []] := by rw [List.append_assoc, hSet_app0]; rfl
  rw [hs] at hr
  have g3 : hGet (H ++ [.lst (rngV [(lo, hi)]), .lst []] ++ [.lst []]) H.length = some (rngV [(lo, hi)]) := by rw [List.append_assoc, hGet_app0]; rfl
  have e3 : hGet (H ++ [.lst (rngV [(lo, hi)]), .lst []] ++ [.lst []]) (H ++ [MO.lst (rngV [(lo, hi)]), MO.lst []]).length = some [] := hGet_end _ _
  have h2 : At s (i + (setU lo hi).length) (93 :: u) := At.next h
  have hw : ∀ m, ex PP (m + 48) (.whl (.or_ [.cmp1 .Eq (.var "ranges") (.lst []), .cmp1 .NotEq (.sub (.var "body") (.var "at")) (.cS [93])]) setB) (upd r "ranges" (.ref H.length)) (H ++ [.lst []]) = some (.nx, r', H ++ [.lst (rngV [(lo, hi)]), .lst []] ++ [.lst []]) := fun m => by
    show whileN _ _ 400 _ _ = _
    refine W1 (k := 399) (H1 := H ++ [.lst []] ++ [.lst []]) (tO1 (tCm (eV R.rng) (eL evs_nil (Nat.zero_le _)) ?_)) (hr (m + 7)) (W0 (k := 398) (tO0 (tCm (H1 := H ++ [.lst (rngV [(lo, hi)]), .lst []]) (H2 := H ++ [.lst (rngV [(lo, hi)]), .lst []] ++ [.lst []]) (q := false) (eV R'.rng) (eL evs_nil (Nat.zero_le _)) ?_) (tCm (eAt R'.body R'.at_ h2) (eK (by decide)) rfl)))
    · rw [pCmp_eqL, g2, e2]; rfl
    · rw [pCmp_eqL, g3, e3]; rfl
  exact ⟨_, fun m => Ya (eL evs_nil (Nat.zero_le _)) (Yc (hw m) (Yr (eT2 (eT2 (eV R'.bar) (eV R'.rng)) (eAdd (eV R'.at_) rfl)))), by rw [List.append_assoc]; exact Ext.app, g3⟩

/- the four sets -/
theorem run_set {s rest : List Nat} {i : Nat} (b : Bool) (lo hi : Nat) (u : List Nat) (hu : u = (if b then [94] else []) ++ (if lo = hi then [lo] else [lo, 45, hi]) ++ [93]) (h : At s i (u ++ rest)) (hlo : lo ≠ 92 ∧ lo ≠ 93 ∧ lo ≠ 94 ∧ lo ≠ 45) (hhi : hi ≠ 92 ∧ hi ≠ 93) :
    ∃ a H', (∀ m, kCall PP (m + 60) "_law_set" [.str s, .int i] H = some (.tup [.tup [.bool b, .ref a], .int ((i : Int) + (u.length : Int))], H')) ∧ Ext H H' ∧ H.length ≤ a ∧ hGet H' a = some (rngV [(lo, hi)]) := by
  have hu' : u = (if b then [94] else []) ++ (setU lo hi ++ [93]) := by rw [hu, setU, List.append_assoc]
  clear hu
  cases b with
  | true =>
    have hu : u = 94 :: (setU lo hi ++ [93]) := hu'
    rw [hu, List.cons_append, List.append_assoc] at h
    have h1 : At s (i + 1) (setU lo hi ++ 93 :: rest) := At.next (u := [94]) h
    obtain ⟨H', k1, k2, k3⟩ := set_tail (H := H) (r := upd (upd (updL rnil ["body", "at"] [.str s, .int i]) "barred" (.bool true)) "at" (.int ((i + 1 : Nat) : Int))) (by kernel_rfl) (by kernel_rfl) (by kernel_rfl) h1 hlo.1 hlo.2.1 hhi.1 hhi.2
    refine ⟨H.length, H', fun m => kCall_fn PP_set rfl (by decide) (Ya (eCm (eAt (by kernel_rfl) (by kernel_rfl) h) (eK (by decide)) rfl) (Yc (xIt (tV (by kernel_rfl)) (Xc (xA (eAdd (eV (v := .int (i : Int)) (by kernel_rfl)) rfl)) X0)) ?_)), k2, Nat.le_refl _, k3⟩
    have e : ((i : Int) + (u.length : Int)) = ((i + 1 + (setU lo hi).length : Nat) : Int) + 1 := by rw [hu, List.length_cons, List.length_append, List.length_singleton]; (first | lia | omega)
    rw [e]; exact k1 (m + 8)
  | false =>
    have hu : u = setU lo hi ++ [93] := hu'
    rw [hu, List.append_assoc] at h
    have h0 : ∃ v, setU lo hi ++ [93] ++ rest = lo :: v := by unfold setU; by_cases e : lo = hi; · rw [if_pos e]; exact ⟨_, rfl⟩
                                                              · rw [if_neg e]; exact ⟨_, rfl⟩
    obtain ⟨v, hv⟩ := h0
    rw [List.append_assoc] at hv
    obtain ⟨H', k1, k2, k3⟩ := set_tail (H := H) (r := upd (updL rnil ["body", "at"] [.str s, .int i]) "barred" (.bool false)) (by kernel_rfl) (by kernel_rfl) (by kernel_rfl) h hlo.1 hlo.2.1 hhi.1 hhi.2
    refine ⟨H.length, H', fun m => kCall_fn PP_set rfl (by decide) (Ya (eCm (eAt (by kernel_rfl) (by kernel_rfl) (hv ▸ h)) (eK (by decide)) ((pCmp_eqS _ _).trans (congrArg some (show ([lo] == [94]) = false by simpa using hlo.2.2.1)))) (Yc (xIf (tV (by kernel_rfl)) X0) ?_)), k2, Nat.le_refl _, k3⟩
    have e : ((i : Int) + (u.length : Int)) = ((i + (setU lo hi).length : Nat) : Int) + 1 := by rw [hu, List.length_append, List.length_singleton]; (first | lia | omega)
    rw [e]; exact k1 (m + 8)
end Mine
end

section
set_option Elab.async false
set_option linter.all false
set_option maxRecDepth 100000
namespace Mine
open PySem PyProof.Rows
variable {H : Hp}

noncomputable def reg : Glyph → List Nat
  | .star => [] | .any => [46] | .notA => [91, 94, 97, 93] | .slashA => [91, 47, 45, 97, 93] | .slash => [47] | .chA => [97] | .dot => [92, 46] | .notBA => [46] | .notSlash => [91, 94, 47, 93] | .aToB => [91, 97, 45, 98, 93]
inductive Tok where
  | gl (g : Glyph) | op | cl | la
noncomputable def Tok.text : Tok → List Nat
  | .gl g => reg g | .op => [40, 63, 62, 46, 42, 63] | .cl => [41] | .la => [46, 42]

noncomputable def Stay (F : Nat → Prop) (H : Hp) (F' : Nat → Prop) (H' : Hp) : Prop := ∀ a, F a → a < H.length → H'[a]? = H[a]? ∧ F' a
theorem Stay.get {F F' : Nat → Prop} {H H' : Hp} (s : Stay F H F' H') {a : Nat} {xs : List V} (h : hGet H a = some xs) (f : F a) : hGet H' a = some xs ∧ F' a := by
  have := s a f (hGet_lt h)
  exact ⟨by unfold hGet at *; rw [this.1]; exact h, this.2⟩
theorem ItemF.mono {F F' : Nat → Prop} {H H' : Hp} (s : Stay F H F' H') {v : V} : ∀ {it : Option (Bool × List (Nat × Nat))}, ItemF F H v it → ItemF F' H' v it
  | none, h => h
  | some (_, _), ⟨a, h1, h2, h3⟩ => ⟨a, h1, (s.get h2 h3).1, (s.get h2 h3).2⟩
noncomputable def ItemsF (F : Nat → Prop) (H : Hp) (vs : List V) (gs : List Glyph) : Prop := vs.length = gs.length ∧ ∀ (i : Nat) (v : V) (g : Glyph), vs[i]? = some v → gs[i]? = some g → ItemF F H v g.item
theorem ItemsF.mono {F F' : Nat → Prop} {H H' : Hp} (s : Stay F H F' H') {vs : List V} {gs : List Glyph} (h : ItemsF F H vs gs) : ItemsF F' H' vs gs := ⟨h.1, fun i v g a b => (h.2 i v g a b).mono s⟩
theorem ItemsF.nil {F : Nat → Prop} : ItemsF F H [] [] := ⟨rfl, fun i v g h _ => by simp at h⟩
theorem ItemsF.snoc {F : Nat → Prop} {vs : List V} {gs : List Glyph} {v : V} {g : Glyph} (h : ItemsF F H vs gs) (k : ItemF F H v g.item) : ItemsF F H (vs ++ [v]) (gs ++ [g]) := by
  refine ⟨by simp [h.1], fun i w j h1 h2 => ?_⟩
  by_cases hi : i < vs.length
  · rw [List.getElem?_append_left hi] at h1
    rw [List.getElem?_append_left (h.1 ▸ hi)] at h2
    exact h.2 i w j h1 h2
  · rw [List.getElem?_append_right (by (first | lia | omega))] at h1
    rw [List.getElem?_append_right (by have := h.1; (first | lia | omega))] at h2
    have : i - vs.length = 0 := by
      have := (List.getElem?_eq_some_iff.1 h1).1
      simp at this; (first | lia | omega)
    rw [this] at h1
    rw [← h.1, this] at h2
    simp at h1 h2
    subst h1; subst h2; exact k
structure RunF (F : Nat → Prop) (H : Hp) (v : V) (mk : List Nat) (gs : List Glyph) (b c : Nat) (vs : List V) : Prop where
  v : v = .ref b
  l : hGet H b = some [.str mk, .ref c]
  g : hGet H c = some vs
  it : ItemsF F H vs gs
  fb : F b
  fc : F c
theorem RunF.mono {F F' : Nat → Prop} {H H' : Hp} (s : Stay F H F' H') {v : V} {mk : List Nat} {gs : List Glyph} {b c : Nat} {vs : List V} (h : RunF F H v mk gs b c vs) : RunF F' H' v mk gs b c vs :=
  ⟨h.v, (s.get h.l h.fb).1, (s.get h.g h.fc).1, h.it.mono s, (s.get h.l h.fb).2, (s.get h.g h.fc).2⟩

noncomputable def Far (ra b c : Nat) (x : Nat) : Prop := x ≠ ra ∧ x ≠ b ∧ x ≠ c
structure RI (H0 H : Hp) (ra : Nat) (l : List (List Nat × List Glyph)) (mk : List Nat) (gs : List Glyph) (xs : List V) (b c : Nat) (vs : List V) : Prop where
  r1 : hGet H ra = some (xs ++ [.ref b])
  r2 : hGet H b = some [.str mk, .ref c]
  r3 : hGet H c = some vs
  ne : b ≠ ra ∧ c ≠ ra ∧ b ≠ c
  lo : H0.length ≤ ra ∧ H0.length ≤ b ∧ H0.length ≤ c
  it : ItemsF (Far ra b c) H vs gs
  xl : xs.length = l.length
  xr : ∀ (i : Nat) (v : V) (x : List Nat × List Glyph), xs[i]? = some v → l[i]? = some x → ∃ b' c' vs', RunF (Far ra b c) H v x.1 x.2 b' c' vs'
  ex : Ext H0 H

theorem RI.item {H0 H H1 : Hp} {ra b c : Nat} {l : List (List Nat × List Glyph)} {mk : List Nat} {gs : List Glyph} {xs vs : List V} (h : RI H0 H ra l mk gs xs b c vs) (e : Ext H H1) {v : V} {g : Glyph} (hv : ItemF (fun x => H.length ≤ x) H1 v g.item) : RI H0 (hSet H1 c (vs ++ [v])) ra l mk (gs ++ [g]) xs b c (vs ++ [v]) := by
  have S : Stay (Far ra b c) H (Far ra b c) (hSet H1 c (vs ++ [v])) := fun a f ha => ⟨by rw [← e.2 a ha]; simp [hSet, List.getElem?_set, show c ≠ a from fun h => f.2.2 h.symm], f⟩
  have S1 : Stay (fun x => H.length ≤ x) H1 (Far ra b c) (hSet H1 c (vs ++ [v])) := fun a f ha => by
    have := hGet_lt h.r1; have := hGet_lt h.r2; have := hGet_lt h.r3
    have f' : H.length ≤ a := f
    exact ⟨by simp [hSet, List.getElem?_set, show c ≠ a by (first | lia | omega)], by (first | lia | omega), by (first | lia | omega), by (first | lia | omega)⟩
  exact { r1 := by rw [hGet_set_ne _ _ h.ne.2.1]; exact e.get h.r1
          r2 := by rw [hGet_set_ne _ _ (fun q => h.ne.2.2 q.symm)]; exact e.get h.r2
          r3 := hGet_set _ _ (hGet_lt (e.get h.r3))
          ne := h.ne
          lo := h.lo
          it := (h.it.mono S).snoc (hv.mono S1)
          xl := h.xl
          xr := fun i w x h1 h2 => by obtain ⟨b', c', vs', k⟩ := h.xr i w x h1 h2; exact ⟨b', c', vs', k.mono S⟩
          ex := (h.ex.trans e).set h.lo.2.2 }

theorem RI.opn {H0 H : Hp} {ra b c : Nat} {l : List (List Nat × List Glyph)} {mk : List Nat} {gs : List Glyph} {xs vs : List V} (h : RI H0 H ra l mk gs xs b c vs) (mk' : List Nat) :
    RI H0 (hSet (H ++ [.lst [], .lst [.str mk', .ref H.length]]) ra (xs ++ [.ref b] ++ [.ref (H.length + 1)])) ra (l ++ [(mk, gs)]) mk' [] (xs ++ [.ref b]) (H.length + 1) H.length [] := by
  have q1 := hGet_lt h.r1
  have q2 := hGet_lt h.r2
  have q3 := hGet_lt h.r3
  have x0 := h.ex.1
  have S : Stay (Far ra b c) H (Far ra (H.length + 1) H.length) (hSet (H ++ [.lst [], .lst [.str mk', .ref H.length]]) ra (xs ++ [.ref b] ++ [.ref (H.length + 1)])) := fun a f ha => by
    refine ⟨?_, f.1, by (first | lia | omega), by (first | lia | omega)⟩
    rw [← List.getElem?_append_left (l₂ := [.lst [], .lst [.str mk', .ref H.length]]) ha]
    simp [hSet, List.getElem?_set, show ra ≠ a from fun h => f.1 h.symm]
  have G : ∀ a ys, a ≠ ra → hGet H a = some ys → hGet (hSet (H ++ [.lst [], .lst [.str mk', .ref H.length]]) ra (xs ++ [.ref b] ++ [.ref (H.length + 1)])) a = some ys := fun a ys n e => by
    rw [hGet_set_ne _ _ (fun q => n q.symm), hGet_old _ _ (hGet_lt e)]; exact e
  have hI : ItemsF (Far ra (H.length + 1) H.length) (hSet (H ++ [.lst [], .lst [.str mk', .ref H.length]]) ra (xs ++ [.ref b] ++ [.ref (H.length + 1)])) vs gs := h.it.mono S
  exact { r1 := hGet_set _ _ (by simp; (first | lia | omega))
          r2 := by rw [hGet_set_ne _ _ (by (first | lia | omega)), hGet_appk]; rfl
          r3 := by rw [hGet_set_ne _ _ (by (first | lia | omega)), hGet_app0]; rfl
          ne := ⟨by (first | lia | omega), by (first | lia | omega), by (first | lia | omega)⟩
          lo := ⟨h.lo.1, by (first | lia | omega), by (first | lia | omega)⟩
          it := ItemsF.nil
          xl := by simp [h.xl]
          xr := fun i w x h1 h2 => by
            by_cases hi : i < xs.length
            · rw [List.getElem?_append_left hi] at h1
              rw [List.getElem?_append_left (h.xl ▸ hi)] at h2
              obtain ⟨b', c', vs', k⟩ := h.xr i w x h1 h2
              exact ⟨b', c', vs', k.mono S⟩
            · rw [List.getElem?_append_right (by (first | lia | omega))] at h1
              rw [List.getElem?_append_right (by have := h.xl; (first | lia | omega))] at h2
              have : i - xs.length = 0 := by
                have := (List.getElem?_eq_some_iff.1 h1).1
                simp at this; (first | lia | omega)
              rw [this] at h1
              rw [← h.xl, this] at h2
              simp at h1 h2
              subst h1; subst h2
              exact ⟨b, c, vs, ⟨rfl, G _ _ h.ne.1 h.r2, G _ _ h.ne.2.1 h.r3, hI, ⟨h.ne.1, by (first | lia | omega), by (first | lia | omega)⟩, ⟨h.ne.2.1, by (first | lia | omega), by (first | lia | omega)⟩⟩⟩
          ex := h.ex.add.set h.lo.1 }

theorem RI.cls {H0 H : Hp} {ra b c : Nat} {l : List (List Nat × List Glyph)} {mk : List Nat} {gs : List Glyph} {xs vs : List V} (h : RI H0 H ra l mk gs xs b c vs) (mk' : List Nat) :
    RI H0 (hSet H b [.str mk', .ref c]) ra l mk' gs xs b c vs := by
  have S : Stay (Far ra b c) H (Far ra b c) (hSet H b [.str mk', .ref c]) := fun a f ha => ⟨by simp [hSet, List.getElem?_set, show b ≠ a from fun h => f.2.1 h.symm], f⟩
  exact { r1 := by rw [hGet_set_ne _ _ h.ne.1]; exact h.r1
          r2 := hGet_set _ _ (hGet_lt h.r2)
          r3 := by rw [hGet_set_ne _ _ h.ne.2.2]; exact h.r3
          ne := h.ne
          lo := h.lo
          it := h.it.mono S
          xl := h.xl
          xr := fun i w x h1 h2 => by obtain ⟨b', c', vs', k⟩ := h.xr i w x h1 h2; exact ⟨b', c', vs', k.mono S⟩
          ex := h.ex.set h.lo.2.1 }
end Mine
end

section
set_option Elab.async false
set_option linter.all false
set_option maxRecDepth 100000
namespace Mine
open PySem PyProof.Rows
variable {H : Hp}

noncomputable def whlC : S → E | .whl c _ => c | _ => .cN
noncomputable def whlB : S → List S | .whl _ b => b | _ => []
noncomputable def rCond : E := whlC (bd_law_read[4])
noncomputable def rBody : List S := whlB (bd_law_read[4])

structure RR (r : Rho) (B : List Nat) (i ra : Nat) : Prop where
  bo : r "body" = some (.str B)
  at_ : r "at" = some (.int i)
  ru : r "runs" = some (.ref ra)

structure RS9 (H0 : Hp) (r : Rho) (H : Hp) (B : List Nat) (i ra : Nat) (l : List (List Nat × List Glyph)) (mk : List Nat) (gs : List Glyph) : Prop where
  rr : RR r B i ra
  ri : ∃ xs b c vs, RI H0 H ra l mk gs xs b c vs

theorem pl12 : place 1 2 = some 1 := rfl
theorem pl02 : place 0 2 = some 0 := rfl
theorem place_m1 (n : Nat) : place (-1) (n + 1) = some n := place_last

section
variable {H0 : Hp} {r : Rho} {B rest : List Nat} {i ra : Nat} {l : List (List Nat × List Glyph)} {mk : List Nat} {gs : List Glyph}
noncomputable def Nxt (H0 : Hp) (r : Rho) (H : Hp) (B : List Nat) (i ra : Nat) (l : List (List Nat × List Glyph)) (mk : List Nat) (gs : List Glyph) : Prop :=
  ∃ r' H', (∀ m, Same (exs PP (m + 100) rBody r H) (some (.nx, r', H'))) ∧ RS9 H0 r' H' B i ra l mk gs

set_option maxHeartbeats 1000000 in
theorem tok_dotlike {g : Glyph} (hg : g.item = some (true, [])) (h : RS9 H0 r H B i ra l mk gs) (hb : gs.length ≤ 1000) (ht : At B i (46 :: rest)) (hr : rest.take 1 ≠ [42]) : Nxt H0 r H B (i + 1) ra l mk (gs ++ [g]) := by
  obtain ⟨⟨k1, k2, k3⟩, xs, b, c, vs, q⟩ := h
  have a0 := fun H => at_sub0 (H := H) ht
  have s6 : ∀ H, pSlc (.str B) (some (.int (i : Int))) (some (.int ((i : Int) + 6))) H = some _ := fun H => at_slc0 (H := H) ht 6
  have s4 : ∀ H, pSlc (.str B) (some (.int (i : Int))) (some (.int ((i : Int) + 4))) H = some _ := fun H => at_slc0 (H := H) ht 4
  have s2 : ∀ H, pSlc (.str B) (some (.int (i : Int))) (some (.int ((i : Int) + 2))) H = some _ := fun H => at_slc0 (H := H) ht 2
  simp at a0 s6 s4 s2
  have hl : vs.length ≤ lim := by rw [q.it.1]; exact lim_of (by (first | lia | omega))
  have e3 : hGet (H ++ [.lst []]) c = some vs := (Ext.app).get q.r3
  exact ⟨_, _, fun m => by simp [rBody, whlB, bd_law_read, k1, k2, k3, a0, s6, s4, s2, q.r1, q.r2, q.r3, place_m1, pl12, pl02, hl, hr, e3]; exact same, ⟨by first | exact k1 | simp [k1], by simp [Int.add_assoc], by first | exact k3 | simp [k3]⟩, _, _, _, _, q.item .app (by rw [hg]; exact ⟨H.length, rfl, hGet_end _ _, Nat.le_refl _⟩)⟩

set_option maxHeartbeats 1000000 in
theorem tok_char {g : Glyph} {c : Nat} (hg : g.item = some (false, [(c, c)])) (hc : c = 47 ∨ c = 97) (h : RS9 H0 r H B i ra l mk gs) (hb : gs.length ≤ 1000) (ht : At B i (c :: rest)) : Nxt H0 r H B (i + 1) ra l mk (gs ++ [g]) := by
  obtain ⟨⟨k1, k2, k3⟩, xs, b, c', vs, q⟩ := h
  have a0 := fun H => at_sub0 (H := H) ht
  have s6 : ∀ H, pSlc (.str B) (some (.int (i : Int))) (some (.int ((i : Int) + 6))) H = some _ := fun H => at_slc0 (H := H) ht 6
  have s4 : ∀ H, pSlc (.str B) (some (.int (i : Int))) (some (.int ((i : Int) + 4))) H = some _ := fun H => at_slc0 (H := H) ht 4
  have s2 : ∀ H, pSlc (.str B) (some (.int (i : Int))) (some (.int ((i : Int) + 2))) H = some _ := fun H => at_slc0 (H := H) ht 2
  simp at a0 s6 s4 s2
  have hl : vs.length ≤ lim := by rw [q.it.1]; exact lim_of (by omega)
  have e3 : ∀ X, hGet (H ++ X) c' = some vs := fun X => (Ext.app).get q.r3
  have m0 := fun m H => run_member (H := H) ht (by rcases hc with rfl | rfl <;> decide) m
  rcases hc with rfl | rfl
  all_goals exact ⟨_, _, fun m => by simp [rBody, whlB, bd_law_read, k1, k2, k3, a0, s6, s4, s2, q.r1, q.r2, q.r3, place_m1, pl12, pl02, hl, m0, e3]; exact same, ⟨by first | exact k1 | simp [k1], by simp [Int.add_assoc], by first | exact k3 | simp [k3]⟩, _, _, _, _, q.item .app (by rw [hg]; exact ⟨H.length, rfl, hGet_end _ _, Nat.le_refl _⟩)⟩

set_option maxHeartbeats 1000000 in
theorem tok_esc {g : Glyph} (hg : g.item = some (false, [(46, 46)])) (h : RS9 H0 r H B i ra l mk gs) (hb : gs.length ≤ 1000) (ht : At B i (92 :: 46 :: rest)) : Nxt H0 r H B (i + 2) ra l mk (gs ++ [g]) := by
  obtain ⟨⟨k1, k2, k3⟩, xs, b, c, vs, q⟩ := h
  have a0 := fun H => at_sub0 (H := H) ht
  have s6 : ∀ H, pSlc (.str B) (some (.int (i : Int))) (some (.int ((i : Int) + 6))) H = some _ := fun H => at_slc0 (H := H) ht 6
  have s4 : ∀ H, pSlc (.str B) (some (.int (i : Int))) (some (.int ((i : Int) + 4))) H = some _ := fun H => at_slc0 (H := H) ht 4
  have s2 : ∀ H, pSlc (.str B) (some (.int (i : Int))) (some (.int ((i : Int) + 2))) H = some _ := fun H => at_slc0 (H := H) ht 2
  simp at a0 s6 s4 s2
  have hl : vs.length ≤ lim := by rw [q.it.1]; exact lim_of (by omega)
  have e3 : ∀ X, hGet (H ++ X) c = some vs := fun X => (Ext.app).get q.r3
  have m0 := fun m H => run_member_esc (H := H) ht m
  exact ⟨_, _, fun m => by simp [rBody, whlB, bd_law_read, k1, k2, k3, a0, s6, s4, s2, q.r1, q.r2, q.r3, place_m1, pl12, pl02, hl, m0, e3]; exact same, ⟨by first | exact k1 | simp [k1], by simp [Int.add_assoc], by first | exact k3 | simp [k3]⟩, _, _, _, _, q.item .app (by rw [hg]; exact ⟨H.length, rfl, hGet_end _ _, Nat.le_refl _⟩)⟩

set_option maxHeartbeats 1000000 in
theorem tok_set {g : Glyph} {b' : Bool} {lo hi : Nat} {u : List Nat} (hu : u = (if b' then [94] else []) ++ (if lo = hi then [lo] else [lo, 45, hi]) ++ [93]) (hlo : lo ≠ 92 ∧ lo ≠ 93 ∧ lo ≠ 94 ∧ lo ≠ 45) (hhi : hi ≠ 92 ∧ hi ≠ 93) (hg : g.item = some (b', [(lo, hi)])) (h : RS9 H0 r H B i ra l mk gs) (hb : gs.length ≤ 1000) (ht : At B i (91 :: (u ++ rest))) : Nxt H0 r H B (i + 1 + u.length) ra l mk (gs ++ [g]) := by
  obtain ⟨⟨k1, k2, k3⟩, xs, b, c, vs, q⟩ := h
  have a0 := fun H => at_sub0 (H := H) ht
  have s6 : ∀ H, pSlc (.str B) (some (.int (i : Int))) (some (.int ((i : Int) + 6))) H = some _ := fun H => at_slc0 (H := H) ht 6
  have s4 : ∀ H, pSlc (.str B) (some (.int (i : Int))) (some (.int ((i : Int) + 4))) H = some _ := fun H => at_slc0 (H := H) ht 4
  have s2 : ∀ H, pSlc (.str B) (some (.int (i : Int))) (some (.int ((i : Int) + 2))) H = some _ := fun H => at_slc0 (H := H) ht 2
  simp only [List.getElem?_cons_zero, Option.map_some, List.take_succ_cons] at a0 s6 s4 s2
  have hl : vs.length ≤ lim := by rw [q.it.1]; exact lim_of (by omega)
  have n1 : At B (i + 1) (u ++ rest) := At.next (u := [91]) ht
  obtain ⟨a, H1, m0, m1, m2, m3⟩ := run_set (H := H) b' lo hi u hu n1 hlo hhi
  simp only [Int.natCast_add, Int.cast_ofNat_Int] at m0
  exact ⟨_, _, fun m => by simp [rBody, whlB, bd_law_read, k1, k2, k3, a0, s6, s4, s2, q.r1, q.r2, q.r3, place_m1, pl12, pl02, hl, m0, m1.get q.r1, m1.get q.r2, m1.get q.r3]; exact same, ⟨by first | exact k1 | simp [k1], by simp, by first | exact k3 | simp [k3]⟩, _, _, _, _, q.item m1 (by rw [hg]; exact ⟨a, rfl, m3, m2⟩)⟩

set_option maxHeartbeats 1000000 in
theorem tok_op (h : RS9 H0 r H B i ra l mk gs) (hb : gs.length ≤ 1000) (hx : l.length ≤ 1000) (ht : At B i (40 :: 63 :: 62 :: 46 :: 42 :: 63 :: rest)) : Nxt H0 r H B (i + 6) ra (l ++ [(mk, gs)]) mH [] := by
  obtain ⟨⟨k1, k2, k3⟩, xs, b, c, vs, q⟩ := h
  have a0 := fun H => at_sub0 (H := H) ht
  have s6 : ∀ H, pSlc (.str B) (some (.int (i : Int))) (some (.int ((i : Int) + 6))) H = some _ := fun H => at_slc0 (H := H) ht 6
  have s4 : ∀ H, pSlc (.str B) (some (.int (i : Int))) (some (.int ((i : Int) + 4))) H = some _ := fun H => at_slc0 (H := H) ht 4
  have s2 : ∀ H, pSlc (.str B) (some (.int (i : Int))) (some (.int ((i : Int) + 2))) H = some _ := fun H => at_slc0 (H := H) ht 2
  simp at a0 s6 s4 s2
  have hl : vs.length ≤ lim := by rw [q.it.1]; exact lim_of (by (first | lia | omega))
  have e3 : ∀ X, hGet (H ++ X) ra = some (xs ++ [.ref b]) := fun X => (Ext.app).get q.r1
  have hx' : xs.length + 1 ≤ lim := by rw [q.xl]; exact lim_of (by (first | lia | omega))
  exact ⟨_, _, fun m => by simp [rBody, whlB, bd_law_read, k1, k2, k3, a0, s6, s4, s2, q.r1, q.r2, q.r3, place_m1, pl12, pl02, hl, e3, hx']; exact same, ⟨by first | exact k1 | simp [k1], by simp [Int.add_assoc], by first | exact k3 | simp [k3]⟩, _, _, _, _, by have := q.opn mH; simpa [mH] using this⟩

set_option maxHeartbeats 1000000 in
theorem tok_la (h : RS9 H0 r H B i ra l mk gs) (hb : gs.length ≤ 1000) (hx : l.length ≤ 1000) (ht : At B i (46 :: 42 :: rest)) : Nxt H0 r H B (i + 2) ra (l ++ [(mk, gs)]) mL [] := by
  obtain ⟨⟨k1, k2, k3⟩, xs, b, c, vs, q⟩ := h
  have a0 := fun H => at_sub0 (H := H) ht
  have s6 : ∀ H, pSlc (.str B) (some (.int (i : Int))) (some (.int ((i : Int) + 6))) H = some _ := fun H => at_slc0 (H := H) ht 6
  have s4 : ∀ H, pSlc (.str B) (some (.int (i : Int))) (some (.int ((i : Int) + 4))) H = some _ := fun H => at_slc0 (H := H) ht 4
  have s2 : ∀ H, pSlc (.str B) (some (.int (i : Int))) (some (.int ((i : Int) + 2))) H = some _ := fun H => at_slc0 (H := H) ht 2
  simp at a0 s6 s4 s2
  have hl : vs.length ≤ lim := by rw [q.it.1]; exact lim_of (by (first | lia | omega))
  have e3 : ∀ X, hGet (H ++ X) ra = some (xs ++ [.ref b]) := fun X => (Ext.app).get q.r1
  have hx' : xs.length + 1 ≤ lim := by rw [q.xl]; exact lim_of (by (first | lia | omega))
  exact ⟨_, _, fun m => by simp [rBody, whlB, bd_law_read, k1, k2, k3, a0, s6, s4, s2, q.r1, q.r2, q.r3, place_m1, pl12, pl02, hl, e3, hx']; exact same, ⟨by first | exact k1 | simp [k1], by simp [Int.add_assoc], by first | exact k3 | simp [k3]⟩, _, _, _, _, by have := q.opn mL; simpa [mL] using this⟩

set_option maxHeartbeats 1000000 in
theorem tok_cl (h : RS9 H0 r H B i ra l mH gs) (hb : gs.length ≤ 1000) (ht : At B i (41 :: rest)) : Nxt H0 r H B (i + 1) ra l mS gs := by
  obtain ⟨⟨k1, k2, k3⟩, xs, b, c, vs, q⟩ := h
  have a0 := fun H => at_sub0 (H := H) ht
  have s6 : ∀ H, pSlc (.str B) (some (.int (i : Int))) (some (.int ((i : Int) + 6))) H = some _ := fun H => at_slc0 (H := H) ht 6
  have s4 : ∀ H, pSlc (.str B) (some (.int (i : Int))) (some (.int ((i : Int) + 4))) H = some _ := fun H => at_slc0 (H := H) ht 4
  have s2 : ∀ H, pSlc (.str B) (some (.int (i : Int))) (some (.int ((i : Int) + 2))) H = some _ := fun H => at_slc0 (H := H) ht 2
  simp at a0 s6 s4 s2
  have hl : vs.length ≤ lim := by rw [q.it.1]; exact lim_of (by (first | lia | omega))
  have q2 : hGet H b = some [.str [104, 101, 108, 100], .ref c] := q.r2
  exact ⟨_, _, fun m => by simp [rBody, whlB, bd_law_read, k1, k2, k3, a0, s6, s4, s2, q.r1, q2, q.r3, place_m1, pl12, pl02, hl]; exact same, ⟨by first | exact k1 | simp [k1], by simp [Int.add_assoc], by first | exact k3 | simp [k3]⟩, _, _, _, _, q.cls mS⟩
end
end Mine
end

section
set_option Elab.async false
set_option linter.all false
set_option maxRecDepth 100000
namespace Mine
open PySem PyProof.Rows
variable {H : Hp}

abbrev RdS := List (List Nat × List Glyph) × List Nat × List Glyph
noncomputable def rst : RdS → Tok → RdS
  | (l, mk, gs), .gl g => (l, mk, gs ++ [g])
  | (l, mk, gs), .op => (l ++ [(mk, gs)], mH, [])
  | (l, _, gs), .cl => (l, mS, gs)
  | (l, mk, gs), .la => (l ++ [(mk, gs)], mL, [])
noncomputable def good : List Nat → List Tok → Prop
  | _, [] => True
  | mk, .gl g :: ts => g ≠ .star ∧ good mk ts
  | _, .op :: ts => good mH ts
  | mk, .cl :: ts => mk = mH ∧ good mS ts
  | _, .la :: ts => good mL ts
noncomputable def ttext (ts : List Tok) : List Nat := ts.flatMap Tok.text

theorem reg_head (g : Glyph) (hg : g ≠ .star) : ∃ c u, reg g = c :: u ∧ c ≠ 42 := by cases g <;> first | exact absurd rfl hg | exact ⟨_, _, rfl, by decide⟩
theorem tok_head (mk : List Nat) (t : Tok) (ts : List Tok) (h : good mk (t :: ts)) : ∃ c u, t.text = c :: u ∧ c ≠ 42 := by
  cases t with
  | gl g => exact reg_head g h.1
  | op => exact ⟨_, _, rfl, by decide⟩
  | cl => exact ⟨_, _, rfl, by decide⟩
  | la => exact ⟨_, _, rfl, by decide⟩
theorem ttext_head (mk : List Nat) (ts : List Tok) (h : good mk ts) : (ttext ts).take 1 ≠ [42] := by
  cases ts with
  | nil => simp [ttext]
  | cons t ts =>
    obtain ⟨c, u, e, hc⟩ := tok_head mk t ts h
    simp [ttext, e, hc]
theorem good_next {mk : List Nat} {t : Tok} {ts : List Tok} {l : List (List Nat × List Glyph)} {gs : List Glyph} (h : good mk (t :: ts)) : good (rst (l, mk, gs) t).2.1 ts := by
  cases t with
  | gl g => exact h.2
  | op => exact h
  | cl => exact h.2
  | la => exact h

theorem tok_any {H0 : Hp} {r : Rho} {B : List Nat} {i ra : Nat} {l : List (List Nat × List Glyph)} {mk : List Nat} {gs : List Glyph} {t : Tok} {ts : List Tok} (h : RS9 H0 r H B i ra l mk gs) (hb : gs.length ≤ 1000) (hx : l.length ≤ 1000) (ht : At B i (t.text ++ ttext ts)) (hg : good mk (t :: ts)) :
    Nxt H0 r H B (i + t.text.length) ra (rst (l, mk, gs) t).1 (rst (l, mk, gs) t).2.1 (rst (l, mk, gs) t).2.2 := by
  have hr : (ttext ts).take 1 ≠ [42] := ttext_head _ ts (good_next (l := l) (gs := gs) hg)
  cases t with
  | op => exact tok_op h hb hx ht
  | la => exact tok_la h hb hx ht
  | cl =>
    have : mk = mH := hg.1
    subst this
    exact tok_cl h hb ht
  | gl g =>
    cases g with
    | star => exact absurd rfl hg.1
    | any => exact tok_dotlike rfl h hb ht hr
    | notBA => exact tok_dotlike rfl h hb ht hr
    | slash => exact tok_char rfl (.inl rfl) h hb ht
    | chA => exact tok_char rfl (.inr rfl) h hb ht
    | dot => exact tok_esc rfl h hb ht
    | notA => exact tok_set (b' := true) (lo := 97) (hi := 97) (u := [94, 97, 93]) rfl (by decide) (by decide) rfl h hb ht
    | slashA => exact tok_set (b' := false) (lo := 47) (hi := 97) (u := [47, 45, 97, 93]) rfl (by decide) (by decide) rfl h hb ht
    | notSlash => exact tok_set (b' := true) (lo := 47) (hi := 47) (u := [94, 47, 93]) rfl (by decide) (by decide) rfl h hb ht
    | aToB => exact tok_set (b' := false) (lo := 97) (hi := 98) (u := [97, 45, 98, 93]) rfl (by decide) (by decide) rfl h hb ht

theorem rst_len (s : RdS) (t : Tok) : (rst s t).1.length + (rst s t).2.2.length ≤ s.1.length + s.2.2.length + 1 := by
  obtain ⟨l, mk, gs⟩ := s
  cases t <;> simp [rst] <;> (first | lia | omega)
theorem text_pos {mk : List Nat} {t : Tok} {ts : List Tok} (h : good mk (t :: ts)) : 0 < t.text.length := by
  obtain ⟨c, u, e, _⟩ := tok_head mk t ts h
  rw [e]; simp

theorem read_loop {H0 : Hp} {r : Rho} {B : List Nat} {ra : Nat} {l : List (List Nat × List Glyph)} {mk : List Nat} {gs : List Glyph} {ts : List Tok} (hB : B = ttext ts) (h : RS9 H0 r H B 0 ra l mk gs) (hg : good mk ts) (hn : l.length + gs.length + ts.length ≤ 390) :
    ∃ r' H', (∀ m, whileN (tst PP (m + 100) rCond) (exs PP (m + 100) rBody) 400 r H = some (.nx, r', H')) ∧ RS9 H0 r' H' B B.length ra (ts.foldl rst (l, mk, gs)).1 (ts.foldl rst (l, mk, gs)).2.1 (ts.foldl rst (l, mk, gs)).2.2 := by
  refine while_rule (fun k r H => ∃ (us : List Tok) (s : RdS) (i : Nat), k = us.length ∧ RS9 H0 r H B i ra s.1 s.2.1 s.2.2 ∧ At B i (ttext us) ∧ good s.2.1 us ∧ us.foldl rst s = ts.foldl rst (l, mk, gs) ∧ s.1.length + s.2.2.length + us.length ≤ 390) _ (fun k r1 H1 => ?_) 400 ts.length r H (by (first | lia | omega)) ⟨ts, (l, mk, gs), 0, rfl, h, ⟨by simpa using hB, by (first | lia | omega)⟩, hg, rfl, hn⟩
  rintro ⟨us, s, i, rfl, h1, h2, h3, h4, h5⟩
  have hL := h2.len
  cases us with
  | nil =>
    refine .inl ⟨H1, fun m => ?_, ?_⟩
    · simp [rCond, whlC, bd_law_read, h1.rr.bo, h1.rr.at_, ttext] at hL ⊢
      simp [hL]
    · rw [← h4]
      have : B.length = i := by simpa [ttext] using hL
      rw [this]; exact h1
  | cons t us =>
    obtain ⟨l', mk', gs'⟩ := s
    simp only at h5
    obtain ⟨r2, H2, k1, k2⟩ := tok_any (t := t) (ts := us) h1 (by simp only; (first | lia | omega)) (by simp only; (first | lia | omega)) (by simpa [ttext] using h2) h3
    have hp := text_pos h3
    refine .inr (.inl ⟨H1, r2, H2, us.length, rfl, fun m => ?_, k1, us, rst (l', mk', gs') t, _, rfl, k2, ?_, good_next h3, h4, ?_⟩)
    · have hlt : i < B.length := by rw [hL]; simp [ttext]; (first | lia | omega)
      simp [rCond, whlC, bd_law_read, h1.rr.bo, h1.rr.at_, hlt]
    · have h2' : At B i (t.text ++ ttext us) := by simpa [ttext] using h2
      exact h2'.next
    · have := rst_len (l', mk', gs') t
      simp only [List.length_cons] at h5
      simp only at this
      (first | lia | omega)

theorem slc_head (B : List Nat) : pSlc (.str ([40, 63, 115, 58] ++ B ++ [41, 92, 90])) none (some (.int 4)) H = some (.str [40, 63, 115, 58], H) := by
  simp [pSlc, oInt_none, oInt_int, Option.bind_some, slcAt_str, slcAt_scr, pySlice, clampI]
theorem slc_tail (B : List Nat) : pSlc (.str ([40, 63, 115, 58] ++ B ++ [41, 92, 90])) (some (.int (-3))) none H = some (.str [41, 92, 90], H) := by
  simp only [pSlc, oInt_none, oInt_int, Option.bind_some, slcAt_str, slcAt_scr, pySlice, clampI]
  rw [if_pos (by (first | lia | omega))]
  have : ((-3 : Int) + (([40, 63, 115, 58] ++ B ++ [41, 92, 90]).length : Nat)).toNat = ([40, 63, 115, 58] ++ B).length := by simp; (first | lia | omega)
  rw [this, List.take_length, List.drop_left]
theorem slc_mid (B : List Nat) : pSlc (.str ([40, 63, 115, 58] ++ B ++ [41, 92, 90])) (some (.int 4)) (some (.int (-3))) H = some (.str B, H) := by
  simp only [pSlc, oInt_none, oInt_int, Option.bind_some, slcAt_str, slcAt_scr, pySlice, clampI]
  rw [if_pos (show (-3 : Int) < 0 by (first | lia | omega)), if_neg (show ¬ (4 : Int) < 0 by (first | lia | omega))]
  have : ((-3 : Int) + (([40, 63, 115, 58] ++ B ++ [41, 92, 90]).length : Nat)).toNat = ([40, 63, 115, 58] ++ B).length := by simp; (first | lia | omega)
  have h4 : min (Int.toNat 4) ([40, 63, 115, 58] ++ B ++ [41, 92, 90]).length = 4 := by simp
  rw [this, List.take_left]
  simp only [h4]
  rfl

noncomputable def readOf (ts : List Tok) : List (List Nat × List Glyph) := (ts.foldl rst ([], mF, [])).1 ++ [((ts.foldl rst ([], mF, [])).2.1, (ts.foldl rst ([], mF, [])).2.2)]

theorem ItemsF.at {F : Nat → Prop} {vs : List V} {gs : List Glyph} (h : ItemsF F H vs gs) : ItemsAt H vs (gs.map Glyph.item) := by
  refine ⟨by simp [h.1], fun i v it h1 h2 => ?_⟩
  rw [List.getElem?_map] at h2
  cases e : gs[i]? with
  | none => rw [e] at h2; cases h2
  | some g =>
    rw [e] at h2; cases h2
    have := h.2 i v g h1 e
    cases hi : g.item with
    | none => rw [hi] at this; exact this
    | some bl => rw [hi] at this; obtain ⟨a, x, y, z⟩ := this; exact ⟨a, x, y⟩
theorem RI.runs {H0 H : Hp} {ra b c : Nat} {l : List (List Nat × List Glyph)} {mk : List Nat} {gs : List Glyph} {xs vs : List V} (h : RI H0 H ra l mk gs xs b c vs) : RunsAt H ra (l ++ [(mk, gs)]) := by
  refine ⟨_, h.r1, by first | exact h.xl | simp [h.xl], fun i w x h1 h2 => ?_⟩
  by_cases hi : i < xs.length
  · rw [List.getElem?_append_left hi] at h1
    rw [List.getElem?_append_left (h.xl ▸ hi)] at h2
    obtain ⟨b', c', vs', k⟩ := h.xr i w x h1 h2
    exact ⟨b', c', vs', ⟨k.v, k.l, k.g, k.it.at⟩⟩
  · rw [List.getElem?_append_right (by (first | lia | omega))] at h1
    rw [List.getElem?_append_right (by have := h.xl; (first | lia | omega))] at h2
    have : i - xs.length = 0 := by
      have := (List.getElem?_eq_some_iff.1 h1).1
      simp at this; (first | lia | omega)
    rw [this] at h1
    rw [← h.xl, this] at h2
    simp at h1 h2
    subst h1; subst h2
    exact ⟨b, c, vs, ⟨rfl, h.r2, h.r3, h.it.at⟩⟩

set_option maxHeartbeats 1000000 in
theorem run_read (H : Hp) (ts : List Tok) (hg : good mF ts) (hn : ts.length ≤ 300) : ∃ a H', (∀ m, kCall PP (m + 120) "_law_read" [.str ([40, 63, 115, 58] ++ ttext ts ++ [41, 92, 90])] H = some (.ref a, H')) ∧ Ext H H' ∧ RunsAt H' a (readOf ts) := by
  generalize hT : [40, 63, 115, 58] ++ ttext ts ++ [41, 92, 90] = T
  have t1 : ∀ H, pSlc (.str T) none (some (.int 4)) H = some (.str [40, 63, 115, 58], H) := fun H => by rw [← hT]; exact slc_head _
  have t2 : ∀ H, pSlc (.str T) (some (.int (-3))) none H = some (.str [41, 92, 90], H) := fun H => by rw [← hT]; exact slc_tail _
  have t3 : ∀ H, pSlc (.str T) (some (.int 4)) (some (.int (-3))) H = some (.str (ttext ts), H) := fun H => by rw [← hT]; exact slc_mid _
  generalize hB : ttext ts = B at t3
  generalize hH1 : H ++ [MO.lst [], MO.lst [.str mF, .ref H.length], MO.lst [.ref (H.length + 1)]] = H1
  have g0 : hGet H1 (H.length + 2) = some ([] ++ [.ref (H.length + 1)]) := by rw [← hH1, hGet_appk]; rfl
  have g1 : hGet H1 (H.length + 1) = some [.str mF, .ref H.length] := by rw [← hH1, hGet_appk]; rfl
  have g2 : hGet H1 H.length = some [] := by rw [← hH1, hGet_app0]; rfl
  have R0 : RI H H1 (H.length + 2) [] mF [] [] (H.length + 1) H.length [] := { r1 := g0, r2 := g1, r3 := g2, ne := ⟨by (first | lia | omega), by (first | lia | omega), by (first | lia | omega)⟩, lo := ⟨by (first | lia | omega), by (first | lia | omega), by (first | lia | omega)⟩, it := ItemsF.nil, xl := rfl, xr := fun i v x h _ => by simp at h, ex := by rw [← hH1]; exact .app }
  have RS : RS9 H (upd (upd (upd (upd rnil "text" (.str T)) "body" (.str B)) "runs" (.ref (H.length + 2))) "at" (.int 0)) H1 B 0 (H.length + 2) [] mF [] := ⟨⟨by simp, by simp, by simp⟩, _, _, _, _, R0⟩
  obtain ⟨r', H', k1, ⟨k2, xs, b, c, vs, k3⟩⟩ := read_loop (ts := ts) hB.symm RS hg (by simp; (first | lia | omega))
  have s0 : ∀ m, ex PP (m + 119) (bd_law_read[0]) (updL rnil ["text"] [.str T]) H = some (.nx, upd rnil "text" (.str T), H) := fun m => by
    simp [bd_law_read, t1, t2]
  have s1 : ∀ m, ex PP (m + 118) (bd_law_read[1]) (upd rnil "text" (.str T)) H = some (.nx, upd (upd rnil "text" (.str T)) "body" (.str B), H) := fun m => by
    simp [bd_law_read, t3]
  have s2 : ∀ m, ex PP (m + 117) (bd_law_read[2]) (upd (upd rnil "text" (.str T)) "body" (.str B)) H = some (.nx, upd (upd (upd rnil "text" (.str T)) "body" (.str B)) "runs" (.ref (H.length + 2)), H1) := fun m => by
    rw [← hH1]; simp [bd_law_read, mF]
  have s3 : ∀ m, ex PP (m + 116) (bd_law_read[3]) (upd (upd (upd rnil "text" (.str T)) "body" (.str B)) "runs" (.ref (H.length + 2))) H1 = some (.nx, upd (upd (upd (upd rnil "text" (.str T)) "body" (.str B)) "runs" (.ref (H.length + 2))) "at" (.int 0), H1) := fun m => by
    simp [bd_law_read]
  have s4 : ∀ m, ex PP (m + 115) (.whl rCond rBody) (upd (upd (upd (upd rnil "text" (.str T)) "body" (.str B)) "runs" (.ref (H.length + 2))) "at" (.int 0)) H1 = some (.nx, r', H') := fun m => by
    have := k1 (m + 14)
    rw [Nat.add_assoc] at this
    rw [ex_whl]
    exact this
  have e : bd_law_read = [bd_law_read[0], bd_law_read[1], bd_law_read[2], bd_law_read[3], .whl rCond rBody, .ret (.var "runs")] := rfl
  refine ⟨H.length + 2, H', fun m => kCall_fn PP_read rfl (by decide) ?_, k3.ex, k3.runs⟩
  rw [e, exs_step (s0 m), exs_step (s1 m), exs_step (s2 m), exs_step (s3 m), exs_step (s4 m)]
  simp [k2.ru]
  exact same
end Mine
end

section
set_option Elab.async false
set_option linter.all false
set_option maxRecDepth 100000
namespace Mine
open PySem PyProof.Rows
variable {H : Hp}

noncomputable def kFN (s : Src) (b : V → Rho → Hp → Option (Fl × Rho × Hp)) (k i : Nat) (y : Option (Fl × Rho × Hp)) : Option (Fl × Rho × Hp) := y.bind fun (f, r2, H2) => match f with
      | .nx => forN s b k (i + 1) r2 H2
      | .brk => some (.nx, r2, H2)
      | .ret v => some (.ret v, r2, H2)
theorem forN_one (x : Int) (b : V → Rho → Hp → Option (Fl × Rho × Hp)) (r : Rho) : forN (.ints [x]) b 1 0 r H = kFN (.ints [x]) b 0 0 (b (.int x) r H) := rfl
theorem kFN_nx (x : Int) (b : V → Rho → Hp → Option (Fl × Rho × Hp)) (r : Rho) : kFN (.ints [x]) b 0 0 (some (.nx, r, H)) = some (.nx, r, H) := rfl
theorem rd10 : rangeDown 1 0 = [1] := rfl
theorem srcLen_one (x : Int) : srcLen H (.ints [x]) = some 1 := rfl
noncomputable def kJ3 (sep : List Nat) (H2 : Hp) (y : Option (List V)) : Option (V × Hp) := y.bind fun xs => (strsOf xs).bind fun l => if l.all (fun s => !s.contains 92 && !s.contains 45) then (joinOf sep xs).map fun v => (v, H2) else Option.none
theorem kJG2_some (sep : List Nat) (a : Nat) : kJG2 (.str sep) (some (.ref a, H)) = kJ3 sep H (hGet H a) := rfl
theorem kJ3_some (sep : List Nat) (xs : List V) : kJ3 sep H (some xs) = (strsOf xs).bind fun l => if l.all (fun s => !s.contains 92 && !s.contains 45) then (joinOf sep xs).map fun v => (v, H) else Option.none := rfl

theorem find_at {s u : List Nat} {i : Nat} (h : At s i u) (c k l : Nat) (hk : k ≤ l) : findIn1 c s ((i : Int) + (k : Int)).toNat ((i : Int) + (l : Int)).toNat = match ((u.take l).drop k).findIdx? (· == c) with | some x => (i : Int) + ((k + x : Nat) : Int) | none => -1 := by
  have e : ∀ j : Nat, ((i : Int) + (j : Int)).toNat = i + j := fun j => by (first | lia | omega)
  have h4 : (s.take (i + l)).drop (i + k) = (u.take l).drop k := by rw [← List.drop_drop, h.take]
  simp only [findIn1, e, h4]
  cases ((u.take l).drop k).findIdx? (· == c) with
  | none => rfl
  | some x => simp only; (first | lia | omega)
theorem find_past {s : List Nat} (c i k l : Nat) (hk : l ≤ k) : findIn1 c s ((i : Int) + (k : Int)).toNat ((i : Int) + (l : Int)).toNat = -1 := by
  have e : ∀ j : Nat, ((i : Int) + (j : Int)).toNat = i + j := fun j => by (first | lia | omega)
  have : (s.take (i + l)).drop (i + k) = [] := List.drop_eq_nil_of_le (by simp; (first | lia | omega))
  simp only [findIn1, e, this, List.findIdx?_nil]

theorem ltK {s l rest : List Nat} {i k : Nat} (h : At s i (l ++ rest)) (hk : k < l.length) : (i : Int) + (k : Int) < (s.length : Int) := by
  have := h.len
  rw [List.length_append] at this
  omega
theorem zK (i k : Nat) : (0 : Int) ≤ (i : Int) + (k : Int) := Int.add_nonneg (Int.natCast_nonneg i) (Int.natCast_nonneg k)
theorem sub_head (c : Nat) (t : List Nat) : pSub (.str (c :: t)) (.int 0) H = some (.str [c]) := by simp [pSub_str, place]
theorem slc_tl (c : Nat) (t : List Nat) : pSlc (.str (c :: t)) (some (.int 1)) none H = some (.str t, H) := by simp [pSlc, oInt_none, oInt_int, Option.bind_some, slcAt_str, slcAt_scr, pySlice, clampI]
theorem sub_l1 (c : Nat) : pSub (.str [c]) (.int (-1)) H = some (.str [c]) := rfl
theorem sub_l2 (a b : Nat) : pSub (.str [a, b]) (.int (-1)) H = some (.str [b]) := rfl
theorem slc_in (a b : Nat) : pSlc (.str [a, b]) none (some (.int (-1))) H = some (.str [a], H) := rfl

noncomputable def partV (st : Nat) (g : Glyph) : V := if g = .star then .ref st else .str (reg g)
noncomputable def partsV (st : Nat) (ps : List Glyph) : List V := ps.map (partV st)
@[simp] theorem partsV_len (st : Nat) (ps : List Glyph) : (partsV st ps).length = ps.length := by simp [partsV]
theorem partsV_snoc (st : Nat) (ps : List Glyph) (g : Glyph) : partsV st (ps ++ [g]) = partsV st ps ++ [partV st g] := by simp [partsV]

noncomputable def trCond : E := whlC (bd_translate[3])
noncomputable def trBody : List S := whlB (bd_translate[3])

structure TR (r : Rho) (s : List Nat) (i st ra : Nat) : Prop where
  pat : r "pat" = some (.str s)
  st : r "STAR" = some (.ref st)
  q : r "QUESTION_MARK" = some (.str [46])
  re : r "res" = some (.ref ra)
  ad : r "add" = some (.app ra)
  i : r "i" = some (.int i)
  n : r "n" = some (.int s.length)
structure TS (H0 : Hp) (r : Rho) (H : Hp) (s : List Nat) (i st ra : Nat) (ps : List Glyph) : Prop where
  tr : TR r s i st ra
  h : hGet H ra = some (partsV st ps)
  lo : H0.length ≤ ra
  ex : Ext H0 H
noncomputable def TNxt (H0 : Hp) (r : Rho) (H : Hp) (s : List Nat) (i st ra : Nat) (ps : List Glyph) : Prop :=
  ∃ r' H', (∀ m, Same (exs PP (m + 100) trBody r H) (some (.nx, r', H'))) ∧ TS H0 r' H' s i st ra ps

theorem TS.put {H0 H H1 : Hp} {r r' : Rho} {s : List Nat} {i j st ra : Nat} {ps : List Glyph} {v : V} {g : Glyph} (h : TS H0 r H s i st ra ps) (e : Ext H H1) (t : TR r' s j st ra) (hv : v = partV st g) : TS H0 r' (hSet H1 ra (partsV st ps ++ [v])) s j st ra (ps ++ [g]) :=
  ⟨t, by rw [hGet_set _ _ (hGet_lt (e.get h.h)), partsV_snoc, hv], h.lo, (h.ex.trans e).set h.lo⟩

section
variable {H0 : Hp} {r : Rho} {s rest : List Nat} {i st ra : Nat} {ps : List Glyph}

set_option maxHeartbeats 2000000 in
theorem tr_any (h : TS H0 r H s i st ra ps) (hb : ps.length ≤ 1000) (ht : At s i ([63] ++ rest)) : TNxt H0 r H s (i + 1) st ra (ps ++ [.any]) := by
  obtain ⟨k1, k2, k3, k4, k5, k6, k7⟩ := h.tr
  have hl : ps.length ≤ lim := lim_of (by (first | lia | omega))
  have e3 : ∀ X, hGet (H ++ X) ra = some (partsV st ps) := fun X => (Ext.app).get h.h
  have e0 := h.h
  have L := ht.len
  simp at L
  have a0 : ∀ H, pSub (.str s) (.int (i : Int)) H = some (.str [63]) := fun H => at_sub0 (H := H) ht
  exact ⟨_, _, fun m => by simp [trBody, whlB, bd_translate, k1, k2, k3, k4, k5, k6, k7, hl, e0, e3, Int.add_assoc, a0]; exact same, h.put .rfl' ⟨by exact k1, by exact k2, by exact k3, by exact k4, by exact k5, by simp, by exact k7⟩ rfl⟩

set_option maxHeartbeats 2000000 in
theorem tr_notA (h : TS H0 r H s i st ra ps) (hb : ps.length ≤ 1000) (ht : At s i ([91, 33, 97, 93] ++ rest)) : TNxt H0 r H s (i + 4) st ra (ps ++ [.notA]) := by
  obtain ⟨k1, k2, k3, k4, k5, k6, k7⟩ := h.tr
  have hl : ps.length ≤ lim := lim_of (by (first | lia | omega))
  have e3 : ∀ X, hGet (H ++ X) ra = some (partsV st ps) := fun X => (Ext.app).get h.h
  have e0 := h.h
  have L := ht.len
  simp at L
  have a0 : ∀ H, pSub (.str s) (.int (i : Int)) H = some (.str [91]) := fun H => at_sub0 (H := H) ht
  have a1 : ∀ H, pSub (.str s) (.int ((i : Int) + 1)) H = some (.str [33]) := fun H => at_sub (H := H) ht 1
  have c1 : (i : Int) + 1 < (s.length : Int) := ltK ht (Nat.le_of_ble_eq_true rfl : 1 < 4)
  have d1 : ¬ ((s.length : Int) ≤ (i : Int) + 1) := Int.not_le.mpr c1
  have z1 : (0 : Int) ≤ (i : Int) + 1 := zK i 1
  have a2 : ∀ H, pSub (.str s) (.int ((i : Int) + 2)) H = some (.str [97]) := fun H => at_sub (H := H) ht 2
  have c2 : (i : Int) + 2 < (s.length : Int) := ltK ht (Nat.le_of_ble_eq_true rfl : 2 < 4)
  have d2 : ¬ ((s.length : Int) ≤ (i : Int) + 2) := Int.not_le.mpr c2
  have z2 : (0 : Int) ≤ (i : Int) + 2 := zK i 2
  have a3 : ∀ H, pSub (.str s) (.int ((i : Int) + 3)) H = some (.str [93]) := fun H => at_sub (H := H) ht 3
  have c3 : (i : Int) + 3 < (s.length : Int) := ltK ht (Nat.le_of_ble_eq_true rfl : 3 < 4)
  have d3 : ¬ ((s.length : Int) ≤ (i : Int) + 3) := Int.not_le.mpr c3
  have z3 : (0 : Int) ≤ (i : Int) + 3 := zK i 3
  have s13 : ∀ H, pSlc (.str s) (some (.int ((i : Int) + 1))) (some (.int ((i : Int) + 3))) H = some (.str [33, 97], H) := fun H => at_slc (H := H) ht 3 1 (by decide)
  exact ⟨_, _, fun m => by simp [trBody, whlB, bd_translate, k1, k2, k3, k4, k5, k6, k7, hl, e0, e3, Int.add_assoc, a0, a1, c1, d1, z1, a2, c2, d2, z2, a3, c3, d3, z3, s13, whileN_succ, hGet_app0, hGet_cons0, hSet_app0, hSet_cons0, five, sub_head, slc_tl, sub_l1, sub_l2, slc_in, pl02, pl12, kJG2_some, kJ3_some, strsOf, joinOf, glue, forN_one, kFN_nx, rd10, srcLen_one, lt_one]; exact same, h.put .rfl' ⟨by exact k1, by exact k2, by exact k3, by exact k4, by exact k5, by simp, by exact k7⟩ rfl⟩

set_option maxHeartbeats 2000000 in
theorem tr_slashA (h : TS H0 r H s i st ra ps) (hb : ps.length ≤ 1000) (ht : At s i ([91, 47, 45, 97, 93] ++ rest)) : TNxt H0 r H s (i + 5) st ra (ps ++ [.slashA]) := by
  obtain ⟨k1, k2, k3, k4, k5, k6, k7⟩ := h.tr
  have hl : ps.length ≤ lim := lim_of (by (first | lia | omega))
  have e3 : ∀ X, hGet (H ++ X) ra = some (partsV st ps) := fun X => (Ext.app).get h.h
  have e0 := h.h
  have L := ht.len
  simp at L
  have a0 : ∀ H, pSub (.str s) (.int (i : Int)) H = some (.str [91]) := fun H => at_sub0 (H := H) ht
  have a1 : ∀ H, pSub (.str s) (.int ((i : Int) + 1)) H = some (.str [47]) := fun H => at_sub (H := H) ht 1
  have c1 : (i : Int) + 1 < (s.length : Int) := ltK ht (Nat.le_of_ble_eq_true rfl : 1 < 5)
  have d1 : ¬ ((s.length : Int) ≤ (i : Int) + 1) := Int.not_le.mpr c1
  have z1 : (0 : Int) ≤ (i : Int) + 1 := zK i 1
  have a2 : ∀ H, pSub (.str s) (.int ((i : Int) + 2)) H = some (.str [45]) := fun H => at_sub (H := H) ht 2
  have c2 : (i : Int) + 2 < (s.length : Int) := ltK ht (Nat.le_of_ble_eq_true rfl : 2 < 5)
  have d2 : ¬ ((s.length : Int) ≤ (i : Int) + 2) := Int.not_le.mpr c2
  have z2 : (0 : Int) ≤ (i : Int) + 2 := zK i 2
  have a3 : ∀ H, pSub (.str s) (.int ((i : Int) + 3)) H = some (.str [97]) := fun H => at_sub (H := H) ht 3
  have c3 : (i : Int) + 3 < (s.length : Int) := ltK ht (Nat.le_of_ble_eq_true rfl : 3 < 5)
  have d3 : ¬ ((s.length : Int) ≤ (i : Int) + 3) := Int.not_le.mpr c3
  have z3 : (0 : Int) ≤ (i : Int) + 3 := zK i 3
  have a4 : ∀ H, pSub (.str s) (.int ((i : Int) + 4)) H = some (.str [93]) := fun H => at_sub (H := H) ht 4
  have c4 : (i : Int) + 4 < (s.length : Int) := ltK ht (Nat.le_of_ble_eq_true rfl : 4 < 5)
  have d4 : ¬ ((s.length : Int) ≤ (i : Int) + 4) := Int.not_le.mpr c4
  have z4 : (0 : Int) ≤ (i : Int) + 4 := zK i 4
  have s14 : ∀ H, pSlc (.str s) (some (.int ((i : Int) + 1))) (some (.int ((i : Int) + 4))) H = some (.str [47, 45, 97], H) := fun H => at_slc (H := H) ht 4 1 (by decide)
  have s12 : ∀ H, pSlc (.str s) (some (.int ((i : Int) + 1))) (some (.int ((i : Int) + 2))) H = some (.str [47], H) := fun H => at_slc (H := H) ht 2 1 (by decide)
  have s34 : ∀ H, pSlc (.str s) (some (.int ((i : Int) + 3))) (some (.int ((i : Int) + 4))) H = some (.str [97], H) := fun H => at_slc (H := H) ht 4 3 (by decide)
  have f24 : findIn1 45 s ((i : Int) + 2).toNat ((i : Int) + 4).toNat = (i : Int) + 2 := find_at ht 45 2 4 (by decide)
  have f54 : findIn1 45 s ((i : Int) + 5).toNat ((i : Int) + 4).toNat = -1 := find_past 45 i 5 4 (by decide)
  have z5 : (0 : Int) ≤ (i : Int) + 5 := zK i 5
  have zz : ¬ ((i : Int) + 2 < 0) := Int.not_lt.mpr (zK i 2)
  exact ⟨_, _, fun m => by simp [trBody, whlB, bd_translate, k1, k2, k3, k4, k5, k6, k7, hl, e0, e3, Int.add_assoc, a0, a1, c1, d1, z1, a2, c2, d2, z2, a3, c3, d3, z3, a4, c4, d4, z4, s14, s12, s34, f24, z5, f54, zz, whileN_succ, hGet_app0, hGet_cons0, hSet_app0, hSet_cons0, five, sub_head, slc_tl, sub_l1, sub_l2, slc_in, pl02, pl12, kJG2_some, kJ3_some, strsOf, joinOf, glue, forN_one, kFN_nx, rd10, srcLen_one, lt_one]; exact same, h.put .app ⟨by exact k1, by exact k2, by exact k3, by exact k4, by exact k5, by simp, by exact k7⟩ rfl⟩

set_option maxHeartbeats 2000000 in
theorem tr_slash (h : TS H0 r H s i st ra ps) (hb : ps.length ≤ 1000) (ht : At s i ([47] ++ rest)) : TNxt H0 r H s (i + 1) st ra (ps ++ [.slash]) := by
  obtain ⟨k1, k2, k3, k4, k5, k6, k7⟩ := h.tr
  have hl : ps.length ≤ lim := lim_of (by (first | lia | omega))
  have e3 : ∀ X, hGet (H ++ X) ra = some (partsV st ps) := fun X => (Ext.app).get h.h
  have e0 := h.h
  have L := ht.len
  simp at L
  have a0 : ∀ H, pSub (.str s) (.int (i : Int)) H = some (.str [47]) := fun H => at_sub0 (H := H) ht
  exact ⟨_, _, fun m => by simp [trBody, whlB, bd_translate, k1, k2, k3, k4, k5, k6, k7, hl, e0, e3, Int.add_assoc, a0]; exact same, h.put .rfl' ⟨by exact k1, by exact k2, by exact k3, by exact k4, by exact k5, by simp, by exact k7⟩ rfl⟩

set_option maxHeartbeats 2000000 in
theorem tr_chA (h : TS H0 r H s i st ra ps) (hb : ps.length ≤ 1000) (ht : At s i ([97] ++ rest)) : TNxt H0 r H s (i + 1) st ra (ps ++ [.chA]) := by
  obtain ⟨k1, k2, k3, k4, k5, k6, k7⟩ := h.tr
  have hl : ps.length ≤ lim := lim_of (by (first | lia | omega))
  have e3 : ∀ X, hGet (H ++ X) ra = some (partsV st ps) := fun X => (Ext.app).get h.h
  have e0 := h.h
  have L := ht.len
  simp at L
  have a0 : ∀ H, pSub (.str s) (.int (i : Int)) H = some (.str [97]) := fun H => at_sub0 (H := H) ht
  exact ⟨_, _, fun m => by simp [trBody, whlB, bd_translate, k1, k2, k3, k4, k5, k6, k7, hl, e0, e3, Int.add_assoc, a0]; exact same, h.put .rfl' ⟨by exact k1, by exact k2, by exact k3, by exact k4, by exact k5, by simp, by exact k7⟩ rfl⟩

set_option maxHeartbeats 2000000 in
theorem tr_dot (h : TS H0 r H s i st ra ps) (hb : ps.length ≤ 1000) (ht : At s i ([46] ++ rest)) : TNxt H0 r H s (i + 1) st ra (ps ++ [.dot]) := by
  obtain ⟨k1, k2, k3, k4, k5, k6, k7⟩ := h.tr
  have hl : ps.length ≤ lim := lim_of (by (first | lia | omega))
  have e3 : ∀ X, hGet (H ++ X) ra = some (partsV st ps) := fun X => (Ext.app).get h.h
  have e0 := h.h
  have L := ht.len
  simp at L
  have a0 : ∀ H, pSub (.str s) (.int (i : Int)) H = some (.str [46]) := fun H => at_sub0 (H := H) ht
  exact ⟨_, _, fun m => by simp [trBody, whlB, bd_translate, k1, k2, k3, k4, k5, k6, k7, hl, e0, e3, Int.add_assoc, a0]; exact same, h.put .rfl' ⟨by exact k1, by exact k2, by exact k3, by exact k4, by exact k5, by simp, by exact k7⟩ rfl⟩

set_option maxHeartbeats 2000000 in
theorem tr_notBA (h : TS H0 r H s i st ra ps) (hb : ps.length ≤ 1000) (ht : At s i ([91, 33, 98, 45, 97, 93] ++ rest)) : TNxt H0 r H s (i + 6) st ra (ps ++ [.notBA]) := by
  obtain ⟨k1, k2, k3, k4, k5, k6, k7⟩ := h.tr
  have hl : ps.length ≤ lim := lim_of (by (first | lia | omega))
  have e3 : ∀ X, hGet (H ++ X) ra = some (partsV st ps) := fun X => (Ext.app).get h.h
  have e0 := h.h
  have L := ht.len
  simp at L
  have a0 : ∀ H, pSub (.str s) (.int (i : Int)) H = some (.str [91]) := fun H => at_sub0 (H := H) ht
  have a1 : ∀ H, pSub (.str s) (.int ((i : Int) + 1)) H = some (.str [33]) := fun H => at_sub (H := H) ht 1
  have c1 : (i : Int) + 1 < (s.length : Int) := ltK ht (Nat.le_of_ble_eq_true rfl : 1 < 6)
  have d1 : ¬ ((s.length : Int) ≤ (i : Int) + 1) := Int.not_le.mpr c1
  have z1 : (0 : Int) ≤ (i : Int) + 1 := zK i 1
  have a2 : ∀ H, pSub (.str s) (.int ((i : Int) + 2)) H = some (.str [98]) := fun H => at_sub (H := H) ht 2
  have c2 : (i : Int) + 2 < (s.length : Int) := ltK ht (Nat.le_of_ble_eq_true rfl : 2 < 6)
  have d2 : ¬ ((s.length : Int) ≤ (i : Int) + 2) := Int.not_le.mpr c2
  have z2 : (0 : Int) ≤ (i : Int) + 2 := zK i 2
  have a3 : ∀ H, pSub (.str s) (.int ((i : Int) + 3)) H = some (.str [45]) := fun H => at_sub (H := H) ht 3
  have c3 : (i : Int) + 3 < (s.length : Int) := ltK ht (Nat.le_of_ble_eq_true rfl : 3 < 6)
  have d3 : ¬ ((s.length : Int) ≤ (i : Int) + 3) := Int.not_le.mpr c3
  have z3 : (0 : Int) ≤ (i : Int) + 3 := zK i 3
  have a4 : ∀ H, pSub (.str s) (.int ((i : Int) + 4)) H = some (.str [97]) := fun H => at_sub (H := H) ht 4
  have c4 : (i : Int) + 4 < (s.length : Int) := ltK ht (Nat.le_of_ble_eq_true rfl : 4 < 6)
  have d4 : ¬ ((s.length : Int) ≤ (i : Int) + 4) := Int.not_le.mpr c4
  have z4 : (0 : Int) ≤ (i : Int) + 4 := zK i 4
  have a5 : ∀ H, pSub (.str s) (.int ((i : Int) + 5)) H = some (.str [93]) := fun H => at_sub (H := H) ht 5
  have c5 : (i : Int) + 5 < (s.length : Int) := ltK ht (Nat.le_of_ble_eq_true rfl : 5 < 6)
  have d5 : ¬ ((s.length : Int) ≤ (i : Int) + 5) := Int.not_le.mpr c5
  have z5 : (0 : Int) ≤ (i : Int) + 5 := zK i 5
  have s15 : ∀ H, pSlc (.str s) (some (.int ((i : Int) + 1))) (some (.int ((i : Int) + 5))) H = some (.str [33, 98, 45, 97], H) := fun H => at_slc (H := H) ht 5 1 (by decide)
  have s13 : ∀ H, pSlc (.str s) (some (.int ((i : Int) + 1))) (some (.int ((i : Int) + 3))) H = some (.str [33, 98], H) := fun H => at_slc (H := H) ht 3 1 (by decide)
  have s45 : ∀ H, pSlc (.str s) (some (.int ((i : Int) + 4))) (some (.int ((i : Int) + 5))) H = some (.str [97], H) := fun H => at_slc (H := H) ht 5 4 (by decide)
  have f35 : findIn1 45 s ((i : Int) + 3).toNat ((i : Int) + 5).toNat = (i : Int) + 3 := find_at ht 45 3 5 (by decide)
  have f65 : findIn1 45 s ((i : Int) + 6).toNat ((i : Int) + 5).toNat = -1 := find_past 45 i 6 5 (by decide)
  have z6 : (0 : Int) ≤ (i : Int) + 6 := zK i 6
  have zz : ¬ ((i : Int) + 3 < 0) := Int.not_lt.mpr (zK i 3)
  exact ⟨_, _, fun m => by simp [trBody, whlB, bd_translate, k1, k2, k3, k4, k5, k6, k7, hl, e0, e3, Int.add_assoc, a0, a1, c1, d1, z1, a2, c2, d2, z2, a3, c3, d3, z3, a4, c4, d4, z4, a5, c5, d5, z5, s15, s13, s45, f35, z6, f65, zz, whileN_succ, hGet_app0, hGet_cons0, hSet_app0, hSet_cons0, five, sub_head, slc_tl, sub_l1, sub_l2, slc_in, pl02, pl12, kJG2_some, kJ3_some, strsOf, joinOf, glue, forN_one, kFN_nx, rd10, srcLen_one, lt_one]; exact same, h.put .app ⟨by exact k1, by exact k2, by exact k3, by exact k4, by exact k5, by simp, by exact k7⟩ rfl⟩

set_option maxHeartbeats 2000000 in
theorem tr_notSlash (h : TS H0 r H s i st ra ps) (hb : ps.length ≤ 1000) (ht : At s i ([91, 33, 47, 93] ++ rest)) : TNxt H0 r H s (i + 4) st ra (ps ++ [.notSlash]) := by
  obtain ⟨k1, k2, k3, k4, k5, k6, k7⟩ := h.tr
  have hl : ps.length ≤ lim := lim_of (by (first | lia | omega))
  have e3 : ∀ X, hGet (H ++ X) ra = some (partsV st ps) := fun X => (Ext.app).get h.h
  have e0 := h.h
  have L := ht.len
  simp at L
  have a0 : ∀ H, pSub (.str s) (.int (i : Int)) H = some (.str [91]) := fun H => at_sub0 (H := H) ht
  have a1 : ∀ H, pSub (.str s) (.int ((i : Int) + 1)) H = some (.str [33]) := fun H => at_sub (H := H) ht 1
  have c1 : (i : Int) + 1 < (s.length : Int) := ltK ht (Nat.le_of_ble_eq_true rfl : 1 < 4)
  have d1 : ¬ ((s.length : Int) ≤ (i : Int) + 1) := Int.not_le.mpr c1
  have z1 : (0 : Int) ≤ (i : Int) + 1 := zK i 1
  have a2 : ∀ H, pSub (.str s) (.int ((i : Int) + 2)) H = some (.str [47]) := fun H => at_sub (H := H) ht 2
  have c2 : (i : Int) + 2 < (s.length : Int) := ltK ht (Nat.le_of_ble_eq_true rfl : 2 < 4)
  have d2 : ¬ ((s.length : Int) ≤ (i : Int) + 2) := Int.not_le.mpr c2
  have z2 : (0 : Int) ≤ (i : Int) + 2 := zK i 2
  have a3 : ∀ H, pSub (.str s) (.int ((i : Int) + 3)) H = some (.str [93]) := fun H => at_sub (H := H) ht 3
  have c3 : (i : Int) + 3 < (s.length : Int) := ltK ht (Nat.le_of_ble_eq_true rfl : 3 < 4)
  have d3 : ¬ ((s.length : Int) ≤ (i : Int) + 3) := Int.not_le.mpr c3
  have z3 : (0 : Int) ≤ (i : Int) + 3 := zK i 3
  have s13 : ∀ H, pSlc (.str s) (some (.int ((i : Int) + 1))) (some (.int ((i : Int) + 3))) H = some (.str [33, 47], H) := fun H => at_slc (H := H) ht 3 1 (by decide)
  exact ⟨_, _, fun m => by simp [trBody, whlB, bd_translate, k1, k2, k3, k4, k5, k6, k7, hl, e0, e3, Int.add_assoc, a0, a1, c1, d1, z1, a2, c2, d2, z2, a3, c3, d3, z3, s13, whileN_succ, hGet_app0, hGet_cons0, hSet_app0, hSet_cons0, five, sub_head, slc_tl, sub_l1, sub_l2, slc_in, pl02, pl12, kJG2_some, kJ3_some, strsOf, joinOf, glue, forN_one, kFN_nx, rd10, srcLen_one, lt_one]; exact same, h.put .rfl' ⟨by exact k1, by exact k2, by exact k3, by exact k4, by exact k5, by simp, by exact k7⟩ rfl⟩

set_option maxHeartbeats 2000000 in
theorem tr_aToB (h : TS H0 r H s i st ra ps) (hb : ps.length ≤ 1000) (ht : At s i ([91, 97, 45, 98, 93] ++ rest)) : TNxt H0 r H s (i + 5) st ra (ps ++ [.aToB]) := by
  obtain ⟨k1, k2, k3, k4, k5, k6, k7⟩ := h.tr
  have hl : ps.length ≤ lim := lim_of (by (first | lia | omega))
  have e3 : ∀ X, hGet (H ++ X) ra = some (partsV st ps) := fun X => (Ext.app).get h.h
  have e0 := h.h
  have L := ht.len
  simp at L
  have a0 : ∀ H, pSub (.str s) (.int (i : Int)) H = some (.str [91]) := fun H => at_sub0 (H := H) ht
  have a1 : ∀ H, pSub (.str s) (.int ((i : Int) + 1)) H = some (.str [97]) := fun H => at_sub (H := H) ht 1
  have c1 : (i : Int) + 1 < (s.length : Int) := ltK ht (Nat.le_of_ble_eq_true rfl : 1 < 5)
  have d1 : ¬ ((s.length : Int) ≤ (i : Int) + 1) := Int.not_le.mpr c1
  have z1 : (0 : Int) ≤ (i : Int) + 1 := zK i 1
  have a2 : ∀ H, pSub (.str s) (.int ((i : Int) + 2)) H = some (.str [45]) := fun H => at_sub (H := H) ht 2
  have c2 : (i : Int) + 2 < (s.length : Int) := ltK ht (Nat.le_of_ble_eq_true rfl : 2 < 5)
  have d2 : ¬ ((s.length : Int) ≤ (i : Int) + 2) := Int.not_le.mpr c2
  have z2 : (0 : Int) ≤ (i : Int) + 2 := zK i 2
  have a3 : ∀ H, pSub (.str s) (.int ((i : Int) + 3)) H = some (.str [98]) := fun H => at_sub (H := H) ht 3
  have c3 : (i : Int) + 3 < (s.length : Int) := ltK ht (Nat.le_of_ble_eq_true rfl : 3 < 5)
  have d3 : ¬ ((s.length : Int) ≤ (i : Int) + 3) := Int.not_le.mpr c3
  have z3 : (0 : Int) ≤ (i : Int) + 3 := zK i 3
  have a4 : ∀ H, pSub (.str s) (.int ((i : Int) + 4)) H = some (.str [93]) := fun H => at_sub (H := H) ht 4
  have c4 : (i : Int) + 4 < (s.length : Int) := ltK ht (Nat.le_of_ble_eq_true rfl : 4 < 5)
  have d4 : ¬ ((s.length : Int) ≤ (i : Int) + 4) := Int.not_le.mpr c4
  have z4 : (0 : Int) ≤ (i : Int) + 4 := zK i 4
  have s14 : ∀ H, pSlc (.str s) (some (.int ((i : Int) + 1))) (some (.int ((i : Int) + 4))) H = some (.str [97, 45, 98], H) := fun H => at_slc (H := H) ht 4 1 (by decide)
  have s12 : ∀ H, pSlc (.str s) (some (.int ((i : Int) + 1))) (some (.int ((i : Int) + 2))) H = some (.str [97], H) := fun H => at_slc (H := H) ht 2 1 (by decide)
  have s34 : ∀ H, pSlc (.str s) (some (.int ((i : Int) + 3))) (some (.int ((i : Int) + 4))) H = some (.str [98], H) := fun H => at_slc (H := H) ht 4 3 (by decide)
  have f24 : findIn1 45 s ((i : Int) + 2).toNat ((i : Int) + 4).toNat = (i : Int) + 2 := find_at ht 45 2 4 (by decide)
  have f54 : findIn1 45 s ((i : Int) + 5).toNat ((i : Int) + 4).toNat = -1 := find_past 45 i 5 4 (by decide)
  have z5 : (0 : Int) ≤ (i : Int) + 5 := zK i 5
  have zz : ¬ ((i : Int) + 2 < 0) := Int.not_lt.mpr (zK i 2)
  exact ⟨_, _, fun m => by simp [trBody, whlB, bd_translate, k1, k2, k3, k4, k5, k6, k7, hl, e0, e3, Int.add_assoc, a0, a1, c1, d1, z1, a2, c2, d2, z2, a3, c3, d3, z3, a4, c4, d4, z4, s14, s12, s34, f24, z5, f54, zz, whileN_succ, hGet_app0, hGet_cons0, hSet_app0, hSet_cons0, five, sub_head, slc_tl, sub_l1, sub_l2, slc_in, pl02, pl12, kJG2_some, kJ3_some, strsOf, joinOf, glue, forN_one, kFN_nx, rd10, srcLen_one, lt_one]; exact same, h.put .app ⟨by exact k1, by exact k2, by exact k3, by exact k4, by exact k5, by simp, by exact k7⟩ rfl⟩

end
end Mine
end

section
set_option Elab.async false
set_option linter.all false
set_option maxRecDepth 100000
namespace Mine
open PySem PyProof.Rows
variable {H : Hp}

noncomputable def ddStep (ps : List Glyph) (g : Glyph) : List Glyph := if g = .star ∧ ps.getLast? = some .star then ps else ps ++ [g]
noncomputable def dd (gs : List Glyph) : List Glyph := gs.foldl ddStep []
noncomputable def gtext (gs : List Glyph) : List Nat := gs.flatMap Glyph.text

section
variable {H0 : Hp} {r : Rho} {s rest : List Nat} {i st ra : Nat} {ps : List Glyph}

set_option maxHeartbeats 1000000 in
theorem tr_star (h : TS H0 r H s i st ra ps) (hb : ps.length ≤ 1000) (ht : At s i (42 :: rest)) : TNxt H0 r H s (i + 1) st ra (ddStep ps .star) := by
  obtain ⟨k1, k2, k3, k4, k5, k6, k7⟩ := h.tr
  have hl : ps.length ≤ lim := lim_of (by (first | lia | omega))
  have e0 := h.h
  have a0 := fun H => at_sub0 (H := H) ht
  simp at a0
  rcases List.eq_nil_or_concat ps with rfl | ⟨q, g, rfl⟩
  · have e0' : hGet H ra = some [] := e0
    exact ⟨_, _, fun m => by simp [trBody, whlB, bd_translate, k1, k2, k3, k4, k5, k6, k7, e0', a0]; exact same, h.put .rfl' ⟨by exact k1, by exact k2, by exact k3, by exact k4, by exact k5, by simp, by exact k7⟩ rfl⟩
  · simp only [List.concat_eq_append] at *
    rw [partsV_snoc] at e0
    have hl2 : q.length + 1 ≤ lim := by simpa using hl
    by_cases hg : g = .star
    · subst hg
      have e1 : ddStep (q ++ [Glyph.star]) .star = q ++ [.star] := by simp [ddStep]
      rw [e1]
      refine ⟨_, _, fun m => by simp [trBody, whlB, bd_translate, k1, k2, k3, k4, k5, k6, k7, e0, a0, place_m1, partV]; exact same, ⟨⟨by exact k1, by exact k2, by exact k3, by exact k4, by exact k5, by simp, by exact k7⟩, h.h, h.lo, h.ex⟩⟩
    · have e1 : ddStep (q ++ [g]) .star = q ++ [g] ++ [.star] := by simp [ddStep, hg]
      rw [e1]
      refine ⟨_, _, fun m => by simp [trBody, whlB, bd_translate, k1, k2, k3, k4, k5, k6, k7, e0, a0, place_m1, partV, hg, hl2]; exact same, ?_⟩
      have := h.put (g := .star) (v := .ref st) (r' := upd (upd r "c" (.str [42])) "i" (.int ((i : Int) + 1))) (j := i + 1) .rfl' ⟨by exact k1, by exact k2, by exact k3, by exact k4, by exact k5, by simp, by exact k7⟩ rfl
      rw [partsV_snoc] at this
      simpa [partV, hg] using this

theorem tr_any' (h : TS H0 r H s i st ra ps) (hb : ps.length ≤ 1000) (g : Glyph) (ht : At s i (g.text ++ rest)) : TNxt H0 r H s (i + g.text.length) st ra (ddStep ps g) := by
  cases g with
  | star => exact tr_star h hb ht
  | any => exact tr_any h hb ht
  | notA => exact tr_notA h hb ht
  | slashA => exact tr_slashA h hb ht
  | slash => exact tr_slash h hb ht
  | chA => exact tr_chA h hb ht
  | dot => exact tr_dot h hb ht
  | notBA => exact tr_notBA h hb ht
  | notSlash => exact tr_notSlash h hb ht
  | aToB => exact tr_aToB h hb ht

theorem ddStep_len (ps : List Glyph) (g : Glyph) : (ddStep ps g).length ≤ ps.length + 1 := by unfold ddStep; split <;> simp
theorem gtext_pos (g : Glyph) : 0 < g.text.length := by cases g <;> decide

theorem tr_loop {gs : List Glyph} (hs : s = gtext gs) (h : TS H0 r H s 0 st ra []) (hn : gs.length ≤ 390) :
    ∃ r' H', (∀ m, whileN (tst PP (m + 100) trCond) (exs PP (m + 100) trBody) 400 r H = some (.nx, r', H')) ∧ TS H0 r' H' s s.length st ra (dd gs) := by
  refine while_rule (fun k r H => ∃ (us ps : List Glyph) (i : Nat), k = us.length ∧ TS H0 r H s i st ra ps ∧ At s i (gtext us) ∧ us.foldl ddStep ps = dd gs ∧ ps.length + us.length ≤ 390) _ (fun k r1 H1 => ?_) 400 gs.length r H (by (first | lia | omega)) ⟨gs, [], 0, rfl, h, ⟨by simpa using hs, by (first | lia | omega)⟩, rfl, by simpa using hn⟩
  rintro ⟨us, ps, i, rfl, h1, h2, h4, h5⟩
  have hL := h2.len
  cases us with
  | nil =>
    refine .inl ⟨H1, fun m => ?_, ?_⟩
    · simp [gtext] at hL
      simp [trCond, whlC, bd_translate, h1.tr.i, h1.tr.n, hL]
    · rw [← h4]
      have : s.length = i := by simpa [gtext] using hL
      rw [this]; exact h1
  | cons g us =>
    simp only [List.length_cons] at h5
    obtain ⟨r2, H2, k1, k2⟩ := tr_any' (rest := gtext us) h1 (by (first | lia | omega)) g (by simpa [gtext] using h2)
    have hp := gtext_pos g
    refine .inr (.inl ⟨H1, r2, H2, us.length, rfl, fun m => ?_, k1, us, ddStep ps g, _, rfl, k2, ?_, h4, ?_⟩)
    · have hlt : i < s.length := by rw [hL]; simp [gtext]; (first | lia | omega)
      simp [trCond, whlC, bd_translate, h1.tr.i, h1.tr.n, hlt]
    · have h2' : At s i (g.text ++ gtext us) := by simpa [gtext] using h2
      exact h2'.next
    · have := ddStep_len ps g
      (first | lia | omega)
end

set_option maxHeartbeats 1000000 in
theorem run_tr (H : Hp) (gs : List Glyph) (st : Nat) (hn : gs.length ≤ 300) : ∃ a H', (∀ m, kCall PP (m + 120) "_translate" [.str (gtext gs), .ref st, .str [46]] H = some (.ref a, H')) ∧ Ext H H' ∧ hGet H' a = some (partsV st (dd gs)) := by
  generalize hS : gtext gs = s
  generalize hH1 : H ++ [MO.lst []] = H1
  have g0 : hGet H1 H.length = some [] := by rw [← hH1]; exact hGet_end _ _
  have x1 : Ext H H1 := by rw [← hH1]; exact .app
  generalize hr0 : upd (upd (upd rnil "pat" (.str s)) "STAR" (.ref st)) "QUESTION_MARK" (.str [46]) = r0
  have T0 : TS H (upd (upd (upd (upd r0 "res" (.ref H.length)) "add" (.app H.length)) "i" (.int 0)) "n" (.int s.length)) H1 s 0 st H.length [] :=
    ⟨⟨by simp [← hr0], by simp [← hr0], by simp [← hr0], by simp, by simp, by simp, by simp⟩, g0, by (first | lia | omega), x1⟩
  obtain ⟨r', H', k1, k2⟩ := tr_loop hS.symm T0 (by (first | lia | omega))
  have s1 : ∀ m, ex PP (m + 119) (bd_translate[0]) r0 H = some (.nx, upd r0 "res" (.ref H.length), H1) := fun m => by
    simp [bd_translate, hH1]
  have s2 : ∀ m, ex PP (m + 118) (bd_translate[1]) (upd r0 "res" (.ref H.length)) H1 = some (.nx, upd (upd r0 "res" (.ref H.length)) "add" (.app H.length), H1) := fun m => by
    simp [bd_translate, g0]
  have s3 : ∀ m, ex PP (m + 117) (bd_translate[2]) (upd (upd r0 "res" (.ref H.length)) "add" (.app H.length)) H1 = some (.nx, upd (upd (upd (upd r0 "res" (.ref H.length)) "add" (.app H.length)) "i" (.int 0)) "n" (.int s.length), H1) := fun m => by
    simp [bd_translate, ← hr0]
  have s4 : ∀ m, ex PP (m + 116) (.whl trCond trBody) (upd (upd (upd (upd r0 "res" (.ref H.length)) "add" (.app H.length)) "i" (.int 0)) "n" (.int s.length)) H1 = some (.nx, r', H') := fun m => by
    have := k1 (m + 15)
    rw [Nat.add_assoc] at this
    rw [ex_whl]
    exact this
  have s5 : ∀ m, ex PP (m + 115) (bd_translate[4]) r' H' = some (.nx, r', H') := fun m => by
    simp [bd_translate, k2.tr.i, k2.tr.n]
  have e : bd_translate = [bd_translate[0], bd_translate[1], bd_translate[2], .whl trCond trBody, bd_translate[4], .ret (.var "res")] := rfl
  refine ⟨H.length, H', fun m => kCall_fn PP_tr rfl (by decide) ?_, k2.ex, k2.h⟩
  rw [e, show updL rnil ["pat", "STAR", "QUESTION_MARK"] [.str s, .ref st, .str [46]] = r0 from hr0, exs_step (s1 m), exs_step (s2 m), exs_step (s3 m), exs_step (s4 m), exs_step (s5 m)]
  simp [k2.tr.re]
  exact same
end Mine
end

section
set_option Elab.async false
set_option linter.all false
set_option maxRecDepth 100000
namespace Mine
open PySem PyProof.Rows
variable {H : Hp}

@[simp] theorem partsV_get (st : Nat) (ps : List Glyph) (i : Nat) : (partsV st ps)[i]? = (ps[i]?).map (partV st) := by simp [partsV]
@[simp] theorem partsV_getE (st : Nat) (ps : List Glyph) (i : Nat) (h : i < (partsV st ps).length) : (partsV st ps)[i]'h = partV st (ps[i]'(by simpa using h)) := by simp [partsV]
theorem partV_star (st : Nat) : partV st .star = .ref st := rfl
theorem partV_ne (st : Nat) {g : Glyph} (h : g ≠ .star) : partV st g = .str (reg g) := by simp [partV, h]

noncomputable def jW1 : S := bd_join_translated_parts[3]
noncomputable def jW2 : S := bd_join_translated_parts[4]
noncomputable def jB2 : List S := whlB jW2
noncomputable def jW3 : S := jB2[5]

/- texts as values -/
noncomputable def strsV (l : List (List Nat)) : List V := l.map .str
@[simp] theorem strsV_len (l : List (List Nat)) : (strsV l).length = l.length := by simp [strsV]
theorem strsV_snoc (l : List (List Nat)) (x : List Nat) : strsV l ++ [.str x] = strsV (l ++ [x]) := by simp [strsV]
theorem strsOf_strsV : ∀ l : List (List Nat), strsOf (strsV l) = some l
  | [] => rfl
  | x :: l => by rw [show strsV (x :: l) = .str x :: strsV l from rfl]; simp only [strsOf]; rw [strsOf_strsV l]; rfl
theorem glue_nil (l : List (List Nat)) : glue [] l = l.flatten := by
  match l with
  | [] => rfl
  | [x] => rfl
  | x :: y :: l =>
    have := glue_nil (y :: l)
    unfold glue at *
    rw [List.intersperse_cons_cons]
    simp only [List.flatten_cons, this, List.nil_append]
theorem joinOf_strsV (l : List (List Nat)) (h : l.flatten.length ≤ lim) : joinOf [] (strsV l) = some (.str l.flatten) := by
  have e : (l.map (·.length)).sum = l.flatten.length := by rw [List.length_flatten]
  unfold joinOf
  rw [strsOf_strsV, Option.bind_some, chk_eq, if_pos (by rw [e]; simpa using h), glue_nil]

structure JR (r : Rho) (ia st ra i n : Nat) : Prop where
  inp : r "inp" = some (.ref ia)
  st : r "STAR" = some (.ref st)
  re : r "res" = some (.ref ra)
  ad : r "add" = some (.app ra)
  i : r "i" = some (.int i)
  n : r "n" = some (.int n)
structure JF (r : Rho) (ia st ra fa i n : Nat) : Prop extends JR r ia st ra i n where
  fx : r "fixed" = some (.ref fa)

noncomputable def gPlain (g : List Glyph) : Prop := ∀ x ∈ g, x ≠ .star
/- what stands behind a run without a star -/
noncomputable def StarOrEnd (l : List Glyph) : Prop := l = [] ∨ ∃ l', l = .star :: l'

theorem drop_cons {α : Type} {l : List α} {i : Nat} {x : α} {u : List α} (h : l.drop i = x :: u) : i < l.length ∧ l[i]? = some x ∧ l.drop (i + 1) = u := by
  have hi : i < l.length := by
    rcases Nat.lt_or_ge i l.length with h' | h'
    · exact h'
    · rw [List.drop_eq_nil_of_le h'] at h; cases h
  rw [List.drop_eq_getElem_cons hi] at h
  injection h with h1 h2
  exact ⟨hi, by rw [List.getElem?_eq_getElem hi, h1], h2⟩

set_option maxHeartbeats 1000000 in
theorem collect1 {r : Rho} {ia st ra i : Nat} {ps g rest : List Glyph} {ts : List (List Nat)} (h : JR r ia st ra i ps.length) (hi : hGet H ia = some (partsV st ps)) (hr : hGet H ra = some (strsV ts)) (hne : ia ≠ ra) (hd : ps.drop i = g ++ rest) (hg : gPlain g) (hrest : StarOrEnd rest) (hl : ts.length + g.length ≤ 350) :
    ∃ r' H', (∀ m, ex PP (m + 50) jW1 r H = some (.nx, r', H')) ∧ JR r' ia st ra (i + g.length) ps.length ∧ hGet H' ra = some (strsV (ts ++ g.map reg)) ∧ Only ra H H' := by
  have W := while_rule (t := fun m => tst PP (m + 49) (whlC jW1)) (b := fun m => exs PP (m + 49) (whlB jW1)) (fun k r' H' => ∃ (us done : List Glyph) (j : Nat), k = us.length ∧ JR r' ia st ra j ps.length ∧ ps.drop j = us ++ rest ∧ gPlain us ∧ done ++ us = g ∧ j + us.length = i + g.length ∧ hGet H' ra = some (strsV (ts ++ done.map reg)) ∧ Only ra H H')
    (fun r' H' => JR r' ia st ra (i + g.length) ps.length ∧ hGet H' ra = some (strsV (ts ++ g.map reg)) ∧ Only ra H H') (fun k r1 H1 => ?_) 400 g.length r H (by (first | lia | omega)) ⟨g, [], i, rfl, h, hd, hg, rfl, rfl, by simpa using hr, .rfl'⟩
  · obtain ⟨r', H', w1, w2⟩ := W
    exact ⟨r', H', fun m => by rw [show jW1 = .whl (whlC jW1) (whlB jW1) from rfl, ex_whl, w1], w2⟩
  rintro ⟨us, done, j, rfl, h1, h2, h3, h4, h5, h6, h7⟩
  have i1 := h7.get hne
  rw [hi] at i1
  cases us with
  | nil =>
    refine .inl ⟨H1, fun m => ?_, ?_⟩
    · rcases hrest with rfl | ⟨l', rfl⟩
      · have : ps.length ≤ j := by
          have := congrArg List.length h2
          simp at this; (first | lia | omega)
        simp [jW1, whlC, bd_join_translated_parts, h1.i, h1.n, show ¬ j < ps.length by (first | lia | omega)]
      · obtain ⟨q1, q2, q3⟩ := drop_cons h2
        have q4 : ps[j] = Glyph.star := by simpa [q1] using q2
        simp [jW1, whlC, bd_join_translated_parts, h1.i, h1.n, h1.inp, h1.st, i1, q1, place_nat, q4, partV_star]
    · simp only [List.append_nil] at h4
      subst h4
      have : j = i + done.length := by simpa using h5
      rw [← this]
      exact ⟨h1, h6, h7⟩
  | cons x us =>
    obtain ⟨q1, q2, q3⟩ := drop_cons h2
    have q4 : ps[j] = x := by simpa [q1] using q2
    have hx : x ≠ .star := h3 x (List.mem_cons_self ..)
    have hts : (ts ++ done.map reg).length ≤ lim := by
      refine lim_of ?_
      have := congrArg List.length h4
      simp at this ⊢; (first | lia | omega)
    have hts' : ts.length + done.length ≤ lim := by simpa using hts
    refine .inr (.inl ⟨H1, upd r1 "i" (.int ((j : Int) + 1)), hSet H1 ra (strsV (ts ++ (done ++ [x]).map reg)), us.length, rfl, fun m => ?_, fun m => ?_, us, done ++ [x], j + 1, rfl, ?_, q3, fun y hy => h3 y (List.mem_cons_of_mem _ hy), by simpa using h4, by simp at h5; (first | lia | omega), hGet_set _ _ (hGet_lt h6), h7.trans .set⟩)
    · simp [jW1, whlC, bd_join_translated_parts, h1.i, h1.n, h1.inp, h1.st, i1, q1, place_nat, q4, partV_ne st hx]
    · simp [jW1, whlB, bd_join_translated_parts, h1.i, h1.n, h1.inp, h1.st, h1.ad, i1, h6, q1, place_nat, q4, partV_ne st hx, hts', strsV_snoc]
    · exact ⟨by first | exact h1.inp | simp [h1.inp], by first | exact h1.st | simp [h1.st], by first | exact h1.re | simp [h1.re], by first | exact h1.ad | simp [h1.ad], by simp, by first | exact h1.n | simp [h1.n]⟩

set_option maxHeartbeats 1000000 in
theorem collect2 {r : Rho} {ia st ra fa i : Nat} {ps g rest : List Glyph} {ts : List (List Nat)} (h : JF r ia st ra fa i ps.length) (hi : hGet H ia = some (partsV st ps)) (hr : hGet H fa = some (strsV ts)) (hne : ia ≠ fa) (hd : ps.drop i = g ++ rest) (hg : gPlain g) (hrest : StarOrEnd rest) (hl : ts.length + g.length ≤ 350) :
    ∃ r' H', (∀ m, ex PP (m + 50) jW3 r H = some (.nx, r', H')) ∧ JF r' ia st ra fa (i + g.length) ps.length ∧ hGet H' fa = some (strsV (ts ++ g.map reg)) ∧ Only fa H H' := by
  have W := while_rule (t := fun m => tst PP (m + 49) (whlC jW3)) (b := fun m => exs PP (m + 49) (whlB jW3)) (fun k r' H' => ∃ (us done : List Glyph) (j : Nat), k = us.length ∧ JF r' ia st ra fa j ps.length ∧ ps.drop j = us ++ rest ∧ gPlain us ∧ done ++ us = g ∧ j + us.length = i + g.length ∧ hGet H' fa = some (strsV (ts ++ done.map reg)) ∧ Only fa H H')
    (fun r' H' => JF r' ia st ra fa (i + g.length) ps.length ∧ hGet H' fa = some (strsV (ts ++ g.map reg)) ∧ Only fa H H') (fun k r1 H1 => ?_) 400 g.length r H (by (first | lia | omega)) ⟨g, [], i, rfl, h, hd, hg, rfl, rfl, by simpa using hr, .rfl'⟩
  · obtain ⟨r', H', w1, w2⟩ := W
    exact ⟨r', H', fun m => by rw [show jW3 = .whl (whlC jW3) (whlB jW3) from rfl, ex_whl, w1], w2⟩
  rintro ⟨us, done, j, rfl, h1, h2, h3, h4, h5, h6, h7⟩
  have i1 := h7.get hne
  rw [hi] at i1
  cases us with
  | nil =>
    refine .inl ⟨H1, fun m => ?_, ?_⟩
    · rcases hrest with rfl | ⟨l', rfl⟩
      · have : ps.length ≤ j := by
          have := congrArg List.length h2
          simp at this; (first | lia | omega)
        simp [jW3, jB2, jW2, whlB, whlC, bd_join_translated_parts, h1.i, h1.n, show ¬ j < ps.length by (first | lia | omega)]
      · obtain ⟨q1, q2, q3⟩ := drop_cons h2
        have q4 : ps[j] = Glyph.star := by simpa [q1] using q2
        simp [jW3, jB2, jW2, whlB, whlC, bd_join_translated_parts, h1.i, h1.n, h1.inp, h1.st, i1, q1, place_nat, q4, partV_star]
    · simp only [List.append_nil] at h4
      subst h4
      have : j = i + done.length := by simpa using h5
      rw [← this]
      exact ⟨h1, h6, h7⟩
  | cons x us =>
    obtain ⟨q1, q2, q3⟩ := drop_cons h2
    have q4 : ps[j] = x := by simpa [q1] using q2
    have hx : x ≠ .star := h3 x (List.mem_cons_self ..)
    have hts : (ts ++ done.map reg).length ≤ lim := by
      refine lim_of ?_
      have := congrArg List.length h4
      simp at this ⊢; (first | lia | omega)
    have hts' : ts.length + done.length ≤ lim := by simpa using hts
    refine .inr (.inl ⟨H1, upd r1 "i" (.int ((j : Int) + 1)), hSet H1 fa (strsV (ts ++ (done ++ [x]).map reg)), us.length, rfl, fun m => ?_, fun m => ?_, us, done ++ [x], j + 1, rfl, ?_, q3, fun y hy => h3 y (List.mem_cons_of_mem _ hy), by simpa using h4, by simp at h5; (first | lia | omega), hGet_set _ _ (hGet_lt h6), h7.trans .set⟩)
    · simp [jW3, jB2, jW2, whlB, whlC, bd_join_translated_parts, h1.i, h1.n, h1.inp, h1.st, i1, q1, place_nat, q4, partV_ne st hx]
    · simp [jW3, jB2, jW2, whlB, bd_join_translated_parts, h1.i, h1.n, h1.inp, h1.st, h1.ad, h1.fx, i1, h6, q1, place_nat, q4, partV_ne st hx, hts', strsV_snoc]
    · exact { inp := by first | exact h1.inp | simp [h1.inp], st := by first | exact h1.st | simp [h1.st], re := by first | exact h1.re | simp [h1.re], ad := by first | exact h1.ad | simp [h1.ad], i := by simp, n := by first | exact h1.n | simp [h1.n], fx := by simp [h1.fx] }
end Mine
end

section
set_option Elab.async false
set_option linter.all false
set_option maxRecDepth 100000
namespace Mine
open PySem PyProof.Rows
variable {H : Hp}

noncomputable def rtxt (g : List Glyph) : List Nat := (g.map reg).flatten
theorem reg_len (g : Glyph) : (reg g).length ≤ 5 := by cases g <;> decide
theorem rtxt_len (g : List Glyph) : (rtxt g).length ≤ 5 * g.length := by
  induction g with
  | nil => simp [rtxt]
  | cons x g ih =>
    have := reg_len x
    simp only [rtxt, List.map_cons, List.flatten_cons, List.length_append, List.length_cons] at *
    (first | lia | omega)
noncomputable def gOK : List (List Glyph) → Prop
  | [] => True
  | [g] => gPlain g
  | g :: Gs => gPlain g ∧ g ≠ [] ∧ gOK Gs
noncomputable def gFlat (Gs : List (List Glyph)) : List Glyph := Gs.flatMap fun g => Glyph.star :: g
noncomputable def gOut : List (List Glyph) → List (List Nat)
  | [] => []
  | [g] => if g = [] then [[46, 42]] else [[46, 42], rtxt g]
  | g :: Gs => ([40, 63, 62, 46, 42, 63] ++ (rtxt g ++ [41])) :: gOut Gs
theorem gFlat_se (Gs : List (List Glyph)) : StarOrEnd (gFlat Gs) := by
  cases Gs with
  | nil => exact .inl rfl
  | cons g Gs => exact .inr ⟨_, rfl⟩

noncomputable def j0 : S := jB2[0]
noncomputable def j1 : S := jB2[1]
noncomputable def j2 : S := jB2[2]
noncomputable def j3 : S := jB2[3]
noncomputable def j4 : S := jB2[4]
noncomputable def j6 : S := jB2[6]
noncomputable def j7 : S := jB2[7]
theorem jB2_eq : jB2 = [j0, j1, j2, j3, j4, jW3, j6, j7] := rfl
structure JS (H0 : Hp) (r : Rho) (H : Hp) (ia st ra : Nat) (ps : List Glyph) (i : Nat) (ts : List (List Nat)) : Prop where
  jr : JR r ia st ra i ps.length
  h : hGet H ra = some (strsV ts)
  lo : H0.length ≤ ra
  ex : Ext H0 H

set_option maxHeartbeats 2000000 in
theorem join_end {H0 : Hp} {r : Rho} {ia st ra i : Nat} {ps : List Glyph} {ts : List (List Nat)} (h : JS H0 r H ia st ra ps i ts) (hi : hGet H0 ia = some (partsV st ps)) (hd : ps.drop i = gFlat [[]]) (hl : ts.length ≤ 350) :
    ∃ r' H', (∀ m, Same (exs PP (m + 70) jB2 r H) (some (.brk, r', H'))) ∧ JS H0 r' H' ia st ra ps ps.length (ts ++ gOut [[]]) := by
  obtain ⟨h1, h2, h3, h4⟩ := h
  obtain ⟨q1, q2, q3⟩ := drop_cons hd
  have q4 : ps[i] = Glyph.star := by simpa [q1] using q2
  have hn : i + 1 = ps.length := by
    have := congrArg List.length q3
    simp at this; (first | lia | omega)
  have c1 : (i : Int) + 1 = (ps.length : Int) := by (first | lia | omega)
  have i1 := h4.get hi
  have hts : ts.length ≤ lim := lim_of (by (first | lia | omega))
  refine ⟨_, _, fun m => by simp [jB2, jW2, whlB, bd_join_translated_parts, h1.i, h1.n, h1.inp, h1.st, h1.ad, i1, q1, place_nat, q4, partV_star, c1, h2, hts]; exact same, ⟨by first | exact h1.inp | simp [h1.inp], by first | exact h1.st | simp [h1.st], by first | exact h1.re | simp [h1.re], by first | exact h1.ad | simp [h1.ad], by simp, by first | exact h1.n | simp [h1.n]⟩, ?_, h3, h4.set h3⟩
  rw [hGet_set _ _ (hGet_lt h2), strsV_snoc]
  rfl

set_option maxHeartbeats 2000000 in
theorem join_turn {H0 : Hp} {r : Rho} {ia st ra i : Nat} {ps g : List Glyph} {Gs : List (List Glyph)} {ts : List (List Nat)} (h : JS H0 r H ia st ra ps i ts) (hi : hGet H0 ia = some (partsV st ps)) (hd : ps.drop i = gFlat (g :: Gs)) (hg : gPlain g) (hne : g ≠ []) (hl : ts.length + g.length ≤ 300) :
    ∃ r' H', (∀ m, Same (exs PP (m + 70) jB2 r H) (some (.nx, r', H'))) ∧ JS H0 r' H' ia st ra ps (i + 1 + g.length) (ts ++ (gOut (g :: Gs)).take (if Gs = [] then 2 else 1)) := by
  obtain ⟨h1, h2, h3, h4⟩ := h
  have hd' : ps.drop i = Glyph.star :: (g ++ gFlat Gs) := by rw [hd]; simp [gFlat]
  obtain ⟨q1, q2, q3⟩ := drop_cons hd'
  have q4 : ps[i] = Glyph.star := by simpa [q1] using q2
  obtain ⟨x, g', rfl⟩ := List.exists_cons_of_ne_nil hne
  obtain ⟨p1, p2, p3⟩ := drop_cons (by simpa using q3)
  have p4 : ps[i + 1] = x := by simpa [p1] using p2
  have hx : x ≠ .star := hg x (List.mem_cons_self ..)
  have c1 : ¬ ((i : Int) + 1 = (ps.length : Int)) := by (first | lia | omega)
  have i1 := h4.get hi
  have hia := hGet_lt hi
  have hts : ts.length ≤ lim := lim_of (by (first | lia | omega))
  generalize hH1 : H ++ [MO.lst []] = H1
  have x1 : Ext H H1 := by rw [← hH1]; exact .app
  have f1 : hGet H1 H.length = some (strsV []) := by rw [← hH1]; exact hGet_end _ _
  have l1 : H1.length = H.length + 1 := by rw [← hH1]; simp
  have A : ∀ m, exs PP (m + 70) jB2 r H = exs PP (m + 65) [jW3, j6, j7] (upd (upd r "i" (.int ((i : Int) + 1))) "fixed" (.ref H.length)) H1 := fun m => by
    rw [jB2_eq]
    generalize [jW3, j6, j7] = L
    simp [j0, j1, j2, j3, j4, jB2, jW2, whlB, bd_join_translated_parts, h1.i, h1.n, h1.inp, h1.st, h1.ad, i1, q1, p1, place_nat, place_succ, q4, p4, partV_star, partV_ne st hx, c1, hH1]
  have J : JF (upd (upd r "i" (.int ((i : Int) + 1))) "fixed" (.ref H.length)) ia st ra H.length (i + 1) ps.length := { inp := by first | exact h1.inp | simp [h1.inp], st := by first | exact h1.st | simp [h1.st], re := by first | exact h1.re | simp [h1.re], ad := by first | exact h1.ad | simp [h1.ad], i := by simp, n := by first | exact h1.n | simp [h1.n], fx := by simp }
  have h0 := h4.1
  obtain ⟨r2, H2, w1, w2, w3, w4⟩ := collect2 (rest := gFlat Gs) (ts := []) J (x1.get i1) f1 (by (first | lia | omega)) q3 hg (gFlat_se Gs) (by simp at hl ⊢; (first | lia | omega))
  have hr := hGet_lt h2
  have r2' := w4.get (b := ra) (by (first | lia | omega))
  rw [x1.get h2] at r2'
  have x2 : Ext H0 H2 := w4.ext (h4.trans x1) (by (first | lia | omega))
  have hjl : (rtxt (x :: g')).length ≤ lim := lim_of (by have := rtxt_len (x :: g'); (first | lia | omega))
  have hj : joinOf [] (strsV ([] ++ (x :: g').map reg)) = some (.str (rtxt (x :: g'))) := by
    rw [List.nil_append]; exact joinOf_strsV _ hjl
  generalize hT : rtxt (x :: g') = T at hj hjl
  generalize hV : strsV ([] ++ (x :: g').map reg) = VV at hj w3
  have hplen : ps.length = i + 1 + (x :: g').length + (gFlat Gs).length := by
    have := congrArg List.length hd'
    simp at this ⊢; (first | lia | omega)
  have B : ∀ m, exs PP (m + 65) [jW3, j6, j7] (upd (upd r "i" (.int ((i : Int) + 1))) "fixed" (.ref H.length)) H1 = exs PP (m + 63) [j7] (upd r2 "fixed" (.str T)) H2 := fun m => by
    have w1' : ex PP (m + 64) jW3 (upd (upd r "i" (.int ((i : Int) + 1))) "fixed" (.ref H.length)) H1 = some (.nx, r2, H2) := w1 (m + 14)
    rw [exs_step w1']
    simp [j6, jB2, jW2, whlB, bd_join_translated_parts, w2.fx, w3, hj]
  have wi : r2 "i" = some (.int ((i + 1 + (x :: g').length : Nat) : Int)) := w2.i
  generalize hK : i + 1 + (x :: g').length = K at wi hplen ⊢
  have J' : JR (upd r2 "fixed" (.str T)) ia st ra K ps.length := ⟨by first | exact w2.inp | simp [w2.inp], by first | exact w2.st | simp [w2.st], by first | exact w2.re | simp [w2.re], by first | exact w2.ad | simp [w2.ad], by simp [wi], by first | exact w2.n | simp [w2.n]⟩
  have wn : r2 "n" = some (.int ps.length) := w2.n
  cases Gs with
  | nil =>
    have hKn : K = ps.length := by simp [gFlat] at hplen; (first | lia | omega)
    have hKi : (K : Int) = (ps.length : Int) := by (first | lia | omega)
    have hts1 : ts.length + 1 ≤ lim := lim_of (by (first | lia | omega))
    refine ⟨_, _, fun m => by rw [A, B]; simp [j7, jB2, jW2, whlB, bd_join_translated_parts, wi, hKi, wn, w2.ad, r2', hts, hGet_set _ _ (hGet_lt r2'), hts1]; exact same, J', ?_, h3, ?_⟩
    · rw [hGet_set _ _ (by simp; exact hGet_lt r2')]
      simp [gOut, hT, strsV]
    · exact (x2.set h3).set h3
  | cons g2 Gs =>
    have hKn : ¬ ((K : Int) = (ps.length : Int)) := by simp [gFlat] at hplen; (first | lia | omega)
    have hsum : 6 + (T.length + 1) ≤ lim := by rw [← hT]; exact lim_of (by have := rtxt_len (x :: g'); simp at this hl; (first | lia | omega))
    refine ⟨_, _, fun m => by rw [A, B]; simp [j7, jB2, jW2, whlB, bd_join_translated_parts, wi, wn, w2.ad, r2', hts, hKn, strsOf, hsum]; exact same, J', ?_, h3, ?_⟩
    · rw [hGet_set _ _ (hGet_lt r2')]
      simp [gOut, hT, strsV]
    · exact x2.set h3

noncomputable def jwCond : E := whlC jW2
theorem gOut_cons (g : List Glyph) (Gs : List (List Glyph)) (h : g ≠ []) : gOut (g :: Gs) = (gOut (g :: Gs)).take (if Gs = [] then 2 else 1) ++ gOut Gs := by
  cases Gs with
  | nil => simp [gOut, h]
  | cons g2 Gs => simp [gOut]
theorem gOut_len (g : List Glyph) (Gs : List (List Glyph)) : ((gOut (g :: Gs)).take (if Gs = [] then 2 else 1)).length ≤ 2 := by
  split <;> simp <;> (first | lia | omega)

theorem join_loop {H0 : Hp} {r : Rho} {ia st ra i : Nat} {ps : List Glyph} {ts : List (List Nat)} {Gs : List (List Glyph)} (h : JS H0 r H ia st ra ps i ts) (hi : hGet H0 ia = some (partsV st ps)) (hd : ps.drop i = gFlat Gs) (hG : gOK Gs) (hip : i ≤ ps.length) (hl : ts.length + 3 * (gFlat Gs).length ≤ 200) :
    ∃ r' H', (∀ m, whileN (tst PP (m + 70) jwCond) (exs PP (m + 70) jB2) 400 r H = some (.nx, r', H')) ∧ JS H0 r' H' ia st ra ps ps.length (ts ++ gOut Gs) := by
  refine while_rule (fun k r H => ∃ (Us : List (List Glyph)) (us : List (List Nat)) (j : Nat), k = Us.length ∧ JS H0 r H ia st ra ps j us ∧ ps.drop j = gFlat Us ∧ j ≤ ps.length ∧ gOK Us ∧ us ++ gOut Us = ts ++ gOut Gs ∧ us.length + 3 * (gFlat Us).length ≤ 200) _ (fun k r1 H1 => ?_) 400 Gs.length r H ?_ ⟨Gs, ts, i, rfl, h, hd, ?_, hG, rfl, hl⟩
  · rintro ⟨Us, us, j, rfl, h1, h2, h3, h4, h5, h6⟩
    cases Us with
    | nil =>
      have hj : j = ps.length := by
        have := congrArg List.length h2
        simp [gFlat] at this; (first | lia | omega)
      refine .inl ⟨H1, fun m => ?_, ?_⟩
      · simp [jwCond, jW2, whlC, bd_join_translated_parts, h1.jr.i, h1.jr.n, hj]
      · rw [← h5, ← hj]
        simpa [gOut, hj] using h1
    | cons g Us =>
      have hlt : j < ps.length := by
        have := congrArg List.length h2
        simp [gFlat] at this; (first | lia | omega)
      have hc : ∀ m, tst PP (m + 70) jwCond r1 H1 = some (true, H1) := fun m => by
        simp [jwCond, jW2, whlC, bd_join_translated_parts, h1.jr.i, h1.jr.n, hlt]
      by_cases hg : g = []
      · subst hg
        have hU : Us = [] := by
          cases Us with
          | nil => rfl
          | cons g2 Us => exact absurd rfl h4.2.1
        subst hU
        obtain ⟨r2, H2, a1, a2⟩ := join_end h1 hi h2 (by (first | lia | omega))
        exact .inr (.inr ⟨H1, r2, H2, hc, a1, by rw [← h5]; exact a2⟩)
      · have hp : gPlain g ∧ gOK Us := by
          cases Us with
          | nil => exact ⟨h4, trivial⟩
          | cons g2 Us => exact ⟨h4.1, h4.2.2⟩
        have hf : (gFlat (g :: Us)).length = 1 + g.length + (gFlat Us).length := by simp [gFlat]; (first | lia | omega)
        obtain ⟨r2, H2, a1, a2⟩ := join_turn h1 hi h2 hp.1 hg (by (first | lia | omega))
        have ho := gOut_len g Us
        refine .inr (.inl ⟨H1, r2, H2, Us.length, rfl, hc, a1, Us, _, _, rfl, a2, ?_, ?_, hp.2, ?_, ?_⟩)
        · rw [Nat.add_assoc, ← List.drop_drop, h2]
          simp [gFlat, Nat.add_comm 1]
        · have := congrArg List.length h2
          simp at this; (first | lia | omega)
        · rw [← h5, List.append_assoc, ← gOut_cons g Us hg]
        · rw [List.length_append]; (first | lia | omega)
  · have : Gs.length ≤ (gFlat Gs).length := by
      clear hd hG hl
      induction Gs with
      | nil => simp
      | cons g Gs ih => simp [gFlat] at ih ⊢; (first | lia | omega)
    (first | lia | omega)
  · exact hip
end Mine
end

section
set_option Elab.async false
set_option linter.all false
set_option maxRecDepth 100000
namespace Mine
open PySem PyProof.Rows
variable {H : Hp}

noncomputable def sg : List Glyph → List Glyph × List (List Glyph)
  | [] => ([], [])
  | g :: l => if g = .star then ([], (sg l).1 :: (sg l).2) else (g :: (sg l).1, (sg l).2)
theorem sg_eq : ∀ l : List Glyph, l = (sg l).1 ++ gFlat (sg l).2
  | [] => rfl
  | g :: l => by
    have ih := sg_eq l
    rw [sg]
    split
    · rename_i h; subst h
      simp only [gFlat, List.flatMap_cons, List.nil_append, List.cons_append] at *
      rw [← ih]
    · simp only [List.cons_append]
      rw [← ih]
theorem sg_plain : ∀ l : List Glyph, gPlain (sg l).1
  | [] => fun x h => by cases h
  | g :: l => by
    have ih := sg_plain l
    rw [sg]
    split
    · exact fun x h => by cases h
    · rename_i h
      intro x hx
      rcases List.mem_cons.1 hx with rfl | hx
      · exact h
      · exact ih x hx
theorem sg_plains : ∀ l : List Glyph, ∀ g ∈ (sg l).2, gPlain g
  | [], g, h => by cases h
  | x :: l, g, h => by
    have ih := sg_plains l
    rw [sg] at h
    split at h
    · rcases List.mem_cons.1 h with rfl | h
      · exact sg_plain l
      · exact ih g h
    · exact ih g h

noncomputable def ndd (l : List Glyph) : Prop := ∀ a b, l = a ++ Glyph.star :: Glyph.star :: b → False
theorem ndd_tail {g : Glyph} {l : List Glyph} (h : ndd (g :: l)) : ndd l := fun a b e => h (g :: a) b (by rw [e]; rfl)
theorem sg_ok : ∀ l : List Glyph, ndd l → gOK (sg l).2
  | [], _ => trivial
  | g :: l, h => by
    have ih := sg_ok l (ndd_tail h)
    rw [sg]
    split
    · rename_i hg; subst hg
      simp only
      have hp := sg_plain l
      cases e : (sg l).2 with
      | nil => exact hp
      | cons g2 Gs =>
        rw [e] at ih
        refine ⟨hp, fun h0 => ?_, ih⟩
        have := sg_eq l
        rw [h0, e] at this
        exact h [] (g2 ++ gFlat Gs) (by rw [this]; simp [gFlat])
    · exact ih
theorem dd_ndd_aux : ∀ (gs ps : List Glyph), ndd ps → ndd (gs.foldl ddStep ps)
  | [], ps, h => h
  | g :: gs, ps, h => by
    refine dd_ndd_aux gs (ddStep ps g) ?_
    unfold ddStep
    split
    · exact h
    · rename_i hn
      intro a b e
      rcases List.eq_nil_or_concat b with rfl | ⟨b', x, rfl⟩
      · have e' : ps ++ [g] = (a ++ [Glyph.star]) ++ [Glyph.star] := by rw [e]; simp
        have := List.append_inj' e' rfl
        obtain ⟨e1, e2⟩ := this
        injection e2 with e2
        exact hn ⟨e2, by rw [e1]; simp⟩
      · have e' : ps ++ [g] = (a ++ Glyph.star :: Glyph.star :: b') ++ [x] := by rw [e]; simp
        have := List.append_inj' e' rfl
        exact h a b' this.1
theorem dd_ndd (gs : List Glyph) : ndd (dd gs) := dd_ndd_aux gs [] (fun a b e => by
  have := congrArg List.length e
  simp at this)
theorem dd_len_aux : ∀ (gs ps : List Glyph), (gs.foldl ddStep ps).length ≤ ps.length + gs.length
  | [], ps => by simp
  | g :: gs, ps => by
    have h1 := dd_len_aux gs (ddStep ps g)
    have h2 := ddStep_len ps g
    simp only [List.foldl_cons, List.length_cons]
    (first | lia | omega)
theorem dd_len (gs : List Glyph) : (dd gs).length ≤ gs.length := by
  have := dd_len_aux gs []
  simpa [dd] using this

noncomputable def gTok : List (List Glyph) → List Tok
  | [] => []
  | [g] => .la :: g.map .gl
  | g :: Gs => .op :: (g.map .gl ++ .cl :: gTok Gs)
noncomputable def toksOf (x : List Glyph × List (List Glyph)) : List Tok := x.1.map .gl ++ gTok x.2
theorem ttext_gl (g : List Glyph) : ttext (g.map .gl) = rtxt g := by
  induction g with
  | nil => rfl
  | cons x g ih => simp only [ttext, rtxt, List.map_cons, List.flatMap_cons, List.flatten_cons, Tok.text] at *; rw [ih]
theorem ttext_app (a b : List Tok) : ttext (a ++ b) = ttext a ++ ttext b := by simp [ttext]
theorem ttext_cons (a : Tok) (b : List Tok) : ttext (a :: b) = a.text ++ ttext b := by simp [ttext]
theorem gTok_text : ∀ Gs : List (List Glyph), ttext (gTok Gs) = (gOut Gs).flatten
  | [] => rfl
  | [g] => by
    rw [gTok, ttext_cons, ttext_gl, gOut]
    split
    · rename_i h; subst h; rfl
    · simp [Tok.text]
  | g :: g2 :: Gs => by
    rw [show gTok (g :: g2 :: Gs) = .op :: (g.map .gl ++ .cl :: gTok (g2 :: Gs)) from rfl, ttext_cons, ttext_app, ttext_cons, ttext_gl, gTok_text (g2 :: Gs), show gOut (g :: g2 :: Gs) = ([40, 63, 62, 46, 42, 63] ++ (rtxt g ++ [41])) :: gOut (g2 :: Gs) from rfl]
    simp [Tok.text]
theorem good_gl : ∀ (g : List Glyph) (mk : List Nat) (ts : List Tok), gPlain g → good mk ts → good mk (g.map .gl ++ ts)
  | [], _, _, _, h => h
  | x :: g, mk, ts, hg, h => ⟨hg x (List.mem_cons_self ..), good_gl g mk ts (fun y hy => hg y (List.mem_cons_of_mem _ hy)) h⟩
theorem good_gTok : ∀ (Gs : List (List Glyph)) (mk : List Nat), (∀ g ∈ Gs, gPlain g) → good mk (gTok Gs)
  | [], _, _ => trivial
  | [g], mk, h => by
    have := good_gl g mL [] (h g (List.mem_cons_self ..)) trivial
    simpa [gTok, good] using this
  | g :: g2 :: Gs, mk, h => by
    have := good_gl g mH (.cl :: gTok (g2 :: Gs)) (h g (List.mem_cons_self ..)) ⟨rfl, good_gTok (g2 :: Gs) mS fun x hx => h x (List.mem_cons_of_mem _ hx)⟩
    simpa [gTok, good] using this
theorem good_toks (l : List Glyph) : good mF (toksOf (sg l)) := good_gl _ _ _ (sg_plain l) (good_gTok _ _ (sg_plains l))
theorem gTok_len : ∀ Gs : List (List Glyph), (gTok Gs).length ≤ 2 * (gFlat Gs).length
  | [] => by simp [gTok]
  | [g] => by simp [gTok, gFlat]; (first | lia | omega)
  | g :: g2 :: Gs => by
    have := gTok_len (g2 :: Gs)
    simp only [gTok, gFlat, List.flatMap_cons, List.length_cons, List.length_append, List.length_map] at *
    (first | lia | omega)
theorem toks_len (l : List Glyph) : (toksOf (sg l)).length ≤ 2 * l.length := by
  have h1 := gTok_len (sg l).2
  have h2 := congrArg List.length (sg_eq l)
  simp [toksOf] at *
  (first | lia | omega)
theorem tok_text_len (t : Tok) : t.text.length ≤ 6 := by
  cases t with
  | gl g => have := reg_len g; simp only [Tok.text]; (first | lia | omega)
  | op => decide
  | cl => decide
  | la => decide
theorem ttext_len : ∀ ts : List Tok, (ttext ts).length ≤ 6 * ts.length
  | [] => by simp [ttext]
  | t :: ts => by
    have h1 := tok_text_len t
    have h2 := ttext_len ts
    rw [ttext_cons]
    simp only [List.length_append, List.length_cons]
    (first | lia | omega)

set_option maxHeartbeats 1000000 in
theorem run_join {ia st : Nat} {ps : List Glyph} (hi : hGet H ia = some (partsV st ps)) (hn : ndd ps) (hl : ps.length ≤ 60) : ∃ H', (∀ m, kCall PP (m + 120) "_join_translated_parts" [.ref ia, .ref st] H = some (.str ([40, 63, 115, 58] ++ ttext (toksOf (sg ps)) ++ [41, 92, 90]), H')) ∧ Ext H H' := by
  generalize hH1 : H ++ [MO.lst []] = H1
  have g0 : hGet H1 H.length = some (strsV []) := by rw [← hH1]; exact hGet_end _ _
  have x1 : Ext H H1 := by rw [← hH1]; exact .app
  have l1 : H1.length = H.length + 1 := by rw [← hH1]; simp
  generalize hr0 : upd (upd rnil "inp" (.ref ia)) "STAR" (.ref st) = r0
  have J0 : JR (upd (upd (upd (upd r0 "res" (.ref H.length)) "add" (.app H.length)) "i" (.int 0)) "n" (.int ps.length)) ia st H.length 0 ps.length := ⟨by simp [← hr0], by simp [← hr0], by simp, by simp, by simp, by simp⟩
  have e0 := sg_eq ps
  have eL := congrArg List.length e0
  rw [List.length_append] at eL
  have hia := hGet_lt hi
  obtain ⟨r1, H2, c1, c2, c3, c4⟩ := collect1 (g := (sg ps).1) (rest := gFlat (sg ps).2) (ts := []) J0 (x1.get hi) g0 (by (first | lia | omega)) (by simpa using e0) (sg_plain ps) (gFlat_se _) (by simp; (first | lia | omega))
  have x2 : Ext H H2 := c4.ext x1 (by (first | lia | omega))
  rw [List.nil_append] at c3
  have hdrop : ps.drop (0 + (sg ps).1.length) = gFlat (sg ps).2 := by
    rw [Nat.zero_add]
    generalize (sg ps).1 = A at *
    generalize (sg ps).2 = B at *
    rw [e0]
    exact List.drop_left
  obtain ⟨r2, H3, d1, d2⟩ := join_loop (Gs := (sg ps).2) ⟨c2, c3, Nat.le_refl _, x2⟩ hi hdrop (sg_ok ps hn) (by (first | lia | omega)) (by simp; (first | lia | omega))
  have hT : ((sg ps).1.map reg ++ gOut (sg ps).2).flatten = ttext (toksOf (sg ps)) := by
    rw [List.flatten_append, toksOf, ttext_app, gTok_text, ttext_gl]; rfl
  have hTl : (ttext (toksOf (sg ps))).length ≤ 1000 := by
    have h1 := ttext_len (toksOf (sg ps))
    have h2 := toks_len ps
    (first | lia | omega)
  have hj : joinOf [] (strsV ((sg ps).1.map reg ++ gOut (sg ps).2)) = some (.str (ttext (toksOf (sg ps)))) := by
    rw [← hT]; exact joinOf_strsV _ (by rw [hT]; exact lim_of (by (first | lia | omega)))
  have dh := d2.h
  generalize strsV ((sg ps).1.map reg ++ gOut (sg ps).2) = VV at hj dh
  generalize ttext (toksOf (sg ps)) = T at hj hTl ⊢
  have s1 : ∀ m, ex PP (m + 119) (bd_join_translated_parts[0]) r0 H = some (.nx, upd r0 "res" (.ref H.length), H1) := fun m => by
    simp [bd_join_translated_parts, hH1]
  have s2 : ∀ m, ex PP (m + 118) (bd_join_translated_parts[1]) (upd r0 "res" (.ref H.length)) H1 = some (.nx, upd (upd r0 "res" (.ref H.length)) "add" (.app H.length), H1) := fun m => by
    simp [bd_join_translated_parts, g0]
  have s3 : ∀ m, ex PP (m + 117) (bd_join_translated_parts[2]) (upd (upd r0 "res" (.ref H.length)) "add" (.app H.length)) H1 = some (.nx, upd (upd (upd (upd r0 "res" (.ref H.length)) "add" (.app H.length)) "i" (.int 0)) "n" (.int ps.length), H1) := fun m => by
    simp [bd_join_translated_parts, ← hr0, x1.get hi]
  have s4 : ∀ m, ex PP (m + 116) jW1 (upd (upd (upd (upd r0 "res" (.ref H.length)) "add" (.app H.length)) "i" (.int 0)) "n" (.int ps.length)) H1 = some (.nx, r1, H2) := fun m => c1 (m + 66)
  have s5 : ∀ m, ex PP (m + 115) jW2 r1 H2 = some (.nx, r2, H3) := fun m => by
    rw [show jW2 = .whl jwCond jB2 from rfl, ex_whl]; exact d1 (m + 44)
  have s6 : ∀ m, ex PP (m + 114) (bd_join_translated_parts[5]) r2 H3 = some (.nx, r2, H3) := fun m => by
    simp [bd_join_translated_parts, d2.jr.i, d2.jr.n]
  have s7 : ∀ m, ex PP (m + 113) (bd_join_translated_parts[6]) r2 H3 = some (.nx, upd r2 "res" (.str T), H3) := fun m => by
    simp [bd_join_translated_parts, d2.jr.re, dh, hj]
  have e : bd_join_translated_parts = [bd_join_translated_parts[0], bd_join_translated_parts[1], bd_join_translated_parts[2], jW1, jW2, bd_join_translated_parts[5], bd_join_translated_parts[6], .ret (.fstr [.cS [40, 63, 115, 58], .var "res", .cS [41, 92, 90]])] := rfl
  refine ⟨H3, fun m => kCall_fn PP_join rfl (by decide) ?_, d2.ex⟩
  rw [e, show updL rnil ["inp", "STAR"] [.ref ia, .ref st] = r0 from hr0, exs_step (s1 m), exs_step (s2 m), exs_step (s3 m), exs_step (s4 m), exs_step (s5 m), exs_step (s6 m), exs_step (s7 m)]
  have hs : 4 + (T.length + 3) ≤ lim := lim_of (by (first | lia | omega))
  simp [strsOf, hs]
  exact same

set_option maxHeartbeats 1000000 in
theorem run_translate (H : Hp) (gs : List Glyph) (hl : gs.length ≤ 60) : ∃ H', (∀ m, kCall PP (m + 140) "translate" [.str (gtext gs)] H = some (.str ([40, 63, 115, 58] ++ ttext (toksOf (sg (dd gs))) ++ [41, 92, 90]), H')) ∧ Ext H H' := by
  obtain ⟨a, H1, h1, h2, h3⟩ := run_tr (H ++ [.obj false]) gs H.length (by (first | lia | omega))
  obtain ⟨H2, h4, h5⟩ := run_join h3 (dd_ndd gs) (by have := dd_len gs; (first | lia | omega))
  refine ⟨H2, fun m => kCall_fn PP_translate rfl (by decide) ?_, (Ext.app.trans h2).trans h5⟩
  simp only [List.append_assoc] at h4
  simp [bdtranslate, h1, h4]
  exact same
end Mine
end

section
set_option Elab.async false
set_option linter.all false
set_option maxRecDepth 100000
namespace Mine
open PySem PyProof.Rows
variable {H : Hp}

/- is_suburi -/
noncomputable def lastS (b : List Nat) : List Nat := b.drop (b.length - 1)
noncomputable def subB (x b y t : List Nat) : Bool := if x = y ∧ b = t then true else if x ≠ y then false else (if lastS b = [47] then b else b ++ [47]).isPrefixOf t
theorem slc_m1 (b : List Nat) : pSlc (.str b) (some (.int (-1))) none H = some (.str (lastS b), H) := by
  have : ((-1 : Int) + (b.length : Int)).toNat = b.length - 1 := by (first | lia | omega)
  simp only [pSlc, oInt_none, oInt_int, Option.bind_some, slcAt_str, slcAt_scr, pySlice, clampI, lastS]
  rw [if_pos (by (first | lia | omega)), this, List.take_length]
theorem kMth_mgr {P : Prog} {n : Nat} {m : String} {i : Nat} {H1 H2 : Hp} {vs : List V} : kMth P n m (.mgr i) H1 vs H2 = (P m).bind fun (ps, body) => if ps.length = vs.length + 1 ∧ m = "is_suburi" ∧ isMgr H1 i = true then
            (exs P n body (updL rnil ps (.mgr i :: vs)) H2).bind fun (f, _, H2) => (retOf f).map fun v => (v, H2)
          else Option.none := rfl
theorem kMth_sub {H1 : Hp} {a : Nat} {n : Nat} {vs : List V} {v : V} {H' : Hp} (hm : isMgr H1 a = true) (hl : vs.length = 2) (h : Yld (exs PP n bdis_suburi (updL rnil ["self", "base", "test"] (.mgr a :: vs)) H) v H') : kMth PP n "is_suburi" (.mgr a) H1 vs H = some (v, H') := by
  rw [kMth_mgr, PP_sub]
  exact (if_pos (c := ["self", "base", "test"].length = vs.length + 1 ∧ "is_suburi" = "is_suburi" ∧ isMgr H1 a = true) ⟨by rw [hl]; rfl, rfl, hm⟩).trans (h.elim fun r' h => by rw [h]; rfl)
theorem run_sub {H1 : Hp} {a : Nat} (x b y t : List Nat) (hm : isMgr H1 a = true) (hb : b.length ≤ 1000) (m : Nat) : kMth PP (m + 30) "is_suburi" (.mgr a) H1 [.tup [.str x, .str b], .tup [.str y, .str t]] H = some (.bool (subB x b y t), H) := by
  refine kMth_sub hm rfl ?_
  have hl : b.length + 1 ≤ lim := lim_of (by (first | lia | omega))
  unfold subB
  by_cases c1 : x = y
  · by_cases c2 : b = t
    · simp [bdis_suburi, eqS, eqW, eq1, V.str?, V.int?, V.bool?, c1, c2, same]
    · by_cases c3 : lastS b = [47]
      · simp [bdis_suburi, eqS, eqW, eq1, V.str?, V.int?, V.bool?, c1, c2, c3, slc_m1, same]
      · simp [bdis_suburi, eqS, eqW, eq1, V.str?, V.int?, V.bool?, c1, c2, c3, slc_m1, hl, same]
  · simp [bdis_suburi, eqS, eqW, eq1, V.str?, V.int?, V.bool?, c1, same]

/- a comprehension that makes things -/
theorem comp_gen {b : Nat → V → Hp → Option (Option V × Hp)} {s : Src} {H0 : Hp} {n : Nat} (R : Nat → V → Hp → Prop) (g : Nat → V) (hn : n ≤ lim)
    (hlen : ∀ H, Ext H0 H → srcLen H s = some n) (hsrc : ∀ i H, i < n → Ext H0 H → srcAt H s i = some (g i))
    (hb : ∀ i H, i < n → Ext H0 H → H0.length < H.length → ∃ v H2, (∀ m, b m (g i) H = some (some v, H2)) ∧ Ext H H2 ∧ R i v H2)
    (hst : ∀ i v H H', R i v H → Only2 H0.length H H' → R i v H') :
    ∀ k i H xs, i + k = n → Ext H0 H → hGet H H0.length = some xs → xs.length = i → (∀ j v, xs[j]? = some v → R j v H) → ∃ H' ys, (∀ m, compN s H0.length (b m) k i H = some H') ∧ Ext H0 H' ∧ hGet H' H0.length = some ys ∧ ys.length = n ∧ ∀ j v, ys[j]? = some v → R j v H'
  | 0, i, H, xs, e, h, hx, hl, hR => ⟨H, xs, fun m => by simp [compN, hlen H h, show n = i by (first | lia | omega)], h, hx, by (first | lia | omega), hR⟩
  | k + 1, i, H, xs, e, h, hx, hl, hR => by
    obtain ⟨v, H2, h1, h2, h3⟩ := hb i H (by (first | lia | omega)) h (hGet_lt hx)
    have hg := h2.get hx
    have O1 : Only2 H0.length H (hSet H2 H0.length (xs ++ [v])) := (Only2.of h2).trans .set
    obtain ⟨H', ys, k1, k2, k3, k4, k5⟩ := comp_gen R g hn hlen hsrc hb hst k (i + 1) (hSet H2 H0.length (xs ++ [v])) (xs ++ [v]) (by (first | lia | omega)) ((h.trans h2).set (Nat.le_refl _)) (hGet_set _ _ (hGet_lt hg)) (by simp [hl]) (fun j w hj => by
      by_cases hi : j < xs.length
      · rw [List.getElem?_append_left hi] at hj
        exact hst j w H _ (hR j w hj) O1
      · rw [List.getElem?_append_right (by (first | lia | omega))] at hj
        have : j - xs.length = 0 := by
          have := (List.getElem?_eq_some_iff.1 hj).1
          simp at this; (first | lia | omega)
        rw [this] at hj
        simp at hj
        subst hj
        rw [show j = i by (first | lia | omega)]
        exact hst i v H2 _ h3 .set)
    refine ⟨H', ys, fun m => ?_, k2, k3, k4, k5⟩
    simp [compN, hsrc i H (by (first | lia | omega)) h, h1, k1, hg, show xs.length ≤ lim by (first | lia | omega)]
end Mine
end

section
set_option Elab.async false
set_option linter.all false
set_option maxRecDepth 100000
namespace Mine
open PySem PyProof.Rows
variable {H : Hp}

theorem map_range {α β : Type} (xs : List α) (d : α) (f : α → β) : (List.range xs.length).map (fun i => f ((xs[i]?).getD d)) = xs.map f := by
  apply List.ext_getElem
  · simp
  · intro i h1 h2
    have : i < xs.length := by simpa using h2
    simp [this]

theorem ev_comp_list {r : Rho} {H H0 : Hp} {it elt : E} {ts fv : List String} {one : Bool} {a : Nat} {xs : List V} (f : V → V)
    (hs : ∀ m, src PP (m + 151) it r H = some (.list a, H0)) (ha : hGet H0 a = some xs) (hn : xs.length ≤ 1000)
    (hb : ∀ v H, v ∈ xs → Ext H0 H → ∃ r2 H2, bindT (rSub fv r) ts one v H = some r2 ∧ (∀ m, ev PP (m + 150) elt r2 H = some (f v, H2)) ∧ Ext H H2) :
    ∃ H', (∀ m, ev PP (m + 152) (.comp elt ts one fv it []) r H = some (.ref H0.length, H')) ∧ Ext H0 H' ∧ H0.length < H'.length ∧ hGet H' H0.length = some (xs.map f) := by
  obtain ⟨H', h1, h2, h3, h4⟩ := comp_map (P := PP) (c := 150) (elt := elt) (ts := ts) (one := one) (r := rSub fv r) (s := .list a) (H0 := H0) (n := xs.length) (fun i => f ((xs[i]?).getD .none)) (fun i => (xs[i]?).getD .none) (lim_of (by (first | lia | omega)))
    (fun H h => by simp [srcLen, h.get ha]) (fun i H hi h => by simp [srcAt, h.get ha, hi]) (fun i H hi h => by
      simp only [List.getElem?_eq_getElem hi, Option.getD_some]
      exact hb xs[i] H (List.getElem_mem hi) h)
  refine ⟨H', fun m => ?_, h2, h3, by rw [h4, map_range]⟩
  rw [ev_comp, hs m]
  exact h1 m

theorem ev_comp_up {r : Rho} {H H0 : Hp} {it elt : E} {ts fv : List String} {one : Bool} {n : Nat} (f : Nat → V)
    (hs : ∀ m, src PP (m + 151) it r H = some (.ints (rangeN n), H0)) (hn : n ≤ 1000)
    (hb : ∀ i H, i < n → Ext H0 H → ∃ r2 H2, bindT (rSub fv r) ts one (.int i) H = some r2 ∧ (∀ m, ev PP (m + 150) elt r2 H = some (f i, H2)) ∧ Ext H H2) :
    ∃ H', (∀ m, ev PP (m + 152) (.comp elt ts one fv it []) r H = some (.ref H0.length, H')) ∧ Ext H0 H' ∧ H0.length < H'.length ∧ hGet H' H0.length = some ((List.range n).map f) := by
  obtain ⟨H', h1, h2, h3, h4⟩ := comp_map (P := PP) (c := 150) (elt := elt) (ts := ts) (one := one) (r := rSub fv r) (s := .ints (rangeN n)) (H0 := H0) (n := n) f (fun i => .int i) (lim_of (by (first | lia | omega)))
    (fun H h => by simp) (fun i H hi h => srcAt_up H hi) hb
  refine ⟨H', fun m => ?_, h2, h3, h4⟩
  rw [ev_comp, hs m]
  exact h1 m

theorem ev_comp_gen {r : Rho} {H H0 : Hp} {it elt : E} {ts fv : List String} {one : Bool} {a : Nat} {xs : List V} (R : Nat → V → Hp → Prop)
    (hs : ∀ m, src PP (m + 151) it r H = some (.list a, H0)) (ha : hGet H0 a = some xs) (hn : xs.length ≤ 1000)
    (hb : ∀ i v H, xs[i]? = some v → Ext H0 H → H0.length < H.length → ∃ r2 x H2, bindT (rSub fv r) ts one v H = some r2 ∧ (∀ m, ev PP (m + 150) elt r2 H = some (x, H2)) ∧ Ext H H2 ∧ R i x H2)
    (hst : ∀ i v H H', R i v H → Only2 H0.length H H' → R i v H') :
    ∃ H' ys, (∀ m, ev PP (m + 152) (.comp elt ts one fv it []) r H = some (.ref H0.length, H')) ∧ Ext H0 H' ∧ H0.length < H'.length ∧ hGet H' H0.length = some ys ∧ ys.length = xs.length ∧ ∀ j v, ys[j]? = some v → R j v H' := by
  obtain ⟨H', ys, h1, h2, h3, h4, h5⟩ := comp_gen (b := fun m => cBody PP (m + 151) elt ts one [] (rSub fv r)) (s := .list a) (H0 := H0) (n := xs.length) R (fun i => (xs[i]?).getD .none) (lim_of (by (first | lia | omega)))
    (fun H h => by simp [srcLen, h.get ha]) (fun i H hi h => by simp [srcAt, h.get ha, hi]) (fun i H hi h hl => by
      simp only [List.getElem?_eq_getElem hi, Option.getD_some]
      obtain ⟨r2, x, H2, k1, k2, k3, k4⟩ := hb i xs[i] H (List.getElem?_eq_getElem hi) h hl
      refine ⟨x, H2, fun m => ?_, k3, k4⟩
      have k2' : ev PP (m + 151) elt r2 H = some (x, H2) := k2 (m + 1)
      simp [k1, k2']) hst xs.length 0 (H0 ++ [.lst []]) [] (by (first | lia | omega)) .app (hGet_end _ _) rfl (fun j v h => by simp at h)
  refine ⟨H', ys, fun m => ?_, h2, hGet_lt h3, h3, h4, h5⟩
  rw [ev_comp, hs m, kCo_some, show srcLen (H0 ++ [.lst []]) (.list a) = some xs.length by simp [srcLen, hGet_old H0 [.lst []] (hGet_lt ha), ha], kCo2_some, h1 m]
  rfl

theorem div_ok {a b : Int} (h0 : 0 ≤ a) (h1 : a < 1000000) (hb : 0 < b) (hb1 : b < 1000) : pBin .FloorDiv (.int a) (.int b) H = some (.int (a / b), H) := by
  have e1 : a < 1000000000 := by (first | lia | omega)
  have e2 : b < 1000000000 := by (first | lia | omega)
  rw [pBin_divI, if_pos (by rw [decide_eq_true hb, decide_eq_true h0, decide_eq_true e1, decide_eq_true e2]; rfl)]

noncomputable def ksOf (ns : List Int) : List Int := (ns.take 6).map (· % 1000000)
theorem ks_rng (ns : List Int) : ∀ k ∈ ksOf ns, 0 ≤ k ∧ k < 1000000 := by
  intro k hk
  obtain ⟨x, _, rfl⟩ := List.mem_map.1 hk
  exact ⟨by (first | lia | omega), by (first | lia | omega)⟩
theorem ks_len (ns : List Int) : (ksOf ns).length ≤ 6 := by simp [ksOf]; (first | lia | omega)
noncomputable def intsV (l : List Int) : List V := l.map .int

theorem law0 {r : Rho} {ns : List Int} (h : r "script" = some (.scr (ns.map .int))) :
    ∃ a H', (∀ m, ex PP (m + 200) (bdlaw[0]) r H = some (.nx, upd r "numbers" (.ref a), H')) ∧ Ext H H' ∧ hGet H' a = some (intsV (ksOf ns)) := by
  have hp : pySlice none (some 6) (ns.map V.int) = (ns.take 6).map .int := by
    simp [pySlice, clampI, List.map_take]
  obtain ⟨A, hA⟩ : ∃ A, A = (ns.take 6).map V.int := ⟨_, rfl⟩
  rw [← hA] at hp
  have hAl : A.length ≤ 1000 := by rw [hA]; simp; (first | lia | omega)
  generalize hX : H ++ [MO.lst A] = H1
  have hg : hGet H1 H.length = some A := by rw [← hX]; exact hGet_end _ _
  obtain ⟨H', h1, h2, h3, h4⟩ := ev_comp_list (r := r) (H := H) (H0 := H1) (it := .slc (.var "script") none (some (.cI 6))) (elt := .bin (PySem.Operator.Mod) (.var "x") (.cI 1000000)) (ts := ["x"]) (one := true) (fv := []) (a := H.length) (xs := A)
    (fun v => match v with | .int x => .int (x % 1000000) | _ => .none)
    (fun m => by simp [h, pSlc, oInt_none, oInt_int, Option.bind_some, slcAt_str, slcAt_scr, hp, hX, hg]) hg hAl
    (fun v H hv e => by
      rw [hA] at hv
      obtain ⟨x, _, rfl⟩ := List.mem_map.1 hv
      exact ⟨_, H, by rw [bindT_one], fun m => by simp, .rfl'⟩)
  refine ⟨H1.length, H', fun m => by simp [bdlaw, h1], (by rw [← hX] at h2; exact (Ext.app).trans h2), ?_⟩
  rw [h4, intsV, ksOf, hA, List.map_map, List.map_map]
  rfl

/- the pieces -/
noncomputable def glsOf (ks : List Int) : List Glyph := ks.map fun k => pieceGl (k % 8) (k / 8)
structure PieceAt (H : Hp) (v : V) (g : Glyph) (x : V) (t : List Nat) : Prop where
  v : v = .tup [.str g.text, x, .str t]
  it : ItemAt H x g.item
  pl : Plain t
  tl : t.length ≤ 2
theorem PieceAt.ext {H H' : Hp} {v x : V} {g : Glyph} {t : List Nat} (e : Ext H H') (h : PieceAt H v g x t) : PieceAt H' v g x t := ⟨h.v, h.it.ext e, h.pl, h.tl⟩
noncomputable def PiecesAt (H : Hp) (a : Nat) (gs : List Glyph) : Prop := ∃ vs, hGet H a = some vs ∧ vs.length = gs.length ∧ ∀ (i : Nat) (v : V) (g : Glyph), vs[i]? = some v → gs[i]? = some g → ∃ x t, PieceAt H v g x t
theorem PiecesAt.ext {H H' : Hp} {a : Nat} {gs : List Glyph} (e : Ext H H') : PiecesAt H a gs → PiecesAt H' a gs
  | ⟨vs, h1, h2, h3⟩ => ⟨vs, e.get h1, h2, fun i v g a b => by obtain ⟨x, t, h⟩ := h3 i v g a b; exact ⟨x, t, h.ext e⟩⟩
theorem ItemF.at' {F : Nat → Prop} {H : Hp} {v : V} : ∀ {it : Option (Bool × List (Nat × Nat))}, ItemF F H v it → ItemAt H v it
  | none, h => h
  | some (_, _), ⟨a, h1, h2, _⟩ => ⟨a, h1, h2⟩
theorem ItemF.imp {F F' : Nat → Prop} {H : Hp} {v : V} (hf : ∀ a, F a → F' a) : ∀ {it : Option (Bool × List (Nat × Nat))}, ItemF F H v it → ItemF F' H v it
  | none, h => h
  | some (_, _), ⟨a, h1, h2, h3⟩ => ⟨a, h1, h2, hf a h3⟩
theorem ItemF.only {b : Nat} {H H' : Hp} (o : Only2 b H H') {v : V} : ∀ {it : Option (Bool × List (Nat × Nat))}, ItemF (fun a => a ≠ b) H v it → ItemF (fun a => a ≠ b) H' v it
  | none, h => h
  | some (_, _), ⟨a, h1, h2, h3⟩ => ⟨a, h1, o.get h3 h2, h3⟩

theorem kSum_some {ks : List Int} (h : ∀ k ∈ ks, 0 ≤ k ∧ k < 1000000) (hl : ks.length < 1000) : kSum H (some (intsV ks)) = some (.int ks.sum, H) := by
  have e1 : ∀ l : List Int, intsOf (intsV l) = some l := by
    intro l
    induction l with
    | nil => rfl
    | cons x l ih => rw [show intsV (x :: l) = .int x :: intsV l from rfl]; simp only [intsOf]; rw [ih]; rfl
  have e2 : ks.all (fun i => decide (0 ≤ i) && decide (i < 1000000)) = true := by
    rw [List.all_eq_true]
    intro k hk
    rw [decide_eq_true (h k hk).1, decide_eq_true (h k hk).2]
    rfl
  unfold kSum
  rw [Option.bind_some, e1, Option.bind_some, if_pos (by rw [e2, decide_eq_true hl]; rfl)]

set_option maxHeartbeats 1000000 in
theorem law1 {r : Rho} {ks : List Int} {a : Nat} (h : r "numbers" = some (.ref a)) (ha : hGet H a = some (intsV ks)) (hk : ∀ k ∈ ks, 0 ≤ k ∧ k < 1000000) (hl : ks.length ≤ 6) :
    ∃ b H', (∀ m, ex PP (m + 200) (bdlaw[1]) r H = some (.nx, upd r "pieces" (.ref b), H')) ∧ Ext H H' ∧ PiecesAt H' b (glsOf ks ++ [lastGl ks.sum]) := by
  obtain ⟨H1, ys, h1, h2, h3, h4, h5, h6⟩ := ev_comp_gen (r := r) (H := H) (H0 := H) (it := .var "numbers") (elt := .callG "_law_piece" [.bin (PySem.Operator.Mod) (.var "number") (.cI 8), .bin (PySem.Operator.FloorDiv) (.var "number") (.cI 8)]) (ts := ["number"]) (one := true) (fv := []) (a := a) (xs := intsV ks)
    (fun i v H' => ∀ k, ks[i]? = some k → ∃ x t, v = .tup [.str (pieceGl (k % 8) (k / 8)).text, x, .str t] ∧ ItemF (fun a => a ≠ H.length) H' x (pieceGl (k % 8) (k / 8)).item ∧ Plain t ∧ t.length ≤ 2)
    (fun m => by simp [h, ha]) ha (by simp [intsV]; (first | lia | omega))
    (fun i v H' hi e hlt => by
      have hi' : (ks[i]?).map V.int = some v := by simpa [intsV] using hi
      cases hki : ks[i]? with
      | none => rw [hki] at hi'; cases hi'
      | some k =>
        rw [hki] at hi'
        injection hi' with hi'
        subst hi'
        have hkm := hk k (List.mem_of_getElem? hki)
        obtain ⟨x, t, H2, k1, k2, k3, k4, k5⟩ := run_piece H' (k % 8) (k / 8) (by (first | lia | omega)) (by (first | lia | omega)) (by (first | lia | omega)) (by (first | lia | omega))
        refine ⟨_, .tup [.str (pieceGl (k % 8) (k / 8)).text, x, .str t], H2, by rw [bindT_one], fun m => by simp [div_ok hkm.1 hkm.2 (show (0 : Int) < 8 by (first | lia | omega)) (show (8 : Int) < 1000 by (first | lia | omega)), k1], k2, ?_⟩
        intro k' e'
        injection e' with e'
        subst e'
        exact ⟨x, t, rfl, k3.imp (fun a h => by have h' : H'.length ≤ a := h; (first | lia | omega)), k4, k5⟩)
    (fun i v H1 H2 hR o k hki => by
      obtain ⟨x, t, q1, q2, q3, q4⟩ := hR k hki
      exact ⟨x, t, q1, q2.only o, q3, q4⟩)
  obtain ⟨x, H2, k1, k2, k3⟩ := run_last H1 ks.sum
  have hs := kSum_some (H := H1) hk (by (first | lia | omega))
  generalize hL : V.tup [.str (lastGl ks.sum).text, x, .str [97]] = L at k1
  generalize hH3 : H2 ++ [MO.lst [L]] = H3
  have y3 : hGet H3 H.length = some ys := by rw [← hH3]; exact (k2.add).get h4
  have z3 : hGet H3 H2.length = some [L] := by rw [← hH3]; exact hGet_end _ _
  have x3 : Ext H1 H3 := by rw [← hH3]; exact k2.add
  have hyl : ys.length + 1 ≤ lim := by rw [h5]; exact lim_of (by simp [intsV]; (first | lia | omega))
  generalize hH4 : H3 ++ [MO.lst (ys ++ [L])] = H4
  have x4 : Ext H1 H4 := by rw [← hH4]; exact x3.add
  have x24 : Ext H2 H4 := by rw [← hH4, ← hH3]; exact (Ext.app).add
  refine ⟨H3.length, H4, fun m => by simp [bdlaw, h1, h, h2.get ha, hs, k1, hH3, y3, z3, hyl, hH4], h2.trans x4, ys ++ [L], by rw [← hH4]; exact hGet_end _ _, by simp [h5, intsV, glsOf], ?_⟩
  intro i v g e1 e2
  have hyl' : ys.length = (glsOf ks).length := by simp [h5, intsV, glsOf]
  by_cases hi : i < ys.length
  · rw [List.getElem?_append_left hi] at e1
    rw [List.getElem?_append_left (by (first | lia | omega))] at e2
    have hki : (ks[i]?).map (fun k => pieceGl (k % 8) (k / 8)) = some g := by simpa [glsOf] using e2
    cases hk' : ks[i]? with
    | none => rw [hk'] at hki; cases hki
    | some k =>
      rw [hk'] at hki
      injection hki with hki
      subst hki
      obtain ⟨x, t, q1, q2, q3, q4⟩ := h6 i v e1 k hk'
      exact ⟨x, t, q1, q2.at'.ext x4, q3, q4⟩
  · rw [List.getElem?_append_right (by (first | lia | omega))] at e1
    rw [List.getElem?_append_right (by (first | lia | omega))] at e2
    have : i - ys.length = 0 := by
      have := (List.getElem?_eq_some_iff.1 e1).1
      simp at this; (first | lia | omega)
    rw [this] at e1
    rw [← hyl', this] at e2
    simp at e1 e2
    subst e1; subst e2
    exact ⟨x, [97], hL.symm, k3.at'.ext x24, plain_one (by decide), by decide⟩
end Mine
end

section
set_option Elab.async false
set_option linter.all false
set_option maxRecDepth 100000
namespace Mine
open PySem PyProof.Rows
variable {H : Hp}

theorem pieces_mem {vs : List V} {gs : List Glyph} (hl : vs.length = gs.length) (h : ∀ (i : Nat) (v : V) (g : Glyph), vs[i]? = some v → gs[i]? = some g → ∃ x t, PieceAt H v g x t) {v : V} (hv : v ∈ vs) : ∃ g x t, PieceAt H v g x t := by
  obtain ⟨i, hi, rfl⟩ := List.mem_iff_getElem.1 hv
  have hg : i < gs.length := by (first | lia | omega)
  obtain ⟨x, t, p⟩ := h i vs[i] gs[i] (by simp [hi]) (by simp [hg])
  exact ⟨_, x, t, p⟩

noncomputable def f0 (v : V) : V := match v with | .tup (x :: _) => x | _ => .none
noncomputable def f1 (v : V) : V := match v with | .tup (_ :: x :: _) => x | _ => .none
noncomputable def f2 (v : V) : V := match v with | .tup (_ :: _ :: x :: _) => x | _ => .none
noncomputable def t2 (v : V) : List Nat := match v with | .tup [_, _, .str t] => t | _ => []

theorem pieces_f0 {vs : List V} {gs : List Glyph} (hl : vs.length = gs.length) (h : ∀ (i : Nat) (v : V) (g : Glyph), vs[i]? = some v → gs[i]? = some g → ∃ x t, PieceAt H v g x t) : vs.map f0 = strsV (gs.map Glyph.text) := by
  apply List.ext_getElem
  · simp [hl]
  · intro i h1 h2
    have hi : i < vs.length := by simpa using h1
    have hg : i < gs.length := by (first | lia | omega)
    obtain ⟨x, t, p⟩ := h i vs[i] gs[i] (by simp [hi]) (by simp [hg])
    simp [strsV, p.v, f0]
theorem pieces_f2 {vs : List V} {gs : List Glyph} (hl : vs.length = gs.length) (h : ∀ (i : Nat) (v : V) (g : Glyph), vs[i]? = some v → gs[i]? = some g → ∃ x t, PieceAt H v g x t) : vs.map f2 = strsV (vs.map t2) := by
  apply List.ext_getElem
  · simp
  · intro i h1 h2
    have hi : i < vs.length := by simpa using h1
    obtain ⟨g, x, t, p⟩ := pieces_mem hl h (List.getElem_mem hi)
    simp [strsV, p.v, f2, t2]
theorem pieces_f1 {vs : List V} {gs : List Glyph} (hl : vs.length = gs.length) (h : ∀ (i : Nat) (v : V) (g : Glyph), vs[i]? = some v → gs[i]? = some g → ∃ x t, PieceAt H v g x t) : ItemsAt H (vs.map f1) (gs.map Glyph.item) := by
  refine ⟨by simp [hl], fun i v it h1 h2 => ?_⟩
  rw [List.getElem?_map] at h1 h2
  cases e1 : vs[i]? with
  | none => rw [e1] at h1; cases h1
  | some u =>
    cases e2 : gs[i]? with
    | none => rw [e2] at h2; cases h2
    | some g =>
      obtain ⟨x, t, p⟩ := h i u g e1 e2
      rw [e1] at h1; rw [e2] at h2
      injection h1 with h1; injection h2 with h2
      subst h1; subst h2
      rw [p.v]
      exact p.it
theorem pieces_plain {vs : List V} {gs : List Glyph} (hl : vs.length = gs.length) (h : ∀ (i : Nat) (v : V) (g : Glyph), vs[i]? = some v → gs[i]? = some g → ∃ x t, PieceAt H v g x t) : ∀ t ∈ vs.map t2, Plain t ∧ t.length ≤ 2 := by
  intro t ht
  obtain ⟨v, hv, rfl⟩ := List.mem_map.1 ht
  obtain ⟨g, x, t, p⟩ := pieces_mem hl h hv
  rw [p.v]
  exact ⟨p.pl, p.tl⟩
theorem flat_plain {l : List (List Nat)} (h : ∀ t ∈ l, Plain t ∧ t.length ≤ 2) : Plain l.flatten ∧ l.flatten.length ≤ 2 * l.length := by
  induction l with
  | nil => exact ⟨plain_nil, by simp⟩
  | cons t l ih =>
    obtain ⟨a, b⟩ := ih fun x hx => h x (List.mem_cons_of_mem _ hx)
    obtain ⟨c, d⟩ := h t (List.mem_cons_self ..)
    refine ⟨by rw [List.flatten_cons]; exact plain_app c a, ?_⟩
    simp only [List.flatten_cons, List.length_append, List.length_cons]
    (first | lia | omega)

theorem gtext_len (gs : List Glyph) : (gtext gs).length ≤ 6 * gs.length := by
  induction gs with
  | nil => simp [gtext]
  | cons g gs ih =>
    have : g.text.length ≤ 6 := by cases g <;> decide
    simp only [gtext, List.flatMap_cons, List.length_append, List.length_cons] at *
    (first | lia | omega)
theorem gtext_flat (gs : List Glyph) : (gs.map Glyph.text).flatten = gtext gs := by simp [gtext, List.flatMap]

theorem law2 {r : Rho} {b : Nat} {gs : List Glyph} (h : r "pieces" = some (.ref b)) (hp : PiecesAt H b gs) (hl : gs.length ≤ 60) :
    ∃ H', (∀ m, ex PP (m + 200) (bdlaw[2]) r H = some (.nx, upd r "pattern" (.str (gtext gs)), H')) ∧ Ext H H' := by
  obtain ⟨vs, p1, p2, p3⟩ := hp
  obtain ⟨H', h1, h2, h3, h4⟩ := ev_comp_list (r := r) (H := H) (H0 := H) (it := .var "pieces") (elt := .sub (.var "piece") (.cI 0)) (ts := ["piece"]) (one := true) (fv := []) (a := b) (xs := vs) f0
    (fun m => by simp [h, p1]) p1 (by (first | lia | omega))
    (fun v H hv e => by
      obtain ⟨g, x, t, p⟩ := pieces_mem p2 p3 hv
      exact ⟨_, H, by rw [bindT_one], fun m => by rw [p.v]; simp [f0], .rfl'⟩)
  rw [pieces_f0 p2 p3] at h4
  have hj := joinOf_strsV (gs.map Glyph.text) (by rw [gtext_flat]; exact lim_of (by have := gtext_len gs; (first | lia | omega)))
  rw [gtext_flat] at hj
  generalize strsV (gs.map Glyph.text) = VV at *
  exact ⟨H', fun m => by simp [bdlaw, h1, h4, hj], h2⟩

noncomputable def tailOf (k : Int) : List Nat := if k / 64 % 4 = 0 then [] else if k / 64 % 4 = 1 then [47] else if k / 64 % 4 = 2 then [97] else [47, 98]
theorem tail_plain (k : Int) : Plain (tailOf k) ∧ (tailOf k).length ≤ 2 := by
  unfold tailOf
  split
  · exact ⟨plain_nil, by decide⟩
  · split
    · exact ⟨plain_one (by decide), by decide⟩
    · split
      · exact ⟨plain_one (by decide), by decide⟩
      · exact ⟨plain_two (by decide) (by decide), by decide⟩

set_option maxHeartbeats 1000000 in
theorem law3 {r : Rho} {ks : List Int} {a : Nat} (h : r "numbers" = some (.ref a)) (ha : hGet H a = some (intsV ks)) (hk : ∀ k ∈ ks, 0 ≤ k ∧ k < 1000000) (hl : ks.length ≤ 6) :
    ∃ c H', (∀ m, ex PP (m + 200) (bdlaw[3]) r H = some (.nx, upd r "tails" (.ref c), H')) ∧ Ext H H' ∧ hGet H' c = some (strsV (ks.map tailOf)) := by
  obtain ⟨H', h1, h2, h3, h4⟩ := ev_comp_list (r := r) (H := H) (H0 := H) (it := .var "numbers") (elt := .sub (.lst [.cS [], .cS [47], .cS [97], .cS [47, 98]]) (.bin (PySem.Operator.Mod) (.bin (PySem.Operator.FloorDiv) (.var "number") (.cI 64)) (.cI 4))) (ts := ["number"]) (one := true) (fv := []) (a := a) (xs := intsV ks) (fun v => match v with | .int k => .str (tailOf k) | _ => .none)
    (fun m => by simp [h, ha]) ha (by simp [intsV]; (first | lia | omega))
    (fun v H hv e => by
      obtain ⟨k, hk', rfl⟩ := List.mem_map.1 hv
      have hkm := hk k hk'
      have hq : k / 64 % 4 = 0 ∨ k / 64 % 4 = 1 ∨ k / 64 % 4 = 2 ∨ k / 64 % 4 = 3 := by (first | lia | omega)
      have hg := hGet_end H [.str [], .str [47], .str [97], .str [47, 98]]
      refine ⟨_, H ++ [.lst [.str [], .str [47], .str [97], .str [47, 98]]], by rw [bindT_one], fun m => ?_, .app⟩
      rcases hq with e | e | e | e
      all_goals simp [div_ok hkm.1 hkm.2 (show (0 : Int) < 64 by (first | lia | omega)) (show (64 : Int) < 1000 by (first | lia | omega)), tailOf, e, hg, place])
  refine ⟨H.length, H', fun m => by simp [bdlaw, h1], h2, ?_⟩
  rw [h4, intsV, strsV, List.map_map, List.map_map]
  rfl

theorem slc_to (l : List Nat) (k : Nat) : pSlc (.str l) none (some (.int (k : Int))) H = some (.str (l.take k), H) := by
  simp only [pSlc, oInt_none, oInt_int, Option.bind_some, slcAt_str, slcAt_scr, pySlice, clampI_nat, List.drop_zero]
  by_cases h : k ≤ l.length
  · rw [Nat.min_eq_left h]
  · rw [Nat.min_eq_right (by (first | lia | omega)), List.take_length, List.take_of_length_le (by (first | lia | omega))]

theorem law4 {r : Rho} {b c : Nat} {gs : List Glyph} {ks : List Int} (h : r "pieces" = some (.ref b)) (hp : PiecesAt H b gs) (hl : gs.length ≤ 60) (h' : r "tails" = some (.ref c)) (hc : hGet H c = some (strsV (ks.map tailOf))) (hkl : ks.length ≤ 60) :
    ∃ w H', (∀ m, ex PP (m + 200) (bdlaw[4]) r H = some (.nx, upd r "path" (.str w), H')) ∧ Ext H H' ∧ Plain w ∧ w.length ≤ 10 := by
  obtain ⟨vs, p1, p2, p3⟩ := hp
  obtain ⟨H', h1, h2, h3, h4⟩ := ev_comp_list (r := r) (H := H) (H0 := H) (it := .var "pieces") (elt := .sub (.var "piece") (.cI 2)) (ts := ["piece"]) (one := true) (fv := []) (a := b) (xs := vs) f2
    (fun m => by simp [h, p1]) p1 (by (first | lia | omega))
    (fun v H hv e => by
      obtain ⟨g, x, t, p⟩ := pieces_mem p2 p3 hv
      exact ⟨_, H, by rw [bindT_one], fun m => by rw [p.v]; simp [f2], .rfl'⟩)
  rw [pieces_f2 p2 p3] at h4
  obtain ⟨q1, q2⟩ := flat_plain (pieces_plain p2 p3)
  obtain ⟨q3, q4⟩ := flat_plain (l := ks.map tailOf) (by intro t ht; obtain ⟨k, _, rfl⟩ := List.mem_map.1 ht; exact tail_plain k)
  rw [List.length_map] at q2 q4
  have q2' : (vs.map t2).flatten.length ≤ 200 := by (first | lia | omega)
  have q4' : (ks.map tailOf).flatten.length ≤ 200 := by (first | lia | omega)
  have hj := joinOf_strsV (vs.map t2) (lim_of (by (first | lia | omega)))
  have hj' := joinOf_strsV (ks.map tailOf) (lim_of (by (first | lia | omega)))
  generalize (vs.map t2).flatten = A at *
  generalize (ks.map tailOf).flatten = B at *
  have hc' := h2.get hc
  generalize strsV (vs.map t2) = VA at *
  generalize strsV (ks.map tailOf) = VB at *
  have hs : ∀ H, pSlc (.str (A ++ B)) none (some (.int 10)) H = some (.str ((A ++ B).take 10), H) := fun H => slc_to (A ++ B) 10
  have hlm : A.length + B.length ≤ lim := lim_of (by (first | lia | omega))
  refine ⟨(A ++ B).take 10, H', fun m => ?_, h2, fun x hx => plain_app q1 q3 x (List.mem_of_mem_take hx), by simp; (first | lia | omega)⟩
  generalize hW : (A ++ B).take 10 = W at hs
  simp [bdlaw, h1, h4, hj, h', hc', hj', hlm, hs]

theorem law5 {r : Rho} {w : List Nat} (h : r "path" = some (.str w)) (hw : w.length ≤ 10) (m : Nat) : ex PP (m + 200) (bdlaw[5]) r H = some (.nx, upd r "longer" (.str (w ++ [47])), H) := by
  have : w.length + 1 ≤ lim := lim_of (by (first | lia | omega))
  simp [bdlaw, h, this]

noncomputable def headsOf (l : List Nat) : List (List Nat) := (List.range (l.length + 1)).map fun k => l.take k
theorem law6 {r : Rho} {l : List Nat} (h : r "longer" = some (.str l)) (hl : l.length ≤ 20) :
    ∃ a H', (∀ m, ex PP (m + 200) (bdlaw[6]) r H = some (.nx, upd r "heads" (.ref a), H')) ∧ Ext H H' ∧ hGet H' a = some (strsV (headsOf l)) := by
  obtain ⟨H', h1, h2, h3, h4⟩ := ev_comp_up (r := r) (H := H) (H0 := H) (it := .callG "range" [.bin (PySem.Operator.Add) (.callG "len" [.var "longer"]) (.cI 1)]) (elt := .slc (.var "longer") none (some (.var "k"))) (ts := ["k"]) (one := true) (fv := ["longer"]) (n := l.length + 1) (fun k => .str (l.take k))
    (fun m => by simp [h, kR1_nat1 (show l.length + 1 < 1000000 by (first | lia | omega))]) (by (first | lia | omega))
    (fun i H hi e => ⟨_, H, by rw [bindT_one], fun m => by simp [h, slc_to], .rfl'⟩)
  refine ⟨H.length, H', fun m => by simp [bdlaw, h1], h2, ?_⟩
  rw [h4, strsV, headsOf, List.map_map]
  rfl

theorem law7 {r : Rho} {b : Nat} {gs : List Glyph} {l : List Nat} (h : r "pieces" = some (.ref b)) (hp : PiecesAt H b gs) (hl : gs.length ≤ 60) (h' : r "longer" = some (.str l)) (hll : l.length ≤ 20) :
    ∃ a H', (∀ m, ex PP (m + 200) (bdlaw[7]) r H = some (.nx, upd r "meant" (.ref a), H')) ∧ Ext H H' ∧ hGet H' a = some (bl ((List.range (l.length + 1)).map (meantB gs l))) := by
  obtain ⟨vs, p1, p2, p3⟩ := hp
  obtain ⟨H1, h1, h2, h3, h4⟩ := ev_comp_list (r := r) (H := H) (H0 := H) (it := .var "pieces") (elt := .sub (.var "piece") (.cI 1)) (ts := ["piece"]) (one := true) (fv := []) (a := b) (xs := vs) f1
    (fun m => by simp [h, p1]) p1 (by (first | lia | omega))
    (fun v H hv e => by
      obtain ⟨g, x, t, p⟩ := pieces_mem p2 p3 hv
      exact ⟨_, H, by rw [bindT_one], fun m => by rw [p.v]; simp [f1], .rfl'⟩)
  obtain ⟨a, H2, k1, k2, k3⟩ := run_meant (w := l) h4 ((pieces_f1 p2 p3).ext h2) (by (first | lia | omega)) (by (first | lia | omega))
  exact ⟨a, H2, fun m => by simp [bdlaw, h1, h', k1], h2.trans k3, k2⟩

noncomputable def besideB (l : List Nat) (k : Nat) : Bool := decide ((l.drop k).take 1 = [47]) || decide (lastS (l.take k) = [47])
theorem law8 {r : Rho} {l : List Nat} (h : r "longer" = some (.str l)) (hl : l.length ≤ 20) :
    ∃ a H', (∀ m, ex PP (m + 200) (bdlaw[8]) r H = some (.nx, upd r "beside" (.ref a), H')) ∧ Ext H H' ∧ hGet H' a = some (bl ((List.range l.length).map (besideB l) ++ [false])) := by
  obtain ⟨H', h1, h2, h3, h4⟩ := ev_comp_up (r := r) (H := H) (H0 := H) (it := .callG "range" [.callG "len" [.var "longer"]]) (elt := .or_ [.cmp1 (PySem.CmpOp.Eq) (.slc (.var "longer") (some (.var "k")) (some (.bin (PySem.Operator.Add) (.var "k") (.cI 1)))) (.cS [47]), .cmp1 (PySem.CmpOp.Eq) (.slc (.slc (.var "longer") none (some (.var "k"))) (some (.neg (.cI 1))) none) (.cS [47])]) (ts := ["k"]) (one := true) (fv := ["longer"]) (n := l.length) (fun k => .bool (besideB l k))
    (fun m => by simp [h, kR1_nat (show l.length < 1000000 by (first | lia | omega))]) (by (first | lia | omega))
    (fun i H hi e => ⟨_, H, by rw [bindT_one], fun m => by
      have hs : ∀ H, pSlc (.str l) (some (.int (i : Int))) (some (.int ((i : Int) + 1))) H = some (.str ((l.drop i).take 1), H) := fun H => at_slc0 (H := H) (⟨rfl, by (first | lia | omega)⟩ : At l i (l.drop i)) 1
      generalize hD : (l.drop i).take 1 = D at hs
      simp only [besideB, hD]
      by_cases c : D = [47]
      · simp [h, hs, c]
      · by_cases c2 : lastS (l.take i) = [47]
        · simp [h, hs, c, c2, slc_to, slc_m1]
        · simp [h, hs, c, c2, slc_to, slc_m1], .rfl'⟩)
  generalize hH2 : H' ++ [MO.lst [V.bool false]] = H2
  have g1 : hGet H2 H.length = some ((List.range l.length).map fun k => V.bool (besideB l k)) := by rw [← hH2]; exact (Ext.app).get h4
  have g2 : hGet H2 H'.length = some [V.bool false] := by rw [← hH2]; exact hGet_end _ _
  generalize hX : (List.range l.length).map (fun k => V.bool (besideB l k)) = X at g1 h4
  have hXl : X.length + 1 ≤ lim := by rw [← hX]; exact lim_of (by simp; (first | lia | omega))
  refine ⟨H2.length, H2 ++ [.lst (X ++ [V.bool false])], fun m => by simp [bdlaw, h1, hH2, g1, g2, hXl], (by rw [← hH2]; exact h2.add.add), ?_⟩
  rw [hGet_end, ← bl_snoc, ← hX, bl, List.map_map]
  rfl

noncomputable def runsOf (gs : List Glyph) : List (List Nat × List Glyph) := readOf (toksOf (sg (dd gs)))
theorem law9 {r : Rho} {gs : List Glyph} (h : r "pattern" = some (.str (gtext gs))) (hl : gs.length ≤ 60) :
    ∃ a H', (∀ m, ex PP (m + 200) (bdlaw[9]) r H = some (.nx, upd r "runs" (.ref a), H')) ∧ Ext H H' ∧ RunsAt H' a (runsOf gs) := by
  obtain ⟨H1, h1, h2⟩ := run_translate H gs hl
  obtain ⟨a, H2, k1, k2, k3⟩ := run_read H1 (toksOf (sg (dd gs))) (good_toks _) (by have := toks_len (dd gs); have := dd_len gs; (first | lia | omega))
  generalize [40, 63, 115, 58] ++ ttext (toksOf (sg (dd gs))) ++ [41, 92, 90] = T at h1 k1
  exact ⟨a, H2, fun m => by simp [bdlaw, h, h1, k1], h2.trans k2, k3⟩

theorem law10 {r : Rho} (m : Nat) : ex PP (m + 200) (bdlaw[10]) r H = some (.nx, upd r "manager" (.mgr H.length), H ++ [.obj true]) := by
  simp [bdlaw]
end Mine
end

section
set_option Elab.async false
set_option linter.all false
set_option maxRecDepth 100000
namespace Mine
open PySem PyProof.Rows
variable {H : Hp}

theorem strs_bl (hs : List (List Nat)) (F : List Nat → Bool) : (strsV hs).map (fun v => match v with | .str h => V.bool (F h) | _ => .none) = bl (hs.map F) := by
  rw [strsV, bl, List.map_map, List.map_map]
  rfl
theorem ev_comp_heads {r : Rho} {elt : E} {fv : List String} {a : Nat} {hs : List (List Nat)} (F : List Nat → Bool) (h : r "heads" = some (.ref a)) (ha : hGet H a = some (strsV hs)) (hn : hs.length ≤ 1000)
    (hb : ∀ h H', h ∈ hs → Ext H H' → ∃ H2, (∀ m, ev PP (m + 150) elt (upd (rSub fv r) "head" (.str h)) H' = some (.bool (F h), H2)) ∧ Ext H' H2) :
    ∃ H', (∀ m, ev PP (m + 152) (.comp elt ["head"] true fv (.var "heads") []) r H = some (.ref H.length, H')) ∧ Ext H H' ∧ H.length < H'.length ∧ hGet H' H.length = some (bl (hs.map F)) := by
  obtain ⟨H', h1, h2, h3, h4⟩ := ev_comp_list (r := r) (H := H) (H0 := H) (it := .var "heads") (elt := elt) (ts := ["head"]) (one := true) (fv := fv) (a := a) (xs := strsV hs) (fun v => match v with | .str h => V.bool (F h) | _ => .none)
    (fun m => by simp [h, ha]) ha (by simpa using hn) (fun v H hv e => by
      obtain ⟨x, hx, rfl⟩ := List.mem_map.1 hv
      obtain ⟨H2, k1, k2⟩ := hb x H hx e
      exact ⟨_, H2, by rw [bindT_one], k1, k2⟩)
  exact ⟨H', h1, h2, h3, by rw [h4, strs_bl]⟩

theorem law11 {r : Rho} {a ra : Nat} {hs : List (List Nat)} {l : List (List Nat × List Glyph)} (h : r "heads" = some (.ref a)) (ha : hGet H a = some (strsV hs)) (hn : hs.length ≤ 1000) (hr : r "runs" = some (.ref ra)) (hR : RunsAt H ra l) (hl : RunsOK l) (hw : ∀ x ∈ hs, x.length ≤ 100) :
    ∃ H', (∀ m, ex PP (m + 200) (bdlaw[11]) r H = some (.nx, upd r "takes" (.ref H.length), H')) ∧ Ext H H' ∧ H.length < H'.length ∧ hGet H' H.length = some (bl (hs.map (takesB l))) := by
  obtain ⟨H', h1, h2, h3, h4⟩ := ev_comp_heads (H := H) (r := r) (elt := .callG "_law_takes" [.var "runs", .var "head"]) (fv := ["runs"]) (takesB l) h ha hn (fun x H1 hx e => by
    obtain ⟨H2, k1, k2⟩ := run_takes (hR.ext e) hl (hw x hx)
    exact ⟨H2, fun m => by simp [hr, k1], k2⟩)
  exact ⟨H', fun m => by simp [bdlaw, h1], h2, h3, h4⟩

theorem law_sub {r : Rho} {a i : Nat} {hs : List (List Nat)} {w : List Nat} (x : List Nat) (hx : x.length ≤ 64) (h : r "heads" = some (.ref a)) (ha : hGet H a = some (strsV hs)) (hn : hs.length ≤ 1000) (hm : r "manager" = some (.mgr i)) (hi : isMgr H i = true) (hp : r "path" = some (.str w)) (hw : ∀ x ∈ hs, x.length ≤ 100) :
    ∃ H', (∀ m, ev PP (m + 152) (.comp (.meth (.var "manager") "is_suburi" [.tup [.cS x, .var "head"], .tup [.cS [104], .var "path"]]) ["head"] true ["manager", "path"] (.var "heads") []) r H = some (.ref H.length, H')) ∧ Ext H H' ∧ H.length < H'.length ∧ hGet H' H.length = some (bl (hs.map fun u => subB x u [104] w)) :=
  ev_comp_heads (H := H) (r := r) _ h ha hn (fun u H1 hu e => ⟨H1, fun m => by simp [hm, hp, lim_lit hx, run_sub x u [104] w (e.isMgr hi) (by have := hw u hu; (first | lia | omega))], .rfl'⟩)

theorem law12 {r : Rho} {a i : Nat} {hs : List (List Nat)} {w : List Nat} (h : r "heads" = some (.ref a)) (ha : hGet H a = some (strsV hs)) (hn : hs.length ≤ 1000) (hm : r "manager" = some (.mgr i)) (hi : isMgr H i = true) (hp : r "path" = some (.str w)) (hw : ∀ x ∈ hs, x.length ≤ 100) :
    ∃ H', (∀ m, ex PP (m + 200) (bdlaw[12]) r H = some (.nx, upd r "covers" (.ref H.length), H')) ∧ Ext H H' ∧ H.length < H'.length ∧ hGet H' H.length = some (bl (hs.map fun u => subB [104] u [104] w)) := by
  obtain ⟨H', h1, h2⟩ := law_sub [104] (by decide) h ha hn hm hi hp hw
  exact ⟨H', fun m => by simp [bdlaw, h1], h2⟩
theorem law13 {r : Rho} {a i : Nat} {hs : List (List Nat)} {w : List Nat} (h : r "heads" = some (.ref a)) (ha : hGet H a = some (strsV hs)) (hn : hs.length ≤ 1000) (hm : r "manager" = some (.mgr i)) (hi : isMgr H i = true) (hp : r "path" = some (.str w)) (hw : ∀ x ∈ hs, x.length ≤ 100) :
    ∃ H', (∀ m, ex PP (m + 200) (bdlaw[13]) r H = some (.nx, upd r "other" (.ref H.length), H')) ∧ Ext H H' ∧ H.length < H'.length ∧ hGet H' H.length = some (bl (hs.map fun u => subB [103] u [104] w)) := by
  obtain ⟨H', h1, h2⟩ := law_sub [103] (by decide) h ha hn hm hi hp hw
  exact ⟨H', fun m => by simp [bdlaw, h1], h2⟩

theorem slc_from1 (u : List Nat) : pSlc (.str u) (some (.int 1)) none H = some (.str (u.drop 1), H) := by
  cases u with
  | nil => rfl
  | cons c t => rw [slc_tl]; rfl
theorem slc_init' (u : List Nat) : pSlc (.str u) none (some (.int (-1))) H = some (.str (u.take (u.length - 1)), H) := by
  have : ((-1 : Int) + (u.length : Int)).toNat = u.length - 1 := by (first | lia | omega)
  simp only [pSlc, oInt_none, oInt_int, Option.bind_some, slcAt_str, slcAt_scr, pySlice, clampI, List.drop_zero]
  rw [if_pos (by (first | lia | omega)), this]

theorem law14 {r : Rho} {a i : Nat} {hs : List (List Nat)} {w : List Nat} (h : r "heads" = some (.ref a)) (ha : hGet H a = some (strsV hs)) (hn : hs.length ≤ 1000) (hm : r "manager" = some (.mgr i)) (hi : isMgr H i = true) (hp : r "path" = some (.str w)) (hw : ∀ x ∈ hs, x.length ≤ 100) :
    ∃ H', (∀ m, ex PP (m + 200) (bdlaw[14]) r H = some (.nx, upd r "strange" (.ref H.length), H')) ∧ Ext H H' ∧ H.length < H'.length ∧ hGet H' H.length = some (bl (hs.map fun u => subB [104] (99 :: u.drop 1) [104] w)) := by
  obtain ⟨H', h1, h2, h3, h4⟩ := ev_comp_heads (H := H) (r := r) (elt := .meth (.var "manager") "is_suburi" [.tup [.cS [104], .bin (PySem.Operator.Add) (.cS [99]) (.slc (.var "head") (some (.cI 1)) none)], .tup [.cS [104], .var "path"]]) (fv := ["manager", "path"]) (fun u => subB [104] (99 :: u.drop 1) [104] w) h ha hn (fun u H1 hu e => by
    have hu' := hw u hu
    obtain ⟨d, hd⟩ : ∃ d, d = u.drop 1 := ⟨_, rfl⟩
    have hs : ∀ H, pSlc (.str u) (some (.int 1)) none H = some (.str d, H) := fun H => by rw [hd]; exact slc_from1 u
    have hdl : d.length ≤ 100 := by rw [hd]; simp; (first | lia | omega)
    have hlm : 1 + d.length ≤ lim := lim_of (by (first | lia | omega))
    have k1 := fun m => run_sub (H := H1) [104] (99 :: d) [104] w (e.isMgr hi) (by simp; (first | lia | omega)) m
    refine ⟨H1, fun m => ?_, .rfl'⟩
    rw [← hd]
    simp [hm, hp, hs, hlm, k1])
  exact ⟨H', fun m => by simp [bdlaw, h1], h2, h3, h4⟩

theorem law15 {r : Rho} {a i sa : Nat} {hs : List (List Nat)} {w : List Nat} {B : List Bool} (h : r "heads" = some (.ref a)) (ha : hGet H a = some (strsV hs)) (hn : hs.length ≤ 1000) (hm : r "manager" = some (.mgr i)) (hi : isMgr H i = true) (hp : r "path" = some (.str w)) (hw : ∀ x ∈ hs, x.length ≤ 100) (hS : r "strange" = some (.ref sa)) (hB : hGet H sa = some (bl B)) (hBl : B.length ≤ 1000) :
    ∃ H', (∀ m, ex PP (m + 200) (bdlaw[15]) r H = some (.nx, r, H')) ∧ Only2 sa H H' ∧ hGet H' sa = some (bl (B ++ hs.map fun u => subB [104] (u.take (u.length - 1) ++ [99]) [104] w)) := by
  obtain ⟨H', h1, h2, h3, h4⟩ := ev_comp_heads (H := H) (r := r) (elt := .meth (.var "manager") "is_suburi" [.tup [.cS [104], .bin (PySem.Operator.Add) (.slc (.var "head") none (some (.neg (.cI 1)))) (.cS [99])], .tup [.cS [104], .var "path"]]) (fv := ["manager", "path"]) (fun u => subB [104] (u.take (u.length - 1) ++ [99]) [104] w) h ha hn (fun u H1 hu e => by
    have hu' := hw u hu
    obtain ⟨d, hd⟩ : ∃ d, d = u.take (u.length - 1) := ⟨_, rfl⟩
    have hs : ∀ H, pSlc (.str u) none (some (.int (-1))) H = some (.str d, H) := fun H => by rw [hd]; exact slc_init' u
    have hdl : d.length ≤ 100 := by rw [hd]; simp; (first | lia | omega)
    have hlm : d.length + 1 ≤ lim := lim_of (by (first | lia | omega))
    have k1 := fun m => run_sub (H := H1) [104] (d ++ [99]) [104] w (e.isMgr hi) (by simp; (first | lia | omega)) m
    refine ⟨H1, fun m => ?_, .rfl'⟩
    rw [← hd]
    simp [hm, hp, hs, hlm, k1])
  have hne : ¬ sa = H.length := by have := hGet_lt hB; (first | lia | omega)
  have hB' := h2.get hB
  generalize hX : hs.map (fun u => subB [104] (u.take (u.length - 1) ++ [99]) [104] w) = X at h4
  have hXl : B.length + X.length ≤ lim := by rw [← hX]; exact lim_of (by simp; (first | lia | omega))
  have hap : bl B ++ bl X = bl (B ++ X) := by simp [bl]
  refine ⟨hSet H' sa (bl (B ++ X)), fun m => ?_, (Only2.of h2).trans .set, hGet_set _ _ (hGet_lt hB')⟩
  have hpm : pMeth (.ref sa) "extend" [.ref H.length] H' = some (.none, hSet H' sa (bl (B ++ X))) := by
    show (if sa = H.length then none else (hGet H' sa).bind _) = _
    rw [if_neg hne, hB']
    show (hGet H' H.length).bind _ = _
    rw [h4]
    exact (if_pos (c := (bl B).length + (bl X).length ≤ lim) (by rw [bl_length, bl_length]; exact hXl)).trans (by rw [hap])
  simp [bdlaw, hS, h1, hB, hpm]

theorem law16 {r : Rho} {a : Nat} {hs : List (List Nat)} (h : r "heads" = some (.ref a)) (ha : hGet H a = some (strsV hs)) (hn : hs.length ≤ 1000) :
    ∃ H', (∀ m, ex PP (m + 200) (bdlaw[16]) r H = some (.nx, upd r "none" (.ref H.length), H')) ∧ Ext H H' ∧ H.length < H'.length ∧ hGet H' H.length = some (bl (hs.map fun _ => false)) := by
  obtain ⟨H', h1, h2, h3, h4⟩ := ev_comp_heads (H := H) (r := r) (elt := .cB false) (fv := []) (fun _ => false) h ha hn (fun u H1 hu e => ⟨H1, fun m => by simp, .rfl'⟩)
  exact ⟨H', fun m => by simp [bdlaw, h1], h2, h3, h4⟩

theorem eqS_bl : ∀ A : List Bool, eqS (bl A) (bl A) = some true
  | [] => rfl
  | a :: A => by
    have ih : eqW eq1 (bl A) (bl A) = some true := eqS_bl A
    show ((some (a == a)).bind fun c => (eqW eq1 (bl A) (bl A)).map fun d => c && d) = some true
    rw [ih, beq_self_eq_true]; rfl
theorem eq2_bl {a b : Nat} {A B : List Bool} (ha : hGet H a = some (bl A)) (hb : hGet H b = some (bl B)) (hne : a ≠ b) (he : A = B) : eq2 H (.ref a) (.ref b) = some true := by
  rw [← he] at hb
  show (if a = b then none else (hGet H a).bind _) = _
  rw [if_neg hne, ha]
  show (hGet H b).bind _ = _
  rw [hb]
  exact (if_pos rfl).trans (eqS_bl A)

theorem law17 {r : Rho} {t c o s me be no : Nat} {T C O : List Bool} (ht : r "takes" = some (.ref t)) (hc : r "covers" = some (.ref c)) (ho : r "other" = some (.ref o)) (hs : r "strange" = some (.ref s)) (hm : r "meant" = some (.ref me)) (hb : r "beside" = some (.ref be)) (hn : r "none" = some (.ref no))
    (gt : hGet H t = some (bl T)) (gc : hGet H c = some (bl C)) (go : hGet H o = some (bl O)) (gs : hGet H s = some (bl (O ++ O))) (gm : hGet H me = some (bl T)) (gb : hGet H be = some (bl C)) (gn : hGet H no = some (bl O)) (n1 : t ≠ me) (n2 : c ≠ be) (n3 : o ≠ no) (hO : O.length ≤ 1000) :
    ∃ H', (∀ m, ex PP (m + 200) (bdlaw[17]) r H = some (.nx, r, H')) ∧ Ext H H' := by
  generalize hH1 : H ++ [MO.lst [.ref t, .ref c, .ref o, .ref s]] = H1
  have x1 : Ext H H1 := by rw [← hH1]; exact .app
  have hap : bl O ++ bl O = bl (O ++ O) := by simp [bl]
  generalize hH2 : H1 ++ [MO.lst (bl (O ++ O))] = H2
  have x2 : Ext H1 H2 := by rw [← hH2]; exact .app
  generalize hH3 : H2 ++ [MO.lst [.ref me, .ref be, .ref no, .ref H1.length]] = H3
  have x3 : Ext H2 H3 := by rw [← hH3]; exact .app
  have y3 := (x1.trans x2).trans x3
  have l1 : H1.length = H.length + 1 := by rw [← hH1]; simp
  have a1 : hGet H3 H.length = some [.ref t, .ref c, .ref o, .ref s] := (x2.trans x3).get (by rw [← hH1]; exact hGet_end _ _)
  have a2 : hGet H3 H2.length = some [.ref me, .ref be, .ref no, .ref H1.length] := by rw [← hH3]; exact hGet_end _ _
  have a3 : hGet H3 H1.length = some (bl (O ++ O)) := x3.get (by rw [← hH2]; exact hGet_end _ _)
  have q1 := eq2_bl (y3.get gt) (y3.get gm) n1 rfl
  have q2 := eq2_bl (y3.get gc) (y3.get gb) n2 rfl
  have q3 := eq2_bl (y3.get go) (y3.get gn) n3 rfl
  have q4 := eq2_bl (y3.get gs) a3 (by have := hGet_lt gs; (first | lia | omega)) rfl
  have hlm : O.length + O.length ≤ lim := lim_of (by (first | lia | omega))
  have hE : eqLst H3 [.ref t, .ref c, .ref o, .ref s] [.ref me, .ref be, .ref no, .ref H1.length] = some true := by
    simp [eqLst, eqW, q1, q2, q3, q4]
  refine ⟨H3, fun m => ?_, y3⟩
  simp [bdlaw, ht, hc, ho, hs, hH1, hm, hb, hn, x1.get gn, hlm, hap, hH2, hH3, a1, a2, hE]

theorem gtext_app (a b : List Glyph) : gtext (a ++ b) = gtext a ++ gtext b := by simp [gtext]
theorem law18 {r : Rho} {gs : List Glyph} {w : List Nat} (h : r "pattern" = some (.str (gtext gs))) (hp : r "path" = some (.str w)) (hl : gs.length ≤ 50) (hw : w.length ≤ 100) (hR : RunsOK (runsOf (gs ++ [.slash, .star]))) :
    ∃ H', (∀ m, ex PP (m + 200) (bdlaw[18]) r H = some (.nx, upd r "below" (.bool (takesB (runsOf (gs ++ [.slash, .star])) w)), H')) ∧ Ext H H' := by
  have e : gtext (gs ++ [.slash, .star]) = gtext gs ++ [47, 42] := gtext_app gs _
  obtain ⟨H1, h1, h2⟩ := run_translate H (gs ++ [.slash, .star]) (by simp; (first | lia | omega))
  obtain ⟨a, H2, k1, k2, k3⟩ := run_read H1 (toksOf (sg (dd (gs ++ [.slash, .star])))) (good_toks _) (by have := toks_len (dd (gs ++ [.slash, .star])); have := dd_len (gs ++ [.slash, .star]); simp at *; (first | lia | omega))
  obtain ⟨H3, j1, j2⟩ := run_takes k3 hR hw
  rw [e] at h1
  generalize [40, 63, 115, 58] ++ ttext (toksOf (sg (dd (gs ++ [.slash, .star])))) ++ [41, 92, 90] = T at h1 k1
  change ∀ m, _ = some (V.bool (takesB (runsOf (gs ++ [.slash, .star])) w), H3) at j1
  generalize takesB (runsOf (gs ++ [.slash, .star])) w = B at *
  have hlm : (gtext gs).length + 2 ≤ lim := lim_of (by have := gtext_len gs; (first | lia | omega))
  exact ⟨H3, fun m => by simp [bdlaw, h, hp, hlm, h1, k1, j1], (h2.trans k2).trans j2⟩

noncomputable def treeB (T C : List Bool) (n : Nat) : Bool := (List.range n).any fun k => (T[k]?).getD false && (C[k]?).getD false
set_option maxHeartbeats 1000000 in
theorem law19 {r : Rho} {a t c : Nat} {hs : List (List Nat)} {T C : List Bool} (h : r "heads" = some (.ref a)) (ha : hGet H a = some (strsV hs)) (hn : hs.length ≤ 1000) (ht : r "takes" = some (.ref t)) (gt : hGet H t = some (bl T)) (hc : r "covers" = some (.ref c)) (gc : hGet H c = some (bl C)) (hT : T.length = hs.length) (hC : C.length = hs.length) :
    ∃ H', (∀ m, ex PP (m + 200) (bdlaw[19]) r H = some (.nx, upd r "tree" (.bool (treeB T C hs.length)), H')) ∧ Ext H H' := by
  obtain ⟨H', h1, h2, h3, h4⟩ := comp_run (P := PP) (c := 151) (elt := .var "k") (ts := ["k"]) (one := true) (ifs := [.and_ [.sub (.var "takes") (.var "k"), .sub (.var "covers") (.var "k")]]) (r := rSub ["covers", "takes"] r) (s := .ints (rangeN hs.length)) (H0 := H) (n := hs.length)
    (fun i => if (T[i]?).getD false && (C[i]?).getD false then some (.int i) else none) (fun i => .int i) (lim_of (by (first | lia | omega))) (fun H h => by simp) (fun i H hi h => srcAt_up H hi) (fun i H' hi e => ⟨H', fun m => by
      have i1 : i < T.length := by (first | lia | omega)
      have i2 : i < C.length := by (first | lia | omega)
      have e1 : T[i]? = some T[i] := by simp [i1]
      have e2 : C[i]? = some C[i] := by simp [i2]
      rw [e1, e2]
      cases c1 : T[i] with
      | false => simp [ht, e.get gt, i1, place_nat, c1]
      | true =>
        cases c2 : C[i] with
        | false => simp [ht, hc, e.get gt, e.get gc, i1, i2, place_nat, c1, c2]
        | true => simp [ht, hc, e.get gt, e.get gc, i1, i2, place_nat, c1, c2], .rfl'⟩)
  have hev : ∀ m, ev PP (m + 152) (.comp (.var "k") ["k"] true ["covers", "takes"] (.callG "range" [.callG "len" [.var "heads"]]) [.and_ [.sub (.var "takes") (.var "k"), .sub (.var "covers") (.var "k")]]) r H = some (.ref H.length, H') := fun m => by
    rw [ev_comp, show src PP (m + 151) (.callG "range" [.callG "len" [.var "heads"]]) r H = some (.ints (rangeN hs.length), H) by simp [h, ha, kR1_nat (show hs.length < 1000000 by (first | lia | omega))]]
    exact h1 m
  have hE : ((List.range hs.length).filterMap fun (i : Nat) => if (T[i]?).getD false && (C[i]?).getD false then some (V.int i) else none).isEmpty = !treeB T C hs.length := by
    rw [Bool.eq_iff_iff, List.isEmpty_iff, List.filterMap_eq_nil_iff, treeB]
    simp only [Bool.not_eq_true', List.any_eq_false]
    refine forall_congr' fun i => forall_congr' fun hi => ?_
    cases ((T[i]?).getD false && (C[i]?).getD false) <;> simp
  generalize ((List.range hs.length).filterMap fun (i : Nat) => if (T[i]?).getD false && (C[i]?).getD false then some (V.int i) else none) = X at *
  refine ⟨H' ++ [.lst []], fun m => ?_, h2.add⟩
  simp [bdlaw, hev, hGet_old H' [.lst []] h3, h4, hGet_end]
  rw [hE]
  simp

theorem law20 {r : Rho} {t : Nat} {T : List Bool} {w : List Nat} {b1 B Y : Bool} (ht : r "takes" = some (.ref t)) (gt : hGet H t = some (bl T)) (hp : r "path" = some (.str w)) (hb : r "below" = some (.bool B)) (hy : r "tree" = some (.bool Y)) (hT : T[w.length]? = some b1) (m : Nat) : ex PP (m + 200) (bdlaw[20]) r H = some (.ret (.bool ((b1 || B) == Y)), r, H) := by
  have hlt : w.length < T.length := (List.getElem?_eq_some_iff.1 hT).1
  have hT' : T[w.length] = b1 := by simpa [hlt] using hT
  cases b1
  · simp [bdlaw, ht, gt, hp, hb, hy, place_nat, hlt, hT']
  · simp [bdlaw, ht, gt, hp, hb, hy, place_nat, hlt, hT']
end Mine
end

section
set_option Elab.async false
set_option linter.all false
set_option maxRecDepth 100000
namespace Mine
open PySem PyProof.Rows

theorem bdlaw_eq : bdlaw = [bdlaw[0], bdlaw[1], bdlaw[2], bdlaw[3], bdlaw[4], bdlaw[5], bdlaw[6], bdlaw[7], bdlaw[8], bdlaw[9], bdlaw[10], bdlaw[11], bdlaw[12], bdlaw[13], bdlaw[14], bdlaw[15], bdlaw[16], bdlaw[17], bdlaw[18], bdlaw[19], bdlaw[20]] := rfl

noncomputable def glsAll (ns : List Int) : List Glyph := glsOf (ksOf ns) ++ [lastGl (ksOf ns).sum]

/- what the plain law says -/
structure PlainLaw (gs : List Glyph) (w : List Nat) : Prop where
  F1 : (headsOf (w ++ [47])).map (takesB (runsOf gs)) = (List.range ((w ++ [47]).length + 1)).map (meantB gs (w ++ [47]))
  F2 : (headsOf (w ++ [47])).map (fun u => subB [104] u [104] w) = (List.range (w ++ [47]).length).map (besideB (w ++ [47])) ++ [false]
  F3 : (headsOf (w ++ [47])).map (fun u => subB [103] u [104] w) = (headsOf (w ++ [47])).map (fun _ => false)
  F4 : (headsOf (w ++ [47])).map (fun u => subB [104] (99 :: u.drop 1) [104] w) = (headsOf (w ++ [47])).map (fun _ => false)
  F5 : (headsOf (w ++ [47])).map (fun u => subB [104] (u.take (u.length - 1) ++ [99]) [104] w) = (headsOf (w ++ [47])).map (fun _ => false)
  F6 : RunsOK (runsOf gs)
  F7 : RunsOK (runsOf (gs ++ [.slash, .star]))
  F8 : (takesB (runsOf gs) w || takesB (runsOf (gs ++ [.slash, .star])) w) = treeB ((headsOf (w ++ [47])).map (takesB (runsOf gs))) ((headsOf (w ++ [47])).map (fun u => subB [104] u [104] w)) (headsOf (w ++ [47])).length

theorem heads_len (l : List Nat) : (headsOf l).length = l.length + 1 := by simp [headsOf]
theorem heads_mem {l u : List Nat} (h : u ∈ headsOf l) : u.length ≤ l.length := by
  obtain ⟨k, _, rfl⟩ := List.mem_map.1 h
  simp; omega

set_option maxHeartbeats 4000000 in
theorem run_law (ns : List Int) (PL : ∀ w, Plain w → w.length ≤ 10 → PlainLaw (glsAll ns) w) : ∃ r' H', exs PP 300 bdlaw (updL rnil ["script"] [.scr (ns.map .int)]) [] = some (.ret (.bool true), r', H') := by
  have hkl := ks_len ns
  have hkr := ks_rng ns
  have hgl : (glsAll ns).length ≤ 7 := by simp [glsAll, glsOf]; (first | lia | omega)
  rw [show updL rnil ["script"] [.scr (ns.map .int)] = upd rnil "script" (.scr (ns.map .int)) from rfl]
  obtain ⟨a0, H0, s0, x0, g0⟩ := law0 (H := []) (r := (upd rnil "script" (.scr (ns.map .int)))) (ns := ns) (by first | kernel_rfl | simp)
  obtain ⟨b, H1, s1, x1, p1⟩ := law1 (r := (upd (upd rnil "script" (.scr (ns.map .int))) "numbers" (.ref a0))) (by first | kernel_rfl | simp) g0 hkr hkl
  change PiecesAt H1 b (glsAll ns) at p1
  obtain ⟨H2, s2, x2⟩ := law2 (r := (upd (upd (upd rnil "script" (.scr (ns.map .int))) "numbers" (.ref a0)) "pieces" (.ref b))) (by first | kernel_rfl | simp) p1 (by (first | lia | omega))
  obtain ⟨c, H3, s3, x3, g3⟩ := law3 (r := (upd (upd (upd (upd rnil "script" (.scr (ns.map .int))) "numbers" (.ref a0)) "pieces" (.ref b)) "pattern" (.str (gtext (glsAll ns))))) (by first | kernel_rfl | simp) ((x1.trans x2).get g0) hkr hkl
  obtain ⟨w, H4, s4, x4, hw1, hw2⟩ := law4 (r := (upd (upd (upd (upd (upd rnil "script" (.scr (ns.map .int))) "numbers" (.ref a0)) "pieces" (.ref b)) "pattern" (.str (gtext (glsAll ns)))) "tails" (.ref c))) (by first | kernel_rfl | simp) (p1.ext (x2.trans x3)) (by (first | lia | omega)) (by first | kernel_rfl | simp) g3 (by (first | lia | omega))
  obtain ⟨F1, F2, F3, F4, F5, F6, F7, F8⟩ := PL w hw1 hw2
  have s5 := law5 (H := H4) (r := (upd (upd (upd (upd (upd (upd rnil "script" (.scr (ns.map .int))) "numbers" (.ref a0)) "pieces" (.ref b)) "pattern" (.str (gtext (glsAll ns)))) "tails" (.ref c)) "path" (.str w))) (w := w) (by first | kernel_rfl | simp) hw2
  have hL : (w ++ [47]).length = w.length + 1 := by simp
  have hTw : ((headsOf (w ++ [47])).map (takesB (runsOf (glsAll ns))))[w.length]? = some (takesB (runsOf (glsAll ns)) w) := by
    have : w.length < w.length + 1 + 1 := by (first | lia | omega)
    simp [headsOf, this]
  generalize hl : w ++ [47] = l at *
  obtain ⟨ha, H6, s6, x6, g6⟩ := law6 (l := l) (H := H4) (r := (upd (upd (upd (upd (upd (upd (upd rnil "script" (.scr (ns.map .int))) "numbers" (.ref a0)) "pieces" (.ref b)) "pattern" (.str (gtext (glsAll ns)))) "tails" (.ref c)) "path" (.str w)) "longer" (.str l))) (by first | kernel_rfl | simp) (by (first | lia | omega))
  obtain ⟨me, H7, s7, x7, g7⟩ := law7 (l := l) (r := (upd (upd (upd (upd (upd (upd (upd (upd rnil "script" (.scr (ns.map .int))) "numbers" (.ref a0)) "pieces" (.ref b)) "pattern" (.str (gtext (glsAll ns)))) "tails" (.ref c)) "path" (.str w)) "longer" (.str l)) "heads" (.ref ha))) (by first | kernel_rfl | simp) (p1.ext (x2.trans (x3.trans (x4.trans x6)))) (by (first | lia | omega)) (by first | kernel_rfl | simp) (by (first | lia | omega))
  obtain ⟨be, H8, s8, x8, g8⟩ := law8 (l := l) (H := H7) (r := (upd (upd (upd (upd (upd (upd (upd (upd (upd rnil "script" (.scr (ns.map .int))) "numbers" (.ref a0)) "pieces" (.ref b)) "pattern" (.str (gtext (glsAll ns)))) "tails" (.ref c)) "path" (.str w)) "longer" (.str l)) "heads" (.ref ha)) "meant" (.ref me))) (by first | kernel_rfl | simp) (by (first | lia | omega))
  obtain ⟨ra, H9, s9, x9, g9⟩ := law9 (H := H8) (r := (upd (upd (upd (upd (upd (upd (upd (upd (upd (upd rnil "script" (.scr (ns.map .int))) "numbers" (.ref a0)) "pieces" (.ref b)) "pattern" (.str (gtext (glsAll ns)))) "tails" (.ref c)) "path" (.str w)) "longer" (.str l)) "heads" (.ref ha)) "meant" (.ref me)) "beside" (.ref be))) (gs := glsAll ns) (by first | kernel_rfl | simp) (by (first | lia | omega))
  have s10 := law10 (H := H9) (r := (upd (upd (upd (upd (upd (upd (upd (upd (upd (upd (upd rnil "script" (.scr (ns.map .int))) "numbers" (.ref a0)) "pieces" (.ref b)) "pattern" (.str (gtext (glsAll ns)))) "tails" (.ref c)) "path" (.str w)) "longer" (.str l)) "heads" (.ref ha)) "meant" (.ref me)) "beside" (.ref be)) "runs" (.ref ra)))
  have hm10 : isMgr (H9 ++ [.obj true]) H9.length = true := by simp [isMgr]
  have x10 : Ext H9 (H9 ++ [.obj true]) := .app
  generalize H9 ++ [MO.obj true] = H10 at s10 hm10 x10
  have hhl := heads_len l
  have hhm : ∀ u ∈ headsOf l, u.length ≤ 100 := fun u hu => by have := heads_mem hu; (first | lia | omega)
  have hhn : (headsOf l).length ≤ 1000 := by (first | lia | omega)
  have gh := (x7.trans (x8.trans (x9.trans x10))).get g6
  obtain ⟨H11, s11, x11, y11, g11⟩ := law11 (l := runsOf (glsAll ns)) (H := H10) (r := (upd (upd (upd (upd (upd (upd (upd (upd (upd (upd (upd (upd rnil "script" (.scr (ns.map .int))) "numbers" (.ref a0)) "pieces" (.ref b)) "pattern" (.str (gtext (glsAll ns)))) "tails" (.ref c)) "path" (.str w)) "longer" (.str l)) "heads" (.ref ha)) "meant" (.ref me)) "beside" (.ref be)) "runs" (.ref ra)) "manager" (.mgr H9.length))) (by first | kernel_rfl | simp) gh hhn (by first | kernel_rfl | simp) (g9.ext x10) F6 hhm
  have gh1 := x11.get gh
  obtain ⟨H12, s12, x12, y12, g12⟩ := law12 (w := w) (H := H11) (r := (upd (upd (upd (upd (upd (upd (upd (upd (upd (upd (upd (upd (upd rnil "script" (.scr (ns.map .int))) "numbers" (.ref a0)) "pieces" (.ref b)) "pattern" (.str (gtext (glsAll ns)))) "tails" (.ref c)) "path" (.str w)) "longer" (.str l)) "heads" (.ref ha)) "meant" (.ref me)) "beside" (.ref be)) "runs" (.ref ra)) "manager" (.mgr H9.length)) "takes" (.ref H10.length))) (by first | kernel_rfl | simp) gh1 hhn (by first | kernel_rfl | simp) (x11.isMgr hm10) (by first | kernel_rfl | simp) hhm
  have gh2 := x12.get gh1
  obtain ⟨H13, s13, x13, y13, g13⟩ := law13 (w := w) (H := H12) (r := (upd (upd (upd (upd (upd (upd (upd (upd (upd (upd (upd (upd (upd (upd rnil "script" (.scr (ns.map .int))) "numbers" (.ref a0)) "pieces" (.ref b)) "pattern" (.str (gtext (glsAll ns)))) "tails" (.ref c)) "path" (.str w)) "longer" (.str l)) "heads" (.ref ha)) "meant" (.ref me)) "beside" (.ref be)) "runs" (.ref ra)) "manager" (.mgr H9.length)) "takes" (.ref H10.length)) "covers" (.ref H11.length))) (by first | kernel_rfl | simp) gh2 hhn (by first | kernel_rfl | simp) ((x11.trans x12).isMgr hm10) (by first | kernel_rfl | simp) hhm
  have gh3 := x13.get gh2
  have m13 := (x11.trans (x12.trans x13)).isMgr hm10
  obtain ⟨H14, s14, x14, y14, g14⟩ := law14 (w := w) (H := H13) (r := (upd (upd (upd (upd (upd (upd (upd (upd (upd (upd (upd (upd (upd (upd (upd rnil "script" (.scr (ns.map .int))) "numbers" (.ref a0)) "pieces" (.ref b)) "pattern" (.str (gtext (glsAll ns)))) "tails" (.ref c)) "path" (.str w)) "longer" (.str l)) "heads" (.ref ha)) "meant" (.ref me)) "beside" (.ref be)) "runs" (.ref ra)) "manager" (.mgr H9.length)) "takes" (.ref H10.length)) "covers" (.ref H11.length)) "other" (.ref H12.length))) (by first | kernel_rfl | simp) gh3 hhn (by first | kernel_rfl | simp) m13 (by first | kernel_rfl | simp) hhm
  have gh4 := x14.get gh3
  obtain ⟨H15, s15, x15, g15⟩ := law15 (w := w) (H := H14) (r := (upd (upd (upd (upd (upd (upd (upd (upd (upd (upd (upd (upd (upd (upd (upd (upd rnil "script" (.scr (ns.map .int))) "numbers" (.ref a0)) "pieces" (.ref b)) "pattern" (.str (gtext (glsAll ns)))) "tails" (.ref c)) "path" (.str w)) "longer" (.str l)) "heads" (.ref ha)) "meant" (.ref me)) "beside" (.ref be)) "runs" (.ref ra)) "manager" (.mgr H9.length)) "takes" (.ref H10.length)) "covers" (.ref H11.length)) "other" (.ref H12.length)) "strange" (.ref H13.length))) (by first | kernel_rfl | simp) gh4 hhn (by first | kernel_rfl | simp) (x14.isMgr m13) (by first | kernel_rfl | simp) hhm (by first | kernel_rfl | simp) g14 (by simp; (first | lia | omega))
  have y10 := hGet_lt gh
  have gh5 := x15.get (by (first | lia | omega)) gh4
  have gt5 := x15.get (by (first | lia | omega)) ((x12.trans (x13.trans x14)).get g11)
  have gc5 := x15.get (by (first | lia | omega)) ((x13.trans x14).get g12)
  have go5 := x15.get (by (first | lia | omega)) (x14.get g13)
  have lm := hGet_lt g7
  have lb := hGet_lt g8
  have e78 := x8.1
  have e89 := x9.1
  have e910 := x10.1
  have gm5 := x15.get (by (first | lia | omega)) ((x8.trans (x9.trans (x10.trans (x11.trans (x12.trans (x13.trans x14)))))).get g7)
  have gb5 := x15.get (by (first | lia | omega)) ((x9.trans (x10.trans (x11.trans (x12.trans (x13.trans x14))))).get g8)
  obtain ⟨H16, s16, x16, y16, g16⟩ := law16 (H := H15) (r := (upd (upd (upd (upd (upd (upd (upd (upd (upd (upd (upd (upd (upd (upd (upd (upd rnil "script" (.scr (ns.map .int))) "numbers" (.ref a0)) "pieces" (.ref b)) "pattern" (.str (gtext (glsAll ns)))) "tails" (.ref c)) "path" (.str w)) "longer" (.str l)) "heads" (.ref ha)) "meant" (.ref me)) "beside" (.ref be)) "runs" (.ref ra)) "manager" (.mgr H9.length)) "takes" (.ref H10.length)) "covers" (.ref H11.length)) "other" (.ref H12.length)) "strange" (.ref H13.length))) (by first | kernel_rfl | simp) gh5 hhn
  have e15 := x15.1
  rw [F1] at gt5 g11 hTw F8
  rw [F2] at gc5 F8
  rw [F3] at go5
  rw [F4, F5] at g15
  obtain ⟨H17, s17, x17⟩ := law17 (H := H16) (r := (upd (upd (upd (upd (upd (upd (upd (upd (upd (upd (upd (upd (upd (upd (upd (upd (upd rnil "script" (.scr (ns.map .int))) "numbers" (.ref a0)) "pieces" (.ref b)) "pattern" (.str (gtext (glsAll ns)))) "tails" (.ref c)) "path" (.str w)) "longer" (.str l)) "heads" (.ref ha)) "meant" (.ref me)) "beside" (.ref be)) "runs" (.ref ra)) "manager" (.mgr H9.length)) "takes" (.ref H10.length)) "covers" (.ref H11.length)) "other" (.ref H12.length)) "strange" (.ref H13.length)) "none" (.ref H15.length))) (by first | kernel_rfl | simp) (by first | kernel_rfl | simp) (by first | kernel_rfl | simp) (by first | kernel_rfl | simp) (by first | kernel_rfl | simp) (by first | kernel_rfl | simp) (by first | kernel_rfl | simp) (x16.get gt5) (x16.get gc5) (x16.get go5) (x16.get g15) (x16.get gm5) (x16.get gb5) g16 (by (first | lia | omega)) (by (first | lia | omega)) (by (first | lia | omega)) (by simp; (first | lia | omega))
  obtain ⟨H18, s18, x18⟩ := law18 (H := H17) (r := (upd (upd (upd (upd (upd (upd (upd (upd (upd (upd (upd (upd (upd (upd (upd (upd (upd rnil "script" (.scr (ns.map .int))) "numbers" (.ref a0)) "pieces" (.ref b)) "pattern" (.str (gtext (glsAll ns)))) "tails" (.ref c)) "path" (.str w)) "longer" (.str l)) "heads" (.ref ha)) "meant" (.ref me)) "beside" (.ref be)) "runs" (.ref ra)) "manager" (.mgr H9.length)) "takes" (.ref H10.length)) "covers" (.ref H11.length)) "other" (.ref H12.length)) "strange" (.ref H13.length)) "none" (.ref H15.length))) (gs := glsAll ns) (w := w) (by first | kernel_rfl | simp) (by first | kernel_rfl | simp) (by (first | lia | omega)) (by (first | lia | omega)) F7
  have z18 := x16.trans (x17.trans x18)
  obtain ⟨H19, s19, x19⟩ := law19 (H := H18) (r := (upd (upd (upd (upd (upd (upd (upd (upd (upd (upd (upd (upd (upd (upd (upd (upd (upd (upd rnil "script" (.scr (ns.map .int))) "numbers" (.ref a0)) "pieces" (.ref b)) "pattern" (.str (gtext (glsAll ns)))) "tails" (.ref c)) "path" (.str w)) "longer" (.str l)) "heads" (.ref ha)) "meant" (.ref me)) "beside" (.ref be)) "runs" (.ref ra)) "manager" (.mgr H9.length)) "takes" (.ref H10.length)) "covers" (.ref H11.length)) "other" (.ref H12.length)) "strange" (.ref H13.length)) "none" (.ref H15.length)) "below" (.bool (takesB (runsOf (glsAll ns ++ [.slash, .star])) w)))) (by first | kernel_rfl | simp) (z18.get gh5) hhn (by first | kernel_rfl | simp) (z18.get gt5) (by first | kernel_rfl | simp) (z18.get gc5) (by simp; (first | lia | omega)) (by simp; (first | lia | omega))
  rw [← F8] at s19
  have s20 := law20 (w := w) (B := takesB (runsOf (glsAll ns ++ [.slash, .star])) w) (Y := takesB (runsOf (glsAll ns)) w || takesB (runsOf (glsAll ns ++ [.slash, .star])) w) (H := H19) (r := (upd (upd (upd (upd (upd (upd (upd (upd (upd (upd (upd (upd (upd (upd (upd (upd (upd (upd (upd rnil "script" (.scr (ns.map .int))) "numbers" (.ref a0)) "pieces" (.ref b)) "pattern" (.str (gtext (glsAll ns)))) "tails" (.ref c)) "path" (.str w)) "longer" (.str l)) "heads" (.ref ha)) "meant" (.ref me)) "beside" (.ref be)) "runs" (.ref ra)) "manager" (.mgr H9.length)) "takes" (.ref H10.length)) "covers" (.ref H11.length)) "other" (.ref H12.length)) "strange" (.ref H13.length)) "none" (.ref H15.length)) "below" (.bool (takesB (runsOf (glsAll ns ++ [.slash, .star])) w))) "tree" (.bool (takesB (runsOf (glsAll ns)) w || takesB (runsOf (glsAll ns ++ [.slash, .star])) w)))) (by first | kernel_rfl | simp) (x19.get (z18.get gt5)) (by first | kernel_rfl | simp) (by first | kernel_rfl | simp) (by first | kernel_rfl | simp) hTw
  refine ⟨(upd (upd (upd (upd (upd (upd (upd (upd (upd (upd (upd (upd (upd (upd (upd (upd (upd (upd (upd rnil "script" (.scr (ns.map .int))) "numbers" (.ref a0)) "pieces" (.ref b)) "pattern" (.str (gtext (glsAll ns)))) "tails" (.ref c)) "path" (.str w)) "longer" (.str l)) "heads" (.ref ha)) "meant" (.ref me)) "beside" (.ref be)) "runs" (.ref ra)) "manager" (.mgr H9.length)) "takes" (.ref H10.length)) "covers" (.ref H11.length)) "other" (.ref H12.length)) "strange" (.ref H13.length)) "none" (.ref H15.length)) "below" (.bool (takesB (runsOf (glsAll ns ++ [.slash, .star])) w))) "tree" (.bool (takesB (runsOf (glsAll ns)) w || takesB (runsOf (glsAll ns ++ [.slash, .star])) w))), H19, ?_⟩
  rw [bdlaw_eq]
  rw [exs_step (s0 99)]
  rw [exs_step (s1 98)]
  rw [exs_step (s2 97)]
  rw [exs_step (s3 96)]
  rw [exs_step (s4 95)]
  rw [exs_step (s5 94)]
  rw [exs_step (s6 93)]
  rw [exs_step (s7 92)]
  rw [exs_step (s8 91)]
  rw [exs_step (s9 90)]
  rw [exs_step (s10 89)]
  rw [exs_step (s11 88)]
  rw [exs_step (s12 87)]
  rw [exs_step (s13 86)]
  rw [exs_step (s14 85)]
  rw [exs_step (s15 84)]
  rw [exs_step (s16 83)]
  rw [exs_step (s17 82)]
  rw [exs_step (s18 81)]
  rw [exs_step (s19 80)]
  rw [exs_cons, s20 79, kCons_ret]
  simp
end Mine
end

section
set_option Elab.async false
set_option linter.all false
namespace Mine

/- what a pattern means -/
noncomputable def Mt : List Glyph → List Nat → Prop
  | [], w => w = []
  | g :: gs, w => if g = .star then ∃ u v, w = u ++ v ∧ Mt gs v else ∃ c v, w = c :: v ∧ g.takes c = true ∧ Mt gs v

theorem Mt_star (gs : List Glyph) (w : List Nat) : Mt (.star :: gs) w ↔ ∃ u v, w = u ++ v ∧ Mt gs v := by rw [Mt, if_pos rfl]
theorem Mt_one {g : Glyph} (h : g ≠ .star) (gs : List Glyph) (w : List Nat) : Mt (g :: gs) w ↔ ∃ c v, w = c :: v ∧ g.takes c = true ∧ Mt gs v := by rw [Mt, if_neg h]
theorem Mt_app : ∀ (a b : List Glyph) (w : List Nat), Mt (a ++ b) w ↔ ∃ u v, w = u ++ v ∧ Mt a u ∧ Mt b v
  | [], b, w => by
    constructor
    · intro h; exact ⟨[], w, rfl, rfl, h⟩
    · rintro ⟨u, v, rfl, h1, h2⟩
      have : u = [] := h1
      subst this; exact h2
  | g :: a, b, w => by
    rw [List.cons_append]
    by_cases hg : g = .star
    · subst hg
      rw [Mt_star]
      constructor
      · rintro ⟨u, v, rfl, h⟩
        obtain ⟨p, q, rfl, h1, h2⟩ := (Mt_app a b v).1 h
        exact ⟨u ++ p, q, by simp, (Mt_star _ _).2 ⟨u, p, rfl, h1⟩, h2⟩
      · rintro ⟨u, v, rfl, h1, h2⟩
        obtain ⟨p, q, rfl, h3⟩ := (Mt_star _ _).1 h1
        exact ⟨p, q ++ v, by simp, (Mt_app a b _).2 ⟨q, v, rfl, h3, h2⟩⟩
    · rw [Mt_one hg]
      constructor
      · rintro ⟨c, v, rfl, h0, h⟩
        obtain ⟨p, q, rfl, h1, h2⟩ := (Mt_app a b v).1 h
        exact ⟨c :: p, q, by simp, (Mt_one hg _ _).2 ⟨c, p, rfl, h0, h1⟩, h2⟩
      · rintro ⟨u, v, rfl, h1, h2⟩
        obtain ⟨c, q, rfl, h0, h3⟩ := (Mt_one hg _ _).1 h1
        exact ⟨c, q ++ v, by simp, h0, (Mt_app a b _).2 ⟨q, v, rfl, h3, h2⟩⟩
theorem Mt_star1 (w : List Nat) : Mt [.star] w := (Mt_star _ _).2 ⟨w, [], by simp, rfl⟩
theorem Mt_one1 {g : Glyph} (h : g ≠ .star) (w : List Nat) : Mt [g] w ↔ ∃ c, w = [c] ∧ g.takes c = true := by
  rw [Mt_one h]
  constructor
  · rintro ⟨c, v, rfl, h0, h1⟩
    have : v = [] := h1
    subst this; exact ⟨c, rfl, h0⟩
  · rintro ⟨c, rfl, h0⟩; exact ⟨c, [], rfl, h0, rfl⟩
theorem Mt_snoc {g : Glyph} (h : g ≠ .star) (a : List Glyph) (w : List Nat) (c : Nat) : Mt (a ++ [g]) (w ++ [c]) ↔ Mt a w ∧ g.takes c = true := by
  rw [Mt_app]
  constructor
  · rintro ⟨u, v, e, h1, h2⟩
    obtain ⟨d, rfl, h3⟩ := (Mt_one1 h v).1 h2
    obtain ⟨e1, e2⟩ := List.append_inj' e rfl
    injection e2 with e2
    subst e1; subst e2
    exact ⟨h1, h3⟩
  · rintro ⟨h1, h2⟩; exact ⟨w, [c], rfl, h1, (Mt_one1 h _).2 ⟨c, rfl, h2⟩⟩
theorem Mt_snoc_nil {g : Glyph} (h : g ≠ .star) (a : List Glyph) : ¬ Mt (a ++ [g]) [] := by
  rw [Mt_app]
  rintro ⟨u, v, e, h1, h2⟩
  obtain ⟨d, rfl, h3⟩ := (Mt_one1 h v).1 h2
  have := congrArg List.length e
  simp at this
theorem Mt_snoc_star (a : List Glyph) (w : List Nat) : Mt (a ++ [.star]) w ↔ ∃ u v, w = u ++ v ∧ Mt a u := by
  rw [Mt_app]
  constructor
  · rintro ⟨u, v, e, h1, _⟩; exact ⟨u, v, e, h1⟩
  · rintro ⟨u, v, e, h1⟩; exact ⟨u, v, e, h1, Mt_star1 v⟩
theorem Mt_snoc_star_cons (a : List Glyph) (w : List Nat) (c : Nat) : Mt (a ++ [.star]) (w ++ [c]) ↔ Mt a (w ++ [c]) ∨ Mt (a ++ [.star]) w := by
  rw [Mt_snoc_star, Mt_snoc_star]
  constructor
  · rintro ⟨u, v, e, h⟩
    rcases List.eq_nil_or_concat v with rfl | ⟨v', d, rfl⟩
    · left; rw [e]; simpa using h
    · right
      rw [List.concat_eq_append, ← List.append_assoc] at e
      obtain ⟨e1, _⟩ := List.append_inj' e rfl
      exact ⟨u, v', e1, h⟩
  · rintro (h | ⟨u, v, rfl, h⟩)
    · exact ⟨_, [], by simp, h⟩
    · exact ⟨u, v ++ [c], by simp, h⟩
theorem Mt_snoc_star_nil (a : List Glyph) : Mt (a ++ [.star]) [] ↔ Mt a [] := by
  rw [Mt_snoc_star]
  constructor
  · rintro ⟨u, v, e, h⟩
    have : u = [] := by
      have := congrArg List.length e
      simp at this
      exact List.eq_nil_of_length_eq_zero (by (first | lia | omega))
    subst this; exact h
  · intro h; exact ⟨[], [], rfl, h⟩

/- the table of places -/
noncomputable def gb (R : List Bool) (j : Nat) : Bool := (R[j]?).getD false
theorem gb_set (R : List Bool) (i j : Nat) (h : i < R.length) : gb (R.set i true) j = if i = j then true else gb R j := by
  unfold gb
  rw [List.getElem?_set]
  by_cases e : i = j
  · subst e; simp [h]
  · simp [e]
theorem gb_true (R : List Bool) (j : Nat) : gb R j = true ↔ R[j]? = some true := by
  unfold gb
  cases R[j]? with
  | none => simp
  | some b => simp

theorem clo_other (gs : List Glyph) (R : List Bool) (i j : Nat) (h : i + 1 < R.length) (hj : j ≠ i + 1) : gb (clo gs R (i + 1)) j = gb (clo gs R i) j := by
  rw [clo, clo1]
  split
  · rw [gb_set _ _ _ (by rw [clo_len]; exact h), if_neg (fun e => hj e.symm)]
  · rfl
theorem clo_high (gs : List Glyph) (R : List Bool) (j : Nat) : ∀ i, i < R.length → i < j → gb (clo gs R i) j = gb R j
  | 0, _, _ => rfl
  | i + 1, h, hj => by rw [clo_other gs R i j h (by (first | lia | omega)), clo_high gs R j i (by (first | lia | omega)) (by (first | lia | omega))]
theorem clo_low (gs : List Glyph) (R : List Bool) (j : Nat) : ∀ d, j + d < R.length → gb (clo gs R (j + d)) j = gb (clo gs R j) j
  | 0, _ => rfl
  | d + 1, h => by rw [← Nat.add_assoc, clo_other gs R (j + d) j (by (first | lia | omega)) (by (first | lia | omega)), clo_low gs R j d (by (first | lia | omega))]
theorem clo_zero (gs : List Glyph) (R : List Bool) (hR : R.length = gs.length + 1) : gb (clo gs R gs.length) 0 = gb R 0 := by
  have := clo_low gs R 0 gs.length (by (first | lia | omega))
  rw [Nat.zero_add] at this
  rw [this]; rfl
theorem clo_succ (gs : List Glyph) (R : List Bool) (hR : R.length = gs.length + 1) (j : Nat) (hj : j < gs.length) : gb (clo gs R gs.length) (j + 1) = true ↔ gb R (j + 1) = true ∨ (gb (clo gs R gs.length) j = true ∧ gs[j]? = some .star) := by
  obtain ⟨d, hd⟩ : ∃ d, gs.length = j + 1 + d := ⟨gs.length - (j + 1), by (first | lia | omega)⟩
  have e1 : gb (clo gs R gs.length) (j + 1) = gb (clo gs R (j + 1)) (j + 1) := by rw [hd]; exact clo_low gs R (j + 1) d (by (first | lia | omega))
  have e2 : gb (clo gs R gs.length) j = gb (clo gs R j) j := by
    rw [hd, Nat.add_assoc]; exact clo_low gs R j (1 + d) (by (first | lia | omega))
  rw [e1, e2, clo, clo1]
  by_cases c : (clo gs R j)[j]? = some true ∧ gs[j]? = some .star
  · rw [if_pos c, gb_set _ _ _ (by rw [clo_len]; (first | lia | omega)), if_pos rfl]
    exact ⟨fun _ => .inr ⟨(gb_true _ _).2 c.1, c.2⟩, fun _ => rfl⟩
  · rw [if_neg c, clo_high gs R (j + 1) j (by (first | lia | omega)) (by (first | lia | omega))]
    constructor
    · exact .inl
    · rintro (h | ⟨h1, h2⟩)
      · exact h
      · exact absurd ⟨(gb_true _ _).1 h1, h2⟩ c

theorem aft_iff (gs : List Glyph) (R : List Bool) (c : Nat) : ∀ i, i ≤ gs.length → ∀ j, gb (aft gs R c i) j = true ↔ (j < i ∧ gb R j = true ∧ gs[j]? = some .star) ∨ (∃ p g, j = p + 1 ∧ p < i ∧ gb R p = true ∧ gs[p]? = some g ∧ g ≠ .star ∧ g.takes c = true)
  | 0, _, j => by
    have : gb (aft gs R c 0) j = false := by
      unfold gb aft
      rw [List.getElem?_replicate]
      split <;> rfl
    rw [this]
    constructor
    · intro h; cases h
    · rintro (⟨h, _⟩ | ⟨p, g, _, h, _⟩) <;> (first | lia | omega)
  | i + 1, hi, j => by
    have ih := aft_iff gs R c i (by (first | lia | omega)) j
    have hL := aft_len gs R c i
    have eg : gs[i]? = some gs[i] := by simp [show i < gs.length by (first | lia | omega)]
    rw [aft, aft1]
    by_cases cr : R[i]? = some true
    · rw [if_pos cr, eg]
      have crb := (gb_true R i).2 cr
      simp only
      by_cases cs : gs[i] = .star
      · rw [if_pos cs, gb_set _ _ _ (by (first | lia | omega))]
        rw [cs] at eg
        by_cases hj : i = j
        · subst hj
          rw [if_pos rfl]
          exact ⟨fun _ => .inl ⟨by (first | lia | omega), crb, eg⟩, fun _ => rfl⟩
        · rw [if_neg hj, ih]
          constructor
          · rintro (⟨h1, h2⟩ | ⟨p, g, h1, h2, h3⟩)
            · exact .inl ⟨by (first | lia | omega), h2⟩
            · exact .inr ⟨p, g, h1, by (first | lia | omega), h3⟩
          · rintro (⟨h1, h2⟩ | ⟨p, g, h1, h2, h3, h4, h5, h6⟩)
            · exact .inl ⟨by (first | lia | omega), h2⟩
            · refine .inr ⟨p, g, h1, ?_, h3, h4, h5, h6⟩
              rcases Nat.lt_or_ge p i with h | h
              · exact h
              · have : p = i := by (first | lia | omega)
                subst this
                rw [eg] at h4; injection h4 with h4; exact absurd h4.symm h5
      · rw [if_neg cs]
        by_cases ct : gs[i].takes c = true
        · rw [if_pos ct, gb_set _ _ _ (by (first | lia | omega))]
          by_cases hj : i + 1 = j
          · subst hj
            rw [if_pos rfl]
            exact ⟨fun _ => .inr ⟨i, gs[i], rfl, by (first | lia | omega), crb, eg, cs, ct⟩, fun _ => rfl⟩
          · rw [if_neg hj, ih]
            constructor
            · rintro (⟨h1, h2⟩ | ⟨p, g, h1, h2, h3⟩)
              · exact .inl ⟨by (first | lia | omega), h2⟩
              · exact .inr ⟨p, g, h1, by (first | lia | omega), h3⟩
            · rintro (⟨h1, h2, h3⟩ | ⟨p, g, h1, h2, h3⟩)
              · refine .inl ⟨?_, h2, h3⟩
                rcases Nat.lt_or_ge j i with h | h
                · exact h
                · have : j = i := by (first | lia | omega)
                  subst this
                  rw [eg] at h3; injection h3 with h3; exact absurd h3 cs
              · exact .inr ⟨p, g, h1, by (first | lia | omega), h3⟩
        · rw [if_neg ct, ih]
          constructor
          · rintro (⟨h1, h2⟩ | ⟨p, g, h1, h2, h3⟩)
            · exact .inl ⟨by (first | lia | omega), h2⟩
            · exact .inr ⟨p, g, h1, by (first | lia | omega), h3⟩
          · rintro (⟨h1, h2, h3⟩ | ⟨p, g, h1, h2, h3, h4, h5, h6⟩)
            · refine .inl ⟨?_, h2, h3⟩
              rcases Nat.lt_or_ge j i with h | h
              · exact h
              · have : j = i := by (first | lia | omega)
                subst this
                rw [eg] at h3; injection h3 with h3; exact absurd h3 cs
            · refine .inr ⟨p, g, h1, ?_, h3, h4, h5, h6⟩
              rcases Nat.lt_or_ge p i with h | h
              · exact h
              · have : p = i := by (first | lia | omega)
                subst this
                rw [eg] at h4; injection h4 with h4; subst h4; exact absurd h6 ct
    · rw [if_neg cr, ih]
      have cr' : ¬ gb R i = true := fun h => cr ((gb_true _ _).1 h)
      constructor
      · rintro (⟨h1, h2⟩ | ⟨p, g, h1, h2, h3⟩)
        · exact .inl ⟨by (first | lia | omega), h2⟩
        · exact .inr ⟨p, g, h1, by (first | lia | omega), h3⟩
      · rintro (⟨h1, h2, h3⟩ | ⟨p, g, h1, h2, h3, h4⟩)
        · refine .inl ⟨?_, h2, h3⟩
          rcases Nat.lt_or_ge j i with h | h
          · exact h
          · have : j = i := by (first | lia | omega)
            subst this; exact absurd h2 cr'
        · refine .inr ⟨p, g, h1, ?_, h3, h4⟩
          rcases Nat.lt_or_ge p i with h | h
          · exact h
          · have : p = i := by (first | lia | omega)
            subst this; exact absurd h3 cr'

/- what a place says -/
noncomputable def Pl (gs : List Glyph) (j : Nat) (w : List Nat) : Prop := Mt (gs.take j) w
noncomputable def Ql (gs : List Glyph) (j : Nat) (w : List Nat) : Prop := if gs[j]? = some .star then Pl gs (j + 1) w else Pl gs j w
theorem take_snoc {gs : List Glyph} {j : Nat} {g : Glyph} (h : gs[j]? = some g) : gs.take (j + 1) = gs.take j ++ [g] := by
  rw [List.take_succ, h]; rfl

theorem table_zero (gs : List Glyph) (w : List Nat) : ∀ j, j ≤ gs.length → (gb (cloN gs w 0) j = true ↔ Ql gs j [])
  | 0, _ => by
    unfold cloN
    rw [clo_zero gs _ (reach_len gs w 0)]
    have e : gb (reachN gs w 0) 0 = true := rfl
    rw [e]
    refine ⟨fun _ => ?_, fun _ => rfl⟩
    unfold Ql Pl
    split
    · rename_i h
      rw [take_snoc h]
      exact (Mt_snoc_star_nil _).2 rfl
    · rfl
  | j + 1, hj => by
    have ih := table_zero gs w j (by (first | lia | omega))
    unfold cloN at *
    rw [clo_succ gs _ (reach_len gs w 0) j (by (first | lia | omega)), ih]
    have e : gb (reachN gs w 0) (j + 1) = false := by
      unfold gb reachN
      rw [List.getElem?_cons_succ, List.getElem?_replicate]
      split <;> rfl
    rw [e]
    have eg : gs[j]? = some gs[j] := by simp [show j < gs.length by (first | lia | omega)]
    have qn : Ql gs (j + 1) [] ↔ Pl gs (j + 1) [] := by
      unfold Ql
      split
      · rename_i h
        unfold Pl
        rw [take_snoc h, Mt_snoc_star_nil]
      · rfl
    rw [qn]
    by_cases cs : gs[j] = .star
    · rw [cs] at eg
      unfold Ql
      rw [if_pos eg]
      simp [eg]
    · have h1 : ¬ (gs[j]? = some .star) := by rw [eg]; intro h; injection h with h; exact cs h
      unfold Pl
      rw [take_snoc eg]
      constructor
      · rintro (h | ⟨_, h⟩)
        · cases h
        · exact absurd h h1
      · intro h; exact absurd h (Mt_snoc_nil cs _)

theorem table_succ (gs : List Glyph) (l : List Nat) (k c : Nat) (hc : l[k]? = some c) (ih : ∀ j, j ≤ gs.length → (gb (cloN gs l k) j = true ↔ Ql gs j (l.take k))) : ∀ j, j ≤ gs.length → (gb (cloN gs l (k + 1)) j = true ↔ Ql gs j (l.take (k + 1))) := by
  have hw : l.take (k + 1) = l.take k ++ [c] := by rw [List.take_succ, hc]; rfl
  have eR : reachN gs l (k + 1) = aft gs (cloN gs l k) c gs.length := by rw [reachN, hc]; rfl
  have hA := aft_iff gs (cloN gs l k) c gs.length (Nat.le_refl _)
  rw [hw]
  generalize l.take k = w at ih
  intro j
  induction j with
  | zero =>
    intro _
    have ih0 := ih 0 (by (first | lia | omega))
    rw [show cloN gs l (k + 1) = clo gs (reachN gs l (k + 1)) gs.length from rfl, clo_zero gs _ (reach_len gs l (k + 1)), eR, hA]
    by_cases cs : gs[0]? = some .star
    · have hlen : 0 < gs.length := (List.getElem?_eq_some_iff.1 cs).1
      have q : ∀ w, Ql gs 0 w := fun w => by unfold Ql Pl; rw [if_pos cs, take_snoc cs]; exact Mt_star1 w
      exact ⟨fun _ => q _, fun _ => .inl ⟨hlen, ih0.2 (q _), cs⟩⟩
    · constructor
      · rintro (⟨_, _, h⟩ | ⟨p, g, h, _⟩)
        · exact absurd h cs
        · (first | lia | omega)
      · intro h
        unfold Ql Pl at h
        rw [if_neg cs] at h
        have h' : w ++ [c] = [] := h
        simp at h'
  | succ j ihj =>
    intro hj
    have ihj' := ihj (by (first | lia | omega))
    have i1 := ih (j + 1) hj
    have i0 := ih j (by (first | lia | omega))
    have eg : gs[j]? = some gs[j] := by simp [show j < gs.length by (first | lia | omega)]
    rw [show cloN gs l (k + 1) = clo gs (reachN gs l (k + 1)) gs.length from rfl] at ihj' ⊢
    rw [clo_succ gs _ (reach_len gs l (k + 1)) j (by (first | lia | omega)), ihj', eR, hA]
    -- what the step and the closing say of place j + 1 itself
    have key : ((∃ p g, j + 1 = p + 1 ∧ p < gs.length ∧ gb (cloN gs l k) p = true ∧ gs[p]? = some g ∧ g ≠ .star ∧ g.takes c = true) ∨ (Ql gs j (w ++ [c]) ∧ gs[j]? = some .star)) ↔ Pl gs (j + 1) (w ++ [c]) := by
      unfold Pl
      rw [take_snoc eg]
      by_cases cs : gs[j] = .star
      · have eg' := eg
        rw [cs] at eg'
        have e1 : Ql gs j (w ++ [c]) ↔ Mt (gs.take j ++ [gs[j]]) (w ++ [c]) := by
          unfold Ql Pl; rw [if_pos eg', take_snoc eg]
        rw [e1]
        constructor
        · rintro (⟨p, g, h1, _, _, h4, h5, _⟩ | ⟨h, _⟩)
          · have : p = j := by (first | lia | omega)
            subst this
            rw [eg'] at h4; injection h4 with h4; exact absurd h4.symm h5
          · exact h
        · intro h; exact .inr ⟨h, eg'⟩
      · have hns : ¬ (gs[j]? = some .star) := by rw [eg]; intro h; injection h with h; exact cs h
        rw [Mt_snoc cs]
        have e1 : Ql gs j w ↔ Mt (gs.take j) w := by unfold Ql Pl; rw [if_neg hns]
        constructor
        · rintro (⟨p, g, h1, _, h3, h4, h5, h6⟩ | ⟨_, h⟩)
          · have : p = j := by (first | lia | omega)
            subst this
            rw [eg] at h4; injection h4 with h4; subst h4
            exact ⟨e1.1 (i0.1 h3), h6⟩
          · exact absurd h hns
        · rintro ⟨h1, h2⟩
          exact .inl ⟨j, gs[j], rfl, by (first | lia | omega), i0.2 (e1.2 h1), eg, cs, h2⟩
    by_cases cs1 : gs[j + 1]? = some .star
    · have hlt : j + 1 < gs.length := (List.getElem?_eq_some_iff.1 cs1).1
      have e2 : ∀ w, Ql gs (j + 1) w ↔ Mt (gs.take (j + 1) ++ [.star]) w := fun w => by unfold Ql Pl; rw [if_pos cs1, take_snoc cs1]
      rw [e2, Mt_snoc_star_cons, ← e2, ← i1]
      have e3 : Mt (gs.take (j + 1)) (w ++ [c]) ↔ Pl gs (j + 1) (w ++ [c]) := Iff.rfl
      rw [e3, ← key]
      constructor
      · rintro ((⟨_, h, _⟩ | h) | h)
        · exact .inr h
        · exact .inl (.inl h)
        · exact .inl (.inr h)
      · rintro ((h | h) | h)
        · exact .inl (.inr h)
        · exact .inr h
        · exact .inl (.inl ⟨hlt, h, cs1⟩)
    · have e2 : Ql gs (j + 1) (w ++ [c]) ↔ Pl gs (j + 1) (w ++ [c]) := by unfold Ql; rw [if_neg cs1]
      rw [e2, ← key]
      constructor
      · rintro ((⟨_, _, h⟩ | h) | h)
        · exact absurd h cs1
        · exact .inl h
        · exact .inr h
      · rintro (h | h)
        · exact .inl (.inr h)
        · exact .inr h

theorem table_all (gs : List Glyph) (l : List Nat) : ∀ k, k ≤ l.length → ∀ j, j ≤ gs.length → (gb (cloN gs l k) j = true ↔ Ql gs j (l.take k))
  | 0, _ => by simpa using table_zero gs l
  | k + 1, hk => table_succ gs l k l[k] (by simp [show k < l.length by (first | lia | omega)]) (table_all gs l k (by (first | lia | omega)))
theorem meant_iff (gs : List Glyph) (l : List Nat) (k : Nat) (hk : k ≤ l.length) : meantB gs l k = true ↔ Mt gs (l.take k) := by
  have := table_all gs l k hk gs.length (Nat.le_refl _)
  rw [show meantB gs l k = gb (cloN gs l k) gs.length from rfl, this]
  unfold Ql Pl
  rw [if_neg (by simp), List.take_length]
end Mine
end

section
set_option Elab.async false
set_option linter.all false
namespace Mine

noncomputable def gRuns : List (List Glyph) → List (List Nat × List Glyph)
  | [] => []
  | [g] => [(mL, g)]
  | g :: Gs => (mS, g) :: gRuns Gs
theorem rst_gl : ∀ (g : List Glyph) (l : List (List Nat × List Glyph)) (mk : List Nat) (gs : List Glyph), (g.map Tok.gl).foldl rst (l, mk, gs) = (l, mk, gs ++ g)
  | [], l, mk, gs => by simp
  | x :: g, l, mk, gs => by
    rw [List.map_cons, List.foldl_cons, show rst (l, mk, gs) (.gl x) = (l, mk, gs ++ [x]) from rfl, rst_gl g]
    simp
noncomputable def fin (s : RdS) : List (List Nat × List Glyph) := s.1 ++ [(s.2.1, s.2.2)]
theorem rst_gTok : ∀ (Gs : List (List Glyph)) (l : List (List Nat × List Glyph)) (mk : List Nat) (gs : List Glyph), fin ((gTok Gs).foldl rst (l, mk, gs)) = l ++ [(mk, gs)] ++ gRuns Gs
  | [], l, mk, gs => by simp [gTok, gRuns, fin]
  | [g], l, mk, gs => by
    rw [gTok, List.foldl_cons, show rst (l, mk, gs) .la = (l ++ [(mk, gs)], mL, []) from rfl, rst_gl]
    simp [fin, gRuns]
  | g :: g2 :: Gs, l, mk, gs => by
    rw [show gTok (g :: g2 :: Gs) = .op :: (g.map .gl ++ .cl :: gTok (g2 :: Gs)) from rfl, List.foldl_cons, List.foldl_append, show rst (l, mk, gs) .op = (l ++ [(mk, gs)], mH, []) from rfl, rst_gl, List.foldl_cons, show rst (l ++ [(mk, gs)], mH, [] ++ g) .cl = (l ++ [(mk, gs)], mS, g) from rfl, rst_gTok (g2 :: Gs)]
    simp [gRuns]
theorem runsOf_eq (gs : List Glyph) : runsOf gs = (mF, (sg (dd gs)).1) :: gRuns (sg (dd gs)).2 := by
  have := rst_gTok (sg (dd gs)).2 [] mF (sg (dd gs)).1
  have e : (toksOf (sg (dd gs))).foldl rst ([], mF, []) = (gTok (sg (dd gs)).2).foldl rst ([], mF, (sg (dd gs)).1) := by
    rw [toksOf, List.foldl_append, rst_gl]; rfl
  unfold runsOf readOf
  rw [e]
  exact this

/- a run at the head -/
noncomputable def pre : List Glyph → List Nat → Prop
  | [], _ => True
  | g :: gs, x => ∃ c v, x = c :: v ∧ g.takes c = true ∧ pre gs v
theorem pre_len : ∀ (g : List Glyph) (x : List Nat), pre g x → g.length ≤ x.length
  | [], _, _ => by simp
  | g :: gs, x, h => by
    obtain ⟨c, v, rfl, _, h2⟩ := h
    have := pre_len gs v h2
    simp; omega
theorem Mt_pre : ∀ (g b : List Glyph) (x : List Nat), gPlain g → (Mt (g ++ b) x ↔ pre g x ∧ Mt b (x.drop g.length))
  | [], b, x, _ => by simp [pre]
  | g :: gs, b, x, h => by
    rw [List.cons_append, Mt_one (h g (List.mem_cons_self ..))]
    have ih := fun v => Mt_pre gs b v (fun y hy => h y (List.mem_cons_of_mem _ hy))
    constructor
    · rintro ⟨c, v, rfl, h1, h2⟩
      obtain ⟨h3, h4⟩ := (ih v).1 h2
      exact ⟨⟨c, v, rfl, h1, h3⟩, by simpa using h4⟩
    · rintro ⟨⟨c, v, rfl, h1, h3⟩, h4⟩
      exact ⟨c, v, rfl, h1, (ih v).2 ⟨h3, by simpa using h4⟩⟩
theorem pre_iff : ∀ (g : List Glyph) (x : List Nat), pre g x ↔ g.length ≤ x.length ∧ ∀ i, i < g.length → (match g[i]?, x[i]? with | some g, some c => g.takes c | _, _ => false) = true
  | [], x => by simp [pre]
  | g :: gs, x => by
    constructor
    · rintro ⟨c, v, rfl, h1, h2⟩
      obtain ⟨h3, h4⟩ := (pre_iff gs v).1 h2
      refine ⟨by simp; (first | lia | omega), fun i hi => ?_⟩
      cases i with
      | zero => simpa using h1
      | succ i => simpa using h4 i (by simpa using hi)
    · rintro ⟨h1, h2⟩
      cases x with
      | nil => simp at h1
      | cons c v =>
        refine ⟨c, v, rfl, by simpa using h2 0 (by simp), (pre_iff gs v).2 ⟨by simpa using h1, fun i hi => by simpa using h2 (i + 1) (by simpa using hi)⟩⟩
theorem fits_iff (g : List Glyph) (w : List Nat) (k : Nat) (hk : k ≤ w.length) : fits g w k = true ↔ pre g (w.drop k) := by
  rw [pre_iff, fits]
  simp only [Bool.and_eq_true, decide_eq_true_eq, List.all_eq_true, List.mem_range, List.length_drop, List.getElem?_drop]
  exact ⟨fun ⟨a, b⟩ => ⟨by omega, b⟩, fun ⟨a, b⟩ => ⟨by omega, b⟩⟩
theorem fits_len {g : List Glyph} {w : List Nat} {k : Nat} (h : fits g w k = true) : k + g.length ≤ w.length := by
  rw [fits, Bool.and_eq_true, decide_eq_true_eq] at h
  exact h.1

theorem seek_spec (g : List Glyph) (w : List Nat) : ∀ n k, w.length < n + k → k ≤ seek g w n k ∧ (∀ j, k ≤ j → j < seek g w n k → fits g w j = false) ∧ (fits g w (seek g w n k) = true ∨ w.length < seek g w n k + g.length)
  | 0, k, h => ⟨Nat.le_refl _, fun j h1 h2 => by simp only [seek] at h2; (first | lia | omega), .inr (by simp only [seek]; (first | lia | omega))⟩
  | n + 1, k, h => by
    rw [seek]
    by_cases c : k + g.length ≤ w.length ∧ fits g w k = false
    · rw [if_pos c]
      obtain ⟨h1, h2, h3⟩ := seek_spec g w n (k + 1) (by (first | lia | omega))
      refine ⟨by (first | lia | omega), fun j j1 j2 => ?_, h3⟩
      rcases Nat.lt_or_ge k j with h | h
      · exact h2 j h j2
      · rw [show j = k by (first | lia | omega)]; exact c.2
    · rw [if_neg c]
      refine ⟨Nat.le_refl _, fun j h1 h2 => by (first | lia | omega), ?_⟩
      rcases Nat.lt_or_ge w.length (k + g.length) with h | h
      · exact .inr h
      · left
        cases hf : fits g w k with
        | true => rfl
        | false => exact absurd ⟨h, hf⟩ c

/- a pattern that begins with a star takes all that ends with what it takes -/
theorem Mt_star_drop (gs : List Glyph) (w : List Nat) (a b : Nat) (h : a ≤ b) (hm : Mt (.star :: gs) (w.drop b)) : Mt (.star :: gs) (w.drop a) := by
  obtain ⟨u, v, e, h1⟩ := (Mt_star _ _).1 hm
  refine (Mt_star _ _).2 ⟨(w.drop a).take (b - a) ++ u, v, ?_, h1⟩
  have : w.drop b = (w.drop a).drop (b - a) := by rw [List.drop_drop]; congr 1; (first | lia | omega)
  rw [List.append_assoc, ← e, this, List.take_append_drop]
theorem Mt_star_iff (gs : List Glyph) (w : List Nat) (k : Nat) : Mt (.star :: gs) (w.drop k) ↔ ∃ j, k ≤ j ∧ Mt gs (w.drop j) := by
  rw [Mt_star]
  constructor
  · rintro ⟨u, v, e, h⟩
    refine ⟨k + u.length, by (first | lia | omega), ?_⟩
    rw [← List.drop_drop, e, List.drop_left]; exact h
  · rintro ⟨j, hj, h⟩
    refine ⟨(w.drop k).take (j - k), w.drop j, ?_, h⟩
    have : w.drop j = (w.drop k).drop (j - k) := by rw [List.drop_drop]; congr 1; (first | lia | omega)
    rw [this, List.take_append_drop]

theorem tk_runs : ∀ (Gs : List (List Glyph)) (w : List Nat), (∀ g ∈ Gs, gPlain g) → ∀ k, k ≤ w.length → (tk w (gRuns Gs) k = some w.length ↔ Mt (gFlat Gs) (w.drop k))
  | [], w, _, k, hk => by
    show some k = some w.length ↔ w.drop k = []
    rw [List.drop_eq_nil_iff]
    simp only [Option.some.injEq]
    (first | lia | omega)
  | [g], w, hp, k, hk => by
    have hg := hp g (List.mem_cons_self ..)
    rw [gRuns, tk, if_neg (by decide), if_pos rfl, show gFlat [g] = .star :: g by simp [gFlat], Mt_star_iff]
    have hM : ∀ j, Mt g (w.drop j) ↔ pre g (w.drop j) ∧ (w.drop j).length = g.length := fun j => by
      have := Mt_pre g [] (w.drop j) hg
      rw [List.append_nil] at this
      rw [this]
      constructor
      · rintro ⟨h1, h2⟩
        have h2' : (w.drop j).drop g.length = [] := h2
        rw [List.drop_eq_nil_iff] at h2'
        have := pre_len g _ h1
        exact ⟨h1, by (first | lia | omega)⟩
      · rintro ⟨h1, h2⟩
        refine ⟨h1, ?_⟩
        show (w.drop j).drop g.length = []
        rw [List.drop_eq_nil_iff]; (first | lia | omega)
    constructor
    · intro h
      by_cases c : k + g.length ≤ w.length ∧ fits g w (w.length - g.length) = true
      · refine ⟨w.length - g.length, by (first | lia | omega), (hM _).2 ⟨(fits_iff g w _ (by (first | lia | omega))).1 c.2, by rw [List.length_drop]; (first | lia | omega)⟩⟩
      · rw [if_neg c] at h; cases h
    · rintro ⟨j, hj, h⟩
      obtain ⟨h1, h2⟩ := (hM j).1 h
      rw [List.length_drop] at h2
      by_cases hjw : j ≤ w.length
      · have hj' : j = w.length - g.length := by (first | lia | omega)
        rw [if_pos ⟨by (first | lia | omega), by rw [← hj']; exact (fits_iff g w j hjw).2 h1⟩]
        rfl
      · have hg0 : g.length = 0 := by (first | lia | omega)
        have : g = [] := List.eq_nil_of_length_eq_zero hg0
        subst this
        rw [if_pos ⟨by simpa using hk, (fits_iff [] w _ (by simp)).2 trivial⟩]
        rfl
  | g :: g2 :: Gs, w, hp, k, hk => by
    have hg := hp g (List.mem_cons_self ..)
    have ih := tk_runs (g2 :: Gs) w (fun x hx => hp x (List.mem_cons_of_mem _ hx))
    rw [show gRuns (g :: g2 :: Gs) = (mS, g) :: gRuns (g2 :: Gs) from rfl, tk, if_pos rfl, show gFlat (g :: g2 :: Gs) = .star :: (g ++ gFlat (g2 :: Gs)) by simp [gFlat], Mt_star_iff]
    obtain ⟨s1, s2, s3⟩ := seek_spec g w (w.length + 1) k (by (first | lia | omega))
    generalize seek g w (w.length + 1) k = s at s1 s2 s3
    constructor
    · intro h
      cases hf : fits g w s with
      | false => rw [hf] at h; simp at h
      | true =>
        rw [hf, if_pos rfl] at h
        have hl := fits_len hf
        exact ⟨s, s1, (Mt_pre g _ _ hg).2 ⟨(fits_iff g w s (by (first | lia | omega))).1 hf, by rw [List.drop_drop]; exact (ih _ hl).1 h⟩⟩
    · rintro ⟨j, hj, h⟩
      obtain ⟨h1, h2⟩ := (Mt_pre g _ _ hg).1 h
      rw [List.drop_drop] at h2
      have hpl := pre_len g _ h1
      rw [List.length_drop] at hpl
      by_cases hjw : j ≤ w.length
      · have hf := (fits_iff g w j hjw).2 h1
        have hsj : s ≤ j := by
          rcases Nat.lt_or_ge j s with h' | h'
          · rw [s2 j hj h'] at hf; cases hf
          · exact h'
        have hfs : fits g w s = true := by
          rcases s3 with h' | h'
          · exact h'
          · have := fits_len hf; (first | lia | omega)
        rw [hfs, if_pos rfl, ih _ (fits_len hfs)]
        rw [show gFlat (g2 :: Gs) = .star :: (g2 ++ gFlat Gs) by simp [gFlat]] at h2 ⊢
        exact Mt_star_drop _ w _ _ (by (first | lia | omega)) h2
      · have hg0 : g.length = 0 := by (first | lia | omega)
        have : g = [] := List.eq_nil_of_length_eq_zero hg0
        subst this
        have hf : ∀ i, i ≤ w.length → fits [] w i = true := fun i hi => (fits_iff [] w i hi).2 trivial
        have hsk : s = k := by
          rcases Nat.lt_or_ge k s with h' | h'
          · have := s2 k (Nat.le_refl _) h'
            rw [hf k hk] at this; cases this
          · (first | lia | omega)
        subst hsk
        rw [hf s hk, if_pos rfl, ih _ (by simpa using hk)]
        rw [show gFlat (g2 :: Gs) = .star :: (g2 ++ gFlat Gs) by simp [gFlat]] at h2 ⊢
        exact Mt_star_drop _ w _ _ (by simp; (first | lia | omega)) h2

theorem dd_mt_aux : ∀ (gs ps : List Glyph) (w : List Nat), Mt (gs.foldl ddStep ps) w ↔ Mt (ps ++ gs) w
  | [], ps, w => by simp
  | g :: gs, ps, w => by
    rw [List.foldl_cons, dd_mt_aux gs (ddStep ps g) w]
    unfold ddStep
    split
    · rename_i h
      obtain ⟨rfl, h2⟩ := h
      obtain ⟨q, rfl⟩ : ∃ q, ps = q ++ [.star] := by
        rcases List.eq_nil_or_concat ps with rfl | ⟨q, x, rfl⟩
        · simp at h2
        · simp only [List.concat_eq_append, List.getLast?_append, List.getLast?_singleton, Option.some_or, Option.some.injEq] at h2
          exact ⟨q, by rw [List.concat_eq_append, h2]⟩
      rw [List.append_assoc, List.append_assoc, Mt_app, Mt_app]
      have e : ∀ v, Mt ([.star] ++ gs) v ↔ Mt ([.star] ++ .star :: gs) v := fun v => by
        rw [List.singleton_append, List.singleton_append]
        constructor
        · intro h; exact (Mt_star _ _).2 ⟨[], v, rfl, h⟩
        · intro h
          obtain ⟨a, b, e1, k1⟩ := (Mt_star _ _).1 h
          obtain ⟨c, d, e2, k2⟩ := (Mt_star _ _).1 k1
          exact (Mt_star _ _).2 ⟨a ++ c, d, by rw [e1, e2]; simp, k2⟩
      simp only [e]
    · simp
theorem dd_mt (gs : List Glyph) (w : List Nat) : Mt (dd gs) w ↔ Mt gs w := by simpa [dd] using dd_mt_aux gs [] w

theorem takes_iff (gs : List Glyph) (w : List Nat) : takesB (runsOf gs) w = true ↔ Mt gs w := by
  rw [runsOf_eq, ← dd_mt]
  have e := sg_eq (dd gs)
  have hp := sg_plain (dd gs)
  have hps := sg_plains (dd gs)
  rw [show Mt (dd gs) w ↔ Mt ((sg (dd gs)).1 ++ gFlat (sg (dd gs)).2) w by rw [← e]]
  generalize (sg (dd gs)).1 = f at *
  generalize (sg (dd gs)).2 = Gs at *
  rw [Mt_pre f _ _ hp, takesB, tk, if_neg (by decide), if_neg (by decide)]
  have hf := fits_iff f w 0 (by (first | lia | omega))
  rw [List.drop_zero] at hf
  cases c : fits f w 0 with
  | false =>
    simp only [Bool.false_eq_true, if_false, false_iff]
    rintro ⟨h, _⟩
    rw [hf.2 h] at c; cases c
  | true =>
    have hl := fits_len c
    have hpre := hf.1 c
    rw [if_pos rfl, Nat.zero_add]
    rw [Nat.zero_add] at hl
    have T := tk_runs Gs w hps f.length hl
    rw [← T]
    cases tk w (gRuns Gs) f.length with
    | none => simp
    | some k => simp [hpre]

theorem gRuns_ok : ∀ (Gs : List (List Glyph)), (∀ g ∈ Gs, GsOK g) → RunsOK (gRuns Gs)
  | [], _ => fun x h => by cases h
  | [g], h => fun x hx => by
    simp only [gRuns, List.mem_singleton] at hx
    subst hx
    exact ⟨.inr (.inr rfl), h g (List.mem_cons_self ..)⟩
  | g :: g2 :: Gs, h => fun x hx => by
    rw [show gRuns (g :: g2 :: Gs) = (mS, g) :: gRuns (g2 :: Gs) from rfl] at hx
    rcases List.mem_cons.1 hx with rfl | hx
    · exact ⟨.inr (.inl rfl), h g (List.mem_cons_self ..)⟩
    · exact gRuns_ok (g2 :: Gs) (fun y hy => h y (List.mem_cons_of_mem _ hy)) x hx
theorem mem_len {g : List Glyph} : ∀ {Gs : List (List Glyph)}, g ∈ Gs → g.length ≤ (gFlat Gs).length
  | x :: Gs, h => by
    have hf : (gFlat (x :: Gs)).length = 1 + x.length + (gFlat Gs).length := by simp [gFlat]; (first | lia | omega)
    rcases List.mem_cons.1 h with rfl | h
    · (first | lia | omega)
    · have := mem_len h; (first | lia | omega)
theorem runs_ok (gs : List Glyph) (h : gs.length ≤ 100) : RunsOK (runsOf gs) := by
  rw [runsOf_eq]
  have e := congrArg List.length (sg_eq (dd gs))
  rw [List.length_append] at e
  have hd := dd_len gs
  intro x hx
  rcases List.mem_cons.1 hx with rfl | hx
  · exact ⟨.inl rfl, sg_plain _, by simp only; (first | lia | omega)⟩
  · exact gRuns_ok _ (fun g hg => ⟨sg_plains _ g hg, by have := mem_len hg; (first | lia | omega)⟩) x hx
end Mine
end

section
set_option Elab.async false
set_option linter.all false
namespace Mine

/- the last glyph takes no slash -/
noncomputable def NoSlash (g : Glyph) : Prop := g ≠ .star ∧ g.takes 47 = false
theorem last_ns (k : Int) : NoSlash (lastGl k) := by
  unfold lastGl
  split
  · exact ⟨by decide, by decide⟩
  · split
    · exact ⟨by decide, by decide⟩
    · exact ⟨by decide, by decide⟩

theorem Mt_last {a : List Glyph} {g : Glyph} {x : List Nat} (hg : NoSlash g) (h : Mt (a ++ [g]) x) : lastS x ≠ [47] := by
  obtain ⟨u, v, rfl, _, h2⟩ := (Mt_app _ _ _).1 h
  obtain ⟨c, rfl, h3⟩ := (Mt_one1 hg.1 v).1 h2
  have : lastS (u ++ [c]) = [c] := by
    unfold lastS
    have e : (u ++ [c]).length - 1 = u.length := by simp
    rw [e, List.drop_left]
  rw [this]
  intro e
  injection e with e
  subst e
  rw [hg.2] at h3; cases h3

theorem sub_false_99 {b w : List Nat} (hb : 99 ∈ b) (hw : Plain w) : subB [104] b [104] w = false := by
  have h99 : 99 ∉ w := fun h => by have := hw 99 h; (first | lia | omega)
  have hbw : b ≠ w := fun e => h99 (e ▸ hb)
  unfold subB
  rw [if_neg (fun h => hbw h.2), if_neg (fun h => h rfl)]
  have key : ∀ p : List Nat, 99 ∈ p → p.isPrefixOf w = false := fun p hp => by
    cases e : p.isPrefixOf w with
    | false => rfl
    | true =>
      rw [List.isPrefixOf_iff_prefix] at e
      exact absurd (e.subset hp) h99
  split
  · exact key _ hb
  · exact key _ (by simp [hb])

theorem cov_mid {w : List Nat} {k : Nat} (hk : k < (w ++ [47]).length) : subB [104] ((w ++ [47]).take k) [104] w = besideB (w ++ [47]) k := by
  have hk' : k ≤ w.length := by simp at hk; (first | lia | omega)
  have e1 : (w ++ [47]).take k = w.take k := by rw [List.take_append_of_le_length hk']
  rw [e1]
  unfold subB besideB
  rw [e1]
  rcases Nat.lt_or_ge k w.length with h | h
  · have hne : w.take k ≠ w := fun e => by have := congrArg List.length e; simp at this; (first | lia | omega)
    rw [if_neg (fun h => hne h.2), if_neg (fun h => h rfl)]
    have e2 : ((w ++ [47]).drop k).take 1 = [w[k]] := by
      rw [List.drop_append_of_le_length hk', List.drop_eq_getElem_cons h]; rfl
    rw [e2]
    by_cases c : lastS (w.take k) = [47]
    · rw [if_pos c, decide_eq_true c, Bool.or_true, List.isPrefixOf_iff_prefix]
      exact List.take_prefix k w
    · rw [if_neg c, decide_eq_false c, Bool.or_false, Bool.eq_iff_iff, List.isPrefixOf_iff_prefix, decide_eq_true_eq]
      constructor
      · rintro ⟨t, ht⟩
        have := congrArg (fun l => l[k]?) ht
        simp only [List.append_assoc] at this
        rw [List.getElem?_append_right (by simp; (first | lia | omega))] at this
        have hkk : k - (w.take k).length = 0 := by simp; (first | lia | omega)
        rw [hkk, List.getElem?_eq_getElem h] at this
        simp at this
        rw [← this]
      · intro e
        injection e with e
        refine ⟨w.drop (k + 1), ?_⟩
        rw [List.append_assoc, ← e, List.singleton_append, ← List.drop_eq_getElem_cons h, List.take_append_drop]
  · have hkw : k = w.length := by (first | lia | omega)
    subst hkw
    rw [List.take_length, if_pos ⟨rfl, rfl⟩, List.drop_left]
    rfl
theorem cov_end (w : List Nat) : subB [104] (w ++ [47]) [104] w = false := by
  have hne : w ++ [47] ≠ w := fun e => by have := congrArg List.length e; simp at this
  unfold subB
  rw [if_neg (fun h => hne h.2), if_neg (fun h => h rfl)]
  have key : ∀ p : List Nat, w.length < p.length → p.isPrefixOf w = false := fun p hp => by
    cases e : p.isPrefixOf w with
    | false => rfl
    | true =>
      rw [List.isPrefixOf_iff_prefix] at e
      have := e.length_le
      (first | lia | omega)
  split
  · exact key _ (by simp)
  · exact key _ (by simp)

theorem map_false {α : Type} (l : List α) (f : α → Bool) (h : ∀ x ∈ l, f x = false) : l.map f = l.map fun _ => false := List.map_congr_left h

theorem plain_law (a : List Glyph) (g : Glyph) (hg : NoSlash g) (ha : (a ++ [g]).length ≤ 60) (w : List Nat) (hw : Plain w) : PlainLaw (a ++ [g]) w := by
  have P : Plain (w ++ [47]) := plain_app hw (plain_one (by decide))
  have F1 : (headsOf (w ++ [47])).map (takesB (runsOf (a ++ [g]))) = (List.range ((w ++ [47]).length + 1)).map (meantB (a ++ [g]) (w ++ [47])) := by
    rw [headsOf, List.map_map]
    apply List.map_congr_left
    intro k hk
    have hk' := List.mem_range.1 hk
    rw [Bool.eq_iff_iff, Function.comp_apply, takes_iff, meant_iff _ _ _ (by (first | lia | omega))]
  have F2 : (headsOf (w ++ [47])).map (fun u => subB [104] u [104] w) = (List.range (w ++ [47]).length).map (besideB (w ++ [47])) ++ [false] := by
    rw [headsOf, List.map_map, List.range_succ, List.map_append]
    congr 1
    · apply List.map_congr_left
      intro k hk
      exact cov_mid (List.mem_range.1 hk)
    · simp only [List.map_cons, List.map_nil, Function.comp_apply, List.take_length, cov_end]
  refine ⟨F1, F2, map_false _ _ fun u _ => by simp [subB], map_false _ _ fun u _ => sub_false_99 (by simp) hw, map_false _ _ fun u _ => sub_false_99 (by simp) hw, runs_ok _ (by (first | lia | omega)), runs_ok _ (by simp at ha ⊢; (first | lia | omega)), ?_⟩
  rw [F2, Bool.eq_iff_iff, Bool.or_eq_true, takes_iff, takes_iff, treeB, List.any_eq_true]
  have hT : ∀ k, k ≤ (w ++ [47]).length → ((((headsOf (w ++ [47])).map (takesB (runsOf (a ++ [g]))))[k]?).getD false = true ↔ Mt (a ++ [g]) ((w ++ [47]).take k)) := fun k hk => by
    rw [← takes_iff, headsOf, List.map_map, List.getElem?_map, List.getElem?_range (by (first | lia | omega))]
    rfl
  have hC : ∀ k, k < (w ++ [47]).length → ((((List.range (w ++ [47]).length).map (besideB (w ++ [47])) ++ [false])[k]?).getD false = besideB (w ++ [47]) k) := fun k hk => by
    rw [List.getElem?_append_left (by simpa using hk), List.getElem?_map, List.getElem?_range hk]
    rfl
  have hC' : ((((List.range (w ++ [47]).length).map (besideB (w ++ [47])) ++ [false])[(w ++ [47]).length]?).getD false) = false := by
    rw [List.getElem?_append_right (by simp)]
    simp
  have hlen : (w ++ [47]).length = w.length + 1 := by simp
  constructor
  · intro h
    have : ∃ k, k ≤ w.length ∧ Mt (a ++ [g]) (w.take k) ∧ ((w ++ [47]).drop k).take 1 = [47] := by
      rcases h with h | h
      · exact ⟨w.length, Nat.le_refl _, by rw [List.take_length]; exact h, by rw [List.drop_left]; rfl⟩
      · obtain ⟨u, v, rfl, h1, h2⟩ := (Mt_app _ _ _).1 h
        obtain ⟨c, v', rfl, h3, _⟩ := (Mt_one (by decide) _ _).1 h2
        have hc : c = 47 := by
          have : Glyph.slash.takes c = (decide (47 ≤ c) && decide (c ≤ 47)) := by simp [Glyph.takes, Glyph.item, inB]
          rw [this] at h3
          simp at h3; (first | lia | omega)
        subst hc
        refine ⟨u.length, by simp, by rw [List.take_left]; exact h1, ?_⟩
        rw [List.append_assoc, List.drop_left]; rfl
    obtain ⟨k, k1, k2, k3⟩ := this
    refine ⟨k, by rw [heads_len, List.mem_range]; (first | lia | omega), ?_⟩
    rw [Bool.and_eq_true, hT k (by (first | lia | omega)), hC k (by (first | lia | omega)), List.take_append_of_le_length k1]
    refine ⟨k2, ?_⟩
    unfold besideB
    rw [decide_eq_true k3, Bool.true_or]
  · rintro ⟨k, k1, k2⟩
    rw [heads_len, List.mem_range] at k1
    rw [Bool.and_eq_true] at k2
    obtain ⟨k2, k3⟩ := k2
    rcases Nat.lt_or_ge k (w ++ [47]).length with h | h
    · rw [hT k (by (first | lia | omega))] at k2
      rw [hC k h] at k3
      have hkw : k ≤ w.length := by (first | lia | omega)
      have hl := Mt_last hg k2
      unfold besideB at k3
      rw [decide_eq_false hl, Bool.or_false, decide_eq_true_eq] at k3
      rw [List.take_append_of_le_length hkw] at k2
      rcases Nat.lt_or_ge k w.length with h' | h'
      · right
        have e2 : ((w ++ [47]).drop k).take 1 = [w[k]] := by
          rw [List.drop_append_of_le_length hkw, List.drop_eq_getElem_cons h']; rfl
        rw [e2] at k3
        injection k3 with k3
        refine (Mt_app _ _ _).2 ⟨w.take k, w.drop k, (List.take_append_drop k w).symm, k2, ?_⟩
        rw [List.drop_eq_getElem_cons h', k3]
        exact (Mt_one (by decide) _ _).2 ⟨47, _, rfl, by decide, Mt_star1 _⟩
      · left
        have : w.take k = w := List.take_of_length_le h'
        rw [this] at k2
        exact k2
    · have : k = (w ++ [47]).length := by (first | lia | omega)
      subst this
      rw [hC'] at k3; cases k3

theorem PLall (ns : List Int) : ∀ w, Plain w → w.length ≤ 10 → PlainLaw (glsAll ns) w := fun w hw _ =>
  plain_law _ _ (last_ns _) (by have := ks_len ns; simp [glsOf]; (first | lia | omega)) w hw
end Mine
end

section
open PySem PySem.W PySem.W.X PyProof.Rows PySem.Spec PySem.Calls
set_option Elab.async false
set_option linter.all false
set_option maxRecDepth 100000
namespace Mine
noncomputable def sL (s : String) : Str := Str.ofString s
noncomputable def mkS' (l : List Nat) : Str := ⟨l.toArray⟩
/- a function as its def in the text says -/
noncomputable def fnD (n q : Str) (g : Addr) (cl : List (Str × Addr)) (d kd doc pm : Value) (an : Option Addr) (code ct : Value) (bu : Addr) : FuncData := match defIn n Challenge.pw_ij0109_01.main.body with
  | some (a, b, sc) => { name := n, qualname := q, params := a, body := .stmts b, scope := sc, globals := g, closure := cl, defaults := d, kwdefaults := kd, doc := doc, pyModule := pm, annotations := an, code := code, closureTuple := ct, builtins := bu }
  | none => default
noncomputable def dE (P : Params) (k : Str) (t : Nat) (v : Value) : DictEntry := ⟨PyData.keyHash P k, .str k t, v⟩
noncomputable def ob0 (P : Params) : Obj := (Obj.mk (Value.type "dict") Option.none (Data.dict #[(dE P (sL "__name__") 1 (Value.str (sL "builtins") 160)), (dE P (sL "__doc__") 2 (Value.builtin "builtins.__doc__:str#opaque")), (dE P (sL "__package__") 3 (Value.builtin "builtins.__package__:str#opaque")), (dE P (sL "__loader__") 4 (Value.builtin "builtins.__loader__:shared#opaque")), (dE P (sL "__spec__") 5 (Value.builtin "builtins.__spec__#opaque")), (dE P (sL "__build_class__") 6 (Value.builtin "__build_class__")), (dE P (sL "__import__") 7 (Value.builtin "__import__")), (dE P (sL "abs") 8 (Value.builtin "abs")), (dE P (sL "all") 9 (Value.builtin "all")), (dE P (sL "any") 10 (Value.builtin "any")), (dE P (sL "ascii") 11 (Value.builtin "ascii")), (dE P (sL "bin") 12 (Value.builtin "bin")), (dE P (sL "breakpoint") 13 (Value.builtin "breakpoint")), (dE P (sL "callable") 14 (Value.builtin "callable")), (dE P (sL "chr") 15 (Value.builtin "chr")), (dE P (sL "compile") 16 (Value.builtin "compile")), (dE P (sL "delattr") 17 (Value.builtin "delattr")), (dE P (sL "dir") 18 (Value.builtin "dir")), (dE P (sL "divmod") 19 (Value.builtin "divmod")), (dE P (sL "eval") 20 (Value.builtin "eval")), (dE P (sL "exec") 21 (Value.builtin "exec")), (dE P (sL "format") 22 (Value.builtin "format")), (dE P (sL "getattr") 23 (Value.builtin "getattr")), (dE P (sL "globals") 24 (Value.builtin "globals")), (dE P (sL "hasattr") 25 (Value.builtin "hasattr")), (dE P (sL "hash") 26 (Value.builtin "hash")), (dE P (sL "hex") 27 (Value.builtin "hex")), (dE P (sL "id") 28 (Value.builtin "id")), (dE P (sL "input") 29 (Value.builtin "input")), (dE P (sL "isinstance") 30 (Value.builtin "isinstance")), (dE P (sL "issubclass") 31 (Value.builtin "issubclass")), (dE P (sL "iter") 32 (Value.builtin "iter")), (dE P (sL "aiter") 33 (Value.builtin "aiter")), (dE P (sL "len") 34 (Value.builtin "len")), (dE P (sL "locals") 35 (Value.builtin "locals")), (dE P (sL "max") 36 (Value.builtin "max")), (dE P (sL "min") 37 (Value.builtin "min")), (dE P (sL "next") 38 (Value.builtin "next")), (dE P (sL "anext") 39 (Value.builtin "anext")), (dE P (sL "oct") 40 (Value.builtin "oct")), (dE P (sL "ord") 41 (Value.builtin "ord")), (dE P (sL "pow") 42 (Value.builtin "pow")), (dE P (sL "print") 43 (Value.builtin "print")), (dE P (sL "repr") 44 (Value.builtin "repr")), (dE P (sL "round") 45 (Value.builtin "round")), (dE P (sL "setattr") 46 (Value.builtin "setattr")), (dE P (sL "sorted") 47 (Value.builtin "sorted")), (dE P (sL "sum") 48 (Value.builtin "sum")), (dE P (sL "vars") 49 (Value.builtin "vars")), (dE P (sL "None") 50 Value.none), (dE P (sL "Ellipsis") 51 Value.ellipsis), (dE P (sL "NotImplemented") 52 Value.notImplemented), (dE P (sL "False") 53 (Value.bool Bool.false)), (dE P (sL "True") 54 (Value.bool Bool.true)), (dE P (sL "bool") 55 (Value.type "bool")), (dE P (sL "memoryview") 56 (Value.type "memoryview")), (dE P (sL "bytearray") 57 (Value.type "bytearray")), (dE P (sL "bytes") 58 (Value.type "bytes")), (dE P (sL "classmethod") 59 (Value.type "classmethod")), (dE P (sL "complex") 60 (Value.type "complex")), (dE P (sL "dict") 61 (Value.type "dict")), (dE P (sL "enumerate") 62 (Value.type "enumerate")), (dE P (sL "filter") 63 (Value.type "filter")), (dE P (sL "float") 64 (Value.type "float")), (dE P (sL "frozenset") 65 (Value.type "frozenset")), (dE P (sL "property") 66 (Value.type "property")), (dE P (sL "int") 67 (Value.type "int")), (dE P (sL "list") 68 (Value.type "list")), (dE P (sL "map") 69 (Value.type "map")), (dE P (sL "object") 70 (Value.type "object")), (dE P (sL "range") 71 (Value.type "range")), (dE P (sL "reversed") 72 (Value.type "reversed")), (dE P (sL "set") 73 (Value.type "set")), (dE P (sL "slice") 74 (Value.type "slice")), (dE P (sL "staticmethod") 75 (Value.type "staticmethod")), (dE P (sL "str") 76 (Value.type "str")), (dE P (sL "super") 77 (Value.type "super")), (dE P (sL "tuple") 78 (Value.type "tuple")), (dE P (sL "type") 79 (Value.type "type")), (dE P (sL "zip") 80 (Value.type "zip")), (dE P (sL "__debug__") 81 (Value.bool Bool.true)), (dE P (sL "BaseException") 82 (Value.type "BaseException")), (dE P (sL "BaseExceptionGroup") 83 (Value.type "BaseExceptionGroup")), (dE P (sL "Exception") 84 (Value.type "Exception")), (dE P (sL "GeneratorExit") 85 (Value.type "GeneratorExit")), (dE P (sL "KeyboardInterrupt") 86 (Value.type "KeyboardInterrupt")), (dE P (sL "SystemExit") 87 (Value.type "SystemExit")), (dE P (sL "ArithmeticError") 88 (Value.type "ArithmeticError")), (dE P (sL "AssertionError") 89 (Value.type "AssertionError")), (dE P (sL "AttributeError") 90 (Value.type "AttributeError")), (dE P (sL "BufferError") 91 (Value.type "BufferError")), (dE P (sL "EOFError") 92 (Value.type "EOFError")), (dE P (sL "ImportError") 93 (Value.type "ImportError")), (dE P (sL "LookupError") 94 (Value.type "LookupError")), (dE P (sL "MemoryError") 95 (Value.type "MemoryError")), (dE P (sL "NameError") 96 (Value.type "NameError")), (dE P (sL "OSError") 97 (Value.type "OSError")), (dE P (sL "ReferenceError") 98 (Value.type "ReferenceError")), (dE P (sL "RuntimeError") 99 (Value.type "RuntimeError")), (dE P (sL "StopAsyncIteration") 100 (Value.type "StopAsyncIteration")), (dE P (sL "StopIteration") 101 (Value.type "StopIteration")), (dE P (sL "SyntaxError") 102 (Value.type "SyntaxError")), (dE P (sL "SystemError") 103 (Value.type "SystemError")), (dE P (sL "TypeError") 104 (Value.type "TypeError")), (dE P (sL "ValueError") 105 (Value.type "ValueError")), (dE P (sL "Warning") 106 (Value.type "Warning")), (dE P (sL "FloatingPointError") 107 (Value.type "FloatingPointError")), (dE P (sL "OverflowError") 108 (Value.type "OverflowError")), (dE P (sL "ZeroDivisionError") 109 (Value.type "ZeroDivisionError")), (dE P (sL "BytesWarning") 110 (Value.type "BytesWarning")), (dE P (sL "DeprecationWarning") 111 (Value.type "DeprecationWarning")), (dE P (sL "EncodingWarning") 112 (Value.type "EncodingWarning")), (dE P (sL "FutureWarning") 113 (Value.type "FutureWarning")), (dE P (sL "ImportWarning") 114 (Value.type "ImportWarning")), (dE P (sL "PendingDeprecationWarning") 115 (Value.type "PendingDeprecationWarning")), (dE P (sL "ResourceWarning") 116 (Value.type "ResourceWarning")), (dE P (sL "RuntimeWarning") 117 (Value.type "RuntimeWarning")), (dE P (sL "SyntaxWarning") 118 (Value.type "SyntaxWarning")), (dE P (sL "UnicodeWarning") 119 (Value.type "UnicodeWarning")), (dE P (sL "UserWarning") 120 (Value.type "UserWarning")), (dE P (sL "BlockingIOError") 121 (Value.type "BlockingIOError")), (dE P (sL "ChildProcessError") 122 (Value.type "ChildProcessError")), (dE P (sL "ConnectionError") 123 (Value.type "ConnectionError")), (dE P (sL "FileExistsError") 124 (Value.type "FileExistsError")), (dE P (sL "FileNotFoundError") 125 (Value.type "FileNotFoundError")), (dE P (sL "InterruptedError") 126 (Value.type "InterruptedError")), (dE P (sL "IsADirectoryError") 127 (Value.type "IsADirectoryError")), (dE P (sL "NotADirectoryError") 128 (Value.type "NotADirectoryError")), (dE P (sL "PermissionError") 129 (Value.type "PermissionError")), (dE P (sL "ProcessLookupError") 130 (Value.type "ProcessLookupError")), (dE P (sL "TimeoutError") 131 (Value.type "TimeoutError")), (dE P (sL "IndentationError") 132 (Value.type "IndentationError")), (dE P (sL "_IncompleteInputError") 133 (Value.type "_IncompleteInputError")), (dE P (sL "IndexError") 134 (Value.type "IndexError")), (dE P (sL "KeyError") 135 (Value.type "KeyError")), (dE P (sL "ModuleNotFoundError") 136 (Value.type "ModuleNotFoundError")), (dE P (sL "NotImplementedError") 137 (Value.type "NotImplementedError")), (dE P (sL "PythonFinalizationError") 138 (Value.type "PythonFinalizationError")), (dE P (sL "RecursionError") 139 (Value.type "RecursionError")), (dE P (sL "UnboundLocalError") 140 (Value.type "UnboundLocalError")), (dE P (sL "UnicodeError") 141 (Value.type "UnicodeError")), (dE P (sL "BrokenPipeError") 142 (Value.type "BrokenPipeError")), (dE P (sL "ConnectionAbortedError") 143 (Value.type "ConnectionAbortedError")), (dE P (sL "ConnectionRefusedError") 144 (Value.type "ConnectionRefusedError")), (dE P (sL "ConnectionResetError") 145 (Value.type "ConnectionResetError")), (dE P (sL "TabError") 146 (Value.type "TabError")), (dE P (sL "UnicodeDecodeError") 147 (Value.type "UnicodeDecodeError")), (dE P (sL "UnicodeEncodeError") 148 (Value.type "UnicodeEncodeError")), (dE P (sL "UnicodeTranslateError") 149 (Value.type "UnicodeTranslateError")), (dE P (sL "ExceptionGroup") 150 (Value.type "ExceptionGroup")), (dE P (sL "EnvironmentError") 151 (Value.type "OSError")), (dE P (sL "IOError") 152 (Value.type "OSError")), (dE P (sL "open") 153 (Value.builtin "open")), (dE P (sL "quit") 154 (Value.builtin "builtins.quit#opaque")), (dE P (sL "exit") 155 (Value.builtin "builtins.exit#opaque")), (dE P (sL "copyright") 156 (Value.builtin "builtins.copyright#opaque")), (dE P (sL "credits") 157 (Value.builtin "builtins.credits#opaque")), (dE P (sL "license") 158 (Value.builtin "builtins.license#opaque")), (dE P (sL "help") 159 (Value.builtin "builtins.help#opaque"))] 159) #[])
noncomputable def ob1 (P : Params) : Obj := (Obj.mk (Value.type "dict") Option.none (Data.dict #[(dE P (sL "builtins") 162 (Value.ref 4)), (dE P (sL "__main__") 163 (Value.ref 5)), (dE P (sL "_sre") 244 (Value.ref 12))] 3) #[])
noncomputable def ob2 (P : Params) : Obj := (Obj.mk Value.none Option.none (Data.dict #[(dE P (mkS' [105, 109, 112, 111, 114, 116, 46, 108, 111, 97, 100, 101, 100, 46, 95, 115, 114, 101]) 183 (Value.bool Bool.true)), (dE P (sL "class._frozen_importlib.BuiltinImporter") 185 (Value.ref 14)), (dE P (mkS' [119, 97, 116, 99, 104, 101, 100, 46, 105, 109, 112, 111, 114, 116]) 206 (Value.ref 18)), (dE P (sL "class._frozen_importlib.ModuleSpec") 216 (Value.ref 22)), (dE P (sL "sys.modules.booked-epoch") 245 (Value.int 3 0)), (dE P (mkS' [105, 109, 112, 111, 114, 116, 46, 108, 97, 116, 101, 114, 45, 108, 97, 105, 100, 46, 95, 115, 114, 101]) 270 (Value.bool Bool.true)), (dE P (sL "watched.library") 272 (Value.ref 27)), (dE P (sL "watched.library-objects") 0 (Value.str (mkS' [12]) 0)), (dE P (sL "watched.library-deep._sre") 273 (Value.str (mkS' [4, 0, 0, 11, 4, 0, 0, 11, 4, 0, 0, 3, 4, 0, 0, 11, 8, 4, 100, 105, 99, 116, 2]) 0))] 9) #[])
noncomputable def ob3 (P : Params) : Obj := (Obj.mk (Value.type "dict") Option.none (Data.dict #[(dE P (sL "__name__") 165 (Value.str (sL "law_ij0109_01") 596)), (dE P (sL "__doc__") 166 Value.none), (dE P (sL "__package__") 167 Value.none), (dE P (sL "__loader__") 168 (Value.builtin "__main__.__loader__#opaque")), (dE P (sL "__spec__") 169 Value.none), (dE P (sL "__annotations__") 170 (Value.ref 6)), (dE P (sL "__builtins__") 171 (Value.ref 4)), (dE P (sL "__file__") 173 (Value.str (sL "/claim/cut.py") 172)), (dE P (sL "__cached__") 174 Value.none), (dE P (sL "_sre") 275 (Value.ref 12)), (dE P (sL "_wall") 288 (Value.ref 38)), (dE P (sL "_twin_re_1") 328 (Value.ref 43)), (dE P (sL "translate") 337 (Value.ref 50)), (dE P (sL "_special_chars_map") 485 (Value.ref 52)), (dE P (sL "escape") 492 (Value.ref 62)), (dE P (sL "_translate") 513 (Value.ref 69)), (dE P (sL "_join_translated_parts") 526 (Value.ref 76)), (dE P (sL "HTTPPasswordMgr") 595 (Value.ref 122)), (dE P (sL "_law_piece") 606 (Value.ref 133)), (dE P (sL "_law_last") 613 (Value.ref 140)), (dE P (sL "_law_in") 619 (Value.ref 145)), (dE P (sL "_law_meant") 632 (Value.ref 152)), (dE P (sL "_law_member") 640 (Value.ref 159)), (dE P (sL "_law_set") 652 (Value.ref 166)), (dE P (sL "_law_read") 664 (Value.ref 173)), (dE P (sL "_law_here") 670 (Value.ref 178)), (dE P (sL "_law_takes") 681 (Value.ref 185)), (dE P (sL "law") 687 (Value.ref 190))] 28) #[])
noncomputable def ob4 (P : Params) : Obj := (Obj.mk (Value.type "module") (Option.some 0) Data.plain #[])
noncomputable def ob5 (P : Params) : Obj := (Obj.mk (Value.type "module") (Option.some 3) Data.plain #[])
noncomputable def ob6 (P : Params) : Obj := (Obj.mk (Value.type "dict") Option.none (Data.dict #[] 0) #[])
noncomputable def ob7 (P : Params) : Obj := (Obj.mk (Value.type "tuple") Option.none (Data.seq #[] 0) #[])
noncomputable def ob8 (P : Params) : Obj := (Obj.mk Value.none Option.none (Data.fields #[]) #[])
noncomputable def ob9 (P : Params) : Obj := (Obj.mk (Value.type "code") Option.none (Data.fields #[(Value.str (sL "<module>") 176), (Value.str (sL "<module>") 177), (Value.str (sL "/claim/cut.py") 178), (Value.int 1 0), (Value.int 0 0), (Value.int 0 0), (Value.int 0 0), (Value.int 0 0), (Value.ref 7), (Value.bool Bool.false), (Value.int 175 0), (Value.ref 8), Value.none, Value.none, Value.none, Value.none, (Value.int 179 0), (Value.int 1 0), (Value.str (sL "/claim/cut.py") 180)]) #[])
noncomputable def ob10 (P : Params) : Obj := (Obj.mk (Value.type "frame") Option.none Data.plain #[(Option.some (Value.ref 9)), (Option.some (Value.ref 3)), (Option.some (Value.ref 3)), Option.none, (Option.some (Value.str (sL "__main__") 164)), Option.none, (Option.some (Value.ref 0))])
noncomputable def ob11 (P : Params) : Obj := (Obj.mk (Value.type "dict") Option.none (Data.dict #[(dE P (sL "__name__") 247 (Value.str (sL "_sre") 246)), (dE P (sL "__doc__") 248 Value.none), (dE P (sL "__package__") 250 (Value.str (sL "") 249)), (dE P (sL "__loader__") 251 (Value.builtin "off-the-table:_sre.__loader__:shared#opaque")), (dE P (sL "__spec__") 252 (Value.builtin "off-the-table:_sre.__spec__:shared#opaque")), (dE P (sL "compile") 253 (Value.builtin "_sre.compile")), (dE P (sL "template") 254 (Value.builtin "off-the-table:_sre.template:shared#opaque")), (dE P (sL "getcodesize") 255 (Value.builtin "off-the-table:_sre.getcodesize:shared#opaque")), (dE P (sL "ascii_iscased") 256 (Value.builtin "off-the-table:_sre.ascii_iscased:shared#opaque")), (dE P (sL "unicode_iscased") 257 (Value.builtin "off-the-table:_sre.unicode_iscased:shared#opaque")), (dE P (sL "ascii_tolower") 258 (Value.builtin "off-the-table:_sre.ascii_tolower:shared#opaque")), (dE P (sL "unicode_tolower") 259 (Value.builtin "off-the-table:_sre.unicode_tolower:shared#opaque")), (dE P (sL "MAGIC") 261 (Value.int 20230612 260)), (dE P (sL "CODESIZE") 263 (Value.int 4 262)), (dE P (sL "MAXREPEAT") 265 (Value.int 4294967295 264)), (dE P (sL "MAXGROUPS") 267 (Value.int 1073741823 266)), (dE P (sL "copyright") 269 (Value.str (sL " SRE 2.2.2 Copyright (c) 1997-2002 by Secret Labs AB ") 268))] 17) #[])
noncomputable def ob12 (P : Params) : Obj := (Obj.mk (Value.type "module") (Option.some 11) Data.plain #[])
noncomputable def ob13 (P : Params) : Obj := (Obj.mk (Value.type "dict") Option.none (Data.dict #[(dE P (sL "__module__") 189 (Value.str (sL "_frozen_importlib") 186)), (dE P (sL "__firstlineno__") 190 (Value.int 971 187)), (dE P (sL "__doc__") 191 (Value.builtin "_frozen_importlib.BuiltinImporter.__doc__:str#opaque")), (dE P (sL "_ORIGIN") 192 (Value.str (sL "built-in") 188)), (dE P (sL "find_spec") 193 (Value.builtin "_frozen_importlib.BuiltinImporter.find_spec#opaque")), (dE P (sL "create_module") 194 (Value.builtin "_frozen_importlib.BuiltinImporter.create_module#opaque")), (dE P (sL "exec_module") 195 (Value.builtin "_frozen_importlib.BuiltinImporter.exec_module#opaque")), (dE P (sL "get_code") 196 (Value.builtin "_frozen_importlib.BuiltinImporter.get_code#opaque")), (dE P (sL "get_source") 197 (Value.builtin "_frozen_importlib.BuiltinImporter.get_source#opaque")), (dE P (sL "is_package") 198 (Value.builtin "_frozen_importlib.BuiltinImporter.is_package#opaque")), (dE P (sL "load_module") 199 (Value.builtin "_frozen_importlib.BuiltinImporter.load_module#opaque")), (dE P (sL "__static_attributes__") 200 (Value.ref 15)), (dE P (sL "__dict__") 202 (Value.ref 16)), (dE P (sL "__weakref__") 204 (Value.ref 17))] 14) #[])
noncomputable def ob14 (P : Params) : Obj := (Obj.mk (Value.type "type") Option.none (Data.cls (ClassData.mk (sL "BuiltinImporter") [(Value.type "object")] [(Value.ref 14), (Value.type "object")] 13 (sL "BuiltinImporter") Bool.true [] [] Bool.false Option.none Bool.false)) #[])
noncomputable def ob15 (P : Params) : Obj := (Obj.mk (Value.type "tuple") Option.none (Data.seq #[] 0) #[])
noncomputable def ob32 (P : Params) : Obj := (Obj.mk (Value.type "tuple") Option.none (Data.seq #[] 0) #[])
noncomputable def ob33 (P : Params) : Obj := (Obj.mk Value.none Option.none (Data.fields #[]) #[])
noncomputable def ob34 (P : Params) : Obj := (Obj.mk (Value.type "tuple") Option.none (Data.seq #[(Value.str (sL "k") 285)] 0) #[])
noncomputable def ob35 (P : Params) : Obj := (Obj.mk (Value.type "tuple") Option.none (Data.seq #[] 0) #[])
noncomputable def ob36 (P : Params) : Obj := (Obj.mk Value.none Option.none (Data.func (fnD (sL "_wall") (sL "_wall") 0 [] Value.none Value.none Value.none Value.none Option.none Value.none Value.none 0)) #[])
noncomputable def ob37 (P : Params) : Obj := (Obj.mk (Value.type "code") Option.none (Data.fields #[(Value.str (sL "_wall") 282), (Value.str (sL "_wall") 283), (Value.str (sL "/claim/cut.py") 284), (Value.int 2 0), (Value.int 1 0), (Value.int 0 0), (Value.int 0 0), (Value.int 3 0), (Value.ref 32), (Value.bool Bool.true), (Value.int 276 0), (Value.ref 33), Value.none, (Value.ref 34), (Value.ref 35), (Value.ref 36), (Value.int 286 0), (Value.int 2 0), (Value.str (sL "/claim/cut.py") 287)]) #[])
noncomputable def ob38 (P : Params) : Obj := (Obj.mk (Value.type "function") Option.none (Data.func (fnD (sL "_wall") (sL "_wall") 3 [] Value.none Value.none Value.none (Value.str (sL "__main__") 164) Option.none (Value.ref 37) Value.none 0)) #[])
noncomputable def ob42 (P : Params) : Obj := (Obj.mk (Value.type "tuple") Option.none (Data.seq #[(Value.int 14 0), (Value.int 14 0), (Value.int 4 0), (Value.int 1 0), (Value.int 1 0), (Value.int 9 0), (Value.int 0 0), (Value.int 64 0), (Value.int 0 0), (Value.int 1342177280 0), (Value.int 0 0), (Value.int 0 0), (Value.int 0 0), (Value.int 0 0), (Value.int 0 0), (Value.int 17 0), (Value.int 0 0), (Value.int 13 0), (Value.int 11 0), (Value.int 9 0), (Value.int 0 0), (Value.int 64 0), (Value.int 0 0), (Value.int 1342177280 0), (Value.int 0 0), (Value.int 0 0), (Value.int 0 0), (Value.int 0 0), (Value.int 0 0), (Value.int 17 0), (Value.int 1 0), (Value.int 1 0)] 0) #[])
noncomputable def ob43 (P : Params) : Obj := (Obj.mk (Value.type "re.Pattern") Option.none (Data.fields #[(Value.str (sL "([&~|])") 292), (Value.int 32 327), (Value.int 1 0), Value.none, Value.none, (Value.ref 42), (Value.int 0 0)]) #[])
noncomputable def ob44 (P : Params) : Obj := (Obj.mk (Value.type "tuple") Option.none (Data.seq #[] 0) #[])
noncomputable def ob45 (P : Params) : Obj := (Obj.mk Value.none Option.none (Data.fields #[]) #[])
noncomputable def ob46 (P : Params) : Obj := (Obj.mk (Value.type "tuple") Option.none (Data.seq #[(Value.str (sL "pat") 332), (Value.str (sL "STAR") 333), (Value.str (sL "parts") 334)] 0) #[])
noncomputable def ob47 (P : Params) : Obj := (Obj.mk (Value.type "tuple") Option.none (Data.seq #[] 0) #[])
noncomputable def ob48 (P : Params) : Obj := (Obj.mk Value.none Option.none (Data.func (fnD (sL "translate") (sL "translate") 0 [] Value.none Value.none Value.none Value.none Option.none Value.none Value.none 0)) #[])
noncomputable def ob49 (P : Params) : Obj := (Obj.mk (Value.type "code") Option.none (Data.fields #[(Value.str (sL "translate") 329), (Value.str (sL "translate") 330), (Value.str (sL "/claim/cut.py") 331), (Value.int 7 0), (Value.int 1 0), (Value.int 0 0), (Value.int 0 0), (Value.int 3 0), (Value.ref 44), (Value.bool Bool.true), (Value.int 276 0), (Value.ref 45), Value.none, (Value.ref 46), (Value.ref 47), (Value.ref 48), (Value.int 335 0), (Value.int 7 0), (Value.str (sL "/claim/cut.py") 336)]) #[])
noncomputable def ob50 (P : Params) : Obj := (Obj.mk (Value.type "function") Option.none (Data.func (fnD (sL "translate") (sL "translate") 3 [] Value.none Value.none Value.none (Value.str (sL "cpy313.fnmatch") 289) Option.none (Value.ref 49) Value.none 0)) #[])
noncomputable def ob52 (P : Params) : Obj := (Obj.mk (Value.type "dict") Option.none (Data.dict #[(DictEntry.mk 40 (Value.int 40 341) (Value.str (sL "\\(") 345)), (DictEntry.mk 41 (Value.int 41 347) (Value.str (sL "\\)") 351)), (DictEntry.mk 91 (Value.int 91 353) (Value.str (sL "\\[") 357)), (DictEntry.mk 93 (Value.int 93 359) (Value.str (sL "\\]") 363)), (DictEntry.mk 123 (Value.int 123 365) (Value.str (sL "\\{") 369)), (DictEntry.mk 125 (Value.int 125 371) (Value.str (sL "\\}") 375)), (DictEntry.mk 63 (Value.int 63 377) (Value.str (sL "\\?") 381)), (DictEntry.mk 42 (Value.int 42 383) (Value.str (sL "\\*") 387)), (DictEntry.mk 43 (Value.int 43 389) (Value.str (sL "\\+") 393)), (DictEntry.mk 45 (Value.int 45 395) (Value.str (sL "\\-") 399)), (DictEntry.mk 124 (Value.int 124 401) (Value.str (sL "\\|") 405)), (DictEntry.mk 94 (Value.int 94 407) (Value.str (sL "\\^") 411)), (DictEntry.mk 36 (Value.int 36 413) (Value.str (sL "\\$") 417)), (DictEntry.mk 92 (Value.int 92 419) (Value.str (sL "\\\\") 423)), (DictEntry.mk 46 (Value.int 46 425) (Value.str (sL "\\.") 429)), (DictEntry.mk 38 (Value.int 38 431) (Value.str (sL "\\&") 435)), (DictEntry.mk 126 (Value.int 126 437) (Value.str (sL "\\~") 441)), (DictEntry.mk 35 (Value.int 35 443) (Value.str (sL "\\#") 447)), (DictEntry.mk 32 (Value.int 32 449) (Value.str (sL "\\ ") 453)), (DictEntry.mk 9 (Value.int 9 455) (Value.str (mkS' [92, 9]) 459)), (DictEntry.mk 10 (Value.int 10 461) (Value.str (mkS' [92, 10]) 465)), (DictEntry.mk 13 (Value.int 13 467) (Value.str (mkS' [92, 13]) 471)), (DictEntry.mk 11 (Value.int 11 473) (Value.str (mkS' [92, 11]) 477)), (DictEntry.mk 12 (Value.int 12 479) (Value.str (mkS' [92, 12]) 483))] 24) #[])
noncomputable def ob56 (P : Params) : Obj := (Obj.mk (Value.type "tuple") Option.none (Data.seq #[] 0) #[])
noncomputable def ob57 (P : Params) : Obj := (Obj.mk Value.none Option.none (Data.fields #[]) #[])
noncomputable def ob58 (P : Params) : Obj := (Obj.mk (Value.type "tuple") Option.none (Data.seq #[(Value.str (sL "pattern") 489)] 0) #[])
noncomputable def ob59 (P : Params) : Obj := (Obj.mk (Value.type "tuple") Option.none (Data.seq #[] 0) #[])
noncomputable def ob60 (P : Params) : Obj := (Obj.mk Value.none Option.none (Data.func (fnD (sL "escape") (sL "escape") 0 [] Value.none Value.none Value.none Value.none Option.none Value.none Value.none 0)) #[])
noncomputable def ob61 (P : Params) : Obj := (Obj.mk (Value.type "code") Option.none (Data.fields #[(Value.str (sL "escape") 486), (Value.str (sL "escape") 487), (Value.str (sL "/claim/cut.py") 488), (Value.int 13 0), (Value.int 1 0), (Value.int 0 0), (Value.int 0 0), (Value.int 3 0), (Value.ref 56), (Value.bool Bool.true), (Value.int 276 0), (Value.ref 57), Value.none, (Value.ref 58), (Value.ref 59), (Value.ref 60), (Value.int 490 0), (Value.int 13 0), (Value.str (sL "/claim/cut.py") 491)]) #[])
noncomputable def ob62 (P : Params) : Obj := (Obj.mk (Value.type "function") Option.none (Data.func (fnD (sL "escape") (sL "escape") 3 [] Value.none Value.none Value.none (Value.str (sL "re") 338) Option.none (Value.ref 61) Value.none 0)) #[])
noncomputable def ob63 (P : Params) : Obj := (Obj.mk (Value.type "tuple") Option.none (Data.seq #[] 0) #[])
noncomputable def ob64 (P : Params) : Obj := (Obj.mk Value.none Option.none (Data.fields #[]) #[])
noncomputable def ob65 (P : Params) : Obj := (Obj.mk (Value.type "tuple") Option.none (Data.seq #[(Value.str (sL "pat") 498), (Value.str (sL "STAR") 499), (Value.str (sL "QUESTION_MARK") 500), (Value.str (sL "res") 501), (Value.str (sL "add") 502), (Value.str (sL "i") 503), (Value.str (sL "n") 504), (Value.str (sL "c") 505), (Value.str (sL "j") 506), (Value.str (sL "stuff") 507), (Value.str (sL "chunks") 508), (Value.str (sL "k") 509), (Value.str (sL "chunk") 510)] 0) #[])
noncomputable def ob66 (P : Params) : Obj := (Obj.mk (Value.type "tuple") Option.none (Data.seq #[] 0) #[])
noncomputable def ob67 (P : Params) : Obj := (Obj.mk Value.none Option.none (Data.func (fnD (sL "_translate") (sL "_translate") 0 [] Value.none Value.none Value.none Value.none Option.none Value.none Value.none 0)) #[])
noncomputable def ob68 (P : Params) : Obj := (Obj.mk (Value.type "code") Option.none (Data.fields #[(Value.str (sL "_translate") 495), (Value.str (sL "_translate") 496), (Value.str (sL "/claim/cut.py") 497), (Value.int 20 0), (Value.int 3 0), (Value.int 0 0), (Value.int 0 0), (Value.int 3 0), (Value.ref 63), (Value.bool Bool.true), (Value.int 276 0), (Value.ref 64), Value.none, (Value.ref 65), (Value.ref 66), (Value.ref 67), (Value.int 511 0), (Value.int 20 0), (Value.str (sL "/claim/cut.py") 512)]) #[])
noncomputable def ob69 (P : Params) : Obj := (Obj.mk (Value.type "function") Option.none (Data.func (fnD (sL "_translate") (sL "_translate") 3 [] Value.none Value.none Value.none (Value.str (sL "cpy313.fnmatch") 493) Option.none (Value.ref 68) Value.none 0)) #[])
noncomputable def ob70 (P : Params) : Obj := (Obj.mk (Value.type "tuple") Option.none (Data.seq #[] 0) #[])
noncomputable def ob71 (P : Params) : Obj := (Obj.mk Value.none Option.none (Data.fields #[]) #[])
noncomputable def ob72 (P : Params) : Obj := (Obj.mk (Value.type "tuple") Option.none (Data.seq #[(Value.str (sL "inp") 517), (Value.str (sL "STAR") 518), (Value.str (sL "res") 519), (Value.str (sL "add") 520), (Value.str (sL "i") 521), (Value.str (sL "n") 522), (Value.str (sL "fixed") 523)] 0) #[])
noncomputable def ob73 (P : Params) : Obj := (Obj.mk (Value.type "tuple") Option.none (Data.seq #[] 0) #[])
noncomputable def ob74 (P : Params) : Obj := (Obj.mk Value.none Option.none (Data.func (fnD (sL "_join_translated_parts") (sL "_join_translated_parts") 0 [] Value.none Value.none Value.none Value.none Option.none Value.none Value.none 0)) #[])
noncomputable def ob75 (P : Params) : Obj := (Obj.mk (Value.type "code") Option.none (Data.fields #[(Value.str (sL "_join_translated_parts") 514), (Value.str (sL "_join_translated_parts") 515), (Value.str (sL "/claim/cut.py") 516), (Value.int 82 0), (Value.int 2 0), (Value.int 0 0), (Value.int 0 0), (Value.int 3 0), (Value.ref 70), (Value.bool Bool.true), (Value.int 276 0), (Value.ref 71), Value.none, (Value.ref 72), (Value.ref 73), (Value.ref 74), (Value.int 524 0), (Value.int 82 0), (Value.str (sL "/claim/cut.py") 525)]) #[])
noncomputable def ob76 (P : Params) : Obj := (Obj.mk (Value.type "function") Option.none (Data.func (fnD (sL "_join_translated_parts") (sL "_join_translated_parts") 3 [] Value.none Value.none Value.none (Value.str (sL "cpy313.fnmatch") 493) Option.none (Value.ref 75) Value.none 0)) #[])
noncomputable def ob84 (P : Params) : Obj := (Obj.mk (Value.type "tuple") Option.none (Data.seq #[] 0) #[])
noncomputable def ob85 (P : Params) : Obj := (Obj.mk Value.none Option.none (Data.fields #[]) #[])
noncomputable def ob86 (P : Params) : Obj := (Obj.mk (Value.type "tuple") Option.none (Data.seq #[(Value.str (sL "self") 544)] 0) #[])
noncomputable def ob87 (P : Params) : Obj := (Obj.mk (Value.type "tuple") Option.none (Data.seq #[] 0) #[])
noncomputable def ob88 (P : Params) : Obj := (Obj.mk Value.none Option.none (Data.func (fnD (sL "__init__") (sL "HTTPPasswordMgr.__init__") 0 [] Value.none Value.none Value.none Value.none Option.none Value.none Value.none 0)) #[])
noncomputable def ob89 (P : Params) : Obj := (Obj.mk (Value.type "code") Option.none (Data.fields #[(Value.str (sL "__init__") 541), (Value.str (sL "HTTPPasswordMgr.__init__") 542), (Value.str (sL "/claim/cut.py") 543), (Value.int 112 0), (Value.int 1 0), (Value.int 0 0), (Value.int 0 0), (Value.int 3 0), (Value.ref 84), (Value.bool Bool.true), (Value.int 276 0), (Value.ref 85), Value.none, (Value.ref 86), (Value.ref 87), (Value.ref 88), (Value.int 545 0), (Value.int 112 0), (Value.str (sL "/claim/cut.py") 546)]) #[])
noncomputable def ob90 (P : Params) : Obj := (Obj.mk (Value.type "function") Option.none (Data.func (fnD (sL "__init__") (sL "HTTPPasswordMgr.__init__") 3 [] Value.none Value.none Value.none (Value.str (sL "cpy313.urllib.request") 527) Option.none (Value.ref 89) Value.none 0)) #[])
noncomputable def ob91 (P : Params) : Obj := (Obj.mk (Value.type "tuple") Option.none (Data.seq #[] 0) #[])
noncomputable def ob92 (P : Params) : Obj := (Obj.mk Value.none Option.none (Data.fields #[]) #[])
noncomputable def ob93 (P : Params) : Obj := (Obj.mk (Value.type "tuple") Option.none (Data.seq #[(Value.str (sL "self") 551), (Value.str (sL "realm") 552), (Value.str (sL "uri") 553), (Value.str (sL "user") 554), (Value.str (sL "passwd") 555)] 0) #[])
noncomputable def ob94 (P : Params) : Obj := (Obj.mk (Value.type "tuple") Option.none (Data.seq #[] 0) #[])
noncomputable def ob95 (P : Params) : Obj := (Obj.mk Value.none Option.none (Data.func (fnD (sL "add_password") (sL "HTTPPasswordMgr.add_password") 0 [] Value.none Value.none Value.none Value.none Option.none Value.none Value.none 0)) #[])
noncomputable def ob96 (P : Params) : Obj := (Obj.mk (Value.type "code") Option.none (Data.fields #[(Value.str (sL "add_password") 548), (Value.str (sL "HTTPPasswordMgr.add_password") 549), (Value.str (sL "/claim/cut.py") 550), (Value.int 115 0), (Value.int 5 0), (Value.int 0 0), (Value.int 0 0), (Value.int 3 0), (Value.ref 91), (Value.bool Bool.true), (Value.int 276 0), (Value.ref 92), Value.none, (Value.ref 93), (Value.ref 94), (Value.ref 95), (Value.int 556 0), (Value.int 115 0), (Value.str (sL "/claim/cut.py") 557)]) #[])
noncomputable def ob97 (P : Params) : Obj := (Obj.mk (Value.type "function") Option.none (Data.func (fnD (sL "add_password") (sL "HTTPPasswordMgr.add_password") 3 [] Value.none Value.none Value.none (Value.str (sL "cpy313.urllib.request") 527) Option.none (Value.ref 96) Value.none 0)) #[])
noncomputable def ob98 (P : Params) : Obj := (Obj.mk (Value.type "tuple") Option.none (Data.seq #[] 0) #[])
noncomputable def ob99 (P : Params) : Obj := (Obj.mk Value.none Option.none (Data.fields #[]) #[])
noncomputable def ob100 (P : Params) : Obj := (Obj.mk (Value.type "tuple") Option.none (Data.seq #[(Value.str (sL "self") 562), (Value.str (sL "realm") 563), (Value.str (sL "authuri") 564)] 0) #[])
noncomputable def ob101 (P : Params) : Obj := (Obj.mk (Value.type "tuple") Option.none (Data.seq #[] 0) #[])
noncomputable def ob102 (P : Params) : Obj := (Obj.mk Value.none Option.none (Data.func (fnD (sL "find_user_password") (sL "HTTPPasswordMgr.find_user_password") 0 [] Value.none Value.none Value.none Value.none Option.none Value.none Value.none 0)) #[])
noncomputable def ob103 (P : Params) : Obj := (Obj.mk (Value.type "code") Option.none (Data.fields #[(Value.str (sL "find_user_password") 559), (Value.str (sL "HTTPPasswordMgr.find_user_password") 560), (Value.str (sL "/claim/cut.py") 561), (Value.int 118 0), (Value.int 3 0), (Value.int 0 0), (Value.int 0 0), (Value.int 3 0), (Value.ref 98), (Value.bool Bool.true), (Value.int 276 0), (Value.ref 99), Value.none, (Value.ref 100), (Value.ref 101), (Value.ref 102), (Value.int 565 0), (Value.int 118 0), (Value.str (sL "/claim/cut.py") 566)]) #[])
noncomputable def ob104 (P : Params) : Obj := (Obj.mk (Value.type "function") Option.none (Data.func (fnD (sL "find_user_password") (sL "HTTPPasswordMgr.find_user_password") 3 [] Value.none Value.none Value.none (Value.str (sL "cpy313.urllib.request") 527) Option.none (Value.ref 103) Value.none 0)) #[])
noncomputable def ob105 (P : Params) : Obj := (Obj.mk (Value.type "tuple") Option.none (Data.seq #[(Value.bool Bool.true)] 0) #[])
noncomputable def ob106 (P : Params) : Obj := (Obj.mk (Value.type "tuple") Option.none (Data.seq #[] 0) #[])
noncomputable def ob107 (P : Params) : Obj := (Obj.mk Value.none Option.none (Data.fields #[]) #[])
noncomputable def ob108 (P : Params) : Obj := (Obj.mk (Value.type "tuple") Option.none (Data.seq #[(Value.str (sL "self") 571), (Value.str (sL "uri") 572), (Value.str (sL "default_port") 573)] 0) #[])
noncomputable def ob109 (P : Params) : Obj := (Obj.mk (Value.type "tuple") Option.none (Data.seq #[] 0) #[])
noncomputable def ob110 (P : Params) : Obj := (Obj.mk Value.none Option.none (Data.func (fnD (sL "reduce_uri") (sL "HTTPPasswordMgr.reduce_uri") 0 [] Value.none Value.none Value.none Value.none Option.none Value.none Value.none 0)) #[])
noncomputable def ob111 (P : Params) : Obj := (Obj.mk (Value.type "code") Option.none (Data.fields #[(Value.str (sL "reduce_uri") 568), (Value.str (sL "HTTPPasswordMgr.reduce_uri") 569), (Value.str (sL "/claim/cut.py") 570), (Value.int 121 0), (Value.int 3 0), (Value.int 0 0), (Value.int 0 0), (Value.int 3 0), (Value.ref 106), (Value.bool Bool.true), (Value.int 276 0), (Value.ref 107), Value.none, (Value.ref 108), (Value.ref 109), (Value.ref 110), (Value.int 574 0), (Value.int 121 0), (Value.str (sL "/claim/cut.py") 575)]) #[])
noncomputable def ob112 (P : Params) : Obj := (Obj.mk (Value.type "function") Option.none (Data.func (fnD (sL "reduce_uri") (sL "HTTPPasswordMgr.reduce_uri") 3 [] (Value.ref 105) Value.none Value.none (Value.str (sL "cpy313.urllib.request") 527) Option.none (Value.ref 111) Value.none 0)) #[])
noncomputable def ob113 (P : Params) : Obj := (Obj.mk (Value.type "tuple") Option.none (Data.seq #[] 0) #[])
noncomputable def ob114 (P : Params) : Obj := (Obj.mk Value.none Option.none (Data.fields #[]) #[])
noncomputable def ob115 (P : Params) : Obj := (Obj.mk (Value.type "tuple") Option.none (Data.seq #[(Value.str (sL "self") 580), (Value.str (sL "base") 581), (Value.str (sL "test") 582), (Value.str (sL "prefix") 583)] 0) #[])
noncomputable def ob116 (P : Params) : Obj := (Obj.mk (Value.type "tuple") Option.none (Data.seq #[] 0) #[])
noncomputable def ob117 (P : Params) : Obj := (Obj.mk Value.none Option.none (Data.func (fnD (sL "is_suburi") (sL "HTTPPasswordMgr.is_suburi") 0 [] Value.none Value.none Value.none Value.none Option.none Value.none Value.none 0)) #[])
noncomputable def ob118 (P : Params) : Obj := (Obj.mk (Value.type "code") Option.none (Data.fields #[(Value.str (sL "is_suburi") 577), (Value.str (sL "HTTPPasswordMgr.is_suburi") 578), (Value.str (sL "/claim/cut.py") 579), (Value.int 124 0), (Value.int 3 0), (Value.int 0 0), (Value.int 0 0), (Value.int 3 0), (Value.ref 113), (Value.bool Bool.true), (Value.int 276 0), (Value.ref 114), Value.none, (Value.ref 115), (Value.ref 116), (Value.ref 117), (Value.int 584 0), (Value.int 124 0), (Value.str (sL "/claim/cut.py") 585)]) #[])
noncomputable def ob119 (P : Params) : Obj := (Obj.mk (Value.type "function") Option.none (Data.func (fnD (sL "is_suburi") (sL "HTTPPasswordMgr.is_suburi") 3 [] Value.none Value.none Value.none (Value.str (sL "cpy313.urllib.request") 527) Option.none (Value.ref 118) Value.none 0)) #[])
noncomputable def ob120 (P : Params) : Obj := (Obj.mk (Value.type "tuple") Option.none (Data.seq #[(Value.str (sL "passwd") 587)] 0) #[])
noncomputable def ob121 (P : Params) : Obj := (Obj.mk (Value.type "dict") Option.none (Data.dict #[(dE P (sL "__module__") 536 (Value.str (sL "cpy313.urllib.request") 527)), (dE P (sL "__firstlineno__") 540 (Value.int 110 539)), (dE P (sL "__init__") 547 (Value.ref 90)), (dE P (sL "add_password") 558 (Value.ref 97)), (dE P (sL "find_user_password") 567 (Value.ref 104)), (dE P (sL "reduce_uri") 576 (Value.ref 112)), (dE P (sL "is_suburi") 586 (Value.ref 119)), (dE P (sL "__static_attributes__") 588 (Value.ref 120)), (dE P (sL "__dict__") 590 (Value.ref 123)), (dE P (sL "__weakref__") 592 (Value.ref 124)), (dE P (sL "__doc__") 593 Value.none)] 4) #[])
noncomputable def ob122 (P : Params) : Obj := (Obj.mk (Value.type "type") Option.none (Data.cls (ClassData.mk (sL "HTTPPasswordMgr") [(Value.type "object")] [(Value.ref 122), (Value.type "object")] 121 (sL "HTTPPasswordMgr") Bool.true [] [] Bool.false Option.none Bool.false)) #[Option.none, Option.none, (Option.some (Value.str (sL "HTTPPasswordMgr") 529)), (Option.some (Value.str (sL "HTTPPasswordMgr") 537)), (Option.some (Value.builtin "object.__new__")), (Option.some (Value.bool Bool.true))])
noncomputable def ob123 (P : Params) : Obj := (Obj.mk (Value.type "getset_descriptor") Option.none (Data.fields #[(Value.str (sL "__dict__") 589), (Value.ref 122), (Value.builtin "function.__dict__"), (Value.builtin "function.__dict__#set")]) #[])
noncomputable def ob124 (P : Params) : Obj := (Obj.mk (Value.type "getset_descriptor") Option.none (Data.fields #[(Value.str (sL "__weakref__") 591), (Value.ref 122), (Value.builtin "ExceptionGroup.__weakref__"), Value.none]) #[])
noncomputable def ob127 (P : Params) : Obj := (Obj.mk (Value.type "tuple") Option.none (Data.seq #[] 0) #[])
noncomputable def ob128 (P : Params) : Obj := (Obj.mk Value.none Option.none (Data.fields #[]) #[])
noncomputable def ob129 (P : Params) : Obj := (Obj.mk (Value.type "tuple") Option.none (Data.seq #[(Value.str (sL "kind") 601), (Value.str (sL "more") 602), (Value.str (sL "sign") 603)] 0) #[])
noncomputable def ob130 (P : Params) : Obj := (Obj.mk (Value.type "tuple") Option.none (Data.seq #[] 0) #[])
noncomputable def ob131 (P : Params) : Obj := (Obj.mk Value.none Option.none (Data.func (fnD (sL "_law_piece") (sL "_law_piece") 0 [] Value.none Value.none Value.none Value.none Option.none Value.none Value.none 0)) #[])
noncomputable def ob132 (P : Params) : Obj := (Obj.mk (Value.type "code") Option.none (Data.fields #[(Value.str (sL "_law_piece") 598), (Value.str (sL "_law_piece") 599), (Value.str (sL "/claim/cut.py") 600), (Value.int 134 0), (Value.int 2 0), (Value.int 0 0), (Value.int 0 0), (Value.int 3 0), (Value.ref 127), (Value.bool Bool.true), (Value.int 276 0), (Value.ref 128), Value.none, (Value.ref 129), (Value.ref 130), (Value.ref 131), (Value.int 604 0), (Value.int 134 0), (Value.str (sL "/claim/cut.py") 605)]) #[])
noncomputable def ob133 (P : Params) : Obj := (Obj.mk (Value.type "function") Option.none (Data.func (fnD (sL "_law_piece") (sL "_law_piece") 3 [] Value.none Value.none Value.none (Value.str (sL "law_ij0109_01") 596) Option.none (Value.ref 132) Value.none 0)) #[])
noncomputable def ob134 (P : Params) : Obj := (Obj.mk (Value.type "tuple") Option.none (Data.seq #[] 0) #[])
noncomputable def ob135 (P : Params) : Obj := (Obj.mk Value.none Option.none (Data.fields #[]) #[])
noncomputable def ob136 (P : Params) : Obj := (Obj.mk (Value.type "tuple") Option.none (Data.seq #[(Value.str (sL "number") 610)] 0) #[])
noncomputable def ob137 (P : Params) : Obj := (Obj.mk (Value.type "tuple") Option.none (Data.seq #[] 0) #[])
noncomputable def ob138 (P : Params) : Obj := (Obj.mk Value.none Option.none (Data.func (fnD (sL "_law_last") (sL "_law_last") 0 [] Value.none Value.none Value.none Value.none Option.none Value.none Value.none 0)) #[])
noncomputable def ob139 (P : Params) : Obj := (Obj.mk (Value.type "code") Option.none (Data.fields #[(Value.str (sL "_law_last") 607), (Value.str (sL "_law_last") 608), (Value.str (sL "/claim/cut.py") 609), (Value.int 149 0), (Value.int 1 0), (Value.int 0 0), (Value.int 0 0), (Value.int 3 0), (Value.ref 134), (Value.bool Bool.true), (Value.int 276 0), (Value.ref 135), Value.none, (Value.ref 136), (Value.ref 137), (Value.ref 138), (Value.int 611 0), (Value.int 149 0), (Value.str (sL "/claim/cut.py") 612)]) #[])
noncomputable def ob140 (P : Params) : Obj := (Obj.mk (Value.type "function") Option.none (Data.func (fnD (sL "_law_last") (sL "_law_last") 3 [] Value.none Value.none Value.none (Value.str (sL "law_ij0109_01") 596) Option.none (Value.ref 139) Value.none 0)) #[])
noncomputable def ob141 (P : Params) : Obj := (Obj.mk (Value.type "tuple") Option.none (Data.seq #[] 0) #[])
noncomputable def ob142 (P : Params) : Obj := (Obj.mk Value.none Option.none (Data.fields #[]) #[])
noncomputable def ob143 (P : Params) : Obj := (Obj.mk Value.none Option.none (Data.func (fnD (sL "_law_in") (sL "_law_in") 0 [] Value.none Value.none Value.none Value.none Option.none Value.none Value.none 0)) #[])
noncomputable def ob144 (P : Params) : Obj := (Obj.mk (Value.type "code") Option.none (Data.fields #[(Value.str (sL "_law_in") 614), (Value.str (sL "_law_in") 615), (Value.str (sL "/claim/cut.py") 616), (Value.int 155 0), (Value.int 2 0), (Value.int 0 0), (Value.int 0 0), (Value.int 3 0), (Value.ref 141), (Value.bool Bool.true), (Value.int 276 0), (Value.ref 142), Value.none, Value.none, Value.none, (Value.ref 143), (Value.int 617 0), (Value.int 155 0), (Value.str (sL "/claim/cut.py") 618)]) #[])
noncomputable def ob145 (P : Params) : Obj := (Obj.mk (Value.type "function") Option.none (Data.func (fnD (sL "_law_in") (sL "_law_in") 3 [] Value.none Value.none Value.none (Value.str (sL "law_ij0109_01") 596) Option.none (Value.ref 144) Value.none 0)) #[])
noncomputable def ob146 (P : Params) : Obj := (Obj.mk (Value.type "tuple") Option.none (Data.seq #[] 0) #[])
noncomputable def ob147 (P : Params) : Obj := (Obj.mk Value.none Option.none (Data.fields #[]) #[])
noncomputable def ob148 (P : Params) : Obj := (Obj.mk (Value.type "tuple") Option.none (Data.seq #[(Value.str (sL "items") 623), (Value.str (sL "path") 624), (Value.str (sL "reach") 625), (Value.str (sL "meant") 626), (Value.str (sL "k") 627), (Value.str (sL "place") 628), (Value.str (sL "after") 629)] 0) #[])
noncomputable def ob149 (P : Params) : Obj := (Obj.mk (Value.type "tuple") Option.none (Data.seq #[] 0) #[])
noncomputable def ob150 (P : Params) : Obj := (Obj.mk Value.none Option.none (Data.func (fnD (sL "_law_meant") (sL "_law_meant") 0 [] Value.none Value.none Value.none Value.none Option.none Value.none Value.none 0)) #[])
noncomputable def ob151 (P : Params) : Obj := (Obj.mk (Value.type "code") Option.none (Data.fields #[(Value.str (sL "_law_meant") 620), (Value.str (sL "_law_meant") 621), (Value.str (sL "/claim/cut.py") 622), (Value.int 158 0), (Value.int 2 0), (Value.int 0 0), (Value.int 0 0), (Value.int 3 0), (Value.ref 146), (Value.bool Bool.true), (Value.int 276 0), (Value.ref 147), Value.none, (Value.ref 148), (Value.ref 149), (Value.ref 150), (Value.int 630 0), (Value.int 158 0), (Value.str (sL "/claim/cut.py") 631)]) #[])
noncomputable def ob152 (P : Params) : Obj := (Obj.mk (Value.type "function") Option.none (Data.func (fnD (sL "_law_meant") (sL "_law_meant") 3 [] Value.none Value.none Value.none (Value.str (sL "law_ij0109_01") 596) Option.none (Value.ref 151) Value.none 0)) #[])
noncomputable def ob153 (P : Params) : Obj := (Obj.mk (Value.type "tuple") Option.none (Data.seq #[] 0) #[])
noncomputable def ob154 (P : Params) : Obj := (Obj.mk Value.none Option.none (Data.fields #[]) #[])
noncomputable def ob155 (P : Params) : Obj := (Obj.mk (Value.type "tuple") Option.none (Data.seq #[(Value.str (sL "body") 636), (Value.str (sL "at") 637)] 0) #[])
noncomputable def ob156 (P : Params) : Obj := (Obj.mk (Value.type "tuple") Option.none (Data.seq #[] 0) #[])
noncomputable def ob157 (P : Params) : Obj := (Obj.mk Value.none Option.none (Data.func (fnD (sL "_law_member") (sL "_law_member") 0 [] Value.none Value.none Value.none Value.none Option.none Value.none Value.none 0)) #[])
noncomputable def ob158 (P : Params) : Obj := (Obj.mk (Value.type "code") Option.none (Data.fields #[(Value.str (sL "_law_member") 633), (Value.str (sL "_law_member") 634), (Value.str (sL "/claim/cut.py") 635), (Value.int 175 0), (Value.int 2 0), (Value.int 0 0), (Value.int 0 0), (Value.int 3 0), (Value.ref 153), (Value.bool Bool.true), (Value.int 276 0), (Value.ref 154), Value.none, (Value.ref 155), (Value.ref 156), (Value.ref 157), (Value.int 638 0), (Value.int 175 0), (Value.str (sL "/claim/cut.py") 639)]) #[])
noncomputable def ob159 (P : Params) : Obj := (Obj.mk (Value.type "function") Option.none (Data.func (fnD (sL "_law_member") (sL "_law_member") 3 [] Value.none Value.none Value.none (Value.str (sL "law_ij0109_01") 596) Option.none (Value.ref 158) Value.none 0)) #[])
noncomputable def ob160 (P : Params) : Obj := (Obj.mk (Value.type "tuple") Option.none (Data.seq #[] 0) #[])
noncomputable def ob161 (P : Params) : Obj := (Obj.mk Value.none Option.none (Data.fields #[]) #[])
noncomputable def ob162 (P : Params) : Obj := (Obj.mk (Value.type "tuple") Option.none (Data.seq #[(Value.str (sL "body") 644), (Value.str (sL "at") 645), (Value.str (sL "barred") 646), (Value.str (sL "ranges") 647), (Value.str (sL "low") 648), (Value.str (sL "high") 649)] 0) #[])
noncomputable def ob163 (P : Params) : Obj := (Obj.mk (Value.type "tuple") Option.none (Data.seq #[] 0) #[])
noncomputable def ob164 (P : Params) : Obj := (Obj.mk Value.none Option.none (Data.func (fnD (sL "_law_set") (sL "_law_set") 0 [] Value.none Value.none Value.none Value.none Option.none Value.none Value.none 0)) #[])
noncomputable def ob165 (P : Params) : Obj := (Obj.mk (Value.type "code") Option.none (Data.fields #[(Value.str (sL "_law_set") 641), (Value.str (sL "_law_set") 642), (Value.str (sL "/claim/cut.py") 643), (Value.int 179 0), (Value.int 2 0), (Value.int 0 0), (Value.int 0 0), (Value.int 3 0), (Value.ref 160), (Value.bool Bool.true), (Value.int 276 0), (Value.ref 161), Value.none, (Value.ref 162), (Value.ref 163), (Value.ref 164), (Value.int 650 0), (Value.int 179 0), (Value.str (sL "/claim/cut.py") 651)]) #[])
noncomputable def ob166 (P : Params) : Obj := (Obj.mk (Value.type "function") Option.none (Data.func (fnD (sL "_law_set") (sL "_law_set") 3 [] Value.none Value.none Value.none (Value.str (sL "law_ij0109_01") 596) Option.none (Value.ref 165) Value.none 0)) #[])
noncomputable def ob167 (P : Params) : Obj := (Obj.mk (Value.type "tuple") Option.none (Data.seq #[] 0) #[])
noncomputable def ob168 (P : Params) : Obj := (Obj.mk Value.none Option.none (Data.fields #[]) #[])
noncomputable def ob169 (P : Params) : Obj := (Obj.mk (Value.type "tuple") Option.none (Data.seq #[(Value.str (sL "text") 656), (Value.str (sL "body") 657), (Value.str (sL "runs") 658), (Value.str (sL "at") 659), (Value.str (sL "item") 660), (Value.str (sL "sign") 661)] 0) #[])
noncomputable def ob170 (P : Params) : Obj := (Obj.mk (Value.type "tuple") Option.none (Data.seq #[] 0) #[])
noncomputable def ob171 (P : Params) : Obj := (Obj.mk Value.none Option.none (Data.func (fnD (sL "_law_read") (sL "_law_read") 0 [] Value.none Value.none Value.none Value.none Option.none Value.none Value.none 0)) #[])
noncomputable def ob172 (P : Params) : Obj := (Obj.mk (Value.type "code") Option.none (Data.fields #[(Value.str (sL "_law_read") 653), (Value.str (sL "_law_read") 654), (Value.str (sL "/claim/cut.py") 655), (Value.int 191 0), (Value.int 1 0), (Value.int 0 0), (Value.int 0 0), (Value.int 3 0), (Value.ref 167), (Value.bool Bool.true), (Value.int 276 0), (Value.ref 168), Value.none, (Value.ref 169), (Value.ref 170), (Value.ref 171), (Value.int 662 0), (Value.int 191 0), (Value.str (sL "/claim/cut.py") 663)]) #[])
noncomputable def ob173 (P : Params) : Obj := (Obj.mk (Value.type "function") Option.none (Data.func (fnD (sL "_law_read") (sL "_law_read") 3 [] Value.none Value.none Value.none (Value.str (sL "law_ij0109_01") 596) Option.none (Value.ref 172) Value.none 0)) #[])
noncomputable def ob174 (P : Params) : Obj := (Obj.mk (Value.type "tuple") Option.none (Data.seq #[] 0) #[])
noncomputable def ob175 (P : Params) : Obj := (Obj.mk Value.none Option.none (Data.fields #[]) #[])
noncomputable def ob176 (P : Params) : Obj := (Obj.mk Value.none Option.none (Data.func (fnD (sL "_law_here") (sL "_law_here") 0 [] Value.none Value.none Value.none Value.none Option.none Value.none Value.none 0)) #[])
noncomputable def ob177 (P : Params) : Obj := (Obj.mk (Value.type "code") Option.none (Data.fields #[(Value.str (sL "_law_here") 665), (Value.str (sL "_law_here") 666), (Value.str (sL "/claim/cut.py") 667), (Value.int 222 0), (Value.int 3 0), (Value.int 0 0), (Value.int 0 0), (Value.int 3 0), (Value.ref 174), (Value.bool Bool.true), (Value.int 276 0), (Value.ref 175), Value.none, Value.none, Value.none, (Value.ref 176), (Value.int 668 0), (Value.int 222 0), (Value.str (sL "/claim/cut.py") 669)]) #[])
noncomputable def ob178 (P : Params) : Obj := (Obj.mk (Value.type "function") Option.none (Data.func (fnD (sL "_law_here") (sL "_law_here") 3 [] Value.none Value.none Value.none (Value.str (sL "law_ij0109_01") 596) Option.none (Value.ref 177) Value.none 0)) #[])
noncomputable def ob179 (P : Params) : Obj := (Obj.mk (Value.type "tuple") Option.none (Data.seq #[] 0) #[])
noncomputable def ob180 (P : Params) : Obj := (Obj.mk Value.none Option.none (Data.fields #[]) #[])
noncomputable def ob181 (P : Params) : Obj := (Obj.mk (Value.type "tuple") Option.none (Data.seq #[(Value.str (sL "runs") 674), (Value.str (sL "name") 675), (Value.str (sL "at") 676), (Value.str (sL "mark") 677), (Value.str (sL "run") 678)] 0) #[])
noncomputable def ob182 (P : Params) : Obj := (Obj.mk (Value.type "tuple") Option.none (Data.seq #[] 0) #[])
noncomputable def ob183 (P : Params) : Obj := (Obj.mk Value.none Option.none (Data.func (fnD (sL "_law_takes") (sL "_law_takes") 0 [] Value.none Value.none Value.none Value.none Option.none Value.none Value.none 0)) #[])
noncomputable def ob184 (P : Params) : Obj := (Obj.mk (Value.type "code") Option.none (Data.fields #[(Value.str (sL "_law_takes") 671), (Value.str (sL "_law_takes") 672), (Value.str (sL "/claim/cut.py") 673), (Value.int 226 0), (Value.int 2 0), (Value.int 0 0), (Value.int 0 0), (Value.int 3 0), (Value.ref 179), (Value.bool Bool.true), (Value.int 276 0), (Value.ref 180), Value.none, (Value.ref 181), (Value.ref 182), (Value.ref 183), (Value.int 679 0), (Value.int 226 0), (Value.str (sL "/claim/cut.py") 680)]) #[])
noncomputable def ob185 (P : Params) : Obj := (Obj.mk (Value.type "function") Option.none (Data.func (fnD (sL "_law_takes") (sL "_law_takes") 3 [] Value.none Value.none Value.none (Value.str (sL "law_ij0109_01") 596) Option.none (Value.ref 184) Value.none 0)) #[])
noncomputable def ob186 (P : Params) : Obj := (Obj.mk (Value.type "tuple") Option.none (Data.seq #[] 0) #[])
noncomputable def ob187 (P : Params) : Obj := (Obj.mk Value.none Option.none (Data.fields #[]) #[])
noncomputable def ob188 (P : Params) : Obj := (Obj.mk Value.none Option.none (Data.func (fnD (sL "law") (sL "law") 0 [] Value.none Value.none Value.none Value.none Option.none Value.none Value.none 0)) #[])
noncomputable def ob189 (P : Params) : Obj := (Obj.mk (Value.type "code") Option.none (Data.fields #[(Value.str (sL "law") 682), (Value.str (sL "law") 683), (Value.str (sL "/claim/cut.py") 684), (Value.int 242 0), (Value.int 1 0), (Value.int 0 0), (Value.int 0 0), (Value.int 3 0), (Value.ref 186), (Value.bool Bool.true), (Value.int 276 0), (Value.ref 187), Value.none, Value.none, Value.none, (Value.ref 188), (Value.int 685 0), (Value.int 242 0), (Value.str (sL "/claim/cut.py") 686)]) #[])
noncomputable def ob190 (P : Params) : Obj := (Obj.mk (Value.type "function") Option.none (Data.func (fnD (sL "law") (sL "law") 3 [] Value.none Value.none Value.none (Value.str (sL "law_ij0109_01") 596) Option.none (Value.ref 189) Value.none 0)) #[])
noncomputable def topK (P : Params) : Frag := [(0, ob0 P), (1, ob1 P), (2, ob2 P), (3, ob3 P), (4, ob4 P), (5, ob5 P), (6, ob6 P), (7, ob7 P), (8, ob8 P), (9, ob9 P), (10, ob10 P), (11, ob11 P), (12, ob12 P), (13, ob13 P), (14, ob14 P), (15, ob15 P), (32, ob32 P), (33, ob33 P), (34, ob34 P), (35, ob35 P), (36, ob36 P), (37, ob37 P), (38, ob38 P), (42, ob42 P), (43, ob43 P), (44, ob44 P), (45, ob45 P), (46, ob46 P), (47, ob47 P), (48, ob48 P), (49, ob49 P), (50, ob50 P), (52, ob52 P), (56, ob56 P), (57, ob57 P), (58, ob58 P), (59, ob59 P), (60, ob60 P), (61, ob61 P), (62, ob62 P), (63, ob63 P), (64, ob64 P), (65, ob65 P), (66, ob66 P), (67, ob67 P), (68, ob68 P), (69, ob69 P), (70, ob70 P), (71, ob71 P), (72, ob72 P), (73, ob73 P), (74, ob74 P), (75, ob75 P), (76, ob76 P), (84, ob84 P), (85, ob85 P), (86, ob86 P), (87, ob87 P), (88, ob88 P), (89, ob89 P), (90, ob90 P), (91, ob91 P), (92, ob92 P), (93, ob93 P), (94, ob94 P), (95, ob95 P), (96, ob96 P), (97, ob97 P), (98, ob98 P), (99, ob99 P), (100, ob100 P), (101, ob101 P), (102, ob102 P), (103, ob103 P), (104, ob104 P), (105, ob105 P), (106, ob106 P), (107, ob107 P), (108, ob108 P), (109, ob109 P), (110, ob110 P), (111, ob111 P), (112, ob112 P), (113, ob113 P), (114, ob114 P), (115, ob115 P), (116, ob116 P), (117, ob117 P), (118, ob118 P), (119, ob119 P), (120, ob120 P), (121, ob121 P), (122, ob122 P), (123, ob123 P), (124, ob124 P), (127, ob127 P), (128, ob128 P), (129, ob129 P), (130, ob130 P), (131, ob131 P), (132, ob132 P), (133, ob133 P), (134, ob134 P), (135, ob135 P), (136, ob136 P), (137, ob137 P), (138, ob138 P), (139, ob139 P), (140, ob140 P), (141, ob141 P), (142, ob142 P), (143, ob143 P), (144, ob144 P), (145, ob145 P), (146, ob146 P), (147, ob147 P), (148, ob148 P), (149, ob149 P), (150, ob150 P), (151, ob151 P), (152, ob152 P), (153, ob153 P), (154, ob154 P), (155, ob155 P), (156, ob156 P), (157, ob157 P), (158, ob158 P), (159, ob159 P), (160, ob160 P), (161, ob161 P), (162, ob162 P), (163, ob163 P), (164, ob164 P), (165, ob165 P), (166, ob166 P), (167, ob167 P), (168, ob168 P), (169, ob169 P), (170, ob170 P), (171, ob171 P), (172, ob172 P), (173, ob173 P), (174, ob174 P), (175, ob175 P), (176, ob176 P), (177, ob177 P), (178, ob178 P), (179, ob179 P), (180, ob180 P), (181, ob181 P), (182, ob182 P), (183, ob183 P), (184, ob184 P), (185, ob185 P), (186, ob186 P), (187, ob187 P), (188, ob188 P), (189, ob189 P), (190, ob190 P)]

def asK : List Addr := [0, 1, 2, 3, 4, 5, 6, 7, 8, 9, 10, 11, 12, 13, 14, 15, 32, 33, 34, 35, 36, 37, 38, 42, 43, 44, 45, 46, 47, 48, 49, 50, 52, 56, 57, 58, 59, 60, 61, 62, 63, 64, 65, 66, 67, 68, 69, 70, 71, 72, 73, 74, 75, 76, 84, 85, 86, 87, 88, 89, 90, 91, 92, 93, 94, 95, 96, 97, 98, 99, 100, 101, 102, 103, 104, 105, 106, 107, 108, 109, 110, 111, 112, 113, 114, 115, 116, 117, 118, 119, 120, 121, 122, 123, 124, 127, 128, 129, 130, 131, 132, 133, 134, 135, 136, 137, 138, 139, 140, 141, 142, 143, 144, 145, 146, 147, 148, 149, 150, 151, 152, 153, 154, 155, 156, 157, 158, 159, 160, 161, 162, 163, 164, 165, 166, 167, 168, 169, 170, 171, 172, 173, 174, 175, 176, 177, 178, 179, 180, 181, 182, 183, 184, 185, 186, 187, 188, 189, 190]
noncomputable def obsM (s : Shared) : List (Option Obj) × Nat := (asK.map s.heap.get?, s.heap.objs.size)
noncomputable def valM (w : World) : List (Option Obj) × Nat := ((topK w.params).map fun p => some p.2, 191)
noncomputable def qv : Program := view Challenge.pw_ij0109_01 [0, 1, 3, 4, 6, 7, 9, 10, 12, 14, 15, 16, 17, 18, 19, 20, 21, 22, 23]
noncomputable def XT (s : Shared) : Bool := xlAt qv [] s && recOk (RowW.records Challenge.rw_ij0109_01.row.toRowW) s
noncomputable def topT (P : Params) : KT := (.node (some (ob0 P)) (.node (some (ob1 P)) (.node (some (ob3 P)) (.node (some (ob7 P)) (.node (some (ob15 P)) (.node none (.node (some (ob63 P)) (.node (some (ob127 P)) .nil .nil) .nil) (.node (some (ob95 P)) (.node (some (ob159 P)) .nil .nil) .nil)) (.node (some (ob47 P)) (.node none (.node (some (ob143 P)) .nil .nil) .nil) (.node (some (ob111 P)) (.node (some (ob175 P)) .nil .nil) .nil))) (.node none (.node none (.node (some (ob71 P)) (.node (some (ob135 P)) .nil .nil) .nil) (.node (some (ob103 P)) (.node (some (ob167 P)) .nil .nil) .nil)) (.node none (.node (some (ob87 P)) (.node (some (ob151 P)) .nil .nil) .nil) (.node (some (ob119 P)) (.node (some (ob183 P)) .nil .nil) .nil)))) (.node (some (ob11 P)) (.node none (.node (some (ob35 P)) (.node (some (ob67 P)) (.node (some (ob131 P)) .nil .nil) .nil) (.node (some (ob99 P)) (.node (some (ob163 P)) .nil .nil) .nil)) (.node none (.node none (.node (some (ob147 P)) .nil .nil) .nil) (.node (some (ob115 P)) (.node (some (ob179 P)) .nil .nil) .nil))) (.node none (.node (some (ob43 P)) (.node (some (ob75 P)) (.node (some (ob139 P)) .nil .nil) .nil) (.node (some (ob107 P)) (.node (some (ob171 P)) .nil .nil) .nil)) (.node (some (ob59 P)) (.node (some (ob91 P)) (.node (some (ob155 P)) .nil .nil) .nil) (.node (some (ob123 P)) (.node (some (ob187 P)) .nil .nil) .nil))))) (.node (some (ob5 P)) (.node (some (ob9 P)) (.node none (.node (some (ob33 P)) (.node (some (ob65 P)) (.node (some (ob129 P)) .nil .nil) .nil) (.node (some (ob97 P)) (.node (some (ob161 P)) .nil .nil) .nil)) (.node (some (ob49 P)) (.node none (.node (some (ob145 P)) .nil .nil) .nil) (.node (some (ob113 P)) (.node (some (ob177 P)) .nil .nil) .nil))) (.node none (.node none (.node (some (ob73 P)) (.node (some (ob137 P)) .nil .nil) .nil) (.node (some (ob105 P)) (.node (some (ob169 P)) .nil .nil) .nil)) (.node (some (ob57 P)) (.node (some (ob89 P)) (.node (some (ob153 P)) .nil .nil) .nil) (.node (some (ob121 P)) (.node (some (ob185 P)) .nil .nil) .nil)))) (.node (some (ob13 P)) (.node none (.node (some (ob37 P)) (.node (some (ob69 P)) (.node (some (ob133 P)) .nil .nil) .nil) (.node (some (ob101 P)) (.node (some (ob165 P)) .nil .nil) .nil)) (.node none (.node (some (ob85 P)) (.node (some (ob149 P)) .nil .nil) .nil) (.node (some (ob117 P)) (.node (some (ob181 P)) .nil .nil) .nil))) (.node none (.node (some (ob45 P)) (.node none (.node (some (ob141 P)) .nil .nil) .nil) (.node (some (ob109 P)) (.node (some (ob173 P)) .nil .nil) .nil)) (.node (some (ob61 P)) (.node (some (ob93 P)) (.node (some (ob157 P)) .nil .nil) .nil) (.node none (.node (some (ob189 P)) .nil .nil) .nil)))))) (.node (some (ob2 P)) (.node (some (ob4 P)) (.node (some (ob8 P)) (.node none (.node (some (ob32 P)) (.node (some (ob64 P)) (.node (some (ob128 P)) .nil .nil) .nil) (.node (some (ob96 P)) (.node (some (ob160 P)) .nil .nil) .nil)) (.node (some (ob48 P)) (.node none (.node (some (ob144 P)) .nil .nil) .nil) (.node (some (ob112 P)) (.node (some (ob176 P)) .nil .nil) .nil))) (.node none (.node none (.node (some (ob72 P)) (.node (some (ob136 P)) .nil .nil) .nil) (.node (some (ob104 P)) (.node (some (ob168 P)) .nil .nil) .nil)) (.node (some (ob56 P)) (.node (some (ob88 P)) (.node (some (ob152 P)) .nil .nil) .nil) (.node (some (ob120 P)) (.node (some (ob184 P)) .nil .nil) .nil)))) (.node (some (ob12 P)) (.node none (.node (some (ob36 P)) (.node (some (ob68 P)) (.node (some (ob132 P)) .nil .nil) .nil) (.node (some (ob100 P)) (.node (some (ob164 P)) .nil .nil) .nil)) (.node (some (ob52 P)) (.node (some (ob84 P)) (.node (some (ob148 P)) .nil .nil) .nil) (.node (some (ob116 P)) (.node (some (ob180 P)) .nil .nil) .nil))) (.node none (.node (some (ob44 P)) (.node (some (ob76 P)) (.node (some (ob140 P)) .nil .nil) .nil) (.node (some (ob108 P)) (.node (some (ob172 P)) .nil .nil) .nil)) (.node (some (ob60 P)) (.node (some (ob92 P)) (.node (some (ob156 P)) .nil .nil) .nil) (.node (some (ob124 P)) (.node (some (ob188 P)) .nil .nil) .nil))))) (.node (some (ob6 P)) (.node (some (ob10 P)) (.node none (.node (some (ob34 P)) (.node (some (ob66 P)) (.node (some (ob130 P)) .nil .nil) .nil) (.node (some (ob98 P)) (.node (some (ob162 P)) .nil .nil) .nil)) (.node (some (ob50 P)) (.node none (.node (some (ob146 P)) .nil .nil) .nil) (.node (some (ob114 P)) (.node (some (ob178 P)) .nil .nil) .nil))) (.node none (.node (some (ob42 P)) (.node (some (ob74 P)) (.node (some (ob138 P)) .nil .nil) .nil) (.node (some (ob106 P)) (.node (some (ob170 P)) .nil .nil) .nil)) (.node (some (ob58 P)) (.node (some (ob90 P)) (.node (some (ob154 P)) .nil .nil) .nil) (.node (some (ob122 P)) (.node (some (ob186 P)) .nil .nil) .nil)))) (.node (some (ob14 P)) (.node none (.node (some (ob38 P)) (.node (some (ob70 P)) (.node (some (ob134 P)) .nil .nil) .nil) (.node (some (ob102 P)) (.node (some (ob166 P)) .nil .nil) .nil)) (.node none (.node (some (ob86 P)) (.node (some (ob150 P)) .nil .nil) .nil) (.node (some (ob118 P)) (.node (some (ob182 P)) .nil .nil) .nil))) (.node none (.node (some (ob46 P)) (.node none (.node (some (ob142 P)) .nil .nil) .nil) (.node (some (ob110 P)) (.node (some (ob174 P)) .nil .nil) .nil)) (.node (some (ob62 P)) (.node (some (ob94 P)) (.node (some (ob158 P)) .nil .nil) .nil) (.node none (.node (some (ob190 P)) .nil .nil) .nil)))))))
theorem topT_is : ∀ P, KT.of (topK P) = topT P := fun P => by kernel_rfl
end Mine
end

section
open PySem PySem.W PySem.W.X PyProof.Rows PySem.Spec PySem.Calls
set_option Elab.async false
set_option linter.all false
set_option maxRecDepth 100000
namespace Mine
theorem hl00 : ∀ w : World, Option.map (fun s => (openSeen qv ["_twin_re_1", "_special_chars_map"] (importedModules Challenge.pw_ij0109_01.main.body) XT true s, obsM s)) (openEnds treeTable Challenge.pw_ij0109_01 ((w.withFollow "special-get-raises" false).withFollow "comprehension-iter-twice" false) 4534) = some (openGood qv ["_twin_re_1", "_special_chars_map"], valM ((w.withFollow "special-get-raises" false).withFollow "comprehension-iter-twice" false)) := fun w => by kernel_rfl
theorem hl01 : ∀ w : World, Option.map (fun s => (openSeen qv ["_twin_re_1", "_special_chars_map"] (importedModules Challenge.pw_ij0109_01.main.body) XT true s, obsM s)) (openEnds treeTable Challenge.pw_ij0109_01 ((w.withFollow "special-get-raises" true).withFollow "comprehension-iter-twice" false) 4534) = some (openGood qv ["_twin_re_1", "_special_chars_map"], valM ((w.withFollow "special-get-raises" true).withFollow "comprehension-iter-twice" false)) := fun w => by kernel_rfl
theorem hl10 : ∀ w : World, Option.map (fun s => (openSeen qv ["_twin_re_1", "_special_chars_map"] (importedModules Challenge.pw_ij0109_01.main.body) XT true s, obsM s)) (openEnds treeTable Challenge.pw_ij0109_01 ((w.withFollow "special-get-raises" false).withFollow "comprehension-iter-twice" true) 4534) = some (openGood qv ["_twin_re_1", "_special_chars_map"], valM ((w.withFollow "special-get-raises" false).withFollow "comprehension-iter-twice" true)) := fun w => by kernel_rfl
theorem hl11 : ∀ w : World, Option.map (fun s => (openSeen qv ["_twin_re_1", "_special_chars_map"] (importedModules Challenge.pw_ij0109_01.main.body) XT true s, obsM s)) (openEnds treeTable Challenge.pw_ij0109_01 ((w.withFollow "special-get-raises" true).withFollow "comprehension-iter-twice" true) 4534) = some (openGood qv ["_twin_re_1", "_special_chars_map"], valM ((w.withFollow "special-get-raises" true).withFollow "comprehension-iter-twice" true)) := fun w => by kernel_rfl
theorem hlAll : LeftO Challenge.pw_ij0109_01 qv ["_twin_re_1", "_special_chars_map"] XT obsM valM 4534 :=
  byRow2 "comprehension-iter-twice" (P := fun w => Option.map (fun s => (openSeen qv ["_twin_re_1", "_special_chars_map"] (importedModules Challenge.pw_ij0109_01.main.body) XT true s, obsM s)) (openEnds treeTable Challenge.pw_ij0109_01 w 4534) = some (openGood qv ["_twin_re_1", "_special_chars_map"], valM w))
    (byRow2 "special-get-raises" hl00 hl01) (byRow2 "special-get-raises" hl10 hl11)
theorem keysM : ∀ P, asK = (topK P).map (·.1) := fun P => by kernel_rfl
theorem factsM {w : World} {s : Shared} (y : obsM s = valM w) : AllIn s.heap (topK w.params) ∧ InK topK w s.heap ∧ s.heap.objs.size = 191 := by
  have h1 := congrArg Prod.fst y
  have h2 := congrArg Prod.snd y
  have := z_facts keysM (n := 191) (t := s.toks) (w := w) (s := s) (by
    show (asK.map s.heap.get?, s.heap.objs.size, s.toks) = ((topK w.params).map (fun p => some p.2), 191, s.toks)
    rw [show asK.map s.heap.get? = (topK w.params).map (fun p => some p.2) from h1, show s.heap.objs.size = 191 from h2])
  exact ⟨this.1, this.2.1, this.2.2.1⟩
theorem head_of {K : Params → Frag} {T : Params → KT} (e : ∀ P, KT.of (K P) = T P) {w : World} {h h' : Heap} {G : Prop} (A : AllIn h (K w.params)) (I : InK K w h) (k : ∀ b o, h.get? b = some o → h'.get? b = some o) (g : (K w.params).In h' → KT.Holds h' 1 0 (T w.params) → G) : G := g (InK.keeps w h h' I k) (e _ ▸ KT.Holds.keeps k (holds_of A))
theorem headM {w : World} {s s' : Shared} {G : Prop} (y : obsM s = valM w) (k : ∀ b o, s.heap.get? b = some o → s'.heap.get? b = some o) (g : s.heap.objs.size = 191 → (topK w.params).In s'.heap → KT.Holds s'.heap 1 0 (topT w.params) → G) : G :=
  head_of (K := topK) (T := topT) topT_is (factsM y).1 (factsM y).2.1 k (g (factsM y).2.2)
end Mine
end

open PySem PySem.W PySem.W.X PyProof.Rows PySem.Spec PySem.Calls
set_option Elab.async false
set_option linter.all false
set_option maxRecDepth 100000
namespace Mine
variable {w : World} {prog : Program} {h : Heap} {t : KT} {K : Frag}
noncomputable def bltOf (t : KT) : Addr := match nsFind (dicAt t mainGlobals) "__builtins__" with | some (.ref a) => a | _ => 0
theorem ne_of_b {a b : Addr} (h : (a != b) = true) : a ≠ b := by simpa using h
noncomputable def tabChk (t : KT) : Bool := (t.get 64).isSome && (t.get 68).isSome
theorem blt_ex (ZHu : KT.Holds h 1 0 t) (c1 : nsFind (dicAt t mainGlobals) "__builtins__" = some (.ref (bltOf t))) (c2 : (bltOf t != builtinsNs) = true) (c3 : (bltOf t != mainGlobals) = true) (c4 : (bltOf t != 64) = true) (c5 : (t.get (bltOf t)).isSome = true) (c6 : (objAt t (bltOf t)).cls = .type "module") (c7 : (objAt t (bltOf t)).dict = some builtinsNs) (c8 : (objAt t (bltOf t)).data = .plain) : ∃ bm, bltShape t bm := ⟨_, c1, ne_of_b c2, ne_of_b c3, ne_of_b c4, c5, c6, c7, c8⟩
theorem fn1 (ZH : KT.Holds h 1 0 t) (Xu : K.In h) {f p : String} {a : Addr} {body : List S} (e : fnChk t a [p] = true) (hb : ∀ v, bindArgs (fdAt t a) ⟨[v], []⟩ = pure [(nm p, v)]) (hc : cSs 60 (fdAt t a).scope (stAt t a) = some body) (g : nsFind (dicAt t mainGlobals) (nm f) = some (.ref a)) (k : keepIn (cut K) (.ref a) = true) : RowOK h t K (f, a, [p], body) := ⟨fun _ => ⟨g, k⟩, fnAt_of ZH e (bind1 hb) hc⟩
theorem fn2 (ZH : KT.Holds h 1 0 t) (Xu : K.In h) {f p q : String} {a : Addr} {body : List S} (e : fnChk t a [p, q] = true) (hb : ∀ u v, bindArgs (fdAt t a) ⟨[u, v], []⟩ = pure [(nm p, u), (nm q, v)]) (hc : cSs 60 (fdAt t a).scope (stAt t a) = some body) (g : nsFind (dicAt t mainGlobals) (nm f) = some (.ref a)) (k : keepIn (cut K) (.ref a) = true) : RowOK h t K (f, a, [p, q], body) := ⟨fun _ => ⟨g, k⟩, fnAt_of ZH e (bind2 hb) hc⟩
theorem fn3 (ZH : KT.Holds h 1 0 t) (Xu : K.In h) {f p q r : String} {a : Addr} {body : List S} (e : fnChk t a [p, q, r] = true) (hb : ∀ u v x, bindArgs (fdAt t a) ⟨[u, v, x], []⟩ = pure [(nm p, u), (nm q, v), (nm r, x)]) (hc : cSs 60 (fdAt t a).scope (stAt t a) = some body) (g : nsFind (dicAt t mainGlobals) (nm f) = some (.ref a)) (k : keepIn (cut K) (.ref a) = true) : RowOK h t K (f, a, [p, q, r], body) := ⟨fun _ => ⟨g, k⟩, fnAt_of ZH e (bind3 hb) hc⟩
theorem fnS (ZH : KT.Holds h 1 0 t) (Xu : K.In h) {p q r : String} {a : Addr} {body : List S} (e : fnChk t a [p, q, r] = true) (hb : ∀ u v x, bindArgs (fdAt t a) ⟨[u, v, x], []⟩ = pure [(nm p, u), (nm q, v), (nm r, x)]) (hc : cSs 60 (fdAt t a).scope (stAt t a) = some body) : RowOK h t K ("is_suburi", a, [p, q, r], body) := ⟨fun hn => absurd rfl hn, fnAt_of ZH e (bind3 hb) hc⟩
end Mine
open Mine
set_option maxHeartbeats 0 in
theorem PySem.Challenge.cw_ij0109_01_holds : PySem.Challenge.rw_ij0109_01.Holds := by
  w_on
  refine holds_law (by kernel_rfl) fun said => ?_
  refine holds_openX (q := qv) (loose := ["_twin_re_1", "_special_chars_map"]) (Xt := XT) (XP := XL qv []) (Yf := obsM) (Ya := valM) (N := 4534) hlAll (fun s e => xl_of s (Bool.and_eq_true_iff.mp e).1) XL.keeps (by rfl) (by rfl) (by rfl) (fun s e => recFacts_of (Bool.and_eq_true_iff.mp e).2) (by rfl) (by first | assumption | decide +kernel) (by decide +kernel) ⟨rfl, rfl, rfl, rfl, rfl, by decide +kernel⟩ ?hw ?hc
  case hw => w_witness2
  intro w s₀ s₁ mg mb G y fa o pm cd doc dV kV ho hd hcd hD hmg hg args vals as L hpre hlay hrd hwl hlo
  refine headM y (Laid.keeps L) ?_
  intro ZN KX ZH
  refine Ground.open G ?_
  intro T B D TE TW
  wrow_args hpre hlay hrd hwl hlo
  obtain ⟨hat, hsz⟩ := script_at L
  rw [ZN] at hat hsz
  subst hat
  x_fa T KX hmg
  all_lens
  have RO : RowsOK s₁.heap _ _ fnTable := ⟨fn1 ZH KX (by kernel_rfl) (fun _ => by kernel_rfl) (by kernel_rfl) (by kernel_rfl) (by kernel_rfl),
    fn3 ZH KX (by kernel_rfl) (fun _ _ _ => by kernel_rfl) (by kernel_rfl) (by kernel_rfl) (by kernel_rfl),
    fn2 ZH KX (by kernel_rfl) (fun _ _ => by kernel_rfl) (by kernel_rfl) (by kernel_rfl) (by kernel_rfl),
    fn2 ZH KX (by kernel_rfl) (fun _ _ => by kernel_rfl) (by kernel_rfl) (by kernel_rfl) (by kernel_rfl),
    fn1 ZH KX (by kernel_rfl) (fun _ => by kernel_rfl) (by kernel_rfl) (by kernel_rfl) (by kernel_rfl),
    fn2 ZH KX (by kernel_rfl) (fun _ _ => by kernel_rfl) (by kernel_rfl) (by kernel_rfl) (by kernel_rfl),
    fn2 ZH KX (by kernel_rfl) (fun _ _ => by kernel_rfl) (by kernel_rfl) (by kernel_rfl) (by kernel_rfl),
    fn2 ZH KX (by kernel_rfl) (fun _ _ => by kernel_rfl) (by kernel_rfl) (by kernel_rfl) (by kernel_rfl),
    fn2 ZH KX (by kernel_rfl) (fun _ _ => by kernel_rfl) (by kernel_rfl) (by kernel_rfl) (by kernel_rfl),
    fn1 ZH KX (by kernel_rfl) (fun _ => by kernel_rfl) (by kernel_rfl) (by kernel_rfl) (by kernel_rfl),
    fn3 ZH KX (by kernel_rfl) (fun _ _ _ => by kernel_rfl) (by kernel_rfl) (by kernel_rfl) (by kernel_rfl),
    fn2 ZH KX (by kernel_rfl) (fun _ _ => by kernel_rfl) (by kernel_rfl) (by kernel_rfl) (by kernel_rfl),
    fn1 ZH KX (by kernel_rfl) (fun _ => by kernel_rfl) (by kernel_rfl) (by kernel_rfl) (by kernel_rfl),
    fnS ZH KX (by kernel_rfl) (fun _ _ _ => by kernel_rfl) (by kernel_rfl), trivial⟩
  have O : TopOK s₁.heap _ _ Challenge.rw_ij0109_01.row.prog w fnTable := {
    ZH := ZH
    X := KX
    d3 := by kernel_rfl
    d0 := by kernel_rfl
    d2 := by kernel_rfl
    st := by kernel_rfl
    fns := fun x hx => RO.all x hx
    sub := by decide
    blt := fun f hf => by
      simp only [List.mem_cons, List.not_mem_nil, or_false] at hf
      rcases hf with rfl | rfl | rfl | rfl | rfl | rfl <;> kernel_rfl
    b1 := by kernel_rfl
    b2 := by kernel_rfl
    b3 := by kernel_rfl
    b4 := by kernel_rfl
    b5 := by kernel_rfl
    b6 := by kernel_rfl
    g1 := by kernel_rfl
    g2 := by kernel_rfl
    g3 := by kernel_rfl
    g4 := by kernel_rfl
    k1 := by kernel_rfl
    k2 := by kernel_rfl
    e1 := by kernel_rfl
    e2 := fun v => by kernel_rfl
    e3 := ⟨_, _, _, _, _, _, _, _, _, _, _, _, by kernel_rfl, rfl⟩
    e4 := by kernel_rfl
    e5 := by kernel_rfl
    e6 := by kernel_rfl
    e7 := by kernel_rfl
    mp := ⟨by kernel_rfl, by kernel_rfl, by kernel_rfl, by kernel_rfl, _, _, rfl, by kernel_rfl, by kernel_rfl, by kernel_rfl, by kernel_rfl⟩
    pt := ⟨by kernel_rfl, by kernel_rfl, _, _, _, _, _, _, rfl, rfl, by kernel_rfl⟩
    ch := by kernel_rfl
    bm := blt_ex ZH (by kernel_rfl) (by kernel_rfl) (by kernel_rfl) (by kernel_rfl) (by kernel_rfl) (by kernel_rfl) (by kernel_rfl) (by kernel_rfl)
    mgr := ⟨fun h' O => cut_over KX O, by kernel_rfl, by kernel_rfl, by kernel_rfl, by kernel_rfl, by kernel_rfl, by kernel_rfl, by kernel_rfl, ⟨_, _, _, _, _, _, _, _, _, _, _, rfl, rfl, by kernel_rfl, by kernel_rfl, by kernel_rfl, by kernel_rfl, rfl, rfl, rfl, rfl, rfl, fun _ => by kernel_rfl, by kernel_rfl, rfl⟩⟩
    sb := ⟨fun h' O => cut_over KX O, by kernel_rfl, by kernel_rfl, by kernel_rfl⟩ }
  have FA : FnAt (cx s₁.heap) 190 ["script"] (fbody "law") := (RO.all ("law", 190, ["script"], fbody "law") (by simp [fnTable])).2
  have ht : s₁.heap.TableAt 68 64 #[] := ⟨⟨_, _, get_at ZH (by kernel_rfl), by kernel_rfl, rfl, by kernel_rfl⟩, by rw [get_at ZH (a := 64) (by kernel_rfl)]; kernel_rfl⟩
  have hobj := script_obj L (by assumption)
  obtain ⟨r', H', hrun⟩ := run_law _ (PLall _)
  rw [← fbodylaw] at hrun
  refine wpAny_mono (law_good O FA ht hobj (by assumption) (by obtain ⟨_, hh⟩ := ‹List.length _ = List.length _ ∧ List.length _ ≤ 2 ^ 20›; exact hh) (AllBare.of_eq L.gens) hrun (by decide)) ?_ ?_
  · intro v s' h
    obtain ⟨rfl, h2, h3, h4⟩ := h
    refine ⟨.inl ⟨_, .bool true, [], rfl, fun _ => rfl, .bool true, by kernel_rfl, fun _ => ⟨List.nodup_nil, fun a ha => by cases ha⟩⟩, h2, h3, h4⟩
  · intro e s' h
    exact h.elim
