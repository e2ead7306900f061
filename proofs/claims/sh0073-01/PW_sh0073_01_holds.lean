import PyProof.Rows.All
import Wide.All
import OpenK.AllK
import Wide.FinOn
import OpenK.XSeg
import Lean
import PySem.Challenge.RW_sh0073_01
open PySem PySem.W PyProof.Rows
set_option Elab.async false
section
namespace Mine
inductive F where
 | none
 | bool (b : Bool)
 | int (i : Int)
 | str (s : Str)
 | tup (l : List F)
 | lst (l : List F)
 | ws (raw : Str) (n nt : Int) (cnt : List Int) (b : Int) (simple : Bool)
 deriving Inhabited
inductive V where
 | f (x : F)
 | raw (v : Value)
 | loc (i : Nat)
 | obj (i : Nat)
 | hdr (i : Nat)
 | kw (l : List (Str × F))
 | tupV (l : List V)
 deriving Inhabited
inductive O where
 | list (l : List F)
 | locs (l : List Nat)
 | attrs (l : List (Str × F))
 deriving Inhabited
inductive Fl where
 | next | brk | ret (v : V)
 deriving Inhabited
abbrev Lc := List (Str × V)
abbrev H := List O
def steqL : List Nat → List Nat → Bool
 | [], [] => true
 | a :: r, b :: s => match Nat.beq a b with
  | true => steqL r s
  | false => false
 | _, _ => false
def steq (a b : Str) : Bool := steqL a.cps.toList b.cps.toList
def lget {α : Type} : List (Str × α) → Str → Option α
 | [], _ => none
 | (y, v) :: r, x => match steq y x with
  | true => some v
  | false => lget r x
def lset {α : Type} : List (Str × α) → Str → α → List (Str × α)
 | [], x, v => [(x, v)]
 | (y, u) :: r, x, v => match steq y x with
  | true => (y, v) :: r
  | false => (y, u) :: lset r x v
def kindS (sc : Scope) (x : Str) : Option NameKind := lget sc.names x
def isFree : NameKind → Bool
 | .free => true
 | _ => false
def isCell : Option NameKind → Bool
 | some .cell => true
 | _ => false
def relabelS (inner outer : Scope) : Scope :=
 { inner with names := inner.names.map fun p => match isFree p.2 && isCell (kindS outer p.1) with
  | true => (p.1, .cell)
  | false => p }
def cellsOnly (sc : Scope) : Lc → Lc
 | [] => []
 | (x, v) :: r => match isCell (kindS sc x) with
  | true => (x, v) :: cellsOnly sc r
  | false => cellsOnly sc r
def obind {α β : Type} (o : Option α) (k : α → Option β) : Option β := match o with
 | some a => k a
 | none => none
def guardB {β : Type} (b : Bool) (x : Option β) : Option β := match b with
 | true => x
 | false => none
def br {β : Type} (b : Bool) (x y : Option β) : Option β := match b with
 | true => x
 | false => y
def small (i : Int) : Bool := decide (i.natAbs < 1000000)
def fitS (s : Str) : Bool := decide (s.length ≤ 100000)
def fitL {α : Type} (l : List α) : Bool := decide (l.length ≤ 100000)
def items (h : H) : V → Option (List F)
 | .f (.lst l) => some l
 | .loc i => match h[i]? with
  | some (.list l) => some l
  | _ => none
 | _ => none
def seqOf (h : H) : V → Option (List V)
 | .f (.tup l) => some (l.map .f)
 | .tupV l => some l
 | .loc i => match h[i]? with
  | some (.list l) => some (l.map .f)
  | some (.locs l) => some (l.map .loc)
  | _ => none
 | .f (.lst l) => some (l.map .f)
 | _ => none
def allF : List V → Option (List F)
 | [] => some []
 | .f x :: r => match allF r with
  | some l => some (x :: l)
  | none => none
 | _ :: _ => none
def allLoc : List V → Option (List Nat)
 | [] => some []
 | .loc x :: r => match allLoc r with
  | some l => some (x :: l)
  | none => none
 | _ :: _ => none
def mkTup (l : List V) : V := match allF l with
 | some fs => .f (.tup fs)
 | none => .tupV l
def sliceOf {α : Type} (l : List α) (lo hi : Option Int) : List α :=
 (l.drop (lo.elim 0 (clipAt l.length))).take (hi.elim l.length (clipAt l.length) - lo.elim 0 (clipAt l.length))
mutual
def toPy : F → PyData
 | .none => .none
 | .bool b => .bool b
 | .int i => .int i
 | .str s => .str s
 | .tup l => .tuple (toPys l)
 | .lst l => .list (toPys l)
 | .ws .. => .dict []
def toPys : List F → List PyData
 | [] => []
 | x :: r => toPy x :: toPys r
end
def truthyF : F → Option Bool
 | .none => some false
 | .bool b => some b
 | .int i => some (decide (i ≠ 0))
 | _ => none
def truthyV : V → Option Bool
 | .f x => truthyF x
 | _ => none
def minL : Int → List Int → Int
 | m, [] => m
 | m, x :: r => minL (if x < m then x else m) r
def maxL : Int → List Int → Int
 | m, [] => m
 | m, x :: r => maxL (if m < x then x else m) r
def allInt : List F → Option (List Int)
 | [] => some []
 | .int i :: r => match allInt r with
  | some l => some (i :: l)
  | none => none
 | _ :: _ => none
def allStr : List F → Option (List Str)
 | [] => some []
 | .str i :: r => match allStr r with
  | some l => some (i :: l)
  | none => none
 | _ :: _ => none
def glue : List Str → Str
 | [] => ⟨#[]⟩
 | x :: r => x ++ glue r
def strIn (s : Str) : List F → Option Bool
 | [] => some false
 | .str t :: r => match strIn s r with
  | some b => some (steq t s || b)
  | none => none
 | _ :: _ => none
def escFrom : Nat → Bool → List Nat → List (Int × Str)
 | i, false, [] => []
 | i, true, [] => [((i : Int) - 1, ⟨#[92]⟩)]
 | i, true, c :: r => ((i : Int), ⟨#[92, c]⟩) :: escFrom (i + 1) false r
 | i, false, c :: r => match Nat.beq c 92 with
  | true => escFrom (i + 1) true r
  | false => ((i : Int), ⟨#[c]⟩) :: escFrom (i + 1) false r
def escPairs (s : Str) : List (Int × Str) := escFrom 0 false s.cps.toList
def rangeUp (a b : Int) : List Int := (List.range (b - a).toNat).map fun (k : Nat) => a + (k : Int)
def rangeDn (a b : Int) : List Int := (List.range (a - b).toNat).map fun (k : Nat) => a - (k : Int)
def calm (s : Str) : Bool := s.cps.toList.all fun c => decide (32 ≤ c) && decide (c < 127)
def digitText (i : Int) : Option Str :=
 match decide (0 ≤ i), decide (i ≤ 9) with
 | true, true => some ⟨#[48 + i.toNat]⟩
 | _, _ => none
def digitVal (s : Str) : Option Int := match s.cps.toList with
 | [c] => match decide (48 ≤ c), decide (c ≤ 57) with
  | true, true => some ((c : Int) - 48)
  | _, _ => none
 | _ => none
structure FI where
 params : List Str
 kwonly : List Str := []
 dflt : List F := []
 kwarg : Option Str := none
 body : List Stmt
 scope : Scope
structure Prg where
 G : Str → Option V
 fn : Addr → Option FI
 wMeth : Str → Option Addr
 hMeth : Str → Option Addr
 exact : Str → Option (Option Int)
 genFn : Addr
 hOn : Bool
def zipL : List Str → List V → Option Lc
 | [], [] => some []
 | x :: r, v :: s => match zipL r s with
  | some l => some ((x, v) :: l)
  | none => none
 | _, _ => none
def bindFI (fi : FI) (args : List V) (kws : List (Str × V)) : Option Lc :=
 match fi.kwarg with
 | some kn => match kws with
  | [] => match zipL fi.params args with
   | some lc => some (lc ++ [(kn, .kw [])])
   | none => none
  | [(a, .f x), (b, .f y)] => match steq a "low" && steq b "high" with
   | true => match zipL fi.params args with
    | some lc => some (lc ++ [(kn, .kw [(a, x), (b, y)])])
    | none => none
   | false => none
  | _ => none
 | none => match fi.kwonly with
  | [] => match kws with
   | [] => zipL fi.params (args ++ (fi.dflt.drop (args.length + fi.dflt.length - fi.params.length)).map .f)
   | _ => none
  | [k] => match kws with
   | [(n, v)] => match steq n k with
    | true => match zipL fi.params args with
     | some lc => some (lc ++ [(k, v)])
     | none => none
    | false => none
   | _ => none
  | _ => none
section
variable {R : Type}
abbrev KV (R : Type) := V → H → Option R
abbrev KS (R : Type) := Fl → Lc → H → Option R
abbrev Cl (R : Type) := Addr → List V → List (Str × V) → H → KV R → Option R
structure Ev (R : Type) where
 ev : Scope → Lc → Bool → H → PySem.Expr → KV R → Option R
 evs : Scope → Lc → Bool → H → List PySem.Expr → (List V → H → Option R) → Option R
 tst : Scope → Lc → H → PySem.Expr → (Bool → H → Option R) → Option R
 ex : Scope → Lc → H → Stmt → KS R → Option R
 exs : Scope → Lc → H → List Stmt → KS R → Option R
def constF : Const → Option F
 | .none => some .none
 | .bool b => some (.bool b)
 | .int i => some (.int i)
 | .str s => some (.str s)
 | _ => none
def nameV (P : Prg) (sc : Scope) (lc : Lc) (x : Str) : Option V := match steq x "__debug__" with
 | true => some (.f (.bool true))
 | false => match kindS sc x with
  | some .local => lget lc x
  | some .cell => lget lc x
  | some .globalImplicit => P.G x
  | _ => none
def notSet : PySem.Expr → Bool
 | .Set .. => false
 | _ => true
def noLocs (n : Nat) : O → Bool
 | .locs l => l.all fun i => decide (i < n)
 | _ => true
def okP (n : Nat) (h : H) : Bool := h.all (noLocs n)
mutual
def fz (n : Nat) (h : H) : V → Option V
 | .f x => some (.f x)
 | .raw v => some (.raw v)
 | .loc i => match decide (i < n) with
  | true => some (.loc i)
  | false => match h[i]? with
   | some (.list l) => some (.f (.lst l))
   | some (.locs l) => match fzRows n h l with
    | some rows => some (.f (.lst rows))
    | none => none
   | _ => none
 | .tupV l => match fzs n h l with
  | some vs => some (mkTup vs)
  | none => none
 | .hdr i => match decide (i < n) with
  | true => some (.hdr i)
  | false => none
 | _ => none
def fzs (n : Nat) (h : H) : List V → Option (List V)
 | [] => some []
 | v :: r => match fz n h v, fzs n h r with
  | some x, some l => some (x :: l)
  | _, _ => none
def fzRows (n : Nat) (h : H) : List Nat → Option (List F)
 | [] => some []
 | i :: r => match decide (n ≤ i) with
  | true => match h[i]?, fzRows n h r with
   | some (.list l), some rows => some (.lst l :: rows)
   | _, _ => none
  | false => none
end
def retK (n : Nat) (v : V) (h : H) (k : KV R) : Option R :=
 guardB (okP n (h.take n)) (obind (fz n h v) fun v' => k v' (h.take n))
def asF {β : Type} (v : V) (k : F → Option β) : Option β := match v with
 | .f x => k x
 | _ => none
def asInt {β : Type} (v : V) (k : Int → Option β) : Option β := match v with
 | .f (.int i) => k i
 | _ => none
def asStr {β : Type} (v : V) (k : Str → Option β) : Option β := match v with
 | .f (.str i) => k i
 | _ => none
def newL (mu : Bool) (l : List F) (h : H) (k : KV R) : Option R := match mu with
 | true => guardB (fitL l) (k (.loc h.length) (h ++ [.list l]))
 | false => guardB (fitL l) (k (.f (.lst l)) h)
def fmtT (s : Str) (l : List F) : Option Str :=
 match steq s "low=\"%d\"; high=\"%d\"", l with
 | true, [.int a, .int b] => match digitText a, digitText b with
  | some x, some y => some (("low=\"" : Str) ++ x ++ ("\"; high=\"" : Str) ++ y ++ ("\"" : Str))
  | _, _ => none
 | _, _ => none
def binop (mu : Bool) (op : Operator) (a b : V) (h : H) (k : KV R) : Option R := match op with
 | .Add => match a, b with
  | .f (.int i), .f (.int j) => k (.f (.int (i + j))) h
  | .f (.str s), .f (.str t) => guardB (fitS s && fitS t) (k (.f (.str (s ++ t))) h)
  | a, b => obind (items h a) fun l => obind (items h b) fun m => guardB (fitL l && fitL m) (newL mu (l ++ m) h k)
 | .Sub => asInt a fun i => asInt b fun j => k (.f (.int (i - j))) h
 | .Mult => match a, b with
  | .f (.int i), .f (.int j) => guardB (small i) (k (.f (.int (i * j))) h)
  | a, .f (.int j) => obind (items h a) fun l => match l with
   | [x] => guardB (decide (0 ≤ j) && small j) (newL mu (List.replicate j.toNat x) h k)
   | _ => none
  | _, _ => none
 | .FloorDiv => asInt a fun i => asInt b fun j => guardB (small j && decide (0 < j)) (k (.f (.int (i.fdiv j))) h)
 | .Mod => match a, b with
  | .f (.int i), .f (.int j) => guardB (decide (0 < j)) (k (.f (.int (i.fmod j))) h)
  | .f (.str s), .f (.tup l) => obind (fmtT s l) fun t => k (.f (.str t)) h
  | _, _ => none
 | _ => none
def eqG (a b : PyData) (k : Bool → Option R) : Option R := guardB (SeqAt.shaped a && SeqAt.shaped b) (k (PyData.eqv a b))
def eqV (a b : V) (h : H) (k : Bool → Option R) : Option R := match a, b with
 | .f (.int i), .f (.int j) => k (decide (i = j))
 | .f (.str s), .f (.str t) => k (steq s t)
 | .f (.tup l), .f (.tup m) => eqG (toPy (.tup l)) (toPy (.tup m)) k
 | a, b => obind (items h a) fun l => obind (items h b) fun m => eqG (toPy (.lst l)) (toPy (.lst m)) k
def isV (a b : V) : Option Bool := match a, b with
 | .f .none, .f .none => some true
 | .f (.int _), .f .none => some false
 | .f (.str _), .f .none => some false
 | .f (.bool x), .f (.bool y) => some (match x with | true => y | false => !y)
 | .raw (.type x), .raw (.type y) => some (x == y)
 | _, _ => none
def cmp (op : CmpOp) (a b : V) (h : H) (k : Bool → Option R) : Option R := match op with
 | .Lt => asInt a fun i => asInt b fun j => k (decide (i < j))
 | .LtE => asInt a fun i => asInt b fun j => k (decide (i ≤ j))
 | .Gt => asInt a fun i => asInt b fun j => k (decide (j < i))
 | .GtE => asInt a fun i => asInt b fun j => k (decide (j ≤ i))
 | .Eq => eqV a b h k
 | .NotEq => eqV a b h fun x => k (!x)
 | .Is => obind (isV a b) k
 | .IsNot => obind (isV a b) fun x => k (!x)
 | .In => match a, b with
  | .f (.str s), .f (.lst l) => guardB (PyData.strOk s && PyData.canLayAll0 (toPys l)) (obind (strIn s l) k)
  | _, _ => none
 | .NotIn => match a, b with
  | .f (.str s), .f (.lst l) => guardB (PyData.strOk s && PyData.canLayAll0 (toPys l)) (obind (strIn s l) fun x => k (!x))
  | .f (.str s), .f (.str t) => guardB (fitS t && Nat.beq s.length 1) (k (!(Txt.contains t s)))
  | _, _ => none
def isWsName (x : Str) : Bool := steq x "raw" || steq x "n" || steq x "nt" || steq x "norm" || steq x "is_simple"
def wsAttr (name : Str) : F → Option F
 | .ws raw n nt cnt b simple =>
  match steq name "n" with
  | true => some (.int n)
  | false => match steq name "nt" with
   | true => some (.int nt)
   | false => match steq name "norm" with
    | true => some (.tup [.tup (cnt.map .int), .int b])
    | false => match steq name "is_simple" with
     | true => some (.bool simple)
     | false => match steq name "raw" with
      | true => some (.str raw)
      | false => none
 | _ => none
def mkWs : List (Str × F) → Option F
 | [(a, .str raw), (b, .int n), (c, .int nt), (d, .tup [.tup cs, .int k]), (e, .bool s)] => match steq a "raw" && steq b "n" && steq c "nt" && steq d "norm" && steq e "is_simple", allInt cs with
  | true, some cnt => some (.ws raw n nt cnt k s)
  | _, _ => none
 | _ => none
def attr (P : Prg) (v : V) (name : Str) (h : H) : Option V := match v with
 | .f x => match wsAttr name x with
  | some y => some (.f y)
  | none => none
 | .obj i => match h[i]? with
  | some (.attrs l) => match isWsName name, lget l name with
   | true, some y => some (.f y)
   | _, _ => none
  | _ => none
 | .hdr i => match steq name "_headers" with
  | true => some (.loc i)
  | false => none
 | .raw (.ref a) => match Nat.beq a 100 with
  | true => match steq name "S" with
   | true => some (.f (.str " "))
   | false => match steq name "T" with
    | true => some (.f (.str "\t"))
    | false => none
  | false => none
 | _ => none
def subscr (v i : V) (h : H) (k : KV R) : Option R := match v with
 | .f (.tup l) => asInt i fun j => guardB (fitL l) (obind (seqIndex? j l.length) fun p => obind l[p]? fun x => k (.f x) h)
 | .f (.lst l) => asInt i fun j => guardB (fitL l) (obind (seqIndex? j l.length) fun p => obind l[p]? fun x => k (.f x) h)
 | .loc a => match h[a]? with
  | some (.list l) => asInt i fun j => guardB (fitL l) (obind (seqIndex? j l.length) fun p => obind l[p]? fun x => k (.f x) h)
  | some (.locs l) => asInt i fun j => guardB (fitL l) (obind (seqIndex? j l.length) fun p => obind l[p]? fun x => k (.loc x) h)
  | _ => none
 | _ => none
def sliceV (v : V) (lo hi : Option Int) (h : H) (k : KV R) : Option R := match v with
 | .f (.str s) => guardB (fitS s) (k (.f (.str ⟨(sliceOf s.cps.toList lo hi).toArray⟩)) h)
 | v => obind (items h v) fun l => guardB (fitL l) (k (.f (.lst (sliceOf l lo hi))) h)
def revV (v : V) (h : H) (k : KV R) : Option R := obind (items h v) fun l => guardB (fitL l) (k (.f (.lst l.reverse)) h)
def callV (C : Cl R) (v : V) (args : List V) (kws : List (Str × V)) (h : H) (k : KV R) : Option R := match v with
 | .raw (.builtin id) => match kws with
  | [] => if id = "len" then (match args with
    | [.f (.tup l)] => guardB (fitL l) (k (.f (.int l.length)) h)
    | [.f (.str s)] => guardB (fitS s) (k (.f (.int s.length)) h)
    | [v] => obind (items h v) fun l => guardB (fitL l) (k (.f (.int l.length)) h)
    | _ => none)
   else if id = "min" then (match args with
    | [.f (.int i), .f (.int j)] => k (.f (.int (if j < i then j else i))) h
    | [v] => obind (items h v) fun l => obind (allInt l) fun is => (match is with
     | x :: r => guardB (fitL l) (k (.f (.int (minL x r))) h)
     | [] => none)
    | _ => none)
   else if id = "max" then (match args with
    | [.f (.int i), .f (.int j)] => k (.f (.int (if i < j then j else i))) h
    | [v] => obind (items h v) fun l => obind (allInt l) fun is => (match is with
     | x :: r => guardB (fitL l) (k (.f (.int (maxL x r))) h)
     | [] => none)
    | _ => none)
   else none
  | _ => none
 | .raw (.type T) => match kws with
  | [] => match args with
   | [a] => if T = "str" then asInt a fun i => obind (digitText i) fun s => k (.f (.str s)) h
    else if T = "int" then asStr a fun s => obind (digitVal s) fun i => k (.f (.int i)) h
    else if T = "tuple" then obind (items h a) fun l => guardB (fitL l) (k (.f (.tup l)) h)
    else if T = "type" then (match a with
     | .f (.str _) => k (.raw (.type "str")) h
     | .loc i => (match h[i]? with
      | some (.list _) => k (.raw (.type "list")) h
      | _ => none)
     | _ => none)
    else none
   | _ => none
  | _ => none
 | .raw (.ref a) => match Nat.beq a 100 with
  | true => match args, kws with
   | [.f (.str s)], [] => C 55 [.obj h.length, .f (.str s)] [] (h ++ [.attrs []]) fun v h2 =>
     match v, h2[h.length]? with
     | .f .none, some (.attrs l) => guardB (okP h.length (h2.take h.length)) (obind (mkWs l) fun w => k (.f w) (h2.take h.length))
     | _, _ => none
   | _, _ => none
  | false => match Nat.beq a 279 with
   | true => match args, kws with
    | [], [] => k (.hdr h.length) (h ++ [.list []])
    | _, _ => none
   | false => C a args kws h k
 | _ => none
def sumLen (s : Str) : List Str → Nat
 | [] => 0
 | t :: r => t.length + s.length + sumLen s r
def methV (P : Prg) (C : Cl R) (v : V) (name : Str) (args : List V) (kws : List (Str × V)) (h : H) (k : KV R) : Option R := match v with
 | .f (.str s) => match kws with
  | [] => match steq name "lower", args with
   | true, [] => guardB (fitS s) (k (.f (.str (Txt.lower s))) h)
   | _, args => match steq name "replace", args with
    | true, [.f (.str x), .f (.str _)] => guardB (Builtin.Str.occurrences s x 0 s.length (s.length + 1)).isEmpty (k (.f (.str s)) h)
    | _, args => match steq name "split", args with
     | true, [.f (.str x)] => guardB (fitS s && Nat.beq x.length 1) (k (.f (.lst ((Txt.split s x).map .str))) h)
     | _, args => match steq name "join", args with
      | true, [x] => obind (items h x) fun l => obind (allStr l) fun ts => guardB (decide (sumLen s ts ≤ 100000)) (k (.f (.str (Txt.join s ts))) h)
      | _, _ => none
  | _ => none
 | .f (.ws a b c d e f) => obind (P.wMeth name) fun g => C g (.f (.ws a b c d e f) :: args) kws h k
 | .obj i => obind (P.wMeth name) fun g => C g (.obj i :: args) kws h k
 | .hdr i => obind (P.hMeth name) fun g => C g (.hdr i :: args) kws h k
 | .loc i => match kws with
  | [] => match steq name "append", args with
   | true, [v] => (match h[i]?, v with
    | some (.list l), .f x => guardB (fitL l) (k (.f .none) (h.set i (.list (l ++ [x]))))
    | some (.locs l), .loc j => guardB (fitL l) (k (.f .none) (h.set i (.locs (l ++ [j]))))
    | _, _ => none)
   | false, [] => match steq name "pop" with
    | true => (match h[i]? with
     | some (.locs l) => (match l.getLast? with
      | some j => guardB (fitL l) (k (.loc j) (h.set i (.locs l.dropLast)))
      | none => none)
     | _ => none)
    | false => none
   | _, _ => none
  | _ => none
 | .raw (.ref a) => match kws with
  | [] => match Nat.beq a 126 with
   | true => match steq name "get", args with
    | true, [.f (.str s), d] => (match P.exact s with
     | some (some i) => k (.f (.int i)) h
     | some none => k d h
     | none => none)
    | _, _ => none
   | false => match Nat.beq a 145 || Nat.beq a 150 with
    | true => match steq name "search", args with
     | true, [.f (.str s)] => guardB (fitS s && calm s) (k (.f .none) h)
     | _, _ => none
    | false => none
  | _ => none
 | _ => none
def nodupS : List Str → Bool
 | [] => true
 | x :: r => r.all (fun y => !steq x y) && nodupS r
inductive It where
 | fixed (l : List V)
 | items (l : List V)
 | live (i : Nat)
def iterIt (h : H) : V → Option It
 | .f (.lst l) => some (.fixed (l.map .f))
 | .f (.str s) => guardB (fitS s && s.cps.toList.all fun c => decide (c < 128)) (some (.fixed (s.cps.toList.map fun c => .f (.str ⟨#[c]⟩))))
 | .loc i => match h[i]? with
  | some (.list _) => some (.live i)
  | _ => none
 | _ => none
def isNameOf (x : Str) : PySem.Expr → Bool
 | .Name y _ => steq y x
 | _ => false
def notStar : PySem.Expr → Bool
 | .Starred .. => false
 | _ => true
def plainArgs (args : List PySem.Expr) (kws : List Keyword) : Bool := args.all notStar && kws.all (fun k => k.arg.isSome) && decide (args.length + kws.length < 20)
def notSuper : PySem.Expr → Bool
 | .Call (.Name x _) [] [] _ => !steq x "super"
 | _ => true
def iterE (P : Prg) (I : Ev R) (sc : Scope) (lc : Lc) (h : H) (e : PySem.Expr) (k : It → H → Option R) : Option R :=
 let plain := guardB (notSet e) (I.ev sc lc false h e fun v h1 => obind (iterIt h1 v) fun it => k it h1)
 match e with
 | .Call (.Name x _) args [] _ => match nameV P sc lc x with
  | some (.raw (.type T)) => match T == "range" with
   | true => guardB (plainArgs args []) <| I.evs sc lc false h args fun vs h1 => match vs with
    | [.f (.int b)] => guardB (small b) (k (.fixed ((rangeUp 0 b).map fun i => .f (.int i))) h1)
    | [.f (.int a), .f (.int b)] => guardB (small a && small b) (k (.fixed ((rangeUp a b).map fun i => .f (.int i))) h1)
    | [.f (.int a), .f (.int b), .f (.int c)] => guardB (small a && small b && decide (c = -1)) (k (.fixed ((rangeDn a b).map fun i => .f (.int i))) h1)
    | _ => none
   | false => plain
  | some (.raw (.ref g)) => match Nat.beq g P.genFn && P.hOn with
   | true => guardB (plainArgs args []) <| I.evs sc lc false h args fun vs h1 => match vs with
    | [.f (.str s)] => guardB (fitS s && s.cps.toList.all fun c => decide (c < 128)) (k (.fixed ((escPairs s).map fun p => .f (.tup [.int p.1, .str p.2]))) h1)
    | _ => none
   | false => plain
  | _ => plain
 | .Call (.Attribute o name ap) [] [] cp => match steq name "items" with
  | true => guardB (notSuper o && Nat.beq ap.endLine cp.line) <| I.ev sc lc false h o fun v h1 => match v with
   | .kw l => guardB (nodupS (l.map (·.1))) <| k (.items (l.map fun p => .f (.tup [.str p.1, p.2]))) h1
   | _ => none
  | false => plain
 | _ => plain
def isLocal (sc : Scope) (x : Str) : Bool := match kindS sc x with
 | some .local => true
 | some .cell => true
 | _ => false
def asgNames (sc : Scope) : List PySem.Expr → List V → Lc → Option Lc
 | [], [], lc => some lc
 | .Name x _ :: r, v :: vs, lc => match isLocal sc x with
  | true => asgNames sc r vs (lset lc x v)
  | false => none
 | _, _, _ => none
def asgTarget (sc : Scope) (t : PySem.Expr) (v : V) (lc : Lc) (h : H) : Option Lc := match t with
 | .Name x _ => match isLocal sc x with
  | true => some (lset lc x v)
  | false => none
 | .Tuple ts _ _ => match v with
  | .f (.tup l) => asgNames sc ts (l.map .f) lc
  | .tupV l => asgNames sc ts l lc
  | _ => none
 | _ => none
def assign (I : Ev R) (sc : Scope) (t : PySem.Expr) (v : V) (lc : Lc) (h : H) (k : Lc → H → Option R) : Option R := match t with
 | .Attribute o name _ => I.ev sc lc false h o fun ov h1 => match ov, v with
  | .obj i, .f x => guardB (notSuper o && isWsName name) (match h1[i]? with
   | some (.attrs l) => guardB (decide (l.length ≤ 50)) (k lc (h1.set i (.attrs (lset l name x))))
   | _ => none)
  | _, _ => none
 | .Subscript o i _ => I.ev sc lc false h o fun ov h1 => I.ev sc lc false h1 i fun iv h2 => match ov, iv, v with
  | .loc a, .f (.int j), .f x => (match h2[a]? with
   | some (.list l) => guardB (decide (0 ≤ j) && decide (j.toNat < l.length) && fitL l) (k lc (h2.set a (.list (l.set j.toNat x))))
   | _ => none)
  | _, _, _ => none
 | t => obind (asgTarget sc t v lc h) fun lc1 => k lc1 h
def assignAll (I : Ev R) (sc : Scope) : List PySem.Expr → V → Lc → H → (Lc → H → Option R) → Option R
 | [], _, lc, h, k => k lc h
 | t :: r, v, lc, h, k => assign I sc t v lc h fun lc1 h1 => assignAll I sc r v lc1 h1 k
def tsts (I : Ev R) (sc : Scope) (lc : Lc) : H → List PySem.Expr → (Bool → H → Option R) → Option R
 | h, [], k => k true h
 | h, e :: r, k => I.tst sc lc h e fun b h1 => br b (tsts I sc lc h1 r k) (k false h1)
def compOne (I : Ev R) (sc : Scope) (lc : Lc) (x : Str) (elt : PySem.Expr) (ifs : List PySem.Expr) (v : V) (acc : List F) (h : H) (k : List F → H → Option R) : Option R :=
 tsts I sc (lset lc x v) h ifs fun b h1 => br b (I.ev sc (lset lc x v) false h1 elt fun y h2 => asF y fun z => k (acc ++ [z]) h2) (k acc h1)
def compFix (I : Ev R) (sc : Scope) (lc : Lc) (x : Str) (elt : PySem.Expr) (ifs : List PySem.Expr) : List V → List F → H → (List F → H → Option R) → Option R
 | [], acc, h, k => k acc h
 | v :: r, acc, h, k => compOne I sc lc x elt ifs v acc h fun acc1 h1 => compFix I sc lc x elt ifs r acc1 h1 k
def compLive (I : Ev R) (sc : Scope) (lc : Lc) (x : Str) (elt : PySem.Expr) (ifs : List PySem.Expr) (i : Nat) : Nat → Nat → List F → H → (List F → H → Option R) → Option R
 | 0, _, _, _, _ => none
 | m + 1, j, acc, h, k => match h[i]? with
  | some (.list l) => (match l[j]? with
   | some v => compOne I sc lc x elt ifs (.f v) acc h fun acc1 h1 => compLive I sc lc x elt ifs i m (j + 1) acc1 h1 k
   | none => k acc h)
  | _ => none
def forFix (I : Ev R) (sc : Scope) (t : PySem.Expr) (body : List Stmt) : List V → Lc → H → KS R → Option R
 | [], lc, h, k => k .next lc h
 | v :: r, lc, h, k => obind (asgTarget sc t v lc h) fun lc1 => I.exs sc lc1 h body fun fl lc2 h2 => match fl with
  | .next => forFix I sc t body r lc2 h2 k
  | .brk => k .next lc2 h2
  | .ret x => k (.ret x) lc2 h2
def forLive (I : Ev R) (sc : Scope) (t : PySem.Expr) (body : List Stmt) (i : Nat) : Nat → Nat → Lc → H → KS R → Option R
 | 0, _, _, _, _ => none
 | m + 1, j, lc, h, k => match h[i]? with
  | some (.list l) => (match l[j]? with
   | some v => obind (asgTarget sc t (.f v) lc h) fun lc1 => I.exs sc lc1 h body fun fl lc2 h2 => match fl with
    | .next => forLive I sc t body i m (j + 1) lc2 h2 k
    | .brk => k .next lc2 h2
    | .ret x => k (.ret x) lc2 h2
   | none => k .next lc h)
  | _ => none
def whileL (I : Ev R) (sc : Scope) (test : PySem.Expr) (body : List Stmt) : Nat → Lc → H → KS R → Option R
 | 0, _, _, _ => none
 | m + 1, lc, h, k => I.tst sc lc h test fun b h1 => br b (I.exs sc lc h1 body fun fl lc2 h2 => match fl with
  | .next => whileL I sc test body m lc2 h2 k
  | .brk => k .next lc2 h2
  | .ret x => k (.ret x) lc2 h2) (k .next lc h1)
def orAll (I : Ev R) (sc : Scope) (lc : Lc) : H → List PySem.Expr → (Bool → H → Option R) → Option R
 | h, [], k => k false h
 | h, e :: r, k => I.tst sc lc h e fun b h1 => br b (k true h1) (orAll I sc lc h1 r k)
def optI {β : Type} (I : Ev R) (sc : Scope) (lc : Lc) (h : H) (e : Option PySem.Expr) (k : Option Int → H → Option R) : Option R := match e with
 | none => k none h
 | some e => I.ev sc lc false h e fun v h1 => asInt v fun i => k (some i) h1
def kwsE (I : Ev R) (sc : Scope) (lc : Lc) : H → List Keyword → (List (Str × V) → H → Option R) → Option R
 | h, [], k => k [] h
 | h, ⟨some n, e, _⟩ :: r, k => I.ev sc lc false h e fun v h1 => kwsE I sc lc h1 r fun l h2 => k ((n, v) :: l) h2
 | _, ⟨none, _, _⟩ :: _, _ => none
def joinE (I : Ev R) (sc : Scope) (lc : Lc) : H → Str → List PySem.Expr → (Str → H → Option R) → Option R
 | h, acc, [], k => k acc h
 | h, acc, e :: r, k => I.ev sc lc false h e fun v h1 => asStr v fun s => guardB (fitS (acc ++ s)) (joinE I sc lc h1 (acc ++ s) r k)
def isSeqO : Option O → Bool
 | some (.list _) => true
 | some (.locs _) => true
 | _ => false
def okMeth (P : Prg) (name : Str) (h : H) : V → Bool
 | .f (.str _) => steq name "lower" || steq name "replace" || steq name "split" || steq name "join"
 | .f (.ws ..) => (P.wMeth name).isSome
 | .obj _ => false
 | .hdr _ => (P.hMeth name).isSome
 | .loc i => isSeqO h[i]? && (steq name "append" || steq name "pop")
 | .raw (.ref a) => (Nat.beq a 126 && steq name "get") || ((Nat.beq a 145 || Nat.beq a 150) && steq name "search")
 | _ => false
def okCallee (P : Prg) : V → Bool
 | .raw (.builtin _) => true
 | .raw (.type _) => true
 | .raw (.ref a) => Nat.beq a 100 || (Nat.beq a 279 && P.hOn) || (P.fn a).isSome
 | _ => false
def isLoc1 : NameKind → Bool
 | .local => true
 | _ => false
def okComp (scope sc : Scope) (x : Str) : Bool :=
 (match scope.kind with | .function => true | _ => false) && scope.names.all (fun p => (match p.2 with | .cell => false | _ => true) && (!(isFree p.2) || isCell (kindS sc p.1)) && (!(isLoc1 p.2) || (match kindS scope p.1 with | some .local => true | _ => false))) &&
  (match kindS scope x with | some .local => true | _ => false)
def compE (P : Prg) (I : Ev R) (sc : Scope) (lc : Lc) (h : H) (x : Str) (elt iter : PySem.Expr) (ifs : List PySem.Expr) (scope : Scope) (k : List F → H → Option R) : Option R :=
 guardB (okComp scope sc x) (iterE P I sc lc h iter fun it h1 => match it with
  | .fixed l => guardB (fitL l) (compFix I (relabelS scope sc) (cellsOnly (relabelS scope sc) lc) x elt ifs l [] h1 k)
  | .items _ => none
  | .live i => compLive I (relabelS scope sc) (cellsOnly (relabelS scope sc) lc) x elt ifs i 100 0 [] h1 k)
def evStep (P : Prg) (C : Cl R) (I : Ev R) (sc : Scope) (lc : Lc) (mu : Bool) (h : H) (e : PySem.Expr) (k : KV R) : Option R := match e with
 | .Constant c _ _ => obind (constF c) fun x => k (.f x) h
 | .Name x _ => obind (nameV P sc lc x) fun v => k v h
 | .UnaryOp .USub x _ => I.ev sc lc false h x fun v h1 => asInt v fun i => k (.f (.int (-i))) h1
 | .BinOp l op r _ => I.ev sc lc false h l fun a h1 => I.ev sc lc false h1 r fun b h2 => binop mu op a b h2 k
 | .Compare l [op] [r] _ => guardB (notSet r) (I.ev sc lc false h l fun a h1 => I.ev sc lc false h1 r fun b h2 => cmp op a b h2 fun x => k (.f (.bool x)) h2)
 | .IfExp t a b _ => I.tst sc lc h t fun c h1 => br c (I.ev sc lc mu h1 a k) (I.ev sc lc mu h1 b k)
 | .Tuple es _ _ => guardB (plainArgs es []) <| I.evs sc lc mu h es fun vs h1 => k (mkTup vs) h1
 | .List es _ => guardB (plainArgs es []) <| I.evs sc lc mu h es fun vs h1 => match mu with
  | true => (match allF vs with
   | some l => k (.loc h1.length) (h1 ++ [.list l])
   | none => (match allLoc vs with
    | some l => k (.loc h1.length) (h1 ++ [.locs l])
    | none => none))
  | false => obind (allF vs) fun l => k (.f (.lst l)) h1
 | .ListComp elt [⟨.Name x _, iter, ifs, 0⟩] scope _ => compE P I sc lc h x elt iter ifs scope fun acc h2 => k (.f (.lst acc)) h2
 | .Subscript v (.Slice lo hi none _) _ => I.ev sc lc false h v fun a h1 => optI (β := R) I sc lc h1 lo fun x h2 => optI (β := R) I sc lc h2 hi fun y h3 => sliceV a x y h3 k
 | .Subscript v (.Slice none none (some s) _) _ => I.ev sc lc false h v fun a h1 => I.ev sc lc false h1 s fun b h2 => asInt b fun j => guardB (decide (j = -1)) (revV a h2 k)
 | .Subscript v i _ => I.ev sc lc false h v fun a h1 => I.ev sc lc false h1 i fun b h2 => subscr a b h2 k
 | .Call (.Attribute o name ap) args kws cp => guardB (notSuper o && Nat.beq ap.endLine cp.line && plainArgs args kws) (I.ev sc lc false h o fun ov h1 => guardB (okMeth P name h1 ov) (I.evs sc lc (steq name "append") h1 args fun vs h2 =>
   kwsE I sc lc h2 kws fun ks h3 => methV P C ov name vs ks h3 k))
 | .Call g args kws _ => guardB (plainArgs args kws) <| I.ev sc lc false h g fun fv h1 => guardB (okCallee P fv) (I.evs sc lc false h1 args fun vs h2 => kwsE I sc lc h2 kws fun ks h3 => callV C fv vs ks h3 k)
 | .Attribute o name _ => guardB (notSuper o) (I.ev sc lc false h o fun ov h1 => obind (attr P ov name h1) fun v => k v h1)
 | .FormattedValue x c none _ => guardB (decide (c = 115)) (I.ev sc lc false h x fun v h1 => asStr v fun s => guardB (fitS s) (k (.f (.str s)) h1))
 | .JoinedStr (a :: b :: es) _ => joinE I sc lc h Str.empty (a :: b :: es) fun s h1 => k (.f (.str s)) h1
 | _ => none
def evsStep (I : Ev R) (sc : Scope) (lc : Lc) (mu : Bool) (h : H) (es : List PySem.Expr) (k : List V → H → Option R) : Option R := match es with
 | [] => k [] h
 | e :: r => I.ev sc lc mu h e fun v h1 => I.evs sc lc mu h1 r fun vs h2 => k (v :: vs) h2
def plainTst : PySem.Expr → Bool
 | .UnaryOp .. => false
 | .BoolOp .. => false
 | .IfExp .. => false
 | .Compare .. => false
 | _ => true
def tstStep (I : Ev R) (sc : Scope) (lc : Lc) (h : H) (e : PySem.Expr) (k : Bool → H → Option R) : Option R := match e with
 | .Compare l [op] [r] _ => guardB (notSet r) (I.ev sc lc false h l fun a h1 => I.ev sc lc false h1 r fun b h2 => cmp op a b h2 fun x => k x h2)
 | .BoolOp .And es _ => tsts I sc lc h es k
 | .BoolOp .Or es _ => orAll I sc lc h es k
 | e => guardB (plainTst e) (I.ev sc lc false h e fun v h1 => obind (truthyV v) fun b => k b h1)
def notRef : V → Bool
 | .f .none => true
 | .f (.str _) => true
 | .f (.int _) => true
 | .f (.bool _) => true
 | _ => false
def tupNames : List PySem.Expr → List Str
 | [] => []
 | .Name x _ :: r => x :: tupNames r
 | _ :: r => tupNames r
def okTup : List PySem.Expr → PySem.Expr → Bool
 | [.Tuple ts _ _], .Tuple vs _ _ => (vs.all (foldedForSure 8) || !(vs.all (constantsAlone 8))) && nodupS (tupNames ts)
 | [.List _ _], _ => false
 | _, _ => true
def isCompE : PySem.Expr → Bool
 | .ListComp .. => true
 | .SetComp .. => true
 | .DictComp .. => true
 | _ => false
def isTup : PySem.Expr → Bool
 | .Tuple .. => true
 | _ => false
def exStep (P : Prg) (I : Ev R) (sc : Scope) (lc : Lc) (h : H) (s : Stmt) (k : KS R) : Option R := match s with
 | .Assign ts e _ => guardB (okTup ts e) <| I.ev sc lc true h e fun v h1 => assignAll I sc ts v lc h1 fun lc1 h2 => k .next lc1 h2
 | .AugAssign (.Name x _) op e _ => guardB (isLocal sc x) (obind (lget lc x) fun old => I.ev sc lc false h e fun v h1 =>
   match op, old, v with
   | .Add, .f (.int i), .f (.int j) => k .next (lset lc x (.f (.int (i + j)))) h1
   | .Sub, .f (.int i), .f (.int j) => k .next (lset lc x (.f (.int (i - j)))) h1
   | .Add, .f (.str i), .f (.str j) => guardB (fitS i && fitS j) (k .next (lset lc x (.f (.str (i ++ j)))) h1)
   | _, _, _ => none)
 | .Expr e _ => guardB (!isCompE e) (I.ev sc lc false h e fun _ h1 => k .next lc h1)
 | .If t a b _ => I.tst sc lc h t fun c h1 => br c (I.exs sc lc h1 a k) (I.exs sc lc h1 b k)
 | .While t body [] _ => whileL I sc t body 100 lc h k
 | .For t iter body [] _ => iterE P I sc lc h iter fun it h1 => match it with
  | .fixed l => forFix I sc t body l lc h1 k
  | .items l => guardB (isTup t) (forFix I sc t body l lc h1 k)
  | .live i => forLive I sc t body i 100 0 lc h1 k
 | .Return (some e) _ => I.ev sc lc false h e fun v h1 => k (.ret v) lc h1
 | .Break _ => k .brk lc h
 | _ => none
def exsStep (I : Ev R) (sc : Scope) (lc : Lc) (h : H) (ss : List Stmt) (k : KS R) : Option R := match ss with
 | [] => k .next lc h
 | s :: r => I.ex sc lc h s fun fl lc1 h1 => match fl with
  | .next => I.exs sc lc1 h1 r k
  | .brk => k .brk lc1 h1
  | .ret v => k (.ret v) lc1 h1
def evr (P : Prg) (C : Cl R) : Nat → Ev R
 | 0 => ⟨fun _ _ _ _ _ _ => none, fun _ _ _ _ _ _ => none, fun _ _ _ _ _ => none, fun _ _ _ _ _ => none, fun _ _ _ _ _ => none⟩
 | n + 1 => ⟨evStep P C (evr P C n), evsStep (evr P C n), tstStep (evr P C n), exStep P (evr P C n), exsStep (evr P C n)⟩
def retOf : Fl → V
 | .ret v => v
 | _ => .f .none
def callFn (P : Prg) (C : Cl R) : Cl R := fun a args kws h k =>
 obind (P.fn a) fun fi => obind (bindFI fi args kws) fun lc => (evr P C 60).exs fi.scope lc h fi.body fun fl _ h1 => retK h.length (retOf fl) h1 k
def Prg.off (P : Prg) : Prg := { P with hOn := false }
def calls (P : Prg) : Nat → Cl R
 | 0 => fun _ _ _ _ _ => none
 | 1 => callFn P.off (fun _ _ _ _ _ => none)
 | n + 2 => callFn P (calls P (n + 1))
end
def theBody : List Stmt := PySem.Challenge.pw_sh0073_01.main.body
def innerB : Stmt → List Stmt
 | .ClassDef _ _ _ b _ _ _ _ _ _ _ => b
 | _ => []
def fiOf (d : List F) : Option Stmt → FI
 | some (.FunctionDef _ a body _ _ _ sc _ _ _) =>
  { params := a.args.map (·.arg), kwonly := a.kwonlyargs.map (·.arg), dflt := d, kwarg := a.kwarg.map (·.arg), body := body, scope := sc }
 | _ => { params := [], body := [], scope := default }
def wBody : List Stmt := match theBody[3]? with | some s => innerB s | none => []
def hBody : List Stmt := match theBody[65]? with | some s => innerB s | none => []
def fiTree : FI := fiOf [] theBody[67]?
def fiWorths : FI := fiOf [] theBody[68]?
def fiBounds : FI := fiOf [] theBody[69]?
def fiSearch : FI := fiOf [] theBody[70]?
def fiRead : FI := fiOf [] theBody[71]?
def fiLaw : FI := fiOf [] theBody[72]?
def fiStrip : FI := fiOf [] theBody[6]?
def fiCheck : FI := fiOf [] theBody[7]?
def fiNonT : FI := fiOf [] theBody[59]?
def fiFmt : FI := fiOf [.none, .int 1] theBody[64]?
def fiWInit : FI := fiOf [] wBody[1]?
def fiLongest : FI := fiOf [] wBody[2]?
def fiIndent : FI := fiOf [] wBody[3]?
def fiLess : FI := fiOf [] wBody[6]?
def fiHInit : FI := fiOf [.none] hBody[0]?
def fiConv : FI := fiOf [] hBody[1]?
def fiGetAll : FI := fiOf [] hBody[7]?
def fiGet : FI := fiOf [.none] hBody[8]?
def fiItems : FI := fiOf [] hBody[11]?
def fiSetd : FI := fiOf [] hBody[15]?
def fiAdd : FI := fiOf [] hBody[16]?
def fnTab : List (Nat × FI) := [(305, fiSearch), (317, fiLaw), (288, fiTree), (293, fiWorths), (298, fiBounds), (312, fiRead), (118, fiStrip), (125, fiCheck), (135, fiNonT), (158, fiFmt),
 (55, fiWInit), (62, fiLongest), (69, fiIndent), (90, fiLess), (180, fiConv), (218, fiGetAll), (226, fiGet), (243, fiItems), (269, fiSetd), (276, fiAdd)]
def nlook {α : Type} : List (Nat × α) → Nat → Option α
 | [], _ => none
 | (a, x) :: r, b => match Nat.beq a b with
  | true => some x
  | false => nlook r b
def gTab : List (Str × V) := [
 ("_law_tree", .raw (.ref 288)), ("_law_worths", .raw (.ref 293)), ("_law_bounds", .raw (.ref 298)), ("_law_search", .raw (.ref 305)), ("_law_read", .raw (.ref 312)),
 ("_strip_quoted_realnames", .raw (.ref 118)), ("_check_parenthesis", .raw (.ref 125)), ("_iter_escaped_chars", .raw (.ref 111)), ("ISNONTERMINAL", .raw (.ref 135)), ("_formatparam", .raw (.ref 158)),
 ("Headers", .raw (.ref 279)), ("Whitespace", .raw (.ref 100)), ("EXACT_TOKEN_TYPES", .raw (.ref 126)), ("_name_disallowed_re", .raw (.ref 145)), ("_value_disallowed_re", .raw (.ref 150)),
 ("LESS", .f (.int 20)), ("RPAR", .f (.int 8)), ("LPAR", .f (.int 7)), ("NT_OFFSET", .f (.int 256)),
 ("len", .raw (.builtin "len")), ("min", .raw (.builtin "min")), ("max", .raw (.builtin "max")), ("range", .raw (.type "range")), ("str", .raw (.type "str")), ("int", .raw (.type "int")),
 ("tuple", .raw (.type "tuple")), ("enumerate", .raw (.type "enumerate")), ("type", .raw (.type "type")), ("list", .raw (.type "list"))]
def wTab : List (Str × Addr) := [("less", 90), ("longest_run_of_spaces", 62), ("indent_level", 69)]
def hTab : List (Str × Addr) := [("_convert_string_type", 180), ("get_all", 218), ("get", 226), ("items", 243), ("setdefault", 269), ("add_header", 276)]
def xTab : List (Str × Option Int) := [("<", some 20), (">", some 21), ("(", some 7), (")", some 8), ("a", none), ("A", none), ("b", none), ("B", none), ("\\(", none), ("\\)", none), ("\\\"", none)]
def Pr : Prg := { G := lget gTab, fn := nlook fnTab, wMeth := lget wTab, hMeth := lget hTab, exact := lget xTab, genFn := 111, hOn := true }
def runLaw (script : List Int) : Option V := calls Pr 12 317 [.f (.lst (script.map .int))] [] [] fun v _ => some v
def ext {R : Type} (C : Cl R) (a0 : Addr) (S : List V → List (Str × V) → H → KV R → Option R) : Cl R := fun a args kws h k => match Nat.beq a a0 with
 | true => S args kws h k
 | false => C a args kws h k
abbrev none0 {R : Type} : Cl R := fun _ _ _ _ _ => none
inductive Tow : Nat → Cl Unit → Prop
 | zero : Tow 1 none0
 | step {n : Nat} {C : Cl Unit} {a0 : Addr} {S : List V → List (Str × V) → H → KV Unit → Option Unit} : Tow n C → (∀ args kws h k r, S args kws h k = some r → callFn Pr C a0 args kws h k = some r) → Tow (n + 1) (ext C a0 S)
end Mine
end
section
set_option maxRecDepth 4000
namespace Mine.Q
variable {R : Type}
theorem ret_same {h : H} {x : F} {k : KV R} (g : okP h.length h = true) : retK h.length (.f x) h k = k (.f x) h := by
 unfold retK
 rw [List.take_length, g]
 rfl
theorem guardB_t {β : Type} {b : Bool} {x : Option β} (h : b = true) : guardB b x = x := by subst h; rfl
theorem guardB_some' {β : Type} {b : Bool} {x : Option β} {r : β} (h : guardB b x = some r) : b = true ∧ x = some r := by
 cases b with
 | true => exact ⟨rfl, h⟩
 | false => cases h
def S135 (args : List V) (kws : List (Str × V)) (h : H) (k : KV R) : Option R := match args, kws with
 | [.f (.int x)], [] => guardB (okP h.length h) (k (.f (.bool (decide (256 ≤ x)))) h)
 | _, _ => none
theorem c135 (C : Cl R) (x : Int) (h : H) (k : KV R) : callFn Pr C 135 [.f (.int x)] [] h k = retK h.length (.f (.bool (decide (256 ≤ x)))) h k := by kernel_rfl
theorem s135 (C : Cl R) : ∀ args kws h k r, S135 args kws h k = some r → callFn Pr C 135 args kws h k = some r := by
 intro args kws h k r e
 unfold S135 at e
 split at e
 ·obtain ⟨g, e⟩ := guardB_some' e
  rw [c135, ret_same g]; exact e
 ·cases e
def lrs (cnt : List Int) (b : Int) : Int := if (cnt.length : Int) - 1 < b then b else (cnt.length : Int) - 1
def S62 (args : List V) (kws : List (Str × V)) (h : H) (k : KV R) : Option R := match args, kws with
 | [.f (.ws _ _ _ cnt b _)], [] => guardB (okP h.length h && decide (cnt.length ≤ 100)) (k (.f (.int (lrs cnt b))) h)
 | _, _ => none
theorem c62 (C : Cl R) (raw : Str) (n nt : Int) (cnt : List Int) (b : Int) (sm : Bool) (h : H) (k : KV R) :
  callFn Pr C 62 [.f (.ws raw n nt cnt b sm)] [] h k = guardB (fitL (cnt.map F.int)) (retK h.length (.f (.int (if ((cnt.map F.int).length : Int) - 1 < b then b else ((cnt.map F.int).length : Int) - 1))) h k) := by kernel_rfl
theorem fit100 {α : Type} {l : List α} (h : l.length ≤ 100000) : fitL l = true := by unfold fitL; exact decide_eq_true h
theorem s62 (C : Cl R) : ∀ args kws h k r, S62 args kws h k = some r → callFn Pr C 62 args kws h k = some r := by
 intro args kws h k r e
 unfold S62 at e
 split at e
 ·obtain ⟨g, e⟩ := guardB_some' e
  rw [Bool.and_eq_true] at g
  have hl := of_decide_eq_true g.2
  rw [c62, guardB_t (fit100 (by simp; omega)), ret_same g.1]
  simp only [List.length_map]
  exact e
 ·cases e
def nthS : List Stmt → Nat → Stmt
 | [], _ => default
 | a :: _, 0 => a
 | _ :: r, n + 1 => nthS r n
def fT : Stmt → PySem.Expr
 | .For t _ _ _ _ => t
 | _ => .Tuple [] 0 default
def fB : Stmt → List Stmt
 | .For _ _ b _ _ => b
 | _ => []
def restK (J : Ev R) (sc : Scope) (r : List Stmt) (K : KS R) : KS R := fun fl lc1 h1 => match fl with
 | .next => J.exs sc lc1 h1 r K
 | .brk => K .brk lc1 h1
 | .ret v => K (.ret v) lc1 h1
def retS (h : H) (k : KV R) : KS R := fun fl _ h1 => retK h.length (retOf fl) h1 k
abbrev t69 : PySem.Expr := fT (nthS fiIndent.body 2)
abbrev b69 : List Stmt := fB (nthS fiIndent.body 2)
def lc69 (raw : Str) (n nt : Int) (cnt : List Int) (b : Int) (sm : Bool) (ts il : Int) (o : Option Int) : Lc :=
 ([("self", .f (.ws raw n nt cnt b sm)), ("tabsize", .f (.int ts)), ("count", .f (.tup (cnt.map F.int))), ("trailing", .f (.int b)), ("il", .f (.int il))] : Lc) ++ (match o with
  | none => []
  | some i => [("i", .f (.int i))])
section
variable (C : Cl R) (raw : Str) (n nt : Int) (cnt : List Int) (b : Int) (sm : Bool) (ts : Int)
theorem c69 (h : H) (k : KV R) : callFn Pr C 69 [.f (.ws raw n nt cnt b sm), .f (.int ts)] [] h k =
  guardB (fitL (cnt.map F.int)) (guardB (small ts && small ((cnt.map F.int).length : Int)) (forFix (evr Pr C 56) fiIndent.scope t69 b69 ((rangeUp ts ((cnt.map F.int).length : Int)).map fun i => .f (.int i))
   (lc69 raw n nt cnt b sm ts 0 none) h (restK (evr Pr C 57) fiIndent.scope [nthS fiIndent.body 3] (retS h k)))) := by kernel_rfl
theorem c69e (il : Int) (o : Option Int) (h h0 : H) (k : KV R) : restK (evr Pr C 57) fiIndent.scope [nthS fiIndent.body 3] (retS h0 k) .next (lc69 raw n nt cnt b sm ts il o) h =
  guardB (small ts) (retK h0.length (.f (.int (b + ts * (il + nt)))) h k) := by cases o <;> kernel_rfl
theorem c69t (i il : Int) (o : Option Int) (r : List V) (h : H) (K : KS R) : forFix (evr Pr C 56) fiIndent.scope t69 b69 (.f (.int i) :: r) (lc69 raw n nt cnt b sm ts il o) h K =
  guardB (small ts && decide (0 < ts)) (subscr (.f (.tup (cnt.map F.int))) (.f (.int i)) h fun v h1 => binop false .Mult (.f (.int (i.fdiv ts))) v h1 fun v2 h2 => binop true .Add (.f (.int il)) v2 h2 fun v3 h3 =>
   forFix (evr Pr C 56) fiIndent.scope t69 b69 r (lset (lc69 raw n nt cnt b sm ts il (some i)) "il" v3) h3 K) := by cases o <;> kernel_rfl
end
theorem seqI {i : Int} {n : Nat} (h0 : 0 ≤ i) (h1 : i < n) : seqIndex? i n = some i.toNat := by
 unfold seqIndex?
 have hn : ¬ i < 0 := by omega
 simp [hn, h0, h1]
theorem subscr_tup {l : List F} {i : Int} {x : F} {h : H} {k : KV R} (hf : l.length ≤ 100000) (h0 : 0 ≤ i) (hx : l[i.toNat]? = some x) : subscr (.f (.tup l)) (.f (.int i)) h k = k (.f x) h := by
 have hl := (List.getElem?_eq_some_iff.mp hx).1
 show guardB (fitL l) (obind (seqIndex? i l.length) fun p => obind l[p]? fun x => k (.f x) h) = _
 rw [guardB_t (fit100 hf), seqI h0 (by omega)]
 show obind l[i.toNat]? _ = _
 rw [hx]; rfl
theorem subscr_lst {l : List F} {i : Int} {x : F} {h : H} {k : KV R} (hf : l.length ≤ 100000) (h0 : 0 ≤ i) (hx : l[i.toNat]? = some x) : subscr (.f (.lst l)) (.f (.int i)) h k = k (.f x) h := by
 have hl := (List.getElem?_eq_some_iff.mp hx).1
 show guardB (fitL l) (obind (seqIndex? i l.length) fun p => obind l[p]? fun x => k (.f x) h) = _
 rw [guardB_t (fit100 hf), seqI h0 (by omega)]
 show obind l[i.toNat]? _ = _
 rw [hx]; rfl
theorem small_of {i : Int} (h : i.natAbs < 1000000) : small i = true := decide_eq_true h
def indF (ts : Int) (cnt : List Int) (il i : Int) : Int := il + i.fdiv ts * cnt.getD i.toNat 0
def indW (ts : Int) (cnt : List Int) (b nt : Int) : Int := b + ts * ((rangeUp ts cnt.length).foldl (indF ts cnt) 0 + nt)
section
variable (C : Cl R) (raw : Str) (n nt : Int) (cnt : List Int) (b : Int) (sm : Bool) (ts : Int)
theorem loop69 (hl : cnt.length ≤ 100) (h0 : 0 < ts) (h1 : ts < 1000) (h : H) (K : KS R) : ∀ (l : List Int) (il : Int) (o : Option Int), (∀ i ∈ l, 0 ≤ i ∧ i < cnt.length) →
  ∃ o', forFix (evr Pr C 56) fiIndent.scope t69 b69 (l.map fun i => .f (.int i)) (lc69 raw n nt cnt b sm ts il o) h K = K .next (lc69 raw n nt cnt b sm ts (l.foldl (indF ts cnt) il) o') h
 | [], il, o, _ => ⟨o, rfl⟩
 | i :: l, il, o, hi => by
  obtain ⟨hi0, hi1⟩ := hi i (.head _)
  obtain ⟨o', e⟩ := loop69 hl h0 h1 h K l (indF ts cnt il i) (some i) fun j hj => hi j (.tail _ hj)
  refine ⟨o', ?_⟩
  rw [List.map_cons, c69t, guardB_t (by rw [Bool.and_eq_true]; exact ⟨small_of (by omega), decide_eq_true h0⟩)]
  have hx : (cnt.map F.int)[i.toNat]? = some (.int (cnt.getD i.toNat 0)) := by
   have : i.toNat < cnt.length := by omega
   simp [List.getD_eq_getElem?_getD, this]
  rw [subscr_tup (by simp; omega) hi0 hx]
  have hb : (i.fdiv ts).natAbs < 1000000 := by
   have h2 : i.fdiv ts = i / ts := Int.fdiv_eq_ediv_of_nonneg _ (by omega)
   have h3 : 0 ≤ i / ts := Int.ediv_nonneg hi0 (by omega)
   have h4 : i / ts ≤ i := Int.ediv_le_self _ hi0
   rw [h2]; omega
  show guardB (small (i.fdiv ts)) _ = _
  rw [guardB_t (small_of hb)]
  exact e
def S69 (args : List V) (kws : List (Str × V)) (h : H) (k : KV R) : Option R := match args, kws with
 | [.f (.ws _ _ nt cnt b _), .f (.int ts)], [] => guardB (okP h.length h && decide (cnt.length ≤ 100) && decide (0 < ts) && decide (ts < 1000)) (k (.f (.int (indW ts cnt b nt))) h)
 | _, _ => none
end
theorem s69 (C : Cl R) : ∀ args kws h k r, S69 args kws h k = some r → callFn Pr C 69 args kws h k = some r := by
 intro args kws h k r e
 unfold S69 at e
 split at e
 ·rename_i raw n nt cnt b sm ts
  obtain ⟨g, e⟩ := guardB_some' e
  simp only [Bool.and_eq_true, decide_eq_true_eq] at g
  obtain ⟨⟨⟨g1, g2⟩, g3⟩, g4⟩ := g
  rw [c69, guardB_t (fit100 (by simp; omega)), List.length_map, guardB_t (by rw [Bool.and_eq_true]; exact ⟨small_of (by omega), small_of (by omega)⟩)]
  obtain ⟨o', e'⟩ := loop69 C raw n nt cnt b sm ts g2 g3 g4 h (restK (evr Pr C 57) fiIndent.scope [nthS fiIndent.body 3] (retS h k)) (rangeUp ts cnt.length) 0 none (fun i hi => by
   unfold rangeUp at hi
   obtain ⟨j, hj, rfl⟩ := List.mem_map.mp hi
   have := List.mem_range.mp hj
   omega)
  rw [e', c69e, guardB_t (small_of (by omega)), ret_same g1]
  exact e
 ·cases e
abbrev CA : Cl R := ext none0 135 S135
abbrev CB : Cl R := ext CA 62 S62
abbrev CC : Cl R := ext CB 69 S69
abbrev t90 : PySem.Expr := fT (nthS fiLess.body 3)
abbrev b90 : List Stmt := fB (nthS fiLess.body 3)
def lc90 (w1 w2 : F) (n : Int) (o : Option Int) : Lc := ([("self", .f w1), ("other", .f w2), ("n", .f (.int n))] : Lc) ++ (match o with
  | none => []
  | some i => [("ts", .f (.int i))])
section
variable (raw : Str) (n nt : Int) (cnt : List Int) (b : Int) (sm : Bool) (raw' : Str) (n' nt' : Int) (cnt' : List Int) (b' : Int) (sm' : Bool)
def mx90 : Int := if lrs cnt b < lrs cnt' b' then lrs cnt' b' else lrs cnt b
def rest90 (h : H) (k : KV R) : Option R := guardB (okP h.length h && decide (cnt.length ≤ 100)) (guardB (okP h.length h && decide (cnt'.length ≤ 100)) (guardB (small 2 && small (mx90 cnt b cnt' b' + 1 + 1))
 (forFix (evr Pr CC 55) fiLess.scope t90 b90 ((rangeUp 2 (mx90 cnt b cnt' b' + 1 + 1)).map fun i => .f (.int i)) (lc90 (.ws raw n nt cnt b sm) (.ws raw' n' nt' cnt' b' sm') (mx90 cnt b cnt' b' + 1) none) h (restK (evr Pr CC 56) fiLess.scope [nthS fiLess.body 4] (retS h k)))))
theorem c90 (h : H) (k : KV R) : callFn Pr CC 90 [.f (.ws raw n nt cnt b sm), .f (.ws raw' n' nt' cnt' b' sm')] [] h k =
  br (decide (n' ≤ n)) (retK h.length (.f (.bool false)) h k) (br sm (br sm' (retK h.length (.f (.bool (decide (nt ≤ nt')))) h k) (rest90 raw n nt cnt b sm raw' n' nt' cnt' b' sm' h k)) (rest90 raw n nt cnt b sm raw' n' nt' cnt' b' sm' h k)) := by kernel_rfl
theorem c90t (m ts : Int) (o : Option Int) (r : List V) (h : H) (K : KS R) : forFix (evr Pr CC 55) fiLess.scope t90 b90 (.f (.int ts) :: r) (lc90 (.ws raw n nt cnt b sm) (.ws raw' n' nt' cnt' b' sm') m o) h K =
  guardB (okP h.length h && decide (cnt.length ≤ 100) && decide (0 < ts) && decide (ts < 1000)) (guardB (okP h.length h && decide (cnt'.length ≤ 100) && decide (0 < ts) && decide (ts < 1000)) (br (decide (indW ts cnt' b' nt' ≤ indW ts cnt b nt))
   (K (.ret (.f (.bool false))) (lc90 (.ws raw n nt cnt b sm) (.ws raw' n' nt' cnt' b' sm') m (some ts)) h)
   (forFix (evr Pr CC 55) fiLess.scope t90 b90 r (lc90 (.ws raw n nt cnt b sm) (.ws raw' n' nt' cnt' b' sm') m (some ts)) h K))) := by cases o <;> kernel_rfl
theorem c90e (m : Int) (o : Option Int) (h : H) (h0 : H) (k : KV R) : restK (evr Pr CC 56) fiLess.scope [nthS fiLess.body 4] (retS h0 k) .next (lc90 (.ws raw n nt cnt b sm) (.ws raw' n' nt' cnt' b' sm') m o) h = retK h0.length (.f (.bool true)) h k := by cases o <;> kernel_rfl
end
def lessL (nt : Int) (cnt : List Int) (b : Int) (nt' : Int) (cnt' : List Int) (b' : Int) : List Int → Bool
 | [] => true
 | ts :: r => !(decide (indW ts cnt' b' nt' ≤ indW ts cnt b nt)) && lessL nt cnt b nt' cnt' b' r
def lessW (n nt : Int) (cnt : List Int) (b : Int) (sm : Bool) (n' nt' : Int) (cnt' : List Int) (b' : Int) (sm' : Bool) : Bool :=
 !(decide (n' ≤ n)) && (match sm && sm' with
  | true => decide (nt ≤ nt')
  | false => lessL nt cnt b nt' cnt' b' (rangeUp 2 (mx90 cnt b cnt' b' + 1 + 1)))
def S90 (args : List V) (kws : List (Str × V)) (h : H) (k : KV R) : Option R := match args, kws with
 | [.f (.ws _ n nt cnt b sm), .f (.ws _ n' nt' cnt' b' sm')], [] => guardB (okP h.length h && decide (cnt.length ≤ 100) && decide (cnt'.length ≤ 100) && decide (0 ≤ b) && decide (b ≤ 900) && decide (0 ≤ b') && decide (b' ≤ 900)) (k (.f (.bool (lessW n nt cnt b sm n' nt' cnt' b' sm'))) h)
 | _, _ => none
theorem loop90 (raw : Str) (n nt : Int) (cnt : List Int) (b : Int) (sm : Bool) (raw' : Str) (n' nt' : Int) (cnt' : List Int) (b' : Int) (sm' : Bool) (m : Int) (h h0 : H) (k : KV R) (g : okP h.length h = true) (hl : cnt.length ≤ 100) (hl' : cnt'.length ≤ 100) :
  ∀ (l : List Int) (o : Option Int), (∀ i ∈ l, 0 < i ∧ i < 1000) → forFix (evr Pr CC 55) fiLess.scope t90 b90 (l.map fun i => .f (.int i)) (lc90 (.ws raw n nt cnt b sm) (.ws raw' n' nt' cnt' b' sm') m o) h (restK (evr Pr CC 56) fiLess.scope [nthS fiLess.body 4] (retS h0 k)) =
   retK h0.length (.f (.bool (lessL nt cnt b nt' cnt' b' l))) h k
 | [], o, _ => by
  show restK (evr Pr CC 56) fiLess.scope [nthS fiLess.body 4] (retS h0 k) .next _ h = _
  rw [c90e]; rfl
 | ts :: l, o, hi => by
  obtain ⟨h1, h2⟩ := hi ts (.head _)
  have ih := loop90 raw n nt cnt b sm raw' n' nt' cnt' b' sm' m h h0 k g hl hl' l (some ts) fun j hj => hi j (.tail _ hj)
  have g1 : (okP h.length h && decide (cnt.length ≤ 100) && decide (0 < ts) && decide (ts < 1000)) = true := by simp [g, hl, h1, h2]
  have g2 : (okP h.length h && decide (cnt'.length ≤ 100) && decide (0 < ts) && decide (ts < 1000)) = true := by simp [g, hl', h1, h2]
  rw [List.map_cons, c90t, guardB_t g1, guardB_t g2, ih]
  rw [show lessL nt cnt b nt' cnt' b' (ts :: l) = (!(decide (indW ts cnt' b' nt' ≤ indW ts cnt b nt)) && lessL nt cnt b nt' cnt' b' l) from rfl]
  cases decide (indW ts cnt' b' nt' ≤ indW ts cnt b nt) <;> rfl
theorem mx_bound {cnt : List Int} {b : Int} {cnt' : List Int} {b' : Int} (hl : cnt.length ≤ 100) (hl' : cnt'.length ≤ 100) (h1 : b ≤ 900) (h2 : b' ≤ 900) (h3 : 0 ≤ b) (h4 : 0 ≤ b') : -1 ≤ mx90 cnt b cnt' b' ∧ mx90 cnt b cnt' b' ≤ 900 := by
 unfold mx90 lrs
 constructor <;> (repeat' split) <;> omega
theorem s90 : ∀ args kws h k r, S90 (R := R) args kws h k = some r → callFn Pr CC 90 args kws h k = some r := by
 intro args kws h k r e
 unfold S90 at e
 split at e
 ·rename_i raw n nt cnt b sm raw' n' nt' cnt' b' sm'
  obtain ⟨g, e⟩ := guardB_some' e
  simp only [Bool.and_eq_true, decide_eq_true_eq] at g
  obtain ⟨⟨⟨⟨⟨⟨g1, g2⟩, g3⟩, g4⟩, g5⟩, g6⟩, g7⟩ := g
  obtain ⟨mb1, mb2⟩ := mx_bound g2 g3 g5 g7 g4 g6
  rw [c90]
  have hrest : rest90 raw n nt cnt b sm raw' n' nt' cnt' b' sm' h k = k (.f (.bool (lessL nt cnt b nt' cnt' b' (rangeUp 2 (mx90 cnt b cnt' b' + 1 + 1))))) h := by
   unfold rest90
   rw [guardB_t (by simp [g1, g2]), guardB_t (by simp [g1, g3]), guardB_t (by rw [Bool.and_eq_true]; exact ⟨small_of (by decide), small_of (by omega)⟩)]
   rw [loop90 raw n nt cnt b sm raw' n' nt' cnt' b' sm' _ h h k g1 g2 g3 _ none (fun i hi => by
    unfold rangeUp at hi
    obtain ⟨j, hj, rfl⟩ := List.mem_map.mp hi
    have := List.mem_range.mp hj
    omega), ret_same g1]
  rw [hrest, ret_same g1, ret_same g1]
  unfold lessW at e
  cases h1 : decide (n' ≤ n) with
  | true => rw [h1] at e; exact e
  | false =>
   rw [h1] at e
   cases sm <;> cases sm' <;> exact e
 ·cases e
abbrev CD : Cl R := ext CC 90 S90
abbrev CE : Cl R := ext CD 55 (callFn Pr CD 55)
def stepS : Nat → Str
 | 0 => "\t"
 | 1 => "   "
 | _ => " \t"
def wordS : Nat → Str
 | 0 => "<"
 | 1 => ">"
 | 2 => "a"
 | 3 => "A"
 | 4 => "b"
 | 5 => "B"
 | 6 => "\\("
 | 7 => "\\)"
 | _ => "\\\""
def leadsN : Nat → List Str
 | 0 => [⟨#[]⟩]
 | n + 1 => (leadsN n).flatMap fun l => [l ++ stepS 0, l ++ stepS 1, l ++ stepS 2]
def bump : List Int → Nat → List Int
 | [], 0 => [1]
 | [], n + 1 => 0 :: bump [] n
 | c :: r, 0 => (c + 1) :: r
 | c :: r, n + 1 => c :: bump r n
structure Nm where
 n : Int
 nt : Int
 cnt : List Int
 b : Int
 deriving DecidableEq
def scanC : List Nat → Nm → Nm
 | [], m => m
 | c :: r, m => match Nat.beq c 32 with
  | true => scanC r ⟨m.n + 1, m.nt, m.cnt, m.b + 1⟩
  | false => scanC r ⟨m.n + 1, m.nt + 1, bump m.cnt m.b.toNat, 0⟩
def scanL (l : Str) : Nm := scanC l.cps.toList ⟨0, 0, [], 0⟩
def wsOf (m : Nm) (raw : Str) : F := .ws raw m.n m.nt m.cnt m.b (decide (m.cnt.length ≤ 1))
theorem map_at {α β : Type} {f g : α → β} : ∀ {l : List α}, l.map f = l.map g → ∀ x ∈ l, f x = g x
 | _ :: _, e, x, h => by
  rw [List.map_cons, List.map_cons] at e
  injection e with e1 e2
  cases h with
  | head => exact e1
  | tail _ h => exact map_at e2 x h
theorem ws0 (a b c : List F) (k : KV R) (w : Nat) (hw : w = 0) : ((leadsN 0 ++ leadsN 1 ++ leadsN 2 ++ leadsN 3).map fun l => callV CE (.raw (.ref 100)) [.f (.str (l ++ wordS w))] [] [.list a, .list b, .list c] k) =
  (leadsN 0 ++ leadsN 1 ++ leadsN 2 ++ leadsN 3).map fun l => k (.f (wsOf (scanL l) (l ++ wordS w))) [.list a, .list b, .list c] := by subst hw; kernel_rfl
def S180 (args : List V) (kws : List (Str × V)) (h : H) (k : KV R) : Option R := match args, kws with
 | [.hdr _, .f (.str s)], [(nm, .f (.bool _))] => guardB (steq nm "name" && okP h.length h && fitS s && calm s) (k (.f (.str s)) h)
 | _, _ => none
theorem c180 (C : Cl R) (i : Nat) (s : Str) (b : Bool) (h : H) (k : KV R) : callFn Pr C 180 [.hdr i, .f (.str s)] [("name", .f (.bool b))] h k = guardB (fitS s && calm s) (retK h.length (.f (.str s)) h k) := by cases b <;> kernel_rfl
theorem steqS (a b : Str) : steq a b = true → a = b := by
 have key : ∀ a b : List Nat, steqL a b = true → a = b := by
  intro a
  induction a with
  | nil => intro b h; cases b with | nil => rfl | cons _ _ => cases h
  | cons x r ih =>
   intro b h
   cases b with
   | nil => cases h
   | cons y s =>
    unfold steqL at h
    split at h
    ·rename_i e
     rw [Nat.eq_of_beq_eq_true e, ih s h]
    ·cases h
 intro h
 have := key _ _ h
 cases a; cases b
 exact congrArg Str.mk (Array.ext' this)
theorem s180 (C : Cl R) : ∀ args kws h k r, S180 args kws h k = some r → callFn Pr C 180 args kws h k = some r := by
 intro args kws h k r e
 unfold S180 at e
 split at e
 ·obtain ⟨g, e2⟩ := guardB_some' e
  simp only [Bool.and_eq_true] at g
  obtain ⟨⟨⟨g1, g2⟩, g3⟩, g4⟩ := g
  have := steqS _ _ g1
  subst this
  rw [c180, guardB_t (by rw [g3, g4]; rfl), ret_same g2]; exact e2
 ·cases e
def S243 (args : List V) (kws : List (Str × V)) (h : H) (k : KV R) : Option R := match args, kws with
 | [.hdr i], [] => (match h[i]? with
  | some (.list l) => guardB (okP h.length h && fitL l) (k (.f (.lst l)) h)
  | _ => none)
 | _, _ => none
theorem c243 (C : Cl R) (i : Nat) (h : H) (k : KV R) : callFn Pr C 243 [.hdr i] [] h k = obind (items h (.loc i)) fun l => guardB (fitL l) (retK h.length (.f (.lst (sliceOf l none none))) h k) := by kernel_rfl
theorem slice_all {α : Type} (l : List α) : sliceOf l none none = l := by
 show (l.drop 0).take (l.length - 0) = l
 simp
theorem items_loc {h : H} {i : Nat} {l : List F} (e : h[i]? = some (.list l)) : items h (.loc i) = some l := by
 unfold items; dsimp only; rw [e]
theorem s243 (C : Cl R) : ∀ args kws h k r, S243 args kws h k = some r → callFn Pr C 243 args kws h k = some r := by
 intro args kws h k r e
 unfold S243 at e
 split at e
 ·split at e
  ·rename_i l hl
   obtain ⟨g, e⟩ := guardB_some' e
   rw [Bool.and_eq_true] at g
   rw [c243, items_loc hl]
   show guardB (fitL l) _ = _
   rw [guardB_t g.2, slice_all, ret_same g.1]; exact e
  ·cases e
 ·cases e
def fmt1 (p v : Str) : Str := (((Str.empty ++ p) ++ ("=\"" : Str)) ++ v) ++ ("\"" : Str)
def noOcc (s x : Str) : Bool := (Builtin.Str.occurrences s x 0 s.length (s.length + 1)).isEmpty
def S158 (args : List V) (kws : List (Str × V)) (h : H) (k : KV R) : Option R := match args, kws with
 | [.f (.str p), .f (.str v)], [] => guardB (okP h.length h && decide (0 < v.length) && decide (v.length ≤ 1000) && decide (p.length ≤ 1000) && noOcc v "\\" && noOcc v "\"") (k (.f (.str (fmt1 p v))) h)
 | _, _ => none
theorem c158 (C : Cl R) (p v : Str) (h : H) (k : KV R) : callFn Pr C 158 [.f (.str p), .f (.str v)] [] h k =
  guardB (fitS v) (br (decide ((0 : Int) < v.length)) (guardB (noOcc v "\\") (guardB (noOcc v "\"") (guardB (fitS p) (guardB (fitS (Str.empty ++ p)) (guardB (fitS ((Str.empty ++ p) ++ ("=\"" : Str)))
   (guardB (fitS v) (guardB (fitS (((Str.empty ++ p) ++ ("=\"" : Str)) ++ v)) (guardB (fitS (fmt1 p v)) (retK h.length (.f (.str (fmt1 p v))) h k))))))))) (retK h.length (.f (.str p)) h k)) := by kernel_rfl
theorem len_app (a b : Str) : (a ++ b).length = a.length + b.length := by
 show (a.cps ++ b.cps).size = a.cps.size + b.cps.size
 simp
theorem fitS_of {s : Str} (h : s.length ≤ 100000) : fitS s = true := decide_eq_true h
theorem s158 (C : Cl R) : ∀ args kws h k r, S158 args kws h k = some r → callFn Pr C 158 args kws h k = some r := by
 intro args kws h k r e
 unfold S158 at e
 split at e
 ·rename_i p v
  obtain ⟨g, e2⟩ := guardB_some' e
  simp only [Bool.and_eq_true, decide_eq_true_eq] at g
  obtain ⟨⟨⟨⟨⟨g1, g2⟩, g3⟩, g4⟩, g5⟩, g6⟩ := g
  have l0 : (Str.empty).length = 0 := rfl
  have l1 : ("=\"" : Str).length = 2 := by decide
  have l2 : ("\"" : Str).length = 1 := by decide
  have hp : (0 : Int) < v.length := by omega
  rw [c158, guardB_t (fitS_of (by omega)), decide_eq_true hp]
  show guardB (noOcc v "\\") _ = _
  rw [guardB_t g5, guardB_t g6, guardB_t (fitS_of (by omega)), guardB_t (fitS_of (by rw [len_app, l0]; omega)), guardB_t (fitS_of (by rw [len_app, len_app, l0, l1]; omega)), guardB_t (fitS_of (by omega)),
   guardB_t (fitS_of (by rw [len_app, len_app, len_app, l0, l1]; omega)), guardB_t (fitS_of (by unfold fmt1; rw [len_app, len_app, len_app, len_app, l0, l1, l2]; omega)), ret_same g1]
  exact e2
 ·cases e
def pairF (p : Str × Str) : F := .tup [.str p.1, .str p.2]
def hfind (nm : Str) : List (Str × Str) → Option Str
 | [] => none
 | p :: r => match steq (Txt.lower p.1) nm with
  | true => some p.2
  | false => hfind nm r
abbrev CF : Cl R := ext CE 180 S180
abbrev CG : Cl R := ext CF 243 S243
abbrev CH : Cl R := ext CG 158 S158
def forIt (I : Ev R) (sc : Scope) (t : PySem.Expr) (body : List Stmt) (lc : Lc) (h1 : H) (k : KS R) : It → Option R
 | .fixed l => forFix I sc t body l lc h1 k
 | .items l => guardB (isTup t) (forFix I sc t body l lc h1 k)
 | .live i => forLive I sc t body i 100 0 lc h1 k
def turnF (K : KS R) (next : Lc → H → Option R) : KS R := fun fl lc2 h2 => match fl with
 | .next => next lc2 h2
 | .brk => K .next lc2 h2
 | .ret x => K (.ret x) lc2 h2
theorem forLive_step {I : Ev R} {sc : Scope} {t : PySem.Expr} {b : List Stmt} {i m j : Nat} {lc : Lc} {h : H} {K : KS R} {l : List F} {v : F} (hi : h[i]? = some (.list l)) (hx : l[j]? = some v) :
  forLive I sc t b i (m + 1) j lc h K = obind (asgTarget sc t (.f v) lc h) fun lc1 => I.exs sc lc1 h b (turnF K fun lc2 h2 => forLive I sc t b i m (j + 1) lc2 h2 K) := by
 show (match h[i]? with
  | some (.list l) => (match l[j]? with
   | some v => obind (asgTarget sc t (.f v) lc h) fun lc1 => I.exs sc lc1 h b fun fl lc2 h2 => match fl with
    | .next => forLive I sc t b i m (j + 1) lc2 h2 K
    | .brk => K .next lc2 h2
    | .ret x => K (.ret x) lc2 h2
   | none => K .next lc h)
  | _ => none) = _
 rw [hi]
 dsimp only
 rw [hx]
 rfl
theorem forLive_end {I : Ev R} {sc : Scope} {t : PySem.Expr} {b : List Stmt} {i m j : Nat} {lc : Lc} {h : H} {K : KS R} {l : List F} (hi : h[i]? = some (.list l)) (hx : l[j]? = none) :
  forLive I sc t b i (m + 1) j lc h K = K .next lc h := by
 show (match h[i]? with
  | some (.list l) => (match l[j]? with
   | some v => obind (asgTarget sc t (.f v) lc h) fun lc1 => I.exs sc lc1 h b fun fl lc2 h2 => match fl with
    | .next => forLive I sc t b i m (j + 1) lc2 h2 K
    | .brk => K .next lc2 h2
    | .ret x => K (.ret x) lc2 h2
   | none => K .next lc h)
  | _ => none) = _
 rw [hi]
 dsimp only
 rw [hx]
abbrev t226 : PySem.Expr := fT (nthS fiGet.body 1)
abbrev b226 : List Stmt := fB (nthS fiGet.body 1)
def lc226 (i : Nat) (nm : Str) (o : Option (Str × Str)) : Lc := ([("self", .hdr i), ("name", .f (.str nm)), ("default", .f .none)] : Lc) ++ (match o with
 | none => []
 | some p => [("k", .f (.str p.1)), ("v", .f (.str p.2))])
theorem c226 (i : Nat) (nm : Str) (h : H) (k : KV R) : callFn Pr CH 226 [.hdr i, .f (.str nm)] [] h k =
  guardB (fitS nm) (guardB (okP h.length h && fitS (Txt.lower nm) && calm (Txt.lower nm)) (obind (iterIt h (.loc i)) (forIt (evr Pr CH 57) fiGet.scope t226 b226 (lc226 i (Txt.lower nm) none) h (restK (evr Pr CH 58) fiGet.scope [nthS fiGet.body 2] (retS h k))))) := by kernel_rfl
theorem c226t (i : Nat) (nm : Str) (o : Option (Str × Str)) (p : Str × Str) (h : H) (K : KS R) (N : Lc → H → Option R) :
  (obind (asgTarget fiGet.scope t226 (.f (pairF p)) (lc226 i nm o) h) fun lc1 => (evr (R := R) Pr CH 57).exs fiGet.scope lc1 h b226 (turnF K N)) =
   guardB (fitS p.1) (br (steq (Txt.lower p.1) nm) (K (.ret (.f (.str p.2))) (lc226 i nm (some p)) h) (N (lc226 i nm (some p)) h)) := by cases o <;> kernel_rfl
theorem c226e (i : Nat) (nm : Str) (o : Option (Str × Str)) (h h0 : H) (k : KV R) : restK (evr (R := R) Pr CH 58) fiGet.scope [nthS fiGet.body 2] (retS h0 k) .next (lc226 i nm o) h = retK h0.length (.f .none) h k := by cases o <;> kernel_rfl
def optF : Option Str → F
 | some s => .str s
 | none => .none
theorem loop226 (i : Nat) (nm : Str) (h h0 : H) (k : KV R) (l : List (Str × Str)) (hi : h[i]? = some (.list (l.map pairF))) (hf : l.all (fun p => fitS p.1) = true) : ∀ (m j : Nat) (o : Option (Str × Str)), j ≤ l.length → l.length < m + j →
  forLive (evr Pr CH 57) fiGet.scope t226 b226 i m j (lc226 i nm o) h (restK (evr Pr CH 58) fiGet.scope [nthS fiGet.body 2] (retS h0 k)) = retK h0.length (.f (optF (hfind nm (l.drop j)))) h k
 | 0, j, o, hj0, hm => by omega
 | m + 1, j, o, hj0, hm => by
  by_cases hj : j < l.length
  ·have hx : (l.map pairF)[j]? = some (pairF l[j]) := by simp [hj]
   rw [forLive_step hi hx, c226t]
   have hp : fitS (l[j]).1 = true := List.all_eq_true.mp hf _ (List.getElem_mem hj)
   rw [guardB_t hp, loop226 i nm h h0 k l hi hf m (j + 1) (some l[j]) (by omega) (by omega), List.drop_eq_getElem_cons hj]
   rw [show hfind nm (l[j] :: l.drop (j + 1)) = (match steq (Txt.lower l[j].1) nm with | true => some l[j].2 | false => hfind nm (l.drop (j + 1))) from rfl]
   cases steq (Txt.lower l[j].1) nm <;> rfl
  ·have hx : (l.map pairF)[j]? = none := by simp; omega
   rw [forLive_end hi hx, List.drop_eq_nil_of_le (by omega), c226e]
   rfl
def unpair : List F → Option (List (Str × Str))
 | [] => some []
 | .tup [.str a, .str b] :: r => (match unpair r with
  | some l => some ((a, b) :: l)
  | none => none)
 | _ => none
theorem unpair_some : ∀ {l : List F} {ps : List (Str × Str)}, unpair l = some ps → l = ps.map pairF
 | [], ps, e => by unfold unpair at e; cases e; rfl
 | x :: r, ps, e => by
  unfold unpair at e
  split at e
  ·cases ‹_ = []›
  ·rename_i a b r' q
   split at e
   ·rename_i l' hl
    cases e
    injection q with q1 q2
    subst q1 q2
    rw [unpair_some hl]; rfl
   ·cases e
  ·cases e
theorem unpair_map : ∀ ps : List (Str × Str), unpair (ps.map pairF) = some ps
 | [] => rfl
 | p :: r => by
  show (match unpair (r.map pairF) with | some l => some ((p.1, p.2) :: l) | none => none) = _
  rw [unpair_map r]
def S226 (args : List V) (kws : List (Str × V)) (h : H) (k : KV R) : Option R := match args, kws with
 | [.hdr i, .f (.str nm)], [] => (match h[i]? with
  | some (.list l) => obind (unpair l) fun ps => guardB (okP h.length h && fitS nm && fitS (Txt.lower nm) && calm (Txt.lower nm) && decide (ps.length ≤ 50) && ps.all (fun p => fitS p.1)) (k (.f (optF (hfind (Txt.lower nm) ps))) h)
  | _ => none)
 | _, _ => none
theorem obind_some' {α β : Type} {o : Option α} {k : α → Option β} {r : β} (h : obind o k = some r) : ∃ a, o = some a ∧ k a = some r := by
 cases o with
 | none => cases h
 | some a => exact ⟨a, rfl, h⟩
theorem iter_loc {h : H} {i : Nat} {l : List F} (e : h[i]? = some (.list l)) : iterIt h (.loc i) = some (.live i) := by
 unfold iterIt; dsimp only; rw [e]
theorem s226 : ∀ args kws h k r, S226 (R := R) args kws h k = some r → callFn Pr CH 226 args kws h k = some r := by
 intro args kws h k r e
 unfold S226 at e
 split at e
 ·rename_i i nm
  split at e
  ·rename_i l hl
   obtain ⟨ps, hp, e⟩ := obind_some' e
   obtain ⟨g, e⟩ := guardB_some' e
   simp only [Bool.and_eq_true, decide_eq_true_eq] at g
   obtain ⟨⟨⟨⟨⟨g1, g2⟩, g3⟩, g4⟩, g5⟩, g6⟩ := g
   have hl' := hl
   rw [unpair_some hp] at hl'
   rw [c226, guardB_t g2, guardB_t (by rw [g1, g3, g4]; rfl), iter_loc hl]
   show forLive (evr Pr CH 57) fiGet.scope t226 b226 i 100 0 (lc226 i (Txt.lower nm) none) h _ = _
   rw [loop226 i (Txt.lower nm) h h k ps hl' g6 100 0 none (by omega) (by omega), ret_same g1]
   exact e
  ·cases e
 ·cases e
abbrev CI : Cl R := ext CH 226 S226
def lcE : PySem.Expr → PySem.Expr
 | .ListComp e _ _ _ => e
 | e => e
def lcI : PySem.Expr → List PySem.Expr
 | .ListComp _ [⟨_, _, ifs, _⟩] _ _ => ifs
 | _ => []
def lcS : PySem.Expr → Scope
 | .ListComp _ _ sc _ => sc
 | _ => default
def rtE : Stmt → PySem.Expr
 | .Return (some e) _ => e
 | _ => .Tuple [] 0 default
def compIt (I : Ev R) (sc : Scope) (lc : Lc) (x : Str) (e : PySem.Expr) (h : H) (k : List F → H → Option R) : It → Option R
 | .fixed l => guardB (fitL l) (compFix I (relabelS (lcS e) sc) (cellsOnly (relabelS (lcS e) sc) lc) x (lcE e) (lcI e) l [] h k)
 | .items _ => none
 | .live i => compLive I (relabelS (lcS e) sc) (cellsOnly (relabelS (lcS e) sc) lc) x (lcE e) (lcI e) i 100 0 [] h k
abbrev e218 : PySem.Expr := rtE (nthS fiGetAll.body 1)
theorem c218 (i : Nat) (nm : Str) (h : H) (k : KV R) : callFn Pr CI 218 [.hdr i, .f (.str nm)] [] h k =
  guardB (fitS nm) (guardB (okP h.length h && fitS (Txt.lower nm) && calm (Txt.lower nm)) (obind (iterIt h (.loc i)) (compIt (evr Pr CI 56) fiGetAll.scope [("self", .hdr i), ("name", .f (.str (Txt.lower nm)))] "kv" e218 h fun acc h1 => retK h.length (.f (.lst acc)) h1 k))) := by kernel_rfl
abbrev s218 : Scope := relabelS (lcS e218) fiGetAll.scope
theorem c218a (i : Nat) (nm : Str) (p : Str × Str) (h : H) (K : V → H → Option R) :
  (evr (R := R) Pr CI 56).ev s218 (lset (cellsOnly s218 [("self", .hdr i), ("name", .f (.str nm))]) "kv" (.f (pairF p))) false h (lcE e218) K = K (.f (.str p.2)) h := by kernel_rfl
theorem c218b (i : Nat) (nm : Str) (p : Str × Str) (h : H) (K : Bool → H → Option R) :
  tsts (evr (R := R) Pr CI 56) s218 (lset (cellsOnly s218 [("self", .hdr i), ("name", .f (.str nm))]) "kv" (.f (pairF p))) h (lcI e218) K = guardB (fitS p.1) (br (steq (Txt.lower p.1) nm) (K true h) (K false h)) := by kernel_rfl
theorem comp_one {I : Ev R} {sc : Scope} {lc : Lc} {x : Str} {elt : PySem.Expr} {ifs : List PySem.Expr} {v : V} {acc : List F} {h : H} {K : List F → H → Option R} :
  compOne I sc lc x elt ifs v acc h K = tsts I sc (lset lc x v) h ifs fun b h1 => br b (I.ev sc (lset lc x v) false h1 elt fun y h2 => asF y fun z => K (acc ++ [z]) h2) (K acc h1) := rfl
theorem c218t (i : Nat) (nm : Str) (p : Str × Str) (acc : List F) (h : H) (K : List F → H → Option R) :
  compOne (evr (R := R) Pr CI 56) s218 (cellsOnly s218 [("self", .hdr i), ("name", .f (.str nm))]) "kv" (lcE e218) (lcI e218) (.f (pairF p)) acc h K =
   guardB (fitS p.1) (br (steq (Txt.lower p.1) nm) (K (acc ++ [.str p.2]) h) (K acc h)) := by
 rw [comp_one, c218b, c218a]
 rfl
theorem compLive_step {I : Ev R} {sc : Scope} {lc : Lc} {x : Str} {elt : PySem.Expr} {ifs : List PySem.Expr} {i m j : Nat} {acc : List F} {h : H} {K : List F → H → Option R} {l : List F} {v : F} (hi : h[i]? = some (.list l)) (hx : l[j]? = some v) :
  compLive I sc lc x elt ifs i (m + 1) j acc h K = compOne I sc lc x elt ifs (.f v) acc h fun acc1 h1 => compLive I sc lc x elt ifs i m (j + 1) acc1 h1 K := by
 show (match h[i]? with
  | some (.list l) => (match l[j]? with
   | some v => compOne I sc lc x elt ifs (.f v) acc h fun acc1 h1 => compLive I sc lc x elt ifs i m (j + 1) acc1 h1 K
   | none => K acc h)
  | _ => none) = _
 rw [hi]
 dsimp only
 rw [hx]
theorem compLive_end {I : Ev R} {sc : Scope} {lc : Lc} {x : Str} {elt : PySem.Expr} {ifs : List PySem.Expr} {i m j : Nat} {acc : List F} {h : H} {K : List F → H → Option R} {l : List F} (hi : h[i]? = some (.list l)) (hx : l[j]? = none) :
  compLive I sc lc x elt ifs i (m + 1) j acc h K = K acc h := by
 show (match h[i]? with
  | some (.list l) => (match l[j]? with
   | some v => compOne I sc lc x elt ifs (.f v) acc h fun acc1 h1 => compLive I sc lc x elt ifs i m (j + 1) acc1 h1 K
   | none => K acc h)
  | _ => none) = _
 rw [hi]
 dsimp only
 rw [hx]
def hall (nm : Str) : List (Str × Str) → List F
 | [] => []
 | p :: r => match steq (Txt.lower p.1) nm with
  | true => .str p.2 :: hall nm r
  | false => hall nm r
theorem loop218 (i : Nat) (nm : Str) (h : H) (K : List F → H → Option R) (l : List (Str × Str)) (hi : h[i]? = some (.list (l.map pairF))) (hf : l.all (fun p => fitS p.1) = true) : ∀ (m j : Nat) (acc : List F), j ≤ l.length → l.length < m + j →
  compLive (evr (R := R) Pr CI 56) s218 (cellsOnly s218 [("self", .hdr i), ("name", .f (.str nm))]) "kv" (lcE e218) (lcI e218) i m j acc h K = K (acc ++ hall nm (l.drop j)) h
 | 0, j, o, hj0, hm => by omega
 | m + 1, j, acc, hj0, hm => by
  by_cases hj : j < l.length
  ·have hx : (l.map pairF)[j]? = some (pairF l[j]) := by simp [hj]
   rw [compLive_step hi hx, c218t]
   have hp : fitS (l[j]).1 = true := List.all_eq_true.mp hf _ (List.getElem_mem hj)
   rw [guardB_t hp, loop218 i nm h K l hi hf m (j + 1) _ (by omega) (by omega), loop218 i nm h K l hi hf m (j + 1) _ (by omega) (by omega), List.drop_eq_getElem_cons hj]
   rw [show hall nm (l[j] :: l.drop (j + 1)) = (match steq (Txt.lower l[j].1) nm with | true => .str l[j].2 :: hall nm (l.drop (j + 1)) | false => hall nm (l.drop (j + 1))) from rfl]
   cases steq (Txt.lower l[j].1) nm
   ·rfl
   ·show K ((acc ++ [.str l[j].2]) ++ hall nm (l.drop (j + 1))) h = K (acc ++ (.str l[j].2 :: hall nm (l.drop (j + 1)))) h
    rw [List.append_assoc]; rfl
  ·have hx : (l.map pairF)[j]? = none := by simp; omega
   rw [compLive_end hi hx, List.drop_eq_nil_of_le (by omega)]
   show K acc h = K (acc ++ []) h
   rw [List.append_nil]
def S218 (args : List V) (kws : List (Str × V)) (h : H) (k : KV R) : Option R := match args, kws with
 | [.hdr i, .f (.str nm)], [] => (match h[i]? with
  | some (.list l) => obind (unpair l) fun ps => guardB (okP h.length h && fitS nm && fitS (Txt.lower nm) && calm (Txt.lower nm) && decide (ps.length ≤ 50) && ps.all (fun p => fitS p.1)) (k (.f (.lst (hall (Txt.lower nm) ps))) h)
  | _ => none)
 | _, _ => none
theorem s218' : ∀ args kws h k r, S218 (R := R) args kws h k = some r → callFn Pr CI 218 args kws h k = some r := by
 intro args kws h k r e
 unfold S218 at e
 split at e
 ·rename_i i nm
  split at e
  ·rename_i l hl
   obtain ⟨ps, hp, e⟩ := obind_some' e
   obtain ⟨g, e⟩ := guardB_some' e
   simp only [Bool.and_eq_true, decide_eq_true_eq] at g
   obtain ⟨⟨⟨⟨⟨g1, g2⟩, g3⟩, g4⟩, g5⟩, g6⟩ := g
   have hl' := hl
   rw [unpair_some hp] at hl'
   rw [c218, guardB_t g2, guardB_t (by rw [g1, g3, g4]; rfl), iter_loc hl]
   show compLive (evr Pr CI 56) s218 (cellsOnly s218 _) "kv" (lcE e218) (lcI e218) i 100 0 [] h _ = _
   rw [loop218 i (Txt.lower nm) h _ ps hl' g6 100 0 [] (by omega) (by omega)]
   rw [ret_same g1]
   exact e
  ·cases e
 ·cases e
abbrev CJ : Cl R := ext CI 218 S218
def G158 (p v : Str) : Bool := true && decide (0 < v.length) && decide (v.length ≤ 1000) && decide (p.length ≤ 1000) && noOcc v "\\" && noOcc v "\""
def S276a (nm v : Str) (sc ld : List F) (k : KV R) : Option R :=
 guardB (fitS v && calm v) (guardB (fitS nm && calm nm) (guardB (decide (sumLen "; " [v] ≤ 100000)) (guardB (fitL sc) (k (.f .none) [.list (sc ++ [.tup [.str nm, .str (Txt.join "; " [v])]]), .list ld]))))
def S276b (nm a b : Str) (x0 x1 x2 bk rc : List F) (k : KV R) : Option R :=
 guardB (fitS a && calm a) (guardB (G158 "low" a) (guardB (fitS b && calm b) (guardB (G158 "high" b) (guardB (fitS nm && calm nm) (guardB (decide (sumLen "; " [fmt1 "low" a, fmt1 "high" b] ≤ 100000)) (guardB (fitL bk)
  (k (.f .none) [.list x0, .list x1, .list x2, .list (bk ++ [.tup [.str nm, .str (Txt.join "; " [fmt1 "low" a, fmt1 "high" b])]]), .list rc])))))))
theorem c276a (nm v : Str) (sc ld : List F) (k : KV R) : callFn Pr CJ 276 [.hdr 0, .f (.str nm), .f (.str v)] [] [.list sc, .list ld] k = S276a nm v sc ld k := by kernel_rfl
theorem c276b (nm a b : Str) (x0 x1 x2 bk rc : List F) (k : KV R) : callFn Pr CJ 276 [.hdr 3, .f (.str nm), .f .none] [("low", .f (.str a)), ("high", .f (.str b))] [.list x0, .list x1, .list x2, .list bk, .list rc] k = S276b nm a b x0 x1 x2 bk rc k := by kernel_rfl
def S276 (args : List V) (kws : List (Str × V)) (h : H) (k : KV R) : Option R := match args, kws, h with
 | [.hdr 0, .f (.str nm), .f (.str v)], [], [.list sc, .list ld] => S276a nm v sc ld k
 | [.hdr 3, .f (.str nm), .f .none], [(lo, .f (.str a)), (hi, .f (.str b))], [.list x0, .list x1, .list x2, .list bk, .list rc] => guardB (steq lo "low" && steq hi "high") (S276b nm a b x0 x1 x2 bk rc k)
 | _, _, _ => none
theorem s276 : ∀ args kws h k r, S276 (R := R) args kws h k = some r → callFn Pr CJ 276 args kws h k = some r := by
 intro args kws h k r e
 unfold S276 at e
 split at e
 ·rw [c276a]; exact e
 ·obtain ⟨g, e2⟩ := guardB_some' e
  rw [Bool.and_eq_true] at g
  have h1 := steqS _ _ g.1
  have h2 := steqS _ _ g.2
  subst h1 h2
  rw [c276b]; exact e2
 ·cases e
abbrev CK : Cl R := ext CJ 276 S276
def cont269 (nm v : Str) (sc ld : List F) (k : KV R) (x : F) : Option R := obind (isV (.f x) (.f .none)) fun c => br c
 (guardB (fitS nm && calm nm) (guardB (fitS v && calm v) (guardB (fitL sc) (k (.f (.str v)) [.list (sc ++ [.tup [.str nm, .str v]]), .list ld])))) (k (.f x) [.list sc, .list ld])
theorem c269 (nm v : Str) (sc ld : List F) (k : KV R) : callFn Pr CK 269 [.hdr 0, .f (.str nm), .f (.str v)] [] [.list sc, .list ld] k =
  obind (unpair sc) fun ps => guardB (true && fitS nm && fitS (Txt.lower nm) && calm (Txt.lower nm) && decide (ps.length ≤ 50) && ps.all (fun p => fitS p.1)) (cont269 nm v sc ld k (optF (hfind (Txt.lower nm) ps))) := by kernel_rfl
def S269 (args : List V) (kws : List (Str × V)) (h : H) (k : KV R) : Option R := match args, kws, h with
 | [.hdr 0, .f (.str nm), .f (.str v)], [], [.list sc, .list ld] => obind (unpair sc) fun ps => guardB (true && fitS nm && fitS (Txt.lower nm) && calm (Txt.lower nm) && decide (ps.length ≤ 50) && ps.all (fun p => fitS p.1)) (cont269 nm v sc ld k (optF (hfind (Txt.lower nm) ps)))
 | _, _, _ => none
theorem s269 : ∀ args kws h k r, S269 (R := R) args kws h k = some r → callFn Pr CK 269 args kws h k = some r := by
 intro args kws h k r e
 unfold S269 at e
 split at e
 ·rw [c269]; exact e
 ·cases e
abbrev CL : Cl R := ext CK 269 S269
def asc (s : Str) : Bool := s.cps.toList.all fun c => decide (c < 128)
def prF (p : Int × Str) : V := .f (.tup [.int p.1, .str p.2])
def slS (s : Str) (a b : Option Int) : Str := ⟨(sliceOf s.cps.toList a b).toArray⟩
abbrev h5 (x0 x1 x2 x3 x4 : List F) : H := [.list x0, .list x1, .list x2, .list x3, .list x4]
abbrev h6 (x0 x1 x2 x3 x4 x5 : List F) : H := [.list x0, .list x1, .list x2, .list x3, .list x4, .list x5]
def opF : Option Int → F
 | none => .none
 | some i => .int i
def lc118 (s : Str) (st : Int) (op : Option Int) (o : Option (Int × Str)) : Lc := ([("addr", .f (.str s)), ("start", .f (.int st)), ("open_pos", .f (opF op)), ("result", .loc 5)] : Lc) ++ (match o with
 | none => []
 | some p => [("pos", .f (.int p.1)), ("ch", .f (.str p.2))])
abbrev t118 : PySem.Expr := fT (nthS fiStrip.body 4)
abbrev b118 : List Stmt := fB (nthS fiStrip.body 4)
abbrev r118 : List Stmt := [nthS fiStrip.body 5, nthS fiStrip.body 6]
section
variable (x0 x1 x2 x3 x4 : List F) (s : Str)
theorem c118 (k : KV R) : callFn Pr CL 118 [.f (.str s)] [] (h5 x0 x1 x2 x3 x4) k =
  guardB (fitS s && true) (br (!(Txt.contains s "\"")) (k (.f (.str s)) (h5 x0 x1 x2 x3 x4)) (guardB (fitS s && asc s) (forFix (evr Pr CL 54) fiStrip.scope t118 b118 ((escPairs s).map prF) (lc118 s 0 none none) (h6 x0 x1 x2 x3 x4 []) (restK (evr Pr CL 55) fiStrip.scope r118 (retS (h5 x0 x1 x2 x3 x4) k))))) := by kernel_rfl
theorem c118n (st : Int) (o : Option (Int × Str)) (p : Int × Str) (r : List V) (res : List F) (K : KS R) : forFix (evr Pr CL 54) fiStrip.scope t118 b118 (prF p :: r) (lc118 s st none o) (h6 x0 x1 x2 x3 x4 res) K =
  br (steq p.2 "\"") (forFix (evr Pr CL 54) fiStrip.scope t118 b118 r (lc118 s st (some p.1) (some p)) (h6 x0 x1 x2 x3 x4 res) K) (forFix (evr Pr CL 54) fiStrip.scope t118 b118 r (lc118 s st none (some p)) (h6 x0 x1 x2 x3 x4 res) K) := by cases o <;> kernel_rfl
theorem c118s (st op : Int) (o : Option (Int × Str)) (p : Int × Str) (r : List V) (res : List F) (K : KS R) : forFix (evr Pr CL 54) fiStrip.scope t118 b118 (prF p :: r) (lc118 s st (some op) o) (h6 x0 x1 x2 x3 x4 res) K =
  br (steq p.2 "\"") (br (!(decide (st = op))) (guardB (fitS s) (guardB (fitL res) (forFix (evr Pr CL 54) fiStrip.scope t118 b118 r (lc118 s (p.1 + 1) none (some p)) (h6 x0 x1 x2 x3 x4 (res ++ [.str (slS s (some st) (some op))])) K)))
   (forFix (evr Pr CL 54) fiStrip.scope t118 b118 r (lc118 s (p.1 + 1) none (some p)) (h6 x0 x1 x2 x3 x4 res) K)) (forFix (evr Pr CL 54) fiStrip.scope t118 b118 r (lc118 s st (some op) (some p)) (h6 x0 x1 x2 x3 x4 res) K) := by cases o <;> kernel_rfl
theorem c118e (st : Int) (op : Option Int) (o : Option (Int × Str)) (res : List F) (k : KV R) : restK (evr Pr CL 55) fiStrip.scope r118 (retS (h5 x0 x1 x2 x3 x4) k) .next (lc118 s st op o) (h6 x0 x1 x2 x3 x4 res) =
  guardB (fitS s) (br (decide (st < s.length)) (guardB (fitS s) (guardB (fitL res) (obind (allStr (res ++ [.str (slS s (some st) none)])) fun ts => guardB (decide (sumLen "" ts ≤ 100000)) (k (.f (.str (Txt.join "" ts))) (h5 x0 x1 x2 x3 x4)))))
   (obind (allStr res) fun ts => guardB (decide (sumLen "" ts ≤ 100000)) (k (.f (.str (Txt.join "" ts))) (h5 x0 x1 x2 x3 x4)))) := by cases o <;> cases op <;> kernel_rfl
end
def stripF (s : Str) : List (Int × Str) → Int → Option Int → List Str → Int × List Str
 | [], st, _, res => (st, res)
 | p :: r, st, none, res => match steq p.2 "\"" with
  | true => stripF s r st (some p.1) res
  | false => stripF s r st none res
 | p :: r, st, some o, res => match steq p.2 "\"" with
  | true => stripF s r (p.1 + 1) none (match decide (st = o) with | true => res | false => res ++ [slS s (some st) (some o)])
  | false => stripF s r st (some o) res
def stripL (s : Str) : List Str :=
 let q := stripF s (escPairs s) 0 none []
 match decide (q.1 < s.length) with
 | true => q.2 ++ [slS s (some q.1) none]
 | false => q.2
def strip (s : Str) : Str := match Txt.contains s "\"" with
 | false => s
 | true => Txt.join "" (stripL s)
theorem allStr_map : ∀ l : List Str, allStr (l.map F.str) = some l
 | [] => rfl
 | x :: r => by
  show (match allStr (r.map F.str) with | some l => some (x :: l) | none => none) = _
  rw [allStr_map r]
section
variable (x0 x1 x2 x3 x4 : List F) (s : Str)
theorem loop118 (hs : fitS s = true) (K : KS R) : ∀ (ps : List (Int × Str)) (st : Int) (op : Option Int) (o : Option (Int × Str)) (res : List Str), ps.length + res.length ≤ 100000 →
  ∃ op' o', forFix (evr Pr CL 54) fiStrip.scope t118 b118 (ps.map prF) (lc118 s st op o) (h6 x0 x1 x2 x3 x4 (res.map .str)) K = K .next (lc118 s (stripF s ps st op res).1 op' o') (h6 x0 x1 x2 x3 x4 ((stripF s ps st op res).2.map .str))
 | [], st, op, o, res, _ => ⟨op, o, rfl⟩
 | p :: r, st, none, o, res, hl => by
  rw [List.map_cons, c118n]
  rw [show stripF s (p :: r) st none res = (match steq p.2 "\"" with | true => stripF s r st (some p.1) res | false => stripF s r st none res) from rfl]
  simp only [List.length_cons] at hl
  cases steq p.2 "\"" with
  | true => exact loop118 hs K r st (some p.1) (some p) res (by omega)
  | false => exact loop118 hs K r st none (some p) res (by omega)
 | p :: r, st, some op, o, res, hl => by
  rw [List.map_cons, c118s]
  rw [show stripF s (p :: r) st (some op) res = (match steq p.2 "\"" with | true => stripF s r (p.1 + 1) none (match decide (st = op) with | true => res | false => res ++ [slS s (some st) (some op)]) | false => stripF s r st (some op) res) from rfl]
  simp only [List.length_cons] at hl
  cases steq p.2 "\"" with
  | true =>
   cases decide (st = op) with
   | true => exact loop118 hs K r (p.1 + 1) none (some p) res (by omega)
   | false =>
    show ∃ op' o', guardB (fitS s) (guardB (fitL (res.map F.str)) _) = _
    rw [guardB_t hs, guardB_t (fit100 (by simp; omega))]
    have := loop118 hs K r (p.1 + 1) none (some p) (res ++ [slS s (some st) (some op)]) (by simp; omega)
    rw [List.map_append] at this
    exact this
  | false => exact loop118 hs K r st (some op) (some p) res (by omega)
end
theorem stripF_len (s : Str) : ∀ (ps : List (Int × Str)) (st : Int) (op : Option Int) (res : List Str), (stripF s ps st op res).2.length ≤ ps.length + res.length
 | [], st, op, res => by simp [stripF]
 | p :: r, st, none, res => by
  rw [show stripF s (p :: r) st none res = (match steq p.2 "\"" with | true => stripF s r st (some p.1) res | false => stripF s r st none res) from rfl]
  have h1 := stripF_len s r st (some p.1) res
  have h2 := stripF_len s r st none res
  simp only [List.length_cons]
  split <;> omega
 | p :: r, st, some op, res => by
  rw [show stripF s (p :: r) st (some op) res = (match steq p.2 "\"" with | true => stripF s r (p.1 + 1) none (match decide (st = op) with | true => res | false => res ++ [slS s (some st) (some op)]) | false => stripF s r st (some op) res) from rfl]
  have h1 := stripF_len s r (p.1 + 1) none res
  have h3 := stripF_len s r (p.1 + 1) none (res ++ [slS s (some st) (some op)])
  have h2 := stripF_len s r st (some op) res
  simp only [List.length_append, List.length_cons, List.length_nil] at h3 ⊢
  split
  ·split <;> omega
  ·omega
def S118 (args : List V) (kws : List (Str × V)) (h : H) (k : KV R) : Option R := match args, kws, h with
 | [.f (.str s)], [], [.list x0, .list x1, .list x2, .list x3, .list x4] => guardB (decide (s.length ≤ 5000) && asc s && decide ((escPairs s).length ≤ 5000) && decide (sumLen "" (stripL s) ≤ 100000)) (k (.f (.str (strip s))) (h5 x0 x1 x2 x3 x4))
 | _, _, _ => none
theorem s118 : ∀ args kws h k r, S118 (R := R) args kws h k = some r → callFn Pr CL 118 args kws h k = some r := by
 intro args kws h k r e
 unfold S118 at e
 split at e
 ·rename_i s x0 x1 x2 x3 x4
  obtain ⟨g, e⟩ := guardB_some' e
  simp only [Bool.and_eq_true, decide_eq_true_eq] at g
  obtain ⟨⟨⟨g1, g2⟩, g3⟩, g4⟩ := g
  have hs : fitS s = true := fitS_of (by omega)
  rw [c118, guardB_t (by rw [hs]; rfl)]
  unfold strip at e
  cases hc : Txt.contains s "\"" with
  | false => rw [hc] at e; exact e
  | true =>
   rw [hc] at e
   show guardB (fitS s && asc s) _ = _
   rw [guardB_t (by rw [hs, g2]; rfl)]
   obtain ⟨op', o', e'⟩ := loop118 x0 x1 x2 x3 x4 s hs (restK (evr Pr CL 55) fiStrip.scope r118 (retS (h5 x0 x1 x2 x3 x4) k)) (escPairs s) 0 none none [] (by simp; omega)
   have hl := stripF_len s (escPairs s) 0 none []
   unfold stripL at e g4
   dsimp only at e g4
   rw [show (h6 x0 x1 x2 x3 x4 []) = h6 x0 x1 x2 x3 x4 (([] : List Str).map F.str) from rfl, e', c118e, guardB_t hs]
   cases hd : decide ((stripF s (escPairs s) 0 none []).1 < (s.length : Int)) with
   | true =>
    rw [hd] at e g4
    show guardB (fitS s) (guardB (fitL _) (obind (allStr (_ ++ [_])) _)) = _
    rw [guardB_t hs, guardB_t (fit100 (by simp at hl ⊢; omega)), show ((stripF s (escPairs s) 0 none []).2.map F.str) ++ [F.str (slS s (some (stripF s (escPairs s) 0 none []).1) none)] = ((stripF s (escPairs s) 0 none []).2 ++ [slS s (some (stripF s (escPairs s) 0 none []).1) none]).map F.str from by rw [List.map_append]; rfl, allStr_map]
    show guardB _ _ = _
    rw [guardB_t (decide_eq_true g4)]
    exact e
   | false =>
    rw [hd] at e g4
    show obind (allStr _) _ = _
    rw [allStr_map]
    show guardB _ _ = _
    rw [guardB_t (decide_eq_true g4)]
    exact e
 ·cases e
abbrev CM : Cl R := ext CL 118 S118
def G118 (s : Str) : Bool := decide (s.length ≤ 5000) && asc s && decide ((escPairs s).length ≤ 5000) && decide (sumLen "" (stripL s) ≤ 100000)
abbrev t125 : PySem.Expr := fT (nthS fiCheck.body 2)
abbrev b125 : List Stmt := fB (nthS fiCheck.body 2)
abbrev r125 : List Stmt := [nthS fiCheck.body 3]
def lc125 (s : Str) (op : Int) (o : Option (Int × Str)) : Lc := ([("addr", .f (.str s)), ("opens", .f (.int op))] : Lc) ++ (match o with
 | none => []
 | some p => [("pos", .f (.int p.1)), ("ch", .f (.str p.2))])
section
variable (x0 x1 x2 x3 x4 : List F) (s : Str)
theorem c125 (k : KV R) : callFn Pr CM 125 [.f (.str s)] [] (h5 x0 x1 x2 x3 x4) k =
  guardB (G118 s) (guardB (fitS (strip s) && asc (strip s)) (forFix (evr Pr CM 56) fiCheck.scope t125 b125 ((escPairs (strip s)).map prF) (lc125 (strip s) 0 none) (h5 x0 x1 x2 x3 x4) (restK (evr Pr CM 57) fiCheck.scope r125 (retS (h5 x0 x1 x2 x3 x4) k)))) := by kernel_rfl
theorem c125t (op : Int) (o : Option (Int × Str)) (p : Int × Str) (r : List V) (K : KS R) : forFix (evr Pr CM 56) fiCheck.scope t125 b125 (prF p :: r) (lc125 s op o) (h5 x0 x1 x2 x3 x4) K =
  br (steq p.2 "(") (forFix (evr Pr CM 56) fiCheck.scope t125 b125 r (lc125 s (op + 1) (some p)) (h5 x0 x1 x2 x3 x4) K)
   (br (steq p.2 ")") (br (decide (op - 1 < 0)) (K (.ret (.f (.bool false))) (lc125 s (op - 1) (some p)) (h5 x0 x1 x2 x3 x4)) (forFix (evr Pr CM 56) fiCheck.scope t125 b125 r (lc125 s (op - 1) (some p)) (h5 x0 x1 x2 x3 x4) K))
    (forFix (evr Pr CM 56) fiCheck.scope t125 b125 r (lc125 s op (some p)) (h5 x0 x1 x2 x3 x4) K)) := by cases o <;> kernel_rfl
theorem c125e (op : Int) (o : Option (Int × Str)) (k : KV R) : restK (evr Pr CM 57) fiCheck.scope r125 (retS (h5 x0 x1 x2 x3 x4) k) .next (lc125 s op o) (h5 x0 x1 x2 x3 x4) = k (.f (.bool (decide (op = 0)))) (h5 x0 x1 x2 x3 x4) := by cases o <;> kernel_rfl
theorem c125r (b : Bool) (lc : Lc) (k : KV R) : restK (evr Pr CM 57) fiCheck.scope r125 (retS (h5 x0 x1 x2 x3 x4) k) (.ret (.f (.bool b))) lc (h5 x0 x1 x2 x3 x4) = k (.f (.bool b)) (h5 x0 x1 x2 x3 x4) := by kernel_rfl
def chk : List (Int × Str) → Int → Bool
 | [], op => decide (op = 0)
 | p :: r, op => match steq p.2 "(" with
  | true => chk r (op + 1)
  | false => match steq p.2 ")" with
   | true => !(decide (op - 1 < 0)) && chk r (op - 1)
   | false => chk r op
theorem loop125 (k : KV R) : ∀ (ps : List (Int × Str)) (op : Int) (o : Option (Int × Str)),
  forFix (evr Pr CM 56) fiCheck.scope t125 b125 (ps.map prF) (lc125 s op o) (h5 x0 x1 x2 x3 x4) (restK (evr Pr CM 57) fiCheck.scope r125 (retS (h5 x0 x1 x2 x3 x4) k)) = k (.f (.bool (chk ps op))) (h5 x0 x1 x2 x3 x4)
 | [], op, o => by
  show restK (evr Pr CM 57) fiCheck.scope r125 (retS (h5 x0 x1 x2 x3 x4) k) .next _ _ = _
  rw [c125e]; rfl
 | p :: r, op, o => by
  rw [List.map_cons, c125t, loop125 k r, loop125 k r, loop125 k r, c125r]
  rw [show chk (p :: r) op = (match steq p.2 "(" with | true => chk r (op + 1) | false => match steq p.2 ")" with | true => !(decide (op - 1 < 0)) && chk r (op - 1) | false => chk r op) from rfl]
  cases steq p.2 "("
  ·cases steq p.2 ")"
   ·rfl
   ·cases decide (op - 1 < 0) <;> rfl
  ·rfl
end
def check (s : Str) : Bool := chk (escPairs (strip s)) 0
def S125 (args : List V) (kws : List (Str × V)) (h : H) (k : KV R) : Option R := match args, kws, h with
 | [.f (.str s)], [], [.list x0, .list x1, .list x2, .list x3, .list x4] => guardB (G118 s && fitS (strip s) && asc (strip s)) (k (.f (.bool (check s))) (h5 x0 x1 x2 x3 x4))
 | _, _, _ => none
theorem s125 : ∀ args kws h k r, S125 (R := R) args kws h k = some r → callFn Pr CM 125 args kws h k = some r := by
 intro args kws h k r e
 unfold S125 at e
 split at e
 ·obtain ⟨g, e⟩ := guardB_some' e
  simp only [Bool.and_eq_true] at g
  rw [c125, guardB_t g.1.1, guardB_t (by rw [g.1.2, g.2]; rfl), loop125]
  exact e
 ·cases e
abbrev CN : Cl R := ext CM 125 S125
abbrev t293 : PySem.Expr := fT (nthS fiWorths.body 1)
abbrev b293 : List Stmt := fB (nthS fiWorths.body 1)
def asE : Stmt → PySem.Expr
 | .Assign _ e _ => e
 | _ => .Tuple [] 0 default
abbrev e293 : PySem.Expr := asE (nthS b293 0)
abbrev q293 : Scope := relabelS (lcS e293) fiWorths.scope
def lc293 (ov wd : List F) (o : Option (Int × List F)) : Lc := ([("over", .f (.lst ov)), ("words", .f (.lst wd)), ("laid", .loc 1), ("worths", .loc 2)] : Lc) ++ (match o with
 | none => []
 | some p => [("j", .f (.int p.1)), ("below", .f (.lst p.2))])
def lc293j (ov wd : List F) (j : Int) (o : Option (List F)) : Lc := ([("over", .f (.lst ov)), ("words", .f (.lst wd)), ("laid", .loc 1), ("worths", .loc 2), ("j", .f (.int j))] : Lc) ++ (match o with
 | none => []
 | some p => [("below", .f (.lst p))])
def optB (o : Option (Int × List F)) : Option (List F) := match o with
 | none => none
 | some p => some p.2
section
variable (C : Cl R) (ov wd sc ld ws : List F)
theorem c293 (k : KV R) : callFn Pr C 293 [.f (.lst ov), .f (.lst wd), .loc 1] [] [.list sc, .list ld] k =
  forFix (evr Pr C 57) fiWorths.scope t293 b293 ((rangeDn 9 (-1)).map fun i => .f (.int i)) (lc293 ov wd none) [.list sc, .list ld, .list (List.replicate 10 (.int 0))] (restK (evr Pr C 58) fiWorths.scope [nthS fiWorths.body 2] (retS [.list sc, .list ld] k)) := by kernel_rfl
theorem c293t (j : Int) (o : Option (Int × List F)) (r : List V) (K : KS R) : forFix (evr Pr C 57) fiWorths.scope t293 b293 (.f (.int j) :: r) (lc293 ov wd o) [.list sc, .list ld, .list ws] K =
  guardB (small (j + 1) && small 10) (guardB (fitL ((rangeUp (j + 1) 10).map fun i => V.f (.int i))) (compFix (evr Pr C 54) q293 (cellsOnly q293 (lc293j ov wd j (optB o))) "k" (lcE e293) (lcI e293) ((rangeUp (j + 1) 10).map fun i => .f (.int i)) [] [.list sc, .list ld, .list ws] fun acc h1 =>
   (evr Pr C 56).exs fiWorths.scope (lc293 ov wd (some (j, acc))) h1 [nthS b293 1] (turnF K fun lc2 h2 => forFix (evr Pr C 57) fiWorths.scope t293 b293 r lc2 h2 K))) := by cases o <;> kernel_rfl
theorem c293c (j : Int) (o : Option (List F)) (kk : Int) (acc : List F) (K : List F → H → Option R) : compOne (evr Pr C 54) q293 (cellsOnly q293 (lc293j ov wd j o)) "k" (lcE e293) (lcI e293) (.f (.int kk)) acc [.list sc, .list ld, .list ws] K =
  subscr (.f (.lst ov)) (.f (.int kk)) [.list sc, .list ld, .list ws] fun v h1 => eqV v (.f (.int j)) h1 fun b => br b (subscr (.loc 2) (.f (.int kk)) h1 fun y h2 => asF y fun z => K (acc ++ [z]) h2) (K acc h1) := by cases o <;> kernel_rfl
theorem c293r (o : Option (Int × List F)) (k : KV R) : restK (evr Pr C 58) fiWorths.scope [nthS fiWorths.body 2] (retS [.list sc, .list ld] k) .next (lc293 ov wd o) [.list sc, .list ld, .list ws] = k (.f (.lst ws)) [.list sc, .list ld] := by cases o <;> kernel_rfl
end
def ifTe : Stmt → PySem.Expr
 | .If t _ _ _ => t
 | _ => .Tuple [] 0 default
def ifAe : Stmt → List Stmt
 | .If _ a _ _ => a
 | _ => []
def ifBe : Stmt → List Stmt
 | .If _ _ b _ => b
 | _ => []
abbrev i1 : Stmt := nthS b293 1
abbrev i2 : Stmt := nthS (ifBe i1) 0
abbrev h3 (sc ld ws : List F) : H := [.list sc, .list ld, .list ws]
def KR1 (C : Cl R) (KK : KS R) : KS R := restK (evr Pr C 55) fiWorths.scope [] KK
def KR2 (C : Cl R) (KK : KS R) : KS R := restK (evr Pr C 53) fiWorths.scope [] (KR1 C KK)
def asg293 (ov wd sc ld ws : List F) (j : Int) (bl : List F) (KK : KS R) (x : F) : Option R := guardB (decide (0 ≤ j) && decide (j.toNat < ws.length) && fitL ws) (KK .next (lc293 ov wd (some (j, bl))) (h3 sc ld (ws.set j.toNat x)))
def mm293 (f : Int → List Int → Int) (ov wd sc ld ws : List F) (j : Int) (bl : List F) (KK : KS R) : Option R := obind (allInt bl) fun is => match is with
 | x :: r => guardB (fitL bl) (asg293 ov wd sc ld ws j bl KK (.int (f x r)))
 | [] => none
section
variable (C : Cl R) (ov wd sc ld ws : List F) (j : Int) (bl : List F)
theorem c293i1 (KK : KS R) : (evr Pr C 56).exs fiWorths.scope (lc293 ov wd (some (j, bl))) (h3 sc ld ws) [i1] KK =
  (evr Pr C 54).tst fiWorths.scope (lc293 ov wd (some (j, bl))) (h3 sc ld ws) (ifTe i1) fun c h1 => br c ((evr Pr C 54).exs fiWorths.scope (lc293 ov wd (some (j, bl))) h1 (ifAe i1) (KR1 C KK)) ((evr Pr C 54).exs fiWorths.scope (lc293 ov wd (some (j, bl))) h1 (ifBe i1) (KR1 C KK)) := by kernel_rfl
theorem c293i2 (K : Bool → H → Option R) : (evr Pr C 54).tst fiWorths.scope (lc293 ov wd (some (j, bl))) (h3 sc ld ws) (ifTe i1) K =
  subscr (.f (.lst wd)) (.f (.int j)) (h3 sc ld ws) fun v h1 => eqV v (.f (.str "<")) h1 fun x => K x h1 := by kernel_rfl
theorem c293i3 (KK : KS R) : (evr Pr C 54).exs fiWorths.scope (lc293 ov wd (some (j, bl))) (h3 sc ld ws) (ifAe i1) (KR1 C KK) = mm293 minL ov wd sc ld ws j bl KK := by kernel_rfl
theorem c293i4 (KK : KS R) : (evr Pr C 54).exs fiWorths.scope (lc293 ov wd (some (j, bl))) (h3 sc ld ws) (ifBe i1) (KR1 C KK) =
  (evr Pr C 52).tst fiWorths.scope (lc293 ov wd (some (j, bl))) (h3 sc ld ws) (ifTe i2) fun c h1 => br c ((evr Pr C 52).exs fiWorths.scope (lc293 ov wd (some (j, bl))) h1 (ifAe i2) (KR2 C KK)) ((evr Pr C 52).exs fiWorths.scope (lc293 ov wd (some (j, bl))) h1 (ifBe i2) (KR2 C KK)) := by kernel_rfl
theorem c293i5 (K : Bool → H → Option R) : (evr Pr C 52).tst fiWorths.scope (lc293 ov wd (some (j, bl))) (h3 sc ld ws) (ifTe i2) K =
  subscr (.f (.lst wd)) (.f (.int j)) (h3 sc ld ws) fun v h1 => eqV v (.f (.str ">")) h1 fun x => K x h1 := by kernel_rfl
theorem c293i6 (KK : KS R) : (evr Pr C 52).exs fiWorths.scope (lc293 ov wd (some (j, bl))) (h3 sc ld ws) (ifAe i2) (KR2 C KK) = mm293 maxL ov wd sc ld ws j bl KK := by kernel_rfl
end
def cArg : PySem.Expr → PySem.Expr
 | .Call _ (a :: _) _ _ => a
 | _ => .Tuple [] 0 default
def sVal : PySem.Expr → PySem.Expr
 | .Subscript v _ _ => v
 | _ => .Tuple [] 0 default
abbrev l293 : PySem.Expr := sVal (cArg (asE (nthS (ifBe i2) 0)))
abbrev p293 : Scope := relabelS (lcS l293) fiWorths.scope
def asgH (ov wd : List F) (j : Int) (bl : List F) (KK : KS R) (x : F) (h2 : H) : Option R := match h2[(2 : Nat)]? with
 | some (.list l) => guardB (decide (0 ≤ j) && decide (j.toNat < l.length) && fitL l) (KK .next (lc293 ov wd (some (j, bl))) (h2.set 2 (.list (l.set j.toNat x))))
 | _ => none
section
variable (C : Cl R) (ov wd sc ld ws : List F) (j : Int) (bl : List F)
theorem c293i7 (KK : KS R) : (evr Pr C 52).exs fiWorths.scope (lc293 ov wd (some (j, bl))) (h3 sc ld ws) (ifBe i2) (KR2 C KK) =
  compLive (evr Pr C 46) p293 (cellsOnly p293 (lc293 ov wd (some (j, bl)))) "one" (lcE l293) (lcI l293) 1 100 0 [] (h3 sc ld ws) fun acc h1 =>
   subscr (.f (.lst acc)) (.f (.int 0)) h1 fun v h2 => asStr v fun s => obind (digitVal s) fun i =>
    asgH ov wd j bl KK (.int i) h2 := by kernel_rfl
theorem c293d (p : Str × Str) (acc : List F) (K : List F → H → Option R) : compOne (evr Pr C 46) p293 (cellsOnly p293 (lc293 ov wd (some (j, bl)))) "one" (lcE l293) (lcI l293) (.f (pairF p)) acc (h3 sc ld ws) K =
  guardB (fitS p.1) (subscr (.f (.lst wd)) (.f (.int j)) (h3 sc ld ws) fun v h1 => guardB (okMeth Pr "lower" h1 v) (methV Pr C v "lower" [] [] h1 fun u h2 => eqV (.f (.str (Txt.lower p.1))) u h2 fun b => br b (K (acc ++ [.str p.2]) h2) (K acc h2))) := by kernel_rfl
end
def gI (l : List Int) (k : Int) : Int := l.getD k.toNat 0
def gS (l : List Str) (k : Int) : Str := l.getD k.toNat ⟨#[]⟩
theorem at_int {l : List Int} {k : Int} (h : k.toNat < l.length) : (l.map F.int)[k.toNat]? = some (.int (gI l k)) := by
 unfold gI; simp [List.getD, h]
theorem at_str {l : List Str} {k : Int} (h : k.toNat < l.length) : (l.map F.str)[k.toNat]? = some (.str (gS l k)) := by
 unfold gS; simp [List.getD, h]
theorem subscr_loc {l : List F} {a : Nat} {i : Int} {x : F} {h : H} {k : KV R} (e : h[a]? = some (.list l)) (hf : l.length ≤ 100000) (h0 : 0 ≤ i) (hx : l[i.toNat]? = some x) : subscr (.loc a) (.f (.int i)) h k = k (.f x) h := by
 have hl := (List.getElem?_eq_some_iff.mp hx).1
 show (match h[a]? with
  | some (.list l) => asInt (.f (.int i)) fun j => guardB (fitL l) (obind (seqIndex? j l.length) fun p => obind l[p]? fun x => k (.f x) h)
  | some (.locs l) => asInt (.f (.int i)) fun j => guardB (fitL l) (obind (seqIndex? j l.length) fun p => obind l[p]? fun x => k (.loc x) h)
  | _ => none) = _
 rw [e]
 show guardB (fitL l) (obind (seqIndex? i l.length) fun p => obind l[p]? fun x => k (.f x) h) = _
 rw [guardB_t (fit100 hf), seqI h0 (by omega)]
 show obind l[i.toNat]? _ = _
 rw [hx]; rfl
theorem mem_up {a b k : Int} (h : k ∈ rangeUp a b) : a ≤ k ∧ k < b := by
 unfold rangeUp at h
 obtain ⟨j, hj, rfl⟩ := List.mem_map.mp h
 have := List.mem_range.mp hj
 omega
theorem mem_dn {a b k : Int} (h : k ∈ rangeDn a b) : b < k ∧ k ≤ a := by
 unfold rangeDn at h
 obtain ⟨j, hj, rfl⟩ := List.mem_map.mp h
 have := List.mem_range.mp hj
 omega
def belowF (ov ws : List Int) (j : Int) : List Int → List Int
 | [] => []
 | k :: r => match decide (gI ov k = j) with
  | true => gI ws k :: belowF ov ws j r
  | false => belowF ov ws j r
def head293 (ws : List Int) (j : Int) (f : Int → List Int → Int) : List Int → Option (List Int)
 | [] => none
 | x :: r => some (ws.set j.toNat (f x r))
def wstep (ov : List Int) (wd : List Str) (ld : List (Str × Str)) (j : Int) (ws : List Int) : Option (List Int) :=
 match steq (gS wd j) "<" with
 | true => head293 ws j minL (belowF ov ws j (rangeUp (j + 1) 10))
 | false => match steq (gS wd j) ">" with
  | true => head293 ws j maxL (belowF ov ws j (rangeUp (j + 1) 10))
  | false => obind (hfind (Txt.lower (gS wd j)) ld) fun s => obind (digitVal s) fun i => some (ws.set j.toNat i)
def wfold (ov : List Int) (wd : List Str) (ld : List (Str × Str)) : List Int → List Int → Option (List Int)
 | [], ws => some ws
 | j :: r, ws => obind (wstep ov wd ld j ws) fun ws1 => wfold ov wd ld r ws1
section
variable (C : Cl R)
theorem loop293k (ov ws : List Int) (wdF sc ldF : List F) (j : Int) (o : Option (List F)) (h1 : ov.length = 10) (h2 : ws.length = 10) (K : List F → H → Option R) : ∀ (ks : List Int) (acc : List F), (∀ k ∈ ks, 0 ≤ k ∧ k < 10) →
  compFix (evr Pr C 54) q293 (cellsOnly q293 (lc293j (ov.map .int) wdF j o)) "k" (lcE e293) (lcI e293) (ks.map fun i => .f (.int i)) acc (h3 sc ldF (ws.map .int)) K = K (acc ++ (belowF ov ws j ks).map .int) (h3 sc ldF (ws.map .int))
 | [], acc, _ => by show K acc _ = K (acc ++ []) _; rw [List.append_nil]
 | k :: r, acc, hk => by
  obtain ⟨k1, k2⟩ := hk k (.head _)
  have ih := fun acc => loop293k ov ws wdF sc ldF j o h1 h2 K r acc fun x hx => hk x (.tail _ hx)
  rw [List.map_cons]
  show compOne (evr Pr C 54) q293 (cellsOnly q293 (lc293j (ov.map .int) wdF j o)) "k" (lcE e293) (lcI e293) (.f (.int k)) acc (h3 sc ldF (ws.map .int)) (fun acc1 h1 => compFix (evr Pr C 54) q293 (cellsOnly q293 (lc293j (ov.map .int) wdF j o)) "k" (lcE e293) (lcI e293) (r.map fun i => .f (.int i)) acc1 h1 K) = _
  rw [c293c, subscr_lst (by rw [List.length_map]; omega) k1 (at_int (by omega))]
  show br (decide (gI ov k = j)) (subscr (.loc 2) (.f (.int k)) (h3 sc ldF (ws.map .int)) _) _ = _
  rw [subscr_loc (l := ws.map .int) rfl (by rw [List.length_map]; omega) k1 (at_int (by omega))]
  rw [show belowF ov ws j (k :: r) = (match decide (gI ov k = j) with | true => gI ws k :: belowF ov ws j r | false => belowF ov ws j r) from rfl]
  cases decide (gI ov k = j)
  ·exact ih acc
  ·show compFix _ _ _ _ _ _ _ (acc ++ [.int (gI ws k)]) _ _ = _
   rw [ih]
   show K ((acc ++ [.int (gI ws k)]) ++ _) _ = K (acc ++ (.int (gI ws k) :: _)) _
   rw [List.append_assoc]; rfl
theorem allInt_map : ∀ l : List Int, allInt (l.map F.int) = some l
 | [] => rfl
 | x :: r => by
  show (match allInt (r.map F.int) with | some l => some (x :: l) | none => none) = _
  rw [allInt_map r]
theorem asg293_t (ovF wdF sc ldF : List F) (ws : List Int) (j : Int) (bl : List F) (KK : KS R) (x : Int) (j0 : 0 ≤ j) (j1 : j < 10) (h2 : ws.length = 10) :
  asg293 ovF wdF sc ldF (ws.map .int) j bl KK (.int x) = KK .next (lc293 ovF wdF (some (j, bl))) (h3 sc ldF ((ws.set j.toNat x).map .int)) := by
 unfold asg293
 rw [guardB_t]
 ·rw [List.map_set]
 ·simp only [Bool.and_eq_true, decide_eq_true_eq, List.length_map]
  exact ⟨⟨j0, by omega⟩, fit100 (by rw [List.length_map]; omega)⟩
theorem mm293_t (f : Int → List Int → Int) (ovF wdF sc ldF : List F) (ws : List Int) (j : Int) (bl : List Int) (KK : KS R) (j0 : 0 ≤ j) (j1 : j < 10) (h2 : ws.length = 10) (hb : bl.length ≤ 100000) :
  mm293 f ovF wdF sc ldF (ws.map .int) j (bl.map .int) KK = obind (head293 ws j f bl) fun ws1 => KK .next (lc293 ovF wdF (some (j, bl.map .int))) (h3 sc ldF (ws1.map .int)) := by
 unfold mm293
 rw [allInt_map]
 cases bl with
 | nil => rfl
 | cons x r =>
  show guardB (fitL ((x :: r).map F.int)) _ = KK .next _ _
  rw [guardB_t (fit100 (by rw [List.length_map]; exact hb)), asg293_t _ _ _ _ _ _ _ _ _ j0 j1 h2]
theorem loop293l (ovF sc : List F) (wd : List Str) (ws : List Int) (ld : List (Str × Str)) (j : Int) (bl : List F) (j0 : 0 ≤ j) (j1 : j < 10) (hw : wd.length = 10) (hd : fitS (gS wd j) = true) (hf : ld.all (fun p => fitS p.1) = true) (K : List F → H → Option R) :
  ∀ (m i : Nat) (acc : List F), i ≤ ld.length → ld.length < m + i →
  compLive (evr Pr C 46) p293 (cellsOnly p293 (lc293 ovF (wd.map .str) (some (j, bl)))) "one" (lcE l293) (lcI l293) 1 m i acc (h3 sc (ld.map pairF) (ws.map .int)) K = K (acc ++ hall (Txt.lower (gS wd j)) (ld.drop i)) (h3 sc (ld.map pairF) (ws.map .int))
 | 0, i, acc, hj0, hm => by omega
 | m + 1, i, acc, hj0, hm => by
  have ih := fun acc hj => loop293l ovF sc wd ws ld j bl j0 j1 hw hd hf K m (i + 1) acc hj (by omega)
  by_cases hj : i < ld.length
  ·have hx : (ld.map pairF)[i]? = some (pairF ld[i]) := by simp [hj]
   have hp : fitS (ld[i]).1 = true := List.all_eq_true.mp hf _ (List.getElem_mem hj)
   rw [compLive_step (l := ld.map pairF) rfl hx, c293d, guardB_t hp, subscr_lst (by rw [List.length_map]; omega) j0 (at_str (by omega))]
   show guardB (fitS (gS wd j)) (br (steq (Txt.lower (ld[i]).1) (Txt.lower (gS wd j))) _ _) = _
   rw [guardB_t hd, List.drop_eq_getElem_cons hj, ih _ (by omega), ih _ (by omega)]
   rw [show hall (Txt.lower (gS wd j)) (ld[i] :: ld.drop (i + 1)) = (match steq (Txt.lower ld[i].1) (Txt.lower (gS wd j)) with | true => .str ld[i].2 :: hall (Txt.lower (gS wd j)) (ld.drop (i + 1)) | false => hall (Txt.lower (gS wd j)) (ld.drop (i + 1))) from rfl]
   cases steq (Txt.lower ld[i].1) (Txt.lower (gS wd j))
   ·rfl
   ·show K ((acc ++ [.str ld[i].2]) ++ _) _ = K (acc ++ (.str ld[i].2 :: _)) _
    rw [List.append_assoc]; rfl
  ·have hx : (ld.map pairF)[i]? = none := by simp; omega
   rw [compLive_end (l := ld.map pairF) rfl hx, List.drop_eq_nil_of_le (by omega)]
   show K acc _ = K (acc ++ []) _
   rw [List.append_nil]
theorem hall_sub (nm : Str) (h : H) (k : KV R) : ∀ (ld : List (Str × Str)), (hall nm ld).length ≤ 100000 → subscr (.f (.lst (hall nm ld))) (.f (.int 0)) h k = obind (hfind nm ld) fun s => k (.f (.str s)) h
 | [], _ => rfl
 | p :: r, hl => by
  rw [show hall nm (p :: r) = (match steq (Txt.lower p.1) nm with | true => .str p.2 :: hall nm r | false => hall nm r) from rfl] at hl ⊢
  rw [show hfind nm (p :: r) = (match steq (Txt.lower p.1) nm with | true => some p.2 | false => hfind nm r) from rfl]
  cases hs : steq (Txt.lower p.1) nm with
  | false => rw [hs] at hl; exact hall_sub nm h k r hl
  | true =>
   rw [hs] at hl
   dsimp only at hl ⊢
   exact subscr_lst (x := .str p.2) hl (by omega) rfl
theorem hall_len (nm : Str) : ∀ ld : List (Str × Str), (hall nm ld).length ≤ ld.length
 | [] => Nat.le_refl _
 | p :: r => by
  rw [show hall nm (p :: r) = (match steq (Txt.lower p.1) nm with | true => .str p.2 :: hall nm r | false => hall nm r) from rfl]
  have := hall_len nm r
  split <;> simp <;> omega
theorem below_len (ov ws : List Int) (j : Int) : ∀ ks : List Int, (belowF ov ws j ks).length ≤ ks.length
 | [] => Nat.le_refl _
 | p :: r => by
  rw [show belowF ov ws j (p :: r) = (match decide (gI ov p = j) with | true => gI ws p :: belowF ov ws j r | false => belowF ov ws j r) from rfl]
  have := below_len ov ws j r
  split <;> simp <;> omega
end
theorem head293_len {ws : List Int} {j : Int} {f : Int → List Int → Int} {b ws1 : List Int} (e : head293 ws j f b = some ws1) : ws1.length = ws.length := by
 cases b with
 | nil => cases e
 | cons x r => cases e; rw [List.length_set]
theorem wstep_len {ov : List Int} {wd : List Str} {ld : List (Str × Str)} {j : Int} {ws ws1 : List Int} (e : wstep ov wd ld j ws = some ws1) : ws1.length = ws.length := by
 unfold wstep at e
 split at e
 ·exact head293_len e
 ·split at e
  ·exact head293_len e
  ·obtain ⟨s, _, e⟩ := obind_some' e
   obtain ⟨i, _, e⟩ := obind_some' e
   cases e; rw [List.length_set]
theorem len_up (a b : Int) : (rangeUp a b).length = (b - a).toNat := by
 unfold rangeUp; simp
section
variable (C : Cl R)
theorem turn293 (ov ws : List Int) (wd : List Str) (sc : List F) (ld : List (Str × Str)) (j : Int) (o : Option (Int × List F)) (r : List V) (K : KS R) (j0 : 0 ≤ j) (j1 : j < 10) (h1 : ov.length = 10) (h2 : ws.length = 10) (hw : wd.length = 10)
  (hd : fitS (gS wd j) = true) (hf : ld.all (fun p => fitS p.1) = true) (hl : ld.length ≤ 50) :
  ∃ o', forFix (evr Pr C 57) fiWorths.scope t293 b293 (.f (.int j) :: r) (lc293 (ov.map .int) (wd.map .str) o) (h3 sc (ld.map pairF) (ws.map .int)) K =
   obind (wstep ov wd ld j ws) fun ws1 => forFix (evr Pr C 57) fiWorths.scope t293 b293 r (lc293 (ov.map .int) (wd.map .str) o') (h3 sc (ld.map pairF) (ws1.map .int)) K := by
 refine ⟨some (j, (belowF ov ws j (rangeUp (j + 1) 10)).map .int), ?_⟩
 rw [c293t, guardB_t (by rw [Bool.and_eq_true]; exact ⟨small_of (by omega), small_of (by omega)⟩), guardB_t (fit100 (by rw [List.length_map, len_up]; omega)), loop293k C ov ws _ sc _ j _ h1 h2 _ _ _ (fun k hk => by have := mem_up hk; omega)]
 rw [List.nil_append, c293i1, c293i2, subscr_lst (by rw [List.length_map]; omega) j0 (at_str (by omega))]
 show br (steq (gS wd j) "<") _ _ = _
 rw [c293i3, c293i4, c293i5, subscr_lst (by rw [List.length_map]; omega) j0 (at_str (by omega))]
 show br (steq (gS wd j) "<") _ (br (steq (gS wd j) ">") _ _) = _
 rw [c293i6, c293i7]
 unfold wstep
 have hb := below_len ov ws j (rangeUp (j + 1) 10)
 rw [len_up] at hb
 cases steq (gS wd j) "<" with
 | true =>
  show mm293 minL _ _ _ _ _ _ _ _ = _
  rw [mm293_t _ _ _ _ _ _ _ _ _ j0 j1 h2 (by omega)]; rfl
 | false =>
  cases steq (gS wd j) ">" with
  | true =>
   show mm293 maxL _ _ _ _ _ _ _ _ = _
   rw [mm293_t _ _ _ _ _ _ _ _ _ j0 j1 h2 (by omega)]; rfl
  | false =>
   show compLive _ _ _ _ _ _ _ _ _ _ _ _ = _
   rw [loop293l C _ sc wd ws ld j _ j0 j1 hw hd hf _ 100 0 [] (by omega) (by omega), List.nil_append, List.drop_zero, hall_sub _ _ _ _ (by have := hall_len (Txt.lower (gS wd j)) ld; omega)]
   show obind _ _ = obind (obind _ _) _
   cases hfind (Txt.lower (gS wd j)) ld with
   | none => rfl
   | some s =>
    show obind (digitVal s) _ = obind (obind (digitVal s) _) _
    cases digitVal s with
    | none => rfl
    | some i =>
     show guardB (decide (0 ≤ j) && decide (j.toNat < (ws.map F.int).length) && fitL (ws.map F.int)) _ = _
     rw [guardB_t (by
      simp only [Bool.and_eq_true, decide_eq_true_eq, List.length_map]
      exact ⟨⟨j0, by omega⟩, fit100 (by rw [List.length_map]; omega)⟩)]
     rw [show (ws.map F.int).set j.toNat (F.int i) = (ws.set j.toNat i).map F.int from by rw [List.map_set]]
     rfl
theorem loop293 (ov : List Int) (wd : List Str) (sc : List F) (ld : List (Str × Str)) (h1 : ov.length = 10) (hw : wd.length = 10)
  (hd : wd.all fitS = true) (hf : ld.all (fun p => fitS p.1) = true) (hl : ld.length ≤ 50) (k : KV R) : ∀ (js : List Int) (ws : List Int) (o : Option (Int × List F)), (∀ j ∈ js, 0 ≤ j ∧ j < 10) → ws.length = 10 →
  forFix (evr Pr C 57) fiWorths.scope t293 b293 (js.map fun i => .f (.int i)) (lc293 (ov.map .int) (wd.map .str) o) (h3 sc (ld.map pairF) (ws.map .int)) (restK (evr Pr C 58) fiWorths.scope [nthS fiWorths.body 2] (retS [.list sc, .list (ld.map pairF)] k)) =
   obind (wfold ov wd ld js ws) fun ws1 => k (.f (.lst (ws1.map .int))) [.list sc, .list (ld.map pairF)]
 | [], ws, o, _, _ => by
  show restK (evr Pr C 58) fiWorths.scope [nthS fiWorths.body 2] (retS [.list sc, .list (ld.map pairF)] k) .next _ _ = _
  rw [c293r]; rfl
 | j :: r, ws, o, hj, h2 => by
  obtain ⟨j0, j1⟩ := hj j (.head _)
  have hd' : fitS (gS wd j) = true := by
   have : j.toNat < wd.length := by omega
   unfold gS
   rw [List.getD, List.getElem?_eq_getElem this]
   exact List.all_eq_true.mp hd _ (List.getElem_mem this)
  obtain ⟨o', e⟩ := turn293 C ov ws wd sc ld j o (r.map fun i => .f (.int i)) (restK (evr Pr C 58) fiWorths.scope [nthS fiWorths.body 2] (retS [.list sc, .list (ld.map pairF)] k)) j0 j1 h1 h2 hw hd' hf hl
  rw [List.map_cons, e]
  show _ = obind (obind (wstep ov wd ld j ws) _) _
  cases he : wstep ov wd ld j ws with
  | none => rfl
  | some ws1 => exact loop293 ov wd sc ld h1 hw hd hf hl k r ws1 o' (fun x hx => hj x (.tail _ hx)) (by rw [wstep_len he, h2])
end
def S293 (args : List V) (kws : List (Str × V)) (h : H) (k : KV R) : Option R := match args, kws, h with
 | [.f (.lst ovF), .f (.lst wdF), .loc 1], [], [.list sc, .list ldF] => obind (allInt ovF) fun ov => obind (allStr wdF) fun wd => obind (unpair ldF) fun ld =>
  guardB (decide (ov.length = 10) && decide (wd.length = 10) && wd.all fitS && ld.all (fun p => fitS p.1) && decide (ld.length ≤ 50)) (obind (wfold ov wd ld (rangeDn 9 (-1)) (List.replicate 10 0)) fun ws1 => k (.f (.lst (ws1.map .int))) [.list sc, .list ldF])
 | _, _, _ => none
theorem allInt_some : ∀ {l : List F} {ps : List Int}, allInt l = some ps → l = ps.map F.int
 | [], ps, e => by unfold allInt at e; cases e; rfl
 | x :: r, ps, e => by
  unfold allInt at e
  split at e
  ·cases ‹_ = []›
  ·rename_i a r' q
   split at e
   ·rename_i l' hl
    cases e
    injection q with q1 q2
    subst q1 q2
    rw [allInt_some hl]; rfl
   ·cases e
  ·cases e
theorem allStr_some : ∀ {l : List F} {ps : List Str}, allStr l = some ps → l = ps.map F.str
 | [], ps, e => by unfold allStr at e; cases e; rfl
 | x :: r, ps, e => by
  unfold allStr at e
  split at e
  ·cases ‹_ = []›
  ·rename_i a r' q
   split at e
   ·rename_i l' hl
    cases e
    injection q with q1 q2
    subst q1 q2
    rw [allStr_some hl]; rfl
   ·cases e
  ·cases e
theorem s293 (C : Cl R) : ∀ args kws h k r, S293 (R := R) args kws h k = some r → callFn Pr C 293 args kws h k = some r := by
 intro args kws h k r e
 unfold S293 at e
 split at e
 ·rename_i ovF wdF sc ldF
  obtain ⟨ov, ho, e1⟩ := obind_some' e
  obtain ⟨wd, hw, e2⟩ := obind_some' e1
  obtain ⟨ld, hl, e3⟩ := obind_some' e2
  clear e e1 e2
  have ho := allInt_some ho
  have hw := allStr_some hw
  have hl := unpair_some hl
  subst ho hw hl
  obtain ⟨g, e⟩ := guardB_some' e3
  simp only [Bool.and_eq_true, decide_eq_true_eq] at g
  obtain ⟨⟨⟨⟨g1, g2⟩, g3⟩, g4⟩, g5⟩ := g
  rw [c293, show (List.replicate 10 (F.int 0)) = (List.replicate 10 (0 : Int)).map F.int from rfl, loop293 C ov wd sc ld g1 g2 g3 g4 g5 k _ _ none (fun j hj => by have := mem_dn hj; omega) rfl]
  exact e
 ·cases e
def wT : Stmt → PySem.Expr
 | .While t _ _ _ => t
 | _ => .Tuple [] 0 default
def wB : Stmt → List Stmt
 | .While _ b _ _ => b
 | _ => []
def turnW (K : KS R) (next : Lc → H → Option R) : KS R := fun fl lc2 h2 => match fl with
  | .next => next lc2 h2
  | .brk => K .next lc2 h2
  | .ret x => K (.ret x) lc2 h2
abbrev t298 : PySem.Expr := wT (nthS fiBounds.body 1)
abbrev b298 : List Stmt := wB (nthS fiBounds.body 1)
abbrev e298 : PySem.Expr := asE (nthS b298 1)
abbrev q298 : Scope := relabelS (lcS e298) fiBounds.scope
def lc298 (ov wd ws : List F) (j lo hi : Int) (o : Option (Int × List F)) : Lc := ([("over", .f (.lst ov)), ("words", .f (.lst wd)), ("worths", .f (.lst ws)), ("j", .f (.int j)), ("low", .f (.int lo)), ("high", .f (.int hi))] : Lc) ++ (match o with
 | none => []
 | some p => [("up", .f (.int p.1)), ("elder", .f (.lst p.2))])
def mm298 (f : Int → List Int → Int) (x : Int) (el : List F) (k : Int → Option R) : Option R := guardB (true && fitL el) (guardB (fitL (.int x :: el)) (obind (allInt (.int x :: el)) fun is => match is with
 | y :: r => guardB (fitL (.int x :: el)) (k (f y r))
 | [] => none))
section
variable (C : Cl R) (ov wd ws : List F)
theorem c298 (j : Int) (h : H) (k : KV R) : callFn Pr C 298 [.f (.lst ov), .f (.lst wd), .f (.lst ws), .f (.int j)] [] h k =
  whileL (evr Pr C 57) fiBounds.scope t298 b298 100 (lc298 ov wd ws j 0 9 none) h (restK (evr Pr C 58) fiBounds.scope [nthS fiBounds.body 2] (retS h k)) := by kernel_rfl
theorem c298e (j lo hi : Int) (o : Option (Int × List F)) (h h0 : H) (k : KV R) : restK (evr Pr C 58) fiBounds.scope [nthS fiBounds.body 2] (retS h0 k) .next (lc298 ov wd ws j lo hi o) h = retK h0.length (.f (.tup [.int lo, .int hi])) h k := by cases o <;> kernel_rfl
theorem c298w (m : Nat) (j lo hi : Int) (o : Option (Int × List F)) (h : H) (K : KS R) : whileL (evr Pr C 57) fiBounds.scope t298 b298 (m + 1) (lc298 ov wd ws j lo hi o) h K =
  br (decide (0 < j)) (subscr (.f (.lst ov)) (.f (.int j)) h fun v h1 => (evr Pr C 56).exs fiBounds.scope (lset (lc298 ov wd ws j lo hi o) "up" v) h1 [nthS b298 1, nthS b298 2, nthS b298 3] (turnW K fun lc2 h2 => whileL (evr Pr C 57) fiBounds.scope t298 b298 m lc2 h2 K)) (K .next (lc298 ov wd ws j lo hi o) h) := by cases o <;> kernel_rfl
theorem c298b (j lo hi up : Int) (o : Option (Int × List F)) (h : H) (K : KS R) : (evr Pr C 56).exs fiBounds.scope (lset (lc298 ov wd ws j lo hi o) "up" (.f (.int up))) h [nthS b298 1, nthS b298 2, nthS b298 3] K =
  guardB (small (up + 1) && small j) (guardB (fitL ((rangeUp (up + 1) j).map fun i => V.f (.int i))) (compFix (evr Pr C 53) q298 [("over", .f (.lst ov)), ("worths", .f (.lst ws)), ("up", .f (.int up))] "k" (lcE e298) (lcI e298) ((rangeUp (up + 1) j).map fun i => .f (.int i)) [] h fun acc h1 =>
   (evr Pr C 55).exs fiBounds.scope (lc298 ov wd ws j lo hi (some (up, acc))) h1 [nthS b298 2, nthS b298 3] K)) := by cases o <;> kernel_rfl
theorem c298c (up kk : Int) (acc : List F) (h : H) (K : List F → H → Option R) : compOne (evr Pr C 53) q298 [("over", .f (.lst ov)), ("worths", .f (.lst ws)), ("up", .f (.int up))] "k" (lcE e298) (lcI e298) (.f (.int kk)) acc h K =
  subscr (.f (.lst ov)) (.f (.int kk)) h fun v h1 => eqV v (.f (.int up)) h1 fun b => br b (subscr (.f (.lst ws)) (.f (.int kk)) h1 fun y h2 => asF y fun z => K (acc ++ [z]) h2) (K acc h1) := by kernel_rfl
theorem c298i (j lo hi up : Int) (el : List F) (h : H) (K : KS R) : (evr Pr C 55).exs fiBounds.scope (lc298 ov wd ws j lo hi (some (up, el))) h [nthS b298 2, nthS b298 3] K =
  subscr (.f (.lst wd)) (.f (.int up)) h fun v h1 => eqV v (.f (.str "<")) h1 fun b => br b (mm298 minL hi el fun x => K .next (lc298 ov wd ws up lo x (some (up, el))) h1) (mm298 maxL lo el fun x => K .next (lc298 ov wd ws up x hi (some (up, el))) h1) := by kernel_rfl
end
theorem br_t {β : Type} (x y : Option β) : br true x y = x := rfl
theorem eqS_t (a b : Str) (h : H) (k : Bool → Option R) : eqV (.f (.str a)) (.f (.str b)) h k = k (steq a b) := rfl
def bounds (ov : List Int) (wd : List Str) (ws : List Int) : Nat → Int → Int → Int → Int × Int
 | 0, _, lo, hi => (lo, hi)
 | m + 1, j, lo, hi => match decide (0 < j) with
  | false => (lo, hi)
  | true => match steq (gS wd (gI ov j)) "<" with
   | true => bounds ov wd ws m (gI ov j) lo (minL hi (belowF ov ws (gI ov j) (rangeUp (gI ov j + 1) j)))
   | false => bounds ov wd ws m (gI ov j) (maxL lo (belowF ov ws (gI ov j) (rangeUp (gI ov j + 1) j))) hi
section
variable (C : Cl R)
theorem loop298k (ov ws : List Int) (up : Int) (h : H) (h1 : ov.length = 10) (h2 : ws.length = 10) (K : List F → H → Option R) : ∀ (ks : List Int) (acc : List F), (∀ k ∈ ks, 0 ≤ k ∧ k < 10) →
  compFix (evr Pr C 53) q298 [("over", .f (.lst (ov.map .int))), ("worths", .f (.lst (ws.map .int))), ("up", .f (.int up))] "k" (lcE e298) (lcI e298) (ks.map fun i => .f (.int i)) acc h K = K (acc ++ (belowF ov ws up ks).map .int) h
 | [], acc, _ => by show K acc _ = K (acc ++ []) _; rw [List.append_nil]
 | k :: r, acc, hk => by
  obtain ⟨k1, k2⟩ := hk k (.head _)
  have ih := fun acc => loop298k ov ws up h h1 h2 K r acc fun x hx => hk x (.tail _ hx)
  rw [List.map_cons]
  show compOne _ _ _ _ _ _ (.f (.int k)) acc h (fun acc1 h1 => compFix _ _ _ _ _ _ (r.map fun i => .f (.int i)) acc1 h1 K) = _
  rw [c298c, subscr_lst (by rw [List.length_map]; omega) k1 (at_int (by omega))]
  show br (decide (gI ov k = up)) (subscr (.f (.lst (ws.map .int))) (.f (.int k)) h _) _ = _
  rw [subscr_lst (by rw [List.length_map]; omega) k1 (at_int (by omega))]
  rw [show belowF ov ws up (k :: r) = (match decide (gI ov k = up) with | true => gI ws k :: belowF ov ws up r | false => belowF ov ws up r) from rfl]
  cases decide (gI ov k = up)
  ·exact ih acc
  ·show compFix _ _ _ _ _ _ _ (acc ++ [.int (gI ws k)]) _ _ = _
   rw [ih]
   show K ((acc ++ [.int (gI ws k)]) ++ _) _ = K (acc ++ (.int (gI ws k) :: _)) _
   rw [List.append_assoc]; rfl
theorem mm298_t (f : Int → List Int → Int) (x : Int) (el : List Int) (k : Int → Option R) (h : el.length ≤ 1000) : mm298 f x (el.map .int) k = k (f x el) := by
 unfold mm298
 rw [guardB_t (by rw [fit100 (by rw [List.length_map]; omega)]; rfl), guardB_t (fit100 (by simp; omega))]
 rw [show (F.int x :: el.map F.int) = (x :: el).map F.int from rfl, allInt_map]
 show guardB _ _ = _
 rw [guardB_t (fit100 (by simp; omega))]
theorem loop298 (ov : List Int) (wd : List Str) (ws : List Int) (h1 : ov.length = 10) (hw : wd.length = 10) (h2 : ws.length = 10) (hov : ∀ j : Int, 0 < j → j < 10 → 0 ≤ gI ov j ∧ gI ov j < j) (h : H) (K : KS R) : ∀ (m : Nat) (j lo hi : Int) (o : Option (Int × List F)), 0 ≤ j → j < 10 → j < m →
  ∃ j' o', whileL (evr Pr C 57) fiBounds.scope t298 b298 m (lc298 (ov.map .int) (wd.map .str) (ws.map .int) j lo hi o) h K = K .next (lc298 (ov.map .int) (wd.map .str) (ws.map .int) j' (bounds ov wd ws m j lo hi).1 (bounds ov wd ws m j lo hi).2 o') h
 | 0, j, lo, hi, o, hj0, hj, hm => by
  omega
 | m + 1, j, lo, hi, o, hj0, hj, hm => by
  rw [c298w]
  rw [show bounds ov wd ws (m + 1) j lo hi = (match decide (0 < j) with
  | false => (lo, hi)
  | true => match steq (gS wd (gI ov j)) "<" with
   | true => bounds ov wd ws m (gI ov j) lo (minL hi (belowF ov ws (gI ov j) (rangeUp (gI ov j + 1) j)))
   | false => bounds ov wd ws m (gI ov j) (maxL lo (belowF ov ws (gI ov j) (rangeUp (gI ov j + 1) j))) hi) from rfl]
  cases hd : decide (0 < j) with
  | false => exact ⟨j, o, rfl⟩
  | true =>
   have j0 := of_decide_eq_true hd
   obtain ⟨u0, u1⟩ := hov j j0 hj
   rw [br_t]
   have hb := below_len ov ws (gI ov j) (rangeUp (gI ov j + 1) j)
   rw [len_up] at hb
   rw [subscr_lst (by rw [List.length_map]; omega) (by omega) (at_int (by omega)), c298b, guardB_t (by rw [Bool.and_eq_true]; exact ⟨small_of (by omega), small_of (by omega)⟩), guardB_t (fit100 (by rw [List.length_map, len_up]; omega)),
    loop298k C ov ws _ h h1 h2 _ _ _ (fun k hk => by have := mem_up hk; omega), List.nil_append, c298i, subscr_lst (by rw [List.length_map]; omega) (by omega) (at_str (by omega))]
   rw [eqS_t, mm298_t _ _ _ _ (by omega), mm298_t _ _ _ _ (by omega)]
   cases steq (gS wd (gI ov j)) "<" with
   | true => exact loop298 ov wd ws h1 hw h2 hov h K m (gI ov j) _ _ _ (by omega) (by omega) (by omega)
   | false => exact loop298 ov wd ws h1 hw h2 hov h K m (gI ov j) _ _ _ (by omega) (by omega) (by omega)
end
def S298 (args : List V) (kws : List (Str × V)) (h : H) (k : KV R) : Option R := match args, kws with
 | [.f (.lst ovF), .f (.lst wdF), .f (.lst wsF), .f (.int j)], [] => obind (allInt ovF) fun ov => obind (allStr wdF) fun wd => obind (allInt wsF) fun ws =>
  guardB (okP h.length h && decide (ov.length = 10) && decide (wd.length = 10) && decide (ws.length = 10) && decide (0 ≤ j) && decide (j < 10) && (List.range 9).all fun i => decide (0 ≤ gI ov (i + 1) ∧ gI ov (i + 1) < i + 1)) (k (.f (.tup [.int (bounds ov wd ws 100 j 0 9).1, .int (bounds ov wd ws 100 j 0 9).2])) h)
 | _, _ => none
theorem s298 (C : Cl R) : ∀ args kws h k r, S298 (R := R) args kws h k = some r → callFn Pr C 298 args kws h k = some r := by
 intro args kws h k r e
 unfold S298 at e
 split at e
 ·rename_i ovF wdF wsF j
  obtain ⟨ov, ho, e1⟩ := obind_some' e
  obtain ⟨wd, hw, e2⟩ := obind_some' e1
  obtain ⟨ws, hl, e3⟩ := obind_some' e2
  clear e e1 e2
  have ho := allInt_some ho
  have hw := allStr_some hw
  have hl := allInt_some hl
  subst ho hw hl
  obtain ⟨g, e⟩ := guardB_some' e3
  simp only [Bool.and_eq_true, decide_eq_true_eq, List.all_eq_true, List.mem_range] at g
  obtain ⟨⟨⟨⟨⟨⟨g0, g1⟩, g2⟩, g3⟩, g4⟩, g5⟩, g6⟩ := g
  obtain ⟨j', o', e'⟩ := loop298 C ov wd ws g1 g2 g3 (fun i i0 i1 => by
   have := g6 (i - 1).toNat (by omega)
   have hc : (((i - 1).toNat : Int) + 1) = i := by omega
   rw [hc] at this; exact this) h (restK (evr Pr C 58) fiBounds.scope [nthS fiBounds.body 2] (retS h k)) 100 j 0 9 none g4 g5 (by omega)
  rw [c298, e', c298e, ret_same g0]
  exact e
 ·cases e
def dropS : List Stmt → Nat → List Stmt
 | l, 0 => l
 | [], _ => []
 | _ :: r, n + 1 => dropS r n
def toldL : List Int := [6, 1344, 7, 170, 1033, 0, 805, 3367, 4550, 1968]
def scr10 (l : List F) : List F := sliceOf l none (some 10)
def told10 (l : List F) : List F := sliceOf (toldL.map F.int) (some ((scr10 l).length : Int)) none
abbrev e288 : PySem.Expr := asE (nthS fiTree.body 1)
abbrev q288 : Scope := relabelS (lcS e288) fiTree.scope
abbrev t288 : PySem.Expr := fT (nthS fiTree.body 3)
abbrev b288 : List Stmt := fB (nthS fiTree.body 3)
abbrev tw288 : PySem.Expr := wT (nthS b288 2)
abbrev bw288 : List Stmt := wB (nthS b288 2)
abbrev t288b : PySem.Expr := fT (nthS fiTree.body 5)
abbrev b288b : List Stmt := fB (nthS fiTree.body 5)
abbrev h4 (a b c d : List F) : H := [.list a, .list b, .list c, .list d]
abbrev tdF : List F := toldL.map F.int
def lcA (scr dr : List F) (r d u : Int) (o : Option (Str × Option (List F))) : Lc := ([("script", .f (.lst scr)), ("told", .loc 0), ("draws", .f (.lst dr)), ("depths", .loc 1), ("over", .loc 2), ("leads", .loc 3), ("r", .f (.int r)), ("depth", .f (.int d)), ("up", .f (.int u))] : Lc) ++ (match o with
 | none => []
 | some (l, none) => [("lead", .f (.str l))]
 | some (l, some rn) => [("lead", .f (.str l)), ("runs", .f (.lst rn))])
def lc288 (scr dr : List F) (o : Option (Int × Int × Int × Str × Option (List F))) : Lc := match o with
 | none => [("script", .f (.lst scr)), ("told", .loc 0), ("draws", .f (.lst dr)), ("depths", .loc 1), ("over", .loc 2), ("leads", .loc 3)]
 | some (r, d, u, l, rn) => lcA scr dr r d u (some (l, rn))
def opA : Option (Int × Int × Int × Str × Option (List F)) → Option (Str × Option (List F))
 | none => none
 | some (_, _, _, l, rn) => some (l, rn)
def lcD (scr dr : List F) (r : Int) (v : V) (o : Option (Int × Int × Int × Str × Option (List F))) : Lc := lset (lset (lc288 scr dr o) "r" (.f (.int r))) "depth" v
section
variable (C : Cl R) (scr dr : List F)
theorem c288 (k : KV R) : callFn Pr C 288 [.f (.lst scr)] [] [] k =
  guardB (fitL scr) (guardB (fitL scr) (guardB (fitL (scr10 scr)) (guardB (fitL (scr10 scr) && fitL (told10 scr)) (guardB (fitL (scr10 scr ++ told10 scr)) (guardB (fitL ((scr10 scr ++ told10 scr).map V.f))
   (compFix (evr Pr C 56) q288 [] "x" (lcE e288) (lcI e288) ((scr10 scr ++ told10 scr).map V.f) [] [.list tdF] fun acc h1 =>
    (evr Pr C 58).exs fiTree.scope [("script", .f (.lst scr)), ("told", .loc 0), ("draws", .f (.lst acc))] h1 (dropS fiTree.body 2) (retS [] k))))))) := by kernel_rfl
theorem c288x (x : Int) (acc : List F) (h : H) (K : List F → H → Option R) : compOne (evr Pr C 56) q288 [] "x" (lcE e288) (lcI e288) (.f (.int x)) acc h K = K (acc ++ [.int (x.fmod 8064)]) h := by kernel_rfl
theorem c288f (KK : KS R) : (evr Pr C 58).exs fiTree.scope [("script", .f (.lst scr)), ("told", .loc 0), ("draws", .f (.lst dr))] [.list tdF] (dropS fiTree.body 2) KK =
  guardB (fitL dr) (forFix (evr Pr C 55) fiTree.scope t288 b288 ((sliceOf dr (some 1) none).map V.f) (lc288 scr dr none) (h4 tdF [.int 0] [.int 0] [.str ""]) (restK (evr Pr C 56) fiTree.scope (dropS fiTree.body 4) KK)) := by kernel_rfl
theorem c288t (r : Int) (o : Option (Int × Int × Int × Str × Option (List F))) (td dp ov ld : List F) (rest : List V) (K : KS R) : forFix (evr Pr C 55) fiTree.scope t288 b288 (.f (.int r) :: rest) (lc288 scr dr o) (h4 td dp ov ld) K =
  subscr (.loc 1) (.f (.int (-1))) (h4 td dp ov ld) fun v h1 => binop false .Add v (.f (.int 1)) h1 fun v2 h2 => callV C (.raw (.builtin "min")) [v2, .f (.int 3)] [] h2 fun v3 h3 => binop false .Mod (.f (.int (r.fmod 6))) v3 h3 fun v4 h4 => binop true .Add (.f (.int 1)) v4 h4 fun v5 h5 =>
   (evr Pr C 54).exs fiTree.scope (lcD scr dr r v5 o) h5 (dropS b288 1) (turnF K fun lc2 h2 => forFix (evr Pr C 55) fiTree.scope t288 b288 rest lc2 h2 K) := by rcases o with _ | ⟨_, _, _, _, _ | _⟩ <;> kernel_rfl
theorem c288u (r d : Int) (o : Option (Int × Int × Int × Str × Option (List F))) (td dp ov ld : List F) (KK : KS R) : (evr Pr C 54).exs fiTree.scope (lcD scr dr r (.f (.int d)) o) (h4 td dp ov ld) (dropS b288 1) KK =
  guardB (fitL dp) (whileL (evr Pr C 51) fiTree.scope tw288 bw288 100 (lcA scr dr r d ((dp.length : Int) - 1) (opA o)) (h4 td dp ov ld) (restK (evr Pr C 52) fiTree.scope (dropS b288 3) KK)) := by rcases o with _ | ⟨_, _, _, _, _ | _⟩ <;> kernel_rfl
theorem c288w (m : Nat) (r d u : Int) (o : Option (Str × Option (List F))) (td dp ov ld : List F) (KK : KS R) : whileL (evr Pr C 51) fiTree.scope tw288 bw288 (m + 1) (lcA scr dr r d u o) (h4 td dp ov ld) KK =
  subscr (.loc 1) (.f (.int u)) (h4 td dp ov ld) fun v h1 => asInt v fun i => br (decide (d ≤ i)) (whileL (evr Pr C 51) fiTree.scope tw288 bw288 m (lcA scr dr r d (u - 1) o) h1 KK) (KK .next (lcA scr dr r d u o) h1) := by rcases o with _ | ⟨_, _ | _⟩ <;> kernel_rfl
theorem c288l (r d u : Int) (o : Option (Str × Option (List F))) (td dp ov ld : List F) (KK : KS R) : restK (evr Pr C 52) fiTree.scope (dropS b288 3) KK .next (lcA scr dr r d u o) (h4 td dp ov ld) =
  subscr (.loc 3) (.f (.int u)) (h4 td dp ov ld) fun v h1 => subscr (.f (.lst [.str "\t", .str "   ", .str " \t"])) (.f (.int ((r.fdiv 672).fmod 3))) h1 fun w h2 => binop true .Add v w h2 fun x h3 => (evr Pr C 51).exs fiTree.scope (lset (lcA scr dr r d u o) "lead" x) h3 (dropS b288 4) KK := by rcases o with _ | ⟨_, _ | _⟩ <;> kernel_rfl
end
abbrev h5' (a b c d e : List F) : H := [.list a, .list b, .list c, .list d, .list e]
def fI : Stmt → PySem.Expr
 | .For _ i _ _ _ => i
 | _ => .Tuple [] 0 default
def fP : Stmt → Pos
 | .For _ _ _ _ p => p
 | _ => default
theorem for_ex {P : Prg} {C : Cl R} {n : Nat} {sc : Scope} {lc : Lc} {h : H} {t it : PySem.Expr} {b : List Stmt} {p : Pos} {K : KS R} : (evr P C (n + 1)).ex sc lc h (.For t it b [] p) K = iterE P (evr P C n) sc lc h it (fun it h1 => forIt (evr P C n) sc t b lc h1 K it) := by kernel_rfl
theorem exs_cons {P : Prg} {C : Cl R} {n : Nat} {sc : Scope} {lc : Lc} {h : H} {s : Stmt} {r : List Stmt} {K : KS R} : (evr P C (n + 1)).exs sc lc h (s :: r) K = (evr P C n).ex sc lc h s (restK (evr P C n) sc r K) := by kernel_rfl
def spl (s : Str) : List F := (Txt.split s "\t").map F.str
def spl1 (s : Str) : List F := (sliceOf (spl s) none (some (-1))).reverse ++ sliceOf (spl s) (some (-1)) none
def lc288w (scr dr : List F) (o : Option (Int × Int × Int × Str × Option (List F))) (w : Option Int) : Lc := lc288 scr dr o ++ ([("words", .loc 4)] : Lc) ++ (match w with
 | none => []
 | some j => [("j", .f (.int j))])
section
variable (C : Cl R) (scr dr : List F)
def app288 (r d u : Int) (s : Str) (rn : Option (List F)) (td dp ov ld : List F) (KK : KS R) : Option R :=
 guardB (fitL dp) (guardB (fitL ov) (guardB (fitL ld) (KK .next (lcA scr dr r d u (some (s, rn))) (h4 td (dp ++ [.int d]) (ov ++ [.int u]) (ld ++ [.str s])))))
def trn288 (r d u : Int) (s : Str) (td dp ov ld : List F) (KK : KS R) : Option R :=
 guardB (fitS s && true) (guardB (fitL (spl s)) (guardB (fitL (sliceOf (spl s) none (some (-1)))) (guardB (fitL (spl s)) (guardB (fitL (sliceOf (spl s) none (some (-1))).reverse && fitL (sliceOf (spl s) (some (-1)) none)) (guardB (fitL (spl1 s))
  (obind (allStr (spl1 s)) fun ts => guardB (decide (sumLen "\t" ts ≤ 100000)) (app288 scr dr r d u (Txt.join "\t" ts) (some (spl s)) td dp ov ld KK)))))))
theorem c288m (r d u : Int) (s : Str) (rn : Option (List F)) (td dp ov ld : List F) (KK : KS R) : (evr Pr C 51).exs fiTree.scope (lcA scr dr r d u (some (s, rn))) (h4 td dp ov ld) (dropS b288 4) KK =
  br (decide ((r.fdiv 2016).fmod 2 = 1)) (trn288 scr dr r d u s td dp ov ld KK) (app288 scr dr r d u s rn td dp ov ld KK) := by rcases rn with _ | _ <;> kernel_rfl
theorem c288n1 (o : Option (Int × Int × Int × Str × Option (List F))) (td dp ov ld : List F) (KK : KS R) : (evr Pr C 55).ex fiTree.scope (lc288 scr dr o) (h4 td dp ov ld) (nthS fiTree.body 4) KK = KK .next (lc288w scr dr o none) (h5' td dp ov ld []) := by rcases o with _ | ⟨_, _, _, _, _ | _⟩ <;> kernel_rfl
theorem bd288 : dropS fiTree.body 4 = nthS fiTree.body 4 :: nthS fiTree.body 5 :: dropS fiTree.body 6 := by kernel_rfl
theorem c288n (o : Option (Int × Int × Int × Str × Option (List F))) (td dp ov ld : List F) (KK : KS R) : restK (evr Pr C 56) fiTree.scope (dropS fiTree.body 4) KK .next (lc288 scr dr o) (h4 td dp ov ld) =
  (evr Pr C 54).ex fiTree.scope (lc288w scr dr o none) (h5' td dp ov ld []) (nthS fiTree.body 5) (restK (evr Pr C 54) fiTree.scope (dropS fiTree.body 6) KK) := by
 show (evr Pr C 56).exs fiTree.scope (lc288 scr dr o) (h4 td dp ov ld) (dropS fiTree.body 4) KK = _
 rw [bd288, exs_cons, c288n1]
 show (evr Pr C 55).exs fiTree.scope _ _ (nthS fiTree.body 5 :: dropS fiTree.body 6) KK = _
 rw [exs_cons]
theorem c288n2 (lc : Lc) (h : H) (KK : KS R) : (evr Pr C 54).ex fiTree.scope lc h (nthS fiTree.body 5) KK =
  iterE Pr (evr Pr C 53) fiTree.scope lc h (fI (nthS fiTree.body 5)) (fun it h1 => forIt (evr Pr C 53) fiTree.scope t288b b288b lc h1 KK it) := by
 rw [show nthS fiTree.body 5 = .For (fT (nthS fiTree.body 5)) (fI (nthS fiTree.body 5)) (fB (nthS fiTree.body 5)) [] (fP (nthS fiTree.body 5)) from by kernel_rfl]
 exact for_ex
theorem c288n3 (o : Option (Int × Int × Int × Str × Option (List F))) (td dp ov ld : List F) (K : It → H → Option R) : iterE Pr (evr Pr C 53) fiTree.scope (lc288w scr dr o none) (h5' td dp ov ld []) (fI (nthS fiTree.body 5)) K =
  K (.fixed ((rangeUp 0 10).map fun i => .f (.int i))) (h5' td dp ov ld []) := by rcases o with _ | ⟨_, _, _, _, _ | _⟩ <;> kernel_rfl
theorem c288p (j : Int) (o : Option (Int × Int × Int × Str × Option (List F))) (w : Option Int) (rest : List V) (td dp ov ld wd : List F) (K : KS R) : forFix (evr Pr C 53) fiTree.scope t288b b288b (.f (.int j) :: rest) (lc288w scr dr o w) (h5' td dp ov ld wd) K =
  (evr Pr C 51).tst fiTree.scope (lc288w scr dr o (some j)) (h5' td dp ov ld wd) (ifTe (nthS b288b 0)) fun b h1 => br b
   ((evr Pr C 51).exs fiTree.scope (lc288w scr dr o (some j)) h1 (ifAe (nthS b288b 0)) (restK (evr Pr C 52) fiTree.scope [] (turnF K fun lc2 h2 => forFix (evr Pr C 53) fiTree.scope t288b b288b rest lc2 h2 K)))
   ((evr Pr C 51).exs fiTree.scope (lc288w scr dr o (some j)) h1 (ifBe (nthS b288b 0)) (restK (evr Pr C 52) fiTree.scope [] (turnF K fun lc2 h2 => forFix (evr Pr C 53) fiTree.scope t288b b288b rest lc2 h2 K))) := by rcases o with _ | ⟨_, _, _, _, _ | _⟩ <;> rcases w with _ | _ <;> kernel_rfl
theorem c288q (j : Int) (o : Option (Int × Int × Int × Str × Option (List F))) (td dp ov ld wd : List F) (K : Bool → H → Option R) : (evr Pr C 51).tst fiTree.scope (lc288w scr dr o (some j)) (h5' td dp ov ld wd) (ifTe (nthS b288b 0)) K =
  br (decide (j + 1 < 10)) (subscr (.loc 2) (.f (.int (j + 1))) (h5' td dp ov ld wd) fun v h1 => eqV v (.f (.int j)) h1 fun b => br b (K true h1) (K false h1)) (K false (h5' td dp ov ld wd)) := by rcases o with _ | ⟨_, _, _, _, _ | _⟩ <;> kernel_rfl
theorem c288r (j : Int) (o : Option (Int × Int × Int × Str × Option (List F))) (td dp ov ld wd : List F) (rest : List V) (K : KS R) : (evr Pr C 51).exs fiTree.scope (lc288w scr dr o (some j)) (h5' td dp ov ld wd) (ifAe (nthS b288b 0)) (restK (evr Pr C 52) fiTree.scope [] (turnF K fun lc2 h2 => forFix (evr Pr C 53) fiTree.scope t288b b288b rest lc2 h2 K)) =
  subscr (.f (.lst dr)) (.f (.int j)) (h5' td dp ov ld wd) fun v h1 => binop false .FloorDiv v (.f (.int 6)) h1 fun v2 h2 => binop false .Mod v2 (.f (.int 2)) h2 fun v3 h3 => subscr (.f (.lst [.str "<", .str ">"])) v3 h3 fun x h4 =>
   guardB (okMeth Pr "append" h4 (.loc 4)) (methV Pr C (.loc 4) "append" [x] [] h4 fun _ h5 => forFix (evr Pr C 53) fiTree.scope t288b b288b rest (lc288w scr dr o (some j)) h5 K) := by rcases o with _ | ⟨_, _, _, _, _ | _⟩ <;> kernel_rfl
theorem c288s (j : Int) (o : Option (Int × Int × Int × Str × Option (List F))) (td dp ov ld wd : List F) (rest : List V) (K : KS R) : (evr Pr C 51).exs fiTree.scope (lc288w scr dr o (some j)) (h5' td dp ov ld wd) (ifBe (nthS b288b 0)) (restK (evr Pr C 52) fiTree.scope [] (turnF K fun lc2 h2 => forFix (evr Pr C 53) fiTree.scope t288b b288b rest lc2 h2 K)) =
  subscr (.f (.lst dr)) (.f (.int j)) (h5' td dp ov ld wd) fun v h1 => binop false .FloorDiv v (.f (.int 12)) h1 fun v2 h2 => binop false .Mod v2 (.f (.int 7)) h2 fun v3 h3 => subscr (.f (.lst [.str "a", .str "A", .str "b", .str "B", .str "\\(", .str "\\)", .str "\\\""])) v3 h3 fun x h4 =>
   guardB (okMeth Pr "append" h4 (.loc 4)) (methV Pr C (.loc 4) "append" [x] [] h4 fun _ h5 => forFix (evr Pr C 53) fiTree.scope t288b b288b rest (lc288w scr dr o (some j)) h5 K) := by rcases o with _ | ⟨_, _, _, _, _ | _⟩ <;> kernel_rfl
theorem c288z (o : Option (Int × Int × Int × Str × Option (List F))) (w : Option Int) (td dp ov ld wd : List F) (k : KV R) : restK (evr Pr C 54) fiTree.scope (dropS fiTree.body 6) (retS [] k) .next (lc288w scr dr o w) (h5' td dp ov ld wd) =
  k (.f (.tup [.lst dr, .lst ov, .lst ld, .lst wd])) [] := by rcases o with _ | ⟨_, _, _, _, _ | _⟩ <;> rcases w with _ | _ <;> kernel_rfl
end
end Mine.Q
end
section
set_option maxRecDepth 4000
namespace Mine.Q
def turnL (s : Str) : List Str := (sliceOf (Txt.split s "\t") none (some (-1))).reverse ++ sliceOf (Txt.split s "\t") (some (-1)) none
def turnS (s : Str) : Str := Txt.join "\t" (turnL s)
def nstep (s : Nat) (m : Nm) : Nm := scanC (stepS s).cps.toList m
def nmEq (a b : Nm) : Bool := decide (a.n = b.n) && decide (a.nt = b.nt) && decide (a.cnt = b.cnt) && decide (a.b = b.b)
def turnOK (n : Nat) (s : Str) : Bool := (leadsN n).any (fun t => steq t (turnS s)) && nmEq (scanL (turnS s)) (scanL s) && decide (s.length ≤ 100) && decide ((Txt.split s "\t").length ≤ 100) && decide (sumLen "\t" (turnL s) ≤ 100000)
theorem turn_fin : ((List.range 4).all fun n => (leadsN n).all (turnOK n)) = true := by kernel_rfl
theorem nmEq_t {a b : Nm} (h : nmEq a b = true) : a = b := by
 unfold nmEq at h
 simp only [Bool.and_eq_true, decide_eq_true_eq] at h
 cases a; cases b
 obtain ⟨⟨⟨h1, h2⟩, h3⟩, h4⟩ := h
 dsimp only at h1 h2 h3 h4
 rw [h1, h2, h3, h4]
theorem turn_in {n : Nat} {s : Str} (hn : n < 4) (hs : s ∈ leadsN n) : turnS s ∈ leadsN n ∧ scanL (turnS s) = scanL s ∧ s.length ≤ 100 ∧ (Txt.split s "\t").length ≤ 100 ∧ sumLen "\t" (turnL s) ≤ 100000 := by
 have h := List.all_eq_true.mp (List.all_eq_true.mp turn_fin n (List.mem_range.mpr hn)) s hs
 unfold turnOK at h
 simp only [Bool.and_eq_true, decide_eq_true_eq, List.any_eq_true] at h
 obtain ⟨⟨⟨⟨⟨t, h1, h2⟩, h3⟩, h4⟩, h5⟩, h6⟩ := h
 rw [steqS _ _ h2] at h1
 exact ⟨h1, nmEq_t h3, h4, h5, h6⟩
theorem step_in {n : Nat} {s : Str} (hs : s ∈ leadsN n) {k : Nat} (hk : k < 3) : s ++ stepS k ∈ leadsN (n + 1) := by
 unfold leadsN
 refine List.mem_flatMap.mpr ⟨s, hs, ?_⟩
 match k, hk with
 | 0, _ => exact .head _
 | 1, _ => exact .tail _ (.head _)
 | 2, _ => exact .tail _ (.tail _ (.head _))
theorem scanC_app : ∀ (a b : List Nat) (m : Nm), scanC (a ++ b) m = scanC b (scanC a m)
 | [], b, m => rfl
 | c :: r, b, m => by
  rw [List.cons_append]
  rw [show scanC (c :: (r ++ b)) m = (match Nat.beq c 32 with
  | true => scanC (r ++ b) ⟨m.n + 1, m.nt, m.cnt, m.b + 1⟩
  | false => scanC (r ++ b) ⟨m.n + 1, m.nt + 1, bump m.cnt m.b.toNat, 0⟩) from rfl]
  rw [show scanC (c :: r) m = (match Nat.beq c 32 with
  | true => scanC r ⟨m.n + 1, m.nt, m.cnt, m.b + 1⟩
  | false => scanC r ⟨m.n + 1, m.nt + 1, bump m.cnt m.b.toNat, 0⟩) from rfl]
  cases Nat.beq c 32
  ·exact scanC_app r b _
  ·exact scanC_app r b _
theorem scan_step (s : Str) (k : Nat) : scanL (s ++ stepS k) = nstep k (scanL s) := by
 unfold scanL nstep
 rw [← scanC_app]
 congr 1
 show (s.cps ++ (stepS k).cps).toList = _
 simp
def depthF (dp : List Int) (r : Int) : Int := 1 + (r.fmod 6).fmod (if 3 < gI dp ((dp.length : Int) - 1) + 1 then 3 else gI dp ((dp.length : Int) - 1) + 1)
def wup (dp : List Int) (d : Int) : Nat → Nat
 | 0 => 0
 | n + 1 => match decide (d ≤ gI dp ((n + 1 : Nat) : Int)) with
  | true => wup dp d n
  | false => n + 1
def stepI (r : Int) : Nat := ((r.fdiv 672).fmod 3).toNat
def leadF (p : Str) (r : Int) : Str := match decide ((r.fdiv 2016).fmod 2 = 1) with
 | true => turnS (p ++ stepS (stepI r))
 | false => p ++ stepS (stepI r)
def upF (dp : List Int) (r : Int) : Nat := wup dp (depthF dp r) (dp.length - 1)
def tfold : List Int → List Int → List Int → List Str → List Int × List Int × List Str
 | [], dp, ov, ld => (dp, ov, ld)
 | r :: rs, dp, ov, ld => tfold rs (dp ++ [depthF dp r]) (ov ++ [(upF dp r : Int)]) (ld ++ [leadF (gS ld (upF dp r : Int)) r])
structure TI (dp ov : List Int) (ld : List Str) : Prop where
 lo : ov.length = dp.length
 ll : ld.length = dp.length
 pos : 1 ≤ dp.length
 d0 : gI dp 0 = 0
 o0 : gI ov 0 = 0
 dd : ∀ i : Nat, 0 < i → i < dp.length → 1 ≤ gI dp i ∧ gI dp i ≤ 3
 st : ∀ i : Nat, i + 1 < dp.length → gI dp (i + 1 : Nat) ≤ gI dp i + 1
 up : ∀ j : Nat, 0 < j → j < dp.length → ∃ u : Nat, gI ov j = u ∧ u < j ∧ gI dp u = gI dp j - 1 ∧ ∀ k : Nat, u < k → k < j → gI dp j ≤ gI dp k
 le : ∀ j : Nat, j < dp.length → gS ld j ∈ leadsN (gI dp j).toNat
 nm : ∀ j : Nat, 0 < j → j < dp.length → ∃ s, s < 3 ∧ scanL (gS ld j) = nstep s (scanL (gS ld (gI ov j)))
theorem gI_app1 {l : List Int} {x : Int} {i : Nat} (h : i < l.length) : gI (l ++ [x]) i = gI l i := by
 unfold gI; simp [List.getD, List.getElem?_append_left, h]
theorem gI_app2 {l : List Int} {x : Int} {i : Nat} (h : i = l.length) : gI (l ++ [x]) i = x := by
 unfold gI; simp [List.getD, h]
theorem gS_app1 {l : List Str} {x : Str} {i : Nat} (h : i < l.length) : gS (l ++ [x]) i = gS l i := by
 unfold gS; simp [List.getD, List.getElem?_append_left, h]
theorem gS_app2 {l : List Str} {x : Str} {i : Nat} (h : i = l.length) : gS (l ++ [x]) i = x := by
 unfold gS; simp [List.getD, h]
theorem wup_spec (dp : List Int) (d : Int) (h0 : gI dp 0 < d) : ∀ n : Nat, wup dp d n ≤ n ∧ gI dp (wup dp d n : Nat) < d ∧ ∀ k : Nat, wup dp d n < k → k ≤ n → d ≤ gI dp k
 | 0 => ⟨Nat.le_refl _, h0, fun k h1 h2 => by unfold wup at h1; omega⟩
 | n + 1 => by
  obtain ⟨a, b, c⟩ := wup_spec dp d h0 n
  rw [show wup dp d (n + 1) = (match decide (d ≤ gI dp ((n + 1 : Nat) : Int)) with
  | true => wup dp d n
  | false => n + 1) from rfl]
  cases hd : decide (d ≤ gI dp ((n + 1 : Nat) : Int)) with
  | true =>
   have hd := of_decide_eq_true hd
   refine ⟨by show wup dp d n ≤ n + 1; omega, b, fun k h1 h2 => ?_⟩
   by_cases hk : k = n + 1
   ·rw [hk]; exact hd
   ·exact c k h1 (by omega)
  | false =>
   have hd := of_decide_eq_false hd
   refine ⟨Nat.le_refl _, by show gI dp ((n + 1 : Nat) : Int) < d; omega, fun k h1 h2 => ?_⟩
   have h1' : n + 1 < k := h1
   exfalso; omega
theorem TI.rng {dp ov : List Int} {ld : List Str} (t : TI dp ov ld) (i : Nat) (h : i < dp.length) : 0 ≤ gI dp i ∧ gI dp i ≤ 3 := by
 by_cases h0 : i = 0
 ·subst h0
  have := t.d0
  rw [show ((0 : Nat) : Int) = 0 from rfl]
  omega
 ·have := t.dd i (by omega) h
  omega
theorem depth_rng {dp ov : List Int} {ld : List Str} (t : TI dp ov ld) (r : Int) : 1 ≤ depthF dp r ∧ depthF dp r ≤ 3 ∧ depthF dp r ≤ gI dp ((dp.length - 1 : Nat) : Int) + 1 := by
 have hp := t.pos
 have h := t.rng (dp.length - 1) (by omega)
 have hc : ((dp.length : Int) - 1) = ((dp.length - 1 : Nat) : Int) := by omega
 unfold depthF
 rw [hc]
 generalize hx : gI dp ((dp.length - 1 : Nat) : Int) = x at *
 generalize r.fmod 6 = y
 have hm : 0 < (if 3 < x + 1 then 3 else x + 1) := by split <;> omega
 have h1 := Int.fmod_nonneg_of_pos y hm
 have h2 := Int.fmod_lt_of_pos y hm
 generalize y.fmod _ = z at *
 split at h2 <;> omega
theorem TI_step {dp ov : List Int} {ld : List Str} (t : TI dp ov ld) (r : Int) : TI (dp ++ [depthF dp r]) (ov ++ [(upF dp r : Int)]) (ld ++ [leadF (gS ld (upF dp r : Int)) r]) := by
 have hp := t.pos
 have hlo := t.lo
 have hll := t.ll
 obtain ⟨a1, a2, a3⟩ := depth_rng t r
 obtain ⟨b1, b2, b3⟩ := wup_spec dp (depthF dp r) (by have := t.d0; omega) (dp.length - 1)
 have hu : upF dp r < dp.length := by unfold upF; omega
 rw [show wup dp (depthF dp r) (dp.length - 1) = upF dp r from rfl] at b1 b2 b3
 have hdu : gI dp (upF dp r : Nat) = depthF dp r - 1 := by
  by_cases he : upF dp r = dp.length - 1
  ·rw [he] at b2 ⊢; omega
  ·have h1 := b3 (upF dp r + 1) (by omega) (by omega)
   have h2 := t.st (upF dp r) (by omega)
   omega
 have hs3 : stepI r < 3 := by
  unfold stepI
  have h1 := Int.fmod_nonneg_of_pos (r.fdiv 672) (b := 3) (by omega)
  have h2 := Int.fmod_lt_of_pos (r.fdiv 672) (b := 3) (by omega)
  omega
 have hin := t.le (upF dp r) hu
 have hst := step_in hin hs3
 have hn : (gI dp (upF dp r : Nat)).toNat + 1 = (depthF dp r).toNat := by omega
 rw [hn] at hst
 obtain ⟨t1, t2, _⟩ := turn_in (by omega) hst
 have hle : leadF (gS ld (upF dp r : Int)) r ∈ leadsN (depthF dp r).toNat := by
  unfold leadF
  split
  ·exact t1
  ·exact hst
 have hnm : scanL (leadF (gS ld (upF dp r : Int)) r) = nstep (stepI r) (scanL (gS ld (upF dp r : Int))) := by
  unfold leadF
  split
  ·rw [t2, scan_step]
  ·rw [scan_step]
 constructor
 ·simp [hlo]
 ·simp [hll]
 ·simp
 ·rw [show (0 : Int) = ((0 : Nat) : Int) from rfl, gI_app1 (by omega)]; exact t.d0
 ·rw [show (0 : Int) = ((0 : Nat) : Int) from rfl, gI_app1 (by omega)]; exact t.o0
 ·intro i h0 h
  by_cases hi : i < dp.length
  ·rw [gI_app1 hi]; exact t.dd i h0 hi
  ·rw [gI_app2 (by simp at h; omega)]; omega
 ·intro i h
  simp at h
  by_cases hi : i + 1 < dp.length
  ·rw [gI_app1 hi, gI_app1 (by omega)]; exact t.st i hi
  ·rw [gI_app2 (by omega), gI_app1 (by omega), show i = dp.length - 1 from by omega]; exact a3
 ·intro j h0 h
  simp at h
  by_cases hj : j < dp.length
  ·obtain ⟨u, u1, u2, u3, u4⟩ := t.up j h0 hj
   refine ⟨u, by rw [gI_app1 (by omega)]; exact u1, u2, by rw [gI_app1 (by omega), gI_app1 hj]; exact u3, fun k k1 k2 => ?_⟩
   rw [gI_app1 hj, gI_app1 (by omega)]; exact u4 k k1 k2
  ·have hj : j = dp.length := by omega
   refine ⟨upF dp r, gI_app2 (by omega), by omega, by rw [gI_app1 hu, gI_app2 hj]; exact hdu, fun k k1 k2 => ?_⟩
   rw [gI_app2 hj, gI_app1 (by omega)]; exact b3 k k1 (by omega)
 ·intro j h
  simp at h
  by_cases hj : j < dp.length
  ·rw [gI_app1 hj, gS_app1 (by omega)]; exact t.le j hj
  ·rw [gI_app2 (by omega), gS_app2 (by omega)]; exact hle
 ·intro j h0 h
  simp at h
  by_cases hj : j < dp.length
  ·obtain ⟨s, s1, s2⟩ := t.nm j h0 hj
   obtain ⟨u, u1, u2, _⟩ := t.up j h0 hj
   refine ⟨s, s1, ?_⟩
   rw [gI_app1 (by omega), gS_app1 (by omega), u1, gS_app1 (by omega), s2, u1]
  ·refine ⟨stepI r, hs3, ?_⟩
   rw [gI_app2 (by omega), gS_app2 (by omega), gS_app1 (by omega), hnm]
end Mine.Q
end
section
set_option maxRecDepth 4000
namespace Mine.Q
variable {R : Type}
theorem seqI_last {n : Nat} (h : 0 < n) : seqIndex? (-1) n = some (n - 1) := by
 unfold seqIndex?
 have h1 : (-1 : Int) < 0 := by decide
 have h2 : (0 : Int) ≤ -1 + n := by omega
 have h3 : (-1 : Int) + n < n := by omega
 simp [h1, h2, h3]
 omega
theorem subscr_last {l : List F} {a : Nat} {x : F} {h : H} {k : KV R} (e : h[a]? = some (.list l)) (hf : l.length ≤ 100000) (hx : l[l.length - 1]? = some x) : subscr (.loc a) (.f (.int (-1))) h k = k (.f x) h := by
 have hl := (List.getElem?_eq_some_iff.mp hx).1
 show (match h[a]? with
  | some (.list l) => asInt (.f (.int (-1))) fun j => guardB (fitL l) (obind (seqIndex? j l.length) fun p => obind l[p]? fun x => k (.f x) h)
  | some (.locs l) => asInt (.f (.int (-1))) fun j => guardB (fitL l) (obind (seqIndex? j l.length) fun p => obind l[p]? fun x => k (.loc x) h)
  | _ => none) = _
 rw [e]
 show guardB (fitL l) (obind (seqIndex? (-1) l.length) fun p => obind l[p]? fun x => k (.f x) h) = _
 rw [guardB_t (fit100 hf), seqI_last (by omega)]
 show obind l[l.length - 1]? _ = _
 rw [hx]; rfl
theorem at_intN {l : List Int} {k : Nat} (h : k < l.length) : (l.map F.int)[k]? = some (.int (gI l k)) := by
 have := at_int (l := l) (k := (k : Int)) h; exact this
theorem slice_map {α β : Type} (f : α → β) (l : List α) (a b : Option Int) : sliceOf (l.map f) a b = (sliceOf l a b).map f := by
 unfold sliceOf
 rw [List.length_map, List.map_take, List.map_drop]
section
variable (C : Cl R) (scr dr : List F)
theorem loop288w (td ov ld : List F) (dp : List Int) (r d : Int) (o : Option (Str × Option (List F))) (KK : KS R) (h0 : gI dp 0 < d) (hl : dp.length ≤ 100) : ∀ (n m : Nat), n < m → n < dp.length →
  whileL (evr Pr C 51) fiTree.scope tw288 bw288 m (lcA scr dr r d (n : Int) o) (h4 td (dp.map .int) ov ld) KK = KK .next (lcA scr dr r d (wup dp d n : Nat) o) (h4 td (dp.map .int) ov ld)
 | n, 0, hm, _ => by omega
 | 0, m + 1, hm, hn => by
  rw [c288w, subscr_loc (l := dp.map .int) rfl (by rw [List.length_map]; omega) (by omega) (at_int (by simpa using hn))]
  show br (decide (d ≤ gI dp ((0 : Nat) : Int))) _ _ = _
  rw [decide_eq_false (by rw [show ((0 : Nat) : Int) = 0 from rfl]; omega)]
  rfl
 | n + 1, m + 1, hm, hn => by
  rw [c288w, subscr_loc (l := dp.map .int) rfl (by rw [List.length_map]; omega) (by omega) (at_int (by simpa using hn))]
  show br (decide (d ≤ gI dp ((n + 1 : Nat) : Int))) _ _ = _
  rw [show (((n + 1 : Nat) : Int) - 1) = (n : Int) from by omega, loop288w td ov ld dp r d o KK h0 hl n m (by omega) (by omega)]
  rw [show wup dp d (n + 1) = (match decide (d ≤ gI dp ((n + 1 : Nat) : Int)) with
  | true => wup dp d n
  | false => n + 1) from rfl]
  cases decide (d ≤ gI dp ((n + 1 : Nat) : Int)) <;> rfl
theorem trn_t (r d u : Int) (s : Str) (td dp ov ld : List F) (KK : KS R) (h1 : s.length ≤ 100) (h2 : (Txt.split s "\t").length ≤ 100) (h3 : sumLen "\t" (turnL s) ≤ 100000) : trn288 scr dr r d u s td dp ov ld KK = app288 scr dr r d u (turnS s) (some (spl s)) td dp ov ld KK := by
 unfold trn288 spl1 spl
 have hs : ∀ a b, (sliceOf (Txt.split s "\t") a b).length ≤ 100 := fun a b => by
  unfold sliceOf
  rw [List.length_take, List.length_drop]; omega
 rw [slice_map, slice_map, ← List.map_reverse, ← List.map_append, allStr_map]
 rw [guardB_t (by rw [fitS_of (by omega)]; rfl), guardB_t (fit100 (by rw [List.length_map]; omega)), guardB_t (fit100 (by rw [List.length_map]; have := hs none (some (-1)); omega)), guardB_t (fit100 (by rw [List.length_map]; omega)),
  guardB_t (by rw [fit100 (by rw [List.length_map, List.length_reverse]; have := hs none (some (-1)); omega), fit100 (by rw [List.length_map]; have := hs (some (-1)) none; omega)]; rfl), guardB_t (fit100 (by
   rw [List.length_map, List.length_append, List.length_reverse]; have := hs none (some (-1)); have := hs (some (-1)) none; omega))]
 show guardB (decide (sumLen "\t" (turnL s) ≤ 100000)) _ = _
 rw [guardB_t (decide_eq_true h3)]
 rfl
theorem app_t (r d u : Int) (s : Str) (rn : Option (List F)) (td : List F) (dp ov : List Int) (ld : List Str) (KK : KS R) (h : dp.length ≤ 100) (h1 : ov.length = dp.length) (h2 : ld.length = dp.length) :
  app288 scr dr r d u s rn td (dp.map .int) (ov.map .int) (ld.map .str) KK = KK .next (lcA scr dr r d u (some (s, rn))) (h4 td ((dp ++ [d]).map .int) ((ov ++ [u]).map .int) ((ld ++ [s]).map .str)) := by
 unfold app288
 rw [guardB_t (fit100 (by rw [List.length_map]; omega)), guardB_t (fit100 (by rw [List.length_map]; omega)), guardB_t (fit100 (by rw [List.length_map]; omega)), List.map_append, List.map_append, List.map_append]
 rfl
theorem step_len (k : Nat) : (stepS k).length ≤ 3 := by
 unfold stepS; split <;> decide
theorem steps_at {k : Nat} (h : k < 3) : ([.str "\t", .str "   ", .str " \t"] : List F)[k]? = some (.str (stepS k)) := by
 match k, h with
 | 0, _ => rfl
 | 1, _ => rfl
 | 2, _ => rfl
theorem turn288 (td : List F) (dp ov : List Int) (ld : List Str) (t : TI dp ov ld) (hl : dp.length ≤ 50) (r : Int) (o : Option (Int × Int × Int × Str × Option (List F))) (rest : List V) (K : KS R) :
  ∃ o', forFix (evr Pr C 55) fiTree.scope t288 b288 (.f (.int r) :: rest) (lc288 scr dr o) (h4 td (dp.map .int) (ov.map .int) (ld.map .str)) K =
   forFix (evr Pr C 55) fiTree.scope t288 b288 rest (lc288 scr dr o') (h4 td ((dp ++ [depthF dp r]).map .int) ((ov ++ [(upF dp r : Int)]).map .int) ((ld ++ [leadF (gS ld (upF dp r : Int)) r]).map .str)) K := by
 have hp := t.pos
 have hc : ((dp.length : Int) - 1) = ((dp.length - 1 : Nat) : Int) := by omega
 have hrg := t.rng (dp.length - 1) (by omega)
 obtain ⟨a1, a2, a3⟩ := depth_rng t r
 obtain ⟨b1, b2, b3⟩ := wup_spec dp (depthF dp r) (by have := t.d0; omega) (dp.length - 1)
 have hu : upF dp r < dp.length := by unfold upF; omega
 rw [c288t, subscr_last (l := dp.map .int) rfl (by rw [List.length_map]; omega) (by rw [List.length_map]; exact at_intN (by omega))]
 show ∃ o', (guardB (decide (0 < (if 3 < gI dp ((dp.length - 1 : Nat) : Int) + 1 then (3 : Int) else gI dp ((dp.length - 1 : Nat) : Int) + 1))) ((evr Pr C 54).exs fiTree.scope (lcD scr dr r (.f (.int (1 + (r.fmod 6).fmod (if 3 < gI dp ((dp.length - 1 : Nat) : Int) + 1 then (3 : Int) else gI dp ((dp.length - 1 : Nat) : Int) + 1)))) o) _ (dropS b288 1) _)) = _
 rw [guardB_t (decide_eq_true (by split <;> omega))]
 rw [show (1 + (r.fmod 6).fmod (if 3 < gI dp ((dp.length - 1 : Nat) : Int) + 1 then (3 : Int) else gI dp ((dp.length - 1 : Nat) : Int) + 1)) = depthF dp r from by unfold depthF; rw [hc]]
 rw [c288u, guardB_t (fit100 (by rw [List.length_map]; omega)), List.length_map, hc, loop288w C scr dr td _ _ dp r (depthF dp r) _ _ (by have := t.d0; omega) (by omega) (dp.length - 1) 100 (by omega) (by omega)]
 rw [show wup dp (depthF dp r) (dp.length - 1) = upF dp r from rfl] at *
 have hs3 : stepI r < 3 := by
  unfold stepI
  have h1 := Int.fmod_nonneg_of_pos (r.fdiv 672) (b := 3) (by omega)
  have h2 := Int.fmod_lt_of_pos (r.fdiv 672) (b := 3) (by omega)
  omega
 have hst0 : 0 ≤ (r.fdiv 672).fmod 3 := Int.fmod_nonneg_of_pos (r.fdiv 672) (b := 3) (by omega)
 have hr2 := t.rng _ hu
 obtain ⟨q1, q2, q3, q4, q5⟩ := turn_in (by omega) (t.le _ hu)
 have hin := step_in (t.le _ hu) hs3
 have hd1 : gI dp (upF dp r : Nat) + 1 ≤ 3 := by omega
 obtain ⟨p1, p2, p3, p4, p5⟩ := turn_in (by omega) hin
 rw [c288l, subscr_loc (l := ld.map .str) rfl (by rw [List.length_map, t.ll]; omega) (by omega) (at_str (by rw [t.ll]; exact hu)), subscr_lst (by decide) hst0 (steps_at hs3)]
 show ∃ o', guardB (fitS (gS ld (upF dp r : Int)) && fitS (stepS (stepI r))) ((evr Pr C 51).exs fiTree.scope (lset (lcA scr dr r (depthF dp r) (upF dp r : Int) (opA o)) "lead" (.f (.str (gS ld (upF dp r : Int) ++ stepS (stepI r))))) _ _ _) = _
 rw [guardB_t (by rw [fitS_of (by omega), fitS_of (by have := step_len (stepI r); omega)]; rfl)]
 obtain ⟨rn, hrn⟩ : ∃ rn, lset (lcA scr dr r (depthF dp r) (upF dp r : Int) (opA o)) "lead" (.f (.str (gS ld (upF dp r : Int) ++ stepS (stepI r)))) = lcA scr dr r (depthF dp r) (upF dp r : Int) (some (gS ld (upF dp r : Int) ++ stepS (stepI r), rn)) := by
  rcases o with _ | ⟨_, _, _, _, _ | rn⟩
  ·exact ⟨none, rfl⟩
  ·exact ⟨none, rfl⟩
  ·exact ⟨some rn, rfl⟩
 rw [hrn, c288m, trn_t _ _ _ _ _ _ _ _ _ _ _ p3 p4 p5, app_t _ _ _ _ _ _ _ _ _ _ _ _ (by omega) t.lo t.ll, app_t _ _ _ _ _ _ _ _ _ _ _ _ (by omega) t.lo t.ll]
 unfold leadF
 cases decide ((r.fdiv 2016).fmod 2 = 1) with
 | true => exact ⟨some (r, depthF dp r, (upF dp r : Int), turnS (gS ld (upF dp r : Int) ++ stepS (stepI r)), some (spl _)), rfl⟩
 | false => exact ⟨some (r, depthF dp r, (upF dp r : Int), gS ld (upF dp r : Int) ++ stepS (stepI r), rn), rfl⟩
theorem loop288 (td : List F) (K : KS R) : ∀ (rs : List Int) (dp ov : List Int) (ld : List Str) (o : Option (Int × Int × Int × Str × Option (List F))), TI dp ov ld → dp.length + rs.length ≤ 50 →
  ∃ o', forFix (evr Pr C 55) fiTree.scope t288 b288 (rs.map fun i => .f (.int i)) (lc288 scr dr o) (h4 td (dp.map .int) (ov.map .int) (ld.map .str)) K =
   K .next (lc288 scr dr o') (h4 td ((tfold rs dp ov ld).1.map .int) ((tfold rs dp ov ld).2.1.map .int) ((tfold rs dp ov ld).2.2.map .str))
 | [], dp, ov, ld, o, t, _ => ⟨o, rfl⟩
 | r :: rs, dp, ov, ld, o, t, hl => by
  simp only [List.length_cons] at hl
  obtain ⟨o', e⟩ := turn288 C scr dr td dp ov ld t (by omega) r o (rs.map fun i => .f (.int i)) K
  rw [List.map_cons, e]
  exact loop288 td K rs _ _ _ o' (TI_step t r) (by simp; omega)
end
theorem TI_fold : ∀ (rs : List Int) (dp ov : List Int) (ld : List Str), TI dp ov ld → TI (tfold rs dp ov ld).1 (tfold rs dp ov ld).2.1 (tfold rs dp ov ld).2.2 ∧ (tfold rs dp ov ld).1.length = dp.length + rs.length
 | [], dp, ov, ld, t => ⟨t, rfl⟩
 | r :: rs, dp, ov, ld, t => by
  obtain ⟨a, b⟩ := TI_fold rs _ _ _ (TI_step t r)
  refine ⟨a, ?_⟩
  show (tfold rs _ _ _).1.length = _
  rw [b]; simp; omega
theorem TI_nil : TI [0] [0] [""] where
 lo := rfl
 ll := rfl
 pos := Nat.le_refl _
 d0 := rfl
 o0 := rfl
 dd := fun i h0 h => by simp at h; omega
 st := fun i h => by simp at h
 up := fun j h0 h => by simp at h; omega
 le := fun j h => by
  simp at h; subst h; exact .head _
 nm := fun j h0 h => by simp at h; omega
def rawDraws (scr : List Int) : List Int := sliceOf scr none (some 10) ++ sliceOf toldL (some ((sliceOf scr none (some 10)).length : Int)) none
def drawsF (scr : List Int) : List Int := (rawDraws scr).map fun x => x.fmod 8064
def inner (ov : List Int) (j : Int) : Bool := decide (j + 1 < 10) && decide (gI ov (j + 1) = j)
def wordI (dr ov : List Int) (j : Int) : Nat := match inner ov j with
 | true => (((gI dr j).fdiv 6).fmod 2).toNat
 | false => 2 + (((gI dr j).fdiv 12).fmod 7).toNat
def wordF (dr ov : List Int) (j : Int) : Str := wordS (wordI dr ov j)
def wordsF (dr ov : List Int) : List Str := (rangeUp 0 10).map (wordF dr ov)
section
variable (C : Cl R)
theorem loop288x (h : H) (K : List F → H → Option R) : ∀ (l : List Int) (acc : List F), compFix (evr Pr C 56) q288 [] "x" (lcE e288) (lcI e288) ((l.map F.int).map V.f) acc h K = K (acc ++ (l.map fun x => x.fmod 8064).map F.int) h
 | [], acc => by show K acc h = K (acc ++ []) h; rw [List.append_nil]
 | x :: r, acc => by
  show compOne (evr Pr C 56) q288 [] "x" (lcE e288) (lcI e288) (.f (.int x)) acc h (fun acc1 h1 => compFix (evr Pr C 56) q288 [] "x" (lcE e288) (lcI e288) ((r.map F.int).map V.f) acc1 h1 K) = _
  rw [c288x]
  rw [loop288x h K r]
  show K ((acc ++ [_]) ++ _) h = K (acc ++ (_ :: _)) h
  rw [List.append_assoc]; rfl
theorem words_at1 {k : Nat} (h : k < 2) : ([.str "<", .str ">"] : List F)[k]? = some (.str (wordS k)) := by
 match k, h with
 | 0, _ => rfl
 | 1, _ => rfl
theorem words_at2 {k : Nat} (h : k < 7) : ([.str "a", .str "A", .str "b", .str "B", .str "\\(", .str "\\)", .str "\\\""] : List F)[k]? = some (.str (wordS (2 + k))) := by
 match k, h with
 | 0, _ => rfl
 | 1, _ => rfl
 | 2, _ => rfl
 | 3, _ => rfl
 | 4, _ => rfl
 | 5, _ => rfl
 | 6, _ => rfl
theorem fdiv_t {a b : Int} {h : H} {k : KV R} (hb : (small b && decide (0 < b)) = true) : binop false .FloorDiv (.f (.int a)) (.f (.int b)) h k = k (.f (.int (a.fdiv b))) h := by
 show guardB (small b && decide (0 < b)) _ = _
 rw [guardB_t hb]
theorem fmod_t {a b : Int} {h : H} {k : KV R} (hb : decide (0 < b) = true) : binop false .Mod (.f (.int a)) (.f (.int b)) h k = k (.f (.int (a.fmod b))) h := by
 show guardB (decide (0 < b)) _ = _
 rw [guardB_t hb]
theorem word288 (scrF td dp ldF : List F) (dr ov : List Int) (wd : List Str) (h1 : dr.length = 10) (h2 : ov.length = 10) (h3 : wd.length ≤ 100) (j : Int) (j0 : 0 ≤ j) (j1 : j < 10) (o : Option (Int × Int × Int × Str × Option (List F))) (w : Option Int) (rest : List V) (K : KS R) :
  forFix (evr Pr C 53) fiTree.scope t288b b288b (.f (.int j) :: rest) (lc288w scrF (dr.map .int) o w) (h5' td dp (ov.map .int) ldF (wd.map .str)) K =
  forFix (evr Pr C 53) fiTree.scope t288b b288b rest (lc288w scrF (dr.map .int) o (some j)) (h5' td dp (ov.map .int) ldF ((wd ++ [wordF dr ov j]).map .str)) K := by
 have e1 : ∀ KK : Bool → H → Option R, (br (decide (j + 1 < 10)) (subscr (.loc 2) (.f (.int (j + 1))) (h5' td dp (ov.map .int) ldF (wd.map .str)) fun v h1 => eqV v (.f (.int j)) h1 fun b => br b (KK true h1) (KK false h1)) (KK false (h5' td dp (ov.map .int) ldF (wd.map .str)))) = KK (inner ov j) (h5' td dp (ov.map .int) ldF (wd.map .str)) := by
  intro KK
  unfold inner
  cases hd : decide (j + 1 < 10) with
  | false => rfl
  | true =>
   have hd := of_decide_eq_true hd
   rw [br_t, subscr_loc (l := ov.map .int) rfl (by rw [List.length_map]; omega) (by omega) (at_int (by omega))]
   show br (decide (gI ov (j + 1) = j)) _ _ = KK (true && decide (gI ov (j + 1) = j)) _
   cases decide (gI ov (j + 1) = j) <;> rfl
 rw [c288p, (c288q C scrF (dr.map .int) j o td dp (ov.map .int) ldF (wd.map .str) _).trans (e1 _)]
 unfold wordF wordI
 cases inner ov j with
 | true =>
  rw [br_t, c288r, subscr_lst (by rw [List.length_map]; omega) j0 (at_int (by omega))]
  have hx0 := Int.fmod_nonneg_of_pos ((gI dr j).fdiv 6) (b := 2) (by omega)
  have hx1 := Int.fmod_lt_of_pos ((gI dr j).fdiv 6) (b := 2) (by omega)
  rw [fdiv_t (by decide), fmod_t (by decide)]
  rw [subscr_lst (by decide) hx0 (words_at1 (by omega))]
  show guardB (fitL (wd.map F.str)) _ = _
  rw [guardB_t (fit100 (by rw [List.length_map]; omega)), List.map_append]
  rfl
 | false =>
  show (evr Pr C 51).exs _ _ _ _ _ = _
  rw [c288s, subscr_lst (by rw [List.length_map]; omega) j0 (at_int (by omega))]
  have hx0 := Int.fmod_nonneg_of_pos ((gI dr j).fdiv 12) (b := 7) (by omega)
  have hx1 := Int.fmod_lt_of_pos ((gI dr j).fdiv 12) (b := 7) (by omega)
  rw [fdiv_t (by decide), fmod_t (by decide)]
  rw [subscr_lst (by decide) hx0 (words_at2 (by omega))]
  show guardB (fitL (wd.map F.str)) _ = _
  rw [guardB_t (fit100 (by rw [List.length_map]; omega)), List.map_append]
  rfl
theorem loop288b (scrF td dp ldF : List F) (dr ov : List Int) (h1 : dr.length = 10) (h2 : ov.length = 10) (o : Option (Int × Int × Int × Str × Option (List F))) (K : KS R) : ∀ (js : List Int) (wd : List Str) (w : Option Int), (∀ j ∈ js, 0 ≤ j ∧ j < 10) → wd.length + js.length ≤ 100 →
  ∃ w', forFix (evr Pr C 53) fiTree.scope t288b b288b (js.map fun i => .f (.int i)) (lc288w scrF (dr.map .int) o w) (h5' td dp (ov.map .int) ldF (wd.map .str)) K =
   K .next (lc288w scrF (dr.map .int) o w') (h5' td dp (ov.map .int) ldF ((wd ++ js.map (wordF dr ov)).map .str))
 | [], wd, w, _, _ => ⟨w, by rw [show ([] : List Int).map (wordF dr ov) = [] from rfl, List.append_nil]; rfl⟩
 | j :: js, wd, w, hj, hl => by
  simp only [List.length_cons] at hl
  obtain ⟨j0, j1⟩ := hj j (.head _)
  rw [List.map_cons, word288 C scrF td dp ldF dr ov wd h1 h2 (by omega) j j0 j1]
  obtain ⟨w', e⟩ := loop288b scrF td dp ldF dr ov h1 h2 o K js (wd ++ [wordF dr ov j]) (some j) (fun x hx => hj x (.tail _ hx)) (by simp; omega)
  refine ⟨w', ?_⟩
  rw [e, List.map_cons, List.append_assoc]; rfl
end
theorem slice_len10 (l : List Int) : (sliceOf l none (some 10)).length = min l.length 10 := by
 unfold sliceOf
 rw [List.length_take, List.length_drop]
 show min (clipAt l.length 10 - 0) (l.length - 0) = _
 unfold clipAt
 have : ¬ ((10 : Int) < 0) := by decide
 simp [this]
 omega
theorem slice_from (l : List Int) (n : Nat) (h : n ≤ l.length) : (sliceOf l (some (n : Int)) none).length = l.length - n := by
 unfold sliceOf
 rw [List.length_take, List.length_drop]
 show min (l.length - clipAt l.length (n : Int)) (l.length - clipAt l.length (n : Int)) = _
 unfold clipAt
 have : ¬ ((n : Int) < 0) := by omega
 simp [this]
 omega
theorem draws_len (scr : List Int) : (drawsF scr).length = 10 := by
 unfold drawsF rawDraws
 rw [List.length_map, List.length_append, slice_from _ _ (by rw [slice_len10]; show min scr.length 10 ≤ 10; omega), slice_len10]
 show min scr.length 10 + (10 - min scr.length 10) = 10
 omega
def treeF (dr : List Int) : List Int × List Int × List Str := tfold (sliceOf dr (some 1) none) [0] [0] [""]
def S288 (args : List V) (kws : List (Str × V)) (h : H) (k : KV R) : Option R := match args, kws, h with
 | [.f (.lst sF)], [], [] => obind (allInt sF) fun scr => guardB (decide (scr.length ≤ 100)) (k (.f (.tup [.lst ((drawsF scr).map .int), .lst ((treeF (drawsF scr)).2.1.map .int), .lst ((treeF (drawsF scr)).2.2.map .str), .lst ((wordsF (drawsF scr) (treeF (drawsF scr)).2.1).map .str)])) [])
 | _, _, _ => none
theorem tree_TI (dr : List Int) (h : dr.length = 10) : TI (treeF dr).1 (treeF dr).2.1 (treeF dr).2.2 ∧ (treeF dr).1.length = 10 := by
 obtain ⟨a, b⟩ := TI_fold (sliceOf dr (some 1) none) _ _ _ TI_nil
 refine ⟨a, ?_⟩
 show (tfold _ _ _ _).1.length = 10
 rw [b, show (some (1 : Int)) = some ((1 : Nat) : Int) from rfl, slice_from _ _ (by omega), h]; rfl
theorem s288 (C : Cl R) : ∀ args kws h k r, S288 (R := R) args kws h k = some r → callFn Pr C 288 args kws h k = some r := by
 intro args kws h k r e
 unfold S288 at e
 split at e
 ·rename_i sF
  obtain ⟨scr, hs, e0⟩ := obind_some' e
  clear e
  have hs := allInt_some hs
  subst hs
  obtain ⟨g, e2⟩ := guardB_some' e0
  have g := of_decide_eq_true g
  have hd := draws_len scr
  obtain ⟨t1, t2⟩ := tree_TI (drawsF scr) hd
  have e1 : scr10 (scr.map F.int) = (sliceOf scr none (some 10)).map F.int := by unfold scr10; rw [slice_map]
  have e3 : scr10 (scr.map F.int) ++ told10 (scr.map F.int) = (rawDraws scr).map F.int := by
   unfold told10 rawDraws
   rw [slice_map, e1, List.length_map, List.map_append]
  have l1 : (scr10 (scr.map F.int)).length ≤ 10 := by rw [e1, List.length_map, slice_len10]; omega
  have l3 : (rawDraws scr).length = 10 := by
   unfold drawsF at hd; rw [List.length_map] at hd; exact hd
  have l2 : (scr10 (scr.map F.int)).length + (told10 (scr.map F.int)).length = 10 := by rw [← List.length_append, e3, List.length_map, l3]
  have hn : (scr.map F.int).length ≤ 100000 := by rw [List.length_map]; omega
  rw [c288, guardB_t (fit100 hn), guardB_t (fit100 hn), guardB_t (fit100 (by omega)), guardB_t (by rw [fit100 (by omega), fit100 (by omega)]; rfl), e3, guardB_t (fit100 (by rw [List.length_map]; omega)), guardB_t (fit100 (by rw [List.length_map, List.length_map]; omega)),
   loop288x C, List.nil_append]
  show (evr Pr C 58).exs fiTree.scope [("script", .f (.lst (scr.map .int))), ("told", .loc 0), ("draws", .f (.lst ((drawsF scr).map .int)))] [.list tdF] (dropS fiTree.body 2) (retS [] k) = _
  rw [c288f, guardB_t (fit100 (by rw [List.length_map]; omega)), slice_map, show ∀ l : List Int, (l.map F.int).map V.f = l.map (fun i => V.f (.int i)) from fun l => by rw [List.map_map]; rfl]
  have hsl : (sliceOf (drawsF scr) (some 1) none).length = 9 := by
   rw [show (some (1 : Int)) = some ((1 : Nat) : Int) from rfl, slice_from _ _ (by omega), hd]
  obtain ⟨o', e4⟩ := loop288 C (scr.map .int) ((drawsF scr).map .int) tdF (restK (evr Pr C 56) fiTree.scope (dropS fiTree.body 4) (retS [] k)) (sliceOf (drawsF scr) (some 1) none) [0] [0] [""] none TI_nil (by rw [hsl]; decide)
  rw [show h4 tdF [F.int 0] [F.int 0] [F.str ""] = h4 tdF (([0] : List Int).map .int) (([0] : List Int).map .int) (([""] : List Str).map .str) from rfl, e4]
  show restK (evr Pr C 56) fiTree.scope (dropS fiTree.body 4) (retS [] k) .next (lc288 _ _ o') (h4 tdF ((treeF (drawsF scr)).1.map .int) ((treeF (drawsF scr)).2.1.map .int) ((treeF (drawsF scr)).2.2.map .str)) = _
  rw [c288n, c288n2, c288n3]
  show forFix (evr Pr C 53) fiTree.scope t288b b288b _ _ _ _ = _
  have ho : (treeF (drawsF scr)).2.1.length = 10 := by rw [t1.lo, t2]
  obtain ⟨w', e5⟩ := loop288b C (scr.map .int) tdF ((treeF (drawsF scr)).1.map .int) ((treeF (drawsF scr)).2.2.map .str) (drawsF scr) (treeF (drawsF scr)).2.1 hd ho o' (restK (evr Pr C 54) fiTree.scope (dropS fiTree.body 6) (retS [] k)) (rangeUp 0 10) [] none (fun j hj => mem_up hj) (by rw [len_up]; decide)
  rw [show (([] : List F)) = ([] : List Str).map F.str from rfl, e5, c288z]
  exact e2
 ·cases e
abbrev fsc : Scope := fiSearch.scope
abbrev bd305 : List Stmt := fiSearch.body
abbrev tw305 : PySem.Expr := wT (nthS bd305 6)
abbrev bw305 : List Stmt := wB (nthS bd305 6)
abbrev i305 : Stmt := nthS bw305 0
abbrev leaf305 : List Stmt := ifAe (nthS bd305 3)
def asT : Stmt → PySem.Expr
 | .Assign (t :: _) _ _ => t
 | _ => .Tuple [] 0 default
def exM (wd : Str) (X : Int → Option R) : Option R := match Pr.exact wd with
 | some (some i) => X i
 | some none => X 256
 | none => none
def lcP (rows : List F) (k lo hi : Int) : Lc := [("rows", .f (.lst rows)), ("k", .f (.int k)), ("low", .f (.int lo)), ("high", .f (.int hi)), ("scores", .hdr 0), ("book", .hdr 3), ("record", .loc 4)]
def wsR (m : Nm) (raw : Str) (sm : Bool) : F := .ws raw m.n m.nt m.cnt m.b sm
structure LS where
 rows : List F
 m : Nm
 raw : Str
 sm : Bool
 wd : Str
 num : Int
def lcB (s : LS) (k lo hi : Int) : Lc := lcP s.rows k lo hi ++ ([("lead", .f (wsR s.m s.raw s.sm)), ("word", .f (.str s.wd))] : Lc)
def lcN (s : LS) (k lo hi : Int) : Lc := lcB s k lo hi ++ ([("number", .f (.int s.num))] : Lc)
def lcH (s : LS) (k lo hi : Int) (hid : Str) (wo : Option Int) : Lc := lcN s k lo hi ++ ([("hidden", .f (.str hid))] : Lc) ++ (match wo with
 | none => []
 | some i => [("worth", .f (.int i))])
section
variable (C : Cl R) (x0 x1 x2 bk rc : List F)
theorem c305 (rows : List F) (k lo hi : Int) (kk : KV R) : callFn Pr C 305 [.f (.lst rows), .f (.int k), .f (.int lo), .f (.int hi), .hdr 0, .hdr 3, .loc 4] [] (h5 x0 x1 x2 bk rc) kk =
  subscr (.f (.lst rows)) (.f (.int k)) (h5 x0 x1 x2 bk rc) fun v h1 => obind (asgTarget fsc (asT (nthS bd305 0)) v (lcP rows k lo hi) h1) fun lc1 => (evr Pr C 59).exs fsc lc1 h1 (dropS bd305 1) (retS (h5 x0 x1 x2 bk rc) kk) := by kernel_rfl
theorem c305a (s : LS) (k lo hi : Int) (h : H) (K : Lc → Option R) : obind (asgTarget fsc (asT (nthS bd305 0)) (.f (.tup [wsR s.m s.raw s.sm, .str s.wd])) (lcP s.rows k lo hi) h) K = K (lcB s k lo hi) := by kernel_rfl
theorem c305b (s : LS) (k lo hi : Int) (h : H) (K : KS R) : (evr Pr C 59).exs fsc (lcB s k lo hi) h (dropS bd305 1) K =
  exM s.wd fun i => (evr Pr C 58).exs fsc (lcN { s with num := i } k lo hi) h (dropS bd305 2) K := by kernel_rfl
theorem c305c (s : LS) (k lo hi : Int) (h : H) (K : KS R) : (evr Pr C 58).exs fsc (lcN s k lo hi) h (dropS bd305 2) K =
  C 135 [.f (.int s.num)] [] h fun v h1 => obind (truthyV v) fun b => br b ((evr Pr C 55).exs fsc (lcN s (k + 1) lo hi) h1 leaf305 (restK (evr Pr C 56) fsc (dropS bd305 4) K)) ((evr Pr C 56).exs fsc (lcN s (k + 1) lo hi) h1 (dropS bd305 4) K) := by kernel_rfl
theorem c305d (s : LS) (k lo hi : Int) (h : H) (K : KS R) : (evr Pr C 55).exs fsc (lcN s k lo hi) h leaf305 K =
  obind (digitText lo) fun a => obind (digitText hi) fun b => C 276 [.hdr 3, .f (.str s.wd), .f .none] [("low", .f (.str a)), ("high", .f (.str b))] h fun _ h1 => guardB (okMeth Pr "append" h1 (.loc 4)) (methV Pr C (.loc 4) "append" [.f (.str s.wd)] [] h1 fun _ h2 =>
   C 226 [.hdr 0, .f (.str s.wd)] [] h2 fun v h3 => asStr v fun t => obind (digitVal t) fun i => K (.ret (.f (.tup [.int i, .int k]))) (lcN s k lo hi) h3) := by kernel_rfl
theorem c305e (s : LS) (k lo hi : Int) (K : KS R) : (evr Pr C 56).exs fsc (lcN s k lo hi) (h5 x0 x1 x2 bk rc) (dropS bd305 4) K =
  guardB (fitS s.wd && true) (guardB (fitL rc) (whileL (evr Pr C 52) fsc tw305 bw305 100 (lcH s k lo hi "" none) (h5 x0 x1 x2 bk (rc ++ [.str (s.wd ++ ("(" : Str))])) (restK (evr Pr C 53) fsc (dropS bd305 7) K))) := by kernel_rfl
theorem c305f (m : Nat) (s : LS) (k lo hi : Int) (hid : Str) (wo : Option Int) (h : H) (K : KS R) : whileL (evr Pr C 52) fsc tw305 bw305 (m + 1) (lcH s k lo hi hid wo) h K =
  guardB (fitL s.rows) (br (decide (k < s.rows.length)) (subscr (.f (.lst s.rows)) (.f (.int k)) h fun v h1 => subscr v (.f (.int 0)) h1 fun u h2 => C 90 [.f (wsR s.m s.raw s.sm), u] [] h2 fun v2 h3 => obind (truthyV v2) fun b =>
   br b ((evr Pr C 52).exs fsc (lcH s k lo hi hid wo) h3 bw305 (turnW K fun lc2 h2 => whileL (evr Pr C 52) fsc tw305 bw305 m lc2 h2 K)) (K .next (lcH s k lo hi hid wo) h3)) (K .next (lcH s k lo hi hid wo) h)) := by cases wo <;> kernel_rfl
theorem c305g (s : LS) (k lo hi : Int) (hid : Str) (wo : Option Int) (h : H) (K : KS R) : (evr Pr C 52).exs fsc (lcH s k lo hi hid wo) h bw305 K =
  br (decide (lo < hi)) ((evr Pr C 50).exs fsc (lcH s k lo hi hid wo) h (ifAe i305) (restK (evr Pr C 51) fsc [] K)) ((evr Pr C 50).exs fsc (lcH s k lo hi hid wo) h (ifBe i305) (restK (evr Pr C 51) fsc [] K)) := by cases wo <;> kernel_rfl
theorem c305h (s : LS) (k lo hi : Int) (hid : Str) (wo : Option Int) (h : H) (K : KS R) : (evr Pr C 50).exs fsc (lcH s k lo hi hid wo) h (ifAe i305) K =
  C 305 [.f (.lst s.rows), .f (.int k), .f (.int lo), .f (.int hi), .hdr 0, .hdr 3, .loc 4] [] h fun v h1 => obind (asgTarget fsc (asT (nthS (ifAe i305) 0)) v (lcH s k lo hi hid wo) h1) fun lc1 => (evr Pr C 49).exs fsc lc1 h1 (dropS (ifAe i305) 1) K := by cases wo <;> kernel_rfl
theorem c305i (s : LS) (k lo hi : Int) (hid : Str) (wo : Option Int) (h : H) (a b : Int) (K : Lc → Option R) : obind (asgTarget fsc (asT (nthS (ifAe i305) 0)) (.f (.tup [.int a, .int b])) (lcH s k lo hi hid wo) h) K = K (lcH s b lo hi hid (some a)) := by cases wo <;> kernel_rfl
theorem c305j (s : LS) (k lo hi : Int) (hid : Str) (a : Int) (h : H) (K : KS R) : (evr Pr C 49).exs fsc (lcH s k lo hi hid (some a)) h (dropS (ifAe i305) 1) (restK (evr Pr C 51) fsc [] K) =
  br (decide (s.num = 20)) (K .next (lcH s k lo (if a < hi then a else hi) hid (some a)) h) (K .next (lcH s k (if lo < a then a else lo) hi hid (some a)) h) := by kernel_rfl
theorem c305k (s : LS) (k lo hi : Int) (hid : Str) (wo : Option Int) (h : H) (K : KS R) : (evr Pr C 50).exs fsc (lcH s k lo hi hid wo) h (ifBe i305) (restK (evr Pr C 51) fsc [] K) =
  subscr (.f (.lst s.rows)) (.f (.int k)) h fun v h1 => subscr v (.f (.int 1)) h1 fun u h2 => asStr u fun t => guardB (fitS hid && fitS t) (K .next (lcH s (k + 1) lo hi (hid ++ t) wo) h2) := by cases wo <;> kernel_rfl
def fin305 (x0 x1 x2 bk : List F) (s : LS) (k lo hi : Int) (kk : KV R) (rc : List F) : Option R := guardB (fitL rc) (br (decide (s.num = 20)) (kk (.f (.tup [.int hi, .int k])) (h5 x0 x1 x2 bk (rc ++ [.str ")"]))) (kk (.f (.tup [.int lo, .int k])) (h5 x0 x1 x2 bk (rc ++ [.str ")"]))))
theorem c305l (s : LS) (k lo hi : Int) (hid : Str) (wo : Option Int) (y0 y1 y2 y3 y4 : List F) (kk : KV R) : restK (evr Pr C 53) fsc (dropS bd305 7) (retS (h5 y0 y1 y2 y3 y4) kk) .next (lcH s k lo hi hid wo) (h5 x0 x1 x2 bk rc) =
  br (!(steq hid "")) (guardB (fitS hid) (guardB (fitS (("\"(" : Str) ++ hid) && true) (guardB (fitL rc) (fin305 x0 x1 x2 bk s k lo hi kk (rc ++ [.str ((("\"(" : Str) ++ hid) ++ ("\"" : Str))]))))) (fin305 x0 x1 x2 bk s k lo hi kk rc) := by cases wo <;> kernel_rfl
end
structure Row where
 m : Nm
 raw : Str
 sm : Bool
 wd : Str
def rowF (r : Row) : F := .tup [wsR r.m r.raw r.sm, .str r.wd]
def allRow : List F → Option (List Row)
 | [] => some []
 | .tup [.ws raw n nt cnt b sm, .str wd] :: r => match allRow r with
  | some l => some (⟨⟨n, nt, cnt, b⟩, raw, sm, wd⟩ :: l)
  | none => none
 | _ :: _ => none
theorem allRow_map : ∀ l : List Row, allRow (l.map rowF) = some l
 | [] => rfl
 | x :: r => by
  show (match allRow (r.map rowF) with | some l => some ((⟨⟨x.m.n, x.m.nt, x.m.cnt, x.m.b⟩, x.raw, x.sm, x.wd⟩ : Row) :: l) | none => none) = _
  rw [allRow_map r]
theorem allRow_some : ∀ {l : List F} {ps : List Row}, allRow l = some ps → l = ps.map rowF
 | [], ps, e => by unfold allRow at e; cases e; rfl
 | x :: r, ps, e => by
  unfold allRow at e
  split at e
  ·cases ‹_ = []›
  ·rename_i a r' q
   split at e
   ·rename_i l' hl
    cases e
    injection q with q1 q2
    subst q1 q2
    rw [allRow_some hl]; rfl
   ·cases e
  ·cases e
def exS (wd : Str) : Option Int := match Pr.exact wd with
 | some (some i) => some i
 | some none => some 256
 | none => none
theorem exM_S (wd : Str) (X : Int → Option R) : exM wd X = obind (exS wd) X := by
 unfold exM exS
 generalize Pr.exact wd = q
 rcases q with _ | _ | _ <;> rfl
def lessR (a b : Row) : Bool := lessW a.m.n a.m.nt a.m.cnt a.m.b a.sm b.m.n b.m.nt b.m.cnt b.m.b b.sm
def okNm (m : Nm) : Bool := decide (m.cnt.length ≤ 100) && decide (0 ≤ m.b) && decide (m.b ≤ 900)
def leafG (wd a b : Str) : Bool := (fitS a && calm a) && G158 "low" a && (fitS b && calm b) && G158 "high" b && (fitS wd && calm wd) && decide (sumLen "; " [fmt1 "low" a, fmt1 "high" b] ≤ 100000)
def hdrV (a b : Str) : Str := Txt.join "; " [fmt1 "low" a, fmt1 "high" b]
def getG (wd : Str) (sc : List (Str × Str)) : Bool := fitS wd && fitS (Txt.lower wd) && calm (Txt.lower wd) && decide (sc.length ≤ 50) && sc.all (fun p => fitS p.1)
structure Q where
 w : Int
 k : Int
 bk : List (Str × Str)
 rc : List Str
structure QL where
 k : Int
 lo : Int
 hi : Int
 hid : Str
 bk : List (Str × Str)
 rc : List Str
def gR (rs : List Row) (k : Int) : Option Row := match decide (0 ≤ k) with
 | true => rs[k.toNat]?
 | false => none
def fin (num : Int) (q : QL) : Option Q := match steq q.hid "" with
 | true => guardB (decide (q.rc.length ≤ 1000)) (some ⟨if num = 20 then q.hi else q.lo, q.k, q.bk, q.rc ++ [(")" : Str)]⟩)
 | false => guardB (decide (q.hid.length ≤ 1000) && decide (q.rc.length ≤ 1000)) (some ⟨if num = 20 then q.hi else q.lo, q.k, q.bk, q.rc ++ [(("\"(" : Str) ++ q.hid) ++ ("\"" : Str)] ++ [(")" : Str)]⟩)
def sloop (rec : Int → Int → Int → List (Str × Str) → List Str → Option Q) (rs : List Row) (row : Row) (num : Int) : Nat → QL → Option QL
 | 0, _ => none
 | m + 1, q => match decide (q.k < (rs.length : Int)) with
  | false => some q
  | true => obind (gR rs q.k) fun r2 => guardB (okNm row.m && okNm r2.m) (match lessR row r2 with
   | false => some q
   | true => match decide (q.lo < q.hi) with
    | true => obind (rec q.k q.lo q.hi q.bk q.rc) fun a => sloop rec rs row num m (match decide (num = 20) with
     | true => ⟨a.k, q.lo, if a.w < q.hi then a.w else q.hi, q.hid, a.bk, a.rc⟩
     | false => ⟨a.k, if q.lo < a.w then a.w else q.lo, q.hi, q.hid, a.bk, a.rc⟩)
    | false => guardB (fitS q.hid && fitS r2.wd) (sloop rec rs row num m ⟨q.k + 1, q.lo, q.hi, q.hid ++ r2.wd, q.bk, q.rc⟩))
def srch (sc : List (Str × Str)) (rs : List Row) : Nat → Int → Int → Int → List (Str × Str) → List Str → Option Q
 | 0, _, _, _, _, _ => none
 | n + 1, k, lo, hi, bk, rc => obind (gR rs k) fun row => obind (exS row.wd) fun num => match decide (256 ≤ num) with
  | true => obind (digitText lo) fun a => obind (digitText hi) fun b => guardB (leafG row.wd a b && decide (bk.length ≤ 1000) && decide (rc.length ≤ 1000) && getG row.wd sc)
    (obind (hfind (Txt.lower row.wd) sc) fun t => obind (digitVal t) fun i => some ⟨i, k + 1, bk ++ [(row.wd, hdrV a b)], rc ++ [row.wd]⟩)
  | false => guardB (decide (row.wd.length ≤ 1000) && decide (rc.length ≤ 1000)) (obind (sloop (srch sc rs n) rs row num 100 ⟨k + 1, lo, hi, "", bk, rc ++ [row.wd ++ ("(" : Str)]⟩) (fin num))
def S305 (n : Nat) (args : List V) (kws : List (Str × V)) (h : H) (kk : KV R) : Option R := match args, kws, h with
 | [.f (.lst rowsF), .f (.int k), .f (.int lo), .f (.int hi), .hdr 0, .hdr 3, .loc 4], [], [.list x0, .list x1, .list x2, .list bkF, .list rcF] =>
  obind (allRow rowsF) fun rs => obind (unpair x0) fun sc => obind (unpair bkF) fun bk => obind (allStr rcF) fun rc => guardB (decide (rs.length ≤ 50)) (obind (srch sc rs n k lo hi bk rc) fun q => kk (.f (.tup [.int q.w, .int q.k])) (h5 x0 x1 x2 (q.bk.map pairF) (q.rc.map .str)))
 | _, _, _ => none
structure Kn (C : Cl R) (n : Nat) : Prop where
 e135 : ∀ a s h k, C 135 a s h k = S135 a s h k
 e276 : ∀ a s h k, C 276 a s h k = S276 a s h k
 e226 : ∀ a s h k, C 226 a s h k = S226 a s h k
 e90 : ∀ a s h k, C 90 a s h k = S90 a s h k
 e305 : ∀ a s h k, C 305 a s h k = S305 n a s h k
theorem S305_t (n : Nat) (sc : List (Str × Str)) (rs : List Row) (hr : rs.length ≤ 50) (k lo hi : Int) (x1 x2 : List F) (bk : List (Str × Str)) (rc : List Str) (kk : KV R) :
  S305 n [.f (.lst (rs.map rowF)), .f (.int k), .f (.int lo), .f (.int hi), .hdr 0, .hdr 3, .loc 4] [] (h5 (sc.map pairF) x1 x2 (bk.map pairF) (rc.map .str)) kk =
   obind (srch sc rs n k lo hi bk rc) fun q => kk (.f (.tup [.int q.w, .int q.k])) (h5 (sc.map pairF) x1 x2 (q.bk.map pairF) (q.rc.map .str)) := by
 show obind (allRow (rs.map rowF)) _ = _
 rw [allRow_map]
 show obind (unpair (sc.map pairF)) _ = _
 rw [unpair_map]
 show obind (unpair (bk.map pairF)) _ = _
 rw [unpair_map]
 show obind (allStr (rc.map .str)) _ = _
 rw [allStr_map]
 show guardB _ _ = _
 rw [guardB_t (decide_eq_true hr)]
theorem gR_some {rs : List Row} {k : Int} {r : Row} (e : gR rs k = some r) : 0 ≤ k ∧ rs[k.toNat]? = some r := by
 unfold gR at e
 split at e
 ·rename_i h; exact ⟨of_decide_eq_true h, e⟩
 ·cases e
theorem gR_map {rs : List Row} {k : Int} {r : Row} (e : gR rs k = some r) : (rs.map rowF)[k.toNat]? = some (rowF r) := by
 rw [List.getElem?_map, (gR_some e).2]; rfl
theorem obind_s {α β : Type} (a : α) (f : α → Option β) : obind (some a) f = f a := rfl
theorem S90_t (a b : Row) (x0 x1 x2 x3 x4 : List F) (k : KV R) (g : (okNm a.m && okNm b.m) = true) : S90 [.f (wsR a.m a.raw a.sm), .f (wsR b.m b.raw b.sm)] [] (h5 x0 x1 x2 x3 x4) k = k (.f (.bool (lessR a b))) (h5 x0 x1 x2 x3 x4) := by
 unfold okNm at g
 simp only [Bool.and_eq_true, decide_eq_true_eq] at g
 obtain ⟨⟨⟨g1, g2⟩, g3⟩, ⟨g4, g5⟩, g6⟩ := g
 show guardB (true && decide (a.m.cnt.length ≤ 100) && decide (b.m.cnt.length ≤ 100) && decide (0 ≤ a.m.b) && decide (a.m.b ≤ 900) && decide (0 ≤ b.m.b) && decide (b.m.b ≤ 900)) _ = _
 rw [guardB_t (by simp [g1, g2, g3, g4, g5, g6])]
 rfl
theorem S276_t (wd a b : Str) (x0 x1 x2 : List F) (bk : List (Str × Str)) (rc : List F) (k : KV R) (g : leafG wd a b = true) (hb : bk.length ≤ 1000) :
  S276 [.hdr 3, .f (.str wd), .f .none] [("low", .f (.str a)), ("high", .f (.str b))] (h5 x0 x1 x2 (bk.map pairF) rc) k = k (.f .none) (h5 x0 x1 x2 ((bk ++ [(wd, hdrV a b)]).map pairF) rc) := by
 unfold leafG at g
 simp only [Bool.and_eq_true] at g
 obtain ⟨⟨⟨⟨⟨g1, g2⟩, g3⟩, g4⟩, g5⟩, g6⟩ := g
 show guardB true (S276b wd a b x0 x1 x2 (bk.map pairF) rc k) = _
 rw [guardB_t rfl]
 unfold S276b
 rw [guardB_t (by rw [g1.1, g1.2]; rfl), guardB_t g2, guardB_t (by rw [g3.1, g3.2]; rfl), guardB_t g4, guardB_t (by rw [g5.1, g5.2]; rfl), guardB_t g6, guardB_t (fit100 (by rw [List.length_map]; omega)), List.map_append]
 rfl
theorem S226_t (wd : Str) (sc : List (Str × Str)) (x1 x2 x3 x4 : List F) (k : KV R) (g : getG wd sc = true) :
  S226 [.hdr 0, .f (.str wd)] [] (h5 (sc.map pairF) x1 x2 x3 x4) k = k (.f (optF (hfind (Txt.lower wd) sc))) (h5 (sc.map pairF) x1 x2 x3 x4) := by
 show obind (unpair (sc.map pairF)) _ = _
 rw [unpair_map]
 show guardB (true && fitS wd && fitS (Txt.lower wd) && calm (Txt.lower wd) && decide (sc.length ≤ 50) && sc.all fun p => fitS p.1) _ = _
 unfold getG at g
 rw [guardB_t (by simpa using g)]
section
variable (C : Cl R) (n : Nat) (K : Kn C n) (sc : List (Str × Str)) (rs : List Row) (hr : rs.length ≤ 50) (x1 x2 : List F)
include K hr
theorem loop305 (row : Row) (num : Int) (y0 y1 y2 y3 y4 : List F) (hw : row.wd = row.wd) (kk : KV R) (r : R) : ∀ (m : Nat) (q : QL) (wo : Option Int),
  (obind (sloop (srch sc rs n) rs row num m q) fun q' => obind (fin num q') fun a => kk (.f (.tup [.int a.w, .int a.k])) (h5 (sc.map pairF) x1 x2 (a.bk.map pairF) (a.rc.map .str))) = some r →
  whileL (evr Pr C 52) fsc tw305 bw305 m (lcH ⟨rs.map rowF, row.m, row.raw, row.sm, row.wd, num⟩ q.k q.lo q.hi q.hid wo) (h5 (sc.map pairF) x1 x2 (q.bk.map pairF) (q.rc.map .str)) (restK (evr Pr C 53) fsc (dropS bd305 7) (retS (h5 y0 y1 y2 y3 y4) kk)) = some r
 | 0, q, wo, e => by cases e
 | m + 1, q, wo, e => by
  have hend : (obind (fin num q) fun a => kk (.f (.tup [.int a.w, .int a.k])) (h5 (sc.map pairF) x1 x2 (a.bk.map pairF) (a.rc.map .str))) = some r →
    restK (evr Pr C 53) fsc (dropS bd305 7) (retS (h5 y0 y1 y2 y3 y4) kk) .next (lcH ⟨rs.map rowF, row.m, row.raw, row.sm, row.wd, num⟩ q.k q.lo q.hi q.hid wo) (h5 (sc.map pairF) x1 x2 (q.bk.map pairF) (q.rc.map .str)) = some r := by
   intro e
   rw [c305l]
   unfold fin at e
   cases hh : steq q.hid "" with
   | true =>
    rw [hh] at e
    obtain ⟨a, e1, e2⟩ := obind_some' e
    obtain ⟨g, e1⟩ := guardB_some' e1
    have g := of_decide_eq_true g
    cases e1
    show fin305 _ _ _ _ _ _ _ _ _ _ = _
    unfold fin305
    rw [guardB_t (fit100 (by rw [List.length_map]; omega))]
    rw [List.map_append] at e2
    dsimp only at e2 ⊢
    by_cases hn : num = 20
    ·rw [if_pos hn] at e2; rw [decide_eq_true hn]; exact e2
    ·rw [if_neg hn] at e2; rw [decide_eq_false hn]; exact e2
   | false =>
    rw [hh] at e
    obtain ⟨a, e1, e2⟩ := obind_some' e
    obtain ⟨g, e1⟩ := guardB_some' e1
    simp only [Bool.and_eq_true, decide_eq_true_eq] at g
    cases e1
    show guardB (fitS q.hid) (guardB (fitS (("\"(" : Str) ++ q.hid) && true) _) = _
    have l1 : ("\"(" : Str).length = 2 := by decide
    rw [guardB_t (fitS_of (by omega)), guardB_t (by rw [fitS_of (by rw [len_app, l1]; omega)]; rfl), guardB_t (fit100 (by rw [List.length_map]; omega))]
    unfold fin305
    rw [guardB_t (fit100 (by rw [List.length_append, List.length_map]; simp; omega))]
    rw [List.map_append, List.map_append] at e2
    dsimp only at e2 ⊢
    by_cases hn : num = 20
    ·rw [if_pos hn] at e2; rw [decide_eq_true hn]; exact e2
    ·rw [if_neg hn] at e2; rw [decide_eq_false hn]; exact e2
  rw [c305f, guardB_t (fit100 (by rw [List.length_map]; omega))]
  rw [show sloop (srch sc rs n) rs row num (m + 1) q = (match decide (q.k < (rs.length : Int)) with
  | false => some q
  | true => obind (gR rs q.k) fun r2 => guardB (okNm row.m && okNm r2.m) (match lessR row r2 with
   | false => some q
   | true => match decide (q.lo < q.hi) with
    | true => obind (srch sc rs n q.k q.lo q.hi q.bk q.rc) fun a => sloop (srch sc rs n) rs row num m (match decide (num = 20) with
     | true => ⟨a.k, q.lo, if a.w < q.hi then a.w else q.hi, q.hid, a.bk, a.rc⟩
     | false => ⟨a.k, if q.lo < a.w then a.w else q.lo, q.hi, q.hid, a.bk, a.rc⟩)
    | false => guardB (fitS q.hid && fitS r2.wd) (sloop (srch sc rs n) rs row num m ⟨q.k + 1, q.lo, q.hi, q.hid ++ r2.wd, q.bk, q.rc⟩))) from rfl] at e
  show br (decide (q.k < ((rs.map rowF).length : Int))) _ _ = _
  rw [List.length_map]
  cases hk : decide (q.k < (rs.length : Int)) with
  | false =>
   rw [hk] at e
   exact hend e
  | true =>
   rw [hk] at e
   rw [br_t]
   obtain ⟨q', e1, e2⟩ := obind_some' e
   clear e
   obtain ⟨r2, e3, e4⟩ := obind_some' e1
   clear e1
   obtain ⟨g, e5⟩ := guardB_some' e4
   clear e4
   have hx := gR_map e3
   have hk0 := (gR_some e3).1
   have hf : (rs.map rowF).length ≤ 100000 := by rw [List.length_map]; omega
   rw [subscr_lst hf hk0 hx]
   show subscr (.f (.tup [wsR r2.m r2.raw r2.sm, .str r2.wd])) (.f (.int 0)) _ _ = _
   rw [subscr_tup (x := wsR r2.m r2.raw r2.sm) (by simp) (by decide) rfl, K.e90, S90_t row r2 _ _ _ _ _ _ g]
   show br (lessR row r2) _ _ = _
   cases hl : lessR row r2 with
   | false =>
    rw [hl] at e5
    cases e5
    exact hend e2
   | true =>
    rw [hl] at e5
    rw [br_t, c305g]
    show br (decide (q.lo < q.hi)) _ _ = _
    cases hlh : decide (q.lo < q.hi) with
    | true =>
     rw [hlh] at e5
     obtain ⟨a, e6, e7⟩ := obind_some' e5
     rw [br_t, c305h, K.e305, S305_t n sc rs hr, e6, obind_s, c305i, c305j]
     dsimp only at e7 ⊢
     cases hn : decide (num = 20) with
     | true =>
      rw [hn] at e7
      exact loop305 row num y0 y1 y2 y3 y4 hw kk r m ⟨a.k, q.lo, if a.w < q.hi then a.w else q.hi, q.hid, a.bk, a.rc⟩ (some a.w) (by rw [e7]; exact e2)
     | false =>
      rw [hn] at e7
      exact loop305 row num y0 y1 y2 y3 y4 hw kk r m ⟨a.k, if q.lo < a.w then a.w else q.lo, q.hi, q.hid, a.bk, a.rc⟩ (some a.w) (by rw [e7]; exact e2)
    | false =>
     rw [hlh] at e5
     obtain ⟨g2, e7⟩ := guardB_some' e5
     show (evr Pr C 50).exs _ _ _ _ _ = _
     rw [c305k, subscr_lst hf hk0 hx]
     show subscr (.f (.tup [wsR r2.m r2.raw r2.sm, .str r2.wd])) (.f (.int 1)) _ _ = _
     rw [subscr_tup (x := .str r2.wd) (by simp) (by decide) rfl]
     show guardB (fitS q.hid && fitS r2.wd) _ = _
     rw [guardB_t g2]
     exact loop305 row num y0 y1 y2 y3 y4 hw kk r m ⟨q.k + 1, q.lo, q.hi, q.hid ++ r2.wd, q.bk, q.rc⟩ wo (by rw [e7]; exact e2)
theorem run305 (k lo hi : Int) (bk : List (Str × Str)) (rc : List Str) (kk : KV R) (r : R)
  (e : (obind (srch sc rs (n + 1) k lo hi bk rc) fun q => kk (.f (.tup [.int q.w, .int q.k])) (h5 (sc.map pairF) x1 x2 (q.bk.map pairF) (q.rc.map .str))) = some r) :
  callFn Pr C 305 [.f (.lst (rs.map rowF)), .f (.int k), .f (.int lo), .f (.int hi), .hdr 0, .hdr 3, .loc 4] [] (h5 (sc.map pairF) x1 x2 (bk.map pairF) (rc.map .str)) kk = some r := by
 have hf : (rs.map rowF).length ≤ 100000 := by rw [List.length_map]; omega
 obtain ⟨q, e1, e2⟩ := obind_some' e
 clear e
 obtain ⟨row, e3, e4⟩ := obind_some' e1
 clear e1
 obtain ⟨num, e5, e6⟩ := obind_some' e4
 clear e4
 rw [c305, subscr_lst hf (gR_some e3).1 (gR_map e3)]
 show obind (asgTarget fsc (asT (nthS bd305 0)) (.f (.tup [wsR row.m row.raw row.sm, .str row.wd])) (lcP (LS.mk (rs.map rowF) row.m row.raw row.sm row.wd 0).rows k lo hi) _) _ = _
 rw [show (V.f (.tup [wsR row.m row.raw row.sm, .str row.wd])) = .f (.tup [wsR (LS.mk (rs.map rowF) row.m row.raw row.sm row.wd 0).m (LS.mk (rs.map rowF) row.m row.raw row.sm row.wd 0).raw (LS.mk (rs.map rowF) row.m row.raw row.sm row.wd 0).sm, .str (LS.mk (rs.map rowF) row.m row.raw row.sm row.wd 0).wd]) from rfl, c305a, c305b, exM_S]
 show obind (exS row.wd) _ = _
 rw [e5]
 show (evr Pr C 58).exs fsc (lcN (LS.mk (rs.map rowF) row.m row.raw row.sm row.wd num) k lo hi) _ _ _ = _
 rw [c305c, K.e135]
 show br (decide (256 ≤ num)) _ _ = _
 cases hn : decide (256 ≤ num) with
 | true =>
  rw [hn] at e6
  obtain ⟨a, e7, e8⟩ := obind_some' e6
  obtain ⟨b, e9, e10⟩ := obind_some' e8
  obtain ⟨g, e11⟩ := guardB_some' e10
  obtain ⟨t, e12, e13⟩ := obind_some' e11
  obtain ⟨i, e14, e15⟩ := obind_some' e13
  simp only [Bool.and_eq_true, decide_eq_true_eq] at g
  obtain ⟨⟨⟨g1, g2⟩, g3⟩, g4⟩ := g
  cases e15
  rw [br_t, c305d, e7]
  show obind (digitText hi) _ = _
  rw [e9]
  show C 276 [.hdr 3, .f (.str row.wd), .f .none] _ _ _ = _
  rw [K.e276, S276_t _ _ _ _ _ _ _ _ _ g1 g2]
  show guardB (fitL (rc.map F.str)) (C 226 [.hdr 0, .f (.str row.wd)] [] (h5 (sc.map pairF) x1 x2 _ _) _) = _
  rw [guardB_t (fit100 (by rw [List.length_map]; omega)), K.e226, S226_t _ _ _ _ _ _ _ g4, e12]
  show obind (digitVal t) _ = _
  rw [e14]
  rw [List.map_append (l₁ := rc)] at e2
  exact e2
 | false =>
  rw [hn] at e6
  obtain ⟨g, e7⟩ := guardB_some' e6
  simp only [Bool.and_eq_true, decide_eq_true_eq] at g
  show (evr Pr C 56).exs _ _ _ _ _ = _
  rw [c305e]
  show guardB (fitS row.wd && true) _ = _
  rw [guardB_t (by rw [fitS_of (by omega)]; rfl), guardB_t (fit100 (by rw [List.length_map]; omega))]
  have := loop305 C n K sc rs hr x1 x2 row num (sc.map pairF) x1 x2 (bk.map pairF) (rc.map .str) rfl kk r 100 ⟨k + 1, lo, hi, "", bk, rc ++ [row.wd ++ ("(" : Str)]⟩ none (by
   obtain ⟨q', e8, e9⟩ := obind_some' e7
   rw [e8]
   show (obind (fin num q') _) = _
   rw [e9]; exact e2)
  rw [List.map_append] at this
  exact this
end
theorem s305 {C : Cl R} {n : Nat} (K : Kn C n) : ∀ args kws h k r, S305 (n + 1) args kws h k = some r → callFn Pr C 305 args kws h k = some r := by
 intro args kws h k r e
 unfold S305 at e
 split at e
 ·rename_i rowsF k0 lo hi x0 x1 x2 bkF rcF
  obtain ⟨rs, h1, e1⟩ := obind_some' e
  obtain ⟨sc, h2, e2⟩ := obind_some' e1
  obtain ⟨bk, h3, e3⟩ := obind_some' e2
  obtain ⟨rc, h4, e4⟩ := obind_some' e3
  obtain ⟨g, e5⟩ := guardB_some' e4
  clear e e1 e2 e3 e4
  have h1 := allRow_some h1
  have h2 := unpair_some h2
  have h3 := unpair_some h3
  have h4 := allStr_some h4
  subst h1 h2 h3 h4
  exact run305 C n K sc rs (of_decide_eq_true g) x1 x2 k0 lo hi bk rc k r e5
 ·cases e
abbrev rsc : Scope := fiRead.scope
abbrev t312 : PySem.Expr := fT (nthS fiRead.body 1)
abbrev b312 : List Stmt := fB (nthS fiRead.body 1)
def lc312 (tx : Str) (o : Option ((Int × Str) × Int × Option V)) : Lc := ([("text", .f (.str tx)), ("scores", .hdr 0), ("pile", .loc 6), ("leaves", .loc 7)] : Lc) ++ (match o with
 | none => []
 | some (p, num, none) => [("place", .f (.int p.1)), ("sign", .f (.str p.2)), ("number", .f (.int num))]
 | some (p, num, some v) => [("place", .f (.int p.1)), ("sign", .f (.str p.2)), ("number", .f (.int num)), ("row", v)])
def rwO : Option ((Int × Str) × Int × Option V) → Option V
 | none => none
 | some (_, _, v) => v
abbrev h8 (x0 x1 x2 x3 x4 : List F) : H := [.list x0, .list x1, .list x2, .list x3, .list x4, .list [.int 0], .locs [5], .list []]
section
variable (C : Cl R) (tx : Str) (h : H)
theorem c312 (x0 x1 x2 x3 x4 : List F) (k : KV R) : callFn Pr C 312 [.f (.str tx), .hdr 0] [] (h5 x0 x1 x2 x3 x4) k =
  guardB (fitS tx && asc tx) (forFix (evr Pr C 57) rsc t312 b312 ((escPairs tx).map prF) (lc312 tx none) (h8 x0 x1 x2 x3 x4) (restK (evr Pr C 58) rsc (dropS fiRead.body 2) (retS (h5 x0 x1 x2 x3 x4) k))) := by kernel_rfl
theorem c312t (p : Int × Str) (o : Option ((Int × Str) × Int × Option V)) (r : List V) (K : KS R) : forFix (evr Pr C 57) rsc t312 b312 (prF p :: r) (lc312 tx o) h K =
  exM p.2 fun num => (evr Pr C 56).exs rsc (lc312 tx (some (p, num, rwO o))) h (dropS b312 1) (turnF K fun lc2 h2 => forFix (evr Pr C 57) rsc t312 b312 r lc2 h2 K) := by rcases o with _ | ⟨_, _, _ | _⟩ <;> kernel_rfl
variable (p : Int × Str) (num : Int) (rw : Option V) (K : KS R)
theorem c312a : (evr Pr C 56).exs rsc (lc312 tx (some (p, num, rw))) h (dropS b312 1) K =
  C 135 [.f (.int num)] [] h fun v h1 => obind (truthyV v) fun b => br b ((evr Pr C 54).exs rsc (lc312 tx (some (p, num, rw))) h1 (ifAe (nthS b312 1)) (restK (evr Pr C 55) rsc [] K)) ((evr Pr C 54).exs rsc (lc312 tx (some (p, num, rw))) h1 (ifBe (nthS b312 1)) (restK (evr Pr C 55) rsc [] K)) := by rcases rw with _ | _ <;> kernel_rfl
theorem c312b : (evr Pr C 54).exs rsc (lc312 tx (some (p, num, rw))) h (ifAe (nthS b312 1)) (restK (evr Pr C 55) rsc [] K) =
  guardB (okMeth Pr "append" h (.loc 7)) (methV Pr C (.loc 7) "append" [.f (.str p.2)] [] h fun _ h1 => subscr (.loc 6) (.f (.int (-1))) h1 fun v h2 => guardB (okMeth Pr "append" h2 v) (C 226 [.hdr 0, .f (.str p.2)] [] h2 fun u h3 => asStr u fun t => obind (digitVal t) fun i =>
   methV Pr C v "append" [.f (.int i)] [] h3 fun _ h4 => K .next (lc312 tx (some (p, num, rw))) h4)) := by rcases rw with _ | _ <;> kernel_rfl
def popX (C : Cl R) (tx : Str) (h : H) (p : Int × Str) (num : Int) (K : KS R) : Option R :=
 guardB (okMeth Pr "pop" h (.loc 6)) (methV Pr C (.loc 6) "pop" [] [] h fun v h1 => subscr (.loc 6) (.f (.int (-1))) h1 fun w h2 => guardB (okMeth Pr "append" h2 w) (subscr v (.f (.int 0)) h2 fun y h3 => eqV y (.f (.int 20)) h3 fun b => br b
  (sliceV v (some 1) none h3 fun z h4 => callV C (.raw (.builtin "min")) [z] [] h4 fun q h5 => methV Pr C w "append" [q] [] h5 fun _ h6 => K .next (lc312 tx (some (p, num, some v))) h6)
  (sliceV v (some 1) none h3 fun z h4 => callV C (.raw (.builtin "max")) [z] [] h4 fun q h5 => methV Pr C w "append" [q] [] h5 fun _ h6 => K .next (lc312 tx (some (p, num, some v))) h6)))
def pushX (C : Cl R) (tx : Str) (h : H) (p : Int × Str) (num : Int) (rw : Option V) (K : KS R) : Option R :=
 guardB (okMeth Pr "append" h (.loc 6)) (methV Pr C (.loc 6) "append" [.loc h.length] [] (h ++ [.list [.int num]]) fun _ h1 => K .next (lc312 tx (some (p, num, rw))) h1)
theorem c312c : (evr Pr C 54).exs rsc (lc312 tx (some (p, num, rw))) h (ifBe (nthS b312 1)) (restK (evr Pr C 55) rsc [] K) =
  br (decide (num = 8)) (popX C tx h p num K) (br (!(decide (num = 7))) (pushX C tx h p num rw K) (K .next (lc312 tx (some (p, num, rw))) h)) := by rcases rw with _ | _ <;> kernel_rfl
theorem c312e (o : Option ((Int × Str) × Int × Option V)) (h0 : H) (k : KV R) : restK (evr Pr C 58) rsc (dropS fiRead.body 2) (retS h0 k) .next (lc312 tx o) h = retK h0.length (.tupV [.loc 6, .loc 7]) h k := by rcases o with _ | ⟨_, _, _ | _⟩ <;> kernel_rfl
end
end Mine.Q
end
section
set_option maxRecDepth 4000
namespace Mine.Q
variable {R : Type}
def appM (o : Option O) (f : List F → Option R) (g : List Nat → Option R) : Option R := match o with
 | some (.list l) => f l
 | some (.locs l) => g l
 | _ => none
section
variable (C : Cl R)
theorem meth_app0 {h : H} {i : Nat} {x : F} {k : KV R} : methV Pr C (.loc i) "append" [.f x] [] h k = appM h[i]? (fun l => guardB (fitL l) (k (.f .none) (h.set i (.list (l ++ [x]))))) (fun _ => none) := by kernel_rfl
theorem meth_appL0 {h : H} {i j : Nat} {k : KV R} : methV Pr C (.loc i) "append" [.loc j] [] h k = appM h[i]? (fun _ => none) (fun l => guardB (fitL l) (k (.f .none) (h.set i (.locs (l ++ [j]))))) := by kernel_rfl
theorem meth_app {h : H} {i : Nat} {l : List F} {x : F} {k : KV R} (e : h[i]? = some (.list l)) (hf : l.length ≤ 100000) : methV Pr C (.loc i) "append" [.f x] [] h k = k (.f .none) (h.set i (.list (l ++ [x]))) := by
 rw [meth_app0, e]
 show guardB (fitL l) _ = _
 rw [guardB_t (fit100 hf)]
theorem meth_appL {h : H} {i j : Nat} {l : List Nat} {k : KV R} (e : h[i]? = some (.locs l)) (hf : l.length ≤ 100000) : methV Pr C (.loc i) "append" [.loc j] [] h k = k (.f .none) (h.set i (.locs (l ++ [j]))) := by
 rw [meth_appL0, e]
 show guardB (fitL l) _ = _
 rw [guardB_t (fit100 hf)]
theorem meth_pop {h : H} {i j : Nat} {l : List Nat} {k : KV R} (e : h[i]? = some (.locs l)) (hj : l.getLast? = some j) (hf : l.length ≤ 100000) : methV Pr C (.loc i) "pop" [] [] h k = k (.loc j) (h.set i (.locs l.dropLast)) := by
 show (match h[i]? with
  | some (.locs l) => (match l.getLast? with
   | some j => guardB (fitL l) (k (.loc j) (h.set i (.locs l.dropLast)))
   | none => none)
  | _ => none) = _
 rw [e]
 show (match l.getLast? with
   | some j => guardB (fitL l) (k (.loc j) (h.set i (.locs l.dropLast)))
   | none => none) = _
 rw [hj]
 show guardB (fitL l) _ = _
 rw [guardB_t (fit100 hf)]
end
theorem okm_list {h : H} {i : Nat} {l : List F} (e : h[i]? = some (.list l)) : okMeth Pr "append" h (.loc i) = true := by
 show (isSeqO h[i]? && true) = true
 rw [e]; rfl
theorem okm_locs {h : H} {i : Nat} {l : List Nat} (e : h[i]? = some (.locs l)) : okMeth Pr "append" h (.loc i) = true := by
 show (isSeqO h[i]? && true) = true
 rw [e]; rfl
theorem okm_pop {h : H} {i : Nat} {l : List Nat} (e : h[i]? = some (.locs l)) : okMeth Pr "pop" h (.loc i) = true := by
 show (isSeqO h[i]? && (false || true)) = true
 rw [e]; rfl
theorem subscr_top {h : H} {a t : Nat} {l : List Nat} {k : KV R} (e : h[a]? = some (.locs l)) (hf : l.length ≤ 100000) (hx : l.getLast? = some t) : subscr (.loc a) (.f (.int (-1))) h k = k (.loc t) h := by
 have hne : l ≠ [] := by intro hc; rw [hc] at hx; cases hx
 have hl : 0 < l.length := List.length_pos_iff.mpr hne
 show (match h[a]? with
  | some (.list l) => asInt (.f (.int (-1))) fun j => guardB (fitL l) (obind (seqIndex? j l.length) fun p => obind l[p]? fun x => k (.f x) h)
  | some (.locs l) => asInt (.f (.int (-1))) fun j => guardB (fitL l) (obind (seqIndex? j l.length) fun p => obind l[p]? fun x => k (.loc x) h)
  | _ => none) = _
 rw [e]
 show guardB (fitL l) (obind (seqIndex? (-1) l.length) fun p => obind l[p]? fun x => k (.loc x) h) = _
 rw [guardB_t (fit100 hf), seqI_last hl]
 show obind l[l.length - 1]? _ = _
 rw [← List.getLast?_eq_getElem?, hx]; rfl
structure RI (x0 x1 x2 x3 x4 : List F) (h : H) (ts : List Nat) (st : List (List Int)) (lv : List Str) : Prop where
 tk : h.take 5 = h5 x0 x1 x2 x3 x4
 len : 8 ≤ h.length
 pl : h[6]? = some (.locs ts.reverse)
 lv : h[7]? = some (.list (lv.map .str))
 sl : ts.length = st.length
 st : ∀ (i : Nat) (t : Nat) (l : List Int), ts[i]? = some t → st[i]? = some l → h[t]? = some (.list (l.map .int))
 nd : ts.Nodup
 ge : ∀ t ∈ ts, (t = 5 ∨ 8 ≤ t) ∧ t < h.length
 ok : okP h.length h = true
theorem okP_mem {n : Nat} {h : H} : okP n h = true ↔ ∀ o ∈ h, noLocs n o = true := List.all_eq_true
theorem noLocs_up {n m : Nat} (h : n ≤ m) {o : O} (e : noLocs n o = true) : noLocs m o = true := by
 cases o with
 | list l => rfl
 | attrs l => rfl
 | locs l =>
  unfold noLocs at e ⊢
  simp only [List.all_eq_true, decide_eq_true_eq] at e ⊢
  intro i hi; have := e i hi; omega
theorem okP_set {n i : Nat} {h : H} {o : O} (e : okP n h = true) (eo : noLocs n o = true) : okP n (h.set i o) = true := by
 rw [okP_mem] at e ⊢
 intro x hx
 rcases List.mem_or_eq_of_mem_set hx with h1 | h1
 ·exact e x h1
 ·rw [h1]; exact eo
variable {x0 x1 x2 x3 x4 : List F}
theorem RI.leaf {h : H} {ts : List Nat} {st : List (List Int)} {lv : List Str} (r : RI x0 x1 x2 x3 x4 h ts st lv) (s : Str) : RI x0 x1 x2 x3 x4 (h.set 7 (.list ((lv ++ [s]).map .str))) ts st (lv ++ [s]) where
 tk := by rw [List.take_set_of_le (by omega)]; exact r.tk
 len := by rw [List.length_set]; exact r.len
 pl := by rw [List.getElem?_set_ne (by omega)]; exact r.pl
 lv := by have := r.len; rw [List.getElem?_set_self (by omega)]
 sl := r.sl
 st := fun i t l h1 h2 => by
  have hm := (r.ge t (List.mem_of_getElem? h1)).1
  rw [List.getElem?_set_ne (by omega)]; exact r.st i t l h1 h2
 nd := r.nd
 ge := fun t ht => by rw [List.length_set]; exact r.ge t ht
 ok := by rw [List.length_set]; exact okP_set r.ok rfl
theorem RI.num {h : H} {t : Nat} {ts : List Nat} {l : List Int} {st : List (List Int)} {lv : List Str} (r : RI x0 x1 x2 x3 x4 h (t :: ts) (l :: st) lv) (x : Int) : RI x0 x1 x2 x3 x4 (h.set t (.list ((l ++ [x]).map .int))) (t :: ts) ((l ++ [x]) :: st) lv := by
 have ht := r.ge t (.head _)
 refine ⟨?_, ?_, ?_, ?_, ?_, ?_, r.nd, ?_, ?_⟩
 ·rw [List.take_set_of_le (by omega)]; exact r.tk
 ·rw [List.length_set]; exact r.len
 ·rw [List.getElem?_set_ne (by omega)]; exact r.pl
 ·rw [List.getElem?_set_ne (by omega)]; exact r.lv
 ·exact r.sl
 ·intro i t' l' h1 h2
  cases i with
  | zero =>
   cases h1; cases h2
   rw [List.getElem?_set_self ht.2]
  | succ i =>
   have hne : t ≠ t' := by
    intro hc; subst hc
    exact (List.nodup_cons.mp r.nd).1 (List.mem_of_getElem? h1)
   rw [List.getElem?_set_ne hne]
   exact r.st (i + 1) t' l' h1 h2
 ·intro t' ht'; rw [List.length_set]; exact r.ge t' ht'
 ·rw [List.length_set]; exact okP_set r.ok rfl
theorem RI.pop {h : H} {t : Nat} {ts : List Nat} {l : List Int} {st : List (List Int)} {lv : List Str} (r : RI x0 x1 x2 x3 x4 h (t :: ts) (l :: st) lv) : RI x0 x1 x2 x3 x4 (h.set 6 (.locs ts.reverse)) ts st lv := by
 have hl := r.len
 refine ⟨?_, ?_, ?_, ?_, ?_, ?_, (List.nodup_cons.mp r.nd).2, ?_, ?_⟩
 ·rw [List.take_set_of_le (by omega)]; exact r.tk
 ·rw [List.length_set]; exact r.len
 ·rw [List.getElem?_set_self (by omega)]
 ·rw [List.getElem?_set_ne (by omega)]; exact r.lv
 ·have := r.sl; simpa using this
 ·intro i t' l' h1 h2
  have hm := (r.ge t' (.tail _ (List.mem_of_getElem? h1))).1
  rw [List.getElem?_set_ne (by omega)]
  exact r.st (i + 1) t' l' h1 h2
 ·intro t' ht'; rw [List.length_set]; exact r.ge t' (.tail _ ht')
 ·rw [List.length_set]
  refine okP_set r.ok ?_
  show (ts.reverse.all fun i => decide (i < h.length)) = true
  simp only [List.all_eq_true, decide_eq_true_eq, List.mem_reverse]
  exact fun t' ht' => (r.ge t' (.tail _ ht')).2
theorem RI.push {h : H} {ts : List Nat} {st : List (List Int)} {lv : List Str} (r : RI x0 x1 x2 x3 x4 h ts st lv) (x : Int) : RI x0 x1 x2 x3 x4 ((h ++ [O.list [.int x]]).set 6 (.locs (ts.reverse ++ [h.length]))) (h.length :: ts) ([x] :: st) lv := by
 have hl := r.len
 have hge : ∀ t ∈ ts, (t = 5 ∨ 8 ≤ t) ∧ t < h.length := r.ge
 refine ⟨?_, ?_, ?_, ?_, ?_, ?_, ?_, ?_, ?_⟩
 ·rw [List.take_set_of_le (by omega), List.take_append_of_le_length (by omega)]; exact r.tk
 ·rw [List.length_set, List.length_append]; omega
 ·rw [List.getElem?_set_self (by rw [List.length_append]; omega), List.reverse_cons]
 ·rw [List.getElem?_set_ne (by omega), List.getElem?_append_left (by omega)]; exact r.lv
 ·simp [r.sl]
 ·intro i t' l' h1 h2
  cases i with
  | zero =>
   cases h1; cases h2
   rw [List.getElem?_set_ne (by omega), List.getElem?_append_right (by omega)]
   simp
  | succ i =>
   have hm := hge t' (List.mem_of_getElem? h1)
   rw [List.getElem?_set_ne (by omega), List.getElem?_append_left (by omega)]
   exact r.st i t' l' h1 h2
 ·refine List.nodup_cons.mpr ⟨fun hc => ?_, r.nd⟩
  have := (hge _ hc).2; omega
 ·intro t' ht'
  rw [List.length_set, List.length_append]
  cases ht' with
  | head => simp; omega
  | tail _ ht' => have := hge t' ht'; simp; omega
 ·rw [List.length_set, List.length_append]
  refine okP_set ?_ ?_
  ·rw [okP_mem]
   intro o ho
   rcases List.mem_append.mp ho with h1 | h1
   ·exact noLocs_up (by omega) (okP_mem.mp r.ok o h1)
   ·cases h1 with
    | head => rfl
    | tail _ h1 => cases h1
  ·show ((ts.reverse ++ [h.length]).all fun i => decide (i < h.length + 1)) = true
   simp only [List.all_append, Bool.and_eq_true, List.all_eq_true, decide_eq_true_eq, List.mem_reverse]
   refine ⟨fun t' ht' => by have := (hge t' ht').2; omega, fun t' ht' => ?_⟩
   cases ht' with
   | head => omega
   | tail _ h => cases h
end Mine.Q
end
section
set_option maxRecDepth 4000
namespace Mine.Q
variable {R : Type}
def readF (sc : List (Str × Str)) : List (Int × Str) → List (List Int) → List Str → Option (List (List Int) × List Str)
 | [], st, lv => some (st, lv)
 | p :: r, st, lv => guardB (decide (st.length ≤ 1000) && decide (lv.length ≤ 1000) && st.all fun l => decide (l.length ≤ 1000)) (obind (exS p.2) fun num => match decide (256 ≤ num) with
  | true => guardB (getG p.2 sc) (obind (hfind (Txt.lower p.2) sc) fun t => obind (digitVal t) fun i => match st with
   | l :: st' => readF sc r ((l ++ [i]) :: st') (lv ++ [p.2])
   | [] => none)
  | false => match decide (num = 8) with
   | true => match st with
    | (x :: y :: ys) :: l2 :: st' => readF sc r ((l2 ++ [if x = 20 then minL y ys else maxL y ys]) :: st') lv
    | _ => none
   | false => match decide (num = 7) with
    | true => readF sc r st lv
    | false => readF sc r ([num] :: st) lv)
theorem readF_cons (sc : List (Str × Str)) (p : Int × Str) (r : List (Int × Str)) (st : List (List Int)) (lv : List Str) : readF sc (p :: r) st lv = guardB (decide (st.length ≤ 1000) && decide (lv.length ≤ 1000) && st.all fun l => decide (l.length ≤ 1000)) (obind (exS p.2) fun num => match decide (256 ≤ num) with
  | true => guardB (getG p.2 sc) (obind (hfind (Txt.lower p.2) sc) fun t => obind (digitVal t) fun i => match st with
   | l :: st' => readF sc r ((l ++ [i]) :: st') (lv ++ [p.2])
   | [] => none)
  | false => match decide (num = 8) with
   | true => match st with
    | (x :: y :: ys) :: l2 :: st' => readF sc r ((l2 ++ [if x = 20 then minL y ys else maxL y ys]) :: st') lv
    | _ => none
   | false => match decide (num = 7) with
    | true => readF sc r st lv
    | false => readF sc r ([num] :: st) lv) := rfl
def mmC (f : Int → List Int → Int) (l : List F) (h : H) (k : KV R) : Option R := obind (allInt l) fun is => match is with
 | x :: r => guardB (fitL l) (k (.f (.int (f x r))) h)
 | [] => none
theorem call_min (C : Cl R) (l : List F) (h : H) (k : KV R) : callV C (.raw (.builtin "min")) [.f (.lst l)] [] h k = mmC minL l h k := by kernel_rfl
theorem call_max (C : Cl R) (l : List F) (h : H) (k : KV R) : callV C (.raw (.builtin "max")) [.f (.lst l)] [] h k = mmC maxL l h k := by kernel_rfl
theorem mmC_t (f : Int → List Int → Int) (y : Int) (ys : List Int) (h : H) (k : KV R) (hl : ys.length ≤ 1000) : mmC f ((y :: ys).map .int) h k = k (.f (.int (f y ys))) h := by
 unfold mmC
 rw [allInt_map]
 show guardB _ _ = _
 rw [guardB_t (fit100 (by simp; omega))]
theorem slice_1 {α : Type} (a : α) (l : List α) : sliceOf (a :: l) (some 1) none = l := by
 have h : clipAt (a :: l).length 1 = 1 := by
  unfold clipAt
  have : ¬ ((1 : Int) < 0) := by decide
  simp [this]
  omega
 show ((a :: l).drop (clipAt (a :: l).length 1)).take ((a :: l).length - clipAt (a :: l).length 1) = l
 rw [h]; simp
theorem slice_loc {h : H} {i : Nat} {l : List F} {a b : Option Int} {k : KV R} (e : h[i]? = some (.list l)) (hf : l.length ≤ 100000) : sliceV (.loc i) a b h k = k (.f (.lst (sliceOf l a b))) h := by
 show obind (items h (.loc i)) _ = _
 rw [items_loc e]
 show guardB (fitL l) _ = _
 rw [guardB_t (fit100 hf)]
theorem S226_h (wd : Str) (sc : List (Str × Str)) (h : H) (k : KV R) (e : h[(0 : Nat)]? = some (.list (sc.map pairF))) (ok : okP h.length h = true) (g : getG wd sc = true) :
  S226 [.hdr 0, .f (.str wd)] [] h k = k (.f (optF (hfind (Txt.lower wd) sc))) h := by
 show (match h[(0 : Nat)]? with
  | some (.list l) => obind (unpair l) fun ps => guardB (okP h.length h && fitS wd && fitS (Txt.lower wd) && calm (Txt.lower wd) && decide (ps.length ≤ 50) && ps.all (fun p => fitS p.1)) (k (.f (optF (hfind (Txt.lower wd) ps))) h)
  | _ => none) = _
 rw [e]
 show obind (unpair (sc.map pairF)) _ = _
 rw [unpair_map]
 show guardB (okP h.length h && fitS wd && fitS (Txt.lower wd) && calm (Txt.lower wd) && decide (sc.length ≤ 50) && sc.all fun p => fitS p.1) _ = _
 unfold getG at g
 rw [guardB_t (by rw [ok]; simpa using g)]
section
variable (C : Cl R) (e135 : ∀ a s h k, C 135 a s h k = S135 a s h k) (e226 : ∀ a s h k, C 226 a s h k = S226 a s h k) (sc : List (Str × Str)) (x1 x2 x3 x4 : List F) (tx : Str) (K : KS R)
include e135 e226
theorem loop312 (q : List (List Int) × List Str) : ∀ (ps : List (Int × Str)) (h : H) (ts : List Nat) (st : List (List Int)) (lv : List Str) (o : Option ((Int × Str) × Int × Option V)), RI (sc.map pairF) x1 x2 x3 x4 h ts st lv → readF sc ps st lv = some q →
  ∃ h' ts' o', RI (sc.map pairF) x1 x2 x3 x4 h' ts' q.1 q.2 ∧ forFix (evr Pr C 57) rsc t312 b312 (ps.map prF) (lc312 tx o) h K = K .next (lc312 tx o') h'
 | [], h, ts, st, lv, o, ri, e => by
  cases e
  exact ⟨h, ts, o, ri, rfl⟩
 | p :: r, h, ts, st, lv, o, ri, e => by
  rw [readF_cons] at e
  obtain ⟨g, e1⟩ := guardB_some' e
  clear e
  simp only [Bool.and_eq_true, decide_eq_true_eq, List.all_eq_true] at g
  obtain ⟨⟨g1, g2⟩, g3⟩ := g
  obtain ⟨num, e2, e3⟩ := obind_some' e1
  clear e1
  have hok := ri.ok
  have hlen := ri.len
  have hsl := ri.sl
  rw [List.map_cons, c312t, exM_S, e2, obind_s, c312a, e135]
  show ∃ h' ts' o', _ ∧ guardB (okP h.length h) (br (decide (256 ≤ num)) _ _) = _
  rw [guardB_t hok]
  cases hn : decide (256 ≤ num) with
  | true =>
   rw [hn] at e3
   obtain ⟨g4, e4⟩ := guardB_some' e3
   clear e3
   obtain ⟨t, e5, e6⟩ := obind_some' e4
   clear e4
   obtain ⟨i, e7, e8⟩ := obind_some' e6
   clear e6
   cases st with
   | nil => cases e8
   | cons l st =>
    cases ts with
    | nil => simp at hsl
    | cons a ts =>
     have hlv : (lv.map F.str).length ≤ 100000 := by rw [List.length_map]; omega
     have r1 := ri.leaf p.2
     have hl1 : (l.map F.int).length ≤ 100000 := by rw [List.length_map]; have := g3 l (.head _); omega
     have hts : ((a :: ts).reverse).length ≤ 100000 := by rw [List.length_reverse]; simp at hsl g1 ⊢; omega
     rw [br_t, c312b, guardB_t (okm_list ri.lv), meth_app C ri.lv hlv]
     rw [show (lv.map F.str ++ [F.str p.2]) = (lv ++ [p.2]).map F.str from by rw [List.map_append]; rfl]
     rw [subscr_top (t := a) r1.pl hts (by simp), guardB_t (okm_list (r1.st 0 a l rfl rfl)), e226, S226_h p.2 sc _ _ (by
      have := r1.tk
      rw [← List.getElem?_take_of_lt (j := 5) (by omega), this]; rfl) r1.ok g4, e5]
     show ∃ h' ts' o', _ ∧ obind (digitVal t) _ = _
     rw [e7, obind_s, meth_app C (r1.st 0 a l rfl rfl) hl1]
     rw [show (l.map F.int ++ [F.int i]) = (l ++ [i]).map F.int from by rw [List.map_append]; rfl]
     exact loop312 q r _ _ _ _ _ (r1.num i) e8
  | false =>
   rw [hn] at e3
   rw [show ∀ x y : Option R, br false x y = y from fun _ _ => rfl, c312c]
   dsimp only at e3
   cases h8 : decide (num = 8) with
   | true =>
    rw [h8] at e3
    dsimp only at e3
    rw [br_t]
    split at e3
    ·rename_i x y ys l2 st'
     match ts, hsl with
     | a :: a2 :: ts, hsl =>
      have r1 := ri.pop
      have hts : ((a :: a2 :: ts).reverse).length ≤ 100000 := by rw [List.length_reverse]; simp at hsl g1 ⊢; omega
      have hts2 : ((a2 :: ts).reverse).length ≤ 100000 := by rw [List.length_reverse] at hts ⊢; simp at hts ⊢; omega
      have hx := g3 (x :: y :: ys) (.head _)
      have hl2 := g3 l2 (.tail _ (.head _))
      simp only [List.length_cons] at hx
      have ha := ri.ge a (.head _)
      have hta : (h.set 6 (.locs (a2 :: ts).reverse))[a]? = some (.list ((x :: y :: ys).map .int)) := by
       rw [List.getElem?_set_ne (by omega)]; exact ri.st 0 a _ rfl rfl
      unfold popX
      rw [guardB_t (okm_pop ri.pl), meth_pop C (j := a) ri.pl (by simp) hts, show ((a :: a2 :: ts).reverse).dropLast = (a2 :: ts).reverse from by rw [List.reverse_cons (a := a), List.dropLast_concat]]
      rw [subscr_top (t := a2) r1.pl hts2 (by simp), guardB_t (okm_list (r1.st 0 a2 l2 rfl rfl)), subscr_loc (x := .int x) hta (by simp; omega) (by decide) rfl]
      show ∃ h' ts' o', _ ∧ br (decide (x = 20)) _ _ = _
      rw [slice_loc hta (by simp; omega), slice_loc hta (by simp; omega), show sliceOf ((x :: y :: ys).map F.int) (some 1) none = (y :: ys).map F.int from by rw [List.map_cons, slice_1], call_min, call_max, mmC_t _ _ _ _ _ (by omega), mmC_t _ _ _ _ _ (by omega),
       meth_app C (r1.st 0 a2 l2 rfl rfl) (by rw [List.length_map]; omega), meth_app C (r1.st 0 a2 l2 rfl rfl) (by rw [List.length_map]; omega)]
      by_cases hx20 : x = 20
      ·rw [if_pos hx20] at e3
       rw [decide_eq_true hx20, br_t, show (l2.map F.int ++ [F.int (minL y ys)]) = (l2 ++ [minL y ys]).map F.int from by rw [List.map_append]; rfl]
       exact loop312 q r _ _ _ _ _ (r1.num _) e3
      ·rw [if_neg hx20] at e3
       rw [decide_eq_false hx20, show ∀ x y : Option R, br false x y = y from fun _ _ => rfl, show (l2.map F.int ++ [F.int (maxL y ys)]) = (l2 ++ [maxL y ys]).map F.int from by rw [List.map_append]; rfl]
       exact loop312 q r _ _ _ _ _ (r1.num _) e3
    ·cases e3
   | false =>
    rw [h8] at e3
    dsimp only at e3
    rw [show ∀ x y : Option R, br false x y = y from fun _ _ => rfl]
    cases h7 : decide (num = 7) with
    | true =>
     rw [h7] at e3
     exact loop312 q r _ _ _ _ _ ri e3
    | false =>
     rw [h7] at e3
     show ∃ h' ts' o', _ ∧ pushX _ _ _ _ _ _ _ = _
     unfold pushX
     rw [guardB_t (okm_locs ri.pl), meth_appL C (l := ts.reverse) (by rw [List.getElem?_append_left (by omega)]; exact ri.pl) (by rw [List.length_reverse]; omega)]
     exact loop312 q r _ _ _ _ _ (ri.push num) e3
end
def S312 (args : List V) (kws : List (Str × V)) (h : H) (k : KV R) : Option R := match args, kws, h with
 | [.f (.str tx), .hdr 0], [], [.list x0, .list x1, .list x2, .list x3, .list x4] => obind (unpair x0) fun sc => guardB (fitS tx && asc tx) (obind (readF sc (escPairs tx) [[0]] []) fun q => match q.1 with
  | [l] => k (.f (.tup [.lst [.lst (l.map .int)], .lst (q.2.map .str)])) (h5 x0 x1 x2 x3 x4)
  | _ => none)
 | _, _, _ => none
theorem RI_nil (x0 x1 x2 x3 x4 : List F) : RI x0 x1 x2 x3 x4 (h8 x0 x1 x2 x3 x4) [5] [[0]] [] where
 tk := rfl
 len := Nat.le_refl _
 pl := rfl
 lv := rfl
 sl := rfl
 st := fun i t l h1 h2 => by
  cases i with
  | zero => cases h1; cases h2; rfl
  | succ i => simp at h1
 nd := by simp
 ge := fun t ht => by
  cases ht with
  | head => exact ⟨.inl rfl, (by decide : 5 < 8)⟩
  | tail _ h => cases h
 ok := rfl
theorem ret312 {x0 x1 x2 x3 x4 : List F} {h : H} {ts : List Nat} {l : List Int} {lv : List Str} (r : RI x0 x1 x2 x3 x4 h ts [l] lv) (k : KV R) :
  retK (h5 x0 x1 x2 x3 x4).length (.tupV [.loc 6, .loc 7]) h k = k (.f (.tup [.lst [.lst (l.map .int)], .lst (lv.map .str)])) (h5 x0 x1 x2 x3 x4) := by
 have hsl := r.sl
 match ts, hsl with
 | [t], _ =>
  have ht := (r.ge t (.head _)).1
  have e0 := r.st 0 t l rfl rfl
  have e1 : fzRows 5 h [t] = some [.lst (l.map .int)] := by
   show (match decide (5 ≤ t) with
    | true => match h[t]?, fzRows 5 h [] with
     | some (.list l), some rows => some (F.lst l :: rows)
     | _, _ => none
    | false => none) = _
   rw [decide_eq_true (by omega), e0]
   rfl
  have e2 : fz 5 h (.loc 6) = some (.f (.lst [.lst (l.map .int)])) := by
   show (match h[(6 : Nat)]? with
    | some (.list l) => some (V.f (.lst l))
    | some (.locs l) => match fzRows 5 h l with
     | some rows => some (V.f (.lst rows))
     | none => none
    | _ => none) = _
   rw [r.pl]
   show (match fzRows 5 h [t] with
     | some rows => some (V.f (.lst rows))
     | none => none) = _
   rw [e1]
  have e3 : fz 5 h (.loc 7) = some (.f (.lst (lv.map .str))) := by
   show (match h[(7 : Nat)]? with
    | some (.list l) => some (V.f (.lst l))
    | some (.locs l) => match fzRows 5 h l with
     | some rows => some (V.f (.lst rows))
     | none => none
    | _ => none) = _
   rw [r.lv]
  have e4 : fz 5 h (.tupV [.loc 6, .loc 7]) = some (.f (.tup [.lst [.lst (l.map .int)], .lst (lv.map .str)])) := by
   unfold fz fzs fzs fzs
   rw [e2, e3]
   rfl
  show guardB (okP 5 (h.take 5)) (obind (fz 5 h _) fun v' => k v' (h.take 5)) = _
  rw [e4, r.tk]
  rfl
theorem s312 {C : Cl R} (e135 : ∀ a s h k, C 135 a s h k = S135 a s h k) (e226 : ∀ a s h k, C 226 a s h k = S226 a s h k) : ∀ args kws h k r, S312 (R := R) args kws h k = some r → callFn Pr C 312 args kws h k = some r := by
 intro args kws h k r e
 unfold S312 at e
 split at e
 ·rename_i tx x0 x1 x2 x3 x4
  obtain ⟨sc, hs, e1⟩ := obind_some' e
  obtain ⟨g, e2⟩ := guardB_some' e1
  obtain ⟨q, hq, e3⟩ := obind_some' e2
  clear e e1 e2
  have hs := unpair_some hs
  subst hs
  rw [c312, guardB_t g]
  obtain ⟨h', ts', o', ri, ef⟩ := loop312 C e135 e226 sc x1 x2 x3 x4 tx (restK (evr Pr C 58) rsc (dropS fiRead.body 2) (retS (h5 (sc.map pairF) x1 x2 x3 x4) k)) q (escPairs tx) _ _ _ _ none (RI_nil (sc.map pairF) x1 x2 x3 x4) hq
  rw [ef, c312e]
  obtain ⟨st, lv⟩ := q
  dsimp only at e3 ri
  split at e3
  ·rw [ret312 ri]; exact e3
  ·cases e3
 ·cases e
theorem ws1 (a b c : List F) (k : KV R) (w : Nat) (hw : w = 1) : ((leadsN 0 ++ leadsN 1 ++ leadsN 2 ++ leadsN 3).map fun l => callV CE (.raw (.ref 100)) [.f (.str (l ++ wordS w))] [] [.list a, .list b, .list c] k) =
  (leadsN 0 ++ leadsN 1 ++ leadsN 2 ++ leadsN 3).map fun l => k (.f (wsOf (scanL l) (l ++ wordS w))) [.list a, .list b, .list c] := by subst hw; kernel_rfl
theorem ws2 (a b c : List F) (k : KV R) (w : Nat) (hw : w = 2) : ((leadsN 0 ++ leadsN 1 ++ leadsN 2 ++ leadsN 3).map fun l => callV CE (.raw (.ref 100)) [.f (.str (l ++ wordS w))] [] [.list a, .list b, .list c] k) =
  (leadsN 0 ++ leadsN 1 ++ leadsN 2 ++ leadsN 3).map fun l => k (.f (wsOf (scanL l) (l ++ wordS w))) [.list a, .list b, .list c] := by subst hw; kernel_rfl
theorem ws3 (a b c : List F) (k : KV R) (w : Nat) (hw : w = 3) : ((leadsN 0 ++ leadsN 1 ++ leadsN 2 ++ leadsN 3).map fun l => callV CE (.raw (.ref 100)) [.f (.str (l ++ wordS w))] [] [.list a, .list b, .list c] k) =
  (leadsN 0 ++ leadsN 1 ++ leadsN 2 ++ leadsN 3).map fun l => k (.f (wsOf (scanL l) (l ++ wordS w))) [.list a, .list b, .list c] := by subst hw; kernel_rfl
theorem ws4 (a b c : List F) (k : KV R) (w : Nat) (hw : w = 4) : ((leadsN 0 ++ leadsN 1 ++ leadsN 2 ++ leadsN 3).map fun l => callV CE (.raw (.ref 100)) [.f (.str (l ++ wordS w))] [] [.list a, .list b, .list c] k) =
  (leadsN 0 ++ leadsN 1 ++ leadsN 2 ++ leadsN 3).map fun l => k (.f (wsOf (scanL l) (l ++ wordS w))) [.list a, .list b, .list c] := by subst hw; kernel_rfl
theorem ws5 (a b c : List F) (k : KV R) (w : Nat) (hw : w = 5) : ((leadsN 0 ++ leadsN 1 ++ leadsN 2 ++ leadsN 3).map fun l => callV CE (.raw (.ref 100)) [.f (.str (l ++ wordS w))] [] [.list a, .list b, .list c] k) =
  (leadsN 0 ++ leadsN 1 ++ leadsN 2 ++ leadsN 3).map fun l => k (.f (wsOf (scanL l) (l ++ wordS w))) [.list a, .list b, .list c] := by subst hw; kernel_rfl
theorem ws6 (a b c : List F) (k : KV R) (w : Nat) (hw : w = 6) : ((leadsN 0 ++ leadsN 1 ++ leadsN 2 ++ leadsN 3).map fun l => callV CE (.raw (.ref 100)) [.f (.str (l ++ wordS w))] [] [.list a, .list b, .list c] k) =
  (leadsN 0 ++ leadsN 1 ++ leadsN 2 ++ leadsN 3).map fun l => k (.f (wsOf (scanL l) (l ++ wordS w))) [.list a, .list b, .list c] := by subst hw; kernel_rfl
theorem ws7 (a b c : List F) (k : KV R) (w : Nat) (hw : w = 7) : ((leadsN 0 ++ leadsN 1 ++ leadsN 2 ++ leadsN 3).map fun l => callV CE (.raw (.ref 100)) [.f (.str (l ++ wordS w))] [] [.list a, .list b, .list c] k) =
  (leadsN 0 ++ leadsN 1 ++ leadsN 2 ++ leadsN 3).map fun l => k (.f (wsOf (scanL l) (l ++ wordS w))) [.list a, .list b, .list c] := by subst hw; kernel_rfl
theorem ws8 (a b c : List F) (k : KV R) (w : Nat) (hw : w = 8) : ((leadsN 0 ++ leadsN 1 ++ leadsN 2 ++ leadsN 3).map fun l => callV CE (.raw (.ref 100)) [.f (.str (l ++ wordS w))] [] [.list a, .list b, .list c] k) =
  (leadsN 0 ++ leadsN 1 ++ leadsN 2 ++ leadsN 3).map fun l => k (.f (wsOf (scanL l) (l ++ wordS w))) [.list a, .list b, .list c] := by subst hw; kernel_rfl
theorem wsAll (a b c : List F) (k : KV R) (w : Nat) (hw : w < 9) (n : Nat) (hn : n < 4) (l : Str) (hl : l ∈ leadsN n) : callV CE (.raw (.ref 100)) [.f (.str (l ++ wordS w))] [] [.list a, .list b, .list c] k = k (.f (wsOf (scanL l) (l ++ wordS w))) [.list a, .list b, .list c] := by
 have hm : l ∈ leadsN 0 ++ leadsN 1 ++ leadsN 2 ++ leadsN 3 := by
  simp only [List.mem_append]
  match n, hn with
  | 0, _ => exact .inl (.inl (.inl hl))
  | 1, _ => exact .inl (.inl (.inr hl))
  | 2, _ => exact .inl (.inr hl)
  | 3, _ => exact .inr hl
 have he : ((leadsN 0 ++ leadsN 1 ++ leadsN 2 ++ leadsN 3).map fun l => callV CE (.raw (.ref 100)) [.f (.str (l ++ wordS w))] [] [.list a, .list b, .list c] k) =
   (leadsN 0 ++ leadsN 1 ++ leadsN 2 ++ leadsN 3).map fun l => k (.f (wsOf (scanL l) (l ++ wordS w))) [.list a, .list b, .list c] := by
  match w, hw with
  | 0, _ => exact ws0 a b c k 0 rfl
  | 1, _ => exact ws1 a b c k 1 rfl
  | 2, _ => exact ws2 a b c k 2 rfl
  | 3, _ => exact ws3 a b c k 3 rfl
  | 4, _ => exact ws4 a b c k 4 rfl
  | 5, _ => exact ws5 a b c k 5 rfl
  | 6, _ => exact ws6 a b c k 6 rfl
  | 7, _ => exact ws7 a b c k 7 rfl
  | 8, _ => exact ws8 a b c k 8 rfl
 exact map_at he l hm
abbrev CO : Cl R := ext CN 293 S293
abbrev CP : Cl R := ext CO 298 S298
abbrev CQ : Cl R := ext CP 288 S288
abbrev CS0 : Cl R := ext CQ 305 (S305 0)
abbrev CS1 : Cl R := ext CS0 305 (S305 1)
abbrev CS2 : Cl R := ext CS1 305 (S305 2)
abbrev CS3 : Cl R := ext CS2 305 (S305 3)
abbrev CS4 : Cl R := ext CS3 305 (S305 4)
abbrev CT : Cl R := ext CS4 312 S312
theorem s305_0 (C : Cl R) : ∀ args kws h k r, S305 0 args kws h k = some r → callFn Pr C 305 args kws h k = some r := by
 intro args kws h k r e
 unfold S305 at e
 split at e
 ·obtain ⟨rs, h1, e1⟩ := obind_some' e
  obtain ⟨sc, h2, e2⟩ := obind_some' e1
  obtain ⟨bk, h3, e3⟩ := obind_some' e2
  obtain ⟨rc, h4, e4⟩ := obind_some' e3
  obtain ⟨g, e5⟩ := guardB_some' e4
  obtain ⟨q, e6, e7⟩ := obind_some' e5
  cases e6
 ·cases e
theorem kn0 : Kn (R := R) CS0 0 := ⟨fun _ _ _ _ => rfl, fun _ _ _ _ => rfl, fun _ _ _ _ => rfl, fun _ _ _ _ => rfl, fun _ _ _ _ => rfl⟩
theorem kn1 : Kn (R := R) CS1 1 := ⟨fun _ _ _ _ => rfl, fun _ _ _ _ => rfl, fun _ _ _ _ => rfl, fun _ _ _ _ => rfl, fun _ _ _ _ => rfl⟩
theorem kn2 : Kn (R := R) CS2 2 := ⟨fun _ _ _ _ => rfl, fun _ _ _ _ => rfl, fun _ _ _ _ => rfl, fun _ _ _ _ => rfl, fun _ _ _ _ => rfl⟩
theorem kn3 : Kn (R := R) CS3 3 := ⟨fun _ _ _ _ => rfl, fun _ _ _ _ => rfl, fun _ _ _ _ => rfl, fun _ _ _ _ => rfl, fun _ _ _ _ => rfl⟩
theorem tower : Tow 24 CT :=
 have t0 := Tow.zero
 have t1 := t0.step (a0 := 135) (S := S135) (s135 _)
 have t2 := t1.step (a0 := 62) (S := S62) (s62 _)
 have t3 := t2.step (a0 := 69) (S := S69) (s69 _)
 have t4 := t3.step (a0 := 90) (S := S90) s90
 have t5 := t4.step (a0 := 55) (S := callFn Pr CD 55) (fun _ _ _ _ _ e => e)
 have t6 := t5.step (a0 := 180) (S := S180) (s180 _)
 have t7 := t6.step (a0 := 243) (S := S243) (s243 _)
 have t8 := t7.step (a0 := 158) (S := S158) (s158 _)
 have t9 := t8.step (a0 := 226) (S := S226) s226
 have t10 := t9.step (a0 := 218) (S := S218) s218'
 have t11 := t10.step (a0 := 276) (S := S276) s276
 have t12 := t11.step (a0 := 269) (S := S269) s269
 have t13 := t12.step (a0 := 118) (S := S118) s118
 have t14 := t13.step (a0 := 125) (S := S125) s125
 have t15 := t14.step (a0 := 293) (S := S293) (s293 _)
 have t16 := t15.step (a0 := 298) (S := S298) (s298 _)
 have t17 := t16.step (a0 := 288) (S := S288) (s288 _)
 have t18 := t17.step (a0 := 305) (S := S305 0) (s305_0 _)
 have t19 := t18.step (a0 := 305) (S := S305 1) (s305 kn0)
 have t20 := t19.step (a0 := 305) (S := S305 2) (s305 kn1)
 have t21 := t20.step (a0 := 305) (S := S305 3) (s305 kn2)
 have t22 := t21.step (a0 := 305) (S := S305 4) (s305 kn3)
 t22.step (a0 := 312) (S := S312) (s312 (fun _ _ _ _ => rfl) (fun _ _ _ _ => rfl))
abbrev lsc : Scope := fiLaw.scope
abbrev bdL : List Stmt := fiLaw.body
theorem bdL_0 : bdL = nthS bdL 0 :: nthS bdL 1 :: nthS bdL 2 :: nthS bdL 3 :: nthS bdL 4 :: nthS bdL 5 :: dropS bdL 6 := by kernel_rfl
def lcL0 (scr dr ov ld wd : List F) : Lc := [("script", .f (.lst scr)), ("draws", .f (.lst dr)), ("over", .f (.lst ov)), ("leads", .f (.lst ld)), ("words", .f (.lst wd))]
def lcL1 (scr dr ov ld wd : List F) (o : Option (Int × Option Str)) : Lc := lcL0 scr dr ov ld wd ++ ([("scores", .hdr 0), ("laid", .loc 1)] : Lc) ++ (match o with
 | none => []
 | some (j, none) => [("j", .f (.int j))]
 | some (j, some w) => [("j", .f (.int j)), ("worth", .f (.str w))])
def wOf : Option (Int × Option Str) → Option Str
 | none => none
 | some (_, w) => w
abbrev tL1 : PySem.Expr := fT (nthS bdL 2)
abbrev bL1 : List Stmt := fB (nthS bdL 2)
section
variable (C : Cl R) (scr dr ov ld wd : List F)
theorem c317 (k : KV R) : callFn Pr C 317 [.f (.lst scr)] [] [] k = (evr Pr C 60).exs lsc [("script", .f (.lst scr))] [] bdL (retS [] k) := by kernel_rfl
theorem c317a (K : KS R) : (evr Pr C 59).ex lsc [("script", .f (.lst scr))] [] (nthS bdL 0) K = C 288 [.f (.lst scr)] [] [] fun v h => obind (asgTarget lsc (asT (nthS bdL 0)) v [("script", .f (.lst scr))] h) fun lc => K .next lc h := by kernel_rfl
theorem c317b (h : H) (K : Lc → Option R) : obind (asgTarget lsc (asT (nthS bdL 0)) (.f (.tup [.lst dr, .lst ov, .lst ld, .lst wd])) [("script", .f (.lst scr))] h) K = K (lcL0 scr dr ov ld wd) := by kernel_rfl
theorem c317c (K : KS R) : (evr Pr C 58).ex lsc (lcL0 scr dr ov ld wd) [] (nthS bdL 1) K = K .next (lcL1 scr dr ov ld wd none) [.list [], .list []] := by kernel_rfl
theorem c317d (lc : Lc) (h : H) (K : KS R) : (evr Pr C 57).ex lsc lc h (nthS bdL 2) K = iterE Pr (evr Pr C 56) lsc lc h (fI (nthS bdL 2)) (fun it h1 => forIt (evr Pr C 56) lsc tL1 bL1 lc h1 K it) := by
 rw [show nthS bdL 2 = .For (fT (nthS bdL 2)) (fI (nthS bdL 2)) (fB (nthS bdL 2)) [] (fP (nthS bdL 2)) from by kernel_rfl]
 exact for_ex
theorem c317e (h : H) (K : It → H → Option R) : iterE Pr (evr Pr C 56) lsc (lcL1 scr dr ov ld wd none) h (fI (nthS bdL 2)) K = K (.fixed ((rangeUp 0 10).map fun i => .f (.int i))) h := by kernel_rfl
theorem c317f (j : Int) (o : Option (Int × Option Str)) (r : List V) (h : H) (K : KS R) : forFix (evr Pr C 56) lsc tL1 bL1 (.f (.int j) :: r) (lcL1 scr dr ov ld wd o) h K =
  subscr (.f (.lst wd)) (.f (.int j)) h fun v h1 => cmp .NotIn v (.f (.lst [.str "<", .str ">"])) h1 fun b => br b
   ((evr Pr C 54).exs lsc (lcL1 scr dr ov ld wd (some (j, wOf o))) h1 (ifAe (nthS bL1 0)) (restK (evr Pr C 55) lsc [] (turnF K fun lc2 h2 => forFix (evr Pr C 56) lsc tL1 bL1 r lc2 h2 K)))
   (forFix (evr Pr C 56) lsc tL1 bL1 r (lcL1 scr dr ov ld wd (some (j, wOf o))) h1 K) := by rcases o with _ | ⟨_, _ | _⟩ <;> kernel_rfl
end
abbrev leafL : List Stmt := ifAe (nthS bL1 0)
abbrev ifL : Stmt := nthS leafL 1
abbrev if2L : Stmt := nthS (ifBe ifL) 0
def cmpL : PySem.Expr → PySem.Expr
 | .Compare l _ _ _ => l
 | _ => .Tuple [] 0 default
abbrev lcL : PySem.Expr := cmpL (ifTe if2L)
abbrev qL : Scope := relabelS (lcS lcL) lsc
section
variable (C : Cl R) (scr dr ov ld wd sc la : List F)
theorem c317g (j : Int) (w : Option Str) (h : H) (K : KS R) : (evr Pr C 54).exs lsc (lcL1 scr dr ov ld wd (some (j, w))) h leafL K =
  subscr (.f (.lst dr)) (.f (.int j)) h fun v h1 => binop false .FloorDiv v (.f (.int 84)) h1 fun v2 h2 => binop false .Mod v2 (.f (.int 8)) h2 fun v3 h3 => binop false .Add (.f (.int 1)) v3 h3 fun v4 h4 => asInt v4 fun i => obind (digitText i) fun s =>
   (evr Pr C 53).exs lsc (lcL1 scr dr ov ld wd (some (j, some s))) h4 (dropS leafL 1) K := by rcases w with _ | _ <;> kernel_rfl
theorem c317h (j : Int) (s : Str) (h : H) (K : KS R) : (evr Pr C 53).exs lsc (lcL1 scr dr ov ld wd (some (j, some s))) h (dropS leafL 1) K =
  subscr (.f (.lst dr)) (.f (.int j)) h fun v h1 => binop false .FloorDiv v (.f (.int 4032)) h1 fun v2 h2 => binop false .Mod v2 (.f (.int 2)) h2 fun v3 h3 => eqV v3 (.f (.int 1)) h3 fun b => br b
   ((evr Pr C 51).exs lsc (lcL1 scr dr ov ld wd (some (j, some s))) h3 (ifAe ifL) (restK (evr Pr C 52) lsc [] K)) ((evr Pr C 51).exs lsc (lcL1 scr dr ov ld wd (some (j, some s))) h3 (ifBe ifL) (restK (evr Pr C 52) lsc [] K)) := by kernel_rfl
theorem c317i (j : Int) (s : Str) (h : H) (K : KS R) : (evr Pr C 51).exs lsc (lcL1 scr dr ov ld wd (some (j, some s))) h (ifAe ifL) (restK (evr Pr C 52) lsc [] K) =
  subscr (.f (.lst wd)) (.f (.int j)) h fun v h1 => C 276 [.hdr 0, v, .f (.str s)] [] h1 fun _ h2 => guardB (okMeth Pr "append" h2 (.loc 1)) (subscr (.f (.lst wd)) (.f (.int j)) h2 fun u h3 => methV Pr C (.loc 1) "append" [mkTup [u, .f (.str s)]] [] h3 fun _ h4 => K .next (lcL1 scr dr ov ld wd (some (j, some s))) h4) := by kernel_rfl
def setX (C : Cl R) (scr dr ov ld wd : List F) (j : Int) (s : Str) (K : KS R) (h : H) : Option R := subscr (.f (.lst wd)) (.f (.int j)) h fun v h1 => C 269 [.hdr 0, v, .f (.str s)] [] h1 fun _ h2 => K .next (lcL1 scr dr ov ld wd (some (j, some s))) h2
theorem c317j (j : Int) (s : Str) (K : KS R) : (evr Pr C 51).exs lsc (lcL1 scr dr ov ld wd (some (j, some s))) [.list sc, .list la] (ifBe ifL) (restK (evr Pr C 52) lsc [] K) =
  compLive (evr Pr C 47) qL (cellsOnly qL (lcL1 scr dr ov ld wd (some (j, some s)))) "one" (lcE lcL) (lcI lcL) 1 100 0 [] [.list sc, .list la] fun acc h1 => eqG (toPy (.lst acc)) (toPy (.lst [])) fun b => br b
   (guardB (okMeth Pr "append" h1 (.loc 1)) (subscr (.f (.lst wd)) (.f (.int j)) h1 fun u h3 => methV Pr C (.loc 1) "append" [mkTup [u, .f (.str s)]] [] h3 fun _ h4 => setX C scr dr ov ld wd j s K h4))
   (setX C scr dr ov ld wd j s K h1) := by kernel_rfl
theorem c317k (j : Int) (s : Str) (p : Str × Str) (acc : List F) (h : H) (K : List F → H → Option R) : compOne (evr Pr C 47) qL (cellsOnly qL (lcL1 scr dr ov ld wd (some (j, some s)))) "one" (lcE lcL) (lcI lcL) (.f (pairF p)) acc h K =
  guardB (fitS p.1) (subscr (.f (.lst wd)) (.f (.int j)) h fun v h1 => guardB (okMeth Pr "lower" h1 v) (methV Pr C v "lower" [] [] h1 fun u h2 => eqV (.f (.str (Txt.lower p.1))) u h2 fun b => br b (K (acc ++ [pairF p]) h2) (K acc h2))) := by kernel_rfl
end
def isW : Nat → Bool
 | 0 => false
 | 1 => false
 | _ => true
theorem word_cases {i : Nat} (P : Nat → Prop) (hi : i < 9) (h0 : P 0) (h1 : P 1) (h2 : P 2) (h3 : P 3) (h4 : P 4) (h5 : P 5) (h6 : P 6) (h7 : P 7) (h8 : P 8) : P i := by
 match i, hi with
 | 0, _ => exact h0
 | 1, _ => exact h1
 | 2, _ => exact h2
 | 3, _ => exact h3
 | 4, _ => exact h4
 | 5, _ => exact h5
 | 6, _ => exact h6
 | 7, _ => exact h7
 | 8, _ => exact h8
theorem notin_w {i : Nat} (hi : i < 9) (h : H) (k : Bool → Option R) : cmp .NotIn (.f (.str (wordS i))) (.f (.lst [.str "<", .str ">"])) h k = k (isW i) := by
 apply word_cases (fun i => cmp .NotIn (.f (.str (wordS i))) (.f (.lst [.str "<", .str ">"])) h k = k (isW i)) hi <;> kernel_rfl
def okPs (l : List (Str × Str)) : Bool := l.all fun p => PyData.strOk p.1 && PyData.strOk p.2
theorem toPys_map {α : Type} (f : α → F) : ∀ l : List α, toPys (l.map f) = l.map fun x => toPy (f x)
 | [] => rfl
 | x :: r => by
  show toPy (f x) :: toPys (r.map f) = _
  rw [toPys_map f r]; rfl
theorem lay_ps : ∀ l : List (Str × Str), okPs l = true → PyData.canLayAll0 (l.map fun p => toPy (pairF p)) = true
 | [], _ => rfl
 | p :: r, h => by
  unfold okPs at h
  rw [List.all_cons, Bool.and_eq_true, Bool.and_eq_true] at h
  show ((PyData.strOk p.1 && (PyData.strOk p.2 && true)) && PyData.canLayAll0 (r.map fun p => toPy (pairF p))) = true
  rw [lay_ps r h.2, h.1.1, h.1.2]; rfl
theorem depth_ps : ∀ l : List (Str × Str), PyData.depthAll (l.map fun p => toPy (pairF p)) ≤ 1
 | [] => Nat.zero_le _
 | p :: r => by
  have := depth_ps r
  show max (max 0 (max 0 0) + 1) (PyData.depthAll (r.map fun p => toPy (pairF p))) ≤ 1
  omega
theorem shaped_ps (l : List (Str × Str)) (h : okPs l = true) : SeqAt.shaped (toPy (.lst (l.map pairF))) = true := by
 show (PyData.canLayAll0 (toPys (l.map pairF)) && decide (PyData.depthAll (toPys (l.map pairF)) + 1 ≤ 64)) = true
 rw [toPys_map, lay_ps l h, decide_eq_true (by have := depth_ps l; omega)]; rfl
theorem eqv_self_ps : ∀ l : List (Str × Str), PyData.eqvAll (l.map fun p => toPy (pairF p)) (l.map fun p => toPy (pairF p)) = true
 | [] => rfl
 | p :: r => by
  show (((p.1 == p.1) && ((p.2 == p.2) && true)) && PyData.eqvAll (r.map fun p => toPy (pairF p)) (r.map fun p => toPy (pairF p))) = true
  rw [eqv_self_ps r]; simp
theorem eqG_self (l : List (Str × Str)) (h : okPs l = true) (k : Bool → Option R) : eqG (toPy (.lst (l.map pairF))) (toPy (.lst (l.map pairF))) k = k true := by
 unfold eqG
 rw [shaped_ps l h]
 show k (PyData.eqvAll (toPys (l.map pairF)) (toPys (l.map pairF))) = _
 rw [toPys_map, eqv_self_ps]
theorem eqG_nil (l : List (Str × Str)) (h : okPs l = true) (k : Bool → Option R) : eqG (toPy (.lst (l.map pairF))) (toPy (.lst [])) k = k l.isEmpty := by
 unfold eqG
 rw [shaped_ps l h]
 cases l <;> rfl
def hsame (nm : Str) : List (Str × Str) → List (Str × Str)
 | [] => []
 | p :: r => match steq (Txt.lower p.1) nm with
  | true => p :: hsame nm r
  | false => hsame nm r
theorem hsame_ok (nm : Str) : ∀ l : List (Str × Str), okPs l = true → okPs (hsame nm l) = true
 | [], h => h
 | p :: r, h => by
  unfold okPs at h
  rw [List.all_cons, Bool.and_eq_true] at h
  have ih := hsame_ok nm r h.2
  rw [show hsame nm (p :: r) = (match steq (Txt.lower p.1) nm with | true => p :: hsame nm r | false => hsame nm r) from rfl]
  split
  ·unfold okPs at ih ⊢
   rw [List.all_cons, h.1, ih]; rfl
  ·exact ih
theorem hsame_nil (nm : Str) : ∀ l : List (Str × Str), (hsame nm l).isEmpty = (hfind nm l).isNone
 | [] => rfl
 | p :: r => by
  rw [show hsame nm (p :: r) = (match steq (Txt.lower p.1) nm with | true => p :: hsame nm r | false => hsame nm r) from rfl]
  rw [show hfind nm (p :: r) = (match steq (Txt.lower p.1) nm with | true => some p.2 | false => hfind nm r) from rfl]
  cases steq (Txt.lower p.1) nm
  ·exact hsame_nil nm r
  ·rfl
section
variable (C : Cl R)
theorem loop317l (scr dr ov ldF sc : List F) (wd : List Str) (la : List (Str × Str)) (j : Int) (s : Str) (j0 : 0 ≤ j) (j1 : j < 10) (hw : wd.length = 10) (hd : fitS (gS wd j) = true) (hf : la.all (fun p => fitS p.1) = true) (K : List F → H → Option R) :
  ∀ (m i : Nat) (acc : List F), i ≤ la.length → la.length < m + i →
  compLive (evr Pr C 47) qL (cellsOnly qL (lcL1 scr dr ov ldF (wd.map .str) (some (j, some s)))) "one" (lcE lcL) (lcI lcL) 1 m i acc [.list sc, .list (la.map pairF)] K = K (acc ++ (hsame (Txt.lower (gS wd j)) (la.drop i)).map pairF) [.list sc, .list (la.map pairF)]
 | 0, i, acc, hj0, hm => by omega
 | m + 1, i, acc, hj0, hm => by
  have ih := fun acc hj => loop317l scr dr ov ldF sc wd la j s j0 j1 hw hd hf K m (i + 1) acc hj (by omega)
  by_cases hj : i < la.length
  ·have hx : (la.map pairF)[i]? = some (pairF la[i]) := by simp [hj]
   have hp : fitS (la[i]).1 = true := List.all_eq_true.mp hf _ (List.getElem_mem hj)
   rw [compLive_step (l := la.map pairF) rfl hx, c317k, guardB_t hp, subscr_lst (by rw [List.length_map]; omega) j0 (at_str (by omega))]
   show guardB (fitS (gS wd j)) (br (steq (Txt.lower (la[i]).1) (Txt.lower (gS wd j))) _ _) = _
   rw [guardB_t hd, List.drop_eq_getElem_cons hj, ih _ (by omega), ih _ (by omega)]
   rw [show hsame (Txt.lower (gS wd j)) (la[i] :: la.drop (i + 1)) = (match steq (Txt.lower la[i].1) (Txt.lower (gS wd j)) with | true => la[i] :: hsame (Txt.lower (gS wd j)) (la.drop (i + 1)) | false => hsame (Txt.lower (gS wd j)) (la.drop (i + 1))) from rfl]
   cases steq (Txt.lower la[i].1) (Txt.lower (gS wd j))
   ·rfl
   ·show K ((acc ++ [pairF la[i]]) ++ _) _ = K (acc ++ (pairF la[i] :: _)) _
    rw [List.append_assoc]; rfl
  ·have hx : (la.map pairF)[i]? = none := by simp; omega
   rw [compLive_end (l := la.map pairF) rfl hx, List.drop_eq_nil_of_le (by omega)]
   show K acc _ = K (acc ++ []) _
   rw [List.append_nil]
end
def dgS (i : Int) : Str := ⟨#[48 + i.toNat]⟩
theorem digit_t {i : Int} (h0 : 0 ≤ i) (h1 : i ≤ 9) : digitText i = some (dgS i) := by
 unfold digitText
 rw [decide_eq_true h0, decide_eq_true h1]; rfl
theorem dg_cases {i : Int} (P : Int → Prop) (h0 : 0 ≤ i) (h1 : i ≤ 9) (h : ∀ n : Nat, n < 10 → P n) : P i := by
 have := h i.toNat (by omega)
 rwa [Int.toNat_of_nonneg h0] at this
def dgG (i : Int) : Bool := fitS (dgS i) && calm (dgS i) && PyData.strOk (dgS i) && (match digitVal (dgS i) with | some k => decide (k = i) | none => false)
theorem dg_fin : ((List.range 10).all fun n => dgG (n : Int)) = true := by kernel_rfl
theorem dg_ok {i : Int} (h0 : 0 ≤ i) (h1 : i ≤ 9) : fitS (dgS i) = true ∧ calm (dgS i) = true ∧ PyData.strOk (dgS i) = true ∧ digitVal (dgS i) = some i := by
 have h : dgG i = true := dg_cases (fun i => dgG i = true) h0 h1 fun n hn => List.all_eq_true.mp dg_fin n (List.mem_range.mpr hn)
 unfold dgG at h
 simp only [Bool.and_eq_true] at h
 obtain ⟨⟨⟨a, b⟩, c⟩, d⟩ := h
 refine ⟨a, b, c, ?_⟩
 split at d
 ·rename_i k hk
  rw [hk, of_decide_eq_true d]
 ·cases d
def wdG (i : Nat) : Bool := fitS (wordS i) && calm (wordS i) && PyData.strOk (wordS i) && fitS (Txt.lower (wordS i)) && calm (Txt.lower (wordS i))
theorem wd_fin : ((List.range 9).all wdG) = true := by kernel_rfl
theorem wd_ok {i : Nat} (h : i < 9) : fitS (wordS i) = true ∧ calm (wordS i) = true ∧ PyData.strOk (wordS i) = true ∧ fitS (Txt.lower (wordS i)) = true ∧ calm (Txt.lower (wordS i)) = true := by
 have h := List.all_eq_true.mp wd_fin i (List.mem_range.mpr h)
 unfold wdG at h
 simp only [Bool.and_eq_true] at h
 obtain ⟨⟨⟨⟨a, b⟩, c⟩, d⟩, e⟩ := h
 exact ⟨a, b, c, d, e⟩
def worthT (dr : List Int) (j : Int) : Int := 1 + ((gI dr j).fdiv 84).fmod 8
theorem worth_rng (dr : List Int) (j : Int) : 1 ≤ worthT dr j ∧ worthT dr j ≤ 8 := by
 unfold worthT
 have h1 := Int.fmod_nonneg_of_pos ((gI dr j).fdiv 84) (b := 8) (by omega)
 have h2 := Int.fmod_lt_of_pos ((gI dr j).fdiv 84) (b := 8) (by omega)
 omega
def flagT (dr : List Int) (j : Int) : Bool := decide (((gI dr j).fdiv 4032).fmod 2 = 1)
def scoreT (wi : Int → Nat) (dr : List Int) (j : Int) (l : List (Str × Str)) : List (Str × Str) := match isW (wi j) with
 | false => l
 | true => match flagT dr j || (hfind (Txt.lower (wordS (wi j))) l).isNone with
  | true => l ++ [(wordS (wi j), dgS (worthT dr j))]
  | false => l
def scoreL (wi : Int → Nat) (dr : List Int) : List Int → List (Str × Str) → List (Str × Str)
 | [], l => l
 | j :: r, l => scoreL wi dr r (scoreT wi dr j l)
def okSc (l : List (Str × Str)) : Prop := ∀ p ∈ l, ∃ i : Nat, ∃ d : Int, i < 9 ∧ 1 ≤ d ∧ d ≤ 8 ∧ p = (wordS i, dgS d)
def dgH (i : Int) : Bool := steq (Txt.join "; " [dgS i]) (dgS i) && decide (sumLen "; " [dgS i] ≤ 100000)
theorem dgh_fin : ((List.range 10).all fun n => dgH (n : Int)) = true := by kernel_rfl
theorem dgh_ok {i : Int} (h0 : 0 ≤ i) (h1 : i ≤ 9) : Txt.join "; " [dgS i] = dgS i ∧ sumLen "; " [dgS i] ≤ 100000 := by
 have h : dgH i = true := dg_cases (fun i => dgH i = true) h0 h1 fun n hn => List.all_eq_true.mp dgh_fin n (List.mem_range.mpr hn)
 unfold dgH at h
 rw [Bool.and_eq_true] at h
 exact ⟨steqS _ _ h.1, of_decide_eq_true h.2⟩
theorem okSc_fit {l : List (Str × Str)} (h : okSc l) : l.all (fun p => fitS p.1) = true := by
 rw [List.all_eq_true]
 intro p hp
 obtain ⟨i, d, h1, _, _, rfl⟩ := h p hp
 exact (wd_ok h1).1
theorem okSc_ps {l : List (Str × Str)} (h : okSc l) : okPs l = true := by
 unfold okPs
 rw [List.all_eq_true]
 intro p hp
 obtain ⟨i, d, h1, h2, h3, rfl⟩ := h p hp
 rw [(wd_ok h1).2.2.1, (dg_ok (by omega) (by omega)).2.2.1]; rfl
theorem okSc_app {l : List (Str × Str)} (h : okSc l) {i : Nat} {d : Int} (h1 : i < 9) (h2 : 1 ≤ d) (h3 : d ≤ 8) : okSc (l ++ [(wordS i, dgS d)]) := by
 intro p hp
 rcases List.mem_append.mp hp with h4 | h4
 ·exact h p h4
 ·cases h4 with
  | head => exact ⟨i, d, h1, h2, h3, rfl⟩
  | tail _ h => cases h
theorem scoreT_ok {wi : Int → Nat} {dr : List Int} {j : Int} {l : List (Str × Str)} (hw : wi j < 9) (h : okSc l) : okSc (scoreT wi dr j l) ∧ (scoreT wi dr j l).length ≤ l.length + 1 := by
 unfold scoreT
 have := worth_rng dr j
 split
 ·exact ⟨h, by omega⟩
 ·split
  ·exact ⟨okSc_app h hw this.1 this.2, by simp⟩
  ·exact ⟨h, by omega⟩
theorem S276_a {i : Nat} {d : Int} (hi : i < 9) (h0 : 0 ≤ d) (h1 : d ≤ 9) (l : List (Str × Str)) (hl : l.length ≤ 50) (ld : List F) (k : KV R) :
  S276 [.hdr 0, .f (.str (wordS i)), .f (.str (dgS d))] [] [.list (l.map pairF), .list ld] k = k (.f .none) [.list ((l ++ [(wordS i, dgS d)]).map pairF), .list ld] := by
 obtain ⟨a1, a2, a3, a4⟩ := dg_ok h0 h1
 obtain ⟨b1, b2, b3, b4, b5⟩ := wd_ok hi
 obtain ⟨c1, c2⟩ := dgh_ok h0 h1
 show S276a (wordS i) (dgS d) (l.map pairF) ld k = _
 unfold S276a
 rw [guardB_t (by rw [a1, a2]; rfl), guardB_t (by rw [b1, b2]; rfl), guardB_t (decide_eq_true c2), guardB_t (fit100 (by rw [List.length_map]; omega)), c1, List.map_append]
 rfl
theorem S269_a {i : Nat} {d : Int} (hi : i < 9) (h0 : 0 ≤ d) (h1 : d ≤ 9) (l : List (Str × Str)) (hl : l.length ≤ 50) (hk : okSc l) (ld : List F) (k : KV R) (kk : V) (hkk : ∀ v h, k v h = k kk h) :
  S269 [.hdr 0, .f (.str (wordS i)), .f (.str (dgS d))] [] [.list (l.map pairF), .list ld] k = k kk [.list ((match (hfind (Txt.lower (wordS i)) l).isNone with | true => l ++ [(wordS i, dgS d)] | false => l).map pairF), .list ld] := by
 obtain ⟨a1, a2, a3, a4⟩ := dg_ok h0 h1
 obtain ⟨b1, b2, b3, b4, b5⟩ := wd_ok hi
 show obind (unpair (l.map pairF)) _ = _
 rw [unpair_map, obind_s, guardB_t (by rw [b1, b4, b5, decide_eq_true hl, okSc_fit hk]; rfl)]
 unfold cont269
 cases hf : hfind (Txt.lower (wordS i)) l with
 | none =>
  show guardB (fitS (wordS i) && calm (wordS i)) _ = _
  rw [guardB_t (by rw [b1, b2]; rfl), guardB_t (by rw [a1, a2]; rfl), guardB_t (fit100 (by rw [List.length_map]; omega)), hkk, show ((none : Option Str).isNone) = true from rfl]
  dsimp only
  rw [List.map_append]; rfl
 | some x =>
  show k (.f (.str x)) [.list (l.map pairF), .list ld] = _
  rw [hkk]; rfl
theorem ct276 (a : List V) (s : List (Str × V)) (h : H) (k : KV R) : CT 276 a s h k = S276 a s h k := by kernel_rfl
theorem ct269 (a : List V) (s : List (Str × V)) (h : H) (k : KV R) : CT 269 a s h k = S269 a s h k := by kernel_rfl
theorem ct288 (a : List V) (s : List (Str × V)) (h : H) (k : KV R) : CT 288 a s h k = S288 a s h k := by kernel_rfl
theorem ct293 (a : List V) (s : List (Str × V)) (h : H) (k : KV R) : CT 293 a s h k = S293 a s h k := by kernel_rfl
theorem ct298 (a : List V) (s : List (Str × V)) (h : H) (k : KV R) : CT 298 a s h k = S298 a s h k := by kernel_rfl
theorem ct305 (a : List V) (s : List (Str × V)) (h : H) (k : KV R) : CT 305 a s h k = S305 4 a s h k := by kernel_rfl
theorem ct118 (a : List V) (s : List (Str × V)) (h : H) (k : KV R) : CT 118 a s h k = S118 a s h k := by kernel_rfl
theorem ct125 (a : List V) (s : List (Str × V)) (h : H) (k : KV R) : CT 125 a s h k = S125 a s h k := by kernel_rfl
theorem ct218 (a : List V) (s : List (Str × V)) (h : H) (k : KV R) : CT 218 a s h k = S218 a s h k := by kernel_rfl
theorem ct243 (a : List V) (s : List (Str × V)) (h : H) (k : KV R) : CT 243 a s h k = S243 a s h k := by kernel_rfl
theorem ct312 (a : List V) (s : List (Str × V)) (h : H) (k : KV R) : CT 312 a s h k = S312 a s h k := by kernel_rfl
theorem add_t {a b : Int} {h : H} {k : KV R} : binop false .Add (.f (.int a)) (.f (.int b)) h k = k (.f (.int (a + b))) h := rfl
theorem asInt_t {a : Int} {β : Type} {k : Int → Option β} : asInt (.f (.int a)) k = k a := rfl
section
variable (scr ovF ldF : List F) (dr : List Int) (wd : List Str) (wi : Int → Nat) (h1 : dr.length = 10) (h2 : wd.length = 10) (hw : ∀ j : Int, 0 ≤ j → j < 10 → wi j < 9 ∧ gS wd j = wordS (wi j))
include h1 h2 hw
theorem turn317 (j : Int) (j0 : 0 ≤ j) (j1 : j < 10) (o : Option (Int × Option Str)) (l : List (Str × Str)) (hl : l.length ≤ 40) (hk : okSc l) (r : List V) (K : KS R) :
  ∃ o' : Option (Int × Option Str), o'.isSome = true ∧ forFix (evr Pr CT 56) lsc tL1 bL1 (.f (.int j) :: r) (lcL1 scr (dr.map .int) ovF ldF (wd.map .str) o) [.list (l.map pairF), .list (l.map pairF)] K =
   forFix (evr Pr CT 56) lsc tL1 bL1 r (lcL1 scr (dr.map .int) ovF ldF (wd.map .str) o') [.list ((scoreT wi dr j l).map pairF), .list ((scoreT wi dr j l).map pairF)] K := by
 obtain ⟨w1, w2⟩ := hw j j0 j1
 obtain ⟨r1, r2⟩ := worth_rng dr j
 have hd : fitS (gS wd j) = true := by rw [w2]; exact (wd_ok w1).1
 rw [c317f, subscr_lst (by rw [List.length_map]; omega) j0 (at_str (by omega))]
 show ∃ o' : Option (Int × Option Str), o'.isSome = true ∧ cmp .NotIn (.f (.str (gS wd j))) _ _ _ = _
 rw [w2, notin_w w1]
 unfold scoreT
 cases isW (wi j) with
 | false => exact ⟨some (j, wOf o), rfl, rfl⟩
 | true =>
  rw [br_t, c317g, subscr_lst (by rw [List.length_map]; omega) j0 (at_int (by omega))]
  rw [fdiv_t (by decide), fmod_t (by decide), add_t, asInt_t, show 1 + ((gI dr j).fdiv 84).fmod 8 = worthT dr j from rfl]
  rw [digit_t (by omega) (by omega), obind_s, c317h, subscr_lst (by rw [List.length_map]; omega) j0 (at_int (by omega)), fdiv_t (by decide), fmod_t (by decide)]
  rw [show ∀ (a b : Int) (h : H) (k : Bool → Option R), eqV (.f (.int a)) (.f (.int b)) h k = k (decide (a = b)) from fun _ _ _ _ => rfl, show decide (((gI dr j).fdiv 4032).fmod 2 = 1) = flagT dr j from rfl]
  refine ⟨some (j, some (dgS (worthT dr j))), rfl, ?_⟩
  cases flagT dr j with
  | true =>
   rw [br_t, c317i, subscr_lst (by rw [List.length_map]; omega) j0 (at_str (by omega)), w2]
   rw [ct276, S276_a w1 (by omega) (by omega) l (by omega), guardB_t (okm_list (i := 1) rfl), subscr_lst (by rw [List.length_map]; omega) j0 (at_str (by omega)), w2]
   show methV Pr _ (.loc 1) "append" [.f (pairF (wordS (wi j), dgS (worthT dr j)))] [] _ _ = _
   rw [meth_app _ (i := 1) rfl (by rw [List.length_map]; omega)]
   simp only [Bool.true_or, List.map_append]
   rfl
  | false =>
   show (evr Pr CT 51).exs lsc _ _ (ifBe ifL) _ = _
   rw [c317j, loop317l _ scr (dr.map .int) ovF ldF (l.map pairF) wd l j _ j0 j1 h2 hd (okSc_fit hk) _ 100 0 [] (by omega) (by omega), List.nil_append, List.drop_zero, w2]
   rw [eqG_nil _ (hsame_ok _ l (okSc_ps hk)), hsame_nil]
   have hset : ∀ (la : List F) , setX CT scr (dr.map .int) ovF ldF (wd.map .str) j (dgS (worthT dr j)) (restK (evr Pr CT 55) lsc [] (turnF K fun lc2 h2 => forFix (evr Pr CT 56) lsc tL1 bL1 r lc2 h2 K)) [.list (l.map pairF), .list la] =
    forFix (evr Pr CT 56) lsc tL1 bL1 r (lcL1 scr (dr.map .int) ovF ldF (wd.map .str) (some (j, some (dgS (worthT dr j))))) [.list ((match (hfind (Txt.lower (wordS (wi j))) l).isNone with | true => l ++ [(wordS (wi j), dgS (worthT dr j))] | false => l).map pairF), .list la] K := by
    intro la
    unfold setX
    rw [subscr_lst (by rw [List.length_map]; omega) j0 (at_str (by omega)), w2]
    rw [ct269, S269_a w1 (by omega) (by omega) l (by omega) hk la _ (.f .none) (fun _ _ => rfl)]
    rfl
   rw [Bool.false_or]
   cases hn : (hfind (Txt.lower (wordS (wi j))) l).isNone with
   | true =>
    rw [br_t, guardB_t (okm_list (i := 1) rfl), subscr_lst (by rw [List.length_map]; omega) j0 (at_str (by omega)), w2]
    show methV Pr _ (.loc 1) "append" [.f (pairF (wordS (wi j), dgS (worthT dr j)))] [] _ _ = _
    rw [meth_app _ (i := 1) rfl (by rw [List.length_map]; omega)]
    show setX _ _ _ _ _ _ _ _ _ [.list (l.map pairF), .list (l.map pairF ++ [pairF (wordS (wi j), dgS (worthT dr j))])] = _
    rw [hset, hn, show l.map pairF ++ [pairF (wordS (wi j), dgS (worthT dr j))] = (l ++ [(wordS (wi j), dgS (worthT dr j))]).map pairF from by rw [List.map_append]; rfl]
   | false =>
    show setX _ _ _ _ _ _ _ _ _ _ = _
    rw [hset, hn]
theorem loop317 (K : KS R) : ∀ (js : List Int) (o : Option (Int × Option Str)) (l : List (Str × Str)), (∀ j ∈ js, 0 ≤ j ∧ j < 10) → l.length + js.length ≤ 40 → okSc l →
  ∃ o' : Option (Int × Option Str), (o.isSome = true ∨ js ≠ [] → o'.isSome = true) ∧ forFix (evr Pr CT 56) lsc tL1 bL1 (js.map fun i => .f (.int i)) (lcL1 scr (dr.map .int) ovF ldF (wd.map .str) o) [.list (l.map pairF), .list (l.map pairF)] K =
   K .next (lcL1 scr (dr.map .int) ovF ldF (wd.map .str) o') [.list ((scoreL wi dr js l).map pairF), .list ((scoreL wi dr js l).map pairF)]
 | [], o, l, _, _, _ => ⟨o, fun h => h.resolve_right (fun h => h rfl), rfl⟩
 | j :: js, o, l, hj, hl, hk => by
  simp only [List.length_cons] at hl
  obtain ⟨j0, j1⟩ := hj j (.head _)
  obtain ⟨o', s1, e⟩ := turn317 scr ovF ldF dr wd wi h1 h2 hw j j0 j1 o l (by omega) hk (js.map fun i => .f (.int i)) K
  obtain ⟨k1, k2⟩ := scoreT_ok (dr := dr) (hw j j0 j1).1 hk
  obtain ⟨o2, s2, e2⟩ := loop317 K js o' (scoreT wi dr j l) (fun x hx => hj x (.tail _ hx)) (by omega) k1
  refine ⟨o2, fun _ => s2 (.inl s1), ?_⟩
  rw [List.map_cons, e, e2]; rfl
end
theorem bdL_6 : dropS bdL 6 = nthS bdL 6 :: nthS bdL 7 :: nthS bdL 8 :: nthS bdL 9 :: nthS bdL 10 :: nthS bdL 11 :: nthS bdL 12 :: nthS bdL 13 :: nthS bdL 14 :: [nthS bdL 15] := by kernel_rfl
def lcL2 (scr dr ov ld wd : List F) (j : Int) (w : Option Str) (ws : List F) (q : Option (Int × Int)) : Lc := lcL1 scr dr ov ld wd (some (j, w)) ++ ([("worths", .f (.lst ws)), ("due", .loc 2)] : Lc) ++ (match q with
 | none => []
 | some (lo, hi) => [("low", .f (.int lo)), ("high", .f (.int hi))])
abbrev t5L : PySem.Expr := fT (nthS bdL 5)
abbrev b5L : List Stmt := fB (nthS bdL 5)
section
variable (C : Cl R) (scr dr ov ld wd : List F)
theorem c317m (j : Int) (w : Option Str) (h : H) (K : KS R) : (evr Pr C 56).ex lsc (lcL1 scr dr ov ld wd (some (j, w))) h (nthS bdL 3) K = C 293 [.f (.lst ov), .f (.lst wd), .loc 1] [] h fun v h1 => K .next (lset (lcL1 scr dr ov ld wd (some (j, w))) "worths" v) h1 := by rcases w with _ | _ <;> kernel_rfl
theorem c317n (j : Int) (w : Option Str) (ws a b : List F) (K : KS R) : (evr Pr C 55).ex lsc (lset (lcL1 scr dr ov ld wd (some (j, w))) "worths" (.f (.lst ws))) [.list a, .list b] (nthS bdL 4) K = K .next (lcL2 scr dr ov ld wd j w ws none) [.list a, .list b, .list []] := by rcases w with _ | _ <;> kernel_rfl
theorem c317o (lc : Lc) (h : H) (K : KS R) : (evr Pr C 54).ex lsc lc h (nthS bdL 5) K = iterE Pr (evr Pr C 53) lsc lc h (fI (nthS bdL 5)) (fun it h1 => forIt (evr Pr C 53) lsc t5L b5L lc h1 K it) := by
 rw [show nthS bdL 5 = .For (fT (nthS bdL 5)) (fI (nthS bdL 5)) (fB (nthS bdL 5)) [] (fP (nthS bdL 5)) from by kernel_rfl]
 exact for_ex
theorem c317p (j : Int) (w : Option Str) (ws : List F) (h : H) (K : It → H → Option R) : iterE Pr (evr Pr C 53) lsc (lcL2 scr dr ov ld wd j w ws none) h (fI (nthS bdL 5)) K = K (.fixed ((rangeUp 0 10).map fun i => .f (.int i))) h := by rcases w with _ | _ <;> kernel_rfl
theorem c317q (j j2 : Int) (w : Option Str) (ws : List F) (q : Option (Int × Int)) (r : List V) (h : H) (K : KS R) : forFix (evr Pr C 53) lsc t5L b5L (.f (.int j) :: r) (lcL2 scr dr ov ld wd j2 w ws q) h K =
  C 298 [.f (.lst ov), .f (.lst wd), .f (.lst ws), .f (.int j)] [] h fun v h1 => obind (asgTarget lsc (asT (nthS b5L 0)) v (lcL2 scr dr ov ld wd j w ws q) h1) fun lc => (evr Pr C 52).exs lsc lc h1 [nthS b5L 1] (turnF K fun lc2 h2 => forFix (evr Pr C 53) lsc t5L b5L r lc2 h2 K) := by rcases w with _ | _ <;> rcases q with _ | _ <;> kernel_rfl
theorem c317r (j : Int) (w : Option Str) (ws : List F) (q : Option (Int × Int)) (lo hi : Int) (h : H) (K : Lc → Option R) : obind (asgTarget lsc (asT (nthS b5L 0)) (.f (.tup [.int lo, .int hi])) (lcL2 scr dr ov ld wd j w ws q) h) K = K (lcL2 scr dr ov ld wd j w ws (some (lo, hi))) := by rcases w with _ | _ <;> rcases q with _ | _ <;> kernel_rfl
theorem c317s (j : Int) (w : Option Str) (ws : List F) (lo hi : Int) (h : H) (K : KS R) : (evr Pr C 52).exs lsc (lcL2 scr dr ov ld wd j w ws (some (lo, hi))) h [nthS b5L 1] K =
  subscr (.f (.lst wd)) (.f (.int j)) h fun v h1 => cmp .NotIn v (.f (.lst [.str "<", .str ">"])) h1 fun b => br b (br (decide (lo < hi))
   (guardB (okMeth Pr "append" h1 (.loc 2)) (subscr (.f (.lst wd)) (.f (.int j)) h1 fun u h3 => obind (fmtT "low=\"%d\"; high=\"%d\"" [.int lo, .int hi]) fun t => methV Pr C (.loc 2) "append" [mkTup [u, .f (.str t)]] [] h3 fun _ h4 => K .next (lcL2 scr dr ov ld wd j w ws (some (lo, hi))) h4))
   (K .next (lcL2 scr dr ov ld wd j w ws (some (lo, hi))) h1)) (K .next (lcL2 scr dr ov ld wd j w ws (some (lo, hi))) h1) := by rcases w with _ | _ <;> kernel_rfl
end
def cmpR : PySem.Expr → PySem.Expr
 | .Compare _ _ [r] _ => r
 | _ => .Tuple [] 0 default
def tup1 : PySem.Expr → PySem.Expr
 | .Tuple [_, r] _ _ => r
 | _ => .Tuple [] 0 default
def lcIt : PySem.Expr → PySem.Expr
 | .ListComp _ [⟨_, it, _, _⟩] _ _ => it
 | _ => .Tuple [] 0 default
structure LL where
 scr : List F
 dr : List F
 ov : List F
 ld : List F
 wd : List F
 j : Int
 w : Option Str
 ws : List F
 lo : Int
 hi : Int
def lcL2' (s : LL) : Lc := lcL2 s.scr s.dr s.ov s.ld s.wd s.j s.w s.ws (some (s.lo, s.hi))
def lcL3 (s : LL) (rows : List F) : Lc := lcL2' s ++ ([("rows", .f (.lst rows))] : Lc)
def lcL4 (s : LL) (rows : List F) : Lc := lcL3 s rows ++ ([("book", .hdr 3), ("record", .loc 4)] : Lc)
def lcL5 (s : LL) (rows : List F) (a b : Int) : Lc := lcL4 s rows ++ ([("found", .f (.tup [.int a, .int b]))] : Lc)
def lcL6 (s : LL) (rows : List F) (a b : Int) (tx : Str) : Lc := lcL5 s rows a b ++ ([("text", .f (.str tx))] : Lc)
def lcL7 (s : LL) (rows : List F) (a b : Int) (tx ba : Str) : Lc := lcL6 s rows a b tx ++ ([("bare", .f (.str ba))] : Lc)
abbrev e6L : PySem.Expr := asE (nthS bdL 6)
abbrev q6L : Scope := relabelS (lcS e6L) lsc
abbrev e14L : PySem.Expr := cmpR (ifTe (nthS bdL 14))
abbrev q14L : Scope := relabelS (lcS e14L) lsc
abbrev e15L : PySem.Expr := tup1 (cmpR (rtE (nthS bdL 15)))
abbrev q15L : Scope := relabelS (lcS e15L) lsc
section
variable (C : Cl R) (s : LL) (rows : List F)
theorem c317t (h : H) (K : KS R) : (evr Pr C 53).ex lsc (lcL2' s) h (nthS bdL 6) K = compE Pr (evr Pr C 51) lsc (lcL2' s) h "j" (lcE e6L) (lcIt e6L) (lcI e6L) (lcS e6L) fun acc h2 => K .next (lcL3 s acc) h2 := by
 rcases s with ⟨scr, dr, ov, ld, wd, j, _ | w, ws, lo, hi⟩ <;> kernel_rfl
theorem c317u (h : H) (K : List F → H → Option R) : compE Pr (evr Pr C 51) lsc (lcL2' s) h "j" (lcE e6L) (lcIt e6L) (lcI e6L) (lcS e6L) K = iterE Pr (evr Pr C 51) lsc (lcL2' s) h (lcIt e6L) (fun it h1 => compIt (evr Pr C 51) lsc (lcL2' s) "j" e6L h1 K it) := by
 rcases s with ⟨scr, dr, ov, ld, wd, j, _ | w, ws, lo, hi⟩ <;> kernel_rfl
theorem c317v (h : H) (K : It → H → Option R) : iterE Pr (evr Pr C 51) lsc (lcL2' s) h (lcIt e6L) K = K (.fixed ((rangeUp 0 10).map fun i => .f (.int i))) h := by
 rcases s with ⟨scr, dr, ov, ld, wd, j, _ | w, ws, lo, hi⟩ <;> kernel_rfl
theorem c317w (j : Int) (acc : List F) (h : H) (K : List F → H → Option R) : compOne (evr Pr C 51) q6L (cellsOnly q6L (lcL2' s)) "j" (lcE e6L) (lcI e6L) (.f (.int j)) acc h K =
  subscr (.f (.lst s.ld)) (.f (.int j)) h fun a h1 => subscr (.f (.lst s.wd)) (.f (.int j)) h1 fun b h2 => binop false .Add a b h2 fun v h3 => callV C (.raw (.ref 100)) [v] [] h3 fun x h4 => subscr (.f (.lst s.wd)) (.f (.int j)) h4 fun y h5 => asF (mkTup [x, y]) fun z => K (acc ++ [z]) h5 := by
 rcases s with ⟨scr, dr, ov, ld, wd, j, _ | w, ws, lo, hi⟩ <;> kernel_rfl
theorem c317x (x0 x1 x2 : List F) (K : KS R) : (evr Pr C 52).ex lsc (lcL3 s rows) [.list x0, .list x1, .list x2] (nthS bdL 7) K = K .next (lcL4 s rows) (h5 x0 x1 x2 [] []) := by
 rcases s with ⟨scr, dr, ov, ld, wd, j, _ | w, ws, lo, hi⟩ <;> kernel_rfl
theorem c317y (h : H) (K : KS R) : (evr Pr C 51).ex lsc (lcL4 s rows) h (nthS bdL 8) K = C 305 [.f (.lst rows), .f (.int 0), .f (.int 0), .f (.int 9), .hdr 0, .hdr 3, .loc 4] [] h fun v h1 => K .next (lset (lcL4 s rows) "found" v) h1 := by
 rcases s with ⟨scr, dr, ov, ld, wd, j, _ | w, ws, lo, hi⟩ <;> kernel_rfl
theorem c317z (a b : Int) (x0 x1 x2 x3 x4 : List F) (K : KS R) : (evr Pr C 50).ex lsc (lset (lcL4 s rows) "found" (.f (.tup [.int a, .int b]))) (h5 x0 x1 x2 x3 x4) (nthS bdL 9) K = obind (allStr x4) fun ts => guardB (decide (sumLen "" ts ≤ 100000)) (K .next (lcL6 s rows a b (Txt.join "" ts)) (h5 x0 x1 x2 x3 x4)) := by
 rcases s with ⟨scr, dr, ov, ld, wd, j, _ | w, ws, lo, hi⟩ <;> kernel_rfl
variable (a b : Int) (tx ba : Str)
theorem c317A (h : H) (K : KS R) : (evr Pr C 49).ex lsc (lcL6 s rows a b tx) h (nthS bdL 10) K = C 118 [.f (.str tx)] [] h fun v h1 => K .next (lset (lcL6 s rows a b tx) "bare" v) h1 := by
 rcases s with ⟨scr, dr, ov, ld, wd, j, _ | w, ws, lo, hi⟩ <;> kernel_rfl
theorem c317A2 : lset (lcL6 s rows a b tx) "bare" (.f (.str ba)) = lcL7 s rows a b tx ba := by
 rcases s with ⟨scr, dr, ov, ld, wd, j, _ | w, ws, lo, hi⟩ <;> kernel_rfl
theorem c317B (h : H) (K : KS R) : (evr Pr C 48).ex lsc (lcL7 s rows a b tx ba) h (nthS bdL 11) K =
  C 243 [.hdr 0] [] h fun v h1 => eqV v (.loc 1) h1 fun b1 => br (!b1) (K (.ret (.f (.bool false))) (lcL7 s rows a b tx ba) h1) (subscr (.f (.lst s.ws)) (.f (.int 0)) h1 fun x h2 => eqV (.f (.tup [.int a, .int b])) (mkTup [x, .f (.int 10)]) h2 fun b2 => br (!b2) (K (.ret (.f (.bool false))) (lcL7 s rows a b tx ba) h2)
   (C 243 [.hdr 3] [] h2 fun v3 h3 => eqV v3 (.loc 2) h3 fun b3 => br (!b3) (K (.ret (.f (.bool false))) (lcL7 s rows a b tx ba) h3) (K .next (lcL7 s rows a b tx ba) h3))) := by
 rcases s with ⟨scr, dr, ov, ld, wd, j, _ | w, ws, lo, hi⟩ <;> kernel_rfl
theorem c317C (h : H) (K : KS R) : (evr Pr C 47).ex lsc (lcL7 s rows a b tx ba) h (nthS bdL 12) K =
  C 125 [.f (.str tx)] [] h fun v h1 => obind (isV v (.f (.bool true))) fun b1 => br (!b1) (K (.ret (.f (.bool false))) (lcL7 s rows a b tx ba) h1) (guardB (fitS ba) (C 125 [.f (.str (slS ba none (some (-1))))] [] h1 fun v2 h2 => obind (isV v2 (.f (.bool false))) fun b2 => br (!b2) (K (.ret (.f (.bool false))) (lcL7 s rows a b tx ba) h2) (K .next (lcL7 s rows a b tx ba) h2))) := by
 rcases s with ⟨scr, dr, ov, ld, wd, j, _ | w, ws, lo, hi⟩ <;> kernel_rfl
theorem c317D (h : H) (K : KS R) : (evr Pr C 46).ex lsc (lcL7 s rows a b tx ba) h (nthS bdL 13) K =
  guardB (fitS ba) (guardB (fitS ")" && fitS (slS ba none (some (-1)))) (C 125 [.f (.str ((")" : Str) ++ slS ba none (some (-1))))] [] h fun v2 h2 => obind (isV v2 (.f (.bool false))) fun b2 => br (!b2) (K (.ret (.f (.bool false))) (lcL7 s rows a b tx ba) h2) (K .next (lcL7 s rows a b tx ba) h2))) := by
 rcases s with ⟨scr, dr, ov, ld, wd, j, _ | w, ws, lo, hi⟩ <;> kernel_rfl
theorem c317E (h : H) (K : KS R) : (evr Pr C 45).ex lsc (lcL7 s rows a b tx ba) h (nthS bdL 14) K =
  C 218 [.hdr 3, .f (.str "A")] [] h fun v h1 => obind (iterIt h1 (.loc 2)) fun it => compIt (evr Pr C 42) lsc (lcL7 s rows a b tx ba) "one" e14L h1 (fun acc h2 => eqV v (.f (.lst acc)) h2 fun b1 => br (!b1) (K (.ret (.f (.bool false))) (lcL7 s rows a b tx ba) h2) (K .next (lcL7 s rows a b tx ba) h2)) it := by
 rcases s with ⟨scr, dr, ov, ld, wd, j, _ | w, ws, lo, hi⟩ <;> kernel_rfl
theorem c317F (p : Str × Str) (acc : List F) (h : H) (K : List F → H → Option R) : compOne (evr Pr C 42) q14L (cellsOnly q14L (lcL7 s rows a b tx ba)) "one" (lcE e14L) (lcI e14L) (.f (pairF p)) acc h K =
  guardB (PyData.strOk p.1 && PyData.canLayAll0 (toPys [.str "a", .str "A"])) (br (steq "a" p.1 || (steq "A" p.1 || false)) (K (acc ++ [.str p.2]) h) (K acc h)) := by
 rcases s with ⟨scr, dr, ov, ld, wd, j, _ | w, ws, lo, hi⟩ <;> kernel_rfl
theorem c317G (h : H) (K : KS R) : (evr Pr C 44).ex lsc (lcL7 s rows a b tx ba) h (nthS bdL 15) K =
  C 312 [.f (.str ba), .hdr 0] [] h fun v h1 => subscr (.f (.lst s.ws)) (.f (.int 0)) h1 fun x h2 => obind (allF [.f (.int 0), x]) fun l => obind (iterIt h2 (.loc 2)) fun it => compIt (evr Pr C 38) lsc (lcL7 s rows a b tx ba) "one" e15L h2 (fun acc h3 => eqV v (.f (.tup [.lst [.lst l], .lst acc])) h3 fun b1 => K (.ret (.f (.bool b1))) (lcL7 s rows a b tx ba) h3) it := by
 rcases s with ⟨scr, dr, ov, ld, wd, j, _ | w, ws, lo, hi⟩ <;> kernel_rfl
theorem c317H (p : Str × Str) (acc : List F) (h : H) (K : List F → H → Option R) : compOne (evr Pr C 38) q15L (cellsOnly q15L (lcL7 s rows a b tx ba)) "one" (lcE e15L) (lcI e15L) (.f (pairF p)) acc h K = K (acc ++ [.str p.1]) h := by
 rcases s with ⟨scr, dr, ov, ld, wd, j, _ | w, ws, lo, hi⟩ <;> kernel_rfl
end
def fmtD (lo hi : Int) : Str := ("low=\"" : Str) ++ dgS lo ++ ("\"; high=\"" : Str) ++ dgS hi ++ ("\"" : Str)
theorem fmtT_t {lo hi : Int} (h0 : 0 ≤ lo) (h1 : lo ≤ 9) (h2 : 0 ≤ hi) (h3 : hi ≤ 9) : fmtT "low=\"%d\"; high=\"%d\"" [.int lo, .int hi] = some (fmtD lo hi) := by
 show (match digitText lo, digitText hi with
  | some x, some y => some (("low=\"" : Str) ++ x ++ ("\"; high=\"" : Str) ++ y ++ ("\"" : Str))
  | _, _ => none) = _
 rw [digit_t h0 h1, digit_t h2 h3]; rfl
def dg2G (a b : Int) : Bool := steq (hdrV (dgS a) (dgS b)) (fmtD a b) && PyData.strOk (fmtD a b)
theorem dg2_fin : ((List.range 10).all fun n => (List.range 10).all fun m => dg2G (n : Int) (m : Int)) = true := by kernel_rfl
theorem dg2_ok {a b : Int} (h0 : 0 ≤ a) (h1 : a ≤ 9) (h2 : 0 ≤ b) (h3 : b ≤ 9) : hdrV (dgS a) (dgS b) = fmtD a b ∧ PyData.strOk (fmtD a b) = true := by
 have h : dg2G a b = true := dg_cases (fun a => dg2G a b = true) h0 h1 fun n hn => dg_cases (fun b => dg2G (n : Int) b = true) h2 h3 fun m hm =>
  List.all_eq_true.mp (List.all_eq_true.mp dg2_fin n (List.mem_range.mpr hn)) m (List.mem_range.mpr hm)
 unfold dg2G at h
 rw [Bool.and_eq_true] at h
 exact ⟨steqS _ _ h.1, h.2⟩
def dueJ (ov : List Int) (wd : List Str) (ws : List Int) (wi : Int → Nat) (j : Int) : List (Str × Str) := match isW (wi j) with
 | false => []
 | true => match decide ((bounds ov wd ws 100 j 0 9).1 < (bounds ov wd ws 100 j 0 9).2) with
  | true => [(wordS (wi j), fmtD (bounds ov wd ws 100 j 0 9).1 (bounds ov wd ws 100 j 0 9).2)]
  | false => []
theorem dueJ_len (ov : List Int) (wd : List Str) (ws : List Int) (wi : Int → Nat) (j : Int) : (dueJ ov wd ws wi j).length ≤ 1 := by
 unfold dueJ
 split
 ·simp
 ·split <;> simp
theorem notin_lst {i : Nat} (hi : i < 9) (h : H) (k : Bool → Option R) : cmp .NotIn (.f (.str (wordS i))) (.f (.lst [.str "<", .str ">"])) h k = k (isW i) := notin_w hi h k
section
variable (scr ldF drF : List F) (ov : List Int) (wd : List Str) (ws : List Int) (wi : Int → Nat) (h1 : ov.length = 10) (h2 : wd.length = 10) (h3 : ws.length = 10) (hw : ∀ j : Int, 0 ≤ j → j < 10 → wi j < 9 ∧ gS wd j = wordS (wi j))
 (hov : ((List.range 9).all fun i => decide (0 ≤ gI ov (i + 1) ∧ gI ov (i + 1) < i + 1)) = true) (hb : ∀ j : Int, 0 ≤ j → j < 10 → 0 ≤ (bounds ov wd ws 100 j 0 9).1 ∧ (bounds ov wd ws 100 j 0 9).2 ≤ 9)
include h1 h2 h3 hw hov hb
omit hw hb in
theorem S298_t {j : Int} (j0 : 0 ≤ j) (j1 : j < 10) {h : H} (hh : okP h.length h = true) (k : KV R) : S298 [.f (.lst (ov.map .int)), .f (.lst (wd.map .str)), .f (.lst (ws.map .int)), .f (.int j)] [] h k =
  k (.f (.tup [.int (bounds ov wd ws 100 j 0 9).1, .int (bounds ov wd ws 100 j 0 9).2])) h := by
 show obind (allInt (ov.map .int)) _ = _
 rw [allInt_map, obind_s]
 show obind (allStr (wd.map .str)) _ = _
 rw [allStr_map, obind_s]
 show obind (allInt (ws.map .int)) _ = _
 rw [allInt_map, obind_s, guardB_t (by rw [hh, hov, decide_eq_true h1, decide_eq_true h2, decide_eq_true h3, decide_eq_true j0, decide_eq_true j1]; rfl)]
theorem turn317d (j j2 : Int) (j0 : 0 ≤ j) (j1 : j < 10) (w : Option Str) (q : Option (Int × Int)) (due : List (Str × Str)) (hl : due.length ≤ 40) (x0 x1 : List F) (r : List V) (K : KS R) :
  ∃ a b, forFix (evr Pr CT 53) lsc t5L b5L (.f (.int j) :: r) (lcL2 scr drF (ov.map .int) ldF (wd.map .str) j2 w (ws.map .int) q) [.list x0, .list x1, .list (due.map pairF)] K =
   forFix (evr Pr CT 53) lsc t5L b5L r (lcL2 scr drF (ov.map .int) ldF (wd.map .str) j w (ws.map .int) (some (a, b))) [.list x0, .list x1, .list ((due ++ dueJ ov wd ws wi j).map pairF)] K := by
 obtain ⟨w1, w2⟩ := hw j j0 j1
 obtain ⟨b1, b2⟩ := hb j j0 j1
 refine ⟨(bounds ov wd ws 100 j 0 9).1, (bounds ov wd ws 100 j 0 9).2, ?_⟩
 rw [c317q, ct298, S298_t ov wd ws h1 h2 h3 hov j0 j1 rfl, c317r, c317s, subscr_lst (by rw [List.length_map]; omega) j0 (at_str (by omega)), w2, notin_lst w1]
 unfold dueJ
 cases isW (wi j) with
 | false =>
  dsimp only
  rw [List.append_nil]; rfl
 | true =>
  rw [br_t]
  dsimp only
  cases hd : decide ((bounds ov wd ws 100 j 0 9).1 < (bounds ov wd ws 100 j 0 9).2) with
  | false =>
   dsimp only
   rw [List.append_nil]; rfl
  | true =>
   have hd := of_decide_eq_true hd
   rw [br_t, guardB_t (okm_list (i := 2) rfl), subscr_lst (by rw [List.length_map]; omega) j0 (at_str (by omega)), w2, fmtT_t b1 (by omega) (by omega) b2, obind_s]
   show methV Pr _ (.loc 2) "append" [.f (pairF (wordS (wi j), fmtD _ _))] [] _ _ = _
   rw [meth_app _ (i := 2) rfl (by rw [List.length_map]; omega), List.map_append]
   rfl
theorem loop317d (x0 x1 : List F) (K : KS R) : ∀ (js : List Int) (j2 : Int) (w : Option Str) (q : Option (Int × Int)) (due : List (Str × Str)), (∀ j ∈ js, 0 ≤ j ∧ j < 10) → due.length + js.length ≤ 40 →
  ∃ j' q', (q.isSome = true ∨ js ≠ [] → q'.isSome = true) ∧ forFix (evr Pr CT 53) lsc t5L b5L (js.map fun i => .f (.int i)) (lcL2 scr drF (ov.map .int) ldF (wd.map .str) j2 w (ws.map .int) q) [.list x0, .list x1, .list (due.map pairF)] K =
   K .next (lcL2 scr drF (ov.map .int) ldF (wd.map .str) j' w (ws.map .int) q') [.list x0, .list x1, .list ((due ++ js.flatMap (dueJ ov wd ws wi)).map pairF)]
 | [], j2, w, q, due, _, _ => ⟨j2, q, fun h => h.resolve_right (fun h => h rfl), by rw [show ([] : List Int).flatMap (dueJ ov wd ws wi) = [] from rfl, List.append_nil]; rfl⟩
 | j :: js, j2, w, q, due, hj, hl => by
  simp only [List.length_cons] at hl
  obtain ⟨j0, j1⟩ := hj j (.head _)
  obtain ⟨a, b, e⟩ := turn317d scr ldF drF ov wd ws wi h1 h2 h3 hw hov hb j j2 j0 j1 w q due (by omega) x0 x1 (js.map fun i => .f (.int i)) K
  have := dueJ_len ov wd ws wi j
  obtain ⟨j', q', s2, e2⟩ := loop317d x0 x1 K js j w (some (a, b)) (due ++ dueJ ov wd ws wi j) (fun x hx => hj x (.tail _ hx)) (by rw [List.length_append]; omega)
  refine ⟨j', q', fun _ => s2 (.inl rfl), ?_⟩
  rw [List.map_cons, e, e2, List.flatMap_cons, List.append_assoc]
end
def rowJ (ld wd : List Str) (j : Int) : Row := ⟨scanL (gS ld j), gS ld j ++ gS wd j, decide ((scanL (gS ld j)).cnt.length ≤ 1), gS wd j⟩
theorem ws_ct (s : Str) (h : H) (k : KV R) : callV CT (.raw (.ref 100)) [.f (.str s)] [] h k = callV CE (.raw (.ref 100)) [.f (.str s)] [] h k := by kernel_rfl
theorem addS_t {a b : Str} {h : H} {k : KV R} (g : (fitS a && fitS b) = true) : binop false .Add (.f (.str a)) (.f (.str b)) h k = k (.f (.str (a ++ b))) h := by
 show guardB (fitS a && fitS b) _ = _
 rw [guardB_t g]
theorem loop317r (s : LL) (ld wd : List Str) (wi : Int → Nat) (hl : s.ld = ld.map .str) (hd : s.wd = wd.map .str) (h1 : ld.length = 10) (h2 : wd.length = 10) (hw : ∀ j : Int, 0 ≤ j → j < 10 → wi j < 9 ∧ gS wd j = wordS (wi j))
  (hin : ∀ j : Int, 0 ≤ j → j < 10 → ∃ n, n < 4 ∧ gS ld j ∈ leadsN n) (a b c : List F) (K : List F → H → Option R) : ∀ (js : List Int) (acc : List F), (∀ j ∈ js, 0 ≤ j ∧ j < 10) →
  compFix (evr Pr CT 51) q6L (cellsOnly q6L (lcL2' s)) "j" (lcE e6L) (lcI e6L) (js.map fun i => .f (.int i)) acc [.list a, .list b, .list c] K = K (acc ++ (js.map (rowJ ld wd)).map rowF) [.list a, .list b, .list c]
 | [], acc, _ => by
  show K acc _ = K (acc ++ []) _
  rw [List.append_nil]
 | j :: js, acc, hj => by
  obtain ⟨j0, j1⟩ := hj j (.head _)
  obtain ⟨w1, w2⟩ := hw j j0 j1
  obtain ⟨n, n1, n2⟩ := hin j j0 j1
  have ih := fun acc => loop317r s ld wd wi hl hd h1 h2 hw hin a b c K js acc fun x hx => hj x (.tail _ hx)
  rw [List.map_cons]
  show compOne (evr Pr CT 51) q6L (cellsOnly q6L (lcL2' s)) "j" (lcE e6L) (lcI e6L) (.f (.int j)) acc _ (fun acc1 h1 => compFix (evr Pr CT 51) q6L (cellsOnly q6L (lcL2' s)) "j" (lcE e6L) (lcI e6L) (js.map fun i => .f (.int i)) acc1 h1 K) = _
  have hs := (turn_in n1 n2).2.2.1
  rw [c317w, hl, hd, subscr_lst (by rw [List.length_map]; omega) j0 (at_str (by omega)), subscr_lst (by rw [List.length_map]; omega) j0 (at_str (by omega)), addS_t (by rw [fitS_of (by omega), w2, (wd_ok w1).1]; rfl), ws_ct]
  rw [show gS ld j ++ gS wd j = gS ld j ++ wordS (wi j) from by rw [w2], wsAll a b c _ _ w1 n n1 _ n2, subscr_lst (by rw [List.length_map]; omega) j0 (at_str (by omega))]
  show compFix _ _ _ _ _ _ _ (acc ++ [.tup [wsOf (scanL (gS ld j)) (gS ld j ++ wordS (wi j)), .str (gS wd j)]]) _ _ = _
  rw [ih, ← w2]
  show K ((acc ++ [rowF (rowJ ld wd j)]) ++ _) _ = K (acc ++ (rowF (rowJ ld wd j) :: _)) _
  rw [List.append_assoc]; rfl
theorem restK_next {J : Ev R} {sc : Scope} {r : List Stmt} {K : KS R} {lc : Lc} {h : H} : restK J sc r K .next lc h = J.exs sc lc h r K := rfl
theorem forIt_fixed {I : Ev R} {sc : Scope} {t : PySem.Expr} {b : List Stmt} {lc : Lc} {h : H} {K : KS R} {l : List V} : forIt I sc t b lc h K (.fixed l) = forFix I sc t b l lc h K := rfl
theorem len_up10 : (rangeUp 0 10).length = 10 := rfl
theorem up10_mem : ∀ j ∈ rangeUp 0 10, 0 ≤ j ∧ j < 10 := fun j hj => by have := mem_up hj; omega
theorem up10_ne : rangeUp 0 10 ≠ [] := by intro h; have := len_up10; rw [h] at this; cases this
theorem run_a (ns dr ov : List Int) (ld wd : List Str) (wi : Int → Nat) (hn : ns.length ≤ 100) (hd : drawsF ns = dr) (ho : (treeF dr).2.1 = ov) (hl : (treeF dr).2.2 = ld) (hwd : wordsF dr ov = wd) (h1 : dr.length = 10) (h2 : wd.length = 10)
  (hw : ∀ j : Int, 0 ≤ j → j < 10 → wi j < 9 ∧ gS wd j = wordS (wi j)) (rest : List Stmt) (K : KS R) :
  ∃ j w, (evr Pr CT 60).exs lsc [("script", .f (.lst (ns.map .int)))] [] (nthS bdL 0 :: nthS bdL 1 :: nthS bdL 2 :: rest) K =
   (evr Pr CT 57).exs lsc (lcL1 (ns.map .int) (dr.map .int) (ov.map .int) (ld.map .str) (wd.map .str) (some (j, w))) [.list ((scoreL wi dr (rangeUp 0 10) []).map pairF), .list ((scoreL wi dr (rangeUp 0 10) []).map pairF)] rest K := by
 obtain ⟨o', s1, e⟩ := loop317 (ns.map .int) (ov.map .int) (ld.map .str) dr wd wi h1 h2 hw (restK (evr Pr CT 57) lsc rest K) (rangeUp 0 10) none [] up10_mem (by rw [len_up10]; decide) (by intro p hp; cases hp)
 have s1 := s1 (.inr up10_ne)
 have e288 : ∀ k : KV R, S288 [.f (.lst (ns.map .int))] [] [] k = k (.f (.tup [.lst (dr.map .int), .lst (ov.map .int), .lst (ld.map .str), .lst (wd.map .str)])) [] := by
  intro k
  show obind (allInt (ns.map .int)) _ = _
  rw [allInt_map, obind_s, guardB_t (decide_eq_true hn), hd, ho, hl, hwd]
 match o', s1 with
 | some (j, w), _ =>
  refine ⟨j, w, ?_⟩
  rw [exs_cons, c317a, ct288, e288, c317b, restK_next, exs_cons, c317c, restK_next, exs_cons, c317d, c317e, forIt_fixed]
  exact e
theorem S293_t (ov ws : List Int) (wd : List Str) (l : List (Str × Str)) (sc : List F) (h1 : ov.length = 10) (h2 : wd.length = 10) (h3 : wd.all fitS = true) (h4 : l.all (fun p => fitS p.1) = true) (h5 : l.length ≤ 50)
  (he : wfold ov wd l (rangeDn 9 (-1)) (List.replicate 10 0) = some ws) (k : KV R) : S293 [.f (.lst (ov.map .int)), .f (.lst (wd.map .str)), .loc 1] [] [.list sc, .list (l.map pairF)] k = k (.f (.lst (ws.map .int))) [.list sc, .list (l.map pairF)] := by
 show obind (allInt (ov.map .int)) _ = _
 rw [allInt_map, obind_s]
 show obind (allStr (wd.map .str)) _ = _
 rw [allStr_map, obind_s]
 show obind (unpair (l.map pairF)) _ = _
 rw [unpair_map, obind_s, guardB_t (by rw [decide_eq_true h1, decide_eq_true h2, h3, h4, decide_eq_true h5]; rfl), he, obind_s]
theorem run_b (ns dr ov ws : List Int) (ld wd : List Str) (wi : Int → Nat) (l : List (Str × Str)) (j : Int) (w : Option Str) (h1 : ov.length = 10) (h2 : wd.length = 10) (h3 : ws.length = 10) (hw : ∀ j : Int, 0 ≤ j → j < 10 → wi j < 9 ∧ gS wd j = wordS (wi j))
 (hov : ((List.range 9).all fun i => decide (0 ≤ gI ov (i + 1) ∧ gI ov (i + 1) < i + 1)) = true) (hb : ∀ j : Int, 0 ≤ j → j < 10 → 0 ≤ (bounds ov wd ws 100 j 0 9).1 ∧ (bounds ov wd ws 100 j 0 9).2 ≤ 9)
 (hf : wd.all fitS = true) (hlf : l.all (fun p => fitS p.1) = true) (hll : l.length ≤ 50) (he : wfold ov wd l (rangeDn 9 (-1)) (List.replicate 10 0) = some ws) (rest : List Stmt) (K : KS R) :
  ∃ j' a b, (evr Pr CT 57).exs lsc (lcL1 (ns.map .int) (dr.map .int) (ov.map .int) (ld.map .str) (wd.map .str) (some (j, w))) [.list (l.map pairF), .list (l.map pairF)] (nthS bdL 3 :: nthS bdL 4 :: nthS bdL 5 :: rest) K =
   (evr Pr CT 54).exs lsc (lcL2' ⟨ns.map .int, dr.map .int, ov.map .int, ld.map .str, wd.map .str, j', w, ws.map .int, a, b⟩) [.list (l.map pairF), .list (l.map pairF), .list (((rangeUp 0 10).flatMap (dueJ ov wd ws wi)).map pairF)] rest K := by
 obtain ⟨j', q', s1, e⟩ := loop317d (ns.map .int) (ld.map .str) (dr.map .int) ov wd ws wi h1 h2 h3 hw hov hb (l.map pairF) (l.map pairF) (restK (evr Pr CT 54) lsc rest K) (rangeUp 0 10) j w none [] up10_mem (by rw [len_up10]; decide)
 have s1 := s1 (.inr up10_ne)
 match q', s1 with
 | some (a, b), _ =>
  refine ⟨j', a, b, ?_⟩
  rw [exs_cons, c317m, ct293, S293_t ov ws wd l _ h1 h2 hf hlf hll he, restK_next, exs_cons, c317n, restK_next, exs_cons, c317o, c317p, forIt_fixed]
  exact e
theorem run_c (s : LL) (ld wd : List Str) (wi : Int → Nat) (l due : List (Str × Str)) (rc : List Str) (w0 : Int) (hl : s.ld = ld.map .str) (hd : s.wd = wd.map .str) (h1 : ld.length = 10) (h2 : wd.length = 10) (hw : ∀ j : Int, 0 ≤ j → j < 10 → wi j < 9 ∧ gS wd j = wordS (wi j))
  (hin : ∀ j : Int, 0 ≤ j → j < 10 → ∃ n, n < 4 ∧ gS ld j ∈ leadsN n) (hs : srch l ((rangeUp 0 10).map (rowJ ld wd)) 4 0 0 9 [] [] = some ⟨w0, 10, due, rc⟩) (hr : sumLen "" rc ≤ 100000)
  (g : (decide ((Txt.join "" rc).length ≤ 5000) && asc (Txt.join "" rc) && decide ((escPairs (Txt.join "" rc)).length ≤ 5000) && decide (sumLen "" (stripL (Txt.join "" rc)) ≤ 100000)) = true) (b c : List F) (rest : List Stmt) (K : KS R) :
  (evr Pr CT 54).exs lsc (lcL2' s) [.list (l.map pairF), .list b, .list c] (nthS bdL 6 :: nthS bdL 7 :: nthS bdL 8 :: nthS bdL 9 :: nthS bdL 10 :: rest) K =
   (evr Pr CT 49).exs lsc (lcL7 s (((rangeUp 0 10).map (rowJ ld wd)).map rowF) w0 10 (Txt.join "" rc) (strip (Txt.join "" rc))) (h5 (l.map pairF) b c (due.map pairF) (rc.map .str)) rest K := by
 rw [exs_cons, c317t, c317u, c317v]
 show guardB (fitL ((rangeUp 0 10).map fun i => V.f (.int i))) (compFix _ _ _ _ _ _ _ _ _ _) = _
 rw [guardB_t (fit100 (by rw [List.length_map, len_up10]; decide)), loop317r s ld wd wi hl hd h1 h2 hw hin _ _ _ _ (rangeUp 0 10) [] up10_mem, List.nil_append, restK_next, exs_cons, c317x, restK_next, exs_cons, c317y, ct305]
 have e := fun kk : KV R => S305_t 4 l ((rangeUp 0 10).map (rowJ ld wd)) (by rw [List.length_map, len_up10]; decide) 0 0 9 b c [] [] kk
 rw [show h5 (l.map pairF) b c [] [] = h5 (l.map pairF) b c (([] : List (Str × Str)).map pairF) (([] : List Str).map .str) from rfl, e, hs, obind_s, restK_next, exs_cons, c317z, allStr_map, obind_s, guardB_t (decide_eq_true hr), restK_next, exs_cons, c317A, ct118]
 show guardB _ _ = _
 rw [guardB_t g]
 dsimp only
 rw [c317A2, restK_next]
theorem compIt_live {I : Ev R} {sc : Scope} {lc : Lc} {x : Str} {e : PySem.Expr} {h : H} {k : List F → H → Option R} {i : Nat} : compIt I sc lc x e h k (.live i) = compLive I (relabelS (lcS e) sc) (cellsOnly (relabelS (lcS e) sc) lc) x (lcE e) (lcI e) i 100 0 [] h k := rfl
theorem eqv2_t (a b : Int) : PyData.eqv (toPy (.tup [.int a, .int b])) (toPy (.tup [.int a, .int b])) = true := by
 show ((a == a) && ((b == b) && true)) = true
 simp
theorem eq2_t (a b : Int) (h : H) (k : Bool → Option R) : eqV (.f (.tup [.int a, .int b])) (.f (.tup [.int a, .int b])) h k = k true := by
 show eqG (toPy (.tup [.int a, .int b])) (toPy (.tup [.int a, .int b])) k = _
 unfold eqG
 rw [eqv2_t, show SeqAt.shaped (toPy (.tup [.int a, .int b])) = true from rfl]; rfl
theorem eqL_loc {h : H} {i : Nat} {l m : List F} (e : h[i]? = some (.list m)) (k : Bool → Option R) : eqV (.f (.lst l)) (.loc i) h k = eqG (toPy (.lst l)) (toPy (.lst m)) k := by
 show obind (items h (.f (.lst l))) (fun l => obind (items h (.loc i)) fun m => eqG (toPy (.lst l)) (toPy (.lst m)) k) = _
 rw [items_loc e]; rfl
theorem eqL_L {h : H} {l m : List F} (k : Bool → Option R) : eqV (.f (.lst l)) (.f (.lst m)) h k = eqG (toPy (.lst l)) (toPy (.lst m)) k := rfl
theorem lay_ss : ∀ l : List Str, l.all PyData.strOk = true → PyData.canLayAll0 (l.map fun p => toPy (.str p)) = true
 | [], _ => rfl
 | p :: r, h => by
  rw [List.all_cons, Bool.and_eq_true] at h
  show (PyData.strOk p && PyData.canLayAll0 (r.map fun p => toPy (.str p))) = true
  rw [lay_ss r h.2, h.1]; rfl
theorem depth_ss : ∀ l : List Str, PyData.depthAll (l.map fun p => toPy (.str p)) = 0
 | [] => rfl
 | p :: r => by
  show max 0 (PyData.depthAll (r.map fun p => toPy (.str p))) = 0
  rw [depth_ss r]; rfl
theorem eqv_ss : ∀ l : List Str, PyData.eqvAll (l.map fun p => toPy (.str p)) (l.map fun p => toPy (.str p)) = true
 | [] => rfl
 | p :: r => by
  show ((p == p) && PyData.eqvAll (r.map fun p => toPy (.str p)) (r.map fun p => toPy (.str p))) = true
  rw [eqv_ss r]; simp
theorem shaped_ss (l : List Str) (hl : l.all PyData.strOk = true) : SeqAt.shaped (toPy (.lst (l.map .str))) = true := by
 show (PyData.canLayAll0 (toPys (l.map .str)) && decide (PyData.depthAll (toPys (l.map .str)) + 1 ≤ 64)) = true
 rw [toPys_map, lay_ss l hl, depth_ss]; rfl
theorem eqss_t (l : List Str) (hl : l.all PyData.strOk = true) (h : H) (k : Bool → Option R) : eqV (.f (.lst (l.map .str))) (.f (.lst (l.map .str))) h k = k true := by
 rw [eqL_L]
 unfold eqG
 rw [shaped_ss l hl]
 show k (PyData.eqvAll (toPys (l.map .str)) (toPys (l.map .str))) = _
 rw [toPys_map, eqv_ss]
theorem shaped_fin (w : Int) (l : List Str) (hl : l.all PyData.strOk = true) : SeqAt.shaped (toPy (.tup [.lst [.lst [.int 0, .int w]], .lst (l.map .str)])) = true := by
 show ((true && (PyData.canLayAll0 (toPys (l.map .str)) && true)) && decide (PyData.depthAll [toPy (.lst [.lst [.int 0, .int w]]), .list (toPys (l.map .str))] + 1 ≤ 64)) = true
 have hd : PyData.depthAll [toPy (.lst [.lst [.int 0, .int w]]), .list (toPys (l.map .str))] ≤ 60 := by
  show max (max (max 0 (max 0 0) + 1) 0 + 1) (max (PyData.depthAll (toPys (l.map .str)) + 1) 0) ≤ 60
  rw [toPys_map, depth_ss]; decide
 rw [decide_eq_true (by omega), toPys_map, lay_ss l hl]; rfl
theorem eqv_fin (w : Int) (l : List Str) : PyData.eqv (toPy (.tup [.lst [.lst [.int 0, .int w]], .lst (l.map .str)])) (toPy (.tup [.lst [.lst [.int 0, .int w]], .lst (l.map .str)])) = true := by
 show (((((0 : Int) == 0) && ((w == w) && true)) && true) && (PyData.eqvAll (toPys (l.map .str)) (toPys (l.map .str)) && true)) = true
 rw [toPys_map, eqv_ss]; simp
theorem eqfin_t (w : Int) (l : List Str) (hl : l.all PyData.strOk = true) (h : H) (k : Bool → Option R) : eqV (.f (.tup [.lst [.lst [.int 0, .int w]], .lst (l.map .str)])) (.f (.tup [.lst [.lst [.int 0, .int w]], .lst (l.map .str)])) h k = k true := by
 show eqG (toPy (.tup [.lst [.lst [.int 0, .int w]], .lst (l.map .str)])) (toPy (.tup [.lst [.lst [.int 0, .int w]], .lst (l.map .str)])) k = _
 unfold eqG
 rw [shaped_fin w l hl, eqv_fin]; rfl
theorem layAA : PyData.canLayAll0 (toPys [.str "a", .str "A"]) = true := by kernel_rfl
def isA (s : Str) : Bool := steq "a" s || (steq "A" s || false)
def selA : List (Str × Str) → List Str
 | [] => []
 | p :: r => match isA p.1 with
  | true => p.2 :: selA r
  | false => selA r
theorem isA_fin : ((List.range 9).all fun i => (steq (Txt.lower (wordS i)) (Txt.lower "A")) == isA (wordS i)) = true := by kernel_rfl
theorem isA_t {i : Nat} (h : i < 9) : steq (Txt.lower (wordS i)) (Txt.lower "A") = isA (wordS i) := beq_iff_eq.mp (List.all_eq_true.mp isA_fin i (List.mem_range.mpr h))
def okDue (l : List (Str × Str)) : Prop := ∀ p ∈ l, (∃ i : Nat, i < 9 ∧ p.1 = wordS i) ∧ PyData.strOk p.2 = true
theorem hall_A : ∀ l : List (Str × Str), okDue l → hall (Txt.lower "A") l = (selA l).map .str
 | [], _ => rfl
 | p :: r, h => by
  obtain ⟨⟨i, i1, i2⟩, _⟩ := h p (.head _)
  rw [show hall (Txt.lower "A") (p :: r) = (match steq (Txt.lower p.1) (Txt.lower "A") with | true => .str p.2 :: hall (Txt.lower "A") r | false => hall (Txt.lower "A") r) from rfl,
   show selA (p :: r) = (match isA p.1 with | true => p.2 :: selA r | false => selA r) from rfl, hall_A r (fun q hq => h q (.tail _ hq)), i2, isA_t i1]
  cases isA (wordS i) <;> rfl
theorem selA_ok : ∀ l : List (Str × Str), okDue l → (selA l).all PyData.strOk = true
 | [], _ => rfl
 | p :: r, h => by
  have ih := selA_ok r (fun q hq => h q (.tail _ hq))
  rw [show selA (p :: r) = (match isA p.1 with | true => p.2 :: selA r | false => selA r) from rfl]
  cases isA p.1
  ·exact ih
  ·show (PyData.strOk p.2 && (selA r).all PyData.strOk) = true
   rw [ih, (h p (.head _)).2]; rfl
theorem okDue_ps {l : List (Str × Str)} (h : okDue l) : okPs l = true := by
 unfold okPs
 rw [List.all_eq_true]
 intro p hp
 obtain ⟨⟨i, i1, i2⟩, h2⟩ := h p hp
 rw [i2, (wd_ok i1).2.2.1, h2]; rfl
theorem okDue_w {l : List (Str × Str)} (h : okDue l) : (l.map (·.1)).all PyData.strOk = true := by
 rw [List.all_eq_true]
 intro p hp
 obtain ⟨q, hq, rfl⟩ := List.mem_map.mp hp
 obtain ⟨⟨i, i1, i2⟩, h2⟩ := h q hq
 rw [i2]; exact (wd_ok i1).2.2.1
theorem okDue_f {l : List (Str × Str)} (h : okDue l) : l.all (fun p => fitS p.1) = true := by
 rw [List.all_eq_true]
 intro p hp
 obtain ⟨⟨i, i1, i2⟩, h2⟩ := h p hp
 rw [i2]; exact (wd_ok i1).1
section
variable (C : Cl R) (s : LL) (rows : List F) (a b : Int) (tx ba : Str) (x0 x1 x3 x4 : List F) (due : List (Str × Str)) (hd : okDue due)
include hd
theorem loop14 (K : List F → H → Option R) : ∀ (m i : Nat) (acc : List F), i ≤ due.length → due.length < m + i →
  compLive (evr Pr C 42) q14L (cellsOnly q14L (lcL7 s rows a b tx ba)) "one" (lcE e14L) (lcI e14L) 2 m i acc (h5 x0 x1 (due.map pairF) x3 x4) K = K (acc ++ (selA (due.drop i)).map .str) (h5 x0 x1 (due.map pairF) x3 x4)
 | 0, i, acc, hj0, hm => by omega
 | m + 1, i, acc, hj0, hm => by
  have ih := fun acc hj => loop14 K m (i + 1) acc hj (by omega)
  by_cases hj : i < due.length
  ·have hx : (due.map pairF)[i]? = some (pairF due[i]) := by simp [hj]
   obtain ⟨⟨n, n1, n2⟩, _⟩ := hd _ (List.getElem_mem hj)
   rw [compLive_step (l := due.map pairF) rfl hx, c317F, guardB_t (by rw [n2, (wd_ok n1).2.2.1, layAA]; rfl), List.drop_eq_getElem_cons hj, ih _ (by omega), ih _ (by omega)]
   rw [show selA (due[i] :: due.drop (i + 1)) = (match isA due[i].1 with | true => due[i].2 :: selA (due.drop (i + 1)) | false => selA (due.drop (i + 1))) from rfl, show (steq "a" due[i].1 || (steq "A" due[i].1 || false)) = isA due[i].1 from rfl]
   cases isA due[i].1
   ·rfl
   ·show K ((acc ++ [.str due[i].2]) ++ _) _ = K (acc ++ (.str due[i].2 :: _)) _
    rw [List.append_assoc]; rfl
  ·have hx : (due.map pairF)[i]? = none := by simp; omega
   rw [compLive_end (l := due.map pairF) rfl hx, List.drop_eq_nil_of_le (by omega)]
   show K acc _ = K (acc ++ []) _
   rw [List.append_nil]
omit hd in
theorem loop15 (K : List F → H → Option R) : ∀ (m i : Nat) (acc : List F), i ≤ due.length → due.length < m + i →
  compLive (evr Pr C 38) q15L (cellsOnly q15L (lcL7 s rows a b tx ba)) "one" (lcE e15L) (lcI e15L) 2 m i acc (h5 x0 x1 (due.map pairF) x3 x4) K = K (acc ++ ((due.drop i).map (·.1)).map .str) (h5 x0 x1 (due.map pairF) x3 x4)
 | 0, i, acc, hj0, hm => by omega
 | m + 1, i, acc, hj0, hm => by
  have ih := fun acc hj => loop15 K m (i + 1) acc hj (by omega)
  by_cases hj : i < due.length
  ·have hx : (due.map pairF)[i]? = some (pairF due[i]) := by simp [hj]
   rw [compLive_step (l := due.map pairF) rfl hx, c317H, List.drop_eq_getElem_cons hj, ih _ (by omega)]
   show K ((acc ++ [.str due[i].1]) ++ _) _ = K (acc ++ (.str due[i].1 :: _)) _
   rw [List.append_assoc]; rfl
  ·have hx : (due.map pairF)[i]? = none := by simp; omega
   rw [compLive_end (l := due.map pairF) rfl hx, List.drop_eq_nil_of_le (by omega)]
   show K acc _ = K (acc ++ []) _
   rw [List.append_nil]
end
def gd118 (s : Str) : Bool := decide (s.length ≤ 5000) && asc s && decide ((escPairs s).length ≤ 5000) && decide (sumLen "" (stripL s) ≤ 100000)
def gd125 (s : Str) : Bool := G118 s && fitS (strip s) && asc (strip s)
theorem S125_t (s : Str) (g : gd125 s = true) (x0 x1 x2 x3 x4 : List F) (k : KV R) : S125 [.f (.str s)] [] (h5 x0 x1 x2 x3 x4) k = k (.f (.bool (check s))) (h5 x0 x1 x2 x3 x4) := by
 show guardB (gd125 s) _ = _
 rw [guardB_t g]
theorem S243_t {i : Nat} {h : H} {l : List F} (e : h[i]? = some (.list l)) (ok : okP h.length h = true) (hl : l.length ≤ 100000) (k : KV R) : S243 [.hdr i] [] h k = k (.f (.lst l)) h := by
 show (match h[i]? with
  | some (.list l) => guardB (okP h.length h && fitL l) (k (.f (.lst l)) h)
  | _ => none) = _
 rw [e]
 show guardB _ _ = _
 rw [guardB_t (by rw [ok, fit100 hl]; rfl)]
theorem S218_t {h : H} {ps : List (Str × Str)} (e : h[(3 : Nat)]? = some (.list (ps.map pairF))) (ok : okP h.length h = true) (hl : ps.length ≤ 50) (hp : ps.all (fun p => fitS p.1) = true) (k : KV R) : S218 [.hdr 3, .f (.str "A")] [] h k = k (.f (.lst (hall (Txt.lower "A") ps))) h := by
 show (match h[(3 : Nat)]? with
  | some (.list l) => obind (unpair l) fun ps => guardB (okP h.length h && fitS "A" && fitS (Txt.lower "A") && calm (Txt.lower "A") && decide (ps.length ≤ 50) && ps.all (fun p => fitS p.1)) (k (.f (.lst (hall (Txt.lower "A") ps))) h)
  | _ => none) = _
 rw [e]
 show obind (unpair (ps.map pairF)) _ = _
 rw [unpair_map, obind_s, guardB_t (by rw [ok, decide_eq_true hl, hp]; rfl)]
theorem run_d (s : LL) (rows : List F) (l due : List (Str × Str)) (rc : List Str) (ws : List Int) (tx ba : Str) (hs : s.ws = ws.map .int) (hw : ws.length = 10) (hl : okPs l = true) (hll : l.length ≤ 50) (hd : okDue due) (hdl : due.length ≤ 50)
  (g1 : gd125 tx = true) (c1 : check tx = true) (g2 : gd125 (slS ba none (some (-1))) = true) (c2 : check (slS ba none (some (-1))) = false) (g3 : gd125 ((")" : Str) ++ slS ba none (some (-1))) = true) (c3 : check ((")" : Str) ++ slS ba none (some (-1))) = false)
  (g4 : fitS ba = true) (g5 : fitS (slS ba none (some (-1))) = true) (g6 : (fitS ba && asc ba) = true) (hr : readF l (escPairs ba) [[0]] [] = some ([[0, gI ws 0]], due.map (·.1))) (k : KV R) :
  (evr Pr CT 49).exs lsc (lcL7 s rows (gI ws 0) 10 tx ba) (h5 (l.map pairF) (l.map pairF) (due.map pairF) (due.map pairF) (rc.map .str)) (nthS bdL 11 :: nthS bdL 12 :: nthS bdL 13 :: nthS bdL 14 :: [nthS bdL 15]) (retS [] k) = k (.f (.bool true)) [] := by
 rw [exs_cons, c317B, ct243, S243_t (l := l.map pairF) rfl rfl (by rw [List.length_map]; omega)]
 rw [eqL_loc (m := l.map pairF) rfl, eqG_self l hl, show ∀ x y : Option R, br (!true) x y = y from fun _ _ => rfl, hs, subscr_lst (by rw [List.length_map]; omega) (Int.le_refl 0) (at_int (by rw [hw]; decide))]
 show eqV (.f (.tup [.int (gI ws 0), .int 10])) (.f (.tup [.int (gI ws 0), .int 10])) _ _ = _
 rw [eq2_t, show ∀ x y : Option R, br (!true) x y = y from fun _ _ => rfl, ct243, S243_t (l := due.map pairF) rfl rfl (by rw [List.length_map]; omega)]
 rw [eqL_loc (m := due.map pairF) rfl, eqG_self due (okDue_ps hd), show ∀ x y : Option R, br (!true) x y = y from fun _ _ => rfl, restK_next, exs_cons, c317C, ct125, S125_t _ g1, c1]
 show guardB (fitS ba) _ = _
 rw [guardB_t g4, ct125, S125_t _ g2, c2]
 show restK _ _ _ _ .next _ _ = _
 rw [restK_next, exs_cons, c317D, guardB_t g4, guardB_t (by rw [g5]; rfl), ct125, S125_t _ g3, c3]
 show restK _ _ _ _ .next _ _ = _
 rw [restK_next, exs_cons, c317E, ct218, S218_t (ps := due) rfl rfl hdl (okDue_f hd), iter_loc (l := due.map pairF) rfl, obind_s, compIt_live, loop14 CT s rows (gI ws 0) 10 tx ba _ _ _ _ due hd _ 100 0 [] (by omega) (by omega), List.nil_append, List.drop_zero, hall_A due hd, eqss_t _ (selA_ok due hd)]
 show restK _ _ _ _ .next _ _ = _
 rw [restK_next, exs_cons, c317G, ct312]
 show obind (unpair (l.map pairF)) _ = _
 rw [unpair_map, obind_s, guardB_t g6, hr, obind_s]
 dsimp only
 rw [hs, subscr_lst (by rw [List.length_map]; omega) (Int.le_refl 0) (at_int (by rw [hw]; decide))]
 rw [show allF [V.f (F.int 0), V.f (F.int (gI ws 0))] = some [F.int 0, F.int (gI ws 0)] from rfl, obind_s, iter_loc (l := due.map pairF) rfl, obind_s, compIt_live, loop15 CT s rows (gI ws 0) 10 tx ba _ _ _ _ due _ 100 0 [] (by omega) (by omega), List.nil_append, List.drop_zero]
 show eqV (.f (.tup [.lst [.lst [.int 0, .int (gI ws 0)]], .lst ((due.map (·.1)).map .str)])) (.f (.tup [.lst [.lst [.int 0, .int (gI ws 0)]], .lst ((due.map (·.1)).map .str)])) _ _ = _
 rw [eqfin_t _ _ (okDue_w hd)]
 rfl
theorem run317 (ns dr ov ws : List Int) (ld wd : List Str) (wi : Int → Nat) (l due : List (Str × Str)) (rc : List Str) (tx ba : Str) (hn : ns.length ≤ 100) (hd : drawsF ns = dr) (ho : (treeF dr).2.1 = ov) (hl : (treeF dr).2.2 = ld) (hwd : wordsF dr ov = wd)
  (h1 : dr.length = 10) (h2 : wd.length = 10) (h3 : ov.length = 10) (h4 : ld.length = 10) (h5 : ws.length = 10)
  (hw : ∀ j : Int, 0 ≤ j → j < 10 → wi j < 9 ∧ gS wd j = wordS (wi j)) (hsc : scoreL wi dr (rangeUp 0 10) [] = l) (hlk : okSc l) (hll : l.length ≤ 50)
  (hov : ((List.range 9).all fun i => decide (0 ≤ gI ov (i + 1) ∧ gI ov (i + 1) < i + 1)) = true) (hb : ∀ j : Int, 0 ≤ j → j < 10 → 0 ≤ (bounds ov wd ws 100 j 0 9).1 ∧ (bounds ov wd ws 100 j 0 9).2 ≤ 9)
  (he : wfold ov wd l (rangeDn 9 (-1)) (List.replicate 10 0) = some ws) (hdue : (rangeUp 0 10).flatMap (dueJ ov wd ws wi) = due) (hdk : okDue due) (hdl : due.length ≤ 50)
  (hin : ∀ j : Int, 0 ≤ j → j < 10 → ∃ n, n < 4 ∧ gS ld j ∈ leadsN n) (hs : srch l ((rangeUp 0 10).map (rowJ ld wd)) 4 0 0 9 [] [] = some ⟨gI ws 0, 10, due, rc⟩) (hr : sumLen "" rc ≤ 100000) (htx : Txt.join "" rc = tx) (hba : strip tx = ba)
  (g0 : gd118 tx = true) (g1 : gd125 tx = true) (c1 : check tx = true) (g2 : gd125 (slS ba none (some (-1))) = true) (c2 : check (slS ba none (some (-1))) = false) (g3 : gd125 ((")" : Str) ++ slS ba none (some (-1))) = true) (c3 : check ((")" : Str) ++ slS ba none (some (-1))) = false)
  (g4 : fitS ba = true) (g5 : fitS (slS ba none (some (-1))) = true) (g6 : (fitS ba && asc ba) = true) (hrd : readF l (escPairs ba) [[0]] [] = some ([[0, gI ws 0]], due.map (·.1))) (k : KV R) :
  callFn Pr CT 317 [.f (.lst (ns.map .int))] [] [] k = k (.f (.bool true)) [] := by
 have hf : wd.all fitS = true := by
  rw [List.all_eq_true]
  intro x hx
  obtain ⟨i, hi, rfl⟩ := List.getElem_of_mem hx
  obtain ⟨w1, w2⟩ := hw (i : Int) (by omega) (by omega)
  have : wd[i] = gS wd (i : Int) := by unfold gS; simp [List.getD, hi]
  rw [this, w2]; exact (wd_ok w1).1
 subst htx hba
 obtain ⟨j, w, e1⟩ := run_a ns dr ov ld wd wi hn hd ho hl hwd h1 h2 hw (nthS bdL 3 :: nthS bdL 4 :: nthS bdL 5 :: dropS bdL 6) (retS [] k)
 rw [hsc] at e1
 obtain ⟨j', a, b, e2⟩ := run_b ns dr ov ws ld wd wi l j w h3 h2 h5 hw hov hb hf (okSc_fit hlk) hll he (dropS bdL 6) (retS [] k)
 rw [hdue] at e2
 rw [c317, bdL_0, e1, e2, bdL_6, run_c _ ld wd wi l due rc (gI ws 0) rfl rfl h4 h2 hw hin hs hr g0]
 exact run_d _ _ l due rc ws _ _ rfl h5 (okSc_ps hlk) hll hdk hdl g1 c1 g2 c2 g3 c3 g4 g5 g6 hrd k
end Mine.Q
end
section
set_option maxRecDepth 4000
namespace Mine.Q
theorem maxL_ge : ∀ (l : List Int) (m : Int), m ≤ maxL m l
 | [], m => Int.le_refl _
 | x :: r, m => by
  have := maxL_ge r (if m < x then x else m)
  show m ≤ maxL (if m < x then x else m) r
  split at this <;> split <;> omega
theorem minL_le : ∀ (l : List Int) (m : Int), minL m l ≤ m
 | [], m => Int.le_refl _
 | x :: r, m => by
  have := minL_le r (if x < m then x else m)
  show minL (if x < m then x else m) r ≤ m
  split at this <;> split <;> omega
theorem maxL_app : ∀ (l r : List Int) (m : Int), maxL m (l ++ r) = maxL (maxL m l) r
 | [], r, m => rfl
 | x :: l, r, m => maxL_app l r _
theorem minL_app : ∀ (l r : List Int) (m : Int), minL m (l ++ r) = minL (minL m l) r
 | [], r, m => rfl
 | x :: l, r, m => minL_app l r _
theorem maxL_max : ∀ (l : List Int) (a b : Int), maxL (max a b) l = max a (maxL b l)
 | [], a, b => rfl
 | x :: l, a, b => by
  show maxL (if max a b < x then x else max a b) l = max a (maxL (if b < x then x else b) l)
  rw [← maxL_max l a, show (if max a b < x then x else max a b) = max a (if b < x then x else b) from by split <;> split <;> omega]
theorem minL_min : ∀ (l : List Int) (a b : Int), minL (min a b) l = min a (minL b l)
 | [], a, b => rfl
 | x :: l, a, b => by
  show minL (if x < min a b then x else min a b) l = min a (minL (if x < b then x else b) l)
  rw [← minL_min l a, show (if x < min a b then x else min a b) = min a (if x < b then x else b) from by split <;> split <;> omega]
theorem maxL_cons (l : List Int) (m x : Int) : maxL m (x :: l) = max m (maxL x l) := by
 rw [← maxL_max]
 show maxL (if m < x then x else m) l = _
 rw [show (if m < x then x else m) = max m x from by split <;> omega]
theorem minL_cons (l : List Int) (m x : Int) : minL m (x :: l) = min m (minL x l) := by
 rw [← minL_min]
 show minL (if x < m then x else m) l = _
 rw [show (if x < m then x else m) = min m x from by split <;> omega]
theorem maxL_rng {lo hi : Int} : ∀ (l : List Int) (m : Int), lo ≤ m → m ≤ hi → (∀ x ∈ l, lo ≤ x ∧ x ≤ hi) → lo ≤ maxL m l ∧ maxL m l ≤ hi
 | [], m, h1, h2, _ => ⟨h1, h2⟩
 | x :: r, m, h1, h2, h => by
  have hx := h x (.head _)
  exact maxL_rng r _ (by split <;> omega) (by split <;> omega) fun y hy => h y (.tail _ hy)
theorem minL_rng {lo hi : Int} : ∀ (l : List Int) (m : Int), lo ≤ m → m ≤ hi → (∀ x ∈ l, lo ≤ x ∧ x ≤ hi) → lo ≤ minL m l ∧ minL m l ≤ hi
 | [], m, h1, h2, _ => ⟨h1, h2⟩
 | x :: r, m, h1, h2, h => by
  have hx := h x (.head _)
  exact minL_rng r _ (by split <;> omega) (by split <;> omega) fun y hy => h y (.tail _ hy)
theorem up_nil {a b : Int} (h : b ≤ a) : rangeUp a b = [] := by
 unfold rangeUp
 rw [show (b - a).toNat = 0 from by omega]; rfl
theorem up_cons {a b : Int} (h : a < b) : rangeUp a b = a :: rangeUp (a + 1) b := by
 unfold rangeUp
 rw [show (b - a).toNat = (b - (a + 1)).toNat + 1 from by omega, List.range_succ_eq_map, List.map_cons, List.map_map]
 congr 1
 ·show a + ((0 : Nat) : Int) = a; omega
 ·apply List.map_congr_left
  intro k _
  show a + ((k + 1 : Nat) : Int) = a + 1 + (k : Int)
  omega
theorem up_app {b c : Int} (hc : b ≤ c) : ∀ (n : Nat) (a : Int), a + n = b → rangeUp a c = rangeUp a b ++ rangeUp b c
 | 0, a, h => by
  have : a = b := by omega
  subst this
  rw [up_nil (Int.le_refl a)]; rfl
 | n + 1, a, h => by
  rw [up_cons (a := a) (b := c) (by omega), up_cons (a := a) (b := b) (by omega), up_app hc n (a + 1) (by omega)]; rfl
theorem below_app (ov ws : List Int) (j : Int) : ∀ (a b : List Int), belowF ov ws j (a ++ b) = belowF ov ws j a ++ belowF ov ws j b
 | [], b => rfl
 | k :: a, b => by
  have ih := below_app ov ws j a b
  rw [List.cons_append]
  rw [show ∀ r, belowF ov ws j (k :: r) = (match decide (gI ov k = j) with | true => gI ws k :: belowF ov ws j r | false => belowF ov ws j r) from fun _ => rfl, show belowF ov ws j (k :: a) = (match decide (gI ov k = j) with | true => gI ws k :: belowF ov ws j a | false => belowF ov ws j a) from rfl, ih]
  cases decide (gI ov k = j) <;> rfl
theorem below_cons_t {ov ws : List Int} {j k : Int} {r : List Int} (h : gI ov k = j) : belowF ov ws j (k :: r) = gI ws k :: belowF ov ws j r := by
 rw [show belowF ov ws j (k :: r) = (match decide (gI ov k = j) with | true => gI ws k :: belowF ov ws j r | false => belowF ov ws j r) from rfl, decide_eq_true h]
theorem below_cons_f {ov ws : List Int} {j k : Int} {r : List Int} (h : gI ov k ≠ j) : belowF ov ws j (k :: r) = belowF ov ws j r := by
 rw [show belowF ov ws j (k :: r) = (match decide (gI ov k = j) with | true => gI ws k :: belowF ov ws j r | false => belowF ov ws j r) from rfl, decide_eq_false h]
theorem below_none {ov ws : List Int} {j : Int} : ∀ {ks : List Int}, (∀ k ∈ ks, gI ov k ≠ j) → belowF ov ws j ks = []
 | [], _ => rfl
 | k :: r, h => by rw [below_cons_f (h k (.head _)), below_none fun x hx => h x (.tail _ hx)]
theorem below_congr {ov ws ws' : List Int} {j : Int} : ∀ {ks : List Int}, (∀ k ∈ ks, gI ws k = gI ws' k) → belowF ov ws j ks = belowF ov ws' j ks
 | [], _ => rfl
 | k :: r, h => by
  have ih := below_congr (ov := ov) (j := j) (fun x hx => h x (.tail _ hx))
  by_cases e : gI ov k = j
  ·rw [below_cons_t e, below_cons_t e, ih, h k (.head _)]
  ·rw [below_cons_f e, below_cons_f e, ih]
theorem below_mem {ov ws : List Int} {j : Int} : ∀ {ks : List Int} {x : Int}, x ∈ belowF ov ws j ks → ∃ k ∈ ks, x = gI ws k
 | [], x, h => by cases h
 | k :: r, x, h => by
  by_cases e : gI ov k = j
  ·rw [below_cons_t e] at h
   cases h with
   | head => exact ⟨k, .head _, rfl⟩
   | tail _ h => obtain ⟨k', h1, h2⟩ := below_mem h; exact ⟨k', .tail _ h1, h2⟩
  ·rw [below_cons_f e] at h
   obtain ⟨k', h1, h2⟩ := below_mem h; exact ⟨k', .tail _ h1, h2⟩
inductive Fo where
 | nil
 | leaf (r : Fo)
 | node (k r : Fo)
def sz : Fo → Nat
 | .nil => 0
 | .leaf r => 1 + sz r
 | .node k r => 1 + sz k + sz r
def Blk (dp : List Int) (i m : Nat) : Prop := m ≤ 10 ∧ (∀ k : Nat, i < k → k < m → gI dp i < gI dp k) ∧ (m < 10 → gI dp m ≤ gI dp i)
def Occ (dp ov : List Int) : Fo → Nat → Nat → Prop
 | .nil, _, _ => True
 | .leaf r, p, i => i < 10 ∧ gI ov i = p ∧ gI dp i = gI dp p + 1 ∧ inner ov i = false ∧ Occ dp ov r p (i + 1)
 | .node k r, p, i => i < 10 ∧ gI ov i = p ∧ gI dp i = gI dp p + 1 ∧ inner ov i = true ∧ k ≠ .nil ∧ Occ dp ov k i (i + 1) ∧ Blk dp i (i + 1 + sz k) ∧ Occ dp ov r p (i + 1 + sz k)
theorem inner_iff {ov : List Int} {i : Nat} : inner ov i = true ↔ i + 1 < 10 ∧ gI ov ((i + 1 : Nat) : Int) = i := by
 unfold inner
 rw [Bool.and_eq_true, decide_eq_true_eq, decide_eq_true_eq]
 constructor
 ·intro h; exact ⟨by omega, h.2⟩
 ·intro h; exact ⟨by omega, h.2⟩
theorem build {dp ov : List Int} {ld : List Str} (t : TI dp ov ld) (h10 : dp.length = 10) : ∀ (n i p : Nat), 10 - i ≤ n → p < i → i ≤ 10 → (i < 10 → gI dp i ≤ gI dp p + 1) → (∀ k : Nat, p < k → k < i → gI dp p + 1 ≤ gI dp k) →
  ∃ f, Occ dp ov f p i ∧ i + sz f ≤ 10 ∧ (i + sz f < 10 → gI dp (i + sz f : Nat) ≤ gI dp p) ∧ (∀ k : Nat, i ≤ k → k < i + sz f → gI dp p + 1 ≤ gI dp k)
 | n, i, p, hn, hp, hi, hd, hk => by
  by_cases hs : i < 10 ∧ gI dp p < gI dp i
  ·obtain ⟨i10, hs⟩ := hs
   match n, hn with
   | 0, hn => omega
   | n + 1, hn =>
    have hdi : gI dp i = gI dp p + 1 := by have := hd i10; omega
    obtain ⟨u, u1, u2, u3, u4⟩ := t.up i (by omega) (by omega)
    have hup : u = p := by
     rcases Nat.lt_trichotomy u p with h | h | h
     ·have := u4 p h hp; omega
     ·exact h
     ·have := hk u h u2; omega
    subst hup
    obtain ⟨f1, a1, a2, a3, a4⟩ := build t h10 n (i + 1) i (by omega) (by omega) (by omega) (fun h => t.st i (by omega)) (fun k h1 h2 => by omega)
    obtain ⟨f2, b1, b2, b3, b4⟩ := build t h10 n (i + 1 + sz f1) u (by omega) (by omega) a2 (fun h => by have := a3 h; omega) (fun k h1 h2 => by
     by_cases hki : k < i
     ·exact hk k h1 hki
     ·by_cases hke : k = i
      ·subst hke; omega
      ·have := a4 k (by omega) h2; omega)
    cases f1 with
    | nil =>
     refine ⟨.leaf f2, ⟨i10, u1, hdi, ?_, b1⟩, ?_, ?_, ?_⟩
     ·cases hin : inner ov i with
      | false => rfl
      | true =>
       obtain ⟨c1, c2⟩ := inner_iff.mp hin
       obtain ⟨v, v1, v2, v3, _⟩ := t.up (i + 1) (by omega) (by omega)
       have : v = i := by omega
       subst this
       have := a3 (by show v + 1 + 0 < 10; omega)
       rw [show v + 1 + sz Fo.nil = v + 1 from rfl] at this
       omega
     ·show i + (1 + sz f2) ≤ 10
      have : i + 1 + 0 + sz f2 ≤ 10 := b2
      omega
     ·intro h
      have h' : i + (1 + sz f2) < 10 := h
      have := b3 (by show i + 1 + 0 + sz f2 < 10; omega)
      rw [show i + 1 + sz Fo.nil + sz f2 = i + sz (.leaf f2) from by show i + 1 + 0 + sz f2 = i + (1 + sz f2); omega] at this
      exact this
     ·intro k h1 h2
      have h2' : k < i + (1 + sz f2) := h2
      by_cases hke : k = i
      ·subst hke; omega
      ·exact b4 k (by show i + 1 + 0 ≤ k; omega) (by show k < i + 1 + 0 + sz f2; omega)
    | leaf r =>
     refine ⟨.node (.leaf r) f2, ⟨i10, u1, hdi, inner_iff.mpr ⟨a1.1, a1.2.1⟩, (by intro h; cases h), a1, ⟨a2, fun k h1 h2 => by have := a4 k (by omega) h2; omega, fun h => a3 h⟩, b1⟩, ?_, ?_, ?_⟩
     ·rw [show i + sz (.node (.leaf r) f2) = i + 1 + sz (.leaf r) + sz f2 from by show i + (1 + sz (.leaf r) + sz f2) = _; omega]; exact b2
     ·rw [show i + sz (.node (.leaf r) f2) = i + 1 + sz (.leaf r) + sz f2 from by show i + (1 + sz (.leaf r) + sz f2) = _; omega]; exact b3
     ·rw [show i + sz (.node (.leaf r) f2) = i + 1 + sz (.leaf r) + sz f2 from by show i + (1 + sz (.leaf r) + sz f2) = _; omega]
      intro k h1 h2
      by_cases hke : k = i
      ·subst hke; omega
      ·by_cases hkm : k < i + 1 + sz (.leaf r)
       ·have := a4 k (by omega) hkm; omega
       ·exact b4 k (by omega) h2
    | node k1 r =>
     refine ⟨.node (.node k1 r) f2, ⟨i10, u1, hdi, inner_iff.mpr ⟨a1.1, a1.2.1⟩, (by intro h; cases h), a1, ⟨a2, fun k h1 h2 => by have := a4 k (by omega) h2; omega, fun h => a3 h⟩, b1⟩, ?_, ?_, ?_⟩
     ·rw [show i + sz (.node (.node k1 r) f2) = i + 1 + sz (.node k1 r) + sz f2 from by show i + (1 + sz (.node k1 r) + sz f2) = _; omega]; exact b2
     ·rw [show i + sz (.node (.node k1 r) f2) = i + 1 + sz (.node k1 r) + sz f2 from by show i + (1 + sz (.node k1 r) + sz f2) = _; omega]; exact b3
     ·rw [show i + sz (.node (.node k1 r) f2) = i + 1 + sz (.node k1 r) + sz f2 from by show i + (1 + sz (.node k1 r) + sz f2) = _; omega]
      intro k h1 h2
      by_cases hke : k = i
      ·subst hke; omega
      ·by_cases hkm : k < i + 1 + sz (.node k1 r)
       ·have := a4 k (by omega) hkm; omega
       ·exact b4 k (by omega) h2
  ·refine ⟨.nil, trivial, hi, fun h => ?_, fun k h1 h2 => ?_⟩
   ·have h' : i < 10 := h
    show gI dp (i : Nat) ≤ _
    have : ¬ (gI dp p < gI dp i) := fun h2 => hs ⟨h', h2⟩
    omega
   ·have : k < i + 0 := h2
    omega
theorem steq_self (s : Str) : steq s s = true := by
 have : ∀ l : List Nat, steqL l l = true := by
  intro l
  induction l with
  | nil => rfl
  | cons c r ih =>
   show (match Nat.beq c c with | true => steqL r r | false => false) = true
   rw [Nat.beq_refl]; exact ih
 exact this _
theorem hfind_cons (nm : Str) (p : Str × Str) (r : List (Str × Str)) : hfind nm (p :: r) = (match steq (Txt.lower p.1) nm with | true => some p.2 | false => hfind nm r) := rfl
theorem hfind_app {nm : Str} {m : List (Str × Str)} : ∀ {l : List (Str × Str)}, (hfind nm l).isSome = true → (hfind nm (l ++ m)).isSome = true
 | [], h => by cases h
 | p :: r, h => by
  rw [List.cons_append, hfind_cons]
  rw [hfind_cons] at h
  cases hs : steq (Txt.lower p.1) nm with
  | true => rfl
  | false => rw [hs] at h; exact hfind_app h
theorem hfind_self (w s : Str) : ∀ l : List (Str × Str), (hfind (Txt.lower w) (l ++ [(w, s)])).isSome = true
 | [] => by
  show (hfind (Txt.lower w) [(w, s)]).isSome = true
  rw [hfind_cons, steq_self]; rfl
 | p :: r => by
  rw [List.cons_append, hfind_cons]
  cases steq (Txt.lower p.1) (Txt.lower w) with
  | true => rfl
  | false => exact hfind_self w s r
theorem hfind_mem {nm s : Str} : ∀ {l : List (Str × Str)}, hfind nm l = some s → ∃ p ∈ l, p.2 = s
 | [], h => by cases h
 | p :: r, h => by
  rw [hfind_cons] at h
  cases hs : steq (Txt.lower p.1) nm with
  | true => rw [hs] at h; cases h; exact ⟨p, .head _, rfl⟩
  | false => rw [hs] at h; obtain ⟨q, h1, h2⟩ := hfind_mem h; exact ⟨q, .tail _ h1, h2⟩
theorem scoreT_keep {wi : Int → Nat} {dr : List Int} {j : Int} {l : List (Str × Str)} {nm : Str} (h : (hfind nm l).isSome = true) : (hfind nm (scoreT wi dr j l)).isSome = true := by
 unfold scoreT
 split
 ·exact h
 ·split
  ·exact hfind_app h
  ·exact h
theorem scoreT_new {wi : Int → Nat} {dr : List Int} {j : Int} {l : List (Str × Str)} (h : isW (wi j) = true) : (hfind (Txt.lower (wordS (wi j))) (scoreT wi dr j l)).isSome = true := by
 unfold scoreT
 rw [h]
 dsimp only
 cases hc : flagT dr j || (hfind (Txt.lower (wordS (wi j))) l).isNone with
 | true => exact hfind_self _ _ _
 | false =>
  dsimp only
  rw [Bool.or_eq_false_iff] at hc
  cases hh : hfind (Txt.lower (wordS (wi j))) l with
  | none => rw [hh] at hc; cases hc.2
  | some x => rfl
theorem scoreL_keep {wi : Int → Nat} {dr : List Int} {nm : Str} : ∀ (js : List Int) {l : List (Str × Str)}, (hfind nm l).isSome = true → (hfind nm (scoreL wi dr js l)).isSome = true
 | [], _, h => h
 | j :: js, _, h => scoreL_keep js (scoreT_keep h)
theorem scoreL_new {wi : Int → Nat} {dr : List Int} {j : Int} (h : isW (wi j) = true) : ∀ (js : List Int) {l : List (Str × Str)}, j ∈ js → (hfind (Txt.lower (wordS (wi j))) (scoreL wi dr js l)).isSome = true
 | i :: js, l, hj => by
  show (hfind (Txt.lower (wordS (wi j))) (scoreL wi dr js (scoreT wi dr i l))).isSome = true
  cases hj with
  | head => exact scoreL_keep js (scoreT_new h)
  | tail _ hj => exact scoreL_new h js hj
theorem scoreL_ok {wi : Int → Nat} {dr : List Int} : ∀ (js : List Int) {l : List (Str × Str)}, (∀ j ∈ js, wi j < 9) → okSc l → okSc (scoreL wi dr js l) ∧ (scoreL wi dr js l).length ≤ l.length + js.length
 | [], l, _, h => ⟨h, Nat.le_refl _⟩
 | j :: js, l, hw, h => by
  obtain ⟨a, b⟩ := scoreT_ok (dr := dr) (hw j (.head _)) h
  obtain ⟨c, d⟩ := scoreL_ok js (fun x hx => hw x (.tail _ hx)) a
  refine ⟨c, ?_⟩
  show (scoreL wi dr js (scoreT wi dr j l)).length ≤ l.length + (js.length + 1)
  omega
theorem hfind_val {l : List (Str × Str)} {nm : Str} (hk : okSc l) (h : (hfind nm l).isSome = true) : ∃ s v, hfind nm l = some s ∧ digitVal s = some v ∧ 1 ≤ v ∧ v ≤ 8 := by
 cases hf : hfind nm l with
 | none => rw [hf] at h; cases h
 | some s =>
  obtain ⟨p, hp, h2⟩ := hfind_mem hf
  obtain ⟨i, d, _, d1, d2, rfl⟩ := hk p hp
  exact ⟨s, d, rfl, by rw [← h2]; exact (dg_ok (by omega) (by omega)).2.2.2, d1, d2⟩
def extL (b : Bool) : List Int → Int
 | [] => 0
 | x :: r => match b with
  | true => minL x r
  | false => maxL x r
def Eqn (ov : List Int) (wi : Int → Nat) (l : List (Str × Str)) (ws : List Int) (j : Int) : Prop :=
 (isW (wi j) = false → gI ws j = extL (decide (wi j = 0)) (belowF ov ws j (rangeUp (j + 1) 10))) ∧ (isW (wi j) = true → ∃ s, hfind (Txt.lower (wordS (wi j))) l = some s ∧ digitVal s = some (gI ws j))
theorem gI_set {ws : List Int} {j k x : Int} (hj : j.toNat < ws.length) (j0 : 0 ≤ j) (k0 : 0 ≤ k) : gI (ws.set j.toNat x) k = if k = j then x else gI ws k := by
 unfold gI
 rw [List.getD_eq_getElem?_getD, List.getD_eq_getElem?_getD, List.getElem?_set]
 by_cases h : k = j
 ·subst h
  simp [hj]
 ·have : ¬ j.toNat = k.toNat := by omega
  simp [h, this]
theorem word_lt {i : Nat} (h : i < 9) : steq (wordS i) "<" = decide (i = 0) := word_cases (fun i => steq (wordS i) "<" = decide (i = 0)) h (by kernel_rfl) (by kernel_rfl) (by kernel_rfl) (by kernel_rfl) (by kernel_rfl) (by kernel_rfl) (by kernel_rfl) (by kernel_rfl) (by kernel_rfl)
theorem word_gt {i : Nat} (h : i < 9) : steq (wordS i) ">" = decide (i = 1) := word_cases (fun i => steq (wordS i) ">" = decide (i = 1)) h (by kernel_rfl) (by kernel_rfl) (by kernel_rfl) (by kernel_rfl) (by kernel_rfl) (by kernel_rfl) (by kernel_rfl) (by kernel_rfl) (by kernel_rfl)
theorem isW_f {i : Nat} (h : isW i = false) : i = 0 ∨ i = 1 := by
 match i, h with
 | 0, _ => exact .inl rfl
 | 1, _ => exact .inr rfl
theorem isW_t {i : Nat} (h : isW i = true) : 2 ≤ i := by
 match i, h with
 | n + 2, _ => omega
theorem below_ne {ov ws : List Int} {j : Int} (h : inner ov j = true) : belowF ov ws j (rangeUp (j + 1) 10) ≠ [] := by
 unfold inner at h
 rw [Bool.and_eq_true, decide_eq_true_eq, decide_eq_true_eq] at h
 rw [up_cons h.1, below_cons_t h.2]
 intro h; cases h
section
variable {ov : List Int} {wd : List Str} {wi : Int → Nat} {l : List (Str × Str)} (hw : ∀ j : Int, 0 ≤ j → j < 10 → wi j < 9 ∧ gS wd j = wordS (wi j)) (hin : ∀ j : Int, 0 ≤ j → j < 10 → isW (wi j) = !(inner ov j))
 (hlf : ∀ j : Int, 0 ≤ j → j < 10 → isW (wi j) = true → ∃ s v, hfind (Txt.lower (wordS (wi j))) l = some s ∧ digitVal s = some v ∧ 1 ≤ v ∧ v ≤ 8)
include hw hin hlf
theorem wstep_t {j : Int} (j0 : 0 ≤ j) (j1 : j < 10) {ws : List Int} (hl : ws.length = 10) : ∃ x, wstep ov wd l j ws = some (ws.set j.toNat x) ∧ (isW (wi j) = false → x = extL (decide (wi j = 0)) (belowF ov ws j (rangeUp (j + 1) 10))) ∧ (isW (wi j) = true → ∃ s, hfind (Txt.lower (wordS (wi j))) l = some s ∧ digitVal s = some x) := by
 obtain ⟨w1, w2⟩ := hw j j0 j1
 unfold wstep
 rw [w2, word_lt w1, word_gt w1]
 cases hc : isW (wi j) with
 | false =>
  have hi : inner ov j = true := by have := hin j j0 j1; rw [hc] at this; cases h : inner ov j with | true => rfl | false => rw [h] at this; cases this
  have hne := below_ne (ws := ws) hi
  cases hb : belowF ov ws j (rangeUp (j + 1) 10) with
  | nil => exact absurd hb hne
  | cons x r =>
   rcases isW_f hc with h | h
   ·rw [h]; exact ⟨minL x r, rfl, fun _ => rfl, fun h => by cases h⟩
   ·rw [h]; exact ⟨maxL x r, rfl, fun _ => rfl, fun h => by cases h⟩
 | true =>
  obtain ⟨s, v, h1, h2, _, _⟩ := hlf j j0 j1 hc
  have h := isW_t hc
  rw [decide_eq_false (by omega), decide_eq_false (by omega), h1]
  dsimp only
  rw [obind_s, h2]
  exact ⟨v, rfl, fun h => (Bool.noConfusion h), fun _ => ⟨s, rfl, h2⟩⟩
omit hw hin hlf in
theorem dn_cons {a b : Int} (h : b < a) : rangeDn a b = a :: rangeDn (a - 1) b := by
 unfold rangeDn
 rw [show (a - b).toNat = (a - 1 - b).toNat + 1 from by omega, List.range_succ_eq_map, List.map_cons, List.map_map]
 congr 1
 ·show a - ((0 : Nat) : Int) = a; omega
 ·apply List.map_congr_left
  intro k _
  show a - ((k + 1 : Nat) : Int) = a - 1 - (k : Int)
  omega
theorem wfold_t : ∀ (n : Nat) (ws : List Int), n ≤ 10 → ws.length = 10 → (∀ j : Int, (n : Int) ≤ j → j < 10 → Eqn ov wi l ws j) → ∃ ws1, wfold ov wd l (rangeDn ((n : Int) - 1) (-1)) ws = some ws1 ∧ ws1.length = 10 ∧ ∀ j : Int, 0 ≤ j → j < 10 → Eqn ov wi l ws1 j
 | 0, ws, _, hl, h => ⟨ws, rfl, hl, fun j h0 h1 => h j h0 h1⟩
 | n + 1, ws, hn, hl, h => by
  have hc : (((n + 1 : Nat) : Int) - 1) = (n : Int) := by omega
  obtain ⟨x, e, e1, e2⟩ := wstep_t hw hin hlf (j := (n : Int)) (by omega) (by omega) hl
  have hb : ∀ j : Int, (n : Int) ≤ j → belowF ov (ws.set ((n : Int)).toNat x) j (rangeUp (j + 1) 10) = belowF ov ws j (rangeUp (j + 1) 10) := by
   intro j hj
   apply below_congr
   intro k hk
   have := mem_up hk
   rw [gI_set (by omega) (by omega) (by omega), if_neg (by omega)]
  obtain ⟨ws1, a, b, c⟩ := wfold_t n (ws.set ((n : Int)).toNat x) (by omega) (by rw [List.length_set]; exact hl) (by
   intro j h0 h1
   by_cases hj : j = n
   ·subst hj
    unfold Eqn
    rw [hb _ (Int.le_refl _), gI_set (by omega) (by omega) (by omega), if_pos rfl]
    exact ⟨e1, e2⟩
   ·have := h j (by omega) h1
    unfold Eqn at this ⊢
    rw [hb j h0, gI_set (by omega) (by omega) (by omega), if_neg hj]
    exact this)
  refine ⟨ws1, ?_, b, c⟩
  rw [hc, dn_cons (by omega)]
  show obind (wstep ov wd l n ws) _ = _
  rw [e, obind_s]; exact a
omit hw in
theorem ws_rng {ws : List Int} (hq : ∀ j : Int, 0 ≤ j → j < 10 → Eqn ov wi l ws j) : ∀ (n : Nat) (j : Int), 0 ≤ j → j < 10 → 10 - j ≤ n → 1 ≤ gI ws j ∧ gI ws j ≤ 8
 | 0, j, h0, h1, h2 => by omega
 | n + 1, j, h0, h1, h2 => by
  obtain ⟨q1, q2⟩ := hq j h0 h1
  cases hc : isW (wi j) with
  | false =>
   have hi : inner ov j = true := by have := hin j h0 h1; rw [hc] at this; cases h : inner ov j with | true => rfl | false => rw [h] at this; cases this
   have hne := below_ne (ws := ws) hi
   have hall : ∀ x ∈ belowF ov ws j (rangeUp (j + 1) 10), 1 ≤ x ∧ x ≤ 8 := by
    intro x hx
    obtain ⟨k, k1, rfl⟩ := below_mem hx
    have := mem_up k1
    exact ws_rng hq n k (by omega) (by omega) (by omega)
   rw [q1 hc]
   cases hb : belowF ov ws j (rangeUp (j + 1) 10) with
   | nil => exact absurd hb hne
   | cons x r =>
    rw [hb] at hall
    have hx := hall x (.head _)
    cases decide (wi j = 0)
    ·exact maxL_rng r x hx.1 hx.2 fun y hy => hall y (.tail _ hy)
    ·exact minL_rng r x hx.1 hx.2 fun y hy => hall y (.tail _ hy)
  | true =>
   obtain ⟨s, v, h1, h2, v1, v2⟩ := hlf j h0 h1 hc
   obtain ⟨s', a, b⟩ := q2 hc
   rw [h1] at a
   cases a
   rw [h2] at b
   cases b
   exact ⟨v1, v2⟩
end
def ups (b : Bool) (lo hi x : Int) : Int × Int := match b with
 | true => (lo, if x < hi then x else hi)
 | false => (if lo < x then x else lo, hi)
def ret (b : Bool) (q : Int × Int) : Int := match b with
 | true => q.2
 | false => q.1
section
variable (mn : Nat → Bool) (v : Nat → Int)
def vals : Fo → Nat → List Int
 | .nil, _ => []
 | .leaf r, i => v i :: vals r (i + 1)
 | .node k r, i => v i :: vals r (i + 1 + sz k)
def Vok : Fo → Nat → Prop
 | .nil, _ => True
 | .leaf r, i => Vok r (i + 1)
 | .node k r, i => v i = extL (mn i) (vals v k (i + 1)) ∧ k ≠ .nil ∧ Vok k (i + 1) ∧ Vok r (i + 1 + sz k)
def abF : Fo → Bool → Nat → Int → Int → Int × Int
 | .nil, _, _, lo, hi => (lo, hi)
 | .leaf r, b, i, lo, hi => match decide (lo < hi) with
  | true => abF r b (i + 1) (ups b lo hi (v i)).1 (ups b lo hi (v i)).2
  | false => (lo, hi)
 | .node k r, b, i, lo, hi => match decide (lo < hi) with
  | true => abF r b (i + 1 + sz k) (ups b lo hi (ret (mn i) (abF k (mn i) (i + 1) lo hi))).1 (ups b lo hi (ret (mn i) (abF k (mn i) (i + 1) lo hi))).2
  | false => (lo, hi)
def ndX (k : Fo) (i : Nat) (lo hi : Int) : Int := ret (mn i) (abF mn v k (mn i) (i + 1) lo hi)
def pv : Fo → Bool → Nat → Int → Int → List Int
 | .nil, _, _, _, _ => []
 | .leaf r, b, i, lo, hi => match decide (lo < hi) with
  | true => v i :: pv r b (i + 1) (ups b lo hi (v i)).1 (ups b lo hi (v i)).2
  | false => []
 | .node k r, b, i, lo, hi => match decide (lo < hi) with
  | true => extL (mn i) (pv k (mn i) (i + 1) lo hi) :: pv r b (i + 1 + sz k) (ups b lo hi (ndX mn v k i lo hi)).1 (ups b lo hi (ndX mn v k i lo hi)).2
  | false => []
def visF : Fo → Bool → Nat → Int → Int → List (Nat × Int × Int)
 | .nil, _, _, _, _ => []
 | .leaf r, b, i, lo, hi => match decide (lo < hi) with
  | true => (i, lo, hi) :: visF r b (i + 1) (ups b lo hi (v i)).1 (ups b lo hi (v i)).2
  | false => []
 | .node k r, b, i, lo, hi => match decide (lo < hi) with
  | true => visF k (mn i) (i + 1) lo hi ++ visF r b (i + 1 + sz k) (ups b lo hi (ndX mn v k i lo hi)).1 (ups b lo hi (ndX mn v k i lo hi)).2
  | false => []
def dueF : Fo → Bool → Nat → Int → Int → List (Nat × Int × Int)
 | .nil, _, _, _, _ => []
 | .leaf r, b, i, lo, hi => (match decide (lo < hi) with
  | true => [(i, lo, hi)]
  | false => []) ++ dueF r b (i + 1) (ups b lo hi (v i)).1 (ups b lo hi (v i)).2
 | .node k r, b, i, lo, hi => dueF k (mn i) (i + 1) lo hi ++ dueF r b (i + 1 + sz k) (ups b lo hi (v i)).1 (ups b lo hi (v i)).2
theorem abF_leaf (r : Fo) (b : Bool) (i : Nat) (lo hi : Int) : abF mn v (.leaf r) b i lo hi = (match decide (lo < hi) with
  | true => abF mn v r b (i + 1) (ups b lo hi (v i)).1 (ups b lo hi (v i)).2
  | false => (lo, hi)) := rfl
theorem abF_node (k r : Fo) (b : Bool) (i : Nat) (lo hi : Int) : abF mn v (.node k r) b i lo hi = (match decide (lo < hi) with
  | true => abF mn v r b (i + 1 + sz k) (ups b lo hi (ndX mn v k i lo hi)).1 (ups b lo hi (ndX mn v k i lo hi)).2
  | false => (lo, hi)) := rfl
theorem pv_leaf (r : Fo) (b : Bool) (i : Nat) (lo hi : Int) : pv mn v (.leaf r) b i lo hi = (match decide (lo < hi) with
  | true => v i :: pv mn v r b (i + 1) (ups b lo hi (v i)).1 (ups b lo hi (v i)).2
  | false => []) := rfl
theorem pv_node (k r : Fo) (b : Bool) (i : Nat) (lo hi : Int) : pv mn v (.node k r) b i lo hi = (match decide (lo < hi) with
  | true => extL (mn i) (pv mn v k (mn i) (i + 1) lo hi) :: pv mn v r b (i + 1 + sz k) (ups b lo hi (ndX mn v k i lo hi)).1 (ups b lo hi (ndX mn v k i lo hi)).2
  | false => []) := rfl
theorem visF_leaf (r : Fo) (b : Bool) (i : Nat) (lo hi : Int) : visF mn v (.leaf r) b i lo hi = (match decide (lo < hi) with
  | true => (i, lo, hi) :: visF mn v r b (i + 1) (ups b lo hi (v i)).1 (ups b lo hi (v i)).2
  | false => []) := rfl
theorem visF_node (k r : Fo) (b : Bool) (i : Nat) (lo hi : Int) : visF mn v (.node k r) b i lo hi = (match decide (lo < hi) with
  | true => visF mn v k (mn i) (i + 1) lo hi ++ visF mn v r b (i + 1 + sz k) (ups b lo hi (ndX mn v k i lo hi)).1 (ups b lo hi (ndX mn v k i lo hi)).2
  | false => []) := rfl
theorem dueF_leaf (r : Fo) (b : Bool) (i : Nat) (lo hi : Int) : dueF mn v (.leaf r) b i lo hi = (match decide (lo < hi) with
  | true => [(i, lo, hi)]
  | false => []) ++ dueF mn v r b (i + 1) (ups b lo hi (v i)).1 (ups b lo hi (v i)).2 := rfl
theorem dueF_node (k r : Fo) (b : Bool) (i : Nat) (lo hi : Int) : dueF mn v (.node k r) b i lo hi = dueF mn v k (mn i) (i + 1) lo hi ++ dueF mn v r b (i + 1 + sz k) (ups b lo hi (v i)).1 (ups b lo hi (v i)).2 := rfl
end
def Eqw (lo hi a b : Int) : Prop := (hi ≤ a ∧ hi ≤ b) ∨ (lo < a ∧ a < hi ∧ a = b) ∨ (a ≤ lo ∧ b ≤ lo)
def Ok (b : Bool) (lo hi : Int) (vs : List Int) (q : Int × Int) : Prop := match b with
 | false => q.2 = hi ∧ ((hi ≤ maxL lo vs ∧ hi ≤ q.1) ∨ (maxL lo vs = q.1 ∧ q.1 < hi))
 | true => q.1 = lo ∧ ((minL hi vs ≤ lo ∧ q.2 ≤ lo) ∨ (minL hi vs = q.2 ∧ lo < q.2))
theorem ok_cut {b : Bool} {lo hi : Int} {vs : List Int} (h : hi ≤ lo) : Ok b lo hi vs (lo, hi) := by
 cases b
 ·have := maxL_ge vs lo
  exact ⟨rfl, .inl ⟨by omega, h⟩⟩
 ·have := minL_le vs hi
  exact ⟨rfl, .inl ⟨by omega, h⟩⟩
theorem ok_nil {b : Bool} {lo hi : Int} : Ok b lo hi [] (lo, hi) := by
 cases b
 ·refine ⟨rfl, ?_⟩
  show (hi ≤ lo ∧ hi ≤ lo) ∨ (lo = lo ∧ lo < hi)
  omega
 ·refine ⟨rfl, ?_⟩
  show (hi ≤ lo ∧ hi ≤ lo) ∨ (hi = hi ∧ lo < hi)
  omega
theorem ok_step {b : Bool} {lo hi w x : Int} {vs : List Int} {q : Int × Int} (h : lo < hi) (e : Eqw lo hi w x) (o : Ok b (ups b lo hi x).1 (ups b lo hi x).2 vs q) : Ok b lo hi (w :: vs) q := by
 cases b
 ·obtain ⟨o1, o2⟩ := o
  refine ⟨o1, ?_⟩
  rw [show maxL lo (w :: vs) = maxL (if lo < w then w else lo) vs from rfl]
  dsimp only [ups] at o2
  have g1 := maxL_ge vs (if lo < w then w else lo)
  have g2 := maxL_ge vs (if lo < x then x else lo)
  rcases e with ⟨e1, e2⟩ | ⟨e1, e2, e3⟩ | ⟨e1, e2⟩
  ·rw [if_pos (by omega)] at g1 g2 o2
   rw [if_pos (by omega)]
   left
   rcases o2 with o2 | o2 <;> omega
  ·rw [e3]; exact o2
  ·rw [if_neg (by omega)] at o2
   rw [if_neg (by omega)]; exact o2
 ·obtain ⟨o1, o2⟩ := o
  refine ⟨o1, ?_⟩
  rw [show minL hi (w :: vs) = minL (if w < hi then w else hi) vs from rfl]
  dsimp only [ups] at o2
  have g1 := minL_le vs (if w < hi then w else hi)
  have g2 := minL_le vs (if x < hi then x else hi)
  rcases e with ⟨e1, e2⟩ | ⟨e1, e2, e3⟩ | ⟨e1, e2⟩
  ·rw [if_neg (by omega)] at o2
   rw [if_neg (by omega)]; exact o2
  ·rw [e3]; exact o2
  ·rw [if_pos (by omega)] at g1 g2 o2
   rw [if_pos (by omega)]
   left
   rcases o2 with o2 | o2 <;> omega
theorem ok_ret {b : Bool} {lo hi x : Int} {r : List Int} {q : Int × Int} (h : lo < hi) (o : Ok b lo hi (x :: r) q) : Eqw lo hi (extL b (x :: r)) (ret b q) := by
 cases b
 ·obtain ⟨o1, o2⟩ := o
  rw [maxL_cons] at o2
  show Eqw lo hi (maxL x r) q.1
  unfold Eqw
  rcases o2 with o2 | o2 <;> omega
 ·obtain ⟨o1, o2⟩ := o
  rw [minL_cons] at o2
  show Eqw lo hi (minL x r) q.2
  unfold Eqw
  rcases o2 with o2 | o2 <;> omega
theorem eqw_self {lo hi a : Int} : Eqw lo hi a a := by unfold Eqw; omega
section
variable {mn : Nat → Bool} {v : Nat → Int}
theorem vals_ne {f : Fo} {i : Nat} (h : f ≠ .nil) : vals v f i ≠ [] := by
 cases f with
 | nil => exact absurd rfl h
 | leaf r => intro e; cases e
 | node k r => intro e; cases e
theorem pv_ne {f : Fo} {b : Bool} {i : Nat} {lo hi : Int} (h : f ≠ .nil) (hl : lo < hi) : pv mn v f b i lo hi ≠ [] := by
 cases f with
 | nil => exact absurd rfl h
 | leaf r => rw [pv_leaf, decide_eq_true hl]; intro e; cases e
 | node k r => rw [pv_node, decide_eq_true hl]; intro e; cases e
theorem ok_ret' {b : Bool} {lo hi : Int} {r : List Int} {q : Int × Int} (h : lo < hi) (hr : r ≠ []) (o : Ok b lo hi r q) : Eqw lo hi (extL b r) (ret b q) := by
 cases r with
 | nil => exact absurd rfl hr
 | cons x r => exact ok_ret h o
theorem ab_full : ∀ (f : Fo) (b : Bool) (i : Nat) (lo hi : Int), Vok mn v f i → Ok b lo hi (vals v f i) (abF mn v f b i lo hi)
 | .nil, b, i, lo, hi, _ => ok_nil
 | .leaf r, b, i, lo, hi, h => by
  rw [abF_leaf]
  cases hd : decide (lo < hi) with
  | true => exact ok_step (of_decide_eq_true hd) eqw_self (ab_full r b (i + 1) _ _ h)
  | false => exact ok_cut (by have := of_decide_eq_false hd; omega)
 | .node k r, b, i, lo, hi, h => by
  obtain ⟨h1, h2, h3, h4⟩ := h
  rw [abF_node]
  cases hd : decide (lo < hi) with
  | true =>
   have hl := of_decide_eq_true hd
   have e := ok_ret' hl (vals_ne (v := v) (i := i + 1) h2) (ab_full k (mn i) (i + 1) lo hi h3)
   rw [← h1] at e
   exact ok_step hl e (ab_full r b (i + 1 + sz k) _ _ h4)
  | false => exact ok_cut (by have := of_decide_eq_false hd; omega)
theorem eqw_nd {k : Fo} {i : Nat} {lo hi : Int} (hl : lo < hi) (h1 : v i = extL (mn i) (vals v k (i + 1))) (h2 : k ≠ .nil) (h3 : Vok mn v k (i + 1)) : Eqw lo hi (v i) (ndX mn v k i lo hi) := by
 have e := ok_ret' hl (vals_ne (v := v) (i := i + 1) h2) (ab_full k (mn i) (i + 1) lo hi h3)
 rw [← h1] at e
 exact e
theorem ab_pv : ∀ (f : Fo) (b : Bool) (i : Nat) (lo hi : Int), Vok mn v f i → Ok b lo hi (pv mn v f b i lo hi) (abF mn v f b i lo hi)
 | .nil, b, i, lo, hi, _ => ok_nil
 | .leaf r, b, i, lo, hi, h => by
  rw [abF_leaf, pv_leaf]
  cases hd : decide (lo < hi) with
  | true => exact ok_step (of_decide_eq_true hd) eqw_self (ab_pv r b (i + 1) _ _ h)
  | false => exact ok_cut (by have := of_decide_eq_false hd; omega)
 | .node k r, b, i, lo, hi, h => by
  obtain ⟨h1, h2, h3, h4⟩ := h
  rw [abF_node, pv_node]
  cases hd : decide (lo < hi) with
  | true =>
   have hl := of_decide_eq_true hd
   exact ok_step hl (ok_ret' hl (pv_ne h2 hl) (ab_pv k (mn i) (i + 1) lo hi h3)) (ab_pv r b (i + 1 + sz k) _ _ h4)
  | false => exact ok_cut (by have := of_decide_eq_false hd; omega)
theorem due_cut : ∀ (f : Fo) (b : Bool) (i : Nat) (lo hi : Int), hi ≤ lo → dueF mn v f b i lo hi = []
 | .nil, _, _, _, _, _ => rfl
 | .leaf r, b, i, lo, hi, h => by
  rw [dueF_leaf, decide_eq_false (by omega), due_cut r b (i + 1) _ _ (by cases b <;> dsimp only [ups] <;> split <;> omega)]; rfl
 | .node k r, b, i, lo, hi, h => by
  rw [dueF_node, due_cut k _ _ lo hi h, due_cut r b _ _ _ (by cases b <;> dsimp only [ups] <;> split <;> omega)]; rfl
def Same (lo hi plo phi : Int) : Prop := (lo = plo ∧ hi = phi) ∨ (hi ≤ lo ∧ phi ≤ plo)
theorem same_step {b : Bool} {lo hi w x : Int} (h : lo < hi) (e : Eqw lo hi w x) : Same (ups b lo hi x).1 (ups b lo hi x).2 (ups b lo hi w).1 (ups b lo hi w).2 := by
 unfold Same
 cases b <;> dsimp only [ups] <;> rcases e with ⟨e1, e2⟩ | ⟨e1, e2, e3⟩ | ⟨e1, e2⟩ <;> (repeat' split) <;> omega
theorem vis_due : ∀ (f : Fo) (b : Bool) (i : Nat) (lo hi plo phi : Int), Vok mn v f i → Same lo hi plo phi → visF mn v f b i lo hi = dueF mn v f b i plo phi
 | .nil, _, _, _, _, _, _, _, _ => rfl
 | .leaf r, b, i, lo, hi, plo, phi, h, s => by
  rw [visF_leaf]
  rcases s with ⟨s1, s2⟩ | ⟨s1, s2⟩
  ·subst s1 s2
   rw [dueF_leaf]
   cases hd : decide (lo < hi) with
   | true =>
    dsimp only
    rw [vis_due r b (i + 1) _ _ _ _ h (.inl ⟨rfl, rfl⟩)]; rfl
   | false =>
    have hd := of_decide_eq_false hd
    rw [due_cut r b _ _ _ (by cases b <;> dsimp only [ups] <;> split <;> omega)]; rfl
  ·rw [decide_eq_false (by omega), due_cut _ b i plo phi s2]
 | .node k r, b, i, lo, hi, plo, phi, h, s => by
  obtain ⟨h1, h2, h3, h4⟩ := h
  rw [visF_node]
  rcases s with ⟨s1, s2⟩ | ⟨s1, s2⟩
  ·subst s1 s2
   cases hd : decide (lo < hi) with
   | true =>
    have hl := of_decide_eq_true hd
    dsimp only
    rw [dueF_node, vis_due k (mn i) (i + 1) lo hi lo hi h3 (.inl ⟨rfl, rfl⟩), vis_due r b _ _ _ _ _ h4 (same_step hl (eqw_nd hl h1 h2 h3))]
   | false =>
    have hd := of_decide_eq_false hd
    rw [due_cut _ b i lo hi (by omega)]
  ·rw [decide_eq_false (by omega), due_cut _ b i plo phi s2]
end
abbrev upN (a b : Nat) : List Int := rangeUp (a : Int) (b : Int)
theorem upN_nil (a : Nat) : upN a a = [] := up_nil (Int.le_refl _)
theorem upN_cons {a b : Nat} (h : a < b) : upN a b = (a : Int) :: upN (a + 1) b := up_cons (by omega)
theorem upN_app {a b c : Nat} (h : a ≤ b) (h2 : b ≤ c) : upN a c = upN a b ++ upN b c := up_app (by omega) (b - a) _ (by omega)
theorem upN_mem {a b : Nat} {k : Int} (h : k ∈ upN a b) : ∃ n : Nat, k = n ∧ a ≤ n ∧ n < b := by
 have := mem_up h
 exact ⟨k.toNat, by omega, by omega, by omega⟩
theorem occ_ov {dp ov : List Int} : ∀ (f : Fo) (p i : Nat), Occ dp ov f p i → p < i → ∀ k : Nat, i ≤ k → k < i + sz f → ∃ u : Nat, gI ov k = u ∧ p ≤ u
 | .nil, p, i, _, _, k, h1, h2 => by
  have : k < i + 0 := h2
  omega
 | .leaf r, p, i, h, hp, k, h1, h2 => by
  obtain ⟨a, b, _, _, c⟩ := h
  have h2' : k < i + (1 + sz r) := h2
  by_cases hk : k = i
  ·subst hk; exact ⟨p, b, Nat.le_refl _⟩
  ·exact occ_ov r p (i + 1) c (by omega) k (by omega) (by omega)
 | .node f r, p, i, h, hp, k, h1, h2 => by
  obtain ⟨a, b, _, _, _, c, _, d⟩ := h
  have h2' : k < i + (1 + sz f + sz r) := h2
  by_cases hk : k = i
  ·subst hk; exact ⟨p, b, Nat.le_refl _⟩
  ·by_cases hm : k < i + 1 + sz f
   ·obtain ⟨u, u1, u2⟩ := occ_ov f i (i + 1) c (by omega) k (by omega) hm
    exact ⟨u, u1, by omega⟩
   ·exact occ_ov r p (i + 1 + sz f) d (by omega) k (by omega) (by omega)
theorem below_mid {dp ov ws : List Int} {f : Fo} {p i : Nat} (h : Occ dp ov f i (i + 1)) (hp : p < i) : belowF ov ws p (upN (i + 1) (i + 1 + sz f)) = [] := by
 apply below_none
 intro k hk
 obtain ⟨n, rfl, n1, n2⟩ := upN_mem hk
 obtain ⟨u, u1, u2⟩ := occ_ov f i (i + 1) h (by omega) n n1 n2
 rw [u1]; omega
theorem below_vals {dp ov ws : List Int} : ∀ (f : Fo) (p i : Nat), Occ dp ov f p i → p < i → belowF ov ws p (upN i (i + sz f)) = vals (fun j => gI ws j) f i
 | .nil, p, i, _, _ => by
  rw [show i + sz .nil = i from rfl, upN_nil]; rfl
 | .leaf r, p, i, h, hp => by
  obtain ⟨a, b, _, _, c⟩ := h
  have e : i + sz (.leaf r) = i + 1 + sz r := by show i + (1 + sz r) = _; omega
  rw [e, upN_cons (by omega), below_cons_t b, below_vals r p (i + 1) c (by omega)]; rfl
 | .node f r, p, i, h, hp => by
  obtain ⟨a, b, _, _, _, c, _, d⟩ := h
  have e : i + sz (.node f r) = i + 1 + sz f + sz r := by show i + (1 + sz f + sz r) = _; omega
  rw [e, upN_cons (by omega), below_cons_t b, upN_app (b := i + 1 + sz f) (by omega) (by omega), below_app, below_mid c hp, below_vals r p _ d (by omega)]; rfl
theorem below_out {dp ov ws : List Int} {ld : List Str} (t : TI dp ov ld) (h10 : dp.length = 10) {p e : Nat} (hb : Blk dp p e) (hp : p < e) : belowF ov ws p (upN e 10) = [] := by
 apply below_none
 intro k hk
 obtain ⟨n, rfl, n1, n2⟩ := upN_mem hk
 obtain ⟨u, u1, u2, u3, u4⟩ := t.up n (by omega) (by omega)
 rw [u1]
 intro hup
 have hup : u = p := by omega
 subst hup
 have h3 := hb.2.2 (by omega)
 by_cases hne : n = e
 ·subst hne; omega
 ·have := u4 e hp (by omega); omega
theorem kids_all {dp ov ws : List Int} {ld : List Str} (t : TI dp ov ld) (h10 : dp.length = 10) {k : Fo} {i : Nat} (h : Occ dp ov k i (i + 1)) (hb : Blk dp i (i + 1 + sz k)) : belowF ov ws i (upN (i + 1) 10) = vals (fun j => gI ws j) k (i + 1) := by
 rw [upN_app (b := i + 1 + sz k) (by omega) hb.1, below_app, below_out t h10 hb (by omega), List.append_nil, below_vals k i (i + 1) h (by omega)]
section
variable {dp ov ws : List Int} {ld wd : List Str} {wi : Int → Nat} {l : List (Str × Str)} (t : TI dp ov ld) (h10 : dp.length = 10) (hw : ∀ j : Int, 0 ≤ j → j < 10 → wi j < 9 ∧ gS wd j = wordS (wi j)) (hin : ∀ j : Int, 0 ≤ j → j < 10 → isW (wi j) = !(inner ov j))
 (hq : ∀ j : Int, 0 ≤ j → j < 10 → Eqn ov wi l ws j)
abbrev mnF (wi : Int → Nat) (i : Nat) : Bool := decide (wi (i : Int) = 0)
abbrev vF (ws : List Int) (i : Nat) : Int := gI ws (i : Int)
include t h10 hw hin hq
omit hw in
theorem vok : ∀ (f : Fo) (p i : Nat), Occ dp ov f p i → p < i → Vok (mnF wi) (vF ws) f i
 | .nil, _, _, _, _ => trivial
 | .leaf r, p, i, h, hp => vok r p (i + 1) h.2.2.2.2 (by omega)
 | .node k r, p, i, h, hp => by
  obtain ⟨a, b, _, a4, a5, c, hb, d⟩ := h
  refine ⟨?_, a5, vok k i (i + 1) c (by omega), vok r p _ d (by omega)⟩
  have hi := hin (i : Int) (by omega) (by omega)
  rw [a4] at hi
  have := (hq (i : Int) (by omega) (by omega)).1 hi
  show gI ws i = _
  rw [this]
  congr 1
  exact kids_all t h10 c hb
omit t h10 hin hq in
theorem bd_zero (m : Nat) (lo hi : Int) : bounds ov wd ws m (0 : Nat) lo hi = (lo, hi) := by cases m <;> rfl
omit t h10 hin hq in
theorem bd_succ (m : Nat) {j u : Nat} (hj : 0 < j) (hu : gI ov j = u) (hu10 : u < 10) (lo hi : Int) : bounds ov wd ws (m + 1) j lo hi = (match mnF wi u with
  | true => bounds ov wd ws m u lo (minL hi (belowF ov ws u (upN (u + 1) j)))
  | false => bounds ov wd ws m u (maxL lo (belowF ov ws u (upN (u + 1) j))) hi) := by
 obtain ⟨w1, w2⟩ := hw (u : Int) (by omega) (by omega)
 rw [show bounds ov wd ws (m + 1) j lo hi = (match decide (0 < (j : Int)) with
  | false => (lo, hi)
  | true => match steq (gS wd (gI ov j)) "<" with
   | true => bounds ov wd ws m (gI ov j) lo (minL hi (belowF ov ws (gI ov j) (rangeUp (gI ov j + 1) j)))
   | false => bounds ov wd ws m (gI ov j) (maxL lo (belowF ov ws (gI ov j) (rangeUp (gI ov j + 1) j))) hi) from rfl, decide_eq_true (by omega), hu, w2, word_lt w1]
 rfl
omit hin hq in
theorem bd_fuel : ∀ (m m' j : Nat) (lo hi : Int), j < m → j < m' → j < 10 → bounds ov wd ws m j lo hi = bounds ov wd ws m' j lo hi
 | 0, _, _, _, _, h, _, _ => by omega
 | _, 0, _, _, _, _, h, _ => by omega
 | m + 1, m' + 1, j, lo, hi, h1, h2, h3 => by
  by_cases hj : j = 0
  ·subst hj; rw [bd_zero hw, bd_zero hw]
  ·obtain ⟨u, u1, u2, _⟩ := t.up j (by omega) (by omega)
   rw [bd_succ hw m (by omega) u1 (by omega), bd_succ hw m' (by omega) u1 (by omega)]
   cases mnF wi u
   ·exact bd_fuel m m' u _ _ (by omega) (by omega) (by omega)
   ·exact bd_fuel m m' u _ _ (by omega) (by omega) (by omega)
omit hin hq in
theorem bd_shift : ∀ (m j : Nat) (lo hi : Int), j < m → j < 10 → 0 ≤ lo → hi ≤ 9 → bounds ov wd ws m j lo hi = (max lo (bounds ov wd ws m j 0 9).1, min hi (bounds ov wd ws m j 0 9).2) ∧ 0 ≤ (bounds ov wd ws m j 0 9).1 ∧ (bounds ov wd ws m j 0 9).2 ≤ 9
 | 0, j, lo, hi, h, _, _, _ => by omega
 | m + 1, j, lo, hi, h, h3, h4, h5 => by
  by_cases hj : j = 0
  ·subst hj
   rw [bd_zero hw, bd_zero hw]
   refine ⟨?_, by decide, by decide⟩
   show (lo, hi) = (max lo 0, min hi 9)
   rw [show max lo 0 = lo from by omega, show min hi 9 = hi from by omega]
  ·obtain ⟨u, u1, u2, _⟩ := t.up j (by omega) (by omega)
   rw [bd_succ hw m (by omega) u1 (by omega), bd_succ hw m (by omega) u1 (by omega)]
   generalize belowF ov ws u (upN (u + 1) j) = e
   cases mnF wi u
   ·have g1 := maxL_ge e lo
    have g2 := maxL_ge e 0
    obtain ⟨a, a1, a2⟩ := bd_shift m u (maxL lo e) hi (by omega) (by omega) (by omega) h5
    obtain ⟨b, _⟩ := bd_shift m u (maxL 0 e) 9 (by omega) (by omega) (by omega) (Int.le_refl 9)
    dsimp only
    rw [a, b]
    dsimp only
    have hm : maxL lo e = max lo (maxL 0 e) := by rw [← maxL_max, show max lo 0 = lo from by omega]
    rw [hm]
    refine ⟨?_, by omega, by omega⟩
    congr 1 <;> omega
   ·have g1 := minL_le e hi
    have g2 := minL_le e 9
    obtain ⟨a, a1, a2⟩ := bd_shift m u lo (minL hi e) (by omega) (by omega) h4 (by omega)
    obtain ⟨b, _⟩ := bd_shift m u 0 (minL 9 e) (by omega) (by omega) (Int.le_refl 0) (by omega)
    dsimp only
    rw [a, b]
    dsimp only
    have hm : minL hi e = min hi (minL 9 e) := by rw [← minL_min, show min hi 9 = hi from by omega]
    rw [hm]
    refine ⟨?_, by omega, by omega⟩
    congr 1 <;> omega
def winP (ov : List Int) (wd : List Str) (ws : List Int) (wi : Int → Nat) (p : Nat) (e : List Int) : Int × Int := match mnF wi p with
 | true => ((bounds ov wd ws 100 p 0 9).1, minL (bounds ov wd ws 100 p 0 9).2 e)
 | false => (maxL (bounds ov wd ws 100 p 0 9).1 e, (bounds ov wd ws 100 p 0 9).2)
omit hin hq in
theorem kidW {j u : Nat} (hj : 0 < j) (h : j < 10) (hu : gI ov j = u) : bounds ov wd ws 100 j 0 9 = winP ov wd ws wi u (belowF ov ws u (upN (u + 1) j)) := by
 have hu2 : u < j := by
  obtain ⟨u', u1, u2, _⟩ := t.up j hj (by omega)
  omega
 rw [bd_succ hw 99 hj hu (by omega)]
 unfold winP
 generalize belowF ov ws u (upN (u + 1) j) = e
 obtain ⟨_, c1, c2⟩ := bd_shift t h10 hw (ws := ws) 100 u 0 9 (by omega) (by omega) (Int.le_refl 0) (Int.le_refl 9)
 cases mnF wi u
 ·dsimp only
  have g := maxL_ge e 0
  rw [bd_fuel t h10 hw 99 100 u _ _ (by omega) (by omega) (by omega), (bd_shift t h10 hw 100 u (maxL 0 e) 9 (by omega) (by omega) (by omega) (Int.le_refl 9)).1]
  have hm : maxL (bounds ov wd ws 100 u 0 9).1 e = max (bounds ov wd ws 100 u 0 9).1 (maxL 0 e) := by rw [← maxL_max, show max (bounds ov wd ws 100 u 0 9).1 0 = (bounds ov wd ws 100 u 0 9).1 from by omega]
  rw [hm]
  congr 1 <;> omega
 ·dsimp only
  have g := minL_le e 9
  rw [bd_fuel t h10 hw 99 100 u _ _ (by omega) (by omega) (by omega), (bd_shift t h10 hw 100 u 0 (minL 9 e) (by omega) (by omega) (Int.le_refl 0) (by omega)).1]
  have hm : minL (bounds ov wd ws 100 u 0 9).2 e = min (bounds ov wd ws 100 u 0 9).2 (minL 9 e) := by rw [← minL_min, show min (bounds ov wd ws 100 u 0 9).2 9 = (bounds ov wd ws 100 u 0 9).2 from by omega]
  rw [hm]
  congr 1 <;> omega
omit t h10 hw hin hq in
theorem winP_ups (p : Nat) (e : List Int) (x : Int) : ups (mnF wi p) (winP ov wd ws wi p e).1 (winP ov wd ws wi p e).2 x = winP ov wd ws wi p (e ++ [x]) := by
 unfold winP
 cases mnF wi p
 ·dsimp only [ups]
  rw [maxL_app]; rfl
 ·dsimp only [ups]
  rw [minL_app]; rfl
omit t h10 hw hin hq in
theorem winP_nil (p : Nat) : winP ov wd ws wi p [] = bounds ov wd ws 100 p 0 9 := by
 unfold winP
 cases mnF wi p <;> rfl
def ent (wi : Int → Nat) (q : Nat × Int × Int) : Str × Str := (wordS (wi (q.1 : Int)), fmtD q.2.1 q.2.2)
omit hq in
theorem due_rows : ∀ (f : Fo) (p i : Nat), Occ dp ov f p i → p < i → (upN i (i + sz f)).flatMap (dueJ ov wd ws wi) =
  (dueF (mnF wi) (vF ws) f (mnF wi p) i (winP ov wd ws wi p (belowF ov ws p (upN (p + 1) i))).1 (winP ov wd ws wi p (belowF ov ws p (upN (p + 1) i))).2).map (ent wi)
 | .nil, p, i, _, _ => by
  rw [show i + sz .nil = i from rfl, upN_nil]; rfl
 | .leaf r, p, i, h, hp => by
  obtain ⟨a, b, _, a4, c⟩ := h
  have e : i + sz (.leaf r) = i + 1 + sz r := by show i + (1 + sz r) = _; omega
  have hi := hin (i : Int) (by omega) (by omega)
  rw [a4] at hi
  rw [e, upN_cons (by omega), List.flatMap_cons, due_rows r p (i + 1) c (by omega), dueF_leaf, List.map_append, upN_app (a := p + 1) (b := i) (by omega) (by omega), upN_cons (a := i) (by omega), upN_nil, below_app, below_cons_t b, winP_ups]
  congr 1
  unfold dueJ
  rw [hi, kidW t h10 hw (by omega) a b]
  rw [show (!false) = true from rfl]
  dsimp only
  cases decide ((winP ov wd ws wi p (belowF ov ws p (upN (p + 1) i))).fst < (winP ov wd ws wi p (belowF ov ws p (upN (p + 1) i))).snd) <;> rfl
 | .node k r, p, i, h, hp => by
  obtain ⟨a, b, _, a4, a5, c, hb, d⟩ := h
  have e : i + sz (.node k r) = i + 1 + sz k + sz r := by show i + (1 + sz k + sz r) = _; omega
  have hi := hin (i : Int) (by omega) (by omega)
  rw [a4] at hi
  have ek := due_rows k i (i + 1) c (by omega)
  rw [upN_nil, show belowF ov ws (i : Int) [] = [] from rfl, winP_nil, kidW t h10 hw (by omega) a b] at ek
  rw [e, upN_cons (by omega), List.flatMap_cons, upN_app (a := i + 1) (b := i + 1 + sz k) (by omega) (by omega), List.flatMap_append, ek, due_rows r p _ d (by omega), dueF_node, List.map_append, upN_app (a := p + 1) (b := i) (c := i + 1 + sz k) (by omega) (by omega), upN_cons (a := i) (b := i + 1 + sz k) (by omega), below_app, below_cons_t b, below_mid c hp, winP_ups]
  rw [show dueJ ov wd ws wi i = [] from by unfold dueJ; rw [hi]; rfl]
  rfl
end
def lessN (a b : Nm) : Bool := lessW a.n a.nt a.cnt a.b (decide (a.cnt.length ≤ 1)) b.n b.nt b.cnt b.b (decide (b.cnt.length ≤ 1))
def stp (m : Nm) : List Nm := [nstep 0 m, nstep 1 m, nstep 2 m]
def reach : Nat → Nm → List Nm
 | 0, m => [m]
 | n + 1, m => (reach n m).flatMap stp
def nm0 : Nm := scanL ⟨#[]⟩
def factA (d r : Nat) : Bool := (reach d nm0).all fun m => (reach r m).all fun m' => lessN m m'
def factB (d r : Nat) : Bool := (reach d nm0).all fun m => (reach r m).all fun m' => (stp m).all fun m2 => !(lessN m' m2)
def factC (d : Nat) : Bool := (reach d nm0).all okNm
theorem factA_fin : factA 0 1 = true ∧ factA 0 2 = true ∧ factA 0 3 = true ∧ factA 1 1 = true ∧ factA 1 2 = true ∧ factA 2 1 = true := ⟨by kernel_rfl, by kernel_rfl, by kernel_rfl, by kernel_rfl, by kernel_rfl, by kernel_rfl⟩
theorem factB_fin : factB 0 1 = true ∧ factB 0 2 = true ∧ factB 0 3 = true ∧ factB 1 1 = true ∧ factB 1 2 = true ∧ factB 2 1 = true := ⟨by kernel_rfl, by kernel_rfl, by kernel_rfl, by kernel_rfl, by kernel_rfl, by kernel_rfl⟩
theorem factC_fin : factC 0 = true ∧ factC 1 = true ∧ factC 2 = true ∧ factC 3 = true := ⟨by kernel_rfl, by kernel_rfl, by kernel_rfl, by kernel_rfl⟩
theorem factA_t {d r : Nat} (h1 : 1 ≤ r) (h2 : d + r ≤ 3) : factA d r = true := by
 obtain ⟨a, b, c, e, f, g⟩ := factA_fin
 match d, r, h1, h2 with
 | 0, 1, _, _ => exact a
 | 0, 2, _, _ => exact b
 | 0, 3, _, _ => exact c
 | 1, 1, _, _ => exact e
 | 1, 2, _, _ => exact f
 | 2, 1, _, _ => exact g
 | 0, n + 4, _, h => omega
 | 1, n + 3, _, h => omega
 | 2, n + 2, _, h => omega
 | m + 3, n + 1, _, h => omega
theorem factB_t {d r : Nat} (h1 : 1 ≤ r) (h2 : d + r ≤ 3) : factB d r = true := by
 obtain ⟨a, b, c, e, f, g⟩ := factB_fin
 match d, r, h1, h2 with
 | 0, 1, _, _ => exact a
 | 0, 2, _, _ => exact b
 | 0, 3, _, _ => exact c
 | 1, 1, _, _ => exact e
 | 1, 2, _, _ => exact f
 | 2, 1, _, _ => exact g
 | 0, n + 4, _, h => omega
 | 1, n + 3, _, h => omega
 | 2, n + 2, _, h => omega
 | m + 3, n + 1, _, h => omega
theorem factC_t {d : Nat} (h : d ≤ 3) : factC d = true := by
 obtain ⟨a, b, c, e⟩ := factC_fin
 match d, h with
 | 0, _ => exact a
 | 1, _ => exact b
 | 2, _ => exact c
 | 3, _ => exact e
theorem stp_mem {s : Nat} (h : s < 3) (m : Nm) : nstep s m ∈ stp m := by
 match s, h with
 | 0, _ => exact .head _
 | 1, _ => exact .tail _ (.head _)
 | 2, _ => exact .tail _ (.tail _ (.head _))
section
variable {dp ov : List Int} {ld : List Str} (t : TI dp ov ld) (h10 : dp.length = 10)
include t h10
theorem nm_reach : ∀ (n p k : Nat), k ≤ n → p < k → k < 10 → (∀ x : Nat, p < x → x ≤ k → gI dp p < gI dp x) → scanL (gS ld k) ∈ reach (gI dp k - gI dp p).toNat (scanL (gS ld p))
 | 0, p, k, hn, hp, _, _ => by omega
 | n + 1, p, k, hn, hp, hk, hx => by
  obtain ⟨u, u1, u2, u3, u4⟩ := t.up k (by omega) (by omega)
  obtain ⟨s, s1, s2⟩ := t.nm k (by omega) (by omega)
  rw [u1] at s2
  have hpk := hx k hp (Nat.le_refl _)
  have hup : p ≤ u := by
   by_cases h : p ≤ u
   ·exact h
   ·have := u4 p (by omega) hp; omega
  by_cases he : u = p
  ·subst he
   rw [show (gI dp k - gI dp u).toNat = 0 + 1 from by omega, s2]
   exact List.mem_flatMap.mpr ⟨scanL (gS ld u), .head _, stp_mem s1 _⟩
  ·have ih := nm_reach n p u (by omega) (by omega) (by omega) fun x h1 h2 => hx x h1 (by omega)
   have hpu := hx u (by omega) (by omega)
   rw [show (gI dp k - gI dp p).toNat = (gI dp u - gI dp p).toNat + 1 from by omega, s2]
   exact List.mem_flatMap.mpr ⟨_, ih, stp_mem s1 _⟩
theorem nm_root (p : Nat) (hp : p < 10) : scanL (gS ld p) ∈ reach (gI dp p).toNat nm0 := by
 have h0 : gS ld (0 : Nat) = ⟨#[]⟩ := by
  have := t.le 0 (by omega)
  rw [show gI dp ((0 : Nat) : Int) = 0 from t.d0] at this
  have this : gS ld (0 : Nat) ∈ ([⟨#[]⟩] : List Str) := this
  exact List.mem_singleton.mp this
 by_cases h : p = 0
 ·subst h
  rw [show gI dp ((0 : Nat) : Int) = 0 from t.d0, h0]; exact .head _
 ·have := nm_reach t h10 p 0 p (Nat.le_refl _) (by omega) hp fun x h1 h2 => by
   rw [show gI dp ((0 : Nat) : Int) = 0 from t.d0]
   have := t.dd x (by omega) (by omega); omega
  rw [show gI dp ((0 : Nat) : Int) = 0 from t.d0, h0, Int.sub_zero] at this
  exact this
theorem less_in {p k : Nat} (hp : p < k) (hk : k < 10) (hx : ∀ x : Nat, p < x → x ≤ k → gI dp p < gI dp x) : lessN (scanL (gS ld p)) (scanL (gS ld k)) = true := by
 have a := nm_root t h10 p (by omega)
 have b := nm_reach t h10 k p k (Nat.le_refl _) hp hk hx
 have c := hx k hp (Nat.le_refl _)
 have d := t.rng p (by omega)
 have e := t.rng k (by omega)
 have f := factA_t (d := (gI dp p).toNat) (r := (gI dp k - gI dp p).toNat) (by omega) (by omega)
 exact List.all_eq_true.mp (List.all_eq_true.mp f _ a) _ b
theorem less_out {p e : Nat} (hp : p < e) (he : e < 10) (hb : Blk dp p e) : lessN (scanL (gS ld p)) (scanL (gS ld e)) = false := by
 obtain ⟨u, u1, u2, u3, u4⟩ := t.up e (by omega) (by omega)
 obtain ⟨s, s1, s2⟩ := t.nm e (by omega) (by omega)
 rw [u1] at s2
 have h3 := hb.2.2 he
 have hup : u < p := by
  by_cases h : u < p
  ·exact h
  ·by_cases h2 : u = p
   ·subst h2; omega
   ·have := hb.2.1 u (by omega) u2; omega
 have a := nm_root t h10 u (by omega)
 have b := nm_reach t h10 p u p (Nat.le_refl _) hup (by omega) fun x h1 h2 => by
  have := u4 x h1 (by omega); omega
 have c := t.rng p (by omega)
 have d := t.rng u (by omega)
 have hpu := u4 p hup hp
 have f := factB_t (d := (gI dp u).toNat) (r := (gI dp p - gI dp u).toNat) (by omega) (by omega)
 have g := List.all_eq_true.mp (List.all_eq_true.mp (List.all_eq_true.mp f _ a) _ b) _ (stp_mem s1 _)
 rw [s2]
 cases hh : lessN (scanL (gS ld p)) (nstep s (scanL (gS ld u))) with
 | false => rfl
 | true => rw [hh] at g; cases g
theorem oknm (p : Nat) (hp : p < 10) : okNm (scanL (gS ld p)) = true := by
 have d := t.rng p (by omega)
 exact List.all_eq_true.mp (factC_t (d := (gI dp p).toNat) (by omega)) _ (nm_root t h10 p hp)
end
def hidA (wi : Int → Nat) : Str → Nat → Nat → Str
 | h, _, 0 => h
 | h, i, n + 1 => hidA wi (h ++ wordS (wi (i : Int))) (i + 1) n
def hqS (h : Str) : List Str := match steq h "" with
 | true => []
 | false => [("\"(" : Str) ++ h ++ ("\"" : Str)]
section
variable (wi : Int → Nat) (mn : Nat → Bool) (v : Nat → Int)
def hidF : Fo → Bool → Nat → Int → Int → Str
 | .nil, _, _, _, _ => ""
 | .leaf r, b, i, lo, hi => match decide (lo < hi) with
  | true => hidF r b (i + 1) (ups b lo hi (v i)).1 (ups b lo hi (v i)).2
  | false => hidA wi "" i (1 + sz r)
 | .node k r, b, i, lo, hi => match decide (lo < hi) with
  | true => hidF r b (i + 1 + sz k) (ups b lo hi (ndX mn v k i lo hi)).1 (ups b lo hi (ndX mn v k i lo hi)).2
  | false => hidA wi "" i (1 + sz k + sz r)
def tokF : Fo → Bool → Nat → Int → Int → List Str
 | .nil, _, _, _, _ => []
 | .leaf r, b, i, lo, hi => match decide (lo < hi) with
  | true => wordS (wi (i : Int)) :: tokF r b (i + 1) (ups b lo hi (v i)).1 (ups b lo hi (v i)).2
  | false => []
 | .node k r, b, i, lo, hi => match decide (lo < hi) with
  | true => ((wordS (wi (i : Int)) ++ ("(" : Str)) :: (tokF k (mn i) (i + 1) lo hi ++ (hqS (hidF wi mn v k (mn i) (i + 1) lo hi) ++ [(")" : Str)]))) ++ tokF r b (i + 1 + sz k) (ups b lo hi (ndX mn v k i lo hi)).1 (ups b lo hi (ndX mn v k i lo hi)).2
  | false => []
theorem hidF_leaf (r : Fo) (b : Bool) (i : Nat) (lo hi : Int) : hidF wi mn v (.leaf r) b i lo hi = (match decide (lo < hi) with
  | true => hidF wi mn v r b (i + 1) (ups b lo hi (v i)).1 (ups b lo hi (v i)).2
  | false => hidA wi "" i (1 + sz r)) := rfl
theorem hidF_node (k r : Fo) (b : Bool) (i : Nat) (lo hi : Int) : hidF wi mn v (.node k r) b i lo hi = (match decide (lo < hi) with
  | true => hidF wi mn v r b (i + 1 + sz k) (ups b lo hi (ndX mn v k i lo hi)).1 (ups b lo hi (ndX mn v k i lo hi)).2
  | false => hidA wi "" i (1 + sz k + sz r)) := rfl
theorem tokF_leaf (r : Fo) (b : Bool) (i : Nat) (lo hi : Int) : tokF wi mn v (.leaf r) b i lo hi = (match decide (lo < hi) with
  | true => wordS (wi (i : Int)) :: tokF wi mn v r b (i + 1) (ups b lo hi (v i)).1 (ups b lo hi (v i)).2
  | false => []) := rfl
theorem tokF_node (k r : Fo) (b : Bool) (i : Nat) (lo hi : Int) : tokF wi mn v (.node k r) b i lo hi = (match decide (lo < hi) with
  | true => ((wordS (wi (i : Int)) ++ ("(" : Str)) :: (tokF wi mn v k (mn i) (i + 1) lo hi ++ (hqS (hidF wi mn v k (mn i) (i + 1) lo hi) ++ [(")" : Str)]))) ++ tokF wi mn v r b (i + 1 + sz k) (ups b lo hi (ndX mn v k i lo hi)).1 (ups b lo hi (ndX mn v k i lo hi)).2
  | false => []) := rfl
theorem hqS_len (h : Str) : (hqS h).length ≤ 1 := by
 unfold hqS
 split <;> simp
theorem tokF_len : ∀ (f : Fo) (b : Bool) (i : Nat) (lo hi : Int), (tokF wi mn v f b i lo hi).length ≤ 4 * sz f
 | .nil, _, _, _, _ => Nat.zero_le _
 | .leaf r, b, i, lo, hi => by
  rw [tokF_leaf, show sz (.leaf r) = 1 + sz r from rfl]
  split
  ·have := tokF_len r b (i + 1) (ups b lo hi (v i)).1 (ups b lo hi (v i)).2
   rw [List.length_cons]; omega
  ·exact Nat.zero_le _
 | .node k r, b, i, lo, hi => by
  rw [tokF_node, show sz (.node k r) = 1 + sz k + sz r from rfl]
  split
  ·have h1 := tokF_len r b (i + 1 + sz k) (ups b lo hi (ndX mn v k i lo hi)).1 (ups b lo hi (ndX mn v k i lo hi)).2
   have h2 := tokF_len k (mn i) (i + 1) lo hi
   have h3 := hqS_len (hidF wi mn v k (mn i) (i + 1) lo hi)
   simp only [List.length_cons, List.length_append, List.length_nil]
   omega
  ·exact Nat.zero_le _
theorem visF_len : ∀ (f : Fo) (b : Bool) (i : Nat) (lo hi : Int), (visF mn v f b i lo hi).length ≤ sz f
 | .nil, _, _, _, _ => Nat.zero_le _
 | .leaf r, b, i, lo, hi => by
  rw [visF_leaf, show sz (.leaf r) = 1 + sz r from rfl]
  split
  ·have := visF_len r b (i + 1) (ups b lo hi (v i)).1 (ups b lo hi (v i)).2
   rw [List.length_cons]; omega
  ·exact Nat.zero_le _
 | .node k r, b, i, lo, hi => by
  rw [visF_node, show sz (.node k r) = 1 + sz k + sz r from rfl]
  split
  ·have h1 := visF_len r b (i + 1 + sz k) (ups b lo hi (ndX mn v k i lo hi)).1 (ups b lo hi (ndX mn v k i lo hi)).2
   have h2 := visF_len k (mn i) (i + 1) lo hi
   simp only [List.length_append]
   omega
  ·exact Nat.zero_le _
end
theorem word_len {i : Nat} (h : i < 9) : (wordS i).length ≤ 2 := word_cases (fun i => (wordS i).length ≤ 2) h (by decide) (by decide) (by decide) (by decide) (by decide) (by decide) (by decide) (by decide) (by decide)
theorem hidA_len {wi : Int → Nat} (hw : ∀ j : Nat, j < 10 → wi (j : Int) < 9) : ∀ (n i : Nat) (h : Str), i + n ≤ 10 → (hidA wi h i n).length ≤ h.length + 2 * n
 | 0, i, h, _ => Nat.le_refl _
 | n + 1, i, h, hi => by
  have a := hidA_len hw n (i + 1) (h ++ wordS (wi (i : Int))) (by omega)
  have b := word_len (hw i (by omega))
  rw [len_app] at a
  show (hidA wi (h ++ wordS (wi (i : Int))) (i + 1) n).length ≤ _
  omega
theorem hidF_len {wi : Int → Nat} (hw : ∀ j : Nat, j < 10 → wi (j : Int) < 9) {mn : Nat → Bool} {v : Nat → Int} : ∀ (f : Fo) (b : Bool) (i : Nat) (lo hi : Int), i + sz f ≤ 10 → (hidF wi mn v f b i lo hi).length ≤ 2 * sz f
 | .nil, _, _, _, _, _ => Nat.zero_le _
 | .leaf r, b, i, lo, hi, h => by
  rw [show sz (.leaf r) = 1 + sz r from rfl] at h
  rw [hidF_leaf, show sz (.leaf r) = 1 + sz r from rfl]
  split
  ·have := hidF_len hw (mn := mn) (v := v) r b (i + 1) (ups b lo hi (v i)).1 (ups b lo hi (v i)).2 (by omega); omega
  ·have := hidA_len hw (1 + sz r) i "" h
   rw [show (("" : Str)).length = 0 from rfl] at this; omega
 | .node k r, b, i, lo, hi, h => by
  rw [show sz (.node k r) = 1 + sz k + sz r from rfl] at h
  rw [hidF_node, show sz (.node k r) = 1 + sz k + sz r from rfl]
  split
  ·have := hidF_len hw (mn := mn) (v := v) r b (i + 1 + sz k) (ups b lo hi (ndX mn v k i lo hi)).1 (ups b lo hi (ndX mn v k i lo hi)).2 (by omega); omega
  ·have := hidA_len hw (1 + sz k + sz r) i "" h
   rw [show (("" : Str)).length = 0 from rfl] at this; omega
theorem ups_rng {b : Bool} {lo hi x : Int} (h1 : 0 ≤ lo ∧ lo ≤ 9) (h2 : 0 ≤ hi ∧ hi ≤ 9) (h3 : 0 ≤ x ∧ x ≤ 9) : (0 ≤ (ups b lo hi x).1 ∧ (ups b lo hi x).1 ≤ 9) ∧ (0 ≤ (ups b lo hi x).2 ∧ (ups b lo hi x).2 ≤ 9) := by
 cases b <;> dsimp only [ups] <;> split <;> omega
theorem ret_rng {b : Bool} {q : Int × Int} (h1 : 0 ≤ q.1 ∧ q.1 ≤ 9) (h2 : 0 ≤ q.2 ∧ q.2 ≤ 9) : 0 ≤ ret b q ∧ ret b q ≤ 9 := by
 cases b
 ·exact h1
 ·exact h2
theorem abF_rng {mn : Nat → Bool} {v : Nat → Int} (hv : ∀ j : Nat, j < 10 → 0 ≤ v j ∧ v j ≤ 9) : ∀ (f : Fo) (b : Bool) (i : Nat) (lo hi : Int), i + sz f ≤ 10 → (0 ≤ lo ∧ lo ≤ 9) → (0 ≤ hi ∧ hi ≤ 9) → (0 ≤ (abF mn v f b i lo hi).1 ∧ (abF mn v f b i lo hi).1 ≤ 9) ∧ (0 ≤ (abF mn v f b i lo hi).2 ∧ (abF mn v f b i lo hi).2 ≤ 9)
 | .nil, _, _, _, _, _, h1, h2 => ⟨h1, h2⟩
 | .leaf r, b, i, lo, hi, h, h1, h2 => by
  rw [show sz (.leaf r) = 1 + sz r from rfl] at h
  rw [abF_leaf]
  split
  ·have := ups_rng (b := b) h1 h2 (hv i (by omega))
   exact abF_rng hv r b (i + 1) _ _ (by omega) this.1 this.2
  ·exact ⟨h1, h2⟩
 | .node k r, b, i, lo, hi, h, h1, h2 => by
  rw [show sz (.node k r) = 1 + sz k + sz r from rfl] at h
  rw [abF_node]
  split
  ·have a := abF_rng (mn := mn) hv k (mn i) (i + 1) lo hi (by omega) h1 h2
   have := ups_rng (b := b) h1 h2 (ret_rng (b := mn i) a.1 a.2)
   exact abF_rng hv r b _ _ _ (by omega) this.1 this.2
  ·exact ⟨h1, h2⟩
def numW : Nat → Int
 | 0 => 20
 | 1 => 21
 | _ => 256
theorem exS_w {i : Nat} (h : i < 9) : exS (wordS i) = some (numW i) := word_cases (fun i => exS (wordS i) = some (numW i)) h (by kernel_rfl) (by kernel_rfl) (by kernel_rfl) (by kernel_rfl) (by kernel_rfl) (by kernel_rfl) (by kernel_rfl) (by kernel_rfl) (by kernel_rfl)
theorem numW_t {i : Nat} (h : isW i = true) : numW i = 256 := by
 match i, h with
 | n + 2, _ => rfl
theorem numW_f {i : Nat} (h : isW i = false) : decide (256 ≤ numW i) = false ∧ decide (numW i = 20) = decide (i = 0) := by
 match i, h with
 | 0, _ => exact ⟨rfl, rfl⟩
 | 1, _ => exact ⟨rfl, rfl⟩
def leafA (i : Nat) : Bool := (List.range 10).all fun n => (List.range 10).all fun m => leafG (wordS i) (dgS (n : Int)) (dgS (m : Int))
theorem leafA_fin : ((List.range 9).all leafA) = true := by kernel_rfl
theorem leaf_ok {i : Nat} {a b : Int} (hi : i < 9) (h0 : 0 ≤ a) (h1 : a ≤ 9) (h2 : 0 ≤ b) (h3 : b ≤ 9) : leafG (wordS i) (dgS a) (dgS b) = true :=
 have h := List.all_eq_true.mp leafA_fin i (List.mem_range.mpr hi)
 dg_cases (fun a => leafG (wordS i) (dgS a) (dgS b) = true) h0 h1 fun n hn => dg_cases (fun b => leafG (wordS i) (dgS (n : Int)) (dgS b) = true) h2 h3 fun m hm =>
  List.all_eq_true.mp (List.all_eq_true.mp h n (List.mem_range.mpr hn)) m (List.mem_range.mpr hm)
theorem get_ok {i : Nat} (hi : i < 9) {l : List (Str × Str)} (hk : okSc l) (hl : l.length ≤ 50) : getG (wordS i) l = true := by
 obtain ⟨a, b, c, d, e⟩ := wd_ok hi
 unfold getG
 rw [a, d, e, decide_eq_true hl, okSc_fit hk]; rfl
abbrev rsJ (ld wd : List Str) : List Row := (rangeUp 0 10).map (rowJ ld wd)
theorem rs_len (ld wd : List Str) : (rsJ ld wd).length = 10 := by rw [List.length_map, len_up10]
theorem gR_row {ld wd : List Str} {i : Nat} (h : i < 10) : gR (rsJ ld wd) (i : Int) = some (rowJ ld wd i) := by
 have : ∀ n : Nat, n < 10 → (rangeUp 0 10)[n]? = some (n : Int) := by
  intro n hn
  match n, hn with
  | 0, _ => rfl
  | 1, _ => rfl
  | 2, _ => rfl
  | 3, _ => rfl
  | 4, _ => rfl
  | 5, _ => rfl
  | 6, _ => rfl
  | 7, _ => rfl
  | 8, _ => rfl
  | 9, _ => rfl
 unfold gR
 rw [decide_eq_true (by omega)]
 show ((rangeUp 0 10).map (rowJ ld wd))[((i : Int)).toNat]? = _
 rw [List.getElem?_map, Int.toNat_natCast, this i h]; rfl
theorem sloop_S (rec : Int → Int → Int → List (Str × Str) → List Str → Option Q) (rs : List Row) (row : Row) (num : Int) (m : Nat) (q : QL) : sloop rec rs row num (m + 1) q = (match decide (q.k < (rs.length : Int)) with
  | false => some q
  | true => obind (gR rs q.k) fun r2 => guardB (okNm row.m && okNm r2.m) (match lessR row r2 with
   | false => some q
   | true => match decide (q.lo < q.hi) with
    | true => obind (rec q.k q.lo q.hi q.bk q.rc) fun a => sloop rec rs row num m (match decide (num = 20) with
     | true => ⟨a.k, q.lo, if a.w < q.hi then a.w else q.hi, q.hid, a.bk, a.rc⟩
     | false => ⟨a.k, if q.lo < a.w then a.w else q.lo, q.hi, q.hid, a.bk, a.rc⟩)
    | false => guardB (fitS q.hid && fitS r2.wd) (sloop rec rs row num m ⟨q.k + 1, q.lo, q.hi, q.hid ++ r2.wd, q.bk, q.rc⟩))) := rfl
theorem srch_S (sc : List (Str × Str)) (rs : List Row) (n : Nat) (k lo hi : Int) (bk : List (Str × Str)) (rc : List Str) : srch sc rs (n + 1) k lo hi bk rc = (obind (gR rs k) fun row => obind (exS row.wd) fun num => match decide (256 ≤ num) with
  | true => obind (digitText lo) fun a => obind (digitText hi) fun b => guardB (leafG row.wd a b && decide (bk.length ≤ 1000) && decide (rc.length ≤ 1000) && getG row.wd sc)
    (obind (hfind (Txt.lower row.wd) sc) fun t => obind (digitVal t) fun i => some ⟨i, k + 1, bk ++ [(row.wd, hdrV a b)], rc ++ [row.wd]⟩)
  | false => guardB (decide (row.wd.length ≤ 1000) && decide (rc.length ≤ 1000)) (obind (sloop (srch sc rs n) rs row num 100 ⟨k + 1, lo, hi, "", bk, rc ++ [row.wd ++ ("(" : Str)]⟩) (fin num))) := rfl
section
variable {dp ov ws : List Int} {ld wd : List Str} {wi : Int → Nat} {l : List (Str × Str)} (t : TI dp ov ld) (h10 : dp.length = 10) (hw : ∀ j : Int, 0 ≤ j → j < 10 → wi j < 9 ∧ gS wd j = wordS (wi j)) (hin : ∀ j : Int, 0 ≤ j → j < 10 → isW (wi j) = !(inner ov j))
 (hq : ∀ j : Int, 0 ≤ j → j < 10 → Eqn ov wi l ws j) (hv : ∀ j : Nat, j < 10 → 0 ≤ vF ws j ∧ vF ws j ≤ 9) (hk : okSc l) (hll : l.length ≤ 50)
include t h10 hw hin hq hv hk hll
omit hin hq hv hk hll in
theorem sloop_end (rec : Int → Int → Int → List (Str × Str) → List Str → Option Q) (num : Int) (p e m : Nat) (hp : p < e) (hb : Blk dp p e) (q : QL) (hqk : q.k = e) : sloop rec (rsJ ld wd) (rowJ ld wd p) num (m + 1) q = some q := by
 rw [sloop_S, rs_len, hqk]
 have h1 := hb.1
 by_cases he : e < 10
 ·rw [decide_eq_true (by omega)]
  dsimp only
  rw [gR_row he, obind_s, guardB_t (by
   show (okNm (scanL (gS ld p)) && okNm (scanL (gS ld e))) = true
   rw [oknm t h10 p (by omega), oknm t h10 e he]; rfl), show lessR (rowJ ld wd p) (rowJ ld wd e) = false from less_out t h10 hp he hb]
 ·rw [decide_eq_false (by omega)]
omit hin hq hv hk hll in
theorem sloop_skip (rec : Int → Int → Int → List (Str × Str) → List Str → Option Q) (num : Int) (p e : Nat) (hb : Blk dp p e) (lo hi : Int) (hc : hi ≤ lo) (bk : List (Str × Str)) (rc : List Str) : ∀ (c i : Nat) (h : Str) (m : Nat), c < m → i + c = e → p < i → h.length + 2 * c ≤ 1000 →
  sloop rec (rsJ ld wd) (rowJ ld wd p) num m ⟨i, lo, hi, h, bk, rc⟩ = some ⟨e, lo, hi, hidA wi h i c, bk, rc⟩
 | _, _, _, 0, hm, _, _, _ => by omega
 | 0, i, h, m + 1, hm, he, hp, hl => by
  have : i = e := by omega
  subst this
  exact sloop_end t h10 hw rec num p i m hp hb _ rfl
 | c + 1, i, h, m + 1, hm, he, hp, hl => by
  have h1 := hb.1
  obtain ⟨w1, w2⟩ := hw (i : Int) (by omega) (by omega)
  have w3 := word_len w1
  rw [sloop_S, rs_len, decide_eq_true (by show (i : Int) < 10; omega)]
  dsimp only
  rw [gR_row (by omega), obind_s, guardB_t (by
   show (okNm (scanL (gS ld p)) && okNm (scanL (gS ld i))) = true
   rw [oknm t h10 p (by omega), oknm t h10 i (by omega)]; rfl), show lessR (rowJ ld wd p) (rowJ ld wd i) = true from less_in t h10 hp (by omega) fun x h1 h2 => hb.2.1 x h1 (by omega), decide_eq_false (by omega)]
  dsimp only
  rw [show (rowJ ld wd i).wd = wordS (wi i) from w2, guardB_t (by rw [fitS_of (by omega), (wd_ok w1).1]; rfl)]
  exact sloop_skip rec num p e hb lo hi hc bk rc c (i + 1) (h ++ wordS (wi i)) m (by omega) (by omega) (by omega) (by rw [len_app]; omega)
def ndQ (ws : List Int) (wi : Int → Nat) (k : Fo) (i : Nat) (lo hi : Int) (bk : List (Str × Str)) (rc : List Str) : Q :=
 ⟨ndX (mnF wi) (vF ws) k i lo hi, ((i + 1 + sz k : Nat) : Int), bk ++ (visF (mnF wi) (vF ws) k (mnF wi i) (i + 1) lo hi).map (ent wi), rc ++ (wordS (wi (i : Int)) ++ ("(" : Str)) :: (tokF wi (mnF wi) (vF ws) k (mnF wi i) (i + 1) lo hi ++ (hqS (hidF wi (mnF wi) (vF ws) k (mnF wi i) (i + 1) lo hi) ++ [(")" : Str)]))⟩
def NodeOk (dp ov ws : List Int) (ld wd : List Str) (wi : Int → Nat) (l : List (Str × Str)) (n : Nat) : Prop := ∀ (k : Fo) (i : Nat) (lo hi : Int) (bk : List (Str × Str)) (rc : List Str), i < 10 → inner ov i = true → Occ dp ov k i (i + 1) → Blk dp i (i + 1 + sz k) → 4 ≤ gI dp i + n → (0 ≤ lo ∧ lo ≤ 9) → (0 ≤ hi ∧ hi ≤ 9) → bk.length + sz k ≤ 100 → rc.length + 4 * sz k ≤ 296 →
 srch l (rsJ ld wd) n i lo hi bk rc = some (ndQ ws wi k i lo hi bk rc)
omit t h10 hv in
theorem leaf_t (n i : Nat) (h : i < 10) (hi : inner ov i = false) (lo hi2 : Int) (h1 : 0 ≤ lo ∧ lo ≤ 9) (h2 : 0 ≤ hi2 ∧ hi2 ≤ 9) (bk : List (Str × Str)) (rc : List Str) (hb : bk.length ≤ 1000) (hr : rc.length ≤ 1000) :
  srch l (rsJ ld wd) (n + 1) i lo hi2 bk rc = some ⟨vF ws i, ((i + 1 : Nat) : Int), bk ++ [ent wi (i, lo, hi2)], rc ++ [wordS (wi (i : Int))]⟩ := by
 obtain ⟨w1, w2⟩ := hw (i : Int) (by omega) (by omega)
 have hc := hin (i : Int) (by omega) (by omega)
 rw [hi] at hc
 obtain ⟨s, s1, s2⟩ := (hq (i : Int) (by omega) (by omega)).2 hc
 rw [srch_S, gR_row h, obind_s, show (rowJ ld wd i).wd = wordS (wi i) from w2, exS_w w1, obind_s, numW_t hc]
 show obind (digitText lo) _ = _
 rw [digit_t h1.1 h1.2, digit_t h2.1 h2.2, obind_s, obind_s, guardB_t (by rw [leaf_ok w1 h1.1 h1.2 h2.1 h2.2, decide_eq_true hb, decide_eq_true hr, get_ok w1 hk hll]; rfl), s1, obind_s, s2, obind_s, (dg2_ok h1.1 h1.2 h2.1 h2.2).1]
 rfl
theorem loop_t {n : Nat} (ih : NodeOk dp ov ws ld wd wi l n) (p : Nat) (hp10 : p < 10) (hpi : inner ov p = true) (hn : 4 ≤ gI dp p + 1 + n) : ∀ (f : Fo) (i : Nat) (lo hi : Int) (bk : List (Str × Str)) (rc : List Str) (m : Nat), Occ dp ov f p i → Blk dp p (i + sz f) → p < i → sz f < m → (0 ≤ lo ∧ lo ≤ 9) → (0 ≤ hi ∧ hi ≤ 9) → bk.length + sz f ≤ 100 → rc.length + 4 * sz f ≤ 300 →
  sloop (srch l (rsJ ld wd) n) (rsJ ld wd) (rowJ ld wd p) (numW (wi (p : Int))) m ⟨i, lo, hi, "", bk, rc⟩ = some ⟨((i + sz f : Nat) : Int), (abF (mnF wi) (vF ws) f (mnF wi p) i lo hi).1, (abF (mnF wi) (vF ws) f (mnF wi p) i lo hi).2, hidF wi (mnF wi) (vF ws) f (mnF wi p) i lo hi, bk ++ (visF (mnF wi) (vF ws) f (mnF wi p) i lo hi).map (ent wi), rc ++ tokF wi (mnF wi) (vF ws) f (mnF wi p) i lo hi⟩
 | _, _, _, _, _, _, 0, _, _, _, h, _, _, _, _ => by omega
 | .nil, i, lo, hi, bk, rc, m + 1, ho, hb, hp, hm, h1, h2, h3, h4 => by
  rw [sloop_end t h10 hw _ _ p i m hp hb _ rfl]
  show some _ = some (QL.mk _ lo hi "" (bk ++ []) (rc ++ []))
  rw [List.append_nil, List.append_nil]; rfl
 | .leaf r, i, lo, hi, bk, rc, m + 1, ho, hb, hp, hm, h1, h2, h3, h4 => by
  obtain ⟨a, b, a3, a4, c⟩ := ho
  have e : i + sz (.leaf r) = i + 1 + sz r := by show i + (1 + sz r) = _; omega
  have e2 : sz (.leaf r) = 1 + sz r := rfl
  have hpn : numW (wi (p : Int)) = 20 ↔ mnF wi p = true := by
   have hc := hin (p : Int) (by omega) (by omega)
   rw [hpi] at hc
   have := (numW_f hc).2
   rw [← decide_eq_true_iff (p := numW (wi (p : Int)) = 20), this]
  by_cases hl : lo < hi
  ·have hn2 : ∃ n', n = n' + 1 := by
    have := t.rng i (by omega)
    exact ⟨n - 1, by omega⟩
   obtain ⟨n', hn2⟩ := hn2
   rw [sloop_S, rs_len, decide_eq_true (by show (i : Int) < 10; omega)]
   dsimp only
   rw [gR_row a, obind_s, guardB_t (by
    show (okNm (scanL (gS ld p)) && okNm (scanL (gS ld i))) = true
    rw [oknm t h10 p (by omega), oknm t h10 i (by omega)]; rfl), show lessR (rowJ ld wd p) (rowJ ld wd i) = true from less_in t h10 hp (by omega) fun x h1 h2 => hb.2.1 x h1 (by omega), decide_eq_true hl]
   dsimp only
   have el := leaf_t (ld := ld) hw hin hq hk hll n' i a a4 lo hi h1 h2 bk rc (by omega) (by omega)
   rw [← hn2] at el
   rw [el, obind_s]
   dsimp only
   have hr := ups_rng (b := mnF wi p) h1 h2 (hv i a)
   have ih2 := loop_t ih p hp10 hpi hn r (i + 1) (ups (mnF wi p) lo hi (vF ws i)).1 (ups (mnF wi p) lo hi (vF ws i)).2 (bk ++ [ent wi (i, lo, hi)]) (rc ++ [wordS (wi (i : Int))]) m c (by rw [← e]; exact hb) (by omega) (by omega) hr.1 hr.2 (by rw [List.length_append, List.length_singleton]; omega) (by rw [List.length_append, List.length_singleton]; omega)
   rw [e, abF_leaf, hidF_leaf, visF_leaf, tokF_leaf, decide_eq_true hl]
   dsimp only
   refine Eq.trans ?_ (Eq.trans ih2 (by simp only [List.append_assoc, List.map_append, List.map_cons, List.cons_append, List.nil_append]))
   congr 1
   cases hmn : mnF wi p with
   | true => rw [decide_eq_true (hpn.mpr hmn)]; rfl
   | false =>
    rw [decide_eq_false (fun h => by rw [hpn.mp h] at hmn; cases hmn)]; rfl
  ·rw [sloop_skip t h10 hw _ _ p (i + sz (.leaf r)) hb lo hi (by omega) bk rc (sz (.leaf r)) i "" (m + 1) hm rfl hp (by rw [show (("" : Str)).length = 0 from rfl]; have := hb.1; omega)]
   rw [abF_leaf, hidF_leaf, visF_leaf, tokF_leaf, decide_eq_false hl]
   dsimp only
   rw [List.map_nil, List.append_nil, List.append_nil]; rfl
 | .node k r, i, lo, hi, bk, rc, m + 1, ho, hb, hp, hm, h1, h2, h3, h4 => by
  obtain ⟨a, b, a3, a4, a5, c, hbk, d⟩ := ho
  have e : i + sz (.node k r) = i + 1 + sz k + sz r := by show i + (1 + sz k + sz r) = _; omega
  have e2 : sz (.node k r) = 1 + sz k + sz r := rfl
  have hpn : numW (wi (p : Int)) = 20 ↔ mnF wi p = true := by
   have hc := hin (p : Int) (by omega) (by omega)
   rw [hpi] at hc
   have := (numW_f hc).2
   rw [← decide_eq_true_iff (p := numW (wi (p : Int)) = 20), this]
  have hb1 := hb.1
  by_cases hl : lo < hi
  ·rw [sloop_S, rs_len, decide_eq_true (by show (i : Int) < 10; omega)]
   dsimp only
   rw [gR_row a, obind_s, guardB_t (by
    show (okNm (scanL (gS ld p)) && okNm (scanL (gS ld i))) = true
    rw [oknm t h10 p (by omega), oknm t h10 i (by omega)]; rfl), show lessR (rowJ ld wd p) (rowJ ld wd i) = true from less_in t h10 hp (by omega) fun x h1 h2 => hb.2.1 x h1 (by omega), decide_eq_true hl]
   dsimp only
   rw [ih k i lo hi bk rc a a4 c hbk (by omega) h1 h2 (by omega) (by omega), obind_s]
   unfold ndQ
   dsimp only
   have hrk := abF_rng (mn := mnF wi) hv k (mnF wi i) (i + 1) lo hi (by omega) h1 h2
   have hr := ups_rng (b := mnF wi p) h1 h2 (ret_rng (b := mnF wi i) hrk.1 hrk.2)
   have lv := visF_len (mnF wi) (vF ws) k (mnF wi i) (i + 1) lo hi
   have lt := tokF_len wi (mnF wi) (vF ws) k (mnF wi i) (i + 1) lo hi
   have lh := hqS_len (hidF wi (mnF wi) (vF ws) k (mnF wi i) (i + 1) lo hi)
   have ih2 := loop_t ih p hp10 hpi hn r (i + 1 + sz k) (ups (mnF wi p) lo hi (ndX (mnF wi) (vF ws) k i lo hi)).1 (ups (mnF wi p) lo hi (ndX (mnF wi) (vF ws) k i lo hi)).2 (bk ++ (visF (mnF wi) (vF ws) k (mnF wi i) (i + 1) lo hi).map (ent wi))
    (rc ++ (wordS (wi (i : Int)) ++ ("(" : Str)) :: (tokF wi (mnF wi) (vF ws) k (mnF wi i) (i + 1) lo hi ++ (hqS (hidF wi (mnF wi) (vF ws) k (mnF wi i) (i + 1) lo hi) ++ [(")" : Str)]))) m d (by rw [← e]; exact hb) (by omega) (by omega) hr.1 hr.2 (by rw [List.length_append, List.length_map]; omega) (by simp only [List.length_append, List.length_cons, List.length_nil]; omega)
   rw [e, abF_node, hidF_node, visF_node, tokF_node, decide_eq_true hl]
   dsimp only
   refine Eq.trans ?_ (Eq.trans ih2 (by simp only [List.append_assoc, List.map_append, List.map_cons, List.cons_append, List.nil_append]))
   congr 1
   cases hmn : mnF wi p with
   | true => rw [decide_eq_true (hpn.mpr hmn)]; rfl
   | false =>
    rw [decide_eq_false (fun h => by rw [hpn.mp h] at hmn; cases hmn)]; rfl
  ·rw [sloop_skip t h10 hw _ _ p (i + sz (.node k r)) hb lo hi (by omega) bk rc (sz (.node k r)) i "" (m + 1) hm rfl hp (by rw [show (("" : Str)).length = 0 from rfl]; omega)]
   rw [abF_node, hidF_node, visF_node, tokF_node, decide_eq_false hl]
   dsimp only
   rw [List.map_nil, List.append_nil, List.append_nil]; rfl
theorem node_t : ∀ n : Nat, NodeOk dp ov ws ld wd wi l n
 | 0 => by
  intro k i lo hi bk rc hi10 hii ho hb hn
  have := t.rng i (by omega)
  omega
 | n + 1 => by
  intro k i lo hi bk rc hi10 hii ho hb hn h1 h2 h3 h4
  have ih := node_t n
  obtain ⟨w1, w2⟩ := hw (i : Int) (by omega) (by omega)
  have w3 := word_len w1
  have hc := hin (i : Int) (by omega) (by omega)
  rw [hii] at hc
  have hb1 := hb.1
  rw [srch_S, gR_row hi10, obind_s, show (rowJ ld wd i).wd = wordS (wi i) from w2, exS_w w1, obind_s, (numW_f hc).1]
  dsimp only
  rw [guardB_t (by rw [decide_eq_true (by omega), decide_eq_true (by omega)]; rfl)]
  have el := loop_t t h10 hw hin hq hv hk hll ih i hi10 hii (by omega) k (i + 1) lo hi bk (rc ++ [wordS (wi (i : Int)) ++ ("(" : Str)]) 100 ho hb (by omega) (by omega) h1 h2 h3 (by rw [List.length_append, List.length_singleton]; omega)
  rw [show ((i : Int) + 1) = ((i + 1 : Nat) : Int) from by omega, el, obind_s]
  have lt := tokF_len wi (mnF wi) (vF ws) k (mnF wi i) (i + 1) lo hi
  have lh := hidF_len (wi := wi) (fun j hj => (hw (j : Int) (by omega) (by omega)).1) (mn := mnF wi) (v := vF ws) k (mnF wi i) (i + 1) lo hi (by omega)
  have hret : (if numW (wi (i : Int)) = 20 then (abF (mnF wi) (vF ws) k (mnF wi i) (i + 1) lo hi).2 else (abF (mnF wi) (vF ws) k (mnF wi i) (i + 1) lo hi).1) = ndX (mnF wi) (vF ws) k i lo hi := by
   unfold ndX
   have := (numW_f hc).2
   cases hmn : mnF wi i with
   | true =>
    rw [show decide (wi (i : Int) = 0) = true from hmn] at this
    rw [if_pos (of_decide_eq_true this)]; rfl
   | false =>
    rw [show decide (wi (i : Int) = 0) = false from hmn] at this
    rw [if_neg (of_decide_eq_false this)]; rfl
  unfold fin ndQ hqS
  dsimp only
  rw [hret]
  cases hs : steq (hidF wi (mnF wi) (vF ws) k (mnF wi i) (i + 1) lo hi) "" with
  | true =>
   dsimp only
   rw [guardB_t (decide_eq_true (by simp only [List.length_append, List.length_cons, List.length_nil]; omega))]
   simp only [List.append_assoc, List.nil_append, List.cons_append]
  | false =>
   dsimp only
   rw [guardB_t (by rw [decide_eq_true (by omega), decide_eq_true (by simp only [List.length_append, List.length_cons, List.length_nil]; omega)]; rfl)]
   simp only [List.append_assoc, List.nil_append, List.cons_append]
end
def fl : List Str → List Nat
 | [] => []
 | s :: r => s.cps.toList ++ fl r
theorem fl_app : ∀ (a b : List Str), fl (a ++ b) = fl a ++ fl b
 | [], b => rfl
 | s :: a, b => by
  show s.cps.toList ++ fl (a ++ b) = (s.cps.toList ++ fl a) ++ fl b
  rw [fl_app a b, List.append_assoc]
theorem app_cps (a b : Str) : (a ++ b).cps.toList = a.cps.toList ++ b.cps.toList := by
 show (a.cps ++ b.cps).toList = _
 simp
theorem len_cps (a : Str) : a.length = a.cps.toList.length := by
 show a.cps.size = _
 simp
theorem join_fl (L : List Str) : (Txt.join "" L).cps.toList = fl L := by
 have key : ∀ (r : List Str) (acc : Array Nat), (r.foldl (fun acc p => acc ++ (("" : Str)).cps ++ p.cps) acc).toList = acc.toList ++ fl r := by
  intro r
  induction r with
  | nil => intro acc; show acc.toList = acc.toList ++ []; rw [List.append_nil]
  | cons x r ih =>
   intro acc
   rw [List.foldl_cons, ih]
   show (acc ++ (("" : Str)).cps ++ x.cps).toList ++ fl r = acc.toList ++ (x.cps.toList ++ fl r)
   rw [show (("" : Str)).cps = #[] from rfl]
   simp
 cases L with
 | nil => rfl
 | cons x r =>
  show ((r.foldl (fun acc p => acc ++ (("" : Str)).cps ++ p.cps) x.cps)).toList = x.cps.toList ++ fl r
  exact key r x.cps
theorem sumLen_fl : ∀ L : List Str, sumLen "" L = (fl L).length
 | [] => rfl
 | s :: r => by
  show s.length + (("" : Str)).length + sumLen "" r = (s.cps.toList ++ fl r).length
  rw [sumLen_fl r, List.length_append, len_cps s, show (("" : Str)).length = 0 from rfl, Nat.add_zero]
def okSg (s : Str) : Prop := (∃ c : Nat, s = ⟨#[c]⟩ ∧ c ≠ 92) ∨ (∃ c : Nat, s = ⟨#[92, c]⟩)
def posS : Nat → List Str → List (Int × Str)
 | _, [] => []
 | i, s :: r => (((i + s.length : Nat) : Int) - 1, s) :: posS (i + s.length) r
theorem posS_snd : ∀ (L : List Str) (i : Nat), (posS i L).map (·.2) = L
 | [], _ => rfl
 | s :: r, i => by
  show s :: (posS (i + s.length) r).map (·.2) = _
  rw [posS_snd r]
theorem esc_false (i c : Nat) (r : List Nat) : escFrom i false (c :: r) = (match Nat.beq c 92 with
  | true => escFrom (i + 1) true r
  | false => ((i : Int), ⟨#[c]⟩) :: escFrom (i + 1) false r) := rfl
theorem esc_app {s : Str} (h : okSg s) (i : Nat) (r : List Nat) : escFrom i false (s.cps.toList ++ r) = (((i + s.length : Nat) : Int) - 1, s) :: escFrom (i + s.length) false r := by
 rcases h with ⟨c, rfl, hc⟩ | ⟨c, rfl⟩
 ·show escFrom i false (c :: r) = _
  have hb : Nat.beq c 92 = false := by
   cases hh : Nat.beq c 92 with
   | false => rfl
   | true => exact absurd (Nat.eq_of_beq_eq_true hh) hc
  rw [esc_false, hb]
  show ((i : Int), _) :: _ = (((i + 1 : Nat) : Int) - 1, _) :: _
  rw [show (((i + 1 : Nat) : Int) - 1) = (i : Int) from by omega]; rfl
 ·show escFrom i false (92 :: c :: r) = _
  rw [esc_false]
  show (((i + 1 : Nat) : Int), (⟨#[92, c]⟩ : Str)) :: escFrom (i + 1 + 1) false r = (((i + 2 : Nat) : Int) - 1, _) :: _
  rw [show (((i + 2 : Nat) : Int) - 1) = ((i + 1 : Nat) : Int) from by omega]; rfl
theorem esc_all : ∀ (L : List Str) (i : Nat), (∀ s ∈ L, okSg s) → escFrom i false (fl L) = posS i L
 | [], i, _ => rfl
 | s :: r, i, h => by
  show escFrom i false (s.cps.toList ++ fl r) = (_, s) :: posS (i + s.length) r
  rw [esc_app (h s (.head _)), esc_all r _ fun x hx => h x (.tail _ hx)]
theorem esc_t {s : Str} {L : List Str} (h : s.cps.toList = fl L) (hL : ∀ s ∈ L, okSg s) : escPairs s = posS 0 L := by
 unfold escPairs
 rw [h, esc_all L 0 hL]
def outG : Bool → List Str → List Str
 | _, [] => []
 | false, s :: r => match steq s "\"" with
  | true => outG true r
  | false => s :: outG false r
 | true, s :: r => match steq s "\"" with
  | true => outG false r
  | false => outG true r
def endG : Bool → List Str → Bool
 | b, [] => b
 | b, s :: r => match steq s "\"" with
  | true => endG (!b) r
  | false => endG b r
theorem clip_nat {n k : Nat} (h : k ≤ n) : clipAt n (k : Int) = k := by
 unfold clipAt
 have : ¬ ((k : Int) < 0) := by omega
 rw [if_neg this]
 omega
theorem slS_some {s : Str} {T : List Nat} (hT : s.cps.toList = T) {a b : Nat} (h1 : a ≤ T.length) (h2 : b ≤ T.length) : (slS s (some (a : Int)) (some (b : Int))).cps.toList = (T.drop a).take (b - a) := by
 unfold slS
 rw [hT]
 show ((T.drop (clipAt T.length (a : Int))).take (clipAt T.length (b : Int) - clipAt T.length (a : Int))) = _
 rw [clip_nat h1, clip_nat h2]
theorem slS_end {s : Str} {T : List Nat} (hT : s.cps.toList = T) {a : Nat} (h1 : a ≤ T.length) : (slS s (some (a : Int)) none).cps.toList = T.drop a := by
 unfold slS
 rw [hT]
 show ((T.drop (clipAt T.length (a : Int))).take (T.length - clipAt T.length (a : Int))) = _
 rw [clip_nat h1, List.take_of_length_le (by rw [List.length_drop]; omega)]
theorem take_more {T x r : List Nat} {st a : Nat} (h : T.drop a = x ++ r) (hs : st ≤ a) : (T.drop st).take (a + x.length - st) = (T.drop st).take (a - st) ++ x := by
 rw [show a + x.length - st = (a - st) + x.length from by omega, List.take_add, List.drop_drop, show st + (a - st) = a from by omega, h, List.take_left']
 rfl
def invS (T : List Nat) (a st : Nat) (res : List Str) (out : List Nat) : Option Nat → Prop
 | none => st ≤ a ∧ fl res ++ (T.drop st).take (a - st) = out
 | some o => st ≤ o ∧ o ≤ a ∧ fl res ++ (T.drop st).take (o - st) = out
def opI : Option Nat → Option Int
 | none => none
 | some n => some (n : Int)
theorem stripF_n (s : Str) (p : Int × Str) (r : List (Int × Str)) (st : Int) (res : List Str) : stripF s (p :: r) st none res = (match steq p.2 "\"" with
  | true => stripF s r st (some p.1) res
  | false => stripF s r st none res) := rfl
theorem stripF_s (s : Str) (p : Int × Str) (r : List (Int × Str)) (st o : Int) (res : List Str) : stripF s (p :: r) st (some o) res = (match steq p.2 "\"" with
  | true => stripF s r (p.1 + 1) none (match decide (st = o) with | true => res | false => res ++ [slS s (some st) (some o)])
  | false => stripF s r st (some o) res) := rfl
theorem strip_inv {s : Str} {T : List Nat} (hT : s.cps.toList = T) : ∀ (L : List Str) (a st : Nat) (op : Option Nat) (res : List Str) (out : List Nat), (∀ x ∈ L, okSg x) → T.drop a = fl L → a ≤ T.length → invS T a st res out op → endG op.isSome L = false →
  ∃ n : Nat, (stripF s (posS a L) (st : Int) (opI op) res).1 = n ∧ n ≤ T.length ∧ fl (stripF s (posS a L) (st : Int) (opI op) res).2 ++ T.drop n = out ++ fl (outG op.isSome L)
 | [], a, st, none, res, out, _, hd, ha, hi, _ => by
  obtain ⟨i1, i2⟩ := hi
  have hl : T.length - a = 0 := by rw [← List.length_drop, hd]; rfl
  refine ⟨st, rfl, by omega, ?_⟩
  show fl res ++ T.drop st = out ++ []
  rw [List.append_nil, ← i2, List.take_of_length_le (by rw [List.length_drop]; omega)]
 | [], a, st, some o, res, out, _, _, _, _, he => by cases he
 | x :: r, a, st, none, res, out, hL, hd, ha, hi, he => by
  obtain ⟨i1, i2⟩ := hi
  have hx := hL x (.head _)
  have hr : ∀ y ∈ r, okSg y := fun y hy => hL y (.tail _ hy)
  have hd' : T.drop a = x.cps.toList ++ fl r := hd
  have hlen : a + x.length ≤ T.length := by
   have : (T.drop a).length = (x.cps.toList ++ fl r).length := by rw [hd']
   rw [List.length_drop, List.length_append, ← len_cps] at this
   omega
  have hdr : T.drop (a + x.length) = fl r := by
   rw [← List.drop_drop, hd', len_cps, List.drop_left']
   rfl
  rw [show posS a (x :: r) = (((a + x.length : Nat) : Int) - 1, x) :: posS (a + x.length) r from rfl, show opI none = none from rfl, stripF_n]
  rw [show endG (none : Option Nat).isSome (x :: r) = (match steq x "\"" with | true => endG true r | false => endG false r) from rfl] at he
  rw [show outG (none : Option Nat).isSome (x :: r) = (match steq x "\"" with | true => outG true r | false => x :: outG false r) from rfl]
  cases hs : steq x "\"" with
  | true =>
   rw [hs] at he
   have hx1 := steqS _ _ hs
   have hl1 : x.length = 1 := by rw [hx1]; rfl
   dsimp only
   rw [show (((a + x.length : Nat) : Int) - 1) = (a : Int) from by omega]
   exact strip_inv hT r (a + x.length) st (some a) res out hr hdr hlen ⟨i1, by omega, i2⟩ he
  | false =>
   rw [hs] at he
   obtain ⟨n, n1, n2, n3⟩ := strip_inv hT r (a + x.length) st none res (out ++ x.cps.toList) hr hdr hlen ⟨by omega, by rw [len_cps, take_more hd' i1, ← List.append_assoc, i2]⟩ he
   refine ⟨n, n1, n2, ?_⟩
   rw [show fl (x :: outG false r) = x.cps.toList ++ fl (outG false r) from rfl, ← List.append_assoc]
   exact n3
 | x :: r, a, st, some o, res, out, hL, hd, ha, hi, he => by
  obtain ⟨i1, i2, i3⟩ := hi
  have hx := hL x (.head _)
  have hr : ∀ y ∈ r, okSg y := fun y hy => hL y (.tail _ hy)
  have hd' : T.drop a = x.cps.toList ++ fl r := hd
  have hlen : a + x.length ≤ T.length := by
   have : (T.drop a).length = (x.cps.toList ++ fl r).length := by rw [hd']
   rw [List.length_drop, List.length_append, ← len_cps] at this
   omega
  have hdr : T.drop (a + x.length) = fl r := by
   rw [← List.drop_drop, hd', len_cps, List.drop_left']
   rfl
  rw [show posS a (x :: r) = (((a + x.length : Nat) : Int) - 1, x) :: posS (a + x.length) r from rfl, show opI (some o) = some (o : Int) from rfl, stripF_s]
  rw [show endG (some o).isSome (x :: r) = (match steq x "\"" with | true => endG false r | false => endG true r) from rfl] at he
  rw [show outG (some o).isSome (x :: r) = (match steq x "\"" with | true => outG false r | false => outG true r) from rfl]
  cases hs : steq x "\"" with
  | true =>
   rw [hs] at he
   have hx1 := steqS _ _ hs
   have hl1 : x.length = 1 := by rw [hx1]; rfl
   dsimp only
   rw [show ((((a + x.length : Nat) : Int) - 1) + 1) = ((a + x.length : Nat) : Int) from by omega]
   refine strip_inv hT r (a + x.length) (a + x.length) none _ out hr hdr hlen ⟨Nat.le_refl _, ?_⟩ he
   rw [Nat.sub_self, List.take_zero, List.append_nil]
   by_cases hso : st = o
   ·subst hso
    rw [decide_eq_true rfl]
    rw [Nat.sub_self, List.take_zero, List.append_nil] at i3
    exact i3
   ·rw [decide_eq_false (by omega)]
    dsimp only
    rw [fl_app]
    show fl res ++ ((slS s (some (st : Int)) (some (o : Int))).cps.toList ++ []) = out
    rw [List.append_nil, slS_some hT (by omega) (by omega)]
    exact i3
  | false =>
   rw [hs] at he
   exact strip_inv hT r (a + x.length) st (some o) res out hr hdr hlen ⟨i1, by omega, i3⟩ he
theorem outG_noq : ∀ L : List Str, (34 ∉ fl L) → outG false L = L
 | [], _ => rfl
 | x :: r, h => by
  have h1 : steq x "\"" = false := by
   cases hs : steq x "\"" with
   | false => rfl
   | true =>
    have := steqS _ _ hs
    subst this
    exact absurd (List.mem_append_left _ (.head _)) h
  rw [show outG false (x :: r) = (match steq x "\"" with | true => outG true r | false => x :: outG false r) from rfl, h1]
  dsimp only
  rw [outG_noq r fun hm => h (List.mem_append_right _ hm)]
theorem strip_t {s : Str} {L : List Str} (hT : s.cps.toList = fl L) (hL : ∀ x ∈ L, okSg x) (he : endG false L = false) : (strip s).cps.toList = fl (outG false L) ∧ sumLen "" (stripL s) = (fl (outG false L)).length := by
 obtain ⟨n, n1, n2, n3⟩ := strip_inv hT L 0 0 none [] [] hL rfl (Nat.zero_le _) ⟨Nat.le_refl _, rfl⟩ he
 have hq : fl (stripL s) = fl (outG false L) := by
  rw [List.nil_append] at n3
  refine Eq.trans ?_ n3
  unfold stripL
  rw [esc_t hT hL]
  dsimp only
  rw [show opI none = none from rfl, show ((0 : Nat) : Int) = 0 from rfl] at n1
  rw [show opI none = none from rfl, show ((0 : Nat) : Int) = 0 from rfl]
  rw [n1]
  by_cases hn : n < (fl L).length
  ·rw [decide_eq_true (by rw [len_cps, hT]; omega)]
   dsimp only
   rw [fl_app]
   show fl _ ++ ((slS s (some (n : Int)) none).cps.toList ++ []) = _
   rw [List.append_nil, slS_end hT n2]
  ·rw [decide_eq_false (by rw [len_cps, hT]; omega)]
   dsimp only
   rw [List.drop_eq_nil_of_le (by omega), List.append_nil]
 refine ⟨?_, by rw [sumLen_fl, hq]⟩
 unfold strip
 have hc : Txt.contains s "\"" = decide (34 ∈ s.cps.toList) := StrLaws.found_one s 34
 rw [hc]
 by_cases hm : 34 ∈ s.cps.toList
 ·rw [decide_eq_true hm]
  dsimp only
  rw [join_fl, hq]
 ·rw [decide_eq_false hm]
  dsimp only
  rw [outG_noq L (by rw [← hT]; exact hm)]
  exact hT
theorem fl_cons (a : Str) (L : List Str) : fl (a :: L) = a.cps.toList ++ fl L := rfl
theorem fl_nil : fl [] = [] := rfl
def asS (s : Str) : Bool := s.cps.toList.all fun c => decide (c < 128)
def okA (s : Str) : Prop := okSg s ∧ asS s = true
structure WSg (s : Str) : Prop where
 ok : okA s
 q : steq s "\"" = false
 l : steq s "(" = false
 r : steq s ")" = false
theorem wsg1 (c : Nat) (h : c ≠ 92) (h2 : asS ⟨#[c]⟩ = true) (hq : steq ⟨#[c]⟩ "\"" = false) (hl : steq ⟨#[c]⟩ "(" = false) (hr : steq ⟨#[c]⟩ ")" = false) : WSg ⟨#[c]⟩ := ⟨⟨.inl ⟨c, rfl, h⟩, h2⟩, hq, hl, hr⟩
theorem wsg2 (c : Nat) (h2 : asS ⟨#[92, c]⟩ = true) (hq : steq ⟨#[92, c]⟩ "\"" = false) (hl : steq ⟨#[92, c]⟩ "(" = false) (hr : steq ⟨#[92, c]⟩ ")" = false) : WSg ⟨#[92, c]⟩ := ⟨⟨.inr ⟨c, rfl⟩, h2⟩, hq, hl, hr⟩
theorem word_sg {i : Nat} (h : i < 9) : WSg (wordS i) := word_cases (fun i => WSg (wordS i)) h
 (wsg1 60 (by decide) (by kernel_rfl) (by kernel_rfl) (by kernel_rfl) (by kernel_rfl)) (wsg1 62 (by decide) (by kernel_rfl) (by kernel_rfl) (by kernel_rfl) (by kernel_rfl)) (wsg1 97 (by decide) (by kernel_rfl) (by kernel_rfl) (by kernel_rfl) (by kernel_rfl)) (wsg1 65 (by decide) (by kernel_rfl) (by kernel_rfl) (by kernel_rfl) (by kernel_rfl))
 (wsg1 98 (by decide) (by kernel_rfl) (by kernel_rfl) (by kernel_rfl) (by kernel_rfl)) (wsg1 66 (by decide) (by kernel_rfl) (by kernel_rfl) (by kernel_rfl) (by kernel_rfl)) (wsg2 40 (by kernel_rfl) (by kernel_rfl) (by kernel_rfl) (by kernel_rfl)) (wsg2 41 (by kernel_rfl) (by kernel_rfl) (by kernel_rfl) (by kernel_rfl)) (wsg2 34 (by kernel_rfl) (by kernel_rfl) (by kernel_rfl) (by kernel_rfl))
theorem okL : okA "(" := ⟨.inl ⟨40, rfl, by decide⟩, by kernel_rfl⟩
theorem okR : okA ")" := ⟨.inl ⟨41, rfl, by decide⟩, by kernel_rfl⟩
theorem okQ : okA "\"" := ⟨.inl ⟨34, rfl, by decide⟩, by kernel_rfl⟩
theorem sg_len {s : Str} (h : okSg s) : 1 ≤ s.length ∧ s.length ≤ 2 := by
 rcases h with ⟨c, rfl, _⟩ | ⟨c, rfl⟩
 ·exact ⟨Nat.le_refl 1, (by decide : 1 ≤ 2)⟩
 ·exact ⟨(by decide : 1 ≤ 2), Nat.le_refl 2⟩
theorem fl_len : ∀ {L : List Str}, (∀ x ∈ L, okSg x) → (fl L).length ≤ 2 * L.length
 | [], _ => Nat.zero_le _
 | s :: r, h => by
  have a := (sg_len (h s (.head _))).2
  have b := fl_len (L := r) fun x hx => h x (.tail _ hx)
  show (s.cps.toList ++ fl r).length ≤ 2 * (r.length + 1)
  rw [List.length_append, ← len_cps]; omega
theorem fl_asc : ∀ {L : List Str}, (∀ x ∈ L, okA x) → ((fl L).all fun c => decide (c < 128)) = true
 | [], _ => rfl
 | s :: r, h => by
  show ((s.cps.toList ++ fl r).all fun c => decide (c < 128)) = true
  rw [List.all_append, fl_asc (L := r) fun x hx => h x (.tail _ hx), show (s.cps.toList.all fun c => decide (c < 128)) = true from (h s (.head _)).2]; rfl
theorem outG_c (b : Bool) (s : Str) (r : List Str) : outG b (s :: r) = (match b with
 | false => (match steq s "\"" with | true => outG true r | false => s :: outG false r)
 | true => (match steq s "\"" with | true => outG false r | false => outG true r)) := by cases b <;> rfl
theorem endG_c (b : Bool) (s : Str) (r : List Str) : endG b (s :: r) = (match steq s "\"" with
  | true => endG (!b) r
  | false => endG b r) := rfl
theorem outG_mem : ∀ (L : List Str) (b : Bool), (∀ x ∈ outG b L, x ∈ L) ∧ (outG b L).length ≤ L.length
 | [], b => ⟨fun x h => (by cases b <;> cases h), (by cases b <;> exact Nat.le_refl _)⟩
 | s :: r, b => by
  obtain ⟨a1, a2⟩ := outG_mem r true
  obtain ⟨b1, b2⟩ := outG_mem r false
  rw [outG_c, List.length_cons]
  cases b <;> cases steq s "\"" <;> dsimp only
  ·refine ⟨fun x hx => ?_, by rw [List.length_cons]; omega⟩
   cases hx with
   | head => exact .head _
   | tail _ hx => exact .tail _ (b1 x hx)
  ·exact ⟨fun x hx => .tail _ (a1 x hx), by omega⟩
  ·exact ⟨fun x hx => .tail _ (a1 x hx), by omega⟩
  ·exact ⟨fun x hx => .tail _ (b1 x hx), by omega⟩
theorem posS_len : ∀ (L : List Str) (i : Nat), (posS i L).length = L.length
 | [], _ => rfl
 | s :: r, i => by show (posS _ r).length + 1 = r.length + 1; rw [posS_len r]
theorem gd_t {s : Str} {L : List Str} (hT : s.cps.toList = fl L) (hL : ∀ x ∈ L, okA x) (he : endG false L = false) (hn : L.length ≤ 1000) : gd118 s = true ∧ gd125 s = true ∧ fitS (strip s) = true ∧ asc (strip s) = true ∧ fitS s = true := by
 have hok : ∀ x ∈ L, okSg x := fun x hx => (hL x hx).1
 obtain ⟨o1, o2⟩ := outG_mem L false
 obtain ⟨t1, t2⟩ := strip_t hT hok he
 have l1 := fl_len hok
 have l2 := fl_len (L := outG false L) fun x hx => hok x (o1 x hx)
 have e1 : decide (s.length ≤ 5000) = true := decide_eq_true (by rw [len_cps, hT]; omega)
 have e2 : asc s = true := by unfold asc; rw [hT]; exact fl_asc hL
 have e3 : decide ((escPairs s).length ≤ 5000) = true := decide_eq_true (by rw [esc_t hT hok, posS_len]; omega)
 have e4 : decide (sumLen "" (stripL s) ≤ 100000) = true := decide_eq_true (by rw [t2]; omega)
 have e5 : fitS (strip s) = true := fitS_of (by rw [len_cps, t1]; omega)
 have e6 : asc (strip s) = true := by unfold asc; rw [t1]; exact fl_asc fun x hx => hL x (o1 x hx)
 have e7 : fitS s = true := fitS_of (by rw [len_cps, hT]; omega)
 refine ⟨?_, ?_, e5, e6, e7⟩
 ·unfold gd118; rw [e1, e2, e3, e4]; rfl
 ·unfold gd125 G118; rw [e1, e2, e3, e4, e5, e6]; rfl
def chkS (L : List Str) (op : Int) : Bool := chk (L.map fun s => (0, s)) op
theorem chk_c (p : Int × Str) (r : List (Int × Str)) (op : Int) : chk (p :: r) op = (match steq p.2 "(" with
  | true => chk r (op + 1)
  | false => match steq p.2 ")" with
   | true => !(decide (op - 1 < 0)) && chk r (op - 1)
   | false => chk r op) := rfl
theorem chk_snd : ∀ (ps : List (Int × Str)) (op : Int), chk ps op = chkS (ps.map (·.2)) op
 | [], op => rfl
 | p :: r, op => by
  show chk (p :: r) op = chk ((0, p.2) :: (r.map (·.2)).map fun s => (0, s)) op
  rw [chk_c, chk_c, chk_snd r, chk_snd r, chk_snd r]; rfl
theorem chkS_c (s : Str) (r : List Str) (op : Int) : chkS (s :: r) op = (match steq s "(" with
  | true => chkS r (op + 1)
  | false => match steq s ")" with
   | true => !(decide (op - 1 < 0)) && chkS r (op - 1)
   | false => chkS r op) := rfl
def readS (sc : List (Str × Str)) (L : List Str) (st : List (List Int)) (lv : List Str) : Option (List (List Int) × List Str) := readF sc (L.map fun s => (0, s)) st lv
theorem read_snd (sc : List (Str × Str)) : ∀ (ps : List (Int × Str)) (st : List (List Int)) (lv : List Str), readF sc ps st lv = readS sc (ps.map (·.2)) st lv
 | [], st, lv => rfl
 | p :: r, st, lv => by
  show readF sc (p :: r) st lv = readF sc ((0, p.2) :: (r.map (·.2)).map fun s => (0, s)) st lv
  have ih : ∀ st lv, readF sc r st lv = readF sc ((r.map (·.2)).map fun s => (0, s)) st lv := fun st lv => read_snd sc r st lv
  rw [readF_cons, readF_cons]
  simp only [ih]
theorem check_t {s : Str} {L : List Str} (hT : s.cps.toList = fl L) (hL : ∀ x ∈ L, okA x) (he : endG false L = false) : check s = chkS (outG false L) 0 := by
 have hok : ∀ x ∈ L, okSg x := fun x hx => (hL x hx).1
 obtain ⟨o1, o2⟩ := outG_mem L false
 unfold check
 rw [esc_t (strip_t hT hok he).1 fun x hx => hok x (o1 x hx), chk_snd, posS_snd]
def wds (wi : Int → Nat) : Nat → Nat → List Str
 | _, 0 => []
 | i, n + 1 => wordS (wi (i : Int)) :: wds wi (i + 1) n
def hsg (wi : Int → Nat) (i n : Nat) : List Str := ("\"" : Str) :: ("(" : Str) :: (wds wi i n ++ [("\"" : Str)])
section
variable (wi : Int → Nat) (mn : Nat → Bool) (v : Nat → Int)
def sgF : Fo → Bool → Nat → Int → Int → List Str
 | .nil, _, _, _, _ => []
 | .leaf r, b, i, lo, hi => match decide (lo < hi) with
  | true => wordS (wi (i : Int)) :: sgF r b (i + 1) (ups b lo hi (v i)).1 (ups b lo hi (v i)).2
  | false => hsg wi i (1 + sz r)
 | .node k r, b, i, lo, hi => match decide (lo < hi) with
  | true => wordS (wi (i : Int)) :: ("(" : Str) :: (sgF k (mn i) (i + 1) lo hi ++ ((")" : Str) :: sgF r b (i + 1 + sz k) (ups b lo hi (ndX mn v k i lo hi)).1 (ups b lo hi (ndX mn v k i lo hi)).2))
  | false => hsg wi i (1 + sz k + sz r)
def brF : Fo → Bool → Nat → Int → Int → List Str
 | .nil, _, _, _, _ => []
 | .leaf r, b, i, lo, hi => match decide (lo < hi) with
  | true => wordS (wi (i : Int)) :: brF r b (i + 1) (ups b lo hi (v i)).1 (ups b lo hi (v i)).2
  | false => []
 | .node k r, b, i, lo, hi => match decide (lo < hi) with
  | true => wordS (wi (i : Int)) :: ("(" : Str) :: (brF k (mn i) (i + 1) lo hi ++ ((")" : Str) :: brF r b (i + 1 + sz k) (ups b lo hi (ndX mn v k i lo hi)).1 (ups b lo hi (ndX mn v k i lo hi)).2))
  | false => []
theorem sgF_leaf (r : Fo) (b : Bool) (i : Nat) (lo hi : Int) : sgF wi mn v (.leaf r) b i lo hi = (match decide (lo < hi) with
  | true => wordS (wi (i : Int)) :: sgF wi mn v r b (i + 1) (ups b lo hi (v i)).1 (ups b lo hi (v i)).2
  | false => hsg wi i (1 + sz r)) := rfl
theorem sgF_node (k r : Fo) (b : Bool) (i : Nat) (lo hi : Int) : sgF wi mn v (.node k r) b i lo hi = (match decide (lo < hi) with
  | true => wordS (wi (i : Int)) :: ("(" : Str) :: (sgF wi mn v k (mn i) (i + 1) lo hi ++ ((")" : Str) :: sgF wi mn v r b (i + 1 + sz k) (ups b lo hi (ndX mn v k i lo hi)).1 (ups b lo hi (ndX mn v k i lo hi)).2))
  | false => hsg wi i (1 + sz k + sz r)) := rfl
theorem brF_leaf (r : Fo) (b : Bool) (i : Nat) (lo hi : Int) : brF wi mn v (.leaf r) b i lo hi = (match decide (lo < hi) with
  | true => wordS (wi (i : Int)) :: brF wi mn v r b (i + 1) (ups b lo hi (v i)).1 (ups b lo hi (v i)).2
  | false => []) := rfl
theorem brF_node (k r : Fo) (b : Bool) (i : Nat) (lo hi : Int) : brF wi mn v (.node k r) b i lo hi = (match decide (lo < hi) with
  | true => wordS (wi (i : Int)) :: ("(" : Str) :: (brF wi mn v k (mn i) (i + 1) lo hi ++ ((")" : Str) :: brF wi mn v r b (i + 1 + sz k) (ups b lo hi (ndX mn v k i lo hi)).1 (ups b lo hi (ndX mn v k i lo hi)).2))
  | false => []) := rfl
end
theorem hidA_fl (wi : Int → Nat) : ∀ (n i : Nat) (h : Str), (hidA wi h i n).cps.toList = h.cps.toList ++ fl (wds wi i n)
 | 0, i, h => by show h.cps.toList = h.cps.toList ++ []; rw [List.append_nil]
 | n + 1, i, h => by
  show (hidA wi (h ++ wordS (wi (i : Int))) (i + 1) n).cps.toList = h.cps.toList ++ ((wordS (wi (i : Int))).cps.toList ++ fl (wds wi (i + 1) n))
  rw [hidA_fl wi n, app_cps, List.append_assoc]
section
variable {wi : Int → Nat} (hw : ∀ j : Nat, j < 10 → wi (j : Int) < 9)
include hw
theorem hq_fl {i n : Nat} (h : i < 10) : fl (hqS (hidA wi "" i (n + 1))) = fl (hsg wi i (n + 1)) := by
 have hh := hidA_fl wi (n + 1) i ""
 rw [show (("" : Str)).cps.toList = [] from rfl, List.nil_append] at hh
 have hs : steq (hidA wi "" i (n + 1)) "" = false := by
  cases hs : steq (hidA wi "" i (n + 1)) "" with
  | false => rfl
  | true =>
   have e := steqS _ _ hs
   rw [e] at hh
   have l := (sg_len (word_sg (hw i h)).ok.1).1
   have : (([] : List Nat)).length = ((wordS (wi (i : Int))).cps.toList ++ fl (wds wi (i + 1) n)).length := congrArg List.length hh
   rw [List.length_append, ← len_cps] at this
   simp at this
   omega
 unfold hqS
 rw [hs]
 show ((("\"(" : Str) ++ hidA wi "" i (n + 1)) ++ ("\"" : Str)).cps.toList ++ [] = [34] ++ ([40] ++ fl (wds wi i (n + 1) ++ [("\"" : Str)]))
 rw [app_cps, app_cps, hh, fl_app, List.append_nil, List.append_assoc]
 rfl
theorem tok_sg {mn : Nat → Bool} {v : Nat → Int} : ∀ (f : Fo) (b : Bool) (i : Nat) (lo hi : Int), i + sz f ≤ 10 → fl (tokF wi mn v f b i lo hi) ++ fl (hqS (hidF wi mn v f b i lo hi)) = fl (sgF wi mn v f b i lo hi)
 | .nil, _, _, _, _, _ => rfl
 | .leaf r, b, i, lo, hi, h => by
  rw [show sz (.leaf r) = 1 + sz r from rfl] at h
  rw [tokF_leaf, hidF_leaf, sgF_leaf]
  cases decide (lo < hi) with
  | true =>
   dsimp only
   show (wordS (wi (i : Int))).cps.toList ++ fl _ ++ _ = (wordS (wi (i : Int))).cps.toList ++ fl _
   rw [List.append_assoc, tok_sg r b (i + 1) _ _ (by omega)]
  | false =>
   dsimp only
   rw [show 1 + sz r = sz r + 1 from by omega]
   show [] ++ _ = _
   rw [List.nil_append, hq_fl hw (by omega)]
 | .node k r, b, i, lo, hi, h => by
  rw [show sz (.node k r) = 1 + sz k + sz r from rfl] at h
  rw [tokF_node, hidF_node, sgF_node]
  cases decide (lo < hi) with
  | true =>
   dsimp only
   have h1 := tok_sg (mn := mn) (v := v) k (mn i) (i + 1) lo hi (by omega)
   have h2 := tok_sg (mn := mn) (v := v) r b (i + 1 + sz k) (ups b lo hi (ndX mn v k i lo hi)).1 (ups b lo hi (ndX mn v k i lo hi)).2 (by omega)
   rw [fl_app]
   simp only [fl_cons, fl_app, app_cps, List.append_assoc, fl_nil, List.append_nil, List.nil_append]
   rw [← h1, ← h2]
   simp only [List.append_assoc]
  | false =>
   dsimp only
   rw [show 1 + sz k + sz r = (sz k + sz r) + 1 from by omega]
   show [] ++ _ = _
   rw [List.nil_append, hq_fl hw (by omega)]
theorem wds_ok : ∀ (n i : Nat), i + n ≤ 10 → (∀ x ∈ wds wi i n, WSg x) ∧ (wds wi i n).length = n
 | 0, _, _ => ⟨fun x h => (by cases h), rfl⟩
 | n + 1, i, h => by
  obtain ⟨a, b⟩ := wds_ok n (i + 1) (by omega)
  refine ⟨fun x hx => ?_, by show (wds wi (i + 1) n).length + 1 = n + 1; rw [b]⟩
  cases hx with
  | head => exact word_sg (hw i (by omega))
  | tail _ hx => exact a x hx
theorem hsg_ok {n i : Nat} (h : i + n ≤ 10) : (∀ x ∈ hsg wi i n, okA x) ∧ (hsg wi i n).length = n + 3 := by
 obtain ⟨a, b⟩ := wds_ok hw n i h
 refine ⟨fun x hx => ?_, by unfold hsg; simp only [List.length_cons, List.length_append, List.length_nil]; omega⟩
 unfold hsg at hx
 cases hx with
 | head => exact okQ
 | tail _ hx =>
  cases hx with
  | head => exact okL
  | tail _ hx =>
   rcases List.mem_append.mp hx with hx | hx
   ·exact (a x hx).ok
   ·rw [List.mem_singleton.mp hx]; exact okQ
omit hw in
theorem skip_q : ∀ (L : List Str), (∀ x ∈ L, steq x "\"" = false) → ∀ rest, outG true (L ++ rest) = outG true rest ∧ endG true (L ++ rest) = endG true rest
 | [], _, rest => ⟨rfl, rfl⟩
 | x :: L, h, rest => by
  have := skip_q L (fun y hy => h y (.tail _ hy)) rest
  rw [List.cons_append, outG_c, endG_c, h x (.head _)]
  exact this
theorem hsg_out {n i : Nat} (h : i + n ≤ 10) (rest : List Str) : outG false (hsg wi i n ++ rest) = outG false rest ∧ endG false (hsg wi i n ++ rest) = endG false rest := by
 obtain ⟨a, b⟩ := wds_ok hw n i h
 have hs := skip_q (("(" : Str) :: wds wi i n) (fun x hx => by
  cases hx with
  | head => rfl
  | tail _ hx => exact (a x hx).q) (("\"" : Str) :: rest)
 have e : hsg wi i n ++ rest = ("\"" : Str) :: ((("(" : Str) :: wds wi i n) ++ (("\"" : Str) :: rest)) := by
  unfold hsg
  simp only [List.cons_append, List.append_assoc, List.nil_append]
 rw [e, outG_c, endG_c]
 exact hs
theorem sg_all {mn : Nat → Bool} {v : Nat → Int} : ∀ (f : Fo) (b : Bool) (i : Nat) (lo hi : Int), i + sz f ≤ 10 → (∀ x ∈ sgF wi mn v f b i lo hi, okA x) ∧ (sgF wi mn v f b i lo hi).length ≤ 6 * sz f ∧ (∀ rest, outG false (sgF wi mn v f b i lo hi ++ rest) = brF wi mn v f b i lo hi ++ outG false rest ∧ endG false (sgF wi mn v f b i lo hi ++ rest) = endG false rest)
 | .nil, _, _, _, _, _ => ⟨fun x h => (by cases h), Nat.zero_le _, fun _ => ⟨rfl, rfl⟩⟩
 | .leaf r, b, i, lo, hi, h => by
  rw [show sz (.leaf r) = 1 + sz r from rfl] at h ⊢
  rw [sgF_leaf, brF_leaf]
  have w := word_sg (hw i (by omega))
  cases decide (lo < hi) with
  | true =>
   obtain ⟨a, c, d⟩ := sg_all (mn := mn) (v := v) r b (i + 1) (ups b lo hi (v i)).1 (ups b lo hi (v i)).2 (by omega)
   dsimp only
   refine ⟨fun x hx => ?_, by rw [List.length_cons]; omega, fun rest => ?_⟩
   ·cases hx with
    | head => exact w.ok
    | tail _ hx => exact a x hx
   ·rw [List.cons_append, outG_c, endG_c, w.q]
    dsimp only
    rw [(d rest).1, (d rest).2]; exact ⟨rfl, rfl⟩
  | false =>
   obtain ⟨a, c⟩ := hsg_ok hw (n := 1 + sz r) (i := i) h
   exact ⟨a, by dsimp only; omega, fun rest => hsg_out hw h rest⟩
 | .node k r, b, i, lo, hi, h => by
  rw [show sz (.node k r) = 1 + sz k + sz r from rfl] at h ⊢
  rw [sgF_node, brF_node]
  have w := word_sg (hw i (by omega))
  cases decide (lo < hi) with
  | true =>
   obtain ⟨a, c, d⟩ := sg_all (mn := mn) (v := v) r b (i + 1 + sz k) (ups b lo hi (ndX mn v k i lo hi)).1 (ups b lo hi (ndX mn v k i lo hi)).2 (by omega)
   obtain ⟨a2, c2, d2⟩ := sg_all (mn := mn) (v := v) k (mn i) (i + 1) lo hi (by omega)
   dsimp only
   refine ⟨fun x hx => ?_, by simp only [List.length_cons, List.length_append]; omega, fun rest => ?_⟩
   ·cases hx with
    | head => exact w.ok
    | tail _ hx =>
     cases hx with
     | head => exact okL
     | tail _ hx =>
      rcases List.mem_append.mp hx with hx | hx
      ·exact a2 x hx
      ·cases hx with
       | head => exact okR
       | tail _ hx => exact a x hx
   ·rw [List.cons_append, List.cons_append, outG_c, endG_c, w.q]
    dsimp only
    rw [outG_c, endG_c, show steq ("(" : Str) "\"" = false from by kernel_rfl]
    dsimp only
    rw [List.append_assoc, (d2 _).1, (d2 _).2, List.cons_append, outG_c, endG_c, show steq (")" : Str) "\"" = false from by kernel_rfl]
    dsimp only
    rw [(d rest).1, (d rest).2]
    simp only [List.append_assoc, List.cons_append, and_self]
  | false =>
   obtain ⟨a, c⟩ := hsg_ok hw (n := 1 + sz k + sz r) (i := i) h
   exact ⟨a, by dsimp only; omega, fun rest => hsg_out hw h rest⟩
theorem br_all {mn : Nat → Bool} {v : Nat → Int} : ∀ (f : Fo) (b : Bool) (i : Nat) (lo hi : Int), i + sz f ≤ 10 → (∀ x ∈ brF wi mn v f b i lo hi, okA x) ∧ (brF wi mn v f b i lo hi).length ≤ 6 * sz f ∧ (∀ rest, outG false (brF wi mn v f b i lo hi ++ rest) = brF wi mn v f b i lo hi ++ outG false rest ∧ endG false (brF wi mn v f b i lo hi ++ rest) = endG false rest) ∧
  (∀ rest (op : Int), 0 ≤ op → chkS (brF wi mn v f b i lo hi ++ rest) op = chkS rest op)
 | .nil, _, _, _, _, _ => ⟨fun x h => (by cases h), Nat.zero_le _, fun _ => ⟨rfl, rfl⟩, fun _ _ _ => rfl⟩
 | .leaf r, b, i, lo, hi, h => by
  rw [show sz (.leaf r) = 1 + sz r from rfl] at h ⊢
  rw [brF_leaf]
  have w := word_sg (hw i (by omega))
  cases decide (lo < hi) with
  | true =>
   obtain ⟨a, c, d, e⟩ := br_all (mn := mn) (v := v) r b (i + 1) (ups b lo hi (v i)).1 (ups b lo hi (v i)).2 (by omega)
   dsimp only
   refine ⟨fun x hx => ?_, by rw [List.length_cons]; omega, fun rest => ?_, fun rest op ho => ?_⟩
   ·cases hx with
    | head => exact w.ok
    | tail _ hx => exact a x hx
   ·rw [List.cons_append, outG_c, endG_c, w.q]
    dsimp only
    rw [(d rest).1, (d rest).2]; exact ⟨rfl, rfl⟩
   ·rw [List.cons_append, chkS_c, w.l, w.r]
    dsimp only
    exact e rest op ho
  | false => exact ⟨fun x h => (by cases h), Nat.zero_le _, fun _ => ⟨rfl, rfl⟩, fun _ _ _ => rfl⟩
 | .node k r, b, i, lo, hi, h => by
  rw [show sz (.node k r) = 1 + sz k + sz r from rfl] at h ⊢
  rw [brF_node]
  have w := word_sg (hw i (by omega))
  cases decide (lo < hi) with
  | true =>
   obtain ⟨a, c, d, e⟩ := br_all (mn := mn) (v := v) r b (i + 1 + sz k) (ups b lo hi (ndX mn v k i lo hi)).1 (ups b lo hi (ndX mn v k i lo hi)).2 (by omega)
   obtain ⟨a2, c2, d2, e2⟩ := br_all (mn := mn) (v := v) k (mn i) (i + 1) lo hi (by omega)
   dsimp only
   refine ⟨fun x hx => ?_, by simp only [List.length_cons, List.length_append]; omega, fun rest => ?_, fun rest op ho => ?_⟩
   ·cases hx with
    | head => exact w.ok
    | tail _ hx =>
     cases hx with
     | head => exact okL
     | tail _ hx =>
      rcases List.mem_append.mp hx with hx | hx
      ·exact a2 x hx
      ·cases hx with
       | head => exact okR
       | tail _ hx => exact a x hx
   ·rw [List.cons_append, List.cons_append, outG_c, endG_c, w.q]
    dsimp only
    rw [outG_c, endG_c, show steq ("(" : Str) "\"" = false from by kernel_rfl]
    dsimp only
    rw [List.append_assoc, (d2 _).1, (d2 _).2, List.cons_append, outG_c, endG_c, show steq (")" : Str) "\"" = false from by kernel_rfl]
    dsimp only
    rw [(d rest).1, (d rest).2]
    simp only [List.append_assoc, List.cons_append, and_self]
   ·rw [List.cons_append, List.cons_append, chkS_c, w.l, w.r]
    dsimp only
    rw [chkS_c, show steq ("(" : Str) "(" = true from by kernel_rfl]
    dsimp only
    rw [List.append_assoc, e2 _ _ (by omega), List.cons_append, chkS_c, show steq (")" : Str) "(" = false from by kernel_rfl, show steq (")" : Str) ")" = true from by kernel_rfl]
    dsimp only
    rw [show op + 1 - 1 = op from by omega, decide_eq_false (by omega), e rest op ho]; rfl
  | false => exact ⟨fun x h => (by cases h), Nat.zero_le _, fun _ => ⟨rfl, rfl⟩, fun _ _ _ => rfl⟩
end
theorem readS_c (sc : List (Str × Str)) (s : Str) (r : List Str) (st : List (List Int)) (lv : List Str) : readS sc (s :: r) st lv = guardB (decide (st.length ≤ 1000) && decide (lv.length ≤ 1000) && st.all fun l => decide (l.length ≤ 1000)) (obind (exS s) fun num => match decide (256 ≤ num) with
  | true => guardB (getG s sc) (obind (hfind (Txt.lower s) sc) fun t => obind (digitVal t) fun i => match st with
   | l :: st' => readS sc r ((l ++ [i]) :: st') (lv ++ [s])
   | [] => none)
  | false => match decide (num = 8) with
   | true => match st with
    | (x :: y :: ys) :: l2 :: st' => readS sc r ((l2 ++ [if x = 20 then minL y ys else maxL y ys]) :: st') lv
    | _ => none
   | false => match decide (num = 7) with
    | true => readS sc r st lv
    | false => readS sc r ([num] :: st) lv) := rfl
theorem exS_l : exS "(" = some 7 := by kernel_rfl
theorem exS_r : exS ")" = some 8 := by kernel_rfl
def Inn (ov : List Int) : Fo → Nat → Prop
 | .nil, _ => True
 | .leaf r, i => inner ov i = false ∧ Inn ov r (i + 1)
 | .node k r, i => inner ov i = true ∧ k ≠ .nil ∧ Inn ov k (i + 1) ∧ Inn ov r (i + 1 + sz k)
theorem occ_inn {dp ov : List Int} : ∀ (f : Fo) (p i : Nat), Occ dp ov f p i → Inn ov f i
 | .nil, _, _, _ => trivial
 | .leaf r, p, i, h => ⟨h.2.2.2.1, occ_inn r p (i + 1) h.2.2.2.2⟩
 | .node k r, p, i, h => ⟨h.2.2.2.1, h.2.2.2.2.1, occ_inn k i (i + 1) h.2.2.2.2.2.1, occ_inn r p _ h.2.2.2.2.2.2.2⟩
theorem pv_len (mn : Nat → Bool) (v : Nat → Int) : ∀ (f : Fo) (b : Bool) (i : Nat) (lo hi : Int), (pv mn v f b i lo hi).length ≤ sz f
 | .nil, _, _, _, _ => Nat.zero_le _
 | .leaf r, b, i, lo, hi => by
  rw [pv_leaf, show sz (.leaf r) = 1 + sz r from rfl]
  split
  ·have := pv_len mn v r b (i + 1) (ups b lo hi (v i)).1 (ups b lo hi (v i)).2
   rw [List.length_cons]; omega
  ·exact Nat.zero_le _
 | .node k r, b, i, lo, hi => by
  rw [pv_node, show sz (.node k r) = 1 + sz k + sz r from rfl]
  split
  ·have h1 := pv_len mn v r b (i + 1 + sz k) (ups b lo hi (ndX mn v k i lo hi)).1 (ups b lo hi (ndX mn v k i lo hi)).2
   rw [List.length_cons]; omega
  ·exact Nat.zero_le _
theorem gd_read {st : List (List Int)} {lv : List Str} (h1 : st.length ≤ 1000) (h2 : lv.length ≤ 1000) (h3 : ∀ x ∈ st, x.length ≤ 1000) : (decide (st.length ≤ 1000) && decide (lv.length ≤ 1000) && st.all fun l => decide (l.length ≤ 1000)) = true := by
 rw [decide_eq_true h1, decide_eq_true h2, Bool.and_self, Bool.true_and, List.all_eq_true]
 exact fun x hx => decide_eq_true (h3 x hx)
section
variable {ov ws : List Int} {wd : List Str} {wi : Int → Nat} {l : List (Str × Str)} (hw : ∀ j : Int, 0 ≤ j → j < 10 → wi j < 9 ∧ gS wd j = wordS (wi j)) (hin : ∀ j : Int, 0 ≤ j → j < 10 → isW (wi j) = !(inner ov j))
 (hq : ∀ j : Int, 0 ≤ j → j < 10 → Eqn ov wi l ws j) (hk : okSc l) (hll : l.length ≤ 50)
include hw hin hq hk hll
theorem read_t : ∀ (f : Fo) (b : Bool) (i : Nat) (lo hi : Int) (rest : List Str) (row : List Int) (st : List (List Int)) (lv : List Str), Inn ov f i → i + sz f ≤ 10 → st.length + sz f ≤ 900 → lv.length + sz f ≤ 900 → row.length + sz f ≤ 900 → (∀ x ∈ st, x.length ≤ 1000) →
  readS l (brF wi (mnF wi) (vF ws) f b i lo hi ++ rest) (row :: st) lv = readS l rest ((row ++ pv (mnF wi) (vF ws) f b i lo hi) :: st) (lv ++ (visF (mnF wi) (vF ws) f b i lo hi).map fun q => wordS (wi (q.1 : Int)))
 | .nil, b, i, lo, hi, rest, row, st, lv, _, _, _, _, _, _ => by
  show readS l rest (row :: st) lv = readS l rest ((row ++ []) :: st) (lv ++ [])
  rw [List.append_nil, List.append_nil]
 | .leaf r, b, i, lo, hi, rest, row, st, lv, h, h1, h2, h3, h4, h5 => by
  rw [show sz (.leaf r) = 1 + sz r from rfl] at h1 h2 h3 h4
  obtain ⟨a, c⟩ := h
  rw [brF_leaf, pv_leaf, visF_leaf]
  cases decide (lo < hi) with
  | true =>
   dsimp only
   obtain ⟨w1, _⟩ := hw (i : Int) (by omega) (by omega)
   have hc := hin (i : Int) (by omega) (by omega)
   rw [a] at hc
   obtain ⟨s, s1, s2⟩ := (hq (i : Int) (by omega) (by omega)).2 hc
   rw [List.cons_append, readS_c, guardB_t (gd_read (by rw [List.length_cons]; omega) (by omega) (fun x hx => by
    cases hx with
    | head => omega
    | tail _ hx => exact h5 x hx)), exS_w w1, obind_s, numW_t hc]
   show guardB _ _ = _
   rw [guardB_t (get_ok w1 hk hll), s1, obind_s, s2, obind_s]
   dsimp only
   rw [read_t r b (i + 1) _ _ rest (row ++ [gI ws i]) st (lv ++ [wordS (wi (i : Int))]) c (by omega) (by omega) (by rw [List.length_append, List.length_singleton]; omega) (by rw [List.length_append, List.length_singleton]; omega) h5]
   simp only [List.append_assoc, List.map_cons, List.cons_append, List.nil_append]
  | false =>
   dsimp only
   show readS l rest (row :: st) lv = readS l rest ((row ++ []) :: st) (lv ++ [])
   rw [List.append_nil, List.append_nil]
 | .node k r, b, i, lo, hi, rest, row, st, lv, h, h1, h2, h3, h4, h5 => by
  rw [show sz (.node k r) = 1 + sz k + sz r from rfl] at h1 h2 h3 h4
  obtain ⟨a, a2, a3, c⟩ := h
  rw [brF_node, pv_node, visF_node]
  cases hd : decide (lo < hi) with
  | true =>
   have hl := of_decide_eq_true hd
   dsimp only
   obtain ⟨w1, _⟩ := hw (i : Int) (by omega) (by omega)
   have hc := hin (i : Int) (by omega) (by omega)
   rw [a] at hc
   have hn : ∃ num, numW (wi (i : Int)) = num ∧ decide (256 ≤ num) = false ∧ decide (num = 8) = false ∧ decide (num = 7) = false ∧ decide (num = 20) = mnF wi i := by
    refine ⟨numW (wi (i : Int)), rfl, (numW_f hc).1, ?_, ?_, (numW_f hc).2⟩
    ·rcases isW_f hc with h | h <;> rw [h] <;> rfl
    ·rcases isW_f hc with h | h <;> rw [h] <;> rfl
   obtain ⟨num, n1, n2, n3, n4, n5⟩ := hn
   have g0 : ∀ x ∈ row :: st, x.length ≤ 1000 := fun x hx => by
    cases hx with
    | head => omega
    | tail _ hx => exact h5 x hx
   rw [List.cons_append, List.cons_append, readS_c, guardB_t (gd_read (by rw [List.length_cons]; omega) (by omega) g0), exS_w w1, obind_s, n1, n2]
   dsimp only
   rw [n3]
   dsimp only
   rw [n4]
   dsimp only
   rw [readS_c, guardB_t (gd_read (by simp only [List.length_cons]; omega) (by omega) (fun x hx => by
    cases hx with
    | head => exact (by decide : 1 ≤ 1000)
    | tail _ hx => exact g0 x hx)), exS_l, obind_s]
   show readS l ((brF wi (mnF wi) (vF ws) k (mnF wi i) (i + 1) lo hi ++ _) ++ rest) ([num] :: row :: st) lv = _
   have lp := pv_len (mnF wi) (vF ws) k (mnF wi i) (i + 1) lo hi
   have lvl := visF_len (mnF wi) (vF ws) k (mnF wi i) (i + 1) lo hi
   rw [List.append_assoc, read_t k (mnF wi i) (i + 1) lo hi _ [num] (row :: st) lv a3 (by omega) (by rw [List.length_cons]; omega) (by omega) (by rw [List.length_singleton]; omega) g0, List.cons_append, readS_c, guardB_t (gd_read (by simp only [List.length_cons]; omega) (by rw [List.length_append, List.length_map]; omega) (fun x hx => by
    cases hx with
    | head => rw [List.length_append, List.length_singleton]; omega
    | tail _ hx => exact g0 x hx)), exS_r, obind_s]
   have hne := pv_ne (mn := mnF wi) (v := vF ws) (b := mnF wi i) (i := i + 1) a2 hl
   cases hpv : pv (mnF wi) (vF ws) k (mnF wi i) (i + 1) lo hi with
   | nil => exact absurd hpv hne
   | cons y ys =>
    show readS l (_ ++ rest) ((row ++ [if num = 20 then minL y ys else maxL y ys]) :: st) _ = _
    rw [show (if num = 20 then minL y ys else maxL y ys) = extL (mnF wi i) (y :: ys) from by
     rw [← n5]
     by_cases h20 : num = 20
     ·rw [if_pos h20, decide_eq_true h20]; rfl
     ·rw [if_neg h20, decide_eq_false h20]; rfl]
    rw [read_t r b _ _ _ rest _ st _ c (by omega) (by omega) (by rw [List.length_append, List.length_map]; omega) (by rw [List.length_append, List.length_singleton]; omega) h5]
    simp only [List.append_assoc, List.map_append, List.cons_append, List.nil_append]
  | false =>
   dsimp only
   show readS l rest (row :: st) lv = readS l rest ((row ++ []) :: st) (lv ++ [])
   rw [List.append_nil, List.append_nil]
end
end Mine.Q
end
section
set_option maxRecDepth 4000
namespace Mine.Q
variable {R : Type}
theorem gS_words (dr ov : List Int) {j : Int} (h0 : 0 ≤ j) (h1 : j < 10) : gS (wordsF dr ov) j = wordS (wordI dr ov j) := by
 have : ∀ n : Nat, n < 10 → gS (wordsF dr ov) (n : Int) = wordF dr ov (n : Int) := by
  intro n hn
  match n, hn with
  | 0, _ => rfl
  | 1, _ => rfl
  | 2, _ => rfl
  | 3, _ => rfl
  | 4, _ => rfl
  | 5, _ => rfl
  | 6, _ => rfl
  | 7, _ => rfl
  | 8, _ => rfl
  | 9, _ => rfl
 have h := this j.toNat (by omega)
 rw [Int.toNat_of_nonneg h0] at h
 exact h
theorem wordI_lt (dr ov : List Int) (j : Int) : wordI dr ov j < 9 ∧ isW (wordI dr ov j) = !(inner ov j) := by
 unfold wordI
 cases inner ov j with
 | true =>
  dsimp only
  have h1 := Int.fmod_nonneg_of_pos ((gI dr j).fdiv 6) (b := 2) (by omega)
  have h2 := Int.fmod_lt_of_pos ((gI dr j).fdiv 6) (b := 2) (by omega)
  generalize (((gI dr j).fdiv 6).fmod 2) = x at *
  have : x.toNat = 0 ∨ x.toNat = 1 := by omega
  rcases this with h | h <;> rw [h] <;> exact ⟨by decide, rfl⟩
 | false =>
  dsimp only
  have h1 := Int.fmod_nonneg_of_pos ((gI dr j).fdiv 12) (b := 7) (by omega)
  have h2 := Int.fmod_lt_of_pos ((gI dr j).fdiv 12) (b := 7) (by omega)
  generalize (((gI dr j).fdiv 12).fmod 7) = x at *
  refine ⟨by omega, ?_⟩
  rw [Nat.add_comm]; rfl
theorem vis_rng {mn : Nat → Bool} {v : Nat → Int} (hv : ∀ j : Nat, j < 10 → 0 ≤ v j ∧ v j ≤ 9) : ∀ (f : Fo) (b : Bool) (i : Nat) (lo hi : Int), i + sz f ≤ 10 → (0 ≤ lo ∧ lo ≤ 9) → (0 ≤ hi ∧ hi ≤ 9) → ∀ q ∈ visF mn v f b i lo hi, q.1 < 10 ∧ (0 ≤ q.2.1 ∧ q.2.1 ≤ 9) ∧ (0 ≤ q.2.2 ∧ q.2.2 ≤ 9)
 | .nil, _, _, _, _, _, _, _, q, h => by cases h
 | .leaf r, b, i, lo, hi, h, h1, h2, q, hm => by
  rw [show sz (.leaf r) = 1 + sz r from rfl] at h
  rw [visF_leaf] at hm
  cases hd : decide (lo < hi) with
  | true =>
   rw [hd] at hm
   cases hm with
   | head => exact ⟨by show i < 10; omega, h1, h2⟩
   | tail _ hm =>
    have := ups_rng (b := b) h1 h2 (hv i (by omega))
    exact vis_rng hv r b (i + 1) _ _ (by omega) this.1 this.2 q hm
  | false => rw [hd] at hm; cases hm
 | .node k r, b, i, lo, hi, h, h1, h2, q, hm => by
  rw [show sz (.node k r) = 1 + sz k + sz r from rfl] at h
  rw [visF_node] at hm
  cases hd : decide (lo < hi) with
  | true =>
   rw [hd] at hm
   rcases List.mem_append.mp hm with hm | hm
   ·exact vis_rng hv k (mn i) (i + 1) lo hi (by omega) h1 h2 q hm
   ·have a := abF_rng (mn := mn) hv k (mn i) (i + 1) lo hi (by omega) h1 h2
    have := ups_rng (b := b) h1 h2 (ret_rng (b := mn i) a.1 a.2)
    exact vis_rng hv r b _ _ _ (by omega) this.1 this.2 q hm
  | false => rw [hd] at hm; cases hm
theorem cut_last {s : Str} {X : List Str} {c : Nat} (h : s.cps.toList = fl X ++ [c]) : (slS s none (some (-1))).cps.toList = fl X := by
 unfold slS
 rw [h]
 show ((fl X ++ [c]).drop 0).take (clipAt (fl X ++ [c]).length (-1) - 0) = _
 have hc : clipAt (fl X ++ [c]).length (-1) = (fl X).length := by
  unfold clipAt
  rw [if_pos (by decide), List.length_append, List.length_singleton]
  omega
 rw [hc, Nat.sub_zero, List.drop_zero, List.take_left']
 rfl
theorem law_true (ns : List Int) (hn : ns.length ≤ 100) (k : KV R) : callFn Pr CT 317 [.f (.lst (ns.map .int))] [] [] k = k (.f (.bool true)) [] := by
 generalize hdr : drawsF ns = dr
 have h1 : dr.length = 10 := by rw [← hdr]; exact draws_len ns
 obtain ⟨t, h10⟩ := tree_TI dr h1
 generalize hdp : (treeF dr).1 = dp at *
 generalize hov : (treeF dr).2.1 = ov at *
 generalize hld : (treeF dr).2.2 = ld at *
 generalize hwd : wordsF dr ov = wd
 have h2 : wd.length = 10 := by rw [← hwd]; unfold wordsF; rw [List.length_map, len_up10]
 have h3 : ov.length = 10 := by rw [t.lo, h10]
 have h4 : ld.length = 10 := by rw [t.ll, h10]
 generalize hwi : wordI dr ov = wi
 have hw : ∀ j : Int, 0 ≤ j → j < 10 → wi j < 9 ∧ gS wd j = wordS (wi j) := fun j a b => by
  rw [← hwi, ← hwd]; exact ⟨(wordI_lt dr ov j).1, gS_words dr ov a b⟩
 have hin : ∀ j : Int, 0 ≤ j → j < 10 → isW (wi j) = !(inner ov j) := fun j _ _ => by rw [← hwi]; exact (wordI_lt dr ov j).2
 have hwn : ∀ j : Nat, j < 10 → wi (j : Int) < 9 := fun j hj => (hw (j : Int) (by omega) (by omega)).1
 generalize hl : scoreL wi dr (rangeUp 0 10) [] = l
 have hlk : okSc l ∧ l.length ≤ 10 := by
  have := scoreL_ok (wi := wi) (dr := dr) (rangeUp 0 10) (l := []) (fun j hj => (hw j (up10_mem j hj).1 (up10_mem j hj).2).1) (by intro p hp; cases hp)
  rw [hl, len_up10] at this
  exact this
 have hk := hlk.1
 have hll : l.length ≤ 50 := by omega
 have hlf : ∀ j : Int, 0 ≤ j → j < 10 → isW (wi j) = true → ∃ s v, hfind (Txt.lower (wordS (wi j))) l = some s ∧ digitVal s = some v ∧ 1 ≤ v ∧ v ≤ 8 := fun j a b hj => by
  have hm : j ∈ rangeUp 0 10 := by
   unfold rangeUp
   refine List.mem_map.mpr ⟨j.toNat, List.mem_range.mpr (by omega), by omega⟩
  have := scoreL_new (dr := dr) hj (rangeUp 0 10) (l := []) hm
  rw [hl] at this
  exact hfind_val hk this
 obtain ⟨ws, he, h5, hq⟩ := wfold_t hw hin hlf 10 (List.replicate 10 0) (Nat.le_refl _) rfl (fun j a b => by omega)
 rw [show (((10 : Nat) : Int) - 1) = 9 from rfl] at he
 have hr8 : ∀ j : Nat, j < 10 → 1 ≤ vF ws j ∧ vF ws j ≤ 8 := fun j hj => ws_rng hin hlf hq 10 (j : Int) (by omega) (by omega) (by omega)
 have hv : ∀ j : Nat, j < 10 → 0 ≤ vF ws j ∧ vF ws j ≤ 9 := fun j hj => by have := hr8 j hj; omega
 obtain ⟨K, o1, o2, o3, o4⟩ := build t h10 10 1 0 (by omega) (by omega) (by omega) (fun _ => t.st 0 (by omega)) (fun k a b => by omega)
 have hd0 : gI dp ((0 : Nat) : Int) = 0 := t.d0
 have hsz : sz K = 9 := by
  by_cases h : 1 + sz K < 10
  ·have a := o3 h
   have b := (t.dd (1 + sz K) (by omega) (by omega)).1
   omega
  ·omega
 have hB : Blk dp 0 (0 + 1 + sz K) := by
  rw [hsz]
  refine ⟨by omega, fun k a b => ?_, fun h => by omega⟩
  have := (t.dd k a (by omega)).1
  omega
 have hi0 : inner ov ((0 : Nat) : Int) = true := by
  obtain ⟨u, u1, u2, _⟩ := t.up 1 (by omega) (by omega)
  have : u = 0 := by omega
  subst this
  exact inner_iff.mpr ⟨by omega, u1⟩
 have hKn : K ≠ .nil := by intro h; rw [h] at hsz; cases hsz
 have hVK : Vok (mnF wi) (vF ws) K 1 := vok t h10 hin hq K 0 1 o1 (by omega)
 have hv0 : vF ws 0 = extL (mnF wi 0) (vals (vF ws) K 1) := by
  have hi := hin ((0 : Nat) : Int) (by omega) (by omega)
  rw [hi0] at hi
  have := (hq ((0 : Nat) : Int) (by omega) (by omega)).1 hi
  show gI ws ((0 : Nat) : Int) = _
  rw [this]
  congr 1
  exact kids_all t h10 o1 hB
 have hVR : Vok (mnF wi) (vF ws) (.node K .nil) 0 := ⟨hv0, hKn, hVK, trivial⟩
 have hszR : sz (.node K .nil) = 10 := by show 1 + sz K + 0 = 10; omega
 have r0 := hr8 0 (by omega)
 have hndx : ndX (mnF wi) (vF ws) K 0 0 9 = vF ws 0 := by
  have := eqw_nd (mn := mnF wi) (v := vF ws) (k := K) (i := 0) (lo := 0) (hi := 9) (by decide) hv0 hKn hVK
  unfold Eqw at this
  omega
 have hpv : extL (mnF wi 0) (pv (mnF wi) (vF ws) K (mnF wi 0) 1 0 9) = vF ws 0 := by
  have a := ok_ret' (by decide) (pv_ne (mn := mnF wi) (v := vF ws) (b := mnF wi 0) (i := 1) (lo := 0) (hi := 9) hKn (by decide)) (ab_pv (mn := mnF wi) (v := vF ws) K (mnF wi 0) 1 0 9 hVK)
  rw [show ret (mnF wi 0) (abF (mnF wi) (vF ws) K (mnF wi 0) 1 0 9) = vF ws 0 from hndx] at a
  unfold Eqw at a
  omega
 generalize hdue : (visF (mnF wi) (vF ws) K (mnF wi 0) 1 0 9).map (ent wi) = due
 have edue : (rangeUp 0 10).flatMap (dueJ ov wd ws wi) = due := by
  have a := due_rows t h10 hw hin (ws := ws) K 0 1 o1 (by omega)
  rw [show ((0 : Nat) + 1) = 1 from rfl, upN_nil, show belowF ov ws ((0 : Nat) : Int) [] = [] from rfl, winP_nil, bd_zero hw, hsz, ← vis_due K (mnF wi 0) 1 0 9 0 9 hVK (.inl ⟨rfl, rfl⟩), hdue] at a
  rw [show rangeUp 0 10 = upN 0 10 from rfl, upN_cons (by omega), List.flatMap_cons]
  have b : dueJ ov wd ws wi ((0 : Nat) : Int) = [] := by
   have hi := hin ((0 : Nat) : Int) (by omega) (by omega)
   rw [hi0] at hi
   unfold dueJ
   rw [hi]; rfl
  rw [b]
  exact a
 have hdk : okDue due := by
  intro p hp
  rw [← hdue] at hp
  obtain ⟨q, q1, rfl⟩ := List.mem_map.mp hp
  obtain ⟨a, b, c⟩ := vis_rng hv K (mnF wi 0) 1 0 9 (by omega) (by decide) (by decide) q q1
  exact ⟨⟨wi (q.1 : Int), hwn q.1 a, rfl⟩, (dg2_ok b.1 b.2 c.1 c.2).2⟩
 have hdl : due.length ≤ 50 := by
  rw [← hdue, List.length_map]
  have := visF_len (mnF wi) (vF ws) K (mnF wi 0) 1 0 9
  omega
 have es := node_t t h10 hw hin hq hv hk hll 4 K 0 0 9 [] [] (by omega) hi0 o1 hB (by omega) (by decide) (by decide) (by simp; omega) (by simp; omega)
 generalize hrc : tokF wi (mnF wi) (vF ws) (.node K .nil) false 0 0 9 = rc
 have hrc2 : ndQ ws wi K 0 0 9 [] [] = ⟨gI ws 0, 10, due, rc⟩ := by
  unfold ndQ
  rw [hndx, hsz, ← hrc, tokF_node, show decide ((0 : Int) < 9) = true from rfl]
  dsimp only
  rw [show tokF wi (mnF wi) (vF ws) .nil false (0 + 1 + sz K) (ups false 0 9 (ndX (mnF wi) (vF ws) K 0 0 9)).1 (ups false 0 9 (ndX (mnF wi) (vF ws) K 0 0 9)).2 = [] from rfl, List.append_nil, List.nil_append, List.nil_append, show (0 + 1 : Nat) = 1 from rfl, hdue]
  rfl
 rw [hrc2] at es
 generalize hG : sgF wi (mnF wi) (vF ws) (.node K .nil) false 0 0 9 = G
 generalize hBr : brF wi (mnF wi) (vF ws) (.node K .nil) false 0 0 9 = B
 have hfl : fl rc = fl G := by
  have := tok_sg hwn (mn := mnF wi) (v := vF ws) (.node K .nil) false 0 0 9 (by omega)
  rw [hrc, hG, hidF_node, show decide ((0 : Int) < 9) = true from rfl] at this
  rw [← this]
  show fl rc = fl rc ++ []
  rw [List.append_nil]
 obtain ⟨G1, G2, G3⟩ := sg_all hwn (mn := mnF wi) (v := vF ws) (.node K .nil) false 0 0 9 (by omega)
 obtain ⟨B1, B2, B3, B4⟩ := br_all hwn (mn := mnF wi) (v := vF ws) (.node K .nil) false 0 0 9 (by omega)
 rw [hG] at G1 G2 G3
 rw [hBr] at B1 B2 B3 B4 G3
 have g3 := G3 []
 rw [List.append_nil, show outG false [] = [] from rfl, List.append_nil, show endG false [] = false from rfl] at g3
 obtain ⟨X1, X2, X3, X4⟩ := br_all hwn (mn := mnF wi) (v := vF ws) K (mnF wi 0) 1 0 9 (by omega)
 have w0 := word_sg (hwn 0 (by omega))
 generalize hX : wordS (wi ((0 : Nat) : Int)) :: ("(" : Str) :: brF wi (mnF wi) (vF ws) K (mnF wi 0) 1 0 9 = X
 have hBX : B = X ++ [(")" : Str)] := by
  rw [← hBr, ← hX, brF_node, show decide ((0 : Int) < 9) = true from rfl]
  rfl
 generalize htx : Txt.join "" rc = tx
 have ctx : tx.cps.toList = fl G := by rw [← htx, join_fl, hfl]
 have hGo : ∀ x ∈ G, okSg x := fun x hx => (G1 x hx).1
 obtain ⟨gd1, gd2, gd3, gd4, gd5⟩ := gd_t ctx G1 g3.2 (by omega)
 generalize hba : strip tx = ba
 have cba : ba.cps.toList = fl B := by
  have := (strip_t ctx hGo g3.2).1
  rw [hba, g3.1] at this
  exact this
 have ck1 : check tx = true := by
  rw [check_t ctx G1 g3.2, g3.1]
  have := B4 [] 0 (Int.le_refl 0)
  rw [List.append_nil] at this
  rw [this]; rfl
 have c1 : (slS ba none (some (-1))).cps.toList = fl X := by
  apply cut_last (c := 41)
  rw [cba, hBX, fl_app]; rfl
 have XA : ∀ x ∈ X, okA x := fun x hx => B1 x (by rw [hBX]; exact List.mem_append_left _ hx)
 have XL : X.length ≤ 100 := by
  have : B.length = X.length + 1 := by rw [hBX, List.length_append]; rfl
  omega
 have x3 := X3 []
 rw [List.append_nil, show outG false [] = [] from rfl, List.append_nil, show endG false [] = false from rfl] at x3
 have XO : outG false X = X ∧ endG false X = false := by
  rw [← hX, outG_c, endG_c, w0.q]
  dsimp only
  rw [outG_c, endG_c, show steq ("(" : Str) "\"" = false from by kernel_rfl]
  dsimp only
  rw [x3.1, x3.2]
  exact ⟨rfl, rfl⟩
 have XC : chkS X 0 = false := by
  rw [← hX, chkS_c, w0.l, w0.r]
  dsimp only
  rw [chkS_c, show steq ("(" : Str) "(" = true from by kernel_rfl]
  dsimp only
  have := X4 [] (0 + 1) (by decide)
  rw [List.append_nil] at this
  rw [this]; rfl
 obtain ⟨xd1, xd2, xd3, xd4, xd5⟩ := gd_t c1 XA XO.2 (by omega)
 have ck2 : check (slS ba none (some (-1))) = false := by rw [check_t c1 XA XO.2, XO.1, XC]
 have c2 : ((")" : Str) ++ slS ba none (some (-1))).cps.toList = fl ((")" : Str) :: X) := by rw [app_cps, c1]; rfl
 have YA : ∀ x ∈ ((")" : Str) :: X), okA x := fun x hx => by
  cases hx with
  | head => exact okR
  | tail _ hx => exact XA x hx
 have YO : outG false ((")" : Str) :: X) = (")" : Str) :: X ∧ endG false ((")" : Str) :: X) = false := by
  rw [outG_c, endG_c, show steq (")" : Str) "\"" = false from by kernel_rfl]
  dsimp only
  rw [XO.1, XO.2]
  exact ⟨rfl, rfl⟩
 obtain ⟨yd1, yd2, yd3, yd4, yd5⟩ := gd_t c2 YA YO.2 (by rw [List.length_cons]; omega)
 have ck3 : check ((")" : Str) ++ slS ba none (some (-1))) = false := by
  rw [check_t c2 YA YO.2, YO.1, chkS_c, show steq (")" : Str) "(" = false from by kernel_rfl, show steq (")" : Str) ")" = true from by kernel_rfl]
  rfl
 have hrd : readF l (escPairs ba) [[0]] [] = some ([[0, gI ws 0]], due.map (·.1)) := by
  have hIR : Inn ov (.node K .nil) 0 := ⟨hi0, hKn, occ_inn K 0 1 o1, trivial⟩
  rw [esc_t cba fun x hx => (B1 x hx).1, read_snd, posS_snd]
  have := read_t hw hin hq hk hll (.node K .nil) false 0 0 9 [] [0] [] [] hIR (by omega) (by rw [hszR]; decide) (by rw [hszR]; decide) (by rw [hszR]; decide) (fun x hx => by cases hx)
  rw [hBr, List.append_nil, pv_node, visF_node, show decide ((0 : Int) < 9) = true from rfl] at this
  dsimp only at this
  rw [show (0 + 1 : Nat) = 1 from rfl, hpv] at this
  rw [this, ← hdue, List.map_map]
  show some (_, _) = some (_, _)
  rw [show visF (mnF wi) (vF ws) .nil false (1 + sz K) (ups false 0 9 (ndX (mnF wi) (vF ws) K 0 0 9)).1 (ups false 0 9 (ndX (mnF wi) (vF ws) K 0 0 9)).2 = [] from rfl, List.append_nil, List.nil_append]
  rfl
 refine run317 ns dr ov ws ld wd wi l due rc tx ba hn hdr hov hld hwd h1 h2 h3 h4 h5 hw hl hk hll ?_ ?_ he edue hdk hdl ?_ es ?_ htx hba gd1 gd2 ck1 xd2 ck2 yd2 ck3 ?_ xd5 ?_ hrd k
 ·rw [List.all_eq_true]
  intro i hi
  have hi := List.mem_range.mp hi
  obtain ⟨u, u1, u2, _⟩ := t.up (i + 1) (by omega) (by omega)
  apply decide_eq_true
  rw [show ((i : Int) + 1) = ((i + 1 : Nat) : Int) from by omega, u1]
  omega
 ·intro j j0 j1
  have := (bd_shift t h10 hw (ws := ws) 100 j.toNat 0 9 (by omega) (by omega) (Int.le_refl 0) (Int.le_refl 9)).2
  rw [Int.toNat_of_nonneg j0] at this
  exact this
 ·intro j j0 j1
  have a := t.le j.toNat (by omega)
  have b := t.rng j.toNat (by omega)
  rw [Int.toNat_of_nonneg j0] at a b
  exact ⟨(gI dp j).toNat, by omega, a⟩
 ·rw [sumLen_fl, hfl]
  have := fl_len hGo
  omega
 ·rw [← hba]; exact gd3
 ·rw [← hba, gd3, gd4]; rfl
end Mine.Q
end
section
namespace Mine
open PySem PySem.Calls
class Hsh where
 hsh : Str → Int
variable [Hsh]
abbrev Gh := Addr → Option Obj
def tupO (vs : List Value) (n : Nat) : Obj := { cls := .type "tuple", data := .seq vs.toArray n }
def lstO (vs : List Value) (n : Nat) : Obj := { cls := .type "list", data := .seq vs.toArray n }
def insO (C d : Addr) : Obj := { cls := .ref C, dict := some d, data := .plain }
def dicO (es : List DictEntry) (n : Nat) : Obj := { cls := .type "dict", data := .dict es.toArray n }
def celO (v : Option Value) : Obj := { cls := .type "cell", data := .cell v }
inductive Ents (P : Str → Value → Prop) : List Str → List DictEntry → Prop
 | nil : Ents P [] []
 | cons {x : Str} {xs : List Str} {hs : Int} {t : Tok} {v : Value} {es : List DictEntry} : P x v → Ents P xs es → Ents P (x :: xs) (⟨hs, .str x t, v⟩ :: es)
theorem Ents.imp {P Q : Str → Value → Prop} (pq : ∀ x v, P x v → Q x v) {xs : List Str} {es : List DictEntry} (r : Ents P xs es) : Ents Q xs es := by
 induction r with
 | nil => exact .nil
 | cons p _ ih => exact .cons (pq _ _ p) ih
def wsNames : List Str := ["raw", "n", "nt", "norm", "is_simple"]
mutual
def RF (Z : Gh) : F → Value → Prop
 | .none, x => x = .none
 | .bool b, x => x = .bool b
 | .int i, x => ∃ t, x = .int i t
 | .str s, x => ∃ t, x = .str s t
 | .tup l, x => ∃ a n vs, x = .ref a ∧ Z a = some (tupO vs n) ∧ RFs Z l vs
 | .lst l, x => ∃ a n vs, x = .ref a ∧ Z a = some (lstO vs n) ∧ RFs Z l vs
 | .ws raw i nt cnt b simple, x => ∃ a d n es, x = .ref a ∧ Z a = some (insO 100 d) ∧ Z d = some (dicO es n) ∧
   Ents (fun nm v => (nm = "raw" → ∃ t, v = .str raw t) ∧ (nm = "n" → ∃ t, v = .int i t) ∧ (nm = "nt" → ∃ t, v = .int nt t) ∧
    (nm = "norm" → ∃ a n u k m vs t, v = .ref a ∧ Z a = some (tupO [u, .int b k] n) ∧ u = .ref t ∧ Z t = some (tupO vs m) ∧ RIs cnt vs) ∧ (nm = "is_simple" → v = .bool simple)) wsNames es
def RFs (Z : Gh) : List F → List Value → Prop
 | [], vs => vs = []
 | x :: r, vs => ∃ v r', vs = v :: r' ∧ RF Z x v ∧ RFs Z r r'
def RIs : List Int → List Value → Prop
 | [], vs => vs = []
 | i :: r, vs => ∃ t r', vs = .int i t :: r' ∧ RIs r r'
end
inductive REs (Z : Gh) : List (Str × F) → List DictEntry → Prop
 | nil : REs Z [] []
 | cons {x : Str} {f : F} {l : List (Str × F)} {hs : Int} {t : Tok} {v : Value} {es : List DictEntry} : RF Z f v → REs Z l es → REs Z ((x, f) :: l) (⟨hs, .str x t, v⟩ :: es)
inductive RKw (Z : Gh) : List (Str × F) → List DictEntry → Prop
 | nil : RKw Z [] []
 | cons {x : Str} {f : F} {l : List (Str × F)} {t : Tok} {v : Value} {es : List DictEntry} : RF Z f v → RKw Z l es → RKw Z ((x, f) :: l) (⟨Hsh.hsh x, .str x t, v⟩ :: es)
def RLs (ρ : List Addr) : List Nat → List Value → Prop
 | [], vs => vs = []
 | i :: r, vs => ∃ a r', vs = .ref a :: r' ∧ ρ[i]? = some a ∧ RLs ρ r r'
mutual
def RV (Z : Gh) (ρ : List Addr) : V → Value → Prop
 | .f x, v => RF Z x v
 | .raw u, v => v = u
 | .loc i, v => ∃ a, v = .ref a ∧ ρ[i]? = some a
 | .obj i, v => ∃ a d, v = .ref a ∧ Z a = some (insO 100 d) ∧ ρ[i]? = some d
 | .hdr i, v => ∃ a d l hs t n, v = .ref a ∧ Z a = some (insO 279 d) ∧ Z d = some (dicO [⟨hs, .str "_headers" t, .ref l⟩] n) ∧ ρ[i]? = some l
 | .kw l, v => ∃ a n es, v = .ref a ∧ (a == sysModules) = false ∧ Z a = some (dicO es n) ∧ RKw Z l es
 | .tupV l, v => ∃ a n vs, v = .ref a ∧ Z a = some (tupO vs n) ∧ RVs Z ρ l vs
def RVs (Z : Gh) (ρ : List Addr) : List V → List Value → Prop
 | [], vs => vs = []
 | x :: r, vs => ∃ v r', vs = v :: r' ∧ RV Z ρ x v ∧ RVs Z ρ r r'
end
def RO (Z : Gh) (ρ : List Addr) (h : Heap) : O → Addr → Prop
 | .list l, a => ∃ n vs, h.get? a = some (lstO vs n) ∧ RFs Z l vs
 | .locs l, a => ∃ n vs, h.get? a = some (lstO vs n) ∧ RLs ρ l vs
 | .attrs l, a => ∃ n es, h.get? a = some (dicO es n) ∧ REs Z l es
structure Bg where
 os : OsState
 gb : Nat → Option GenState
structure RelH (h₀ : Heap) (os₀ : Bg) (Z : Gh) (ρ : List Addr) (H : H) (h : Heap) (g : Array GenState) (os : OsState) : Prop where
 fz : ∀ a o, Z a = some o → h.get? a = some o
 base : ∀ a o, h₀.get? a = some o → Z a = some o
 nd : ρ.Nodup
 out : ∀ a ∈ ρ, Z a = none
 len : ρ.length = H.length
 objs : ∀ (i : Nat) (o : O), H[i]? = some o → ∃ a, ρ[i]? = some a ∧ RO Z ρ h o a
 os : os = os₀.os ∧ ∀ i x, os₀.gb i = some x → g[i]? = some x
 gens : AllBare g
abbrev Rel (h₀ : Heap) (os₀ : Bg) (Z : Gh) (ρ : List Addr) (H : H) (s : Shared) : Prop := RelH h₀ os₀ Z ρ H s.heap s.gens s.os
structure StpH (X : Addr → Prop) (Z : Gh) (ρ : List Addr) (h : Heap) (Z' : Gh) (ρ' : List Addr) (h' : Heap) : Prop where
 zz : ∀ a o, Z a = some o → Z' a = some o
 rr : ∃ t, ρ' = ρ ++ t
 rest : ∀ a o, h.get? a = some o → Z a = none → a ∉ ρ → ¬ X a → h'.get? a = some o ∧ Z' a = none ∧ a ∉ ρ'
 keepX : ∀ a, X a → (∃ o, h.get? a = some o) → Z a = none → a ∉ ρ → (∃ o, h'.get? a = some o) ∧ Z' a = none ∧ a ∉ ρ'
abbrev Stp (X : Addr → Prop) (Z : Gh) (ρ : List Addr) (s : Shared) (Z' : Gh) (ρ' : List Addr) (s' : Shared) : Prop := StpH X Z ρ s.heap Z' ρ' s'.heap
abbrev no : Addr → Prop := fun _ => False
section mono
variable {Z Z' : Gh} (hz : ∀ a o, Z a = some o → Z' a = some o)
include hz
mutual
theorem RF.mono : ∀ {f : F} {v : Value}, RF Z f v → RF Z' f v
 | .none, _, h => h
 | .bool _, _, h => h
 | .int _, _, h => h
 | .str _, _, h => h
 | .tup l, _, h => by
  unfold RF at h ⊢
  obtain ⟨a, n, vs, e, ha, r⟩ := h
  exact ⟨a, n, vs, e, hz _ _ ha, RFs.mono r⟩
 | .lst l, _, h => by
  unfold RF at h ⊢
  obtain ⟨a, n, vs, e, ha, r⟩ := h
  exact ⟨a, n, vs, e, hz _ _ ha, RFs.mono r⟩
 | .ws .., _, h => by
  unfold RF at h ⊢
  obtain ⟨a, d, n, es, e, ha, hd, r⟩ := h
  refine ⟨a, d, n, es, e, hz _ _ ha, hz _ _ hd, r.imp fun nm v p => ⟨p.1, p.2.1, p.2.2.1, fun q => ?_, p.2.2.2.2⟩⟩
  obtain ⟨a, n, u, k, m, vs, t, e1, e2, e3, e4, e5⟩ := p.2.2.2.1 q
  exact ⟨a, n, u, k, m, vs, t, e1, hz _ _ e2, e3, hz _ _ e4, e5⟩
theorem RFs.mono : ∀ {l : List F} {vs : List Value}, RFs Z l vs → RFs Z' l vs
 | [], _, h => h
 | x :: r, _, h => by
  unfold RFs at h ⊢
  obtain ⟨v, r', e, a, b⟩ := h
  exact ⟨v, r', e, RF.mono a, RFs.mono b⟩
end
theorem REs.mono {l : List (Str × F)} {es : List DictEntry} (h : REs Z l es) : REs Z' l es := by
 induction h with
 | nil => exact .nil
 | cons a _ ih => exact .cons (RF.mono hz a) ih
theorem RKw.mono {l : List (Str × F)} {es : List DictEntry} (h : RKw Z l es) : RKw Z' l es := by
 induction h with
 | nil => exact .nil
 | cons a _ ih => exact .cons (RF.mono hz a) ih
theorem RLs.mono {ρ ρ' : List Addr} (hr : ∃ t, ρ' = ρ ++ t) : ∀ {l : List Nat} {vs : List Value}, RLs ρ l vs → RLs ρ' l vs
 | [], _, h => h
 | i :: r, _, h => by
  obtain ⟨t, rfl⟩ := hr
  obtain ⟨a, r', e, ha, b⟩ := h
  exact ⟨a, r', e, (by rw [List.getElem?_append_left (List.getElem?_eq_some_iff.mp ha).1]; exact ha), RLs.mono ⟨t, rfl⟩ b⟩
mutual
theorem RV.mono {ρ ρ' : List Addr} (hr : ∃ t, ρ' = ρ ++ t) : ∀ {f : V} {v : Value}, RV Z ρ f v → RV Z' ρ' f v
 | .f x, _, h => by unfold RV at h ⊢; exact RF.mono hz h
 | .raw _, _, h => by unfold RV at h ⊢; exact h
 | .loc i, _, h => by
  unfold RV at h ⊢
  obtain ⟨t, rfl⟩ := hr
  obtain ⟨a, e, ha⟩ := h
  exact ⟨a, e, by rw [List.getElem?_append_left (List.getElem?_eq_some_iff.mp ha).1]; exact ha⟩
 | .obj i, _, h => by
  unfold RV at h ⊢
  obtain ⟨t, rfl⟩ := hr
  obtain ⟨a, d, e, h1, ha⟩ := h
  exact ⟨a, d, e, hz _ _ h1, by rw [List.getElem?_append_left (List.getElem?_eq_some_iff.mp ha).1]; exact ha⟩
 | .hdr i, _, h => by
  unfold RV at h ⊢
  obtain ⟨t, rfl⟩ := hr
  obtain ⟨a, d, l, hs, t, n, e, h1, h2, ha⟩ := h
  exact ⟨a, d, l, hs, t, n, e, hz _ _ h1, hz _ _ h2, by rw [List.getElem?_append_left (List.getElem?_eq_some_iff.mp ha).1]; exact ha⟩
 | .kw l, _, h => by
  unfold RV at h ⊢
  obtain ⟨a, n, es, e, h0, h1, h2⟩ := h
  exact ⟨a, n, es, e, h0, hz _ _ h1, RKw.mono hz h2⟩
 | .tupV l, _, h => by
  unfold RV at h ⊢
  obtain ⟨a, n, vs, e, h1, h2⟩ := h
  exact ⟨a, n, vs, e, hz _ _ h1, RVs.mono hr h2⟩
theorem RVs.mono {ρ ρ' : List Addr} (hr : ∃ t, ρ' = ρ ++ t) : ∀ {l : List V} {vs : List Value}, RVs Z ρ l vs → RVs Z' ρ' l vs
 | [], _, h => by unfold RVs at h ⊢; exact h
 | x :: r, _, h => by
  unfold RVs at h ⊢
  obtain ⟨v, r', e, a, b⟩ := h
  exact ⟨v, r', e, RV.mono hr a, RVs.mono hr b⟩
end
theorem RO.mono {ρ ρ' : List Addr} {h h' : Heap} (hr : ∃ t, ρ' = ρ ++ t) {o : O} {a : Addr} (e : h'.get? a = h.get? a) (x : RO Z ρ h o a) : RO Z' ρ' h' o a := by
 cases o with
 | list l => obtain ⟨n, vs, h1, h2⟩ := x; exact ⟨n, vs, e.trans h1, RFs.mono hz h2⟩
 | locs l => obtain ⟨n, vs, h1, h2⟩ := x; exact ⟨n, vs, e.trans h1, RLs.mono hz hr h2⟩
 | attrs l => obtain ⟨n, vs, h1, h2⟩ := x; exact ⟨n, vs, e.trans h1, REs.mono hz h2⟩
end mono
section stp
variable {X : Addr → Prop} {Z Z1 Z2 : Gh} {ρ ρ1 ρ2 : List Addr} {h h1 h2 : Heap}
theorem StpH.refl : StpH X Z ρ h Z ρ h := ⟨fun _ _ e => e, ⟨[], by simp⟩, fun _ _ e z r _ => ⟨e, z, r⟩, fun _ _ e z r => ⟨e, z, r⟩⟩
theorem StpH.trans (a : StpH X Z ρ h Z1 ρ1 h1) (b : StpH X Z1 ρ1 h1 Z2 ρ2 h2) : StpH X Z ρ h Z2 ρ2 h2 := by
 refine ⟨fun x o e => b.zz _ _ (a.zz _ _ e), ?_, fun x o e z r n => ?_, fun x hx l z r => ?_⟩
 ·obtain ⟨t, rfl⟩ := a.rr
  obtain ⟨t', rfl⟩ := b.rr
  exact ⟨t ++ t', by simp⟩
 ·obtain ⟨e1, z1, r1⟩ := a.rest x o e z r n
  exact b.rest x o e1 z1 r1 n
 ·obtain ⟨l1, z1, r1⟩ := a.keepX x hx l z r
  exact b.keepX x hx l1 z1 r1
theorem StpH.widen {Y : Addr → Prop} (a : StpH no Z ρ h Z1 ρ1 h1) : StpH Y Z ρ h Z1 ρ1 h1 :=
 ⟨a.zz, a.rr, fun x o e z r _ => a.rest x o e z r (fun q => q), fun x _ ⟨o, e⟩ z r => by
  have q := a.rest x o e z r (fun q => q)
  exact ⟨⟨o, q.1⟩, q.2⟩⟩
theorem StpH.kept (hk : ∀ b o, h.get? b = some o → h1.get? b = some o) : StpH X Z ρ h Z ρ h1 :=
 ⟨fun _ _ e => e, ⟨[], by simp⟩, fun _ _ e z r _ => ⟨hk _ _ e, z, r⟩, fun _ _ ⟨o, e⟩ z r => ⟨⟨o, hk _ _ e⟩, z, r⟩⟩
end stp
end Mine
end
section
namespace Mine
open PySem PySem.Calls
variable [Hsh]
theorem steqL_iff : ∀ a b : List Nat, steqL a b = true ↔ a = b
 | [], [] => by simp [steqL]
 | [], _ :: _ => by simp [steqL]
 | _ :: _, [] => by simp [steqL]
 | a :: r, b :: s => by
  unfold steqL
  cases e : Nat.beq a b with
  | true => simp [steqL_iff r s, Nat.eq_of_beq_eq_true e]
  | false => simp [Nat.ne_of_beq_eq_false e]
theorem steq_iff (a b : Str) : steq a b = true ↔ a = b := by
 unfold steq
 rw [steqL_iff]
 constructor
 ·intro h
  cases a; cases b
  exact congrArg Str.mk (Array.ext' h)
 ·intro h; rw [h]
theorem steq_self (a : Str) : steq a a = true := (steq_iff a a).mpr rfl
theorem steq_ne {a b : Str} (h : a ≠ b) : steq a b = false := by
 cases e : steq a b with
 | false => rfl
 | true => exact absurd ((steq_iff a b).mp e) h
theorem steq_eq (a b : Str) : steq a b = decide (a = b) := by
 by_cases h : a = b
 ·subst h; simp [steq_self]
 ·simp [steq_ne h, h]
theorem lget_cons {α : Type} (y : Str) (v : α) (r : List (Str × α)) (x : Str) : lget ((y, v) :: r) x = if y = x then some v else lget r x := by
 show (match steq y x with | true => some v | false => lget r x) = _
 rw [steq_eq]
 by_cases h : y = x <;> simp [h]
theorem lget_lookup {α : Type} : ∀ (l : List (Str × α)) (x : Str), lget l x = l.lookup x
 | [], _ => rfl
 | (y, v) :: r, x => by
  rw [lget_cons, List.lookup_cons, lget_lookup r x]
  by_cases h : y = x
  ·subst h; simp
  ·have : (x == y) = false := by simp [Ne.symm h]
   simp [h, this]
theorem lget_lset {α : Type} : ∀ (l : List (Str × α)) (x : Str) (v : α) (y : Str), lget (lset l x v) y = if x = y then some v else lget l y
 | [], x, v, y => by show lget [(x, v)] y = _; rw [lget_cons]
 | (z, u) :: r, x, v, y => by
  unfold lset
  rw [steq_eq]
  by_cases h : z = x
  ·subst h
   simp only [decide_true]
   rw [lget_cons, lget_cons]
   by_cases q : z = y <;> simp [q]
  ·simp only [decide_eq_false h]
   rw [lget_cons, lget_cons, lget_lset r x v y]
   by_cases q : z = y
   ·subst q; simp [Ne.symm h]
   ·simp [q]
theorem kindS_eq (env : Env) (x : Str) : kindS env.scope x = env.kindOf x := lget_lookup _ _
structure FrR (env : Env) (sc : Scope) (lc : Lc) (Z : Gh) (ρ : List Addr) (h : Heap) : Prop where
 esc : env.scope = sc
 kind : sc.kind = .function
 glob : env.globals = mainGlobals
 bins : env.builtins = builtinsNs
 loc : ∃ m, h.Ns env.locals m ∧ ∀ x v, kindS sc x = some .local → lget lc x = some v → ∃ y, m x = some y ∧ RV Z ρ v y
 cel : ∀ x, kindS sc x = some .cell → ∃ c y, env.cells.lookup x = some c ∧ h.IsCell c y ∧ ∀ v, lget lc x = some v → ∃ z, y = some z ∧ RV Z ρ v z
 inj : ∀ x x' c, env.cells.lookup x = some c → env.cells.lookup x' = some c → x = x'
 ownL : Z env.locals = none ∧ env.locals ∉ ρ
 ownC : ∀ x c, env.cells.lookup x = some c → Z c = none ∧ c ∉ ρ ∧ c ≠ env.locals ∧ ∃ y, h.IsCell c y
def own (env : Env) : Addr → Prop := fun a => a = env.locals ∨ ∃ x, env.cells.lookup x = some a
def put (Z : Gh) (a : Addr) (o : Obj) : Gh := fun b => if b = a then some o else Z b
section
variable {h₀ : Heap} {os₀ : Bg} {Z : Gh} {ρ : List Addr} {hh : H} {h h' : Heap} {g : Array GenState} {os : OsState} {env : Env} {sc : Scope} {lc : Lc}
theorem RelH.lt (R : RelH h₀ os₀ Z ρ hh h g os) {a : Addr} (ha : a ∈ ρ) : a < h.objs.size := by
 obtain ⟨i, hi, e⟩ := List.getElem_of_mem ha
 have hl : i < hh.length := R.len ▸ hi
 obtain ⟨a', e1, e2⟩ := R.objs i _ (List.getElem?_eq_getElem hl)
 have : a' = a := by
  have := List.getElem?_eq_some_iff.mp e1
  obtain ⟨_, q⟩ := this
  rw [← q, e]
 subst this
 cases hO : hh[i] with
 | list l => rw [hO] at e2; obtain ⟨n, vs, q, _⟩ := e2; exact Heap.lt_size q
 | locs l => rw [hO] at e2; obtain ⟨n, vs, q, _⟩ := e2; exact Heap.lt_size q
 | attrs l => rw [hO] at e2; obtain ⟨n, vs, q, _⟩ := e2; exact Heap.lt_size q
theorem RelH.freshZ (R : RelH h₀ os₀ Z ρ hh h g os) {a : Addr} (ha : h.objs.size ≤ a) : Z a = none := by
 cases e : Z a with
 | none => rfl
 | some o => exact absurd (Heap.lt_size (R.fz _ _ e)) (Nat.not_lt.mpr ha)
theorem RelH.freshR (R : RelH h₀ os₀ Z ρ hh h g os) {a : Addr} (ha : h.objs.size ≤ a) : a ∉ ρ := fun q => absurd (R.lt q) (Nat.not_lt.mpr ha)
theorem RelH.agree (R : RelH h₀ os₀ Z ρ hh h g os) (e : ∀ a, (Z a ≠ none ∨ a ∈ ρ) → h'.get? a = h.get? a) : RelH h₀ os₀ Z ρ hh h' g os := by
 refine ⟨fun a o q => (e a (.inl (by rw [q]; nofun))).trans (R.fz _ _ q), R.base, R.nd, R.out, R.len, fun i o q => ?_, R.os, R.gens⟩
 obtain ⟨a, e1, e2⟩ := R.objs i o q
 exact ⟨a, e1, RO.mono (fun _ _ z => z) ⟨[], by simp⟩ (e a (.inr (List.mem_of_getElem? e1))) e2⟩
theorem RelH.gens' {os₁ : Bg} (R : RelH h₀ os₀ Z ρ hh h g os) {g' : Array GenState} (e : os₁.os = os₀.os) (hk : ∀ i x, os₁.gb i = some x → g'[i]? = some x) (hg : AllBare g') : RelH h₀ os₁ Z ρ hh h g' os := ⟨R.fz, R.base, R.nd, R.out, R.len, R.objs, ⟨R.os.1.trans e.symm, hk⟩, hg⟩
theorem put_self (Z : Gh) (a : Addr) (o : Obj) : put Z a o a = some o := if_pos rfl
theorem put_ne (Z : Gh) {a b : Addr} (o : Obj) (n : b ≠ a) : put Z a o b = Z b := if_neg n
theorem put_zz {Z : Gh} {a : Addr} (hz : Z a = none) (o : Obj) : ∀ b p, Z b = some p → put Z a o b = some p := fun b p e => by
 by_cases q : b = a
 ·subst q; rw [hz] at e; cases e
 ·rw [put_ne _ _ q]; exact e
theorem RelH.push (R : RelH h₀ os₀ Z ρ hh h g os) {o : Obj} (ho : o.isFreed = false) :
  RelH h₀ os₀ (put Z h.objs.size o) ρ hh (h.push o) g os ∧ StpH no Z ρ h (put Z h.objs.size o) ρ (h.push o) := by
 have z0 := R.freshZ (Nat.le_refl _)
 have r0 := R.freshR (Nat.le_refl _)
 refine ⟨⟨fun a p e => ?_, fun a p e => put_zz z0 o _ _ (R.base _ _ e), R.nd, fun a ha => ?_, R.len, fun i p e => ?_, R.os, R.gens⟩, ⟨put_zz z0 o, ⟨[], by simp⟩, fun a p e z r _ => ?_, fun a x => x.elim⟩⟩
 ·by_cases q : a = h.objs.size
  ·subst q; rw [put_self] at e; cases e; exact Heap.get?_push_size _ ho
  ·rw [put_ne _ _ q] at e; exact Heap.get?_push_of_some _ (R.fz _ _ e)
 ·rw [put_ne _ _ (Nat.ne_of_lt (R.lt ha))]; exact R.out a ha
 ·obtain ⟨a, e1, e2⟩ := R.objs i p e
  refine ⟨a, e1, RO.mono (put_zz z0 o) ⟨[], by simp⟩ ?_ e2⟩
  cases p with
  | list l => obtain ⟨n, vs, q, _⟩ := e2; rw [q]; exact Heap.get?_push_of_some _ q
  | locs l => obtain ⟨n, vs, q, _⟩ := e2; rw [q]; exact Heap.get?_push_of_some _ q
  | attrs l => obtain ⟨n, vs, q, _⟩ := e2; rw [q]; exact Heap.get?_push_of_some _ q
 ·exact ⟨Heap.get?_push_of_some _ e, by rw [put_ne _ _ (Nat.ne_of_lt (Heap.lt_size e))]; exact z, r⟩
theorem RelH.pushLoc (R : RelH h₀ os₀ Z ρ hh h g os) {o : Obj} {p : O} (ho : o.isFreed = false) (hp : RO Z (ρ ++ [h.objs.size]) (h.push o) p h.objs.size) :
  RelH h₀ os₀ Z (ρ ++ [h.objs.size]) (hh ++ [p]) (h.push o) g os ∧ StpH no Z ρ h Z (ρ ++ [h.objs.size]) (h.push o) := by
 have z0 := R.freshZ (Nat.le_refl _)
 have r0 := R.freshR (Nat.le_refl _)
 refine ⟨⟨fun a p e => Heap.get?_push_of_some _ (R.fz _ _ e), R.base, ?_, ?_, by simp [R.len], ?_, R.os, R.gens⟩, ⟨fun _ _ e => e, ⟨_, rfl⟩, fun a q e z r _ => ⟨Heap.get?_push_of_some _ e, z, ?_⟩, fun a x => x.elim⟩⟩
 ·exact List.nodup_append.mpr ⟨R.nd, by simp, fun a ha b hb => by simp at hb; subst hb; exact fun q => r0 (q ▸ ha)⟩
 ·intro a ha
  rcases List.mem_append.mp ha with q | q
  ·exact R.out a q
  ·simp at q; subst q; exact z0
 ·intro i q e
  by_cases hi : i < hh.length
  ·rw [List.getElem?_append_left hi] at e
   obtain ⟨a, e1, e2⟩ := R.objs i q e
   refine ⟨a, by rw [List.getElem?_append_left (R.len ▸ hi)]; exact e1, RO.mono (fun _ _ z => z) ⟨_, rfl⟩ ?_ e2⟩
   cases q with
   | list l => obtain ⟨n, vs, x, _⟩ := e2; rw [x]; exact Heap.get?_push_of_some _ x
   | locs l => obtain ⟨n, vs, x, _⟩ := e2; rw [x]; exact Heap.get?_push_of_some _ x
   | attrs l => obtain ⟨n, vs, x, _⟩ := e2; rw [x]; exact Heap.get?_push_of_some _ x
  ·have hi' : i = hh.length := by
    have := (List.getElem?_eq_some_iff.mp e).1
    simp at this; omega
   subst hi'
   rw [List.getElem?_append_right (Nat.le_refl _), Nat.sub_self] at e
   simp only [List.getElem?_cons_zero, Option.some.injEq] at e
   subst e
   refine ⟨h.objs.size, ?_, hp⟩
   rw [List.getElem?_append_right (by rw [R.len]; exact Nat.le_refl _), R.len, Nat.sub_self]; rfl
 ·intro q'
  rcases List.mem_append.mp q' with x | x
  ·exact r x
  ·simp at x; subst x; exact absurd (Heap.lt_size e) (Nat.lt_irrefl _)
theorem RelH.set (R : RelH h₀ os₀ Z ρ hh h g os) {i : Nat} {a : Addr} {p : O} (ha : ρ[i]? = some a) (hs : Heap.SameBut a h h') (hp : RO Z ρ h' p a) :
  RelH h₀ os₀ Z ρ (hh.set i p) h' g os ∧ StpH no Z ρ h Z ρ h' := by
 have am := List.mem_of_getElem? ha
 refine ⟨⟨fun b q e => (hs.2 b ?_).trans (R.fz _ _ e), R.base, R.nd, R.out, by simp [R.len], fun j q e => ?_, R.os, R.gens⟩, ⟨fun _ _ e => e, ⟨[], by simp⟩, fun b q e z r _ => ⟨(hs.2 b fun x => r (x ▸ am)).trans e, z, r⟩, fun _ x => x.elim⟩⟩
 ·intro x; rw [x, R.out a am] at e; cases e
 ·by_cases hj : i = j
  ·subst hj
   have hl : i < hh.length := by
    have := (List.getElem?_eq_some_iff.mp ha).1
    rw [← R.len]; exact this
   rw [List.getElem?_set_self hl] at e
   cases e
   exact ⟨a, ha, hp⟩
  ·rw [List.getElem?_set_ne hj] at e
   obtain ⟨b, e1, e2⟩ := R.objs j q e
   refine ⟨b, e1, RO.mono (fun _ _ z => z) ⟨[], by simp⟩ (hs.2 b fun x => ?_) e2⟩
   subst x
   have h1 := List.getElem?_eq_some_iff.mp ha
   have h2 := List.getElem?_eq_some_iff.mp e1
   obtain ⟨l1, q1⟩ := h1
   obtain ⟨l2, q2⟩ := h2
   have P := List.pairwise_iff_getElem.mp R.nd
   rcases Nat.lt_or_gt_of_ne hj with q | q
   ·exact P i j l1 l2 q (q1.trans q2.symm)
   ·exact P j i l2 l1 q (q2.trans q1.symm)
theorem FrR.step {Z' : Gh} {ρ' : List Addr} (F : FrR env sc lc Z ρ h) (S : StpH no Z ρ h Z' ρ' h') : FrR env sc lc Z' ρ' h' := by
 obtain ⟨m, hn, hm⟩ := F.loc
 obtain ⟨o, es, ep, ho, r⟩ := hn
 have q := S.rest _ _ ho F.ownL.1 F.ownL.2 (fun x => x)
 refine ⟨F.esc, F.kind, F.glob, F.bins, ⟨m, ⟨o, es, ep, q.1, r⟩, fun x v hk hl => ?_⟩, fun x hk => ?_, F.inj, q.2, fun x c e => ?_⟩
 ·obtain ⟨y, e, rv⟩ := hm x v hk hl
  exact ⟨y, e, rv.mono S.zz S.rr⟩
 ·obtain ⟨c, y, e1, e2, e3⟩ := F.cel x hk
  have oc := F.ownC x c e1
  obtain ⟨oo, e2, e2'⟩ := e2
  refine ⟨c, y, e1, ⟨oo, (S.rest _ _ e2 oc.1 oc.2.1 (fun x => x)).1, e2'⟩, fun v hv => ?_⟩
  obtain ⟨z, ez, rv⟩ := e3 v hv
  exact ⟨z, ez, rv.mono S.zz S.rr⟩
 ·have oc := F.ownC x c e
  obtain ⟨y, oo, hy, hy'⟩ := oc.2.2.2
  have q := S.rest _ _ hy oc.1 oc.2.1 (fun x => x)
  exact ⟨q.2.1, q.2.2, oc.2.2.1, y, oo, q.1, hy'⟩
theorem RelH.frame (R : RelH h₀ os₀ Z ρ hh h g os) {a : Addr} (z : Z a = none) (r : a ∉ ρ) (hs : Heap.SameBut a h h') : RelH h₀ os₀ Z ρ hh h' g os :=
 R.agree fun b hb => hs.2 b fun e => by
  subst e
  rcases hb with q | q
  ·exact q z
  ·exact r q
theorem StpH.frame {X : Addr → Prop} {a : Addr} (x : X a) (hs : Heap.SameBut a h h') (ex : ∃ o, h'.get? a = some o) : StpH X Z ρ h Z ρ h' :=
 ⟨fun _ _ e => e, ⟨[], by simp⟩, fun b o e z r n => ⟨(hs.2 b fun q => n (q ▸ x)).trans e, z, r⟩, fun b _ ⟨o, e⟩ z r => ⟨by
  by_cases q : b = a
  ·subst q; exact ex
  ·exact ⟨o, (hs.2 b q).trans e⟩, z, r⟩⟩
theorem RelH.kept (R : RelH h₀ os₀ Z ρ hh h g os) (hk : ∀ b o, h.get? b = some o → h'.get? b = some o) : RelH h₀ os₀ Z ρ hh h' g os := by
 refine R.agree fun a ha => ?_
 have : ∃ o, h.get? a = some o := by
  rcases ha with q | q
  ·cases e : Z a with
   | none => exact absurd e q
   | some o => exact ⟨o, R.fz _ _ e⟩
  ·obtain ⟨i, hi, e⟩ := List.getElem_of_mem q
   have hl : i < hh.length := R.len ▸ hi
   obtain ⟨a', e1, e2⟩ := R.objs i _ (List.getElem?_eq_getElem hl)
   have : a' = a := by
    obtain ⟨_, q⟩ := List.getElem?_eq_some_iff.mp e1
    rw [← q, e]
   subst this
   cases hO : hh[i] with
   | list l => rw [hO] at e2; obtain ⟨n, vs, q, _⟩ := e2; exact ⟨_, q⟩
   | locs l => rw [hO] at e2; obtain ⟨n, vs, q, _⟩ := e2; exact ⟨_, q⟩
   | attrs l => rw [hO] at e2; obtain ⟨n, vs, q, _⟩ := e2; exact ⟨_, q⟩
 obtain ⟨o, e⟩ := this
 rw [e, hk _ _ e]
end
section
variable {prog : Program} {w : World} {A : Around} {E : Value → Shared → Prop} {s : Shared} {h₀ : Heap} {os₀ : Bg} {Z : Gh} {ρ : List Addr} {hh : H} {env : Env} {sc : Scope} {lc : Lc}
theorem isLocal_cases {x : Str} (h : isLocal sc x = true) : kindS sc x = some .local ∨ kindS sc x = some .cell := by
 unfold isLocal at h
 split at h <;> simp_all
theorem frame_store {x : Str} {v : V} {y : Value} {Q : Unit → Shared → Prop} (R : Rel h₀ os₀ Z ρ hh s) (F : FrR env sc lc Z ρ s.heap) (hx : isLocal sc x = true) (hv : RV Z ρ v y)
  (h : ∀ s', Rel h₀ os₀ Z ρ hh s' → FrR env sc (lset lc x v) Z ρ s'.heap → Stp (own env) Z ρ s Z ρ s' → Q () s') : wpAny (model prog w) A (storeName env x y) Q E s := by
 obtain ⟨m, hn, hm⟩ := F.loc
 have hk : env.scope.kind = .function := by rw [F.esc]; exact F.kind
 rcases isLocal_cases hx with k | k
 ·refine wpAny_storeName_local (m := m) (by rw [← kindS_eq, F.esc]; exact k) hn (fun h' hn' hs => ?_) (by rw [hk]; rfl)
  refine h _ (R.frame F.ownL.1 F.ownL.2 hs) ?_ (StpH.frame (.inl rfl) hs (by obtain ⟨o, _, _, ho, _⟩ := hn'; exact ⟨o, ho⟩))
  refine ⟨F.esc, F.kind, F.glob, F.bins, ⟨_, hn', fun z u hz hl => ?_⟩, fun z hz => ?_, F.inj, F.ownL, fun z c e => ?_⟩
  ·rw [lget_lset] at hl
   by_cases q : x = z
   ·subst q
    simp at hl
    subst hl
    exact ⟨y, by simp, hv⟩
   ·rw [if_neg q] at hl
    obtain ⟨y', e1, e2⟩ := hm z u hz hl
    exact ⟨y', by simp [Ne.symm q, e1], e2⟩
  ·obtain ⟨c, y', e1, ⟨oo, e2, e2'⟩, e3⟩ := F.cel z hz
   refine ⟨c, y', e1, ⟨oo, (hs.2 c (F.ownC _ _ e1).2.2.1).trans e2, e2'⟩, fun u hu => ?_⟩
   rw [lget_lset] at hu
   have q : x ≠ z := fun q => by subst q; rw [k] at hz; cases hz
   rw [if_neg q] at hu
   exact e3 u hu
  ·have oc := F.ownC z c e
   obtain ⟨y, oo, hy, hy'⟩ := oc.2.2.2
   exact ⟨oc.1, oc.2.1, oc.2.2.1, y, oo, (hs.2 c oc.2.2.1).trans hy, hy'⟩
 ·obtain ⟨c, y', e1, e2, e3⟩ := F.cel x k
  have oc := F.ownC x c e1
  refine wpAny_storeName_cell hk (by rw [← kindS_eq, F.esc]; exact k) e1 e2 (fun h' hc' hs => ?_)
  refine h _ (R.frame oc.1 oc.2.1 hs) ?_ (StpH.frame (.inr ⟨x, e1⟩) hs (by obtain ⟨o, ho, _⟩ := hc'; exact ⟨o, ho⟩))
  obtain ⟨o, es, ep, ho, r⟩ := hn
  refine ⟨F.esc, F.kind, F.glob, F.bins, ⟨m, ⟨o, es, ep, (hs.2 _ (Ne.symm oc.2.2.1)).trans ho, r⟩, fun z u hz hl => ?_⟩, fun z hz => ?_, F.inj, F.ownL, fun z d e => ?_⟩
  ·rw [lget_lset] at hl
   have q : x ≠ z := fun q => by subst q; rw [k] at hz; cases hz
   rw [if_neg q] at hl
   exact hm z u hz hl
  ·by_cases q : x = z
   ·subst q
    refine ⟨c, some y, e1, hc', fun u hu => ?_⟩
    rw [lget_lset] at hu
    simp at hu
    subst hu
    exact ⟨y, rfl, hv⟩
   ·obtain ⟨d, y2, f1, ⟨oo, f2, f2'⟩, f3⟩ := F.cel z hz
    have dc : d ≠ c := fun q' => q (F.inj _ _ _ e1 (q' ▸ f1))
    refine ⟨d, y2, f1, ⟨oo, (hs.2 d dc).trans f2, f2'⟩, fun u hu => ?_⟩
    rw [lget_lset, if_neg q] at hu
    exact f3 u hu
  ·have od := F.ownC z d e
   refine ⟨od.1, od.2.1, od.2.2.1, ?_⟩
   by_cases q : d = c
   ·subst q; exact ⟨_, hc'⟩
   ·obtain ⟨y2, oo, hy, hy'⟩ := od.2.2.2
    exact ⟨y2, oo, (hs.2 d q).trans hy, hy'⟩
theorem frame_load {x : Str} {v : V} {Q : Value → Shared → Prop} (F : FrR env sc lc Z ρ s.heap) (hx : isLocal sc x = true) (hl : lget lc x = some v)
  (h : ∀ y, RV Z ρ v y → Q y s) : wpAny (model prog w) A (loadName env x) Q E s := by
 have hk : env.scope.kind = .function := by rw [F.esc]; exact F.kind
 rcases isLocal_cases hx with k | k
 ·obtain ⟨m, hn, hm⟩ := F.loc
  obtain ⟨y, e, rv⟩ := hm x v k hl
  exact wpAny_loadName_local hk (by rw [← kindS_eq, F.esc]; exact k) hn e (h y rv)
 ·obtain ⟨c, y, e1, e2, e3⟩ := F.cel x k
  obtain ⟨z, rfl, rv⟩ := e3 v hl
  exact wpAny_loadName_cell hk (by rw [← kindS_eq, F.esc]; exact k) e1 e2 (h z rv)
end
end Mine
end
section
set_option maxRecDepth 4000
namespace Mine
open PySem PySem.Calls
variable [Hsh]
structure OkA (n : Nat) (A : Around) : Prop where
 dep : A.depth + 3 * n + 10 ≤ 1000
 uni : A.units + 30 * n + 500 ≤ 9900
 hand : A.handled = none
theorem guardB_some {β : Type} {b : Bool} {x : Option β} {r : β} (h : guardB b x = some r) : b = true ∧ x = some r := by
 cases b with
 | true => exact ⟨rfl, h⟩
 | false => cases h
theorem obind_some {α β : Type} {o : Option α} {k : α → Option β} {r : β} (h : obind o k = some r) : ∃ a, o = some a ∧ k a = some r := by
 cases o with
 | none => cases h
 | some a => exact ⟨a, rfl, h⟩
theorem asInt_some {β : Type} {v : V} {k : Int → Option β} {r : β} (h : asInt v k = some r) : ∃ i, v = .f (.int i) ∧ k i = some r := by
 unfold asInt at h
 split at h
 ·exact ⟨_, rfl, h⟩
 ·cases h
theorem asStr_some {β : Type} {v : V} {k : Str → Option β} {r : β} (h : asStr v k = some r) : ∃ i, v = .f (.str i) ∧ k i = some r := by
 unfold asStr at h
 split at h
 ·exact ⟨_, rfl, h⟩
 ·cases h
theorem asF_some {β : Type} {v : V} {k : F → Option β} {r : β} (h : asF v k = some r) : ∃ i, v = .f i ∧ k i = some r := by
 unfold asF at h
 split at h
 ·exact ⟨_, rfl, h⟩
 ·cases h
theorem RV_int {Z : Gh} {ρ : List Addr} {i : Int} {y : Value} (h : RV Z ρ (.f (.int i)) y) : ∃ t, y = .int i t := by
 unfold RV RF at h; exact h
theorem RV_str {Z : Gh} {ρ : List Addr} {i : Str} {y : Value} (h : RV Z ρ (.f (.str i)) y) : ∃ t, y = .str i t := by
 unfold RV RF at h; exact h
theorem RV_bool {Z : Gh} {ρ : List Addr} {i : Bool} {y : Value} (h : RV Z ρ (.f (.bool i)) y) : y = .bool i := by
 unfold RV RF at h; exact h
theorem RV_none {Z : Gh} {ρ : List Addr} {y : Value} (h : RV Z ρ (.f .none) y) : y = .none := by
 unfold RV RF at h; exact h
theorem mkRV_int {Z : Gh} {ρ : List Addr} (i : Int) (t : Tok) : RV Z ρ (.f (.int i)) (.int i t) := by unfold RV RF; exact ⟨t, rfl⟩
theorem mkRV_str {Z : Gh} {ρ : List Addr} (i : Str) (t : Tok) : RV Z ρ (.f (.str i)) (.str i t) := by unfold RV RF; exact ⟨t, rfl⟩
theorem mkRV_bool {Z : Gh} {ρ : List Addr} (i : Bool) : RV Z ρ (.f (.bool i)) (.bool i) := by unfold RV RF; rfl
theorem mkRV_none {Z : Gh} {ρ : List Addr} : RV Z ρ (.f .none) .none := by unfold RV RF; rfl
theorem RFs.length {Z : Gh} : ∀ {l : List F} {vs : List Value}, RFs Z l vs → vs.length = l.length
 | [], vs, h => by unfold RFs at h; subst h; rfl
 | x :: r, vs, h => by
  unfold RFs at h
  obtain ⟨v, r', rfl, _, b⟩ := h
  simp [RFs.length b]
theorem RFs.append {Z : Gh} : ∀ {l m : List F} {vs ws : List Value}, RFs Z l vs → RFs Z m ws → RFs Z (l ++ m) (vs ++ ws)
 | [], m, vs, ws, h, k => by unfold RFs at h; subst h; exact k
 | x :: r, m, vs, ws, h, k => by
  unfold RFs at h
  obtain ⟨v, r', rfl, a, b⟩ := h
  show RFs Z (x :: (r ++ m)) _
  unfold RFs
  exact ⟨v, r' ++ ws, rfl, a, RFs.append b k⟩
theorem RFs.one {Z : Gh} {x : F} {v : Value} (h : RF Z x v) : RFs Z [x] [v] := by unfold RFs; exact ⟨v, [], rfl, h, by unfold RFs; rfl⟩
theorem RFs.nil {Z : Gh} : RFs Z [] [] := by unfold RFs; rfl
theorem RFs.get {Z : Gh} : ∀ {l : List F} {vs : List Value}, RFs Z l vs → ∀ {i : Nat} {x : F}, l[i]? = some x → ∃ v, vs[i]? = some v ∧ RF Z x v
 | [], _, _, _, _, e => by simp at e
 | x :: r, vs, h, 0, y, e => by
  unfold RFs at h
  obtain ⟨v, r', rfl, a, b⟩ := h
  simp at e; subst e
  exact ⟨v, rfl, a⟩
 | x :: r, vs, h, i + 1, y, e => by
  unfold RFs at h
  obtain ⟨v, r', rfl, a, b⟩ := h
  exact RFs.get b (by simpa using e)
theorem RFs.take {Z : Gh} : ∀ {l : List F} {vs : List Value} (n : Nat), RFs Z l vs → RFs Z (l.take n) (vs.take n)
 | _, _, 0, _ => by simp [RFs]
 | [], vs, n + 1, h => by unfold RFs at h; subst h; simp [RFs]
 | x :: r, vs, n + 1, h => by
  unfold RFs at h
  obtain ⟨v, r', rfl, a, b⟩ := h
  simp only [List.take_succ_cons]
  unfold RFs
  exact ⟨v, _, rfl, a, RFs.take n b⟩
theorem RFs.drop {Z : Gh} : ∀ {l : List F} {vs : List Value} (n : Nat), RFs Z l vs → RFs Z (l.drop n) (vs.drop n)
 | _, _, 0, h => h
 | [], vs, n + 1, h => by unfold RFs at h; subst h; simp [RFs]
 | x :: r, vs, n + 1, h => by
  unfold RFs at h
  obtain ⟨v, r', rfl, a, b⟩ := h
  exact RFs.drop n b
theorem RFs.reverse {Z : Gh} : ∀ {l : List F} {vs : List Value}, RFs Z l vs → RFs Z l.reverse vs.reverse
 | [], vs, h => by unfold RFs at h; subst h; simp [RFs]
 | x :: r, vs, h => by
  unfold RFs at h
  obtain ⟨v, r', rfl, a, b⟩ := h
  simp only [List.reverse_cons]
  exact RFs.append (RFs.reverse b) (RFs.one a)
theorem RFs.set {Z : Gh} : ∀ {l : List F} {vs : List Value} (i : Nat) {x : F} {v : Value}, RFs Z l vs → RF Z x v → RFs Z (l.set i x) (vs.set i v)
 | [], vs, i, x, v, h, k => by unfold RFs at h; subst h; simp [RFs]
 | y :: r, vs, 0, x, v, h, k => by
  unfold RFs at h
  obtain ⟨u, r', rfl, a, b⟩ := h
  simp only [List.set_cons_zero]
  unfold RFs
  exact ⟨v, r', rfl, k, b⟩
 | y :: r, vs, i + 1, x, v, h, k => by
  unfold RFs at h
  obtain ⟨u, r', rfl, a, b⟩ := h
  simp only [List.set_cons_succ]
  unfold RFs
  exact ⟨u, _, rfl, a, RFs.set i b k⟩
theorem RFs.replicate {Z : Gh} {x : F} {v : Value} (h : RF Z x v) : ∀ n, RFs Z (List.replicate n x) (List.replicate n v)
 | 0 => by simp [RFs]
 | n + 1 => by
  simp only [List.replicate_succ]
  unfold RFs
  exact ⟨v, _, rfl, h, RFs.replicate h n⟩
theorem RVs.length {Z : Gh} {ρ : List Addr} : ∀ {l : List V} {vs : List Value}, RVs Z ρ l vs → vs.length = l.length
 | [], vs, h => by unfold RVs at h; subst h; rfl
 | x :: r, vs, h => by
  unfold RVs at h
  obtain ⟨v, r', rfl, _, b⟩ := h
  simp [RVs.length b]
theorem RVs.ofF {Z : Gh} {ρ : List Addr} : ∀ {l : List V} {fs : List F} {vs : List Value}, allF l = some fs → RVs Z ρ l vs → RFs Z fs vs
 | [], fs, vs, e, h => by unfold allF at e; cases e; unfold RVs at h; unfold RFs; exact h
 | x :: r, fs, vs, e, h => by
  cases x with
  | f y =>
   simp only [allF] at e
   cases q : allF r with
   | none => rw [q] at e; cases e
   | some l =>
    rw [q] at e; cases e
    unfold RVs at h
    obtain ⟨v, r', rfl, a, b⟩ := h
    unfold RFs
    exact ⟨v, r', rfl, by unfold RV at a; exact a, RVs.ofF q b⟩
  | _ => simp [allF] at e
theorem RFs.toV {Z : Gh} {ρ : List Addr} : ∀ {l : List F} {vs : List Value}, RFs Z l vs → RVs Z ρ (l.map .f) vs
 | [], vs, h => by unfold RFs at h; simp only [List.map_nil]; unfold RVs; exact h
 | x :: r, vs, h => by
  unfold RFs at h
  obtain ⟨v, r', rfl, a, b⟩ := h
  simp only [List.map_cons]
  unfold RVs
  exact ⟨v, r', rfl, by unfold RV; exact a, RFs.toV b⟩
section
variable {R : Type} {prog : Program} {w : World} {A : Around} {E : Value → Shared → Prop} {s : Shared} {h₀ : Heap} {os₀ : Bg} {Z : Gh} {ρ : List Addr} {hh : H}
 {k : KV R} {r : R} {Q : Value → Shared → Prop}
abbrev PV (h₀ : Heap) (os₀ : Bg) (Z : Gh) (ρ : List Addr) (s : Shared) (k : KV R) (r : R) (Q : Value → Shared → Prop) : Prop :=
 ∀ y s' Z' ρ' v h', Stp no Z ρ s Z' ρ' s' → Rel h₀ os₀ Z' ρ' h' s' → RV Z' ρ' v y → k v h' = some r → Q y s'
theorem items_at {h : Heap} {v : V} {y : Value} {l : List F} {g : Array GenState} {os : OsState} (Re : RelH h₀ os₀ Z ρ hh h g os) (rv : RV Z ρ v y) (e : items hh v = some l) :
  ∃ a n vs, y = .ref a ∧ h.get? a = some (lstO vs n) ∧ RFs Z l vs := by
 unfold items at e
 split at e
 ·cases e
  unfold RV RF at rv
  obtain ⟨a, n, vs, rfl, q, x⟩ := rv
  exact ⟨a, n, vs, rfl, Re.fz _ _ q, x⟩
 ·rename_i i
  split at e
  ·rename_i l' q
   cases e
   unfold RV at rv
   obtain ⟨a, rfl, ha⟩ := rv
   obtain ⟨a', e1, n, vs, e2, e3⟩ := Re.objs i _ q
   rw [ha] at e1; cases e1
   exact ⟨a, n, vs, rfl, e2, e3⟩
  ·cases e
 ·cases e
theorem newL_snd {mu : Bool} {l : List F} {vs : List Value} {n : Nat} (Re : Rel h₀ os₀ Z ρ hh s) (rf : RFs Z l vs) (e : newL mu l hh k = some r) (p : PV h₀ os₀ Z ρ s k r Q) {tk : Nat} :
  Q (.ref s.heap.objs.size) { s with heap := s.heap.push (lstO vs n), toks := tk } := by
 cases mu with
 | false =>
  replace e := guardB_some e; obtain ⟨_, e⟩ := e
  obtain ⟨R1, S1⟩ := Re.push (o := lstO vs n) rfl
  refine p _ _ _ _ _ _ S1 R1 ?_ e
  unfold RV RF
  exact ⟨_, n, vs, rfl, put_self _ _ _, RFs.mono S1.zz rf⟩
 | true =>
  replace e := guardB_some e; obtain ⟨_, e⟩ := e
  obtain ⟨R1, S1⟩ := Re.pushLoc (o := lstO vs n) (p := .list l) rfl ⟨n, vs, Heap.get?_push_size _ rfl, rf⟩
  refine p _ _ _ _ _ _ S1 R1 ?_ e
  unfold RV
  refine ⟨_, rfl, ?_⟩
  rw [List.getElem?_append_right (by rw [Re.len]; exact Nat.le_refl _), Re.len, Nat.sub_self]; rfl
theorem newT_snd {l : List F} {vs : List Value} {n : Nat} (Re : Rel h₀ os₀ Z ρ hh s) (rf : RFs Z l vs) (e : k (.f (.tup l)) hh = some r) (p : PV h₀ os₀ Z ρ s k r Q) {tk : Nat} :
  Q (.ref s.heap.objs.size) { s with heap := s.heap.push (tupO vs n), toks := tk } := by
 obtain ⟨R1, S1⟩ := Re.push (o := tupO vs n) rfl
 refine p _ _ _ _ _ _ S1 R1 ?_ e
 unfold RV RF
 exact ⟨_, n, vs, rfl, put_self _ _ _, RFs.mono S1.zz rf⟩
theorem fitL_le {α : Type} {l : List α} (h : fitL l = true) : l.length ≤ 100000 := of_decide_eq_true h
theorem fitS_le {l : Str} (h : fitS l = true) : l.length ≤ 100000 := of_decide_eq_true h
theorem small_lt {i : Int} (h : small i = true) : i.natAbs < 1000000 := of_decide_eq_true h
theorem line_ge : 16777216 ≤ sizeLine := by rw [sizeLine_eq]; omega
theorem len_app (x y : Str) : (x ++ y).length = x.length + y.length := by
 show (x.cps ++ y.cps).size = _
 simp [Str.length]
theorem add_post {x y : Str} {t u : Tok} (g1 : x.length ≤ 100000) (g2 : y.length ≤ 100000) (q : ∀ t' k, Q (.str (x ++ y) t') { s with toks := k }) :
  (if x.length == 0 then Made.val (.str y u) else if y.length == 0 then Made.val (.str x t) else Made.str (x ++ y)).post Q s := by
 have ll := line_ge
 split
 ·rename_i h
  have : x ++ y = y := by
   have : x.cps = #[] := Array.eq_empty_of_size_eq_zero (by simpa [Str.length] using h)
   show (⟨x.cps ++ y.cps⟩ : Str) = y
   rw [this]; simp
  rw [this] at q
  exact q u s.toks
 ·split
  ·rename_i h
   have : x ++ y = x := by
    have : y.cps = #[] := Array.eq_empty_of_size_eq_zero (by simpa [Str.length] using h)
    show (⟨x.cps ++ y.cps⟩ : Str) = x
    rw [this]; simp
   rw [this] at q
   exact q t s.toks
  ·exact ⟨by rw [len_app]; omega, q _ _⟩
theorem mul_one_list {a : Addr} {v : Value} {n : Nat} {x : Int} {u : Tok} {Q : Value → Shared → Prop} (hl : s.heap.get? a = some (lstO [v] n)) (h0 : 0 ≤ x) (h1 : x < 1000000)
  (h : Q (.ref s.heap.objs.size) { s with heap := s.heap.push (lstO (List.replicate x.toNat v) 0) }) : wpAny (model prog w) A (binaryOp .Mult (.ref a) (.int x u)) Q E s := by
 refine wpAny_binaryOp_repeat_ref (T := "list") (U := "int") (by decide) ⟨_, hl, rfl⟩ (fun s' => typeIs_int s' x u) noFill_list_mul F.fills_int_mul F.slot_int_rmul repeat_list F.slot_int_index.lookup
  (call_meets F.slot_int_rmul (typeIs_int s x u) F.entry_int_rmul (F.args_int_rmul_2 _ _) (lm_int_rmul_list_any x u a [v].toArray n none #[])
   ⟨hl, rfl, ⟨_, hl, rfl⟩, call_meets F.slot_list_mul ⟨_, hl, rfl⟩ F.entry_list_mul (F.args_list_mul_2 _ _)
    (lm_list_mul_any a [v].toArray n none #[] x u (by simp [Builtin.List.listFitsIndex]; omega) (by simp; omega) (by simp [Builtin.List.listTooLong, sizeLine]; omega))
    ⟨hl, ?_⟩⟩)
 have e : (List.replicate x.toNat [v]).flatten = List.replicate x.toNat v := by
  generalize x.toNat = m
  induction m with
  | zero => rfl
  | succ m ih => rw [List.replicate_succ, List.flatten_cons, ih, List.replicate_succ]; rfl
 rw [listMul_foldl_if, e]
 exact h
theorem digit_text : ∀ i : Int, 0 ≤ i → i ≤ 9 → Str.ofString (toString i) = (⟨#[48 + i.toNat]⟩ : Str) := by
 intro i h0 h9
 have : i = 0 ∨ i = 1 ∨ i = 2 ∨ i = 3 ∨ i = 4 ∨ i = 5 ∨ i = 6 ∨ i = 7 ∨ i = 8 ∨ i = 9 := by omega
 rcases this with h | h | h | h | h | h | h | h | h | h <;> subst h <;> decide +kernel
theorem digitText_some {i : Int} {t : Str} (h : digitText i = some t) : 0 ≤ i ∧ i ≤ 9 ∧ Str.ofString (toString i) = t := by
 unfold digitText at h
 split at h
 ·rename_i a b
  have a := of_decide_eq_true a
  have b := of_decide_eq_true b
  cases h
  exact ⟨a, b, digit_text i a b⟩
 ·cases h
open Builtin Builtin.Str in
set_option maxRecDepth 100000 in
theorem fmt_two (a c : Int) (u v t : Tok) (b : Addr) (ha : 0 ≤ a) (ha' : a < 10) (hc : 0 ≤ c) (hc' : c < 10) :
  Meets («str.__mod__» ⟨[.str (Str.mk #[108, 111, 119, 61, 34, 37, 100, 34, 59, 32, 104, 105, 103, 104, 61, 34, 37, 100, 34]) t, .ref b], []⟩) (fun _ R s => IsTup s.heap b #[.int a u, .int c v] ∧
   ∀ t' k, R (.ok (.ret (.str (("low=\"" : Str) ++ Str.ofString (toString a) ++ ("\"; high=\"" : Str) ++ Str.ofString (toString c) ++ ("\"" : Str)) t'))) { s with toks := k }) := by
 have q : ∀ T, (∀ t' k (R : Result → Shared → Prop) (s : Shared), R (.ok (.ret (.str T t'))) { s with toks := k } → R (.ok (.ret (.str T t'))) { s with toks := k }) → True := fun _ _ => trivial
 clear q
 kpt_run
theorem mod_fmt {a c : Int} {u v t : Tok} {b : Addr} {n : Nat} {Q : Value → Shared → Prop} (hb : s.heap.get? b = some (tupO [.int a u, .int c v] n)) (ha : 0 ≤ a) (ha' : a < 10) (hc : 0 ≤ c) (hc' : c < 10)
  (h : ∀ t' k, Q (.str (("low=\"" : Str) ++ Str.ofString (toString a) ++ ("\"; high=\"" : Str) ++ Str.ofString (toString c) ++ ("\"" : Str)) t') { s with toks := k }) :
  wpAny (model prog w) A (binaryOp .Mod (.str ("low=\"%d\"; high=\"%d\"" : Str) t) (.ref b)) Q E s := by
 have hX : ("low=\"%d\"; high=\"%d\"" : Str) = Str.mk #[108, 111, 119, 61, 34, 37, 100, 34, 59, 32, 104, 105, 103, 104, 61, 34, 37, 100, 34] := by decide +kernel
 rw [hX]
 have ht : IsTup s.heap b #[.int a u, .int c v] := ⟨_, hb, rfl, n, rfl⟩
 have hT : s.TypeIs (.ref b) "tuple" := ⟨_, hb, rfl⟩
 exact KPt.bin_left (T := "str") (U := "tuple") (op := .Mod) (by decide) (typeIs_str s _ t) hT F.fills_str_mod KPt.fills_tuple F.slot_str_mod
  (call_meets F.slot_str_mod (typeIs_str s _ t) F.entry_str_mod (F.args_str_mod_2 _ _) (fmt_two a c u v t b ha ha' hc hc') ⟨ht, fun t' k => ⟨(fun e => nomatch e), h t' k⟩⟩)
theorem binop_snd {mu : Bool} {op : Operator} {a b : V} {x y : Value} {n : Nat} (e : binop mu op a b hh k = some r) (ok : OkA n A) (Re : Rel h₀ os₀ Z ρ hh s) (ra : RV Z ρ a x) (rb : RV Z ρ b y)
  (p : PV h₀ os₀ Z ρ s k r Q) : wpAny (model prog w) A (binaryOp op x y) Q E s := by
 have same : ∀ {v : V} {y : Value} {tk : Nat}, RV Z ρ v y → k v hh = some r → Q y { s with toks := tk } := fun rv q => p _ _ _ _ _ _ StpH.refl Re rv q
 unfold binop at e
 split at e
 ·split at e
  ·rename_i i j
   obtain ⟨t, rfl⟩ := RV_int ra
   obtain ⟨u, rfl⟩ := RV_int rb
   exact PySem.P.add_int (same (mkRV_int _ _) e)
  ·rename_i i j
   obtain ⟨t, rfl⟩ := RV_str ra
   obtain ⟨u, rfl⟩ := RV_str rb
   replace e := guardB_some e; obtain ⟨g, e⟩ := e
   obtain ⟨g1, g2⟩ := Bool.and_eq_true_iff.mp g
   have g1 := fitS_le g1
   have g2 := fitS_le g2
   refine PySem.P.add_str (add_post g1 g2 fun t' k => same (mkRV_str _ _) e)
  ·replace e := obind_some e; obtain ⟨l, el, e⟩ := e
   replace e := obind_some e; obtain ⟨m, em, e⟩ := e
   replace e := guardB_some e; obtain ⟨g, e⟩ := e
   obtain ⟨g1, g2⟩ := Bool.and_eq_true_iff.mp g
   have g1 := fitL_le g1
   have g2 := fitL_le g2
   obtain ⟨a1, n1, vs, rfl, h1, r1⟩ := items_at Re ra el
   obtain ⟨a2, n2, ws, rfl, h2, r2⟩ := items_at Re rb em
   have ll := line_ge
   have l1 := r1.length
   have l2 := r2.length
   refine PySem.P.add_list h1 h2 ?_ (by simp; omega)
   have := newL_snd (n := 0) (tk := s.toks) Re (r1.append r2) e p
   simpa [lstO] using this
 ·replace e := asInt_some e; obtain ⟨i, rfl, e⟩ := e
  replace e := asInt_some e; obtain ⟨j, rfl, e⟩ := e
  obtain ⟨t, rfl⟩ := RV_int ra
  obtain ⟨u, rfl⟩ := RV_int rb
  exact PySem.P.sub_int (same (mkRV_int _ _) e)
 ·split at e
  ·rename_i i j
   obtain ⟨t, rfl⟩ := RV_int ra
   obtain ⟨u, rfl⟩ := RV_int rb
   replace e := guardB_some e; obtain ⟨g, e⟩ := e
   have g := small_lt g
   exact PySem.P.mul_int (same (mkRV_int _ _) e) (IntMulOk.of_left (intBits_le_64 (by omega) (by omega)))
  ·rename_i j _
   replace e := obind_some e; obtain ⟨l, el, e⟩ := e
   split at e
   ·rename_i z
    replace e := guardB_some e; obtain ⟨g, e⟩ := e
    obtain ⟨g1, g2⟩ := Bool.and_eq_true_iff.mp g
    have g1 := of_decide_eq_true g1
    have g2 := small_lt g2
    obtain ⟨a1, n1, vs, rfl, h1, r1⟩ := items_at Re ra el
    obtain ⟨u, rfl⟩ := RV_int rb
    unfold RFs at r1
    obtain ⟨v, r', rfl, r2, r3⟩ := r1
    unfold RFs at r3
    subst r3
    exact mul_one_list h1 g1 (by omega) (newL_snd Re (RFs.replicate r2 _) e p)
   ·cases e
  ·cases e
 ·replace e := asInt_some e; obtain ⟨i, rfl, e⟩ := e
  replace e := asInt_some e; obtain ⟨j, rfl, e⟩ := e
  replace e := guardB_some e; obtain ⟨g, e⟩ := e
  obtain ⟨g1, g2⟩ := Bool.and_eq_true_iff.mp g
  have g1 := small_lt g1
  have g2 := of_decide_eq_true g2
  obtain ⟨t, rfl⟩ := RV_int ra
  obtain ⟨u, rfl⟩ := RV_int rb
  exact floordiv_int (by omega) (same (mkRV_int _ _) e) (Or.inl (PyProof.noPylong_small (by omega)))
 ·split at e
  ·rename_i i j
   obtain ⟨t, rfl⟩ := RV_int ra
   obtain ⟨u, rfl⟩ := RV_int rb
   replace e := guardB_some e; obtain ⟨g, e⟩ := e
   have g := of_decide_eq_true g
   exact mod_int' (by omega) (same (mkRV_int _ _) e)
  ·rename_i sx l
   replace e := obind_some e; obtain ⟨T, eT, e⟩ := e
   unfold fmtT at eT
   split at eT
   ·rename_i a c q
    have q := (steq_iff _ _).mp q
    subst q
    split at eT
    ·rename_i x1 x2 e1 e2
     cases eT
     obtain ⟨a0, a9, rfl⟩ := digitText_some e1
     obtain ⟨c0, c9, rfl⟩ := digitText_some e2
     obtain ⟨t, rfl⟩ := RV_str ra
     unfold RV RF at rb
     obtain ⟨b, n, vs, rfl, hz, rf⟩ := rb
     simp only [RFs] at rf
     obtain ⟨v1, r1, rfl, f1, v2, r2, rfl, f2, rfl⟩ := rf
     unfold RF at f1 f2
     obtain ⟨u, rfl⟩ := f1
     obtain ⟨u', rfl⟩ := f2
     exact mod_fmt (Re.fz _ _ hz) a0 (by omega) c0 (by omega) fun t' k => same (mkRV_str _ _) e
    ·cases eT
   ·cases eT
  ·cases e
 ·cases e
end
end Mine
end
section
set_option maxRecDepth 4000
namespace Mine
open PySem PySem.Calls
variable [Hsh]
section
variable {Z : Gh} {h : Heap} (fz : ∀ a o, Z a = some o → h.get? a = some o)
include fz
mutual
theorem RF.reads : ∀ {f : F} {v : Value}, (toPy f).canLay0 = true → RF Z f v → ∃ as, Reads h v (toPy f) as
 | .none, v, _, r => by unfold RF at r; subst r; exact ⟨_, .none⟩
 | .bool b, v, _, r => by unfold RF at r; subst r; exact ⟨_, .bool b⟩
 | .int i, v, _, r => by unfold RF at r; obtain ⟨t, rfl⟩ := r; exact ⟨_, .int i t⟩
 | .str i, v, _, r => by unfold RF at r; obtain ⟨t, rfl⟩ := r; exact ⟨_, .str i t⟩
 | .tup l, v, c, r => by
  unfold RF at r
  obtain ⟨a, n, vs, rfl, hz, x⟩ := r
  unfold toPy at c ⊢
  obtain ⟨as, q⟩ := RFs.reads (l := l) (by simpa [PyData.canLay0] using c) x
  exact ⟨_, reads_tuple_at (fz _ _ hz) rfl rfl (by simpa using q)⟩
 | .lst l, v, c, r => by
  unfold RF at r
  obtain ⟨a, n, vs, rfl, hz, x⟩ := r
  unfold toPy at c ⊢
  obtain ⟨as, q⟩ := RFs.reads (l := l) (by simpa [PyData.canLay0] using c) x
  exact ⟨_, reads_list_at (fz _ _ hz) rfl rfl (by simpa using q)⟩
 | .ws .., v, c, r => by unfold toPy at c; simp [PyData.canLay0] at c
theorem RFs.reads : ∀ {l : List F} {vs : List Value}, PyData.canLayAll0 (toPys l) = true → RFs Z l vs → ∃ as, ReadsAll h vs (toPys l) as
 | [], vs, _, r => by unfold RFs at r; subst r; unfold toPys; exact ⟨_, .nil⟩
 | x :: l, vs, c, r => by
  unfold RFs at r
  obtain ⟨v, r', rfl, a, b⟩ := r
  unfold toPys at c ⊢
  simp only [PyData.canLayAll0, Bool.and_eq_true] at c
  obtain ⟨as, q1⟩ := RF.reads c.1 a
  obtain ⟨bs, q2⟩ := RFs.reads c.2 b
  exact ⟨_, .cons q1 q2⟩
end
end
theorem cps_beq (i j : Str) : (i.cps.toList == j.cps.toList) = steq i j := by
 rw [steq_eq]
 by_cases h : i = j
 ·subst h; simp
 ·have : i.cps.toList ≠ j.cps.toList := fun q => h (by cases i; cases j; exact congrArg Str.mk (Array.ext' q))
  rw [decide_eq_false h]
  exact beq_eq_false_iff_ne.mpr this
theorem strIn_eq {s : Str} : ∀ {l : List F} {b : Bool}, strIn s l = some b → (toPys l).any (fun y => PyData.eqv y (.str s)) = b
 | [], b, e => by simp only [strIn] at e; cases e; simp [toPys]
 | x :: r, b, e => by
  cases x with
  | str t =>
   simp only [strIn] at e
   cases q : strIn s r with
   | none => rw [q] at e; cases e
   | some c =>
    rw [q] at e; cases e
    have ih := strIn_eq q
    simp only [toPys, toPy, List.any_cons, ih, PyData.eqv, steq_eq]
    congr 1
  | _ => simp [strIn] at e
section
variable {R : Type} {prog : Program} {w : World} {A : Around} {E : Value → Shared → Prop} {s : Shared} {h₀ : Heap} {os₀ : Bg} {Z : Gh} {ρ : List Addr} {hh : H}
 {k : Bool → Option R} {r : R} {Q : Value → Shared → Prop} {n : Nat}
theorem OkA.room (ok : OkA n A) : A.units + 64 < cLine := by have := ok.uni; show _ < 9900; omega
theorem reads_items {v : V} {y : Value} {l : List F} (Re : Rel h₀ os₀ Z ρ hh s) (rv : RV Z ρ v y) (e : items hh v = some l) (c : (toPy (.lst l)).canLay0 = true) : ∃ as, Reads s.heap y (toPy (.lst l)) as := by
 obtain ⟨a, n, vs, rfl, h1, r1⟩ := items_at Re rv e
 unfold toPy at c ⊢
 obtain ⟨as, q⟩ := RFs.reads Re.fz (by simpa [PyData.canLay0] using c) r1
 exact ⟨_, reads_list_at h1 rfl rfl (by simpa using q)⟩
theorem eqG_some {a b : PyData} (e : eqG a b k = some r) : SeqAt.shaped a = true ∧ SeqAt.shaped b = true ∧ k (PyData.eqv a b) = some r := by
 unfold eqG at e
 replace e := guardB_some e
 obtain ⟨g, e⟩ := e
 obtain ⟨g1, g2⟩ := Bool.and_eq_true_iff.mp g
 exact ⟨g1, g2, e⟩
theorem eqV_snd {a b : V} {x y : Value} (e : eqV a b hh k = some r) (ok : OkA n A) (Re : Rel h₀ os₀ Z ρ hh s) (ra : RV Z ρ a x) (rb : RV Z ρ b y) (p : ∀ c, k c = some r → Q (.bool c) s) :
  wpAny (model prog w) A (compareOp .Eq x y) Q E s := by
 unfold eqV at e
 split at e
 ·obtain ⟨t, rfl⟩ := RV_int ra
  obtain ⟨u, rfl⟩ := RV_int rb
  exact eq_int (p _ e)
 ·obtain ⟨t, rfl⟩ := RV_str ra
  obtain ⟨u, rfl⟩ := RV_str rb
  rename_i i j
  refine PySem.P.eq_str (p _ ?_)
  have := cps_beq i j
  rw [this]; exact e
 ·obtain ⟨g1, g2, e⟩ := eqG_some e
  unfold RV at ra rb
  obtain ⟨as, q1⟩ := RF.reads Re.fz (SeqAt.canLay_of_shaped g1) ra
  obtain ⟨bs, q2⟩ := RF.reads Re.fz (SeqAt.canLay_of_shaped g2) rb
  exact eq_dataH q1 q2 g1 g2 ok.room (p _ e)
 ·replace e := obind_some e; obtain ⟨l, el, e⟩ := e
  replace e := obind_some e; obtain ⟨m, em, e⟩ := e
  obtain ⟨g1, g2, e⟩ := eqG_some e
  obtain ⟨as, q1⟩ := reads_items Re ra el (SeqAt.canLay_of_shaped g1)
  obtain ⟨bs, q2⟩ := reads_items Re rb em (SeqAt.canLay_of_shaped g2)
  exact eq_dataH q1 q2 g1 g2 ok.room (p _ e)
theorem neV_snd {a b : V} {x y : Value} (e : eqV a b hh k = some r) (ok : OkA n A) (Re : Rel h₀ os₀ Z ρ hh s) (ra : RV Z ρ a x) (rb : RV Z ρ b y) (p : ∀ c, k c = some r → Q (.bool (!c)) s) :
  wpAny (model prog w) A (compareOp .NotEq x y) Q E s := by
 unfold eqV at e
 split at e
 ·obtain ⟨t, rfl⟩ := RV_int ra
  obtain ⟨u, rfl⟩ := RV_int rb
  exact ne_int (p _ e)
 ·obtain ⟨t, rfl⟩ := RV_str ra
  obtain ⟨u, rfl⟩ := RV_str rb
  rename_i i j
  have := cps_beq i j
  refine PySem.P.ne_str ?_
  show Q (.bool (!(i.cps.toList == j.cps.toList))) s
  rw [this]; exact p _ e
 ·obtain ⟨g1, g2, e⟩ := eqG_some e
  unfold RV at ra rb
  obtain ⟨as, q1⟩ := RF.reads Re.fz (SeqAt.canLay_of_shaped g1) ra
  obtain ⟨bs, q2⟩ := RF.reads Re.fz (SeqAt.canLay_of_shaped g2) rb
  exact ne_dataH q1 q2 g1 g2 ok.room (p _ e)
 ·replace e := obind_some e; obtain ⟨l, el, e⟩ := e
  replace e := obind_some e; obtain ⟨m, em, e⟩ := e
  obtain ⟨g1, g2, e⟩ := eqG_some e
  obtain ⟨as, q1⟩ := reads_items Re ra el (SeqAt.canLay_of_shaped g1)
  obtain ⟨bs, q2⟩ := reads_items Re rb em (SeqAt.canLay_of_shaped g2)
  exact ne_dataH q1 q2 g1 g2 ok.room (p _ e)
theorem isV_snd {a b : V} {x y : Value} {c : Bool} (e : isV a b = some c) (ra : RV Z ρ a x) (rb : RV Z ρ b y) : plainIs x y = true ∧ (x == y) = c := by
 unfold isV at e
 split at e
 ·cases e; cases RV_none ra; cases RV_none rb; exact ⟨rfl, by decide⟩
 ·cases e; obtain ⟨t, rfl⟩ := RV_int ra; cases RV_none rb; exact ⟨rfl, beq_eq_false_iff_ne.mpr (fun q => nomatch q)⟩
 ·cases e; obtain ⟨t, rfl⟩ := RV_str ra; cases RV_none rb; exact ⟨rfl, beq_eq_false_iff_ne.mpr (fun q => nomatch q)⟩
 ·cases e; cases RV_bool ra; cases RV_bool rb
  rename_i i j
  exact ⟨rfl, by cases i <;> cases j <;> decide⟩
 ·cases e
  unfold RV at ra rb
  subst ra rb
  rename_i i j
  refine ⟨rfl, ?_⟩
  by_cases h : i = j
  ·subst h; rw [beq_self_eq_true, beq_self_eq_true]
  ·rw [beq_eq_false_iff_ne.mpr h]; exact beq_eq_false_iff_ne.mpr fun q => h (Value.type.inj q)
 ·cases e
theorem cmp_snd {op : CmpOp} {a b : V} {x y : Value} (e : cmp op a b hh k = some r) (ok : OkA n A) (Re : Rel h₀ os₀ Z ρ hh s) (ra : RV Z ρ a x) (rb : RV Z ρ b y) (p : ∀ c, k c = some r → Q (.bool c) s) :
  wpAny (model prog w) A (compareOp op x y) Q E s := by
 unfold cmp at e
 split at e
 ·replace e := asInt_some e; obtain ⟨i, rfl, e⟩ := e
  replace e := asInt_some e; obtain ⟨j, rfl, e⟩ := e
  obtain ⟨t, rfl⟩ := RV_int ra
  obtain ⟨u, rfl⟩ := RV_int rb
  exact PySem.P.lt_int (p _ e)
 ·replace e := asInt_some e; obtain ⟨i, rfl, e⟩ := e
  replace e := asInt_some e; obtain ⟨j, rfl, e⟩ := e
  obtain ⟨t, rfl⟩ := RV_int ra
  obtain ⟨u, rfl⟩ := RV_int rb
  exact PySem.P.le_int (p _ e)
 ·replace e := asInt_some e; obtain ⟨i, rfl, e⟩ := e
  replace e := asInt_some e; obtain ⟨j, rfl, e⟩ := e
  obtain ⟨t, rfl⟩ := RV_int ra
  obtain ⟨u, rfl⟩ := RV_int rb
  exact PySem.P.gt_int (p _ e)
 ·replace e := asInt_some e; obtain ⟨i, rfl, e⟩ := e
  replace e := asInt_some e; obtain ⟨j, rfl, e⟩ := e
  obtain ⟨t, rfl⟩ := RV_int ra
  obtain ⟨u, rfl⟩ := RV_int rb
  exact PySem.P.ge_int (p _ e)
 ·exact eqV_snd e ok Re ra rb p
 ·exact neV_snd e ok Re ra rb fun c hc => p (!c) hc
 ·replace e := obind_some e; obtain ⟨c, ec, e⟩ := e
  obtain ⟨q1, q2⟩ := isV_snd ec ra rb
  exact wpAny_is_plain q1 (by rw [q2]; exact p _ e)
 ·replace e := obind_some e; obtain ⟨c, ec, e⟩ := e
  obtain ⟨q1, q2⟩ := isV_snd ec ra rb
  exact wpAny_isNot_plain q1 (by rw [q2]; exact p _ e)
 ·split at e
  ·replace e := guardB_some e; obtain ⟨g, e⟩ := e
   replace e := obind_some e; obtain ⟨c, ec, e⟩ := e
   obtain ⟨g1, g2⟩ := Bool.and_eq_true_iff.mp g
   rename_i i l
   unfold RV at rb
   obtain ⟨as, q1⟩ := RF.reads (f := .lst l) Re.fz (by unfold toPy; simpa [PyData.canLay0] using g2) rb
   obtain ⟨t, rfl⟩ := RV_str ra
   unfold toPy at q1
   refine SeqAt.in_list_reads q1 (.str i t) g2 (by simpa [PyData.canLay0] using g1) ?_ ?_
   ·have := ok.room
    have h2 := Nat.min_le_right (PyData.depthAll (toPys l)) (PyData.depth (.str i))
    have h3 : PyData.depth (.str i) = 0 := by simp [PyData.depth]
    omega
   ·rw [strIn_eq ec]; exact p _ e
  ·cases e
 ·split at e
  ·replace e := guardB_some e; obtain ⟨g, e⟩ := e
   replace e := obind_some e; obtain ⟨c, ec, e⟩ := e
   obtain ⟨g1, g2⟩ := Bool.and_eq_true_iff.mp g
   rename_i i l
   unfold RV at rb
   obtain ⟨as, q1⟩ := RF.reads (f := .lst l) Re.fz (by unfold toPy; simpa [PyData.canLay0] using g2) rb
   obtain ⟨t, rfl⟩ := RV_str ra
   unfold toPy at q1
   refine SeqAt.notIn_list_reads q1 (.str i t) g2 (by simpa [PyData.canLay0] using g1) ?_ ?_
   ·have := ok.room
    have h2 := Nat.min_le_right (PyData.depthAll (toPys l)) (PyData.depth (.str i))
    have h3 : PyData.depth (.str i) = 0 := by simp [PyData.depth]
    omega
   ·rw [strIn_eq ec]; exact p _ e
  ·replace e := guardB_some e; obtain ⟨g, e⟩ := e
   obtain ⟨t, rfl⟩ := RV_str ra
   obtain ⟨u, rfl⟩ := RV_str rb
   exact PySem.P.notIn_str (p _ e)
  ·cases e
end
end Mine
end
section
set_option maxRecDepth 4000
namespace Mine
open PySem PySem.Calls
variable [Hsh]
structure Fct (K : Frag) (P : Prg) : Prop where
 pl100 : ∀ x, plainGet K 100 x = true
 pl279 : ∀ x, plainGet K 279 x = true
 hd100 : hasDictIn K 100 = true
 hd279 : hasDictIn K 279 = true
 at100 : ∀ x ∈ wsNames, findIn K (.ref 100) x = some none
 at279 : findIn K (.ref 279) "_headers" = some none
 sa100 : findIn K (.ref 100) "__setattr__" = some (some (.builtin "object.__setattr__"))
 sa279 : findIn K (.ref 279) "__setattr__" = some (some (.builtin "object.__setattr__"))
 po100 : plainOver K 100 = true
 po279 : plainOver K 279 = true
 tk100 : ∀ x ∈ wsNames, takerIn K 100 x = some none
 tk279 : takerIn K 279 "_headers" = some none
 clsS : ∃ mc t, readsIn K 100 mc = true ∧ findCls K (.ref 100) mc "S" = some (.val (.str " " t))
 clsT : ∃ mc t, readsIn K 100 mc = true ∧ findCls K (.ref 100) mc "T" = some (.val (.str "\t" t))
section
variable {R : Type} {prog : Program} {w : World} {A : Around} {E : Value → Shared → Prop} {s : Shared} {h₀ : Heap} {os₀ : Bg} {Z : Gh} {ρ : List Addr} {hh : H}
 {k : KV R} {r : R} {Q : Value → Shared → Prop} {n : Nat} {K : Frag} {P : Prg}
theorem subscripted_any (slice : PySem.Expr) (o i : Value) : ∃ ops, subscripted slice false o i = operate ops (getItem o i) := by
 unfold subscripted
 split
 ·exact ⟨_, rfl⟩
 ·rename_i h; cases h
 ·exact ⟨_, rfl⟩
theorem index_list {l : List F} {vs : List Value} {a : Addr} {m : Nat} {j : Int} {u : Tok} {p : Nat} {x : F} {y : Value} {slice value : PySem.Expr} (hl : s.heap.get? a = some (lstO vs m)) (rf : vs.length = l.length) (g : fitL l = true)
  (hp : seqIndex? j l.length = some p) (hy : vs[p]? = some y) (h : Q y s) : wpAny (model prog w) A (subscriptTail value slice (.ref a) (.int j u)) Q E s := by
 obtain ⟨ops, hs⟩ := subscripted_any slice (.ref a) (.int j u)
 have hL : s.heap.IsList a vs.toArray := ⟨_, hl, rfl, m, rfl⟩
 have g := fitL_le g
 unfold seqIndex? at hp
 by_cases h0 : j < 0
 ·rw [if_pos h0] at hp
  dsimp only at hp
  split at hp
  ·rename_i c
   rw [Bool.and_eq_true] at c
   have c1 := of_decide_eq_true c.1
   cases hp
   refine tail_any hL.typeIs slot_list_getitem.lookup (wpAny_getItem_list_neg hL h0 (by simp; omega) (by omega) (by simpa [rf] using hy) h) hs
  ·cases hp
 ·rw [if_neg h0] at hp
  dsimp only at hp
  split at hp
  ·rename_i c
   rw [Bool.and_eq_true] at c
   have c2 := of_decide_eq_true c.2
   cases hp
   exact tail_any hL.typeIs slot_list_getitem.lookup (wpAny_getItem_list hL (by omega) (by omega) (by simpa using hy) h) hs
  ·cases hp
theorem index_tup {l : List F} {vs : List Value} {a : Addr} {m : Nat} {j : Int} {u : Tok} {p : Nat} {y : Value} {slice value : PySem.Expr} (hl : s.heap.get? a = some (tupO vs m)) (rf : vs.length = l.length) (g : fitL l = true)
  (hp : seqIndex? j l.length = some p) (hy : vs[p]? = some y) (h : Q y s) : wpAny (model prog w) A (subscriptTail value slice (.ref a) (.int j u)) Q E s := by
 obtain ⟨ops, hs⟩ := subscripted_any slice (.ref a) (.int j u)
 have g := fitL_le g
 have hb : -(2 ^ 63) ≤ j ∧ j < 2 ^ 63 := by
  unfold seqIndex? at hp
  by_cases h0 : j < 0
  ·rw [if_pos h0] at hp
   dsimp only at hp
   split at hp
   ·rename_i c
    rw [Bool.and_eq_true] at c
    have c1 := of_decide_eq_true c.1
    omega
   ·cases hp
  ·rw [if_neg h0] at hp
   dsimp only at hp
   split at hp
   ·rename_i c
    rw [Bool.and_eq_true] at c
    have c2 := of_decide_eq_true c.2
    omega
   ·cases hp
 refine tail_any (T := "tuple") ⟨_, hl, rfl⟩ F.slot_tuple_getitem.lookup (PySem.P.getItem_tuple (n := m) hl hb.1 hb.2 (k := p) (by simpa [rf] using hp) (by simpa using hy) h) hs
theorem RLs.length : ∀ {l : List Nat} {vs : List Value}, RLs ρ l vs → vs.length = l.length
 | [], vs, h => by unfold RLs at h; subst h; rfl
 | i :: r, vs, h => by
  obtain ⟨a, r', rfl, _, b⟩ := h
  simp [RLs.length b]
theorem RLs.get : ∀ {l : List Nat} {vs : List Value}, RLs ρ l vs → ∀ {i j : Nat}, l[i]? = some j → ∃ a, vs[i]? = some (.ref a) ∧ ρ[j]? = some a
 | [], _, _, _, _, e => by simp at e
 | x :: r, vs, h, 0, y, e => by
  obtain ⟨a, r', rfl, q, b⟩ := h
  simp at e; subst e
  exact ⟨a, rfl, q⟩
 | x :: r, vs, h, i + 1, y, e => by
  obtain ⟨a, r', rfl, q, b⟩ := h
  exact RLs.get b (by simpa using e)
theorem subscr_snd {v i : V} {x y : Value} {slice value : PySem.Expr} (e : subscr v i hh k = some r) (Re : Rel h₀ os₀ Z ρ hh s) (rv : RV Z ρ v x) (ri : RV Z ρ i y) (p : PV h₀ os₀ Z ρ s k r Q) :
  wpAny (model prog w) A (subscriptTail value slice x y) Q E s := by
 have same : ∀ {v : V} {y : Value}, RV Z ρ v y → k v hh = some r → Q y s := fun rv q => p _ _ _ _ _ _ StpH.refl Re rv q
 unfold subscr at e
 split at e
 ·replace e := asInt_some e; obtain ⟨j, rfl, e⟩ := e
  replace e := guardB_some e; obtain ⟨g, e⟩ := e
  replace e := obind_some e; obtain ⟨q, eq, e⟩ := e
  replace e := obind_some e; obtain ⟨z, ez, e⟩ := e
  obtain ⟨u, rfl⟩ := RV_int ri
  unfold RV RF at rv
  obtain ⟨a, m, vs, rfl, hz, rf⟩ := rv
  obtain ⟨yy, e1, e2⟩ := rf.get ez
  exact index_tup (Re.fz _ _ hz) rf.length g eq e1 (same (by unfold RV; exact e2) e)
 ·replace e := asInt_some e; obtain ⟨j, rfl, e⟩ := e
  replace e := guardB_some e; obtain ⟨g, e⟩ := e
  replace e := obind_some e; obtain ⟨q, eq, e⟩ := e
  replace e := obind_some e; obtain ⟨z, ez, e⟩ := e
  obtain ⟨u, rfl⟩ := RV_int ri
  unfold RV RF at rv
  obtain ⟨a, m, vs, rfl, hz, rf⟩ := rv
  obtain ⟨yy, e1, e2⟩ := rf.get ez
  exact index_list (x := z) (Re.fz _ _ hz) rf.length g eq e1 (same (by unfold RV; exact e2) e)
 ·rename_i a
  split at e
  ·rename_i l hl
   replace e := asInt_some e; obtain ⟨j, rfl, e⟩ := e
   replace e := guardB_some e; obtain ⟨g, e⟩ := e
   replace e := obind_some e; obtain ⟨q, eq, e⟩ := e
   replace e := obind_some e; obtain ⟨z, ez, e⟩ := e
   obtain ⟨u, rfl⟩ := RV_int ri
   unfold RV at rv
   obtain ⟨b, rfl, hb⟩ := rv
   obtain ⟨b', e1, m, vs, e2, e3⟩ := Re.objs a _ hl
   rw [hb] at e1; cases e1
   obtain ⟨yy, f1, f2⟩ := e3.get ez
   exact index_list (x := z) e2 e3.length g eq f1 (same (by unfold RV; exact f2) e)
  ·rename_i l hl
   replace e := asInt_some e; obtain ⟨j, rfl, e⟩ := e
   replace e := guardB_some e; obtain ⟨g, e⟩ := e
   replace e := obind_some e; obtain ⟨q, eq, e⟩ := e
   replace e := obind_some e; obtain ⟨z, ez, e⟩ := e
   obtain ⟨u, rfl⟩ := RV_int ri
   unfold RV at rv
   obtain ⟨b, rfl, hb⟩ := rv
   obtain ⟨b', e1, m, vs, e2, e3⟩ := Re.objs a _ hl
   rw [hb] at e1; cases e1
   obtain ⟨aa, f1, f2⟩ := e3.get ez
   have g' : fitL (l.map fun _ => F.none) = true := by unfold fitL at g ⊢; simpa using g
   refine index_list (l := l.map fun _ => F.none) (x := F.none) e2 (by rw [List.length_map]; exact e3.length) g' (by rw [List.length_map]; exact eq) f1 (same ?_ e)
   unfold RV; exact ⟨aa, rfl, f2⟩
  ·cases e
 ·cases e
theorem isPart_of {o : Option Int} {v : Value} (h : match o with | none => v = .none | some i => ∃ t, v = .int i t) : IsPart v o := by
 cases o with
 | none => dsimp only at h; subst h; exact .none
 | some i => dsimp only at h; obtain ⟨t, rfl⟩ := h; exact .int ..
def PartIs (o : Option Int) (v : Value) : Prop := match o with | none => v = .none | some i => ∃ t, v = .int i t
theorem RFs.slice {l : List F} {vs : List Value} (h : RFs Z l vs) (lo hi : Option Int) : RFs Z (sliceOf l lo hi) (slicePick vs.toArray lo hi none).toList := by
 rw [slicePick_plain]
 have e := h.length
 show RFs Z _ ((vs.drop _).take _)
 unfold sliceOf
 simp only [List.size_toArray, e]
 exact RFs.take _ (RFs.drop _ h)
theorem clipAt_le (n : Nat) (i : Int) : clipAt n i ≤ n := by
 have := clipAt_cast n i
 omega
theorem str_pick (lo hi : Option Int) (n : Nat) : Builtin.Str.strSliceIndices lo hi 1 n = (List.range (hi.elim n (clipAt n) - lo.elim 0 (clipAt n))).map (lo.elim 0 (clipAt n) + ·) := by
 rw [← sliceRange_one]
 unfold Builtin.Str.strSliceIndices
 cases lo <;> cases hi <;> simp [clipAt_cast]
theorem slice_snd {v : V} {x yl yu : Value} {lo hi : Option Int} (e : sliceV v lo hi hh k = some r) (Re : Rel h₀ os₀ Z ρ hh s) (rv : RV Z ρ v x) (hl : PartIs lo yl) (hu : PartIs hi yu) (p : PV h₀ os₀ Z ρ s k r Q) :
  wpAny (model prog w) A (getItem x (.ref s.heap.objs.size)) Q E { s with heap := s.heap.push { cls := .type "slice", data := .fields #[yl, yu, .none] } } ∧
   ∃ T id, typeLookup (.type T) "__getitem__" = pure (some (.builtin id)) ∧ Shared.TypeIs { s with heap := s.heap.push { cls := .type "slice", data := .fields #[yl, yu, .none] } } x T := by
 obtain ⟨R1, S1⟩ := Re.push (o := { cls := .type "slice", data := .fields #[yl, yu, .none] }) rfl
 have p1 : PV h₀ os₀ (put Z s.heap.objs.size { cls := .type "slice", data := .fields #[yl, yu, .none] }) ρ { s with heap := s.heap.push { cls := .type "slice", data := .fields #[yl, yu, .none] } } k r Q :=
  fun y s' Z' ρ' v h' S' R' rv' e' => p y s' Z' ρ' v h' (S1.trans S') R' rv' e'
 have rv1 := rv.mono S1.zz S1.rr
 unfold sliceV at e
 split at e
 ·rename_i sx
  replace e := guardB_some e; obtain ⟨g, e⟩ := e
  have g := fitS_le g
  obtain ⟨t, rfl⟩ := RV_str rv
  refine ⟨?_, "str", _, F.slot_str_getitem.lookup, typeIs_str _ _ _⟩
  have ll := line_ge
  have mk : ∀ (l u : Option (Int × Tok)), l.map (·.1) = lo → u.map (·.1) = hi → partValue l = yl → partValue u = yu → wpAny (model prog w) A (getItem (.str sx t) (.ref s.heap.objs.size)) Q E { s with heap := s.heap.push { cls := .type "slice", data := .fields #[yl, yu, .none] } } := by
   intro l u e1 e2 e3 e4
   refine wpAny_getItem_str_slice (l := l) (u := u) (st := none) ⟨_, Heap.get?_push_size _ rfl, rfl, by rw [e3, e4]; rfl⟩ rfl ?_
   have pick : (slicePicked sx l u none).filterMap (sx.cps[·]?) = sliceOf sx.cps.toList lo hi := by
    subst e1 e2
    unfold slicePicked
    simp only [Option.map_none, Option.getD_none]
    rw [str_pick, pick_run]
    unfold sliceOf
    simp [Str.length]
   unfold sliceMade
   rw [pick]
   split
   ·rename_i c
    rw [Bool.and_eq_true] at c
    have c2 : (slicePicked sx l u none).length = sx.length := by simpa using c.2
    have : sx = ⟨(sliceOf sx.cps.toList lo hi).toArray⟩ := by
     subst e1 e2
     unfold slicePicked at c2
     simp only [Option.map_none, Option.getD_none] at c2
     rw [str_pick] at c2
     simp only [List.length_map, List.length_range] at c2
     have hb : (u.map (·.1)).elim sx.length (clipAt sx.length) ≤ sx.length := by
      cases u with
      | none => exact Nat.le_refl _
      | some q => exact clipAt_le _ _
     have hn : sx.cps.toList.length = sx.length := by simp [Str.length]
     unfold sliceOf
     rw [hn]
     generalize (u.map (·.1)).elim sx.length (clipAt sx.length) = b at c2 hb
     generalize (l.map (·.1)).elim 0 (clipAt sx.length) = a at c2
     by_cases h0 : sx.length = 0
     ·have hz : sx.cps.toList = [] := List.eq_nil_of_length_eq_zero (by omega)
      rw [hz]
      cases sx
      simp only [List.drop_nil, List.take_nil]
      exact congrArg Str.mk (Array.ext' (by simpa using hz))
     ·have ha : a = 0 := by omega
      have hb' : b = sx.length := by omega
      subst ha hb'
      rw [List.drop_zero, Nat.sub_zero, List.take_of_length_le (by omega)]
    exact p1 _ _ _ _ _ _ StpH.refl R1 (by rw [← this]; exact mkRV_str _ _) e
   ·refine ⟨?_, p1 _ _ _ _ _ _ StpH.refl R1 (mkRV_str _ _) e⟩
    have : (sliceOf sx.cps.toList lo hi).length ≤ sx.cps.toList.length := by
     unfold sliceOf
     simp; omega
    show ((sliceOf sx.cps.toList lo hi).toArray).size ≤ _
    simp only [List.size_toArray]
    have : sx.cps.toList.length = sx.length := by simp [Str.length]
    omega
  cases lo with
  | none => cases hi with
   | none => cases hl; cases hu; exact mk none none rfl rfl rfl rfl
   | some b => cases hl; obtain ⟨u, rfl⟩ := hu; exact mk none (some (b, u)) rfl rfl rfl rfl
  | some a => cases hi with
   | none => obtain ⟨u, rfl⟩ := hl; cases hu; exact mk (some (a, u)) none rfl rfl rfl rfl
   | some b => obtain ⟨u', rfl⟩ := hl; obtain ⟨u, rfl⟩ := hu; exact mk (some (a, u')) (some (b, u)) rfl rfl rfl rfl
 ·replace e := obind_some e; obtain ⟨l, el, e⟩ := e
  replace e := guardB_some e; obtain ⟨g, e⟩ := e
  have g := fitL_le g
  obtain ⟨a, m, vs, rfl, h1, r1⟩ := items_at R1 rv1 el
  have hL : Heap.IsList (s.heap.push { cls := .type "slice", data := .fields #[yl, yu, .none] }) a vs.toArray := ⟨_, h1, rfl, m, rfl⟩
  have ll := line_ge
  have l1 := r1.length
  refine ⟨wpAny_getItem_list_slice hL (Heap.IsSliceOf.new ..) (isPart_of hl) (isPart_of hu) .none (by simp) ?_ (by simp; omega), "list", _, list_getitem_lookup, hL.typeIs⟩
  have hf : fitL (sliceOf l lo hi) = true := by
   unfold fitL
   refine decide_eq_true ?_
   have : (sliceOf l lo hi).length ≤ l.length := by unfold sliceOf; simp; omega
   omega
  have q := newL_snd (mu := false) (n := 0) (tk := s.toks) R1 (r1.slice lo hi) (k := k) (r := r) (by show guardB (fitL _) _ = _; rw [hf]; exact e) p1
  simpa [lstO] using q
theorem rev_snd {v : V} {x : Value} {t : Tok} (e : revV v hh k = some r) (Re : Rel h₀ os₀ Z ρ hh s) (rv : RV Z ρ v x) (p : PV h₀ os₀ Z ρ s k r Q) :
  wpAny (model prog w) A (getItem x (.ref s.heap.objs.size)) Q E { s with heap := s.heap.push { cls := .type "slice", data := .fields #[.none, .none, .int (-1) t] } } ∧
   Shared.TypeIs { s with heap := s.heap.push { cls := .type "slice", data := .fields #[.none, .none, .int (-1) t] } } x "list" := by
 obtain ⟨R1, S1⟩ := Re.push (o := { cls := .type "slice", data := .fields #[.none, .none, .int (-1) t] }) rfl
 have p1 : PV h₀ os₀ (put Z s.heap.objs.size { cls := .type "slice", data := .fields #[.none, .none, .int (-1) t] }) ρ { s with heap := s.heap.push { cls := .type "slice", data := .fields #[.none, .none, .int (-1) t] } } k r Q :=
  fun y s' Z' ρ' v h' S' R' rv' e' => p y s' Z' ρ' v h' (S1.trans S') R' rv' e'
 have rv1 := rv.mono S1.zz S1.rr
 unfold revV at e
 replace e := obind_some e; obtain ⟨l, el, e⟩ := e
 replace e := guardB_some e; obtain ⟨g, e⟩ := e
 have g := fitL_le g
 obtain ⟨a, m, vs, rfl, h1, r1⟩ := items_at R1 rv1 el
 have hL : Heap.IsList (s.heap.push { cls := .type "slice", data := .fields #[.none, .none, .int (-1) t] }) a vs.toArray := ⟨_, h1, rfl, m, rfl⟩
 have ll := line_ge
 have l1 := r1.length
 refine ⟨wpAny_getItem_list_slice hL (Heap.IsSliceOf.new ..) .none .none (.int ..) (by simp) ?_ (by simp; omega), hL.typeIs⟩
 have hf : fitL l.reverse = true := by
  unfold fitL
  exact decide_eq_true (by simpa using g)
 have q := newL_snd (mu := false) (n := 0) (tk := s.toks) R1 r1.reverse (k := k) (r := r) (by show guardB (fitL _) _ = _; rw [hf]; exact e) p1
 rw [krv_pick]; simpa [lstO] using q
end
end Mine
end
section
set_option maxRecDepth 4000
namespace Mine
open PySem PySem.Calls
variable [Hsh]
theorem isWsName_mem {x : Str} (h : isWsName x = true) : x ∈ wsNames := by
 unfold isWsName at h
 simp only [Bool.or_eq_true, steq_iff] at h
 unfold wsNames
 rcases h with (((h | h) | h) | h) | h <;> subst h <;> simp
theorem isStr_eq (x y : Str) (t : Tok) : (Value.str x t).isStr y = decide (x = y) := by
 show (x == y) = _
 by_cases h : x = y
 ·subst h; simp
 ·simp [h]
theorem REs.noRef {Z : Gh} {l : List (Str × F)} {es : List DictEntry} (h : REs Z l es) : es.any (·.refKey) = false := by
 induction h with
 | nil => rfl
 | cons _ _ ih => rw [List.any_cons, ih]; rfl
theorem REs.getL {Z : Gh} {l : List (Str × F)} {es : List DictEntry} (h : REs Z l es) (name : Str) :
  match lget l name with
  | some f => ∃ v, getL name es = some (some v) ∧ RF Z f v
  | none => getL name es = some none := by
 have nr := h.noRef
 have key : match lget l name with
  | some f => ∃ e, es.find? (·.key.isStr name) = some e ∧ RF Z f e.val
  | none => es.find? (·.key.isStr name) = none := by
  clear nr
  induction h with
  | nil => simp [lget]
  | @cons x f l hs t v es hf _ ih =>
   rw [lget_cons, List.find?_cons]
   by_cases q : x = name
   ·subst q
    simp only [if_true, isStr_eq, decide_true]
    exact ⟨_, rfl, hf⟩
   ·simp only [if_neg q, isStr_eq, decide_eq_false q]
    exact ih
 cases q : lget l name with
 | none => rw [q] at key; dsimp only at key ⊢; unfold PySem.W.getL; rw [key]; simp [nr]
 | some f =>
  rw [q] at key
  obtain ⟨e, h1, h2⟩ := key
  exact ⟨e.val, by unfold PySem.W.getL; rw [h1], h2⟩
theorem Ents.getL {P : Str → Value → Prop} {xs : List Str} {es : List DictEntry} (h : Ents P xs es) {name : Str} (hm : name ∈ xs) : ∃ v, PySem.W.getL name es = some (some v) ∧ P name v := by
 have key : ∃ e, es.find? (·.key.isStr name) = some e ∧ P name e.val := by
  induction h with
  | nil => cases hm
  | @cons x xs hs t v es hf _ ih =>
   rw [List.find?_cons]
   by_cases q : x = name
   ·subst q
    simp only [isStr_eq, decide_true]
    exact ⟨_, rfl, hf⟩
   ·simp only [isStr_eq, decide_eq_false q]
    rcases List.mem_cons.mp hm with e | e
    ·exact absurd e.symm q
    ·exact ih e
 obtain ⟨e, h1, h2⟩ := key
 exact ⟨e.val, by unfold PySem.W.getL; rw [h1], h2⟩
theorem Ents.getL_none {P : Str → Value → Prop} {xs : List Str} {es : List DictEntry} (h : Ents P xs es) {name : Str} (hm : name ∉ xs) : PySem.W.getL name es = some none := by
 have key : es.find? (·.key.isStr name) = none ∧ es.any (·.refKey) = false := by
  induction h with
  | nil => exact ⟨rfl, rfl⟩
  | @cons x xs hs t v es hf _ ih =>
   have q : x ≠ name := fun q => hm (by rw [q]; exact .head _)
   rw [List.find?_cons, List.any_cons]
   simp only [isStr_eq, decide_eq_false q]
   have := ih fun z => hm (.tail _ z)
   exact ⟨this.1, by rw [this.2]; rfl⟩
 unfold PySem.W.getL
 rw [key.1]
 simp [key.2]
theorem RF.handed {Z : Gh} {f : F} {v : Value} (h : RF Z f v) : handedIn v = true := by
 cases f <;> unfold RF at h
 ·subst h; rfl
 ·subst h; rfl
 ·obtain ⟨t, rfl⟩ := h; rfl
 ·obtain ⟨t, rfl⟩ := h; rfl
 ·obtain ⟨a, n, vs, rfl, _⟩ := h; rfl
 ·obtain ⟨a, n, vs, rfl, _⟩ := h; rfl
 ·obtain ⟨a, d, n, es, rfl, _⟩ := h; rfl
theorem RIs.toF {Z : Gh} : ∀ {l : List Int} {vs : List Value}, RIs l vs → RFs Z (l.map .int) vs
 | [], vs, h => by unfold RIs at h; subst h; simp [RFs]
 | i :: r, vs, h => by
  unfold RIs at h
  obtain ⟨t, r', rfl, b⟩ := h
  simp only [List.map_cons]
  unfold RFs
  exact ⟨_, _, rfl, by unfold RF; exact ⟨t, rfl⟩, RIs.toF b⟩
theorem RIs.ofF {Z : Gh} : ∀ {l : List F} {is : List Int} {vs : List Value}, allInt l = some is → RFs Z l vs → RIs is vs
 | [], is, vs, e, h => by unfold allInt at e; cases e; unfold RFs at h; unfold RIs; exact h
 | x :: r, is, vs, e, h => by
  cases x with
  | int i =>
   simp only [allInt] at e
   cases q : allInt r with
   | none => rw [q] at e; cases e
   | some l =>
    rw [q] at e; cases e
    unfold RFs at h
    obtain ⟨v, r', rfl, a, b⟩ := h
    unfold RF at a
    obtain ⟨t, rfl⟩ := a
    unfold RIs
    exact ⟨t, r', rfl, RIs.ofF q b⟩
  | _ => simp [allInt] at e
section
variable {R : Type} {prog : Program} {w : World} {A : Around} {E : Value → Shared → Prop} {s : Shared} {h₀ : Heap} {os₀ : Bg} {Z : Gh} {ρ : List Addr} {hh : H}
 {k : KV R} {r : R} {Q : Value → Shared → Prop} {n : Nat} {K : Frag} {P : Prg}
theorem get_from {x C d : Addr} {es : List DictEntry} {m : Nat} {name : Str} {v : Value} {attr : Option Value} (KX : K.In s.heap) (ho : s.heap.get? x = some (insO C d)) (hd : s.heap.get? d = some (dicO es m))
  (hg : plainGet K C name = true) (hh : hasDictIn K C = true) (ha : findIn K (.ref C) name = some attr) (hn : noGet K attr = true) (hl : getL name es = some (some v)) (hv : handedIn v = true)
  (h : Q v { s with toks := s.toks + 1 }) : wpAny (model prog w) A (getAttr (.ref x) name true) Q E s :=
 get_value KX (od := some (dicO es m)) ⟨ho, rfl, rfl, hd⟩ (plainGet_of hg).1 (findObj_own hh ha hn (by show lookIn name (dictOf es m) = _; rw [lookIn_dict]; exact hl)) hv h
theorem wsAttr_val {raw : Str} {i nt : Int} {cnt : List Int} {b : Int} {sm : Bool} {name : Str} {f : F} (e : wsAttr name (.ws raw i nt cnt b sm) = some f) :
  name ∈ wsNames ∧ ((name = "n" ∧ f = .int i) ∨ (name = "nt" ∧ f = .int nt) ∨ (name = "norm" ∧ f = .tup [.tup (cnt.map .int), .int b]) ∨ (name = "is_simple" ∧ f = .bool sm) ∨ (name = "raw" ∧ f = .str raw)) := by
 simp only [wsAttr] at e
 split at e
 ·rename_i q; cases e; have q := (steq_iff _ _).mp q; subst q; exact ⟨by decide, .inl ⟨rfl, rfl⟩⟩
 ·split at e
  ·rename_i q; cases e; have q := (steq_iff _ _).mp q; subst q; exact ⟨by decide, .inr (.inl ⟨rfl, rfl⟩)⟩
  ·split at e
   ·rename_i q; cases e; have q := (steq_iff _ _).mp q; subst q; exact ⟨by decide, .inr (.inr (.inl ⟨rfl, rfl⟩))⟩
   ·split at e
    ·rename_i q; cases e; have q := (steq_iff _ _).mp q; subst q; exact ⟨by decide, .inr (.inr (.inr (.inl ⟨rfl, rfl⟩)))⟩
    ·split at e
     ·rename_i q; cases e; have q := (steq_iff _ _).mp q; subst q; exact ⟨by decide, .inr (.inr (.inr (.inr ⟨rfl, rfl⟩)))⟩
     ·cases e
theorem attr_snd (FC : Fct K P) (KX : K.In h₀) {v v' : V} {x : Value} {name : Str} (e : attr P v name hh = some v') (Re : Rel h₀ os₀ Z ρ hh s) (rv : RV Z ρ v x) (e2 : k v' hh = some r) (p : PV h₀ os₀ Z ρ s k r Q) :
  wpAny (model prog w) A (getAttr x name true) Q E s := by
 have KS : K.In s.heap := KX.keeps fun a o q => Re.fz _ _ (Re.base _ _ q)
 have same : ∀ {v : V} {y : Value} {tk : Nat}, RV Z ρ v y → k v hh = some r → Q y { s with toks := tk } := fun rv q => p _ _ _ _ _ _ StpH.refl Re rv q
 unfold attr at e
 split at e
 ·rename_i x
  split at e
  ·rename_i y hy
   cases e
   cases x with
   | ws raw i nt cnt b sm =>
    obtain ⟨hm, hc⟩ := wsAttr_val hy
    unfold RV RF at rv
    obtain ⟨a, d, n, es, rfl, ha, hd, en⟩ := rv
    obtain ⟨u, gl, pp⟩ := en.getL hm
    have hv : RF Z y u := by
     rcases hc with ⟨rfl, rfl⟩ | ⟨rfl, rfl⟩ | ⟨rfl, rfl⟩ | ⟨rfl, rfl⟩ | ⟨rfl, rfl⟩
     ·unfold RF; exact pp.2.1 rfl
     ·unfold RF; exact pp.2.2.1 rfl
     ·obtain ⟨a, n, u', k', m, vs, t, e1, e2, e3, e4, e5⟩ := pp.2.2.2.1 rfl
      unfold RF
      refine ⟨a, n, _, e1, e2, ?_⟩
      unfold RFs
      refine ⟨_, _, rfl, ?_, ?_⟩
      ·unfold RF; exact ⟨t, m, vs, e3, e4, e5.toF⟩
      ·exact RFs.one (by unfold RF; exact ⟨_, rfl⟩)
     ·unfold RF; exact pp.2.2.2.2 rfl
     ·unfold RF; exact pp.1 rfl
    exact get_from KS (Re.fz _ _ ha) (Re.fz _ _ hd) (FC.pl100 _) FC.hd100 (FC.at100 _ hm) rfl gl hv.handed (same (by unfold RV; exact hv) e2)
   | _ => simp [wsAttr] at hy
  ·cases e
 ·rename_i i
  split at e
  ·rename_i l hl
   split at e
   ·rename_i y hw hg
    cases e
    unfold RV at rv
    obtain ⟨a, d, rfl, ha, hd⟩ := rv
    obtain ⟨d', e1, n, es, e3, e4⟩ := Re.objs i _ hl
    rw [hd] at e1; cases e1
    have g := e4.getL name
    rw [hg] at g
    obtain ⟨u, g1, g2⟩ := g
    exact get_from KS (Re.fz _ _ ha) e3 (FC.pl100 _) FC.hd100 (FC.at100 _ (isWsName_mem hw)) rfl g1 g2.handed (same (by unfold RV; exact g2) e2)
   ·cases e
  ·cases e
 ·rename_i i
  split at e
  ·rename_i q
   cases e
   have q := (steq_iff _ _).mp q
   subst q
   unfold RV at rv
   obtain ⟨a, d, l, hs, t, n, rfl, ha, hd, hl⟩ := rv
   refine get_from KS (Re.fz _ _ ha) (Re.fz _ _ hd) (FC.pl279 _) FC.hd279 FC.at279 rfl (v := .ref l) ?_ rfl (same (by unfold RV; exact ⟨l, rfl, hl⟩) e2)
   unfold PySem.W.getL
   simp [List.find?_cons, isStr_eq]
  ·cases e
 ·rename_i a
  split at e
  ·rename_i q
   have q := Nat.eq_of_beq_eq_true q
   subst q
   unfold RV at rv
   subst rv
   split at e
   ·rename_i q; cases e
    have q := (steq_iff _ _).mp q
    subst q
    obtain ⟨mc, t, h1, h2⟩ := FC.clsS
    exact cls_value KS h1 h2 rfl (same (mkRV_str _ _) e2)
   ·split at e
    ·rename_i q; cases e
     have q := (steq_iff _ _).mp q
     subst q
     obtain ⟨mc, t, h1, h2⟩ := FC.clsT
     exact cls_value KS h1 h2 rfl (same (mkRV_str _ _) e2)
    ·cases e
  ·cases e
 ·cases e
end
end Mine
end
section
set_option maxRecDepth 8000
namespace Mine
open PySem PySem.Calls PySem.Spec
variable [Hsh]
section
variable {prog : Program} {w : World} {A : Around} {E : Value → Shared → Prop} {s : Shared}
theorem type_of_str {x : Str} {t : Tok} {Q : Value → Shared → Prop} (hq : Q (.type "str") s) : wpAny (model prog w) A (call (.type "type") [.str x t]) Q E s := by
 refine wpAny_call (codeAny_of_tree ?_)
 show wpAny _ _ (callAny (.type "type") ⟨[.str x t], []⟩) _ _ _
 simp only [callAny]
 refine wpAny_pure ⟨Code.quiet_builtin _ (by decide +kernel), codeAny_builtin entry_type_call ?_⟩
 unfold Builtin.«type.__call__»
 dsimp only
 unfold shownTypeOf
 repeat wp_step
 exact hq
theorem type_of_list {a : Addr} {vs : List Value} {m : Nat} {Q : Value → Shared → Prop} (ha : s.heap.get? a = some (lstO vs m)) (hq : Q (.type "list") s) : wpAny (model prog w) A (call (.type "type") [.ref a]) Q E s := by
 have hT : s.TypeIs (.ref a) "list" := ⟨_, ha, rfl⟩
 refine wpAny_call (codeAny_of_tree ?_)
 show wpAny _ _ (callAny (.type "type") ⟨[.ref a], []⟩) _ _ _
 simp only [callAny]
 refine wpAny_pure ⟨Code.quiet_builtin _ (by decide +kernel), codeAny_builtin entry_type_call ?_⟩
 unfold Builtin.«type.__call__»
 dsimp only
 unfold shownTypeOf
 refine wpAny_bind (wpAny_bind (wpAny_typeOf hT ?_))
 rw [if_neg (by decide +kernel)]
 first
  | exact wpAny_pure (wpAny_pure ⟨_, rfl, hq⟩)
  | exact wpAny_pure (wpAny_pure hq)
  | exact wpAny_bind (wpAny_pure (wpAny_pure (wpAny_pure hq)))
  | ((repeat wp_step); exact hq)
theorem RIs.ints : ∀ {l : List Int} {vs : List Value}, RIs l vs → IntsAre vs l
 | [], vs, h => by unfold RIs at h; subst h; exact .nil
 | i :: r, vs, h => by
  unfold RIs at h
  obtain ⟨t, r', rfl, b⟩ := h
  exact .cons i t (RIs.ints b)
theorem minL_spec : ∀ (r : List Int) (m : Int), minL m r ∈ m :: r ∧ ∀ a ∈ m :: r, minL m r ≤ a
 | [], m => ⟨.head _, fun a ha => by simp at ha; subst ha; exact Int.le_refl _⟩
 | x :: r, m => by
  unfold minL
  by_cases c : x < m
  ·obtain ⟨h1, h2⟩ := minL_spec r x
   rw [if_pos c]
   refine ⟨.tail _ h1, fun a ha => ?_⟩
   rcases List.mem_cons.mp ha with q | q
   ·subst q; have := h2 x (.head _); omega
   ·exact h2 a q
  ·obtain ⟨h1, h2⟩ := minL_spec r m
   rw [if_neg c]
   refine ⟨?_, fun a ha => ?_⟩
   ·rcases List.mem_cons.mp h1 with q | q
    ·rw [q]; exact .head _
    ·exact .tail _ (.tail _ q)
   ·rcases List.mem_cons.mp ha with q | q
    ·subst q; exact h2 a (.head _)
    ·rcases List.mem_cons.mp q with q | q
     ·subst q; have := h2 m (.head _); omega
     ·exact h2 a (.tail _ q)
theorem maxL_spec : ∀ (r : List Int) (m : Int), maxL m r ∈ m :: r ∧ ∀ a ∈ m :: r, a ≤ maxL m r
 | [], m => ⟨.head _, fun a ha => by simp at ha; subst ha; exact Int.le_refl _⟩
 | x :: r, m => by
  unfold maxL
  by_cases c : m < x
  ·obtain ⟨h1, h2⟩ := maxL_spec r x
   rw [if_pos c]
   refine ⟨.tail _ h1, fun a ha => ?_⟩
   rcases List.mem_cons.mp ha with q | q
   ·subst q; have := h2 x (.head _); omega
   ·exact h2 a q
  ·obtain ⟨h1, h2⟩ := maxL_spec r m
   rw [if_neg c]
   refine ⟨?_, fun a ha => ?_⟩
   ·rcases List.mem_cons.mp h1 with q | q
    ·rw [q]; exact .head _
    ·exact .tail _ (.tail _ q)
   ·rcases List.mem_cons.mp ha with q | q
    ·subst q; exact h2 a (.head _)
    ·rcases List.mem_cons.mp q with q | q
     ·subst q; have := h2 m (.head _); omega
     ·exact h2 a (.tail _ q)
theorem min_list {l : Addr} {vs : List Value} {x : Int} {ns : List Int} {m : Nat} {Q : Value → Shared → Prop} (hh : A.handled = none) (hl : s.heap.get? l = some (lstO vs m)) (hi : RIs (x :: ns) vs)
  (h : ∀ h' (t : Tok) tk, (∀ b o, s.heap.get? b = some o → h'.get? b = some o) → Q (.int (minL x ns) t) { s with heap := h', toks := tk }) :
  wpAny (model prog w) A (call (.builtin "min") [.ref l]) Q E s := by
 have hi := hi.ints
 have hL : s.heap.IsList l vs.toArray := ⟨_, hl, rfl, m, rfl⟩
 obtain ⟨xs, e⟩ := hi.allInts.items
 have hns : x :: ns = xs.toList.map (·.1) := by
  rw [← hi.numsOf, ← nums_intItems, ← e]
 have hsz : 0 < xs.size := by
  have h3 : 0 < (x :: ns).length := by simp
  rw [hns, List.length_map, Array.length_toList] at h3; exact h3
 rw [e] at hL
 refine min_intList hh hL hsz fun v h' tk hv hk => ?_
 obtain ⟨t, rfl⟩ := intItems_at hv
 obtain ⟨h1, h2⟩ := argBest_lt (numAt xs) (xs.size - 1)
 have q1 : numAt xs (argBest (fun i j => decide (numAt xs i < numAt xs j)) (xs.size - 1)) ∈ x :: ns := by
  rw [hns, numAt_eq]; exact getD_mem (by rw [List.length_map, Array.length_toList]; omega)
 have q2 : ∀ a ∈ x :: ns, numAt xs (argBest (fun i j => decide (numAt xs i < numAt xs j)) (xs.size - 1)) ≤ a := fun a ha => by
  rw [hns] at ha
  obtain ⟨j, hj, rfl⟩ := mem_getD ha
  rw [List.length_map, Array.length_toList] at hj
  rw [← numAt_eq]; exact h2 j (by omega)
 obtain ⟨s1, s2⟩ := minL_spec ns x
 have : numAt xs (argBest (fun i j => decide (numAt xs i < numAt xs j)) (xs.size - 1)) = minL x ns := Int.le_antisymm (q2 _ s1) (s2 _ q1)
 rw [this]
 exact h h' t tk hk
theorem max_list {l : Addr} {vs : List Value} {x : Int} {ns : List Int} {m : Nat} {Q : Value → Shared → Prop} (hh : A.handled = none) (hl : s.heap.get? l = some (lstO vs m)) (hi : RIs (x :: ns) vs)
  (h : ∀ h' (t : Tok) tk, (∀ b o, s.heap.get? b = some o → h'.get? b = some o) → Q (.int (maxL x ns) t) { s with heap := h', toks := tk }) :
  wpAny (model prog w) A (call (.builtin "max") [.ref l]) Q E s := by
 have hi := hi.ints
 have hL : s.heap.IsList l vs.toArray := ⟨_, hl, rfl, m, rfl⟩
 obtain ⟨xs, e⟩ := hi.allInts.items
 have hns : x :: ns = xs.toList.map (·.1) := by
  rw [← hi.numsOf, ← nums_intItems, ← e]
 have hsz : 0 < xs.size := by
  have h3 : 0 < (x :: ns).length := by simp
  rw [hns, List.length_map, Array.length_toList] at h3; exact h3
 rw [e] at hL
 refine max_intList hh hL hsz fun v h' tk hv hk => ?_
 obtain ⟨t, rfl⟩ := intItems_at hv
 obtain ⟨h1, h2⟩ := argBest_gt (numAt xs) (xs.size - 1)
 have q1 : numAt xs (argBest (fun i j => decide (numAt xs i > numAt xs j)) (xs.size - 1)) ∈ x :: ns := by
  rw [hns, numAt_eq]; exact getD_mem (by rw [List.length_map, Array.length_toList]; omega)
 have q2 : ∀ a ∈ x :: ns, a ≤ numAt xs (argBest (fun i j => decide (numAt xs i > numAt xs j)) (xs.size - 1)) := fun a ha => by
  rw [hns] at ha
  obtain ⟨j, hj, rfl⟩ := mem_getD ha
  rw [List.length_map, Array.length_toList] at hj
  rw [← numAt_eq]; exact h2 j (by omega)
 obtain ⟨s1, s2⟩ := maxL_spec ns x
 have : numAt xs (argBest (fun i j => decide (numAt xs i > numAt xs j)) (xs.size - 1)) = maxL x ns := Int.le_antisymm (s2 _ q1) (q2 _ s1)
 rw [this]
 exact h h' t tk hk
theorem digit_val {x : Str} {i : Int} (e : digitVal x = some i) : PySem.intText? x = some i ∧ x.length ≤ 640 := by
 unfold digitVal at e
 split at e
 ·rename_i c hc
  split at e
  ·rename_i a b
   cases e
   have a := of_decide_eq_true a
   have b := of_decide_eq_true b
   have hx : x = ⟨#[c]⟩ := by cases x; exact congrArg Str.mk (Array.ext' hc)
   subst hx
   have : c = 48 ∨ c = 49 ∨ c = 50 ∨ c = 51 ∨ c = 52 ∨ c = 53 ∨ c = 54 ∨ c = 55 ∨ c = 56 ∨ c = 57 := by omega
   rcases this with h | h | h | h | h | h | h | h | h | h <;> subst h <;> exact ⟨by decide +kernel, by decide⟩
  ·cases e
 ·cases e
end
section
variable {R : Type} {prog : Program} {w : World} {A : Around} {E : Value → Shared → Prop} {s : Shared} {h₀ : Heap} {os₀ : Bg} {Z : Gh} {ρ : List Addr} {hh : H}
 {k : KV R} {r : R} {Q : Value → Shared → Prop} {n : Nat} {K : Frag} {P : Prg} {C : Cl R}
theorem builtin_snd {id : String} {args : List V} {kws : List (Str × V)} {xs : List Value} {ks : List (Str × Value)} (e : callV C (.raw (.builtin id)) args kws hh k = some r) (ok : OkA n A) (Re : Rel h₀ os₀ Z ρ hh s)
  (ra : RVs Z ρ args xs) (rk : kws = [] → ks = []) (p : PV h₀ os₀ Z ρ s k r Q) : wpAny (model prog w) A (call (.builtin id) xs ks) Q E s := by
 have same : ∀ {v : V} {y : Value} {tk : Nat}, RV Z ρ v y → k v hh = some r → Q y { s with toks := tk } := fun rv q => p _ _ _ _ _ _ StpH.refl Re rv q
 have kept : ∀ {v : V} {y : Value} {h' : Heap} {tk : Nat}, (∀ b o, s.heap.get? b = some o → h'.get? b = some o) → RV Z ρ v y → k v hh = some r → Q y { s with heap := h', toks := tk } :=
  fun hk rv q => p _ _ _ _ _ _ (StpH.kept hk) (Re.kept hk) rv q
 simp only [callV] at e
 split at e
 ·rw [rk rfl]
  split at e
  ·rename_i hid
   subst hid
   split at e
   ·rename_i l
    replace e := guardB_some e; obtain ⟨g, e⟩ := e
    have g := fitL_le g
    unfold RVs at ra
    obtain ⟨v, r', rfl, a, b⟩ := ra
    unfold RVs at b; subst b
    unfold RV RF at a
    obtain ⟨ad, m, vs, rfl, hz, rf⟩ := a
    have hl := rf.length
    refine PySem.P.len_tuple (n := m) (items := vs.toArray) (Re.fz _ _ hz) (by simp; omega) ?_
    have : ((vs.toArray.size : Nat) : Int) = l.length := by simp [hl]
    rw [this]; exact same (mkRV_int _ _) e
   ·rename_i l
    replace e := guardB_some e; obtain ⟨g, e⟩ := e
    have g := fitS_le g
    unfold RVs at ra
    obtain ⟨v, r', rfl, a, b⟩ := ra
    unfold RVs at b; subst b
    obtain ⟨t, rfl⟩ := RV_str a
    exact PySem.P.len_str (by omega) (same (mkRV_int _ _) e)
   ·rename_i v0 _ _
    replace e := obind_some e; obtain ⟨l, el, e⟩ := e
    replace e := guardB_some e; obtain ⟨g, e⟩ := e
    have g := fitL_le g
    unfold RVs at ra
    obtain ⟨v, r', rfl, a, b⟩ := ra
    unfold RVs at b; subst b
    obtain ⟨ad, m, vs, rfl, h1, rf⟩ := items_at Re a el
    have hl := rf.length
    refine call_len_list (items := vs.toArray) ⟨_, h1, rfl, m, rfl⟩ (by simp; omega) ?_
    have : ((vs.toArray.size : Nat) : Int) = l.length := by simp [hl]
    rw [this]; exact same (mkRV_int _ _) e
   ·cases e
  ·split at e
   ·rename_i _ hid
    subst hid
    split at e
    ·unfold RVs at ra
     obtain ⟨v, r', rfl, a, b⟩ := ra
     unfold RVs at b
     obtain ⟨v', r'', rfl, a', b⟩ := b
     unfold RVs at b; subst b
     obtain ⟨t, rfl⟩ := RV_int a
     obtain ⟨u, rfl⟩ := RV_int a'
     refine min_two_ints ok.hand fun h' tk hk => ?_
     rename_i i j
     have : (if j < i then Value.int j u else Value.int i t) = Value.int (if j < i then j else i) (if j < i then u else t) := by split <;> rfl
     rw [this]
     exact kept hk (mkRV_int _ _) e
    ·replace e := obind_some e; obtain ⟨l, el, e⟩ := e
     replace e := obind_some e; obtain ⟨is, ei, e⟩ := e
     split at e
     ·replace e := guardB_some e; obtain ⟨g, e⟩ := e
      unfold RVs at ra
      obtain ⟨v, r', rfl, a, b⟩ := ra
      unfold RVs at b; subst b
      obtain ⟨ad, m, vs, rfl, h1, rf⟩ := items_at Re a el
      exact min_list ok.hand h1 (RIs.ofF ei rf) fun h' t tk hk => kept hk (mkRV_int _ _) e
     ·cases e
    ·cases e
   ·split at e
    ·rename_i _ _ hid
     subst hid
     split at e
     ·unfold RVs at ra
      obtain ⟨v, r', rfl, a, b⟩ := ra
      unfold RVs at b
      obtain ⟨v', r'', rfl, a', b⟩ := b
      unfold RVs at b; subst b
      obtain ⟨t, rfl⟩ := RV_int a
      obtain ⟨u, rfl⟩ := RV_int a'
      refine max_two_ints ok.hand fun h' tk hk => ?_
      rename_i i j
      have : (if j > i then Value.int j u else Value.int i t) = Value.int (if i < j then j else i) (if i < j then u else t) := by split <;> rfl
      rw [this]
      exact kept hk (mkRV_int _ _) e
     ·replace e := obind_some e; obtain ⟨l, el, e⟩ := e
      replace e := obind_some e; obtain ⟨is, ei, e⟩ := e
      split at e
      ·replace e := guardB_some e; obtain ⟨g, e⟩ := e
       unfold RVs at ra
       obtain ⟨v, r', rfl, a, b⟩ := ra
       unfold RVs at b; subst b
       obtain ⟨ad, m, vs, rfl, h1, rf⟩ := items_at Re a el
       exact max_list ok.hand h1 (RIs.ofF ei rf) fun h' t tk hk => kept hk (mkRV_int _ _) e
      ·cases e
     ·cases e
    ·cases e
 ·cases e
theorem type_snd {T : String} {args : List V} {kws : List (Str × V)} {xs : List Value} {ks : List (Str × Value)} (e : callV C (.raw (.type T)) args kws hh k = some r) (Re : Rel h₀ os₀ Z ρ hh s)
  (ra : RVs Z ρ args xs) (rk : kws = [] → ks = []) (p : PV h₀ os₀ Z ρ s k r Q) : wpAny (model prog w) A (call (.type T) xs ks) Q E s := by
 have same : ∀ {v : V} {y : Value} {tk : Nat}, RV Z ρ v y → k v hh = some r → Q y { s with toks := tk } := fun rv q => p _ _ _ _ _ _ StpH.refl Re rv q
 simp only [callV] at e
 split at e
 ·rw [rk rfl]
  split at e
  ·unfold RVs at ra
   obtain ⟨v, r', rfl, a, b⟩ := ra
   unfold RVs at b; subst b
   split at e
   ·rename_i hT; subst hT
    replace e := asInt_some e; obtain ⟨i, rfl, e⟩ := e
    replace e := obind_some e; obtain ⟨x, ex, e⟩ := e
    obtain ⟨t, rfl⟩ := RV_int a
    obtain ⟨h0, h9, rfl⟩ := digitText_some ex
    exact str_of_int_fit (N := 100) (by split <;> omega) (by omega) fun _ => same (mkRV_str _ _) e
   ·split at e
    ·rename_i _ hT; subst hT
     replace e := asStr_some e; obtain ⟨x, rfl, e⟩ := e
     replace e := obind_some e; obtain ⟨i, ei, e⟩ := e
     obtain ⟨t, rfl⟩ := RV_str a
     obtain ⟨q1, q2⟩ := digit_val ei
     exact KIN.call_text q1 q2 (same (mkRV_int _ _) e)
    ·split at e
     ·rename_i _ _ hT; subst hT
      replace e := obind_some e; obtain ⟨l, el, e⟩ := e
      replace e := guardB_some e; obtain ⟨g, e⟩ := e
      have g := fitL_le g
      obtain ⟨ad, m, vs, rfl, h1, rf⟩ := items_at Re a el
      have hl := rf.length
      have ll := line_ge
      refine call_tuple_list (items := vs.toArray) ⟨_, h1, rfl, m, rfl⟩ (fun h' hk => ?_) (by simp; omega)
      have R1 := Re.kept hk
      have := newT_snd (s := { s with heap := h' }) (n := 0) (tk := s.toks) R1 rf e (fun y s' Z' ρ' v h'' S' R' rv' e' => p y s' Z' ρ' v h'' ((StpH.kept hk).trans S') R' rv' e')
      exact this
     ·split at e
      ·rename_i _ _ _ hT; subst hT
       split at e
       ·obtain ⟨t, rfl⟩ := RV_str a
        exact type_of_str (same (by unfold RV; rfl) e)
       ·split at e
        ·rename_i i _ l hl
         unfold RV at a
         obtain ⟨ad, rfl, had⟩ := a
         obtain ⟨a', e1, m, vs, h1, rf⟩ := Re.objs i _ hl
         rw [had] at e1; cases e1
         exact type_of_list h1 (same (by unfold RV; rfl) e)
        ·cases e
       ·cases e
      ·cases e
  ·cases e
 ·cases e
end
end Mine
end
section
set_option maxRecDepth 4000
namespace Mine
open PySem PySem.Calls
variable [Hsh]
abbrev PVs {R : Type} (h₀ : Heap) (os₀ : Bg) (Z : Gh) (ρ : List Addr) (s : Shared) (k : List V → H → Option R) (r : R) (Q : List Value → Shared → Prop) : Prop :=
 ∀ y s' Z' ρ' v h', Stp no Z ρ s Z' ρ' s' → Rel h₀ os₀ Z' ρ' h' s' → RVs Z' ρ' v y → k v h' = some r → Q y s'
abbrev PB {R : Type} (h₀ : Heap) (os₀ : Bg) (Z : Gh) (ρ : List Addr) (s : Shared) (k : Bool → H → Option R) (r : R) (Q : Bool → Shared → Prop) : Prop :=
 ∀ y s' Z' ρ' h', Stp no Z ρ s Z' ρ' s' → Rel h₀ os₀ Z' ρ' h' s' → k y h' = some r → Q y s'
def RFl (Z : Gh) (ρ : List Addr) : Fl → Flow → Prop
 | .next, f => f = .next
 | .brk, f => f = .brk
 | .ret v, f => ∃ y, f = .ret y ∧ RV Z ρ v y
abbrev PS {R : Type} (h₀ : Heap) (os₀ : Bg) (env : Env) (sc : Scope) (Z : Gh) (ρ : List Addr) (s : Shared) (k : KS R) (r : R) (Q : Flow → Shared → Prop) : Prop :=
 ∀ f s' Z' ρ' fl lc' h', Stp (own env) Z ρ s Z' ρ' s' → Rel h₀ os₀ Z' ρ' h' s' → FrR env sc lc' Z' ρ' s'.heap → RFl Z' ρ' fl f → k fl lc' h' = some r → Q f s'
abbrev PA {R : Type} (h₀ : Heap) (os₀ : Bg) (env : Env) (sc : Scope) (Z : Gh) (ρ : List Addr) (s : Shared) (k : Lc → H → Option R) (r : R) (Q : Unit → Shared → Prop) : Prop :=
 ∀ s' Z' ρ' lc' h', Stp (own env) Z ρ s Z' ρ' s' → Rel h₀ os₀ Z' ρ' h' s' → FrR env sc lc' Z' ρ' s'.heap → k lc' h' = some r → Q () s'
def RetQ (Q : Value → Shared → Prop) (r : Result) (s : Shared) : Prop := ∃ v, r = .ok (.ret v) ∧ Q v s
structure OkC (n : Nat) (A : Around) : Prop where
 dep : A.depth + 3 * n + 8 ≤ 1000
 uni : A.units + 30 * n + 475 ≤ 9900
 hand : A.handled = none
theorem OkA.toC {n : Nat} {A : Around} (h : OkA n A) : OkC n A := ⟨by have := h.dep; omega, by have := h.uni; omega, h.hand⟩
theorem call_ret {M : Model} {A : Around} {E : Value → Shared → Prop} {s : Shared} {f : Value} {xs : List Value} {ks : List (Str × Value)} {Q : Value → Shared → Prop} (h : codeAny M A (.call f ⟨xs, ks⟩) (RetQ Q) s) : wpAny M A (call f xs ks) Q E s :=
 wpAny_call (codeAny_mono h fun r s' q => by obtain ⟨v, rfl, q⟩ := q; exact q)
def Runs (M : Model) (A : Around) (env : Env) (E : Value → Shared → Prop) : List PySem.Expr → (List Value → Shared → Prop) → Shared → Prop
 | [], Q, s => Q [] s
 | e :: r, Q, s => wpAny M A (eval e env) (fun v s1 => Runs M A env E r (fun vs s2 => Q (v :: vs) s2) s1) E s
section
variable {R : Type} (prog : Program) (w : World) (h₀ : Heap) (n : Nat)
def SEv (f : Scope → Lc → Bool → H → PySem.Expr → KV R → Option R) : Prop :=
 ∀ {sc lc mu hh e k r}, f sc lc mu hh e k = some r → ∀ {A E s os₀ Z ρ env Q}, OkA n A → Rel h₀ os₀ Z ρ hh s → FrR env sc lc Z ρ s.heap → PV h₀ os₀ Z ρ s k r Q → wpAny (model prog w) A (eval e env) Q E s
def SEvs (f : Scope → Lc → Bool → H → List PySem.Expr → (List V → H → Option R) → Option R) : Prop :=
 ∀ {sc lc mu hh e k r}, f sc lc mu hh e k = some r → ∀ {A E s os₀ Z ρ env Q}, OkA n A → Rel h₀ os₀ Z ρ hh s → FrR env sc lc Z ρ s.heap → PVs h₀ os₀ Z ρ s k r Q → Runs (model prog w) A env E e Q s
def STst (f : Scope → Lc → H → PySem.Expr → (Bool → H → Option R) → Option R) : Prop :=
 ∀ {sc lc hh e k r}, f sc lc hh e k = some r → ∀ {A E s os₀ Z ρ env Q}, OkA n A → Rel h₀ os₀ Z ρ hh s → FrR env sc lc Z ρ s.heap → PB h₀ os₀ Z ρ s k r Q → wpAny (model prog w) A (isTrue e env (eval e env)) Q E s
def SEx (f : Scope → Lc → H → Stmt → KS R → Option R) : Prop :=
 ∀ {sc lc hh e k r}, f sc lc hh e k = some r → ∀ {A E s os₀ Z ρ env Q}, OkA n A → Rel h₀ os₀ Z ρ hh s → FrR env sc lc Z ρ s.heap → PS h₀ os₀ env sc Z ρ s k r Q → wpAny (model prog w) A (exec e env) Q E s
def SExs (f : Scope → Lc → H → List Stmt → KS R → Option R) : Prop :=
 ∀ {sc lc hh e k r}, f sc lc hh e k = some r → ∀ {A E s os₀ Z ρ env Q}, OkA n A → Rel h₀ os₀ Z ρ hh s → FrR env sc lc Z ρ s.heap → PS h₀ os₀ env sc Z ρ s k r Q → wpAny (model prog w) A (execs e env) Q E s
def SUse (f : Scope → Lc → Bool → H → PySem.Expr → KV R → Option R) : Prop :=
 ∀ {sc lc mu hh e y kk r}, f sc lc mu hh e (fun v h1 => kk (lset lc y v) h1) = some r → isCompE e = true → kindS sc y = some .local → ∀ {A E s os₀ Z ρ env py Q}, OkA n A → Rel h₀ os₀ Z ρ hh s → FrR env sc lc Z ρ s.heap → PA h₀ os₀ env sc Z ρ s kk r Q →
  wpAny (model prog w) A (evalThenUse e env fun v => PySem.assignAll v [PySem.assign (.Name y py) env]) Q E s
structure SI (I : Ev R) : Prop where
 use : SUse prog w h₀ n I.ev
 ev : SEv prog w h₀ n I.ev
 evs : SEvs prog w h₀ n I.evs
 tst : STst prog w h₀ n I.tst
 ex : SEx prog w h₀ n I.ex
 exs : SExs prog w h₀ n I.exs
inductive RKs (Z : Gh) (ρ : List Addr) : List (Str × V) → List (Str × Value) → Prop
 | nil : RKs Z ρ [] []
 | cons {x : Str} {v : V} {y : Value} {l : List (Str × V)} {m : List (Str × Value)} : RV Z ρ v y → RKs Z ρ l m → RKs Z ρ ((x, v) :: l) ((x, y) :: m)
def SCl (C : Cl R) : Prop :=
 ∀ {a args kws hh k r}, C a args kws hh k = some r → ∀ {A s os₀ Z ρ xs ks Q}, OkC n A → Rel h₀ os₀ Z ρ hh s → RVs Z ρ args xs → RKs Z ρ kws ks → PV h₀ os₀ Z ρ s k r Q →
  codeAny (model prog w) A (.call (.ref a) ⟨xs, ks⟩) (RetQ Q) s
end
def HdrOk (prog : Program) (w : World) (h₀ : Heap) (n : Nat) : Prop :=
 ∀ {A s os₀ Z ρ hh Q}, OkA n A → Rel h₀ os₀ Z ρ hh s →
  (∀ y s' Z' ρ', Stp no Z ρ s Z' ρ' s' → Rel h₀ os₀ Z' ρ' (hh ++ [.list []]) s' → RV Z' ρ' (.hdr hh.length) y → Q y s') → codeAny (model prog w) A (.call (.ref 279) ⟨[], []⟩) (RetQ Q) s
structure Base (w : World) (h₀ : Heap) (K : Frag) (P : Prg) : Prop where
 KX : K.In h₀
 fct : Fct K P
 glob : ∀ x v, P.G x = some v → ∀ {M : Model} {A : Around} {E : Value → Shared → Prop} {s : Shared} {env : Env} {Z : Gh} {ρ : List Addr} {Q : Value → Shared → Prop}, (∀ a o, h₀.get? a = some o → s.heap.get? a = some o) → env.globals = mainGlobals → env.builtins = builtinsNs →
  env.scope.kind = .function → env.kindOf x = some .globalImplicit → (∀ y, RV Z ρ v y → Q y s) → wpAny M A (loadName env x) Q E s
 fn279 : ∀ fi, P.fn 279 ≠ some fi
 keepFn : ∀ a, (a = 100 ∨ a = 279 ∨ (P.fn a).isSome = true) → keepIn K (.ref a) = true
 wM : ∀ x g, P.wMeth x = some g → findIn K (.ref 100) x = some (some (.ref g)) ∧ isFn K (.ref g) = true ∧ x ∉ wsNames ∧ keepIn K (.ref g) = true
 hM : ∀ x g, P.hMeth x = some g → findIn K (.ref 279) x = some (some (.ref g)) ∧ isFn K (.ref g) = true ∧ x ≠ "_headers" ∧ keepIn K (.ref g) = true
 wMk : makesIn K 100 = true ∧ findIn K (.ref 100) "__init__" = some (some (.ref 55)) ∧ typeIn K (.ref 55) = some (.type "function")
 xM : ∃ o, K.lookup 126 = some o ∧ o.cls = .type "dict" ∧ o.dict = none
 xGet : ∀ x o, P.exact x = some o → ∀ {prog : Program} {A : Around} {E : Value → Shared → Prop} {s : Shared} {t : Tok} {d : Value} {Q : Value → Shared → Prop}, A.handled = none → A.units + 500 ≤ 9900 → K.In s.heap →
  (∀ y h' tk, (∀ b p, s.heap.get? b = some p → h'.get? b = some p) → (match o with | some i => ∃ u, y = .int i u | none => y = d) → Q y { s with heap := h', toks := tk }) →
  wpAny (model prog w) A (call (.builtin "dict.get") [.ref 126, .str x t, d]) Q E s
 sGet : ∀ a, a = 145 ∨ a = 150 → ∃ id, (∀ {prog : Program} {w : World} {A : Around} {E : Value → Shared → Prop} {s : Shared} {pl : Sem Bool} {Q : Value × List Value → Shared → Prop}, K.In s.heap → Q (.builtin id, [.ref a]) s →
   wpAny (model prog w) A (getMethod (.ref a) "search" pl) Q E s) ∧
  ∀ {prog : Program} {w : World} {A : Around} {E : Value → Shared → Prop} {s : Shared} {x : Str} {t : Tok} {Q : Value → Shared → Prop}, A.handled = none → A.units + 500 ≤ 9900 → K.In s.heap → calm x = true → x.length ≤ 100000 →
   (∀ h' tk, (∀ b p, s.heap.get? b = some p → h'.get? b = some p) → Q .none { s with heap := h', toks := tk }) → wpAny (model prog w) A (call (.builtin id) [.ref a, .str x t]) Q E s
section
variable {R : Type} {prog : Program} {w : World} {A : Around} {E : Value → Shared → Prop} {s : Shared} {h₀ : Heap} {os₀ : Bg} {Z : Gh} {ρ : List Addr} {hh : H} {env : Env} {sc : Scope} {lc : Lc}
 {k : KV R} {r : R} {Q : Value → Shared → Prop} {n : Nat} {K : Frag} {P : Prg} {C : Cl R} {I : Ev R}
theorem Base.KS (B : Base w h₀ K P) (Re : Rel h₀ os₀ Z ρ hh s) : K.In s.heap := B.KX.keeps fun a o q => Re.fz _ _ (Re.base _ _ q)
theorem name_ne {x : Str} (h : steq x "__debug__" = false) : (x == ("__debug__" : Str)) = false := by
 rw [steq_eq] at h
 have := of_decide_eq_false h
 exact beq_eq_false_iff_ne.mpr this
theorem name_snd (B : Base w h₀ K P) {x : Str} {pos : Pos} {v : V} (e : nameV P sc lc x = some v) (Re : Rel h₀ os₀ Z ρ hh s) (F : FrR env sc lc Z ρ s.heap) (p : ∀ y, RV Z ρ v y → Q y s) :
  wpAny (model prog w) A (eval (.Name x pos) env) Q E s := by
 unfold nameV at e
 split at e
 ·rename_i hd
  have hd := (steq_iff _ _).mp hd
  subst hd
  cases e
  have hev : eval (.Name ("__debug__" : Str) pos) env = (do standAt pos; debugConstant) := rfl
  rw [hev]
  refine wpAny_bind (wpAny_standAt ?_)
  unfold debugConstant
  exact wpAny_bind (wpAny_rule (wpAny_pure (p _ (mkRV_bool _))))
 ·rename_i hd
  refine wpAny_Name ?_ (name_ne hd)
  split at e
  ·rename_i hk
   exact frame_load F (by unfold isLocal; rw [hk]) e p
  ·rename_i hk
   exact frame_load F (by unfold isLocal; rw [hk]) e p
  ·rename_i hk
   refine B.glob x v e (fun a o q => Re.fz _ _ (Re.base _ _ q)) F.glob F.bins (by rw [F.esc]; exact F.kind) ?_ p
   rw [← kindS_eq, F.esc]; exact hk
  ·cases e
theorem evs_snd {sc : Scope} {lc : Lc} {mu : Bool} {es : List PySem.Expr} {k : List V → H → Option R} {Q : List Value → Shared → Prop} (S : SI prog w h₀ n I) (e : evsStep I sc lc mu hh es k = some r) (ok : OkA n A) (Re : Rel h₀ os₀ Z ρ hh s) (F : FrR env sc lc Z ρ s.heap)
  (p : PVs h₀ os₀ Z ρ s k r Q) : Runs (model prog w) A env E es Q s := by
 cases es with
 | nil => exact p _ _ _ _ [] _ StpH.refl Re (by unfold RVs; rfl) e
 | cons a l =>
  refine S.ev e ok Re F fun y s1 Z1 ρ1 v h1 S1 R1 rv1 e1 => ?_
  refine S.evs e1 ok R1 (F.step S1) fun ys s2 Z2 ρ2 vs h2 S2 R2 rv2 e2 => ?_
  exact p _ _ _ _ (v :: vs) _ (S1.trans S2) R2 (by unfold RVs; exact ⟨_, _, rfl, rv1.mono S2.zz S2.rr, rv2⟩) e2
theorem Runs.mono {M : Model} {E : Value → Shared → Prop} : ∀ {es : List PySem.Expr} {Q Q' : List Value → Shared → Prop} {s : Shared}, Runs M A env E es Q s → (∀ vs s', Q vs s' → Q' vs s') → Runs M A env E es Q' s
 | [], _, _, _, h, f => f _ _ h
 | _ :: _, _, _, _, h, f => wpAny_mono h (fun _ _ h1 => Runs.mono h1 fun _ _ => f _ _) fun _ _ x => x
theorem starEach_plain {e : PySem.Expr} {r : List PySem.Expr} (h : notStar e = true) : starEach (e :: r) env = (false, eval e env) :: starEach r env := by
 cases e <;> first | rfl | cases h
theorem Runs.spliced {M : Model} {E : Value → Shared → Prop} {pos : Pos} : ∀ {es : List PySem.Expr} {Q : List Value → Shared → Prop} {s : Shared}, Runs M A env E es Q s → es.all notStar = true → wpAny M A (spliced (backTo pos (starEach es env))) Q E s
 | [], _, _, h, _ => wpAny_items_nil h
 | e :: r, _, _, h, hn => by
  rw [List.all_cons, Bool.and_eq_true] at hn
  exact wpAny_items_cons (wpAny_mono h (fun _ _ h1 => Runs.spliced h1 hn.2) fun _ _ x => x) (starEach_plain hn.1)
theorem starEach_any {pos : Pos} : ∀ {es : List PySem.Expr}, es.all notStar = true → (backTo pos (starEach es env)).any (·.1) = false
 | [], _ => rfl
 | e :: r, hn => by
  rw [List.all_cons, Bool.and_eq_true] at hn
  rw [starEach_plain hn.1]
  show (false || (backTo pos (starEach r env)).any (·.1)) = false
  rw [starEach_any hn.2]; rfl
theorem starEach_all {pos : Pos} : ∀ {es : List PySem.Expr}, es.all notStar = true → (backTo pos (starEach es env)).all (fun x => !x.1) = true
 | [], _ => rfl
 | e :: r, hn => by
  rw [List.all_cons, Bool.and_eq_true] at hn
  rw [starEach_plain hn.1]
  show (true && (backTo pos (starEach r env)).all (fun x => !x.1)) = true
  rw [starEach_all hn.2]; rfl
theorem mkTup_RV {vs : List V} {xs : List Value} {a : Addr} {m : Nat} (hz : Z a = some (tupO xs m)) (rv : RVs Z ρ vs xs) : RV Z ρ (mkTup vs) (.ref a) := by
 unfold mkTup
 split
 ·rename_i fs q
  unfold RV RF
  exact ⟨a, m, xs, rfl, hz, RVs.ofF q rv⟩
 ·unfold RV
  exact ⟨a, m, xs, rfl, hz, rv⟩
theorem RVs.toLoc : ∀ {vs : List V} {l : List Nat} {xs : List Value}, allLoc vs = some l → RVs Z ρ vs xs → RLs ρ l xs
 | [], l, xs, e, h => by unfold allLoc at e; cases e; unfold RVs at h; exact h
 | x :: r, l, xs, e, h => by
  cases x with
  | loc y =>
   simp only [allLoc] at e
   cases q : allLoc r with
   | none => rw [q] at e; cases e
   | some l' =>
    rw [q] at e; cases e
    unfold RVs at h
    obtain ⟨v, r', rfl, a, b⟩ := h
    unfold RV at a
    obtain ⟨d, rfl, hd⟩ := a
    exact ⟨d, r', rfl, hd, RVs.toLoc q b⟩
  | _ => simp [allLoc] at e
theorem plain_all {args : List PySem.Expr} {kws : List Keyword} (h : plainArgs args kws = true) : args.all notStar = true ∧ kws.all (fun k => k.arg.isSome) = true ∧ args.length + kws.length < 20 := by
 unfold plainArgs at h
 rw [Bool.and_eq_true, Bool.and_eq_true] at h
 exact ⟨h.1.1, h.1.2, of_decide_eq_true h.2⟩
theorem Runs.len {M : Model} {E : Value → Shared → Prop} : ∀ {es : List PySem.Expr} {Q : List Value → Shared → Prop} {s : Shared}, Runs M A env E es Q s → Runs M A env E es (fun vs s' => vs.length = es.length ∧ Q vs s') s
 | [], _, _, h => ⟨rfl, h⟩
 | _ :: _, _, _, h => wpAny_mono h (fun _ _ h1 => (Runs.len h1).mono fun _ _ q => ⟨by simp [q.1], q.2⟩) fun _ _ x => x
theorem tuple_snd {mu : Bool} {es : List PySem.Expr} {c : Nat} {pos : Pos} (S : SI prog w h₀ n I) (g : plainArgs es [] = true) (e : I.evs sc lc mu hh es (fun vs h1 => k (mkTup vs) h1) = some r) (ok : OkA n A) (Re : Rel h₀ os₀ Z ρ hh s) (F : FrR env sc lc Z ρ s.heap)
  (p : PV h₀ os₀ Z ρ s k r Q) : wpAny (model prog w) A (eval (.Tuple es c pos) env) Q E s := by
 obtain ⟨g1, -, g2⟩ := plain_all g
 have ll := line_ge
 refine wpAny_Tuple (Runs.spliced ?_ g1)
 refine Runs.mono (Q := fun vs s' => vs.length = es.length ∧ _) (Runs.len (S.evs e ok Re F fun ys s1 Z1 ρ1 vs h1 S1 R1 rv1 e1 => ?_)) fun vs s' q => ⟨by rw [q.1]; simp at g2; omega, q.2⟩
 obtain ⟨R2, S2⟩ := R1.push (o := tupO ys 0) rfl
 exact p _ _ _ _ _ _ (S1.trans S2) R2 (mkTup_RV (put_self _ _ _) (rv1.mono S2.zz S2.rr)) e1
theorem list_snd {mu : Bool} {es : List PySem.Expr} {pos : Pos} (S : SI prog w h₀ n I) (g : plainArgs es [] = true)
  (e : I.evs sc lc mu hh es (fun vs h1 => match mu with
  | true => (match allF vs with
   | some l => k (.loc h1.length) (h1 ++ [.list l])
   | none => (match allLoc vs with
    | some l => k (.loc h1.length) (h1 ++ [.locs l])
    | none => none))
  | false => obind (allF vs) fun l => k (.f (.lst l)) h1) = some r) (ok : OkA n A) (Re : Rel h₀ os₀ Z ρ hh s) (F : FrR env sc lc Z ρ s.heap)
  (p : PV h₀ os₀ Z ρ s k r Q) : wpAny (model prog w) A (eval (.List es pos) env) Q E s := by
 obtain ⟨g1, -, g2⟩ := plain_all g
 have ll := line_ge
 refine wpAny_List (Runs.spliced ?_ g1)
 refine Runs.mono (Q := fun vs s' => vs.length = es.length ∧ _) (Runs.len (S.evs e ok Re F fun ys s1 Z1 ρ1 vs h1 S1 R1 rv1 e1 => ?_)) fun vs s' q => ⟨by rw [q.1]; simp at g2; omega, q.2⟩
 have pp : PV h₀ os₀ Z1 ρ1 s1 k r Q := fun y s' Z' ρ' v h' S' R' rv' e' => p y s' Z' ρ' v h' (S1.trans S') R' rv' e'
 cases mu with
 | false =>
  replace e1 := obind_some e1; obtain ⟨l, el, e1⟩ := e1
  obtain ⟨R2, S2⟩ := R1.push (o := lstO ys 0) rfl
  refine pp _ _ _ _ _ _ S2 R2 ?_ e1
  unfold RV RF
  exact ⟨_, 0, ys, rfl, put_self _ _ _, RFs.mono S2.zz (RVs.ofF el rv1)⟩
 | true =>
  dsimp only at e1
  have key : ∀ o : O, RO Z1 (ρ1 ++ [s1.heap.objs.size]) (s1.heap.push (lstO ys 0)) o s1.heap.objs.size → k (.loc h1.length) (h1 ++ [o]) = some r →
    Q (.ref s1.heap.objs.size) { s1 with heap := s1.heap.push (lstO ys 0) } := fun o ro ek => by
   obtain ⟨R2, S2⟩ := R1.pushLoc (o := lstO ys 0) (p := o) rfl ro
   refine pp _ _ _ _ _ _ S2 R2 ?_ ek
   unfold RV
   refine ⟨_, rfl, ?_⟩
   rw [List.getElem?_append_right (by rw [R1.len]; exact Nat.le_refl _), R1.len, Nat.sub_self]; rfl
  split at e1
  ·rename_i l el
   exact key (.list l) ⟨0, ys, Heap.get?_push_size _ rfl, RVs.ofF el rv1⟩ e1
  ·split at e1
   ·rename_i l el
    exact key (.locs l) ⟨0, ys, Heap.get?_push_size _ rfl, RLs.mono (Z := Z1) (Z' := Z1) (fun _ _ z => z) ⟨_, rfl⟩ (RVs.toLoc el rv1)⟩ e1
   ·cases e1
end
end Mine
end
section
set_option maxRecDepth 4000
namespace Mine
open PySem PySem.Calls
variable [Hsh]
section
variable {R : Type} {prog : Program} {w : World} {A : Around} {E : Value → Shared → Prop} {s : Shared} {h₀ : Heap} {os₀ : Bg} {Z : Gh} {ρ : List Addr} {hh : H} {env : Env} {sc : Scope} {lc : Lc}
 {k : KV R} {r : R} {Q : Value → Shared → Prop} {n : Nat} {K : Frag} {P : Prg} {C : Cl R} {I : Ev R}
theorem behind_of {op : CmpOp} {e : PySem.Expr} (h : notSet e = true) : behindInMarks op e = false := by
 cases e <;> first | rfl | cases h
theorem truthy_snd {v : V} {y : Value} {b : Bool} {Q : Bool → Shared → Prop} (e : truthyV v = some b) (rv : RV Z ρ v y) (q : Q b s) : wpAny (model prog w) A (truthy y) Q E s := by
 unfold truthyV at e
 split at e
 ·rename_i x
  unfold truthyF at e
  split at e
  ·cases e; rw [RV_none rv]; exact fun _ _ _ => q
  ·cases e; rw [RV_bool rv]; exact wpAny_truthy_bool q
  ·cases e
   obtain ⟨t, rfl⟩ := RV_int rv
   refine PySem.P.truthy_int ?_
   rename_i i
   have : (i != 0) = decide (i ≠ 0) := by
    by_cases h : i = 0 <;> simp [h]
   rw [this]; exact q
  ·cases e
 ·cases e
theorem cmpV_snd {l r' : PySem.Expr} {op : CmpOp} {kb : Bool → H → Option R} {Q : Value → Shared → Prop} (S : SI prog w h₀ n I)
  (e : I.ev sc lc false hh l (fun a h1 => I.ev sc lc false h1 r' fun b h2 => cmp op a b h2 fun x => kb x h2) = some r) (ok : OkA n A) (Re : Rel h₀ os₀ Z ρ hh s) (F : FrR env sc lc Z ρ s.heap)
  (p : ∀ c s' Z' ρ' h', Stp no Z ρ s Z' ρ' s' → Rel h₀ os₀ Z' ρ' h' s' → kb c h' = some r → Q (.bool c) s') :
  wpAny (model prog w) A (eval l env) (fun a s₁ => wpAny (model prog w) A (eval r' env) (fun b s₂ => wpAny (model prog w) A (compareOp op a b) Q E s₂) E s₁) E s := by
 refine S.ev e ok Re F fun y1 s1 Z1 ρ1 v1 h1 S1 R1 rv1 e1 => ?_
 refine S.ev e1 ok R1 (F.step S1) fun y2 s2 Z2 ρ2 v2 h2 S2 R2 rv2 e2 => ?_
 exact cmp_snd e2 ok R2 (rv1.mono S2.zz S2.rr) rv2 fun c ec => p c _ _ _ _ (S1.trans S2) R2 ec
theorem tsts_snd {op : BoolOp} {kb : Bool → H → Option R} {Q : Bool → Shared → Prop} (S : SI prog w h₀ n I) (ok : OkA n A) (hop : op = .And) : ∀ (es : List PySem.Expr) {hh : H} {s : Shared} {Z : Gh} {ρ : List Addr},
  tsts I sc lc hh es kb = some r → Rel h₀ os₀ Z ρ hh s → FrR env sc lc Z ρ s.heap → PB h₀ os₀ Z ρ s kb r Q → wpAny (model prog w) A (allTrue op es env) Q E s
 | [], _, _, _, _, e, Re, F, p => by subst hop; exact wpAny_allTrue_And_nil (p _ _ _ _ _ StpH.refl Re e)
 | x :: l, _, _, _, _, e, Re, F, p => by
  subst hop
  refine wpAny_allTrue_And_cons (S.tst e ok Re F fun b s1 Z1 ρ1 h1 S1 R1 e1 => ?_)
  cases b with
  | true => exact tsts_snd S ok rfl l e1 R1 (F.step S1) fun b s2 Z2 ρ2 h2 S2 R2 e2 => p b s2 Z2 ρ2 h2 (S1.trans S2) R2 e2
  | false => exact p _ _ _ _ _ S1 R1 e1
theorem orAll_snd {op : BoolOp} {kb : Bool → H → Option R} {Q : Bool → Shared → Prop} (S : SI prog w h₀ n I) (ok : OkA n A) (hop : op = .Or) : ∀ (es : List PySem.Expr) {hh : H} {s : Shared} {Z : Gh} {ρ : List Addr},
  orAll I sc lc hh es kb = some r → Rel h₀ os₀ Z ρ hh s → FrR env sc lc Z ρ s.heap → PB h₀ os₀ Z ρ s kb r Q → wpAny (model prog w) A (allTrue op es env) Q E s
 | [], _, _, _, _, e, Re, F, p => by subst hop; exact wpAny_allTrue_Or_nil (p _ _ _ _ _ StpH.refl Re e)
 | x :: l, _, _, _, _, e, Re, F, p => by
  subst hop
  refine wpAny_allTrue_Or_cons (S.tst e ok Re F fun b s1 Z1 ρ1 h1 S1 R1 e1 => ?_)
  cases b with
  | false => exact orAll_snd S ok rfl l e1 R1 (F.step S1) fun b s2 Z2 ρ2 h2 S2 R2 e2 => p b s2 Z2 ρ2 h2 (S1.trans S2) R2 e2
  | true => exact p _ _ _ _ _ S1 R1 e1
theorem tst_snd {e : PySem.Expr} {kb : Bool → H → Option R} {Q : Bool → Shared → Prop} (S : SI prog w h₀ n I) (h : tstStep I sc lc hh e kb = some r) (ok : OkA n A) (Re : Rel h₀ os₀ Z ρ hh s) (F : FrR env sc lc Z ρ s.heap)
  (p : PB h₀ os₀ Z ρ s kb r Q) : wpAny (model prog w) A (isTrue e env (eval e env)) Q E s := by
 unfold tstStep at h
 split at h
 ·replace h := guardB_some h; obtain ⟨g, h⟩ := h
  exact wpAny_isTrue_Compare1 (cmpV_snd S h ok Re F fun c s' Z' ρ' h' S' R' e' => wpAny_truthy_bool (p c s' Z' ρ' h' S' R' e')) (behind_of g)
 ·exact wpAny_isTrue_BoolOp (tsts_snd S ok rfl _ h Re F p)
 ·exact wpAny_isTrue_BoolOp (orAll_snd S ok rfl _ h Re F p)
 ·replace h := guardB_some h; obtain ⟨g, h⟩ := h
  refine wpAny_isTrue_value (S.ev h ok Re F fun y s1 Z1 ρ1 v h1 S1 R1 rv1 e1 => ?_) (by cases e <;> first | rfl | cases g)
  replace e1 := obind_some e1; obtain ⟨b, eb, e1⟩ := e1
  exact truthy_snd eb rv1 (p b _ _ _ _ S1 R1 e1)
theorem formatted_str {x : Str} {t : Tok} (q : ∀ t' k, Q (.str x t') { s with toks := k }) (hx : x.length ≤ sizeLine) : wpAny (model prog w) A (convS (.str x t)) (fun r s₂ => wpAny (model prog w) A (formatField r Str.empty) Q E s₂) E s := by
 show wpAny (model prog w) A (habitSame "fstring-hands-on-the-str" (.str x t)) _ E s
 exact wpAny_habitSame_str (wpAny_formatField_str (q t s.toks) (q _ _) hx) (wpAny_formatField_str (q _ _) (q _ _) hx) hx
theorem joins_snd {kb : Str → H → Option R} {Q : Str → Shared → Prop} (S : SI prog w h₀ n I) (ok : OkA n A) : ∀ {es : List PySem.Expr} {acc : Str} {hh : H} {s : Shared} {Z : Gh} {ρ : List Addr}, joinE I sc lc hh acc es kb = some r →
  acc.length ≤ sizeLine → Rel h₀ os₀ Z ρ hh s → FrR env sc lc Z ρ s.heap →
  (∀ x s' Z' ρ' h', Stp no Z ρ s Z' ρ' s' → Rel h₀ os₀ Z' ρ' h' s' → kb x h' = some r → x.length ≤ sizeLine → Q x s') → Joins (model prog w) A E (evalEach es env) acc Q s
 | [], acc, hh, s, Z, ρ, e, ha, Re, F, p => p _ _ _ _ _ StpH.refl Re e ha
 | x :: l, acc, hh, s, Z, ρ, e, ha, Re, F, p => by
  show wpAny (model prog w) A (eval x env) _ E s
  refine S.ev e ok Re F fun y s1 Z1 ρ1 v h1 S1 R1 rv1 e1 => ?_
  replace e1 := asStr_some e1; obtain ⟨i, rfl, e1⟩ := e1
  replace e1 := guardB_some e1; obtain ⟨g, e1⟩ := e1
  obtain ⟨t, rfl⟩ := RV_str rv1
  have ll := line_ge
  have g := fitS_le g
  exact ⟨i, t, rfl, by omega, joins_snd S ok e1 (by omega) R1 (F.step S1) fun x s' Z' ρ' h' S' R' e' hl => p x s' Z' ρ' h' (S1.trans S') R' e' hl⟩
theorem part_snd {e : Option PySem.Expr} {kb : Option Int → H → Option R} {Q : Value → Shared → Prop} (S : SI prog w h₀ n I) (h : optI (β := R) I sc lc hh e kb = some r) (ok : OkA n A) (Re : Rel h₀ os₀ Z ρ hh s) (F : FrR env sc lc Z ρ s.heap)
  (p : ∀ o y s' Z' ρ' h', Stp no Z ρ s Z' ρ' s' → Rel h₀ os₀ Z' ρ' h' s' → PartIs o y → kb o h' = some r → Q y s') : wpAny (model prog w) A (evalPart e env) Q E s := by
 cases e with
 | none => rw [evalPart_none]; exact wpAny_pure (p none _ _ _ _ _ StpH.refl Re rfl h)
 | some e =>
  rw [evalPart_some]
  refine S.ev h ok Re F fun y s1 Z1 ρ1 v h1 S1 R1 rv1 e1 => ?_
  replace e1 := asInt_some e1; obtain ⟨i, rfl, e1⟩ := e1
  exact p (some i) _ _ _ _ _ S1 R1 (RV_int rv1) e1
theorem Subscript_part {value : PySem.Expr} {lower upper step : Option PySem.Expr} {q pos : Pos} {Q : Value → Shared → Prop}
  (h : wpAny (model prog w) A (eval value env) (fun o s₁ => wpAny (model prog w) A (eval (.Slice lower upper step q) env) (fun i s₂ => ∃ T id, typeLookup (.type T) "__getitem__" = pure (some (.builtin id)) ∧ s₂.TypeIs o T ∧ wpAny (model prog w) A (getItem o i) Q E s₂) E s₁) E s) :
  wpAny (model prog w) A (eval (.Subscript value (.Slice lower upper step q) pos) env) Q E s := by
 refine PyProof.Rows.Subscript_ (wpAny_mono h (fun o s1 h1 => wpAny_mono h1 (fun i s2 h2 => ?_) fun _ _ x => x) fun _ _ x => x)
 obtain ⟨T, id, hl, hT, hg⟩ := h2
 obtain ⟨ops, hs⟩ := subscripted_any (.Slice lower upper step q) o i
 exact tail_any hT hl hg hs
end
end Mine
end
section
set_option maxRecDepth 4000
namespace Mine
open PySem PySem.Calls
variable [Hsh]
section
variable {R : Type} {prog : Program} {w : World} {A : Around} {E : Value → Shared → Prop} {s : Shared} {h₀ : Heap} {os₀ : Bg} {Z : Gh} {ρ : List Addr} {hh : H} {env : Env} {sc : Scope} {lc : Lc}
 {k : KV R} {r : R} {Q : Value → Shared → Prop} {n : Nat} {K : Frag} {P : Prg} {C : Cl R} {I : Ev R}
open Builtin Builtin.Str in
theorem RFs.strs {Z : Gh} : ∀ {l : List F} {ts : List Str} {vs : List Value}, allStr l = some ts → RFs Z l vs → ∃ ps : List (Str × Tok), vs = strValues ps ∧ ps.map (·.1) = ts
 | [], ts, vs, e, h => by unfold allStr at e; cases e; unfold RFs at h; subst h; exact ⟨[], rfl, rfl⟩
 | x :: r, ts, vs, e, h => by
  cases x with
  | str y =>
   simp only [allStr] at e
   cases q : allStr r with
   | none => rw [q] at e; cases e
   | some l =>
    rw [q] at e; cases e
    unfold RFs at h
    obtain ⟨v, r', rfl, a, b⟩ := h
    unfold RF at a
    obtain ⟨t, rfl⟩ := a
    obtain ⟨ps, rfl, rfl⟩ := RFs.strs q b
    exact ⟨(y, t) :: ps, rfl, rfl⟩
  | _ => simp [allStr] at e
theorem RFs.ofStrs {Z : Gh} : ∀ (ps : List (Str × Tok)), RFs Z ((ps.map (·.1)).map .str) (strValues ps)
 | [] => by unfold RFs; rfl
 | (x, t) :: r => by
  show RFs Z (.str x :: _) (Value.str x t :: strValues r)
  unfold RFs
  exact ⟨_, _, rfl, by unfold RF; exact ⟨t, rfl⟩, RFs.ofStrs r⟩
open Builtin Builtin.Str in
theorem joinOk_of (x : Str) (ts : List Str) (h : sumLen x ts ≤ 100000) : JoinOk x ts = true := by
 have key : ∀ (l : List Str) (a : Nat), l.foldl (· + ·.length + x.length) a = a + sumLen x l := by
  intro l
  induction l with
  | nil => intro a; rfl
  | cons y l ih => intro a; rw [List.foldl_cons, ih]; show _ = a + (y.length + x.length + sumLen x l); omega
 unfold JoinOk tooLong
 rw [List.foldl_toArray, key]
 have ll := line_ge
 simp; omega
theorem RVs_nil {xs : List Value} (h : RVs Z ρ [] xs) : xs = [] := by unfold RVs at h; exact h
theorem RVs_cons {v : V} {l : List V} {xs : List Value} (h : RVs Z ρ (v :: l) xs) : ∃ y r, xs = y :: r ∧ RV Z ρ v y ∧ RVs Z ρ l r := by unfold RVs at h; exact h
open Builtin Builtin.Str in
theorem str_meth {x : Str} {t : Tok} {name : Str} {args : List V} {kws : List (Str × V)} {xs : List Value} {ks : List (Str × Value)} {id : String} (hid : (name = "lower" ∧ id = "str.lower") ∨ (name = "replace" ∧ id = "str.replace") ∨ (name = "split" ∧ id = "str.split") ∨ (name = "join" ∧ id = "str.join"))
  (e : methV P C (.f (.str x)) name args kws hh k = some r) (Re : Rel h₀ os₀ Z ρ hh s) (ra : RVs Z ρ args xs) (rk : RKs Z ρ kws ks) (p : PV h₀ os₀ Z ρ s k r Q) : wpAny (model prog w) A (call (.builtin id) (.str x t :: xs) ks) Q E s := by
 have same : ∀ {v : V} {y : Value} {tk : Nat}, RV Z ρ v y → k v hh = some r → Q y { s with toks := tk } := fun rv q => p _ _ _ _ _ _ StpH.refl Re rv q
 have ll := line_ge
 simp only [methV] at e
 cases rk with
 | cons _ _ => cases e
 | nil =>
  dsimp only at e
  split at e
  ·rename_i hl
   have hl := (steq_iff _ _).mp hl
   subst hl
   rcases hid with ⟨-, rfl⟩ | ⟨q, -⟩ | ⟨q, -⟩ | ⟨q, -⟩
   ·replace e := guardB_some e; obtain ⟨g, e⟩ := e
    have g := fitS_le g
    rw [RVs_nil ra]
    exact SC.lower (fit_lower (by omega)) (same (mkRV_str _ _) e)
   all_goals exact absurd q (by decide)
  ·rename_i hl'
   split at e
   ·rename_i hr
    have hr := (steq_iff _ _).mp hr
    subst hr
    rcases hid with ⟨q, -⟩ | ⟨-, rfl⟩ | ⟨q, -⟩ | ⟨q, -⟩
    ·exact absurd q (by decide)
    ·replace e := guardB_some e; obtain ⟨g, e⟩ := e
     obtain ⟨y1, r1, rfl, a1, ra⟩ := RVs_cons ra
     obtain ⟨y2, r2, rfl, a2, ra⟩ := RVs_cons ra
     rw [RVs_nil ra]
     obtain ⟨u, rfl⟩ := RV_str a1
     obtain ⟨u', rfl⟩ := RV_str a2
     refine call_gives PySem.F.slot_str_replace (typeIs_str _ _ _) PySem.F.entry_str_replace (PySem.F.args_str_replace_3 _ _ _) (gives_str_replace x _ _ t u u' fun hc => ?_) ?_
     ·rw [g] at hc; cases hc
     ·simp only [g, Bool.true_or, if_true]
      exact same (tk := s.toks) (mkRV_str _ _) e
    all_goals exact absurd q (by decide)
   ·rename_i hr'
    split at e
    ·rename_i hs
     have hs := (steq_iff _ _).mp hs
     subst hs
     rcases hid with ⟨q, -⟩ | ⟨q, -⟩ | ⟨-, rfl⟩ | ⟨q, -⟩
     ·exact absurd q (by decide)
     ·exact absurd q (by decide)
     ·replace e := guardB_some e; obtain ⟨g, e⟩ := e
      rw [Bool.and_eq_true] at g
      have g1 := fitS_le g.1
      have g2 := Nat.eq_of_beq_eq_true g.2
      obtain ⟨y1, r1, rfl, a1, ra⟩ := RVs_cons ra
      rw [RVs_nil ra]
      obtain ⟨u, rfl⟩ := RV_str a1
      rename_i y _
      have hpl : (partsBetween x (occurrences x y 0 x.length (x.length + 1)) y.length).length ≤ sizeLine := by
       rw [length_partsBetween]
       have := StrLaws.occ_length_le x y 0 x.length (x.length + 1)
       omega
      have hy : (y.length == 0) = false := by rw [g2]; rfl
      have fin : ∀ (ps : List (Str × Tok)) (tk : Nat), ps.map (·.1) = Txt.split x y → Q (.ref s.heap.objs.size) { s with heap := s.heap.push { cls := .type "list", data := .seq (strValues ps).toArray }, toks := tk } := fun ps tk hp => by
       obtain ⟨R1, S1⟩ := Re.push (o := lstO (strValues ps) 0) rfl
       refine p _ _ _ _ _ _ S1 R1 ?_ e
       rw [← hp]
       unfold RV RF
       exact ⟨_, 0, strValues ps, rfl, put_self _ _ _, RFs.ofStrs ps⟩
      cases h1 : (decide (x.length < y.length) || decide (strKind x < strKind y))
      ·cases hf : (occurrences x y 0 x.length (x.length + 1)).isEmpty
       ·refine call_meets PySem.F.slot_str_split (typeIs_str _ _ _) PySem.F.entry_str_split (PySem.F.args_str_split_2 _ _) (meets_str_split_sep x y t u h1 hy hf (by omega) hpl) ?_
        show wants Q E _ { s with toks := _, heap := s.heap.push { cls := .type "list", data := .seq (strsFrom s.toks (partsBetween x (occurrences x y 0 x.length (x.length + 1)) y.length)).toArray } }
        rw [strsFrom_eq]
        exact fin (numbered s.toks _) _ ((numbered_texts _ _).trans ((if_neg (ne_true_of_eq_false h1)).trans (if_neg (ne_true_of_eq_false hf))).symm)
       ·exact call_meets PySem.F.slot_str_split (typeIs_str _ _ _) PySem.F.entry_str_split (PySem.F.args_str_split_2 _ _) (meets_str_split_not_found x y t u h1 hy hf)
         (fin [(x, t)] _ ((if_neg (ne_true_of_eq_false h1)).trans (if_pos hf)).symm)
      ·exact call_meets PySem.F.slot_str_split (typeIs_str _ _ _) PySem.F.entry_str_split (PySem.F.args_str_split_2 _ _) (meets_str_split_cannot_occur x y t u h1)
        (fin [(x, t)] _ (if_pos h1).symm)
     ·exact absurd q (by decide)
    ·split at e
     ·rename_i hj _
      have hj := (steq_iff _ _).mp hj
      subst hj
      rcases hid with ⟨q, -⟩ | ⟨q, -⟩ | ⟨q, -⟩ | ⟨-, rfl⟩
      ·exact absurd q (by decide)
      ·exact absurd q (by decide)
      ·exact absurd q (by decide)
      ·replace e := obind_some e; obtain ⟨l, el, e⟩ := e
       replace e := obind_some e; obtain ⟨ts, et, e⟩ := e
       replace e := guardB_some e; obtain ⟨g, e⟩ := e
       have g := of_decide_eq_true g
       obtain ⟨y1, r1, rfl, a1, ra⟩ := RVs_cons ra
       rw [RVs_nil ra]
       obtain ⟨ad, m, vs, rfl, h1, rf⟩ := items_at Re a1 el
       obtain ⟨ps, rfl, hp⟩ := rf.strs et
       exact SC.join ⟨_, h1, rfl, m, rfl⟩ hp (joinOk_of _ _ g) fun t' tk => same (mkRV_str _ _) e
     ·cases e
theorem set_last {vs : List Value} : (vs.toArray.eraseIdxIfInBounds (vs.toArray.size - 1)) = vs.dropLast.toArray := by
 apply Array.ext'
 cases h : vs with
 | nil => rfl
 | cons a l =>
  have hlt : (a :: l).toArray.size - 1 < (a :: l).toArray.size := by simp
  unfold Array.eraseIdxIfInBounds
  rw [dif_pos hlt, Array.toList_eraseIdx]
  simp [List.dropLast_eq_take, List.eraseIdx_eq_take_drop_succ]
theorem mapSeq_pop {vs : List Value} {m : Nat} : ∃ m', Obj.mapSeq (fun xs => xs.eraseIdxIfInBounds (vs.toArray.size - 1)) (lstO vs m) = lstO vs.dropLast m' := by
 have : lstO vs.dropLast = fun n => ({ cls := .type "list", data := .seq (vs.toArray.eraseIdxIfInBounds (vs.toArray.size - 1)) n } : Obj) := by rw [set_last]; rfl
 rw [this]
 exact ⟨_, rfl⟩
theorem RLs.dropLast {ρ : List Addr} : ∀ {l : List Nat} {vs : List Value}, RLs ρ l vs → RLs ρ l.dropLast vs.dropLast
 | [], vs, h => by unfold RLs at h; subst h; rfl
 | [i], vs, h => by
  unfold RLs at h
  obtain ⟨a, r', rfl, ha, b⟩ := h
  unfold RLs at b; subst b; rfl
 | i :: j :: r, vs, h => by
  unfold RLs at h
  obtain ⟨a, r', rfl, ha, b⟩ := h
  have b' := b
  unfold RLs at b'
  obtain ⟨c, r'', rfl, hc, d⟩ := b'
  show RLs ρ (i :: (j :: r).dropLast) (Value.ref a :: (Value.ref c :: r'').dropLast)
  unfold RLs
  exact ⟨a, _, rfl, ha, RLs.dropLast b⟩
theorem RLs.append1 {ρ : List Addr} {j : Nat} {c : Addr} (hc : ρ[j]? = some c) : ∀ {l : List Nat} {vs : List Value}, RLs ρ l vs → RLs ρ (l ++ [j]) (vs ++ [.ref c])
 | [], vs, h => by unfold RLs at h; subst h; exact ⟨c, [], rfl, hc, rfl⟩
 | i :: r, vs, h => by
  unfold RLs at h
  obtain ⟨a, r', rfl, ha, b⟩ := h
  exact ⟨a, r' ++ [.ref c], rfl, ha, RLs.append1 hc b⟩
theorem RLs.last {ρ : List Addr} : ∀ {l : List Nat} {vs : List Value} {j : Nat}, RLs ρ l vs → l.getLast? = some j → ∃ c, vs[vs.length - 1]? = some (.ref c) ∧ ρ[j]? = some c
 | [], _, _, _, e => by simp at e
 | [i], vs, j, h, e => by
  unfold RLs at h
  obtain ⟨a, r', rfl, ha, b⟩ := h
  unfold RLs at b; subst b
  simp at e; subst e
  exact ⟨a, rfl, ha⟩
 | i :: k :: r, vs, j, h, e => by
  unfold RLs at h
  obtain ⟨a, r', rfl, ha, b⟩ := h
  obtain ⟨c, e1, e2⟩ := RLs.last b (j := j) (by rw [List.getLast?_cons_cons] at e; exact e)
  have hl : r'.length = (k :: r).length := RLs.length b
  refine ⟨c, ?_, e2⟩
  have : (Value.ref a :: r').length - 1 = (r'.length - 1) + 1 := by simp [hl]
  rw [this, List.getElem?_cons_succ]; exact e1
theorem loc_append {i : Nat} {a : Addr} {args : List V} {xs : List Value} (e : methV P C (.loc i) "append" args [] hh k = some r) (Re : Rel h₀ os₀ Z ρ hh s) (ha : ρ[i]? = some a) (ra : RVs Z ρ args xs) (p : PV h₀ os₀ Z ρ s k r Q) :
  wpAny (model prog w) A (call (.builtin "list.append") (.ref a :: xs) []) Q E s := by
 have ll := line_ge
 simp only [methV] at e
 rw [show steq "append" "append" = true from steq_self _] at e
 split at e
 ·rename_i v _
  obtain ⟨y, r1, rfl, a1, ra⟩ := RVs_cons ra
  rw [RVs_nil ra]
  split at e
  ·rename_i l x hl
   replace e := guardB_some e; obtain ⟨g, e⟩ := e
   have g := fitL_le g
   obtain ⟨a', e1, m, vs, h1, rf⟩ := Re.objs i _ hl
   rw [ha] at e1; cases e1
   have hlen := rf.length
   refine append_at h1 (fun h' hs hg => ?_) (by simp; omega)
   obtain ⟨R1, S1⟩ := Re.set (p := .list (l ++ [x])) ha hs ⟨m + 1, vs ++ [y], by simpa [lstO] using hg, RFs.append rf (RFs.one (by unfold RV at a1; exact a1))⟩
   exact p _ _ _ _ _ _ S1 R1 mkRV_none e
  ·rename_i l j hl
   replace e := guardB_some e; obtain ⟨g, e⟩ := e
   have g := fitL_le g
   obtain ⟨a', e1, m, vs, h1, rl⟩ := Re.objs i _ hl
   rw [ha] at e1; cases e1
   have hlen := RLs.length rl
   unfold RV at a1
   obtain ⟨c, rfl, hc⟩ := a1
   refine append_at h1 (fun h' hs hg => ?_) (by simp; omega)
   obtain ⟨R1, S1⟩ := Re.set (p := .locs (l ++ [j])) ha hs ⟨m + 1, vs ++ [.ref c], by simpa [lstO] using hg, RLs.append1 hc rl⟩
   exact p _ _ _ _ _ _ S1 R1 mkRV_none e
  ·cases e
 ·cases e
 ·cases e
theorem loc_pop {i : Nat} {a : Addr} {args : List V} {xs : List Value} (e : methV P C (.loc i) "pop" args [] hh k = some r) (Re : Rel h₀ os₀ Z ρ hh s) (ha : ρ[i]? = some a) (ra : RVs Z ρ args xs) (p : PV h₀ os₀ Z ρ s k r Q) :
  wpAny (model prog w) A (call (.builtin "list.pop") (.ref a :: xs) []) Q E s := by
 have ll := line_ge
 simp only [methV] at e
 rw [show steq "pop" "append" = false from by decide +kernel, show steq "pop" "pop" = true from steq_self _] at e
 split at e
 ·rename_i q; cases q
 ·rw [RVs_nil ra]
  split at e
  ·split at e
   ·rename_i l hl
    split at e
    ·rename_i j hj
     replace e := guardB_some e; obtain ⟨g, e⟩ := e
     have g := fitL_le g
     obtain ⟨a', e1, m, vs, h1, rl⟩ := Re.objs i _ hl
     rw [ha] at e1; cases e1
     have hlen := RLs.length rl
     obtain ⟨c, g1, g2⟩ := rl.last hj
     have hsz : vs.toArray.size ≤ sizeLine := by simp; omega
     refine call_meets PySem.F.slot_list_pop ⟨_, h1, rfl⟩ PySem.F.entry_list_pop (PySem.F.args_list_pop_1 _) (PySem.MeetsSeq.list_pop_last a vs.toArray m (.ref c) (by simpa using g1) hsz) ⟨h1, ?_⟩
     have hs := Heap.SameBut.update (h := s.heap) a (Obj.mapSeq fun xs => xs.eraseIdxIfInBounds (vs.toArray.size - 1))
     obtain ⟨m', hg⟩ : ∃ m', (s.heap.update a (Obj.mapSeq fun xs => xs.eraseIdxIfInBounds (vs.toArray.size - 1))).get? a = some (lstO vs.dropLast m') := by
      obtain ⟨m', hm⟩ := mapSeq_pop (vs := vs) (m := m)
      refine ⟨m', ?_⟩
      rw [Heap.get?_update_self _ h1 (by rw [hm]; rfl), hm]
     obtain ⟨R1, S1⟩ := Re.set (p := .locs l.dropLast) ha hs ⟨m', vs.dropLast, hg, rl.dropLast⟩
     exact p _ _ _ _ _ _ S1 R1 (by unfold RV; exact ⟨c, rfl, g2⟩) e
    ·cases e
   ·cases e
  ·cases e
 ·cases e
end
end Mine
end
section
set_option maxRecDepth 4000
namespace Mine
open PySem PySem.Calls
variable [Hsh]
def RunsK (M : Model) (A : Around) (env : Env) (E : Value → Shared → Prop) : List Keyword → (List (Str × Value) → Shared → Prop) → Shared → Prop
 | [], Q, s => Q [] s
 | ⟨some x, e, _⟩ :: r, Q, s => wpAny M A (eval e env) (fun v s1 => RunsK M A env E r (fun vs s2 => Q ((x, v) :: vs) s2) s1) E s
 | ⟨none, _, _⟩ :: _, _, _ => False
def KeepV (K : Frag) (f : Value) : Prop := ∀ (M : Model) (h : Heap), K.In h → ∃ k, (k = Keeper.frame ∨ k = Keeper.machine ∨ k = Keeper.boundFrame) ∧ Looks M h (keeperOf f) k
section
variable {R : Type} {prog : Program} {w : World} {A : Around} {E : Value → Shared → Prop} {s : Shared} {h₀ : Heap} {os₀ : Bg} {Z : Gh} {ρ : List Addr} {hh : H} {env : Env} {sc : Scope} {lc : Lc}
 {k : KV R} {r : R} {Q : Value → Shared → Prop} {n : Nat} {K : Frag} {P : Prg} {C : Cl R} {I : Ev R}
theorem KeepV.ref {a : Addr} (h : keepIn K (.ref a) = true) : KeepV K (.ref a) := fun _ h' X => keeps_K h h' X
theorem KeepV.builtin {id : String} : KeepV K (.builtin id) := fun _ _ _ => ⟨.machine, .inr (.inl rfl), Looks.of_pure rfl⟩
theorem KeepV.type {id : String} : KeepV K (.type id) := fun _ _ _ => ⟨.machine, .inr (.inl rfl), Looks.of_pure rfl⟩
theorem kw_all {pos : Pos} : ∀ {kws : List Keyword}, kws.all (fun k => k.arg.isSome) = true → (backToKw pos (keywordEach kws env)).all (·.1.isSome) = true
 | [], _ => rfl
 | ⟨x, e, p⟩ :: r, h => by
  rw [List.all_cons, Bool.and_eq_true] at h
  show (x.isSome && (backToKw pos (keywordEach r env)).all (·.1.isSome)) = true
  rw [kw_all h.2, h.1]; rfl
theorem kw_any {pos : Pos} : ∀ {kws : List Keyword}, kws.all (fun k => k.arg.isSome) = true → (backToKw pos (keywordEach kws env)).any (·.1.isNone) = false
 | [], _ => rfl
 | ⟨x, e, p⟩ :: r, h => by
  rw [List.all_cons, Bool.and_eq_true] at h
  show (x.isNone || (backToKw pos (keywordEach r env)).any (·.1.isNone)) = false
  rw [kw_any h.2]
  cases x with
  | none => cases h.1
  | some y => rfl
theorem RunsK.all {M : Model} {E : Value → Shared → Prop} {pos : Pos} : ∀ {kws : List Keyword} {Q : List (Str × Value) → Shared → Prop} {s : Shared}, RunsK M A env E kws Q s →
  wpAny M A (evalAll ((backToKw pos (keywordEach kws env)).map (·.2))) (fun ks s2 => Q (((backToKw pos (keywordEach kws env)).filterMap (·.1)).zip ks) s2) E s
 | [], _, _, h => kwAll_nil h
 | ⟨some x, e, p⟩ :: r, _, _, h => kwAll_cons (wpAny_mono h (fun _ _ h1 => RunsK.all h1) fun _ _ x => x)
 | ⟨none, e, p⟩ :: r, _, _, h => h.elim
theorem runs_args {M : Model} {E : Value → Shared → Prop} {pos : Pos} {f : Value} {es : List PySem.Expr} {kws : List Keyword} {Q : Args → Shared → Prop} (g : plainArgs es kws = true)
  (h : Runs M A env E es (fun vs s1 => RunsK M A env E kws (fun ks s2 => Q ⟨vs, ks⟩ s2) s1) s) : wpAny M A (evalArgs f true (backTo pos (starEach es env)) (backToKw pos (keywordEach kws env))) Q E s := by
 obtain ⟨g1, g2, -⟩ := plain_all g
 cases es with
 | nil => exact evalArgs_kw2_nil (kw_all g2) h.all
 | cons e r =>
  have g1' := g1
  rw [List.all_cons, Bool.and_eq_true] at g1'
  exact evalArgs_kw2 (kw_all g2) (wpAny_mono (h.spliced g1) (fun _ _ h1 => h1.all) fun _ _ x => x) (starEach_plain g1'.1)
theorem runs_callWith {M : Model} {E : Value → Shared → Prop} {pos : Pos} {f : Value} {first : List Value} {es : List PySem.Expr} {kws : List Keyword} (g : plainArgs es kws = true) (kf : KeepV K f)
  (h : Runs M A env E es (fun vs s1 => RunsK M A env E kws (fun ks s2 => K.In s2.heap ∧ wpAny M A (call f (first ++ vs) ks) Q E s2) s1) s) :
  wpAny M A (callWith pos f first (backTo pos (starEach es env)) (backToKw pos (keywordEach kws env))) Q E s := by
 obtain ⟨g1, g2, -⟩ := plain_all g
 exact callWith_of (P := K.In) (by rw [starEach_any g1, kw_any g2]; rfl) (fun h' X => kf M h' X) (runs_args g h)
theorem kws_snd (S : SI prog w h₀ n I) (ok : OkA n A) : ∀ {kws : List Keyword} {hh : H} {s : Shared} {Z : Gh} {ρ : List Addr} {kb : List (Str × V) → H → Option R} {Q : List (Str × Value) → Shared → Prop},
  kwsE I sc lc hh kws kb = some r → Rel h₀ os₀ Z ρ hh s → FrR env sc lc Z ρ s.heap →
  (∀ ks s' Z' ρ' l h', Stp no Z ρ s Z' ρ' s' → Rel h₀ os₀ Z' ρ' h' s' → RKs Z' ρ' l ks → kb l h' = some r → Q ks s') → RunsK (model prog w) A env E kws Q s
 | [], _, _, _, _, _, _, e, Re, F, p => p _ _ _ _ _ _ StpH.refl Re .nil e
 | ⟨some x, e, _⟩ :: l, _, _, _, _, _, _, h, Re, F, p => by
  refine S.ev h ok Re F fun y s1 Z1 ρ1 v h1 S1 R1 rv1 e1 => ?_
  refine kws_snd S ok e1 R1 (F.step S1) fun ks s2 Z2 ρ2 l2 h2 S2 R2 rk e2 => ?_
  exact p _ _ _ _ _ _ (S1.trans S2) R2 (.cons (rv1.mono S2.zz S2.rr) rk) e2
 | ⟨none, _, _⟩ :: _, _, _, _, _, _, _, e, _, _, _ => by cases e
theorem RKs.mono {Z' : Gh} {ρ' : List Addr} (hz : ∀ a o, Z a = some o → Z' a = some o) (hr : ∃ t, ρ' = ρ ++ t) {l : List (Str × V)} {m : List (Str × Value)} (h : RKs Z ρ l m) : RKs Z' ρ' l m := by
 induction h with
 | nil => exact .nil
 | cons a _ ih => exact .cons (a.mono hz hr) ih
theorem RKs.nil_of {l : List (Str × V)} {m : List (Str × Value)} (h : RKs Z ρ l m) : l = [] → m = [] := by
 intro e; subst e; cases h; rfl
theorem meth_ok (B : Base w h₀ K P) (SC : SCl prog w h₀ n C) {name : Str} {v : V} {x : Value} (g : okMeth P name hh v = true) (Re : Rel h₀ os₀ Z ρ hh s) (rv : RV Z ρ v x) :
  ∃ f, KeepV K f ∧ (∀ {A : Around} {E : Value → Shared → Prop} {pl : Sem Bool} {Q : Value × List Value → Shared → Prop}, Q (f, [x]) s → wpAny (model prog w) A (getMethod x name pl) Q E s) ∧
   (∀ {A : Around} {E : Value → Shared → Prop} {s' : Shared} {Z' : Gh} {ρ' : List Addr} {h' : H} {args : List V} {kws : List (Str × V)} {xs : List Value} {ks : List (Str × Value)} {k : KV R} {r : R} {Q : Value → Shared → Prop}, OkA n A →
    Rel h₀ os₀ Z' ρ' h' s' → RV Z' ρ' v x → RVs Z' ρ' args xs → RKs Z' ρ' kws ks → methV P C v name args kws h' k = some r → PV h₀ os₀ Z' ρ' s' k r Q → wpAny (model prog w) A (call f (x :: xs) ks) Q E s') := by
 have KS := B.KS Re
 unfold okMeth at g
 split at g
 ·rename_i x0
  obtain ⟨t, rfl⟩ := RV_str rv
  simp only [Bool.or_eq_true, steq_iff] at g
  rcases g with ((rfl | rfl) | rfl) | rfl
  ·exact ⟨_, .builtin, fun q => GM.lower q, fun ok R' _ ra rk e p => str_meth (.inl ⟨rfl, rfl⟩) e R' ra rk p⟩
  ·exact ⟨_, .builtin, fun q => GM.replace q, fun ok R' _ ra rk e p => str_meth (.inr (.inl ⟨rfl, rfl⟩)) e R' ra rk p⟩
  ·exact ⟨_, .builtin, fun q => GM.split q, fun ok R' _ ra rk e p => str_meth (.inr (.inr (.inl ⟨rfl, rfl⟩))) e R' ra rk p⟩
  ·exact ⟨_, .builtin, fun q => GM.join q, fun ok R' _ ra rk e p => str_meth (.inr (.inr (.inr ⟨rfl, rfl⟩))) e R' ra rk p⟩
 ·rename_i raw i nt cnt b sm
  obtain ⟨g', hg⟩ := Option.isSome_iff_exists.mp g
  obtain ⟨w1, w2, w3, w4⟩ := B.wM _ _ hg
  have rv0 := rv
  unfold RV RF at rv0
  obtain ⟨a, d, m, es, rfl, ha, hd, en⟩ := rv0
  refine ⟨.ref g', .ref w4, fun q => ?_, fun ok R' rv' ra rk e p => ?_⟩
  ·have hg := plainGet_of (B.fct.pl100 name)
   exact method_fn KS (od := some (dicO es m)) ⟨Re.fz _ _ ha, rfl, rfl, Re.fz _ _ hd⟩ hg.1 hg.2 w1 (beq_iff_eq.mp w2) (by show (lookIn name (dictOf es m)).map _ = _; rw [lookIn_dict, en.getL_none w3]; rfl) q
  ·simp only [methV, hg, obind] at e
   exact call_ret (SC e ok.toC R' (by unfold RVs; exact ⟨_, _, rfl, rv', ra⟩) rk p)
 ·cases g
 ·rename_i i
  obtain ⟨g', hg⟩ := Option.isSome_iff_exists.mp g
  obtain ⟨w1, w2, w3, w4⟩ := B.hM _ _ hg
  have rv0 := rv
  unfold RV at rv0
  obtain ⟨a, d, l, hs, t, m, rfl, ha, hd, hl⟩ := rv0
  refine ⟨.ref g', .ref w4, fun q => ?_, fun ok R' rv' ra rk e p => ?_⟩
  ·have hg := plainGet_of (B.fct.pl279 name)
   refine method_fn KS (od := some (dicO _ m)) ⟨Re.fz _ _ ha, rfl, rfl, Re.fz _ _ hd⟩ hg.1 hg.2 w1 (beq_iff_eq.mp w2) ?_ q
   show (lookIn name (dictOf _ m)).map _ = _
   rw [lookIn_dict]
   unfold PySem.W.getL
   simp [List.find?_cons, isStr_eq, Ne.symm w3, DictEntry.refKey]
  ·simp only [methV, hg, obind] at e
   exact call_ret (SC e ok.toC R' (by unfold RVs; exact ⟨_, _, rfl, rv', ra⟩) rk p)
 ·rename_i i
  have rv0 := rv
  unfold RV at rv0
  obtain ⟨a, rfl, ha⟩ := rv0
  rw [Bool.and_eq_true] at g
  have hex : ∃ vs m, s.heap.get? a = some (lstO vs m) := by
   cases q : hh[i]? with
   | none => rw [q] at g; cases g.1
   | some o =>
    obtain ⟨a', e1, e2⟩ := Re.objs i o q
    rw [ha] at e1; cases e1
    cases o with
    | list l => obtain ⟨m, vs, h1, _⟩ := e2; exact ⟨vs, m, h1⟩
    | locs l => obtain ⟨m, vs, h1, _⟩ := e2; exact ⟨vs, m, h1⟩
    | attrs l => rw [q] at g; cases g.1
  obtain ⟨vs, m, hL⟩ := hex
  have gg := g.2
  simp only [Bool.or_eq_true, steq_iff] at gg
  have hd : ∀ b, Value.ref a = .ref b → ∃ o, s.heap.get? b = some o ∧ o.dict = none := fun b e => by cases e; exact ⟨_, hL, rfl⟩
  rcases gg with rfl | rfl
  ·refine ⟨_, .builtin, fun q => getMethod_builtin ⟨_, hL, rfl⟩ PySem.F.plainAttrs_list PySem.F.slot_list_append PySem.F.type_list_append hd q, fun ok R' rv' ra rk e p => ?_⟩
   unfold RV at rv'
   obtain ⟨a', e1, ha'⟩ := rv'
   cases e1
   cases rk with
   | nil => exact loc_append e R' ha' ra p
   | cons _ _ => simp [methV] at e
  ·refine ⟨_, .builtin, fun q => getMethod_builtin ⟨_, hL, rfl⟩ PySem.F.plainAttrs_list PySem.F.slot_list_pop PySem.F.type_list_pop hd q, fun ok R' rv' ra rk e p => ?_⟩
   unfold RV at rv'
   obtain ⟨a', e1, ha'⟩ := rv'
   cases e1
   cases rk with
   | nil => exact loc_pop e R' ha' ra p
   | cons _ _ => simp [methV] at e
 ·rename_i a
  unfold RV at rv
  subst rv
  rw [Bool.or_eq_true, Bool.and_eq_true, Bool.and_eq_true, Bool.or_eq_true] at g
  rcases g with ⟨g1, g2⟩ | ⟨g1, g2⟩
  ·have g1 := Nat.eq_of_beq_eq_true g1
   have g2 := (steq_iff _ _).mp g2
   subst g1 g2
   obtain ⟨o, ho, hc, hd⟩ := B.xM
   refine ⟨.builtin "dict.get", .builtin, fun q => getMethod_builtin ⟨_, KS _ _ ho, hc⟩ PySem.F.plainAttrs_dict PySem.F.slot_dict_get PySem.F.type_dict_get (fun b e => by cases e; exact ⟨_, KS _ _ ho, hd⟩) q, fun ok R' rv' ra rk e p => ?_⟩
   simp only [methV] at e
   cases rk with
   | cons _ _ => cases e
   | nil =>
    dsimp only at e
    split at e
    ·rename_i x d _ _
     obtain ⟨y1, r1, rfl, a1, ra⟩ := RVs_cons ra
     obtain ⟨y2, r2, rfl, a2, ra⟩ := RVs_cons ra
     rw [RVs_nil ra]
     obtain ⟨t, rfl⟩ := RV_str a1
     split at e
     ·rename_i i hx
      refine B.xGet _ _ hx ok.hand (by have := ok.uni; omega) (B.KS R') fun y h' tk hk hy => ?_
      obtain ⟨u, rfl⟩ := hy
      exact p _ _ _ _ _ _ (StpH.kept hk) (R'.kept hk) (mkRV_int _ _) e
     ·rename_i hx
      refine B.xGet _ _ hx ok.hand (by have := ok.uni; omega) (B.KS R') fun y h' tk hk hy => ?_
      subst hy
      exact p _ _ _ _ _ _ (StpH.kept hk) (R'.kept hk) a2 e
     ·cases e
    ·cases e
  ·have g2 := (steq_iff _ _).mp g2
   subst g2
   have ha : a = 145 ∨ a = 150 := g1.imp Nat.eq_of_beq_eq_true Nat.eq_of_beq_eq_true
   obtain ⟨id, m1, m2⟩ := B.sGet a ha
   refine ⟨.builtin id, .builtin, fun q => m1 KS q, fun ok R' rv' ra rk e p => ?_⟩
   simp only [methV] at e
   cases rk with
   | cons _ _ => cases e
   | nil =>
    dsimp only at e
    split at e
    ·rename_i q
     have := Nat.eq_of_beq_eq_true q
     subst this
     rcases ha with q | q <;> cases q
    ·split at e
     ·split at e
      ·obtain ⟨y1, r1, rfl, a1, ra⟩ := RVs_cons ra
       rw [RVs_nil ra]
       obtain ⟨t, rfl⟩ := RV_str a1
       replace e := guardB_some e; obtain ⟨g, e⟩ := e
       rw [Bool.and_eq_true] at g
       have g1 := fitS_le g.1
       exact m2 ok.hand (by have := ok.uni; omega) (B.KS R') g.2 g1 fun h' tk hk => p _ _ _ _ _ _ (StpH.kept hk) (R'.kept hk) mkRV_none e
      ·cases e
     ·cases e
 ·cases g
theorem getMethod_pos {o : PySem.Expr} {name : Str} {ap pos : Pos} {args : List PySem.Expr} {kws : List Keyword} (hn : notSuper o = true) (hl : Nat.beq ap.endLine pos.line = true) (g : plainArgs args kws = true)
  (h : wpAny (model prog w) A (eval o env) (fun ov s1 => ∃ f, (∀ {pl : Sem Bool} {Q : Value × List Value → Shared → Prop}, Q (f, [ov]) s1 → wpAny (model prog w) A (getMethod ov name pl) Q E s1) ∧
   wpAny (model prog w) A (callWith pos f [ov] (backTo pos (starEach args env)) (backToKw pos (keywordEach kws env))) Q E s1) E s) :
  wpAny (model prog w) A (eval (.Call (.Attribute o name ap) args kws pos) env) Q E s := by
 obtain ⟨g1, g2, g3⟩ := plain_all g
 have hbase : attributeBase o name env (eval o env) = eval o env := by
  unfold attributeBase
  split
  ·rename_i id _ _
   simp only [notSuper, Bool.not_eq_true'] at hn
   have : (id != "super") = true := by
    rw [steq_eq] at hn
    simpa using of_decide_eq_false hn
   simp [this]
  ·rfl
 rw [arm_eval_Call, hbase]
 refine wpAny_bind (wpAny_mono h (fun ov s1 h1 => wpAny_bind (wpAny_standAt ?_)) fun _ _ x => x)
 obtain ⟨f, hf, hc⟩ := h1
 have hform : methodCallForm (args.length + kws.length) (backTo pos (starEach args env)) (backToKw pos (keywordEach kws env)) = true := by
  unfold methodCallForm
  rw [starEach_all g1, kw_all g2]
  simp only [Bool.true_and, decide_eq_true_eq]
  split <;> omega
 have hpos : methodCallPos true o env ap pos = pure pos := by
  unfold methodCallPos
  have : (ap.endLine == pos.line) = true := by simpa using Nat.eq_of_beq_eq_true hl
  simp [this]
 unfold methodCall
 rw [hform]
 refine wpAny_bind (wpAny_holding (hf ?_))
 exact wpAny_bind (wpAny_of_eq hpos hc)
theorem methodCall_snd (B : Base w h₀ K P) (SC : SCl prog w h₀ n C) (S : SI prog w h₀ n I) {o : PySem.Expr} {name : Str} {ap pos : Pos} {args : List PySem.Expr} {kws : List Keyword} {mu : Bool} (g : (notSuper o && Nat.beq ap.endLine pos.line && plainArgs args kws) = true)
  (e : I.ev sc lc false hh o (fun ov h1 => guardB (okMeth P name h1 ov) (I.evs sc lc mu h1 args fun vs h2 => kwsE I sc lc h2 kws fun ks h3 => methV P C ov name vs ks h3 k)) = some r) (ok : OkA n A) (Re : Rel h₀ os₀ Z ρ hh s) (F : FrR env sc lc Z ρ s.heap)
  (p : PV h₀ os₀ Z ρ s k r Q) : wpAny (model prog w) A (eval (.Call (.Attribute o name ap) args kws pos) env) Q E s := by
 rw [Bool.and_eq_true, Bool.and_eq_true] at g
 refine getMethod_pos g.1.1 g.1.2 g.2 (S.ev e ok Re F fun y s1 Z1 ρ1 v h1 S1 R1 rv1 e1 => ?_)
 replace e1 := guardB_some e1; obtain ⟨gm, e1⟩ := e1
 obtain ⟨f, kf, hm, hc⟩ := meth_ok (prog := prog) (w := w) B SC gm R1 rv1
 refine ⟨f, hm, runs_callWith g.2 kf (S.evs e1 ok R1 (F.step S1) fun ys s2 Z2 ρ2 vs h2 S2 R2 rv2 e2 => ?_)⟩
 refine kws_snd S ok e2 R2 (F.step (S1.trans S2)) fun ks s3 Z3 ρ3 l h3 S3 R3 rk e3 => ⟨B.KS R3, ?_⟩
 have S13 := (S2.trans S3)
 exact hc ok R3 (rv1.mono S13.zz S13.rr) (rv2.mono S3.zz S3.rr) rk e3 fun y s' Z' ρ' v h' S' R' rv' e' => p y s' Z' ρ' v h' ((S1.trans S13).trans S') R' rv' e'
end
end Mine
end
section
set_option maxRecDepth 4000
namespace Mine
open PySem PySem.Calls
variable [Hsh]
open Classical in
noncomputable def frz (Z : Gh) (t : List Addr) (h : Heap) : Gh := fun a => if a ∈ t then h.get? a else Z a
section
variable {h₀ : Heap} {os₀ : Bg} {Z Z2 : Gh} {ρ t : List Addr} {H2 : H} {h h0 : Heap} {g : Array GenState} {os : OsState}
theorem frz_zz (Re : RelH h₀ os₀ Z2 (ρ ++ t) H2 h g os) : ∀ a o, Z2 a = some o → frz Z2 t h a = some o := fun a o e => by
 have : a ∉ t := fun q => by rw [Re.out a (List.mem_append_right _ q)] at e; cases e
 unfold frz; rw [if_neg this]; exact e
theorem frz_in (Re : RelH h₀ os₀ Z2 (ρ ++ t) H2 h g os) {i : Nat} {a : Addr} {o : Obj} (hi : ρ.length ≤ i) (ha : (ρ ++ t)[i]? = some a) (hg : h.get? a = some o) : frz Z2 t h a = some o := by
 have : a ∈ t := by
  rw [List.getElem?_append_right hi] at ha
  exact List.mem_of_getElem? ha
 unfold frz; rw [if_pos this]; exact hg
theorem RLs.cut : ∀ {l : List Nat} {vs : List Value}, RLs (ρ ++ t) l vs → (l.all fun i => decide (i < ρ.length)) = true → RLs ρ l vs
 | [], _, h, _ => h
 | i :: r, _, h, q => by
  rw [List.all_cons, Bool.and_eq_true] at q
  obtain ⟨a, r', e, ha, b⟩ := h
  have hi := of_decide_eq_true q.1
  exact ⟨a, r', e, by rw [List.getElem?_append_left hi] at ha; exact ha, RLs.cut b q.2⟩
theorem frz_rel (Re : RelH h₀ os₀ Z2 (ρ ++ t) H2 h g os) (ok : okP ρ.length (H2.take ρ.length) = true) : RelH h₀ os₀ (frz Z2 t h) ρ (H2.take ρ.length) h g os := by
 have nd := List.nodup_append.mp Re.nd
 refine ⟨fun a o e => ?_, fun a o e => frz_zz Re a o (Re.base _ _ e), nd.1, fun a ha => ?_, ?_, fun i o e => ?_, Re.os, Re.gens⟩
 ·unfold frz at e
  split at e
  ·exact e
  ·exact Re.fz _ _ e
 ·have : a ∉ t := fun q => nd.2.2 a ha a q rfl
  unfold frz; rw [if_neg this]; exact Re.out a (List.mem_append_left _ ha)
 ·have := Re.len
  simp at this
  rw [List.length_take]; omega
 ·have hi : i < ρ.length := by
   have := (List.getElem?_eq_some_iff.mp e).1
   rw [List.length_take] at this; omega
  have e' := e
  rw [List.getElem?_take, if_pos hi] at e'
  obtain ⟨a, e1, e2⟩ := Re.objs i o e'
  rw [List.getElem?_append_left hi] at e1
  refine ⟨a, e1, ?_⟩
  have okp := (List.all_eq_true.mp ok) o (List.mem_of_getElem? e)
  cases o with
  | list l => obtain ⟨n, vs, h1, h2⟩ := e2; exact ⟨n, vs, h1, RFs.mono (frz_zz Re) h2⟩
  | locs l => obtain ⟨n, vs, h1, h2⟩ := e2; exact ⟨n, vs, h1, h2.cut okp⟩
  | attrs l => obtain ⟨n, vs, h1, h2⟩ := e2; exact ⟨n, vs, h1, REs.mono (frz_zz Re) h2⟩
theorem frz_stp {X : Addr → Prop} (Re : RelH h₀ os₀ Z2 (ρ ++ t) H2 h g os) (S : StpH X Z ρ h0 Z2 (ρ ++ t) h) : StpH X Z ρ h0 (frz Z2 t h) ρ h := by
 refine ⟨fun a o e => frz_zz Re _ _ (S.zz _ _ e), ⟨[], by simp⟩, fun a o e z r n => ?_, fun a hx e z r => ?_⟩
 ·obtain ⟨e1, z1, r1⟩ := S.rest a o e z r n
  refine ⟨e1, ?_, r⟩
  have : a ∉ t := fun q => r1 (List.mem_append_right _ q)
  unfold frz; rw [if_neg this]; exact z1
 ·obtain ⟨e1, z1, r1⟩ := S.keepX a hx e z r
  refine ⟨e1, ?_, r⟩
  have : a ∉ t := fun q => r1 (List.mem_append_right _ q)
  unfold frz; rw [if_neg this]; exact z1
theorem frz_rows (Re : RelH h₀ os₀ Z2 (ρ ++ t) H2 h g os) : ∀ {l : List Nat} {vs : List Value} {rows : List F}, RLs (ρ ++ t) l vs → fzRows ρ.length H2 l = some rows → RFs (frz Z2 t h) rows vs
 | [], vs, rows, r, e => by unfold fzRows at e; cases e; unfold RLs at r; unfold RFs; exact r
 | i :: l, vs, rows, r, e => by
  unfold fzRows at e
  split at e
  ·rename_i hi
   have hi := of_decide_eq_true hi
   split at e
   ·rename_i x rs q1 q2
    cases e
    obtain ⟨a, r', rfl, ha, b⟩ := r
    obtain ⟨a', e1, n, ws, e2, e3⟩ := Re.objs i _ q1
    rw [ha] at e1; cases e1
    unfold RFs
    refine ⟨_, _, rfl, ?_, frz_rows Re b q2⟩
    unfold RF
    exact ⟨a, n, ws, rfl, frz_in Re hi ha e2, RFs.mono (frz_zz Re) e3⟩
   ·cases e
  ·cases e
mutual
theorem frz_val (Re : RelH h₀ os₀ Z2 (ρ ++ t) H2 h g os) : ∀ {v v' : V} {y : Value}, RV Z2 (ρ ++ t) v y → fz ρ.length H2 v = some v' → RV (frz Z2 t h) ρ v' y
 | .f x, v', y, r, e => by unfold fz at e; cases e; unfold RV at r ⊢; exact RF.mono (frz_zz Re) r
 | .raw u, v', y, r, e => by unfold fz at e; cases e; unfold RV at r ⊢; exact r
 | .loc i, v', y, r, e => by
  unfold fz at e
  unfold RV at r
  obtain ⟨a, rfl, ha⟩ := r
  split at e
  ·rename_i hi
   have hi := of_decide_eq_true hi
   cases e
   unfold RV
   exact ⟨a, rfl, by rw [List.getElem?_append_left hi] at ha; exact ha⟩
  ·rename_i hi
   have hi := of_decide_eq_false hi
   split at e
   ·rename_i l q
    cases e
    obtain ⟨a', e1, n, ws, e2, e3⟩ := Re.objs i _ q
    rw [ha] at e1; cases e1
    unfold RV RF
    exact ⟨a, n, ws, rfl, frz_in Re (by omega) ha e2, RFs.mono (frz_zz Re) e3⟩
   ·rename_i l q
    split at e
    ·rename_i rows hr
     cases e
     obtain ⟨a', e1, n, ws, e2, e3⟩ := Re.objs i _ q
     rw [ha] at e1; cases e1
     unfold RV RF
     exact ⟨a, n, ws, rfl, frz_in Re (by omega) ha e2, frz_rows Re e3 hr⟩
    ·cases e
   ·cases e
 | .tupV l, v', y, r, e => by
  unfold fz at e
  split at e
  ·rename_i vs q
   cases e
   unfold RV at r
   obtain ⟨a, n, xs, rfl, hz, rl⟩ := r
   exact mkTup_RV (frz_zz Re _ _ hz) (frz_vals Re rl q)
  ·cases e
 | .hdr i, v', y, r, e => by
  unfold fz at e
  split at e
  ·rename_i hi
   have hi := of_decide_eq_true hi
   cases e
   unfold RV at r ⊢
   obtain ⟨a, d, l, hs, t', n, rfl, h1, h2, h3⟩ := r
   exact ⟨a, d, l, hs, t', n, rfl, frz_zz Re _ _ h1, frz_zz Re _ _ h2, by rw [List.getElem?_append_left hi] at h3; exact h3⟩
  ·cases e
 | .obj i, v', y, r, e => by unfold fz at e; cases e
 | .kw i, v', y, r, e => by unfold fz at e; cases e
theorem frz_vals (Re : RelH h₀ os₀ Z2 (ρ ++ t) H2 h g os) : ∀ {l l' : List V} {ys : List Value}, RVs Z2 (ρ ++ t) l ys → fzs ρ.length H2 l = some l' → RVs (frz Z2 t h) ρ l' ys
 | [], l', ys, r, e => by unfold fzs at e; cases e; unfold RVs at r ⊢; exact r
 | v :: l, l', ys, r, e => by
  unfold fzs at e
  split at e
  ·rename_i x m q1 q2
   cases e
   unfold RVs at r ⊢
   obtain ⟨y, r', rfl, a, b⟩ := r
   exact ⟨y, r', rfl, frz_val Re a q1, frz_vals Re b q2⟩
  ·cases e
end
end
section
variable {R : Type} {prog : Program} {w : World} {A : Around} {E : Value → Shared → Prop} {s s' : Shared} {h₀ : Heap} {os₀ : Bg} {Z Z' : Gh} {ρ ρ' : List Addr} {hh h' : H} {env : Env} {sc : Scope} {lc : Lc}
 {k : KV R} {r : R} {Q : Value → Shared → Prop} {n : Nat} {K : Frag} {P : Prg} {C : Cl R} {I : Ev R}
theorem retK_snd {v : V} {y : Value} (Re0 : Rel h₀ os₀ Z ρ hh s) (e : retK hh.length v h' k = some r) (S : Stp no Z ρ s Z' ρ' s') (Re : Rel h₀ os₀ Z' ρ' h' s') (rv : RV Z' ρ' v y) (p : PV h₀ os₀ Z ρ s k r Q) : Q y s' := by
 unfold retK at e
 replace e := guardB_some e; obtain ⟨g, e⟩ := e
 replace e := obind_some e; obtain ⟨v', ev, e⟩ := e
 obtain ⟨t, rfl⟩ := S.rr
 have hl := Re0.len
 rw [← hl] at g ev e
 exact p _ _ _ _ _ _ (frz_stp Re S) (frz_rel Re g) (frz_val Re rv ev) e
def wsL (raw : Str) (i nt : Int) (cs : List F) (b : Int) (sm : Bool) : List (Str × F) := [("raw", .str raw), ("n", .int i), ("nt", .int nt), ("norm", .tup [.tup cs, .int b]), ("is_simple", .bool sm)]
theorem mkWs_some {l : List (Str × F)} {f : F} (e : mkWs l = some f) : ∃ raw i nt cs cnt b sm, l = wsL raw i nt cs b sm ∧ allInt cs = some cnt ∧ f = .ws raw i nt cnt b sm := by
 unfold mkWs at e
 split at e
 ·split at e
  ·rename_i g q
   cases e
   simp only [Bool.and_eq_true, steq_iff] at g
   obtain ⟨⟨⟨⟨rfl, rfl⟩, rfl⟩, rfl⟩, rfl⟩ := g
   exact ⟨_, _, _, _, _, _, _, rfl, q, rfl⟩
  ·cases e
 ·cases e
theorem REs.toWs {raw : Str} {i nt : Int} {cs : List F} {cnt : List Int} {b : Int} {sm : Bool} {es : List DictEntry}
  (h : REs Z (wsL raw i nt cs b sm) es) (hc : allInt cs = some cnt) {a d : Addr} {m : Nat} (ha : Z a = some (insO 100 d)) (hd : Z d = some (dicO es m)) :
  RF Z (.ws raw i nt cnt b sm) (.ref a) := by
 unfold RF
 refine ⟨a, d, m, es, rfl, ha, hd, ?_⟩
 unfold wsL at h
 cases h with
 | cons h1 h =>
 cases h with
 | cons h2 h =>
 cases h with
 | cons h3 h =>
 cases h with
 | cons h4 h =>
 cases h with
 | cons h5 h =>
 cases h with
 | nil =>
 unfold RF at h1 h2 h3 h4 h5
 obtain ⟨t1, rfl⟩ := h1
 obtain ⟨t2, rfl⟩ := h2
 obtain ⟨t3, rfl⟩ := h3
 obtain ⟨a4, n4, vs4, rfl, hz4, rf4⟩ := h4
 subst h5
 simp only [RFs] at rf4
 obtain ⟨v1, r1, rfl, f1, v2, r2, rfl, f2, rfl⟩ := rf4
 unfold RF at f1 f2
 obtain ⟨a5, n5, vs5, rfl, hz5, rf5⟩ := f1
 obtain ⟨t6, rfl⟩ := f2
 refine .cons ⟨fun _ => ⟨_, rfl⟩, fun q => absurd q (by decide), fun q => absurd q (by decide), fun q => absurd q (by decide), fun q => absurd q (by decide)⟩ ?_
 refine .cons ⟨fun q => absurd q (by decide), fun _ => ⟨_, rfl⟩, fun q => absurd q (by decide), fun q => absurd q (by decide), fun q => absurd q (by decide)⟩ ?_
 refine .cons ⟨fun q => absurd q (by decide), fun q => absurd q (by decide), fun _ => ⟨_, rfl⟩, fun q => absurd q (by decide), fun q => absurd q (by decide)⟩ ?_
 refine .cons ⟨fun q => absurd q (by decide), fun q => absurd q (by decide), fun q => absurd q (by decide), fun _ => ⟨a4, n4, _, _, n5, vs5, a5, rfl, hz4, rfl, hz5, RIs.ofF hc rf5⟩, fun q => absurd q (by decide)⟩ ?_
 exact .cons ⟨fun q => absurd q (by decide), fun q => absurd q (by decide), fun q => absurd q (by decide), fun q => absurd q (by decide), fun _ => rfl⟩ .nil
end
end Mine
end
section
set_option maxRecDepth 4000
namespace Mine
open PySem PySem.Calls
variable [Hsh]
section
variable {R : Type} {prog : Program} {w : World} {A : Around} {E : Value → Shared → Prop} {s s' : Shared} {h₀ : Heap} {os₀ : Bg} {Z Z' : Gh} {ρ ρ' : List Addr} {hh h' : H} {env : Env} {sc : Scope} {lc : Lc}
 {k : KV R} {r : R} {Q : Value → Shared → Prop} {n : Nat} {K : Frag} {P : Prg} {C : Cl R} {I : Ev R}
theorem under_tc (ok : OkA n A) (C : Addr) (rest : List Value) (kw : List (Str × Value)) : OkC n (A.under (.builtin "type.__call__" ⟨.ref C :: rest, kw⟩)) := by
 have h1 : (A.under (.builtin "type.__call__" ⟨.ref C :: rest, kw⟩)).depth = A.depth + 1 := rfl
 have h2 : (A.under (.builtin "type.__call__" ⟨.ref C :: rest, kw⟩)).units = A.units + 1 := rfl
 refine ⟨?_, ?_, ok.hand⟩
 ·rw [h1]; have := ok.dep; omega
 ·rw [h2]; have := ok.uni; omega
theorem makeW_snd (B : Base w h₀ K P) (SC : SCl prog w h₀ n C) {x : Str} {t : Tok} (ok : OkA n A) (Re : Rel h₀ os₀ Z ρ hh s)
  (e : C 55 [.obj hh.length, .f (.str x)] [] (hh ++ [.attrs []]) (fun v h2 =>
     match v, h2[hh.length]? with
     | .f .none, some (.attrs l) => guardB (okP hh.length (h2.take hh.length)) (obind (mkWs l) fun w => k (.f w) (h2.take hh.length))
     | _, _ => none) = some r) (p : PV h₀ os₀ Z ρ s k r Q) : wpAny (model prog w) A (call (.ref 100) [.str x t] []) Q E s := by
 obtain ⟨w1, w2, w3⟩ := B.wMk
 have KS := B.KS Re
 refine wpAny_call ?_
 obtain ⟨hp, g, d, tk, os⟩ := s
 refine make_core (makes_of KS w1) (looks_findIn KS w2) (fun self => bind_fn KS self w3) (.inl rfl) ?_
 obtain ⟨R1, S1⟩ := Re.pushLoc (o := emptyDict) (p := .attrs []) rfl ⟨_, [], Heap.get?_push_size _ rfl, .nil⟩
 obtain ⟨R2, S2⟩ := R1.push (o := instObj 100 hp.objs.size) rfl
 dsimp only at R1 S1 R2 S2
 have hsz : (hp.push emptyDict).objs.size = hp.objs.size + 1 := Heap.size_push ..
 rw [hsz] at R2 S2
 have hρ : (ρ ++ [hp.objs.size])[hh.length]? = some hp.objs.size := by
  rw [List.getElem?_append_right (by rw [Re.len]; exact Nat.le_refl _), Re.len, Nat.sub_self]; rfl
 have rvo : RV (put Z (hp.objs.size + 1) (instObj 100 hp.objs.size)) (ρ ++ [hp.objs.size]) (.obj hh.length) (.ref (hp.objs.size + 1)) := by
  unfold RV
  exact ⟨_, _, rfl, put_self _ _ _, hρ⟩
 refine codeAny_mono (SC (s := ⟨(hp.push emptyDict).push (instObj 100 hp.objs.size), g, d, tk, os⟩) (Q := fun y s' => y = .none ∧ Q (.ref (hp.objs.size + 1)) s') e (under_tc ok _ _ _) R2 (by
  unfold RVs
  refine ⟨_, _, rfl, rvo, ?_⟩
  unfold RVs
  exact ⟨_, _, rfl, mkRV_str _ _, by unfold RVs; rfl⟩) .nil fun y s' Z' ρ' v h' S' R' rv' e' => ?_) fun rr s' q => ?_
 ·dsimp only at e'
  split at e'
  ·rename_i l hl
   replace e' := guardB_some e'; obtain ⟨gq, e'⟩ := e'
   replace e' := obind_some e'; obtain ⟨f, ef, e'⟩ := e'
   refine ⟨RV_none rv', ?_⟩
   obtain ⟨raw, i, nt, cs, cnt, b, sm, rfl, hc, rfl⟩ := mkWs_some ef
   have SS := (S1.trans S2).trans S'
   obtain ⟨t', ht'⟩ := S'.rr
   have hlen := Re.len
   obtain ⟨a', e1, m, es, e2, e3⟩ := R'.objs _ _ hl
   have ha' : a' = hp.objs.size := by
    rw [ht', List.getElem?_append_left (by simp [hlen]), hρ] at e1
    exact (Option.some.inj e1).symm
   subst ha'
   rw [List.append_assoc] at ht'
   subst ht'
   rw [← hlen] at gq e'
   refine p _ _ _ _ _ _ (frz_stp R' SS) (frz_rel R' gq) ?_ e'
   unfold RV
   exact REs.toWs (REs.mono (frz_zz R') e3) hc (frz_zz R' _ _ (S'.zz _ _ (put_self _ _ _))) (frz_in R' (i := hh.length) (by rw [hlen]; exact Nat.le_refl _) e1 e2)
  ·cases e'
 ·obtain ⟨v, rfl, rfl, q⟩ := q
  exact ⟨rfl, q⟩
theorem callV_snd (B : Base w h₀ K P) (SC : SCl prog w h₀ n C) (HM : P.hOn = true → HdrOk prog w h₀ n) {v : V} {f : Value} {args : List V} {kws : List (Str × V)} {xs : List Value} {ks : List (Str × Value)} (gg : okCallee P v = true) (FN : ∀ fi, P.fn 279 ≠ some fi) (e : callV C v args kws hh k = some r) (ok : OkA n A) (Re : Rel h₀ os₀ Z ρ hh s)
  (rf : RV Z ρ v f) (ra : RVs Z ρ args xs) (rk : RKs Z ρ kws ks) (p : PV h₀ os₀ Z ρ s k r Q) : wpAny (model prog w) A (call f xs ks) Q E s := by
 cases v with
 | raw u =>
  unfold RV at rf
  subst rf
  cases f with
  | builtin id => exact builtin_snd e ok Re ra rk.nil_of p
  | type T => exact type_snd e Re ra rk.nil_of p
  | ref a =>
   simp only [callV] at e
   split at e
   ·rename_i q
    have q := Nat.eq_of_beq_eq_true q
    subst q
    split at e
    ·rename_i x
     obtain ⟨y, r1, rfl, a1, ra⟩ := RVs_cons ra
     rw [RVs_nil ra]
     obtain ⟨t, rfl⟩ := RV_str a1
     cases rk
     exact makeW_snd B SC ok Re e p
    ·cases e
   ·split at e
    ·rename_i q
     have q := Nat.eq_of_beq_eq_true q
     subst q
     split at e
     ·rw [RVs_nil ra]
      cases rk
      have ho : P.hOn = true := by
       unfold okCallee at gg
       cases q : P.hOn with
       | true => rfl
       | false =>
        rw [q] at gg
        dsimp only at gg
        cases q2 : P.fn 279 with
        | none => rw [q2] at gg; simp at gg
        | some fi => exact absurd q2 (FN fi)
      exact call_ret (HM ho ok Re fun y s' Z' ρ' S' R' rv' => p _ _ _ _ _ _ S' R' rv' e)
     ·cases e
    ·exact call_ret (SC e ok.toC Re ra rk p)
  | _ => cases e
 | _ => cases e
theorem keepV_callee (B : Base w h₀ K P) {v : V} {f : Value} (g : okCallee P v = true) (rf : RV Z ρ v f) : KeepV K f := by
 unfold okCallee at g
 split at g
 ·unfold RV at rf; subst rf; exact .builtin
 ·unfold RV at rf; subst rf; exact .type
 ·unfold RV at rf; subst rf
  rw [Bool.or_eq_true, Bool.or_eq_true] at g
  rw [Bool.and_eq_true] at g
  rcases g with (g | g) | g
  ·exact .ref (B.keepFn _ (.inl (Nat.eq_of_beq_eq_true g)))
  ·exact .ref (B.keepFn _ (.inr (.inl (Nat.eq_of_beq_eq_true g.1))))
  ·exact .ref (B.keepFn _ (.inr (.inr g)))
 ·cases g
theorem plainCall_snd (B : Base w h₀ K P) (SC : SCl prog w h₀ n C) (HM : P.hOn = true → HdrOk prog w h₀ n) (S : SI prog w h₀ n I) {f : PySem.Expr} {pos : Pos} {args : List PySem.Expr} {kws : List Keyword} (hf : ∀ o x ap, f ≠ .Attribute o x ap) (g : plainArgs args kws = true)
  (e : I.ev sc lc false hh f (fun fv h1 => guardB (okCallee P fv) (I.evs sc lc false h1 args fun vs h2 => kwsE I sc lc h2 kws fun ks h3 => callV C fv vs ks h3 k)) = some r) (ok : OkA n A) (Re : Rel h₀ os₀ Z ρ hh s) (F : FrR env sc lc Z ρ s.heap)
  (p : PV h₀ os₀ Z ρ s k r Q) : wpAny (model prog w) A (eval (.Call f args kws pos) env) Q E s := by
 have he : eval (.Call f args kws pos) env = (do callWith pos (← eval f env) [] (backTo pos (starEach args env)) (backToKw pos (keywordEach kws env))) := by
  cases f <;> first | rfl | exact absurd rfl (hf _ _ _)
 rw [he]
 refine wpAny_bind (S.ev e ok Re F fun y s1 Z1 ρ1 v h1 S1 R1 rv1 e1 => ?_)
 replace e1 := guardB_some e1; obtain ⟨gm, e1⟩ := e1
 refine runs_callWith g (keepV_callee B gm rv1) (S.evs e1 ok R1 (F.step S1) fun ys s2 Z2 ρ2 vs h2 S2 R2 rv2 e2 => ?_)
 refine kws_snd S ok e2 R2 (F.step (S1.trans S2)) fun ks s3 Z3 ρ3 l h3 S3 R3 rk e3 => ⟨B.KS R3, ?_⟩
 have S13 := (S2.trans S3)
 exact callV_snd B SC HM gm B.fn279 e3 ok R3 (rv1.mono S13.zz S13.rr) (rv2.mono S3.zz S3.rr) rk fun y s' Z' ρ' v h' S' R' rv' e' => p y s' Z' ρ' v h' ((S1.trans S13).trans S') R' rv' e'
end
end Mine
end
section
set_option maxRecDepth 4000
namespace Mine
open PySem PySem.Calls
variable [Hsh]
def nxOf : It → Nat → H → Option (Option V)
 | .fixed l, j, _ => some l[j]?
 | .items l, j, _ => some l[j]?
 | .live i, j, h => match h[i]? with
  | some (.list l) => some (l[j]?.map .f)
  | _ => none
def WOk (W : Addr → Prop) (Z : Gh) (ρ : List Addr) (h : Heap) : Prop := ∀ a, W a → (∃ o, h.get? a = some o) ∧ Z a = none ∧ a ∉ ρ
structure StpR (X : Addr → Prop) (Z : Gh) (ρ : List Addr) (h : Heap) (Z' : Gh) (ρ' : List Addr) (h' : Heap) : Prop where
 zz : ∀ a o, Z a = some o → Z' a = some o
 rr : ∃ t, ρ' = ρ ++ t
 rest : ∀ a o, h.get? a = some o → Z a = none → a ∉ ρ → ¬ X a → h'.get? a = some o ∧ Z' a = none ∧ a ∉ ρ'
theorem StpH.r {X : Addr → Prop} {Z Z' : Gh} {ρ ρ' : List Addr} {h h' : Heap} (a : StpH X Z ρ h Z' ρ' h') : StpR X Z ρ h Z' ρ' h' := ⟨a.zz, a.rr, a.rest⟩
structure Feed (prog : Program) (w : World) (h₀ : Heap) (A : Around) (os₀ : Bg) (needT : Bool) (nx : Nat → H → Option (Option V)) (it : Value) (St : Nat → Bg → (Addr → Prop) → Heap → Prop) (Z0 : Gh) (ρ0 : List Addr) : Prop where
 weak : ∀ {j b W Z ρ hh s}, St j b W s.heap → Rel h₀ b Z ρ hh s → Rel h₀ os₀ Z ρ hh s
 keep : ∀ {j b W h h'}, St j b W h → (∀ a o, W a → h.get? a = some o → h'.get? a = some o) → St j b W h'
 self : ∀ {j b W s E Q}, needT = false → St j b W s.heap → Q it s → wpAny (model prog w) A (pyIter it) Q E s
 item : ∀ {j b W v hh s Z ρ E Q}, nx j hh = some (some v) → St j b W s.heap → Rel h₀ b Z ρ hh s → WOk W Z ρ s.heap → (∀ a o, Z0 a = some o → Z a = some o) → (∃ t, ρ = ρ0 ++ t) →
  (∀ y s' Z' b' W', StpR W Z ρ s.heap Z' ρ s'.heap → (∀ a, W' a → W a ∨ s.heap.get? a = none) → WOk W' Z' ρ s'.heap → Rel h₀ b' Z' ρ hh s' → RV Z' ρ v y → (needT = false → St (j + 1) b' W' s'.heap) →
   (∀ {target : PySem.Expr} {E2 : Value → Shared → Prop} {Q2 : Unit → Shared → Prop}, (needT = true → isTup target = true) → (∀ s2, StpH W' Z' ρ s'.heap Z' ρ s2.heap → Rel h₀ b' Z' ρ hh s2 → St (j + 1) b' W' s2.heap → Q2 () s2) →
    wpAny (model prog w) A (letOwnedTupleGo target it y) Q2 E2 s') → Q (some y) s') → wpAny (model prog w) A (pyNext it) Q E s
 stop : ∀ {j b W hh s Z ρ E Q}, nx j hh = some none → St j b W s.heap → Rel h₀ b Z ρ hh s → WOk W Z ρ s.heap → (∀ a o, Z0 a = some o → Z a = some o) → (∃ t, ρ = ρ0 ++ t) →
  (∀ s', (∀ a o, ¬ W a → s.heap.get? a = some o → s'.heap.get? a = some o) → Rel h₀ os₀ Z ρ hh s' → Q none s') → wpAny (model prog w) A (pyNext it) Q E s
section
variable {X W : Addr → Prop} {Z Z1 Z2 : Gh} {ρ ρ1 ρ2 : List Addr} {h h1 h2 : Heap}
theorem StpH.transR (a : StpH X Z ρ h Z1 ρ1 h1) (b : StpR W Z1 ρ1 h1 Z2 ρ2 h2) (fr : ∀ a, W a → h.get? a = none) : StpH X Z ρ h Z2 ρ2 h2 := by
 have nw : ∀ x o, h.get? x = some o → ¬ W x := fun x o e q => by rw [fr x q] at e; cases e
 refine ⟨fun x o e => b.zz _ _ (a.zz _ _ e), ?_, fun x o e z r nx => ?_, fun x hx l z r => ?_⟩
 ·obtain ⟨t, rfl⟩ := a.rr
  obtain ⟨t', rfl⟩ := b.rr
  exact ⟨t ++ t', by simp⟩
 ·obtain ⟨e1, z1, r1⟩ := a.rest x o e z r nx
  exact b.rest x o e1 z1 r1 (nw x o e)
 ·obtain ⟨o, e⟩ := l
  obtain ⟨⟨o1, e1⟩, z1, r1⟩ := a.keepX x hx ⟨o, e⟩ z r
  have q := b.rest x o1 e1 z1 r1 (nw x o e)
  exact ⟨⟨o1, q.1⟩, q.2⟩
theorem StpH.transW (a : StpH X Z ρ h Z1 ρ1 h1) (b : StpH W Z1 ρ1 h1 Z2 ρ2 h2) (fr : ∀ a, W a → h.get? a = none) : StpH X Z ρ h Z2 ρ2 h2 := by
 have nw : ∀ x o, h.get? x = some o → ¬ W x := fun x o e q => by rw [fr x q] at e; cases e
 refine ⟨fun x o e => b.zz _ _ (a.zz _ _ e), ?_, fun x o e z r nx => ?_, fun x hx l z r => ?_⟩
 ·obtain ⟨t, rfl⟩ := a.rr
  obtain ⟨t', rfl⟩ := b.rr
  exact ⟨t ++ t', by simp⟩
 ·obtain ⟨e1, z1, r1⟩ := a.rest x o e z r nx
  exact b.rest x o e1 z1 r1 (nw x o e)
 ·obtain ⟨o, e⟩ := l
  obtain ⟨⟨o1, e1⟩, z1, r1⟩ := a.keepX x hx ⟨o, e⟩ z r
  have q := b.rest x o1 e1 z1 r1 (nw x o e)
  exact ⟨⟨o1, q.1⟩, q.2⟩
theorem StpH.ext (a : StpH X Z ρ h Z1 ρ1 h1) (hk : ∀ a o, ¬ W a → h1.get? a = some o → h2.get? a = some o) (fr : ∀ a, W a → h.get? a = none) : StpH X Z ρ h Z1 ρ1 h2 := by
 have nw : ∀ x o, h.get? x = some o → ¬ W x := fun x o e q => by rw [fr x q] at e; cases e
 refine ⟨a.zz, a.rr, fun x o e z r nx => ?_, fun x hx l z r => ?_⟩
 ·obtain ⟨e1, z1, r1⟩ := a.rest x o e z r nx
  exact ⟨hk _ _ (nw x o e) e1, z1, r1⟩
 ·obtain ⟨o, e⟩ := l
  obtain ⟨⟨o1, e1⟩, z1, r1⟩ := a.keepX x hx ⟨o, e⟩ z r
  exact ⟨⟨o1, hk _ _ (nw x o e) e1⟩, z1, r1⟩
theorem WOk.step {Y : Addr → Prop} (wk : WOk W Z ρ h) (S : StpH Y Z ρ h Z1 ρ1 h1) (d : ∀ a, W a → ¬ Y a) : WOk W Z1 ρ1 h1 ∧ ∀ a o, W a → h.get? a = some o → h1.get? a = some o := by
 refine ⟨fun a ha => ?_, fun a o ha e => ?_⟩
 ·obtain ⟨⟨o, e⟩, z, r⟩ := wk a ha
  obtain ⟨e1, z1, r1⟩ := S.rest a o e z r (d a ha)
  exact ⟨⟨o, e1⟩, z1, r1⟩
 ·obtain ⟨_, z, r⟩ := wk a ha
  exact (S.rest a o e z r (d a ha)).1
theorem WOk.self (wk : WOk W Z ρ h) (S : StpH W Z ρ h Z1 ρ1 h1) : WOk W Z1 ρ1 h1 := fun a ha => by
 obtain ⟨l, z, r⟩ := wk a ha
 exact S.keepX a ha l z r
end
section
variable {R : Type} {prog : Program} {w : World} {A : Around} {E : Value → Shared → Prop} {s s' : Shared} {h₀ : Heap} {os₀ : Bg} {Z Z' : Gh} {ρ ρ' : List Addr} {hh h' : H} {env : Env} {sc : Scope} {lc : Lc}
 {k : KV R} {r : R} {Q : Value → Shared → Prop} {n : Nat} {K : Frag} {P : Prg} {C : Cl R} {I : Ev R} {W : Addr → Prop}
theorem FrR.stepR {h h' : Heap} {Z' : Gh} {ρ' : List Addr} (F : FrR env sc lc Z ρ h) (S : StpR W Z ρ h Z' ρ' h') (d1 : ¬ W env.locals) (d2 : ∀ x c, env.cells.lookup x = some c → ¬ W c) : FrR env sc lc Z' ρ' h' := by
 obtain ⟨m, hn, hm⟩ := F.loc
 obtain ⟨o, es, ep, ho, r⟩ := hn
 have q := S.rest _ _ ho F.ownL.1 F.ownL.2 d1
 refine ⟨F.esc, F.kind, F.glob, F.bins, ⟨m, ⟨o, es, ep, q.1, r⟩, fun x v hk hl => ?_⟩, fun x hk => ?_, F.inj, q.2, fun x c e => ?_⟩
 ·obtain ⟨y, e, rv⟩ := hm x v hk hl
  exact ⟨y, e, rv.mono S.zz S.rr⟩
 ·obtain ⟨c, y, e1, e2, e3⟩ := F.cel x hk
  have oc := F.ownC x c e1
  obtain ⟨oo, e2, e2'⟩ := e2
  refine ⟨c, y, e1, ⟨oo, (S.rest _ _ e2 oc.1 oc.2.1 (d2 _ _ e1)).1, e2'⟩, fun v hv => ?_⟩
  obtain ⟨z, ez, rv⟩ := e3 v hv
  exact ⟨z, ez, rv.mono S.zz S.rr⟩
 ·have oc := F.ownC x c e
  obtain ⟨y, oo, hy, hy'⟩ := oc.2.2.2
  have q := S.rest _ _ hy oc.1 oc.2.1 (d2 _ _ e)
  exact ⟨q.2.1, q.2.2, oc.2.2.1, y, oo, q.1, hy'⟩
theorem FrR.stepW {h h' : Heap} {Z' : Gh} {ρ' : List Addr} (F : FrR env sc lc Z ρ h) (S : StpH W Z ρ h Z' ρ' h') (d1 : ¬ W env.locals) (d2 : ∀ x c, env.cells.lookup x = some c → ¬ W c) : FrR env sc lc Z' ρ' h' := F.stepR S.r d1 d2
theorem StpH.one {h h' : Heap} {a : Addr} (hs : Heap.SameBut a h h') (ex : ∃ o, h'.get? a = some o) : StpH (· = a) Z ρ h Z ρ h' := StpH.frame rfl hs ex
theorem go_plain {M : Model} {E : Value → Shared → Prop} {I : Addr} {o : Obj} {T : String} {target : PySem.Expr} {y : Value} {Q : Unit → Shared → Prop} (ho : s.heap.get? I = some o) (hc : o.cls = .type T)
  (hT : ["enumerate", "zip", "dict_itemiterator", "dict_reverseitemiterator", "odict_iterator", "itertools.zip_longest", "itertools.pairwise"].contains T = false) (q : Q () s) : wpAny M A (letOwnedTupleGo target (.ref I) y) Q E s := by
 have main : wpAny M A (do
   let (.ref r, .ref a) := (Value.ref I, y) | return
   let o ← load r
   match o.cls, o.data with
   | .type n, .fields vs =>
    if ["enumerate", "zip", "dict_itemiterator", "dict_reverseitemiterator", "odict_iterator", "itertools.zip_longest", "itertools.pairwise"].contains n && vs[0]? == some (rawInt a) then
     rule "for.unpacks-the-owned-tuple"
     updateField r 0 .none
   | _, _ => pure ()) Q E s := by
  cases y <;> first | exact wpAny_pure q | skip
  refine wpAny_bind (wpAny_load ho ?_)
  rw [hc]
  split
  ·rename_i n vs e1 _
   cases e1
   rw [hT]
   exact wpAny_pure q
  ·exact wpAny_pure q
 unfold letOwnedTupleGo
 split
 ·exact main
 ·exact main
 ·exact wpAny_pure q
theorem RelH.exR {h : Heap} {g : Array GenState} {os : OsState} (R : RelH h₀ os₀ Z ρ hh h g os) {a : Addr} (ha : a ∈ ρ) : ∃ o, h.get? a = some o := by
 obtain ⟨i, hi, e⟩ := List.getElem_of_mem ha
 obtain ⟨a', e1, e2⟩ := R.objs i _ (List.getElem?_eq_getElem (R.len ▸ hi))
 have : a' = a := by
  obtain ⟨_, q⟩ := List.getElem?_eq_some_iff.mp e1
  rw [← q, e]
 subst this
 cases hO : hh[i]'(R.len ▸ hi) with
 | list l => rw [hO] at e2; obtain ⟨n, vs, q, _⟩ := e2; exact ⟨_, q⟩
 | locs l => rw [hO] at e2; obtain ⟨n, vs, q, _⟩ := e2; exact ⟨_, q⟩
 | attrs l => rw [hO] at e2; obtain ⟨n, vs, q, _⟩ := e2; exact ⟨_, q⟩
theorem StpH.was_none {X : Addr → Prop} {Z1 : Gh} {ρ1 : List Addr} {h1 h : Heap} {g : Array GenState} {os : OsState} (S : StpH X Z1 ρ1 h1 Z ρ h) (R : RelH h₀ os₀ Z ρ hh h g os) {a : Addr} (e : h.get? a = none) : h1.get? a = none := by
 cases q : h1.get? a with
 | none => rfl
 | some o =>
  exfalso
  cases qz : Z1 a with
  | some p => have := R.fz _ _ (S.zz _ _ qz); rw [e] at this; cases this
  | none =>
   by_cases qr : a ∈ ρ1
   ·obtain ⟨t, rfl⟩ := S.rr
    obtain ⟨o', h'⟩ := R.exR (List.mem_append_left _ qr)
    rw [e] at h'; cases h'
   ·by_cases qx : X a
    ·obtain ⟨o', h'⟩ := (S.keepX a qx ⟨o, q⟩ qz qr).1
     rw [e] at h'; cases h'
    ·have := (S.rest a o q qz qr qx).1
     rw [e] at this; cases this
abbrev St1 (os₀ : Bg) (I : Addr) (St : Nat → Heap → Prop) : Nat → Bg → (Addr → Prop) → Heap → Prop := fun j b W h => b = os₀ ∧ W = (· = I) ∧ St j h
theorem one_item {I : Addr} {y : Value} {v : V} {h' : Heap} {tk : Nat} {St : Nat → Heap → Prop} {j : Nat} {T : String} {nt : Bool} {Q : Option Value → Shared → Prop} (Re : Rel h₀ os₀ Z ρ hh s) (wk : WOk (· = I) Z ρ s.heap) (hs : Heap.SameBut I s.heap h') (ex : ∃ o, h'.get? I = some o ∧ o.cls = .type T)
  (hT : ["enumerate", "zip", "dict_itemiterator", "dict_reverseitemiterator", "odict_iterator", "itertools.zip_longest", "itertools.pairwise"].contains T = false) (rv : RV Z ρ v y) (st : St (j + 1) h')
  (q : ∀ y s' Z' b' W', StpR (· = I) Z ρ s.heap Z' ρ s'.heap → (∀ a, W' a → a = I ∨ s.heap.get? a = none) → WOk W' Z' ρ s'.heap → Rel h₀ b' Z' ρ hh s' → RV Z' ρ v y → (nt = false → St1 os₀ I St (j + 1) b' W' s'.heap) →
   (∀ {target : PySem.Expr} {E2 : Value → Shared → Prop} {Q2 : Unit → Shared → Prop}, (nt = true → isTup target = true) → (∀ s2, StpH W' Z' ρ s'.heap Z' ρ s2.heap → Rel h₀ b' Z' ρ hh s2 → St1 os₀ I St (j + 1) b' W' s2.heap → Q2 () s2) →
    wpAny (model prog w) A (letOwnedTupleGo target (.ref I) y) Q2 E2 s') → Q (some y) s') : Q (some y) { s with heap := h', toks := tk } := by
 obtain ⟨_, z, r⟩ := wk I rfl
 obtain ⟨o, ho, hc⟩ := ex
 have R1 : Rel h₀ os₀ Z ρ hh { s with heap := h', toks := tk } := Re.frame z r hs
 exact q y _ Z os₀ (· = I) (StpH.one hs ⟨o, ho⟩).r (fun _ h => .inl h) (fun a ha => by subst ha; exact ⟨⟨o, ho⟩, z, r⟩) R1 rv (fun _ => ⟨rfl, rfl, st⟩) fun _ q2 => go_plain ho hc hT (q2 _ StpH.refl R1 ⟨rfl, rfl, st⟩)
theorem one_stop {I : Addr} {h' : Heap} {tk : Nat} {Q : Option Value → Shared → Prop} (Re : Rel h₀ os₀ Z ρ hh s) (wk : WOk (· = I) Z ρ s.heap) (hs : Heap.ExtBut I s.heap h')
  (q : ∀ s' : Shared, (∀ a o, ¬ a = I → s.heap.get? a = some o → s'.heap.get? a = some o) → Rel h₀ os₀ Z ρ hh s' → Q none s') : Q none { s with heap := h', toks := tk } := by
 obtain ⟨_, z, r⟩ := wk I rfl
 refine q _ (fun a o na e => hs a o na e) ?_
 refine Re.agree fun a ha => ?_
 have na : a ≠ I := fun e => by
  subst e
  rcases ha with x | x
  ·exact x z
  ·exact r x
 have ex : ∃ o, s.heap.get? a = some o := by
  rcases ha with x | x
  ·cases e : Z a with
   | none => exact absurd e x
   | some o => exact ⟨o, Re.fz _ _ e⟩
  ·exact Re.exR x
 obtain ⟨o, e⟩ := ex
 rw [e]; exact hs a o na e
theorem feed_one {nt : Bool} {I : Addr} {nx : Nat → H → Option (Option V)} {St : Nat → Heap → Prop} {Z0 : Gh} {ρ0 : List Addr} (keep : ∀ {j h h'}, St j h → (∀ o, h.get? I = some o → h'.get? I = some o) → St j h')
  (self : ∀ {j s E Q}, nt = false → St j s.heap → Q (.ref I) s → wpAny (model prog w) A (pyIter (.ref I)) Q E s)
  (item : ∀ {j v hh s Z ρ E Q}, nx j hh = some (some v) → St j s.heap → Rel h₀ os₀ Z ρ hh s → WOk (· = I) Z ρ s.heap → (∀ a o, Z0 a = some o → Z a = some o) → (∃ t, ρ = ρ0 ++ t) →
  (∀ y s' Z' b' W', StpR (· = I) Z ρ s.heap Z' ρ s'.heap → (∀ a, W' a → a = I ∨ s.heap.get? a = none) → WOk W' Z' ρ s'.heap → Rel h₀ b' Z' ρ hh s' → RV Z' ρ v y → (nt = false → St1 os₀ I St (j + 1) b' W' s'.heap) →
   (∀ {target : PySem.Expr} {E2 : Value → Shared → Prop} {Q2 : Unit → Shared → Prop}, (nt = true → isTup target = true) → (∀ s2, StpH W' Z' ρ s'.heap Z' ρ s2.heap → Rel h₀ b' Z' ρ hh s2 → St1 os₀ I St (j + 1) b' W' s2.heap → Q2 () s2) →
    wpAny (model prog w) A (letOwnedTupleGo target (.ref I) y) Q2 E2 s') → Q (some y) s') → wpAny (model prog w) A (pyNext (.ref I)) Q E s)
  (stop : ∀ {j hh s Z ρ E Q}, nx j hh = some none → St j s.heap → Rel h₀ os₀ Z ρ hh s → WOk (· = I) Z ρ s.heap → (∀ a o, Z0 a = some o → Z a = some o) → (∃ t, ρ = ρ0 ++ t) →
  (∀ s', (∀ a o, ¬ a = I → s.heap.get? a = some o → s'.heap.get? a = some o) → Rel h₀ os₀ Z ρ hh s' → Q none s') → wpAny (model prog w) A (pyNext (.ref I)) Q E s) :
  Feed prog w h₀ A os₀ nt nx (.ref I) (St1 os₀ I St) Z0 ρ0 := by
 refine ⟨fun st R => ?_, fun st hk => ?_, fun hn st q => self hn st.2.2 q, fun e st R wk z r q => ?_, fun e st R wk z r q => ?_⟩
 ·obtain ⟨rfl, _, _⟩ := st; exact R
 ·obtain ⟨rfl, rfl, st⟩ := st; exact ⟨rfl, rfl, keep st fun o => hk _ o rfl⟩
 ·obtain ⟨rfl, rfl, st⟩ := st; exact item e st R wk z r q
 ·obtain ⟨rfl, rfl, st⟩ := st; exact stop e st R wk z r q
theorem feed_list {nt : Bool} {I a : Addr} {it : It} {v : V} (hH : A.handled = none) (hit : (∃ l, v = .f (.lst l) ∧ it = .fixed (l.map .f)) ∨ ∃ i, v = .loc i ∧ it = .live i) (rv : RV Z ρ v (.ref a)) (hI : Z I = none ∧ I ∉ ρ) (hne : a ≠ I) :
  Feed prog w h₀ A os₀ nt (nxOf it) (.ref I) (St1 os₀ I fun j h => h.IsListIter I a j) Z ρ := by
 have look : ∀ {s : Shared} {Z' ρ' hh j} {o : Option V}, Rel h₀ os₀ Z' ρ' hh s → (∀ a o, Z a = some o → Z' a = some o) → (∃ t, ρ' = ρ ++ t) → nxOf it j hh = some o →
   ∃ vs m, s.heap.get? a = some (lstO vs m) ∧ match o with | some v => ∃ y, vs[j]? = some y ∧ RV Z' ρ' v y | none => vs[j]? = none := by
  intro s Z' ρ' hh j o Re hz hr e
  rcases hit with ⟨l, rfl, rfl⟩ | ⟨i, rfl, rfl⟩
  ·have rv := rv.mono hz hr
   unfold RV RF at rv
   obtain ⟨a', m, vs, e1, hz', rf⟩ := rv
   cases e1
   refine ⟨vs, m, Re.fz _ _ hz', ?_⟩
   simp only [nxOf, Option.some.injEq, List.getElem?_map] at e
   subst e
   cases q : l[j]? with
   | none =>
    have := rf.length
    simp only [Option.map_none]
    have := List.getElem?_eq_none_iff.mp q
    exact List.getElem?_eq_none_iff.mpr (by omega)
   | some x =>
    obtain ⟨y, h1, h2⟩ := rf.get q
    exact ⟨y, h1, by unfold RV; exact h2⟩
  ·have rv := rv.mono hz hr
   unfold RV at rv
   obtain ⟨a', e1, ha⟩ := rv
   cases e1
   simp only [nxOf] at e
   split at e
   ·rename_i l hl
    cases e
    obtain ⟨a', e1, m, vs, h1, rf⟩ := Re.objs i _ hl
    rw [ha] at e1; cases e1
    refine ⟨vs, m, h1, ?_⟩
    cases q : l[j]? with
    | none =>
     have := rf.length
     simp only [Option.map_none]
     have := List.getElem?_eq_none_iff.mp q
     exact List.getElem?_eq_none_iff.mpr (by omega)
    | some x =>
     obtain ⟨y, h1, h2⟩ := rf.get q
     exact ⟨y, h1, by unfold RV; exact h2⟩
   ·cases e
 refine feed_one (fun st hk => ?_) (fun _ st q => wpAny_pyIter_listiter st q) (fun {j v hh s Z' ρ' E Q} e st Re wk hz hr q => ?_) (fun e st Re wk hz hr q => ?_)
 ·obtain ⟨o, ho, r⟩ := st
  exact ⟨o, hk _ ho, r⟩
 ·obtain ⟨vs, m, h1, y, h2, h3⟩ := look Re hz hr e
  refine wpAny_pyNext_list_item st ⟨_, h1, rfl, m, rfl⟩ (x := y) (by simpa using h2) fun h' hi hs => ?_
  exact one_item (St := fun j h => h.IsListIter I a j) (tk := s.toks) Re wk hs (by obtain ⟨o, ho, hc, _⟩ := hi; exact ⟨o, ho, hc⟩) (by decide +kernel) h3 hi q
 ·obtain ⟨vs, m, h1, h2⟩ := look Re hz hr e
  exact wpAny_pyNext_list_end hH st ⟨_, h1, rfl, m, rfl⟩ (by simpa using h2) fun h' hs => one_stop Re wk hs q
theorem feed_str {nt : Bool} {I : Addr} {x : Str} {t : Tok} (hH : A.handled = none) : Feed prog w h₀ A os₀ nt (nxOf (.fixed (x.cps.toList.map fun c => .f (.str ⟨#[c]⟩)))) (.ref I) (St1 os₀ I fun j h => h.IsStrIter I "str_ascii_iterator" x t j) Z ρ := by
 refine feed_one (fun st hk => ?_) (fun _ st q => wpAny_pyIter_striter_ascii st q) (fun e st Re wk hz hr q => ?_) (fun e st Re wk hz hr q => ?_)
 ·obtain ⟨o, ho, r⟩ := st
  exact ⟨o, hk _ ho, r⟩
 ·simp only [nxOf, Option.some.injEq, List.getElem?_map, Option.map_eq_some_iff] at e
  obtain ⟨c, hc, rfl⟩ := e
  refine wpAny_pyNext_ascii_item st (c := c) (by simpa using hc) fun h' hi hs => ?_
  exact one_item (St := fun j h => h.IsStrIter I "str_ascii_iterator" x t j) Re wk hs (by obtain ⟨o, ho, hc, _⟩ := hi; exact ⟨o, ho, hc⟩) (by decide +kernel) (mkRV_str _ _) hi q
 ·simp only [nxOf, Option.some.injEq, List.getElem?_map, Option.map_eq_none_iff] at e
  exact wpAny_pyNext_ascii_end hH st (by simpa using e) fun h' hs => one_stop Re wk hs q
theorem feed_range {nt : Bool} {I : Addr} {a c : Int} {m : Nat} {l : List V} (hH : A.handled = none) (hl : ∀ j : Nat, l[j]? = if j < m then some (.f (.int (a + c * (j : Int)))) else none) :
  Feed prog w h₀ A os₀ nt (nxOf (.fixed l)) (.ref I) (St1 os₀ I fun j h => j ≤ m ∧ IsRangeIter h I (a + c * (j : Int)) ((m : Int) - (j : Int)) c) Z ρ := by
 refine feed_one (fun st hk => ⟨st.1, hk _ st.2⟩) (fun _ st q => wpAny_pyIter_rangeiter st.2 q) (fun {j v hh s Z ρ E Q} e st Re wk hz hr q => ?_) (fun {j hh s Z ρ E Q} e st Re wk hz hr q => ?_)
 ·simp only [nxOf, Option.some.injEq, hl] at e
  split at e
  ·rename_i hj
   cases e
   refine wpAny_pyNext_range_item st.2 (by omega) fun h' hi hs => ?_
   refine one_item (St := fun j h => j ≤ m ∧ IsRangeIter h I (a + c * (j : Int)) ((m : Int) - (j : Int)) c) Re wk hs ⟨_, hi, rfl⟩ (by decide +kernel) (mkRV_int _ _) ⟨hj, ?_⟩ q
   have e1 : a + c * (j : Int) + c = a + c * ((j + 1 : Nat) : Int) := by rw [Int.natCast_add, Int.mul_add]; simp; omega
   have e2 : (m : Int) - (j : Int) - 1 = (m : Int) - ((j + 1 : Nat) : Int) := by omega
   rw [← e1, ← e2]; exact hi
  ·cases e
 ·simp only [nxOf, Option.some.injEq, hl] at e
  split at e
  ·cases e
  ·rename_i hj
   exact wpAny_pyNext_range_end hH st.2 (by omega) fun h' hs => one_stop Re wk hs q
end
end Mine
end
section
set_option maxRecDepth 4000
namespace Mine
open PySem PySem.Calls
variable [Hsh]
def needOf : It → Bool
 | .items _ => true
 | _ => false
def ItQ (prog : Program) (w : World) (h₀ : Heap) (A : Around) (os₀ : Bg) (Z : Gh) (ρ : List Addr) (hh : H) (s : Shared) (it : It) (Q : Value → Shared → Prop) : Prop :=
 ∀ itv s' W St b, (∀ a o, s.heap.get? a = some o → s'.heap.get? a = some o) → (∀ a, W a → s.heap.get? a = none) → Feed prog w h₀ A os₀ (needOf it) (nxOf it) itv St Z ρ → WOk W Z ρ s'.heap →
  Rel h₀ b Z ρ hh s' → St 0 b W s'.heap → Q itv s'
def HItems (prog : Program) (w : World) (h₀ : Heap) (n : Nat) : Prop :=
 ∀ {A : Around} {E : Value → Shared → Prop} {s : Shared} {os₀ : Bg} {Z : Gh} {ρ : List Addr} {hh : H} {l : List (Str × F)} {x : Value}, OkA n A → Rel h₀ os₀ Z ρ hh s → RV Z ρ (.kw l) x →
  (l.map (·.1)).Nodup →
  (∀ {pl : Sem Bool} {Q : Value × List Value → Shared → Prop}, Q (.builtin "dict.items", [x]) s → wpAny (model prog w) A (getMethod x "items" pl) Q E s) ∧
  ∀ {Q : Value → Shared → Prop}, ItQ prog w h₀ A os₀ Z ρ hh s (.items (l.map fun p => .f (.tup [.str p.1, p.2]))) Q → wpAny (model prog w) A (call (.builtin "dict.items") [x] []) (fun v s1 => wpAny (model prog w) A (pyIter v) Q E s1) E s
def HGen (prog : Program) (w : World) (h₀ : Heap) (P : Prg) (n : Nat) : Prop :=
 ∀ {A : Around} {E : Value → Shared → Prop} {s : Shared} {os₀ : Bg} {Z : Gh} {ρ : List Addr} {hh : H} {x : Str} {t : Tok}, OkA n A → Rel h₀ os₀ Z ρ hh s → fitS x = true → (x.cps.toList.all fun c => decide (c < 128)) = true →
  ∀ {Q : Value → Shared → Prop}, ItQ prog w h₀ A os₀ Z ρ hh s (.fixed ((escPairs x).map fun p => .f (.tup [.int p.1, .str p.2]))) Q → wpAny (model prog w) A (call (.ref P.genFn) [.str x t] []) (fun v s1 => wpAny (model prog w) A (pyIter v) Q E s1) E s
section
variable {R : Type} {prog : Program} {w : World} {A : Around} {E : Value → Shared → Prop} {s s' : Shared} {h₀ : Heap} {os₀ : Bg} {Z Z' : Gh} {ρ ρ' : List Addr} {hh h' : H} {env : Env} {sc : Scope} {lc : Lc}
 {k : KV R} {r : R} {Q : Value → Shared → Prop} {n : Nat} {K : Frag} {P : Prg} {C : Cl R} {I : Ev R} {W : Addr → Prop}
theorem wok_new (Re : Rel h₀ os₀ Z ρ hh s) {h' : Heap} (ex : ∃ o, h'.get? s.heap.objs.size = some o) : WOk (· = s.heap.objs.size) Z ρ h' := fun a ha => by
 subst ha
 exact ⟨ex, Re.freshZ (Nat.le_refl _), Re.freshR (Nat.le_refl _)⟩
theorem none_new (s : Shared) : ∀ a, a = s.heap.objs.size → s.heap.get? a = none := fun a ha => by
 subst ha
 cases e : s.heap.get? s.heap.objs.size with
 | none => rfl
 | some o => exact absurd (Heap.lt_size e) (Nat.lt_irrefl _)
theorem iterV_snd {v : V} {x : Value} {it : It} (e : iterIt hh v = some it) (hH : A.handled = none) (Re : Rel h₀ os₀ Z ρ hh s) (rv : RV Z ρ v x) (q : ItQ prog w h₀ A os₀ Z ρ hh s it Q) : wpAny (model prog w) A (pyIter x) Q E s := by
 have keep : ∀ (o : Obj) a p, s.heap.get? a = some p → (s.heap.push o).get? a = some p := fun o a p e => Heap.get?_push_of_some _ e
 have lst : (∃ l, v = .f (.lst l) ∧ it = .fixed (l.map .f)) ∨ (∃ i, v = .loc i ∧ it = .live i) → ∀ a vs m, x = .ref a → s.heap.get? a = some (lstO vs m) → wpAny (model prog w) A (pyIter x) Q E s := by
  intro hit a vs m ex ha
  subst ex
  refine wpAny_pyIter_list ⟨_, ha, rfl, m, rfl⟩ ?_
  have hg : (s.heap.push { cls := .type "list_iterator", data := .fields #[.ref a, .int 0 0] }).get? s.heap.objs.size = some { cls := .type "list_iterator", data := .fields #[.ref a, .int 0 0] } := Heap.get?_push_size _ rfl
  exact q _ _ (· = s.heap.objs.size) (St1 os₀ s.heap.objs.size fun j h => h.IsListIter s.heap.objs.size a j) os₀ (keep _) (none_new s) (feed_list hH hit rv ⟨Re.freshZ (Nat.le_refl _), Re.freshR (Nat.le_refl _)⟩ (Nat.ne_of_lt (Heap.lt_size ha))) (wok_new Re ⟨_, hg⟩) (Re.kept (keep _)) ⟨rfl, rfl, _, hg, rfl, rfl⟩
 unfold iterIt at e
 split at e
 ·rename_i l
  cases e
  have rv0 := rv
  unfold RV RF at rv0
  obtain ⟨a, m, vs, rfl, hz, rf⟩ := rv0
  exact lst (.inl ⟨l, rfl, rfl⟩) a vs m rfl (Re.fz _ _ hz)
 ·rename_i y
  replace e := guardB_some e; obtain ⟨g, e⟩ := e
  cases e
  obtain ⟨t, rfl⟩ := RV_str rv
  rw [Bool.and_eq_true] at g
  have ha : y.cps.all (· < 128) = true := by
   rw [← Array.all_toList]; exact g.2
  refine wpAny_pyIter_ascii ha ?_
  have hg : (s.heap.push { cls := .type "str_ascii_iterator", data := .fields #[.str y t, .int 0 0] }).get? s.heap.objs.size = some { cls := .type "str_ascii_iterator", data := .fields #[.str y t, .int 0 0] } := Heap.get?_push_size _ rfl
  exact q _ _ (· = s.heap.objs.size) (St1 os₀ s.heap.objs.size fun j h => h.IsStrIter s.heap.objs.size "str_ascii_iterator" y t j) os₀ (keep _) (none_new s) (feed_str hH) (wok_new Re ⟨_, hg⟩) (Re.kept (keep _)) ⟨rfl, rfl, _, hg, rfl, rfl⟩
 ·rename_i i
  split at e
  ·rename_i l hl
   cases e
   have rv0 := rv
   unfold RV at rv0
   obtain ⟨a, rfl, ha⟩ := rv0
   obtain ⟨a', e1, m, vs, h1, rf⟩ := Re.objs i _ hl
   rw [ha] at e1; cases e1
   exact lst (.inr ⟨i, rfl, rfl⟩) a vs m rfl h1
  ·cases e
 ·cases e
theorem up_at (a b : Int) (j : Nat) : ((rangeUp a b).map fun i => V.f (.int i))[j]? = if j < (b - a).toNat then some (.f (.int (a + 1 * (j : Int)))) else none := by
 unfold rangeUp
 rw [List.map_map, List.getElem?_map]
 by_cases h : j < (b - a).toNat
 ·rw [if_pos h, List.getElem?_range h]; simp
 ·rw [if_neg h, List.getElem?_eq_none (by simpa using h)]; rfl
theorem dn_at (a b : Int) (j : Nat) : ((rangeDn a b).map fun i => V.f (.int i))[j]? = if j < (a - b).toNat then some (.f (.int (a + (-1) * (j : Int)))) else none := by
 unfold rangeDn
 rw [List.map_map, List.getElem?_map]
 by_cases h : j < (a - b).toNat
 ·rw [if_pos h, List.getElem?_range h]
  simp only [Option.map_some, Function.comp_apply, Option.some.injEq, V.f.injEq, F.int.injEq]
  omega
 ·rw [if_neg h, List.getElem?_eq_none (by simpa using h)]; rfl
theorem rangeSize_neg (a b : Int) : Builtin.Range.rangeSize a b (-1) = if b < a then a - b else 0 := by
 unfold Builtin.Range.rangeSize
 have : ¬ ((-1 : Int) > 0) := by decide
 simp only [if_neg this, Int.neg_neg, Int.ediv_one, gt_iff_lt]
 split <;> omega
theorem range_snd {a b c : Int} {t u v : Tok} {tk : Nat} {m : Nat} {l : List V} (hH : A.handled = none) (Re : Rel h₀ os₀ Z ρ hh s) (ha : small a = true) (hb : small b = true) (hc : c = 1 ∨ c = -1) (hm : Builtin.Range.rangeSize a b c = m) (hl : ∀ j : Nat, l[j]? = if j < m then some (.f (.int (a + c * (j : Int)))) else none)
  (q : ItQ prog w h₀ A os₀ Z ρ hh s (.fixed l) Q) :
  wpAny (model prog w) A (pyIter (.ref s.heap.objs.size)) Q E { s with heap := s.heap.push { cls := .type "range", data := .fields #[.int a t, .int b u, .int c v] }, toks := tk } := by
 have ha := small_lt ha
 have hb := small_lt hb
 have hs : Builtin.Range.small a b c = true := by
  have hm' : 0 ≤ (m : Int) ∧ (m : Int) ≤ 2000000 := by
   rcases hc with rfl | rfl
   ·rw [rangeSize_one] at hm
    split at hm <;> omega
   ·rw [rangeSize_neg] at hm
    split at hm <;> omega
  unfold Builtin.Range.small Builtin.Range.rangeFitsLong
  rw [hm]
  rcases hc with rfl | rfl <;> simp <;> omega
 refine wpAny_pyIter_range (a := a) (b := b) (c := c) (t := t) (u := u) (v := v) (Heap.get?_push_size _ rfl) hs ?_
 dsimp only
 have hsz : (s.heap.push { cls := .type "range", data := .fields #[.int a t, .int b u, .int c v] }).objs.size = s.heap.objs.size + 1 := Heap.size_push ..
 rw [hsz, hm]
 have keep : ∀ x p, s.heap.get? x = some p → ((s.heap.push { cls := .type "range", data := .fields #[.int a t, .int b u, .int c v] }).push { cls := .type "range_iterator", data := .fields #[rawInt a, rawInt (m : Int), rawInt c] }).get? x = some p :=
  fun x p e => Heap.get?_push_of_some _ (Heap.get?_push_of_some _ e)
 have hg : ((s.heap.push { cls := .type "range", data := .fields #[.int a t, .int b u, .int c v] }).push { cls := .type "range_iterator", data := .fields #[rawInt a, rawInt (m : Int), rawInt c] }).get? (s.heap.objs.size + 1) = some { cls := .type "range_iterator", data := .fields #[rawInt a, rawInt (m : Int), rawInt c] } := by
  rw [← hsz]; exact Heap.get?_push_size _ rfl
 refine q _ _ (· = s.heap.objs.size + 1) (St1 os₀ (s.heap.objs.size + 1) fun j h => j ≤ m ∧ IsRangeIter h (s.heap.objs.size + 1) (a + c * (j : Int)) ((m : Int) - (j : Int)) c) os₀ keep (fun x hx => ?_) (feed_range hH hl) (fun x hx => ?_) (Re.kept keep) ⟨rfl, rfl, Nat.zero_le _, ?_⟩
 ·subst hx
  cases e : s.heap.get? (s.heap.objs.size + 1) with
  | none => rfl
  | some o => exact absurd (Heap.lt_size e) (Nat.not_lt.mpr (Nat.le_succ _))
 ·subst hx
  exact ⟨⟨_, hg⟩, Re.freshZ (Nat.le_succ _), Re.freshR (Nat.le_succ _)⟩
 ·have e1 : a + c * ((0 : Nat) : Int) = a := by simp
  have e2 : (m : Int) - ((0 : Nat) : Int) = m := by simp
  show IsRangeIter _ _ (a + c * ((0 : Nat) : Int)) ((m : Int) - ((0 : Nat) : Int)) c
  rw [e1, e2]; exact hg
end
end Mine
end
section
set_option maxRecDepth 4000
namespace Mine
open PySem PySem.Calls
variable [Hsh]
section
variable {R : Type} {prog : Program} {w : World} {A : Around} {E : Value → Shared → Prop} {s s' : Shared} {h₀ : Heap} {os₀ : Bg} {Z Z' : Gh} {ρ ρ' : List Addr} {hh h' : H} {env : Env} {sc : Scope} {lc : Lc}
 {k : KV R} {r : R} {Q : Value → Shared → Prop} {n : Nat} {K : Frag} {P : Prg} {C : Cl R} {I : Ev R} {W : Addr → Prop}
theorem nodupS_iff : ∀ {l : List Str}, nodupS l = true → l.Nodup
 | [], _ => List.nodup_nil
 | x :: r, h => by
  unfold nodupS at h
  rw [Bool.and_eq_true, List.all_eq_true] at h
  refine List.nodup_cons.mpr ⟨fun q => ?_, nodupS_iff h.2⟩
  have := h.1 x q
  rw [steq_self] at this; cases this
theorem iterE_snd (B : Base w h₀ K P) (S : SI prog w h₀ n I) (HI : HItems prog w h₀ n) (HG : P.hOn = true → HGen prog w h₀ P n) (hg : keepIn K (.ref P.genFn) = true) {e : PySem.Expr} {k : It → H → Option R} (h : iterE P I sc lc hh e k = some r) (ok : OkA n A) (Re : Rel h₀ os₀ Z ρ hh s) (F : FrR env sc lc Z ρ s.heap)
  (q : ∀ it s1 Z' ρ' h', Stp no Z ρ s Z' ρ' s1 → Rel h₀ os₀ Z' ρ' h' s1 → k it h' = some r → ItQ prog w h₀ A os₀ Z' ρ' h' s1 it Q) :
  (∀ x, foldedSetIterable e env x = pure x) ∧ wpAny (model prog w) A (eval e env) (fun x s1 => wpAny (model prog w) A (pyIter x) Q E s1) E s := by
 have plain : guardB (notSet e) (I.ev sc lc false hh e fun v h1 => obind (iterIt h1 v) fun it => k it h1) = some r → (∀ x, foldedSetIterable e env x = pure x) ∧ wpAny (model prog w) A (eval e env) (fun x s1 => wpAny (model prog w) A (pyIter x) Q E s1) E s := by
  intro h
  replace h := guardB_some h; obtain ⟨g, h⟩ := h
  refine ⟨fun x => (by cases e <;> first | rfl | cases g), ?_⟩
  refine S.ev h ok Re F fun y s1 Z1 ρ1 v h1 S1 R1 rv1 e1 => ?_
  replace e1 := obind_some e1; obtain ⟨it, ei, e1⟩ := e1
  exact iterV_snd ei ok.hand R1 rv1 (q it s1 Z1 ρ1 h1 S1 R1 e1)
 unfold iterE at h
 split at h
 ·rename_i x np args cp
  refine ⟨fun x => rfl, ?_⟩
  split at h
  ·rename_i T hT
   split at h
   ·rename_i hr
    have hr : T = "range" := beq_iff_eq.mp hr
    subst hr
    replace h := guardB_some h; obtain ⟨g, h⟩ := h
    refine wpAny_Call_ofName (name_snd B hT Re F fun y rv => ?_)
    unfold RV at rv; subst rv
    refine runs_callWith (K := K) g .type (S.evs h ok Re F fun ys s1 Z1 ρ1 vs h1 S1 R1 rv1 e1 => ?_)
    refine ⟨B.KS R1, ?_⟩
    dsimp only at e1
    split at e1
    ·rename_i b
     replace e1 := guardB_some e1; obtain ⟨gb, e1⟩ := e1
     obtain ⟨y1, r1, rfl, a1, rv1⟩ := RVs_cons rv1
     rw [RVs_nil rv1]
     obtain ⟨u, rfl⟩ := RV_int a1
     refine call_range_1 (range_snd (m := (b - 0).toNat) ok.hand R1 rfl gb (.inl rfl) (by rw [rangeSize_one]; split <;> omega) (up_at 0 b) (q _ s1 Z1 ρ1 _ S1 R1 e1))
    ·rename_i a b
     replace e1 := guardB_some e1; obtain ⟨gb, e1⟩ := e1
     rw [Bool.and_eq_true] at gb
     obtain ⟨y1, r1, rfl, a1, rv1⟩ := RVs_cons rv1
     obtain ⟨y2, r2, rfl, a2, rv1⟩ := RVs_cons rv1
     rw [RVs_nil rv1]
     obtain ⟨u, rfl⟩ := RV_int a1
     obtain ⟨u', rfl⟩ := RV_int a2
     refine call_range_2 (range_snd (m := (b - a).toNat) ok.hand R1 gb.1 gb.2 (.inl rfl) (by rw [rangeSize_one]; split <;> omega) (up_at a b) (q _ s1 Z1 ρ1 _ S1 R1 e1))
    ·rename_i a b c
     replace e1 := guardB_some e1; obtain ⟨gb, e1⟩ := e1
     rw [Bool.and_eq_true, Bool.and_eq_true] at gb
     have gc := of_decide_eq_true gb.2
     subst gc
     obtain ⟨y1, r1, rfl, a1, rv1⟩ := RVs_cons rv1
     obtain ⟨y2, r2, rfl, a2, rv1⟩ := RVs_cons rv1
     obtain ⟨y3, r3, rfl, a3, rv1⟩ := RVs_cons rv1
     rw [RVs_nil rv1]
     obtain ⟨u, rfl⟩ := RV_int a1
     obtain ⟨u', rfl⟩ := RV_int a2
     obtain ⟨u'', rfl⟩ := RV_int a3
     have l1 := small_lt gb.1.1
     have l2 := small_lt gb.1.2
     refine call_range_3 (by decide) (range_snd (m := (a - b).toNat) ok.hand R1 gb.1.1 gb.1.2 (.inr rfl) (by rw [rangeSize_neg]; split <;> omega) (dn_at a b) (q _ s1 Z1 ρ1 _ S1 R1 e1)) (Or.inl (PyProof.noPylong_small (by omega)))
    ·cases e1
   ·exact (plain h).2
  ·rename_i a hT
   split at h
   ·rename_i hr
    rw [Bool.and_eq_true] at hr
    have hon := hr.2
    have hr := Nat.eq_of_beq_eq_true hr.1
    subst hr
    replace h := guardB_some h; obtain ⟨g, h⟩ := h
    refine wpAny_Call_ofName (name_snd B hT Re F fun y rv => ?_)
    unfold RV at rv; subst rv
    refine runs_callWith (K := K) g (.ref hg) (S.evs h ok Re F fun ys s1 Z1 ρ1 vs h1 S1 R1 rv1 e1 => ?_)
    refine ⟨B.KS R1, ?_⟩
    dsimp only at e1
    split at e1
    ·replace e1 := guardB_some e1; obtain ⟨gb, e1⟩ := e1
     rw [Bool.and_eq_true] at gb
     obtain ⟨y1, r1, rfl, a1, rv1⟩ := RVs_cons rv1
     rw [RVs_nil rv1]
     obtain ⟨u, rfl⟩ := RV_str a1
     exact HG hon ok R1 gb.1 gb.2 (q _ s1 Z1 ρ1 _ S1 R1 e1)
    ·cases e1
   ·exact (plain h).2
  ·exact (plain h).2
 ·rename_i o name ap cp
  split at h
  ·rename_i hn
   have hn := (steq_iff _ _).mp hn
   subst hn
   replace h := guardB_some h; obtain ⟨g, h⟩ := h
   rw [Bool.and_eq_true] at g
   refine ⟨fun x => rfl, getMethod_pos g.1 g.2 rfl (S.ev h ok Re F fun y s1 Z1 ρ1 v h1 S1 R1 rv1 e1 => ?_)⟩
   dsimp only at e1
   split at e1
   ·replace e1 := guardB_some e1; obtain ⟨gn, e1⟩ := e1
    obtain ⟨m1, m2⟩ := HI (E := E) ok R1 rv1 (nodupS_iff gn)
    exact ⟨_, m1, runs_callWith (K := K) rfl .builtin ⟨B.KS R1, m2 (q _ s1 Z1 ρ1 _ S1 R1 e1)⟩⟩
   ·cases e1
  ·exact plain h
 ·exact plain h
end
end Mine
end
section
set_option maxRecDepth 4000
namespace Mine
open PySem PySem.Calls
variable [Hsh]
section
variable {R : Type} {prog : Program} {w : World} {A : Around} {E : Value → Shared → Prop} {s s' : Shared} {h₀ : Heap} {os₀ : Bg} {Z Z' : Gh} {ρ ρ' : List Addr} {hh h' : H} {env : Env} {sc : Scope} {lc : Lc}
 {k : KV R} {r : R} {Q : Value → Shared → Prop} {n : Nat} {K : Frag} {P : Prg} {C : Cl R} {I : Ev R} {W : Addr → Prop}
theorem getL_ok {name : Str} {es : List DictEntry} (h : (getL name es).isSome = true) : (!es.toArray.any (·.key.isStr name) && es.toArray.any (·.refKey)) = false := by
 rw [List.any_toArray, List.any_toArray]
 unfold PySem.W.getL at h
 split at h
 ·rename_i en he
  rw [List.any_eq_true.mpr ⟨en, List.mem_of_find?_eq_some he, List.find?_some he⟩]; rfl
 ·split at h
  ·cases h
  ·rename_i z; rw [Bool.not_eq_true] at z; rw [z, Bool.and_false]
theorem set_attr {x C d : Addr} {es : List DictEntry} {m : Nat} {name : Str} {v : Value} {Q : Unit → Shared → Prop} (KX : K.In s.heap) (ho : s.heap.get? x = some (insO C d)) (hd : s.heap.get? d = some (dicO es m))
  (hs : findIn K (.ref C) "__setattr__" = some (some (.builtin "object.__setattr__"))) (hp : plainOver K C = true) (ht : takerIn K C name = some none) (hh : hasDictIn K C = true) (hl : (getL name es).isSome = true) (hz : es.length ≤ 100)
  (h : ∀ h' tk t', Heap.SameBut d s.heap h' → (∃ m', h'.get? d = some (dicO (putL name (PyData.keyHash w.params name) (.str name t') v es) m')) → Q () { s with heap := h', toks := tk }) :
  wpAny (model prog w) A (setAttr (.ref x) name v) Q E s := by
 have I : InstAt s.heap x (insO C d) C (some (dicO es m)) := ⟨ho, rfl, rfl, hd⟩
 refine set_plain KX I hs ?_
 refine osa_open (s := { s with toks := s.toks + 1 }) KX I hp ht fun b => ?_
 obtain ⟨cd, hc, hd'⟩ := any_some hh
 refine wpAny_bind (wpAny_pure (wpAny_bind (wpAny_bind (wpAny_loadPart ho (wpAny_bind ((looks_clsIn KX hc) _ _ _ _ (fun _ _ e => e) ?_))))))
 rw [hd']
 refine wpAny_pure (a := some d) (wpAny_bind (wpAny_pure (wpAny_bind ?_)))
 unfold nsSet
 refine wpAny_bind (wpAny_bind (wpAny_askSetting (wpAny_pure (wpAny_bind (wpAny_mkText (wpAny_bind (wpAny_loadPart hd ?_)))))))
 dsimp only [dicO]
 rw [aRefKeyMayBeTheName_at, getL_ok hl]
 have hput : ∀ t', Obj.putName name (PyData.keyHash w.params name) (.str name t') v (dicO es m) = dicO (putL name (PyData.keyHash w.params name) (.str name t') v es) (putN name es m) := fun t' => putName_dict name _ _ v es m
 have hupd : ∀ t', (s.heap.update d (Obj.putName name (PyData.keyHash w.params name) (.str name t') v)).get? d = some (dicO (putL name (PyData.keyHash w.params name) (.str name t') v es) (putN name es m)) := fun t' => by
  rw [Heap.get?_update_self _ hd (by rw [hput]; rfl), hput]
 refine wpAny_updatePart hd ?_
 refine wpAny_bind (wpAny_lookBehind (hupd _) (pastItsLine_dict ?_) ?_)
 ·rw [List.size_toArray, sizeLine_eq]
  have : ∀ (l : List DictEntry) k, (putL name (PyData.keyHash w.params name) k v l).length ≤ l.length + 1 := by
   intro l k
   induction l with
   | nil => exact Nat.le_refl _
   | cons e r ih =>
    unfold putL
    split
    ·simp
    ·simp only [List.length_cons]; omega
  have := this es
  have := this (.str name (s.toks + 1))
  omega
 ·exact wpAny_pure (h _ _ _ (Heap.SameBut.update ..) ⟨_, hupd _⟩)
theorem REs.put {l : List (Str × F)} {es : List DictEntry} {name : Str} {f : F} {v : Value} {hs : Int} {t : Tok} (h : REs Z l es) (hv : RF Z f v) : REs Z (lset l name f) (putL name hs (.str name t) v es) := by
 induction h with
 | nil => exact .cons hv .nil
 | @cons x f' l hs' t' v' es hf hr ih =>
  unfold lset putL
  rw [isStr_eq, steq_eq]
  by_cases q : x = name
  ·simp only [q, decide_true, if_true]
   exact .cons hv hr
  ·simp only [decide_eq_false q]
   exact .cons hf ih
theorem REs.length {l : List (Str × F)} {es : List DictEntry} (h : REs Z l es) : es.length = l.length := by
 induction h with
 | nil => rfl
 | cons _ _ ih => simp [ih]
theorem FrR.congr {lc' : Lc} {h : Heap} (F : FrR env sc lc Z ρ h) (e : ∀ x, lget lc' x = lget lc x) : FrR env sc lc' Z ρ h := by
 obtain ⟨m, hn, hm⟩ := F.loc
 refine ⟨F.esc, F.kind, F.glob, F.bins, ⟨m, hn, fun x v hk hl => hm x v hk (by rw [← e]; exact hl)⟩, fun x hk => ?_, F.inj, F.ownL, F.ownC⟩
 obtain ⟨c, y, e1, e2, e3⟩ := F.cel x hk
 exact ⟨c, y, e1, e2, fun v hv => e3 v (by rw [← e]; exact hv)⟩
theorem asgNames_snd {Q : Unit → Shared → Prop} : ∀ {ts : List PySem.Expr} {vs : List V} {ys : List Value} {lc lc1 : Lc} {s : Shared}, asgNames sc ts vs lc = some lc1 → RVs Z ρ vs ys → Rel h₀ os₀ Z ρ hh s → FrR env sc lc Z ρ s.heap →
  (∀ s', Rel h₀ os₀ Z ρ hh s' → FrR env sc lc1 Z ρ s'.heap → Stp (own env) Z ρ s Z ρ s' → Q () s') → wpAny (model prog w) A (assignInOrder ((assignEach ts env).map (·.2)) ys) Q E s
 | [], [], ys, lc, lc1, s, e, rv, Re, F, q => by
  unfold asgNames at e; cases e
  rw [RVs_nil rv]
  exact wpAny_pure (q s Re F StpH.refl)
 | .Name x p :: r, v :: vs, ys, lc, lc1, s, e, rv, Re, F, q => by
  unfold asgNames at e
  split at e
  ·rename_i hx
   obtain ⟨y, r', rfl, a, b⟩ := RVs_cons rv
   show wpAny (model prog w) A (do holding r' (PySem.assign (.Name x p) env y); assignInOrder ((assignEach r env).map (·.2)) r') Q E s
   refine wpAny_bind (wpAny_holding (wpAny_assign_Name (frame_store Re F hx a fun s1 R1 F1 S1 => ?_)))
   exact asgNames_snd e b R1 F1 fun s2 R2 F2 S2 => q s2 R2 F2 (S1.trans S2)
  ·cases e
 | [], _ :: _, _, _, _, _, e, _, _, _, _ => by simp [asgNames] at e
 | .Name _ _ :: _, [], _, _, _, _, e, _, _, _, _ => by simp [asgNames] at e
 | .BoolOp .. :: _, _, _, _, _, _, e, _, _, _, _ => by simp [asgNames] at e
 | .NamedExpr .. :: _, _, _, _, _, _, e, _, _, _, _ => by simp [asgNames] at e
 | .BinOp .. :: _, _, _, _, _, _, e, _, _, _, _ => by simp [asgNames] at e
 | .UnaryOp .. :: _, _, _, _, _, _, e, _, _, _, _ => by simp [asgNames] at e
 | .Lambda .. :: _, _, _, _, _, _, e, _, _, _, _ => by simp [asgNames] at e
 | .IfExp .. :: _, _, _, _, _, _, e, _, _, _, _ => by simp [asgNames] at e
 | .Dict .. :: _, _, _, _, _, _, e, _, _, _, _ => by simp [asgNames] at e
 | .Set .. :: _, _, _, _, _, _, e, _, _, _, _ => by simp [asgNames] at e
 | .ListComp .. :: _, _, _, _, _, _, e, _, _, _, _ => by simp [asgNames] at e
 | .SetComp .. :: _, _, _, _, _, _, e, _, _, _, _ => by simp [asgNames] at e
 | .DictComp .. :: _, _, _, _, _, _, e, _, _, _, _ => by simp [asgNames] at e
 | .GeneratorExp .. :: _, _, _, _, _, _, e, _, _, _, _ => by simp [asgNames] at e
 | .Await .. :: _, _, _, _, _, _, e, _, _, _, _ => by simp [asgNames] at e
 | .Yield .. :: _, _, _, _, _, _, e, _, _, _, _ => by simp [asgNames] at e
 | .YieldFrom .. :: _, _, _, _, _, _, e, _, _, _, _ => by simp [asgNames] at e
 | .Compare .. :: _, _, _, _, _, _, e, _, _, _, _ => by simp [asgNames] at e
 | .Call .. :: _, _, _, _, _, _, e, _, _, _, _ => by simp [asgNames] at e
 | .FormattedValue .. :: _, _, _, _, _, _, e, _, _, _, _ => by simp [asgNames] at e
 | .JoinedStr .. :: _, _, _, _, _, _, e, _, _, _, _ => by simp [asgNames] at e
 | .Constant .. :: _, _, _, _, _, _, e, _, _, _, _ => by simp [asgNames] at e
 | .Attribute .. :: _, _, _, _, _, _, e, _, _, _, _ => by simp [asgNames] at e
 | .Subscript .. :: _, _, _, _, _, _, e, _, _, _, _ => by simp [asgNames] at e
 | .Starred .. :: _, _, _, _, _, _, e, _, _, _, _ => by simp [asgNames] at e
 | .List .. :: _, _, _, _, _, _, e, _, _, _, _ => by simp [asgNames] at e
 | .Tuple .. :: _, _, _, _, _, _, e, _, _, _, _ => by simp [asgNames] at e
 | .Slice .. :: _, _, _, _, _, _, e, _, _, _, _ => by simp [asgNames] at e
theorem asgNames_shape : ∀ {ts : List PySem.Expr} {vs : List V} {lc lc1 : Lc}, asgNames sc ts vs lc = some lc1 → (assignEach ts env).length = vs.length ∧ (assignEach ts env).findIdx? (·.1) = none ∧ ∃ xs : List (Str × Pos), ts = xs.map (fun p => .Name p.1 p.2) ∧ xs.length = vs.length
 | [], [], lc, lc1, e => ⟨rfl, rfl, [], rfl, rfl⟩
 | t :: r, v :: vs, lc, lc1, e => by
  cases t with
  | Name x p =>
   unfold asgNames at e
   split at e
   ·obtain ⟨h1, h2, xs, h3, h4⟩ := asgNames_shape e
    refine ⟨?_, ?_, (x, p) :: xs, by rw [h3]; rfl, by simp [h4]⟩
    ·show (_ :: assignEach r env).length = _
     simp [h1]
    ·show List.findIdx? (·.1) ((false, PySem.assign (.Name x p) env) :: assignEach r env) = none
     rw [List.findIdx?_cons]
     simp [h2]
   ·cases e
  | _ => simp [asgNames] at e
 | [], _ :: _, _, _, e => by simp [asgNames] at e
 | t :: r, [], _, _, e => by cases t <;> simp [asgNames] at e
theorem asgTarget_snd {t : PySem.Expr} {v : V} {y : Value} {lc1 : Lc} {Q : Unit → Shared → Prop} (ok : OkA n A) (e : asgTarget sc t v lc hh = some lc1) (rv : RV Z ρ v y) (Re : Rel h₀ os₀ Z ρ hh s) (F : FrR env sc lc Z ρ s.heap)
  (q : ∀ s', Rel h₀ os₀ Z ρ hh s' → FrR env sc lc1 Z ρ s'.heap → Stp (own env) Z ρ s Z ρ s' → Q () s') : wpAny (model prog w) A (PySem.assign t env y) Q E s := by
 unfold asgTarget at e
 split at e
 ·split at e
  ·rename_i hx
   cases e
   exact wpAny_assign_Name (frame_store Re F hx rv q)
  ·cases e
 ·have key : ∀ {l : List V} {ts : List PySem.Expr} {c : Nat} {p : Pos} {a : Addr} {m : Nat} {ys : List Value}, asgNames sc ts l lc = some lc1 → y = .ref a → Z a = some (tupO ys m) → RVs Z ρ l ys → wpAny (model prog w) A (PySem.assign (.Tuple ts c p) env y) Q E s := by
   intro l ts c p a m ys e ey hz rl
   subst ey
   obtain ⟨h1, h2, -⟩ := asgNames_shape (env := env) e
   have hl := rl.length
   refine wpAny_assign_Tuple (items := ys.toArray) ok.hand ⟨_, Re.fz _ _ hz, rfl, m, rfl⟩ (by simp [h1, hl]) h2 fun h' he => ?_
   have hk : ∀ b o, s.heap.get? b = some o → h'.get? b = some o := fun b o eb => he b o (Nat.ne_of_lt (Heap.lt_size eb)) eb
   refine asgNames_snd (s := { s with heap := h' }) e rl (Re.kept hk) (F.step (StpH.kept hk)) fun s' R' F' S' => q s' R' F' ((StpH.kept hk).trans S')
  split at e
  ·unfold RV RF at rv
   obtain ⟨a, m, ys, ey, hz, rf⟩ := rv
   exact key e ey hz rf.toV
  ·unfold RV at rv
   obtain ⟨a, m, ys, ey, hz, rf⟩ := rv
   exact key e ey hz rf
  ·cases e
 ·cases e
end
end Mine
end
section
set_option maxRecDepth 4000
namespace Mine
open PySem PySem.Calls
variable [Hsh]
section
variable {R : Type} (I : Ev R) (sc : Scope) (lc : Lc) (x : Str) (elt : PySem.Expr) (ifs : List PySem.Expr)
def cRun (it : It) (m j : Nat) (acc : List F) (h : H) (kk : List F → H → Option R) : Option R := match it with
 | .fixed l => compFix I sc lc x elt ifs (l.drop j) acc h kk
 | .live i => compLive I sc lc x elt ifs i m j acc h kk
 | .items _ => none
def fuelOk (it : It) (m j : Nat) : Prop := match it with
 | .fixed l => l.length < m + j ∧ l.length ≤ 100000
 | .live _ => m + j ≤ 100
 | _ => True
theorem cRun_step {it : It} {m j : Nat} {acc : List F} {h : H} {kk : List F → H → Option R} {r : R} (e : cRun I sc lc x elt ifs it m j acc h kk = some r) (hm : fuelOk it m j) :
  (nxOf it j h = some none ∧ kk acc h = some r) ∨ ∃ v m', nxOf it j h = some (some v) ∧ m = m' + 1 ∧ fuelOk it m' (j + 1) ∧ j < 100000 ∧ compOne I sc lc x elt ifs v acc h (fun acc1 h1 => cRun I sc lc x elt ifs it m' (j + 1) acc1 h1 kk) = some r := by
 cases it with
 | items l => cases e
 | fixed l =>
  unfold fuelOk at hm
  dsimp only at hm
  simp only [cRun] at e
  by_cases hj : j < l.length
  ·rw [List.drop_eq_getElem_cons hj] at e
   unfold compFix at e
   obtain ⟨m', rfl⟩ : ∃ m', m = m' + 1 := ⟨m - 1, by omega⟩
   refine .inr ⟨l[j], m', by simp [nxOf, hj], rfl, by unfold fuelOk; dsimp only; omega, by omega, ?_⟩
   exact e
  ·rw [List.drop_eq_nil_of_le (by omega)] at e
   unfold compFix at e
   exact .inl ⟨by simp [nxOf]; omega, e⟩
 | live i =>
  simp only [cRun] at e
  cases m with
  | zero => cases e
  | succ m =>
   unfold compLive at e
   split at e
   ·rename_i l hl
    split at e
    ·rename_i v hv
     exact .inr ⟨.f v, m, by simp [nxOf, hl, hv], rfl, by unfold fuelOk at hm ⊢; dsimp only at hm ⊢; omega, by unfold fuelOk at hm; dsimp only at hm; omega, e⟩
    ·rename_i hv
     exact .inl ⟨by simp [nxOf, hl, hv], e⟩
   ·cases e
end
section
variable {R : Type} {prog : Program} {w : World} {A : Around} {E : Value → Shared → Prop} {s s' : Shared} {h₀ : Heap} {os₀ : Bg} {Z Z' : Gh} {ρ ρ' : List Addr} {hh h' : H} {env : Env} {sc : Scope} {lc : Lc}
 {k : KV R} {r : R} {Q : Value → Shared → Prop} {n : Nat} {K : Frag} {P : Prg} {C : Cl R} {I : Ev R} {W : Addr → Prop}
theorem RelH.freeze1 {h : Heap} {g : Array GenState} {os : OsState} {D : Addr} {o : Obj} (R : RelH h₀ os₀ Z ρ hh h g os) (hD : h.get? D = some o) (z : Z D = none) (r : D ∉ ρ) : RelH h₀ os₀ (put Z D o) ρ hh h g os := by
 refine ⟨fun a p e => ?_, fun a p e => put_zz z o _ _ (R.base _ _ e), R.nd, fun a ha => ?_, R.len, fun i p e => ?_, R.os, R.gens⟩
 ·by_cases q : a = D
  ·subst q; rw [put_self] at e; cases e; exact hD
  ·rw [put_ne _ _ q] at e; exact R.fz _ _ e
 ·rw [put_ne _ _ (fun q : a = D => r (by rw [← q]; exact ha))]; exact R.out a ha
 ·obtain ⟨a, e1, e2⟩ := R.objs i p e
  exact ⟨a, e1, RO.mono (put_zz z o) ⟨[], by simp⟩ rfl e2⟩
theorem StpH.freeze1 {X : Addr → Prop} {Z1 : Gh} {ρ1 : List Addr} {h h1 : Heap} {D : Addr} {o : Obj} (S : StpH X Z ρ h Z1 ρ1 h1) (z : Z1 D = none) (f : h.get? D = none) : StpH X Z ρ h (put Z1 D o) ρ1 h1 := by
 have nw : ∀ x p, h.get? x = some p → x ≠ D := fun x p e q => by rw [q, f] at e; cases e
 refine ⟨fun a p e => put_zz z o _ _ (S.zz _ _ e), S.rr, fun a p e zz rr nx => ?_, fun a hx l zz rr => ?_⟩
 ·obtain ⟨e1, z1, r1⟩ := S.rest a p e zz rr nx
  exact ⟨e1, by rw [put_ne _ _ (nw _ _ e)]; exact z1, r1⟩
 ·obtain ⟨e1, z1, r1⟩ := S.keepX a hx l zz rr
  obtain ⟨p, e⟩ := l
  exact ⟨e1, by rw [put_ne _ _ (nw _ _ e)]; exact z1, r1⟩
theorem StpH.put {X : Addr → Prop} {h : Heap} {D : Addr} {o : Obj} (z : Z D = none) (f : X D ∨ h.get? D = none) : StpH X Z ρ h Z ρ h := StpH.refl
theorem own_put {lc : Lc} {h : Heap} {D : Addr} {o : Obj} (F : FrR env sc lc Z ρ h) (z : Z D = none) (d1 : env.locals ≠ D) (d2 : ∀ x c, env.cells.lookup x = some c → c ≠ D) : FrR env sc lc (Mine.put Z D o) ρ h := by
 have hz : ∀ a p, Z a = some p → Mine.put Z D o a = some p := put_zz z o
 obtain ⟨m, hn, hm⟩ := F.loc
 refine ⟨F.esc, F.kind, F.glob, F.bins, ⟨m, hn, fun x v hk hl => ?_⟩, fun x hk => ?_, F.inj, ⟨by rw [put_ne _ _ d1]; exact F.ownL.1, F.ownL.2⟩, fun x c e => ?_⟩
 ·obtain ⟨y, e, rv⟩ := hm x v hk hl
  exact ⟨y, e, rv.mono hz ⟨[], by simp⟩⟩
 ·obtain ⟨c, y, e1, e2, e3⟩ := F.cel x hk
  exact ⟨c, y, e1, e2, fun v hv => by obtain ⟨z, ez, rv⟩ := e3 v hv; exact ⟨z, ez, rv.mono hz ⟨[], by simp⟩⟩⟩
 ·have oc := F.ownC x c e
  exact ⟨by rw [put_ne _ _ (d2 _ _ e)]; exact oc.1, oc.2⟩
theorem local_storeX {x : Str} {v : V} {y : Value} {Q : Unit → Shared → Prop} (Re : Rel h₀ os₀ Z ρ hh s) (F : FrR env sc lc Z ρ s.heap) (hx : kindS sc x = some .local) (hv : RV Z ρ v y)
  (h : ∀ s', Rel h₀ os₀ Z ρ hh s' → FrR env sc (lset lc x v) Z ρ s'.heap → StpH (· = env.locals) Z ρ s.heap Z ρ s'.heap → Heap.SameBut env.locals s.heap s'.heap → Q () s') : wpAny (model prog w) A (storeName env x y) Q E s := by
 obtain ⟨m, hn, hm⟩ := F.loc
 have hk : env.scope.kind = .function := by rw [F.esc]; exact F.kind
 refine wpAny_storeName_local (m := m) (by rw [← kindS_eq, F.esc]; exact hx) hn (fun h' hn' hs => ?_) (by rw [hk]; rfl)
 refine h _ (Re.frame F.ownL.1 F.ownL.2 hs) ?_ (StpH.frame rfl hs (by obtain ⟨o, _, _, ho, _⟩ := hn'; exact ⟨o, ho⟩)) hs
 refine ⟨F.esc, F.kind, F.glob, F.bins, ⟨_, hn', fun z u hz hl => ?_⟩, fun z hz => ?_, F.inj, F.ownL, fun z c e => ?_⟩
 ·rw [lget_lset] at hl
  by_cases q : x = z
  ·subst q
   simp at hl
   subst hl
   exact ⟨y, by simp, hv⟩
  ·rw [if_neg q] at hl
   obtain ⟨y', e1, e2⟩ := hm z u hz hl
   exact ⟨y', by simp [Ne.symm q, e1], e2⟩
 ·obtain ⟨c, y', e1, ⟨oo, e2, e2'⟩, e3⟩ := F.cel z hz
  refine ⟨c, y', e1, ⟨oo, (hs.2 c (F.ownC _ _ e1).2.2.1).trans e2, e2'⟩, fun u hu => ?_⟩
  rw [lget_lset] at hu
  have q : x ≠ z := fun q => by subst q; rw [hx] at hz; cases hz
  rw [if_neg q] at hu
  exact e3 u hu
 ·have oc := F.ownC z c e
  obtain ⟨y, oo, hy, hy'⟩ := oc.2.2.2
  exact ⟨oc.1, oc.2.1, oc.2.2.1, y, oo, (hs.2 c oc.2.2.1).trans hy, hy'⟩
theorem local_store {x : Str} {v : V} {y : Value} {Q : Unit → Shared → Prop} (Re : Rel h₀ os₀ Z ρ hh s) (F : FrR env sc lc Z ρ s.heap) (hx : kindS sc x = some .local) (hv : RV Z ρ v y)
  (h : ∀ s', Rel h₀ os₀ Z ρ hh s' → FrR env sc (lset lc x v) Z ρ s'.heap → StpH (· = env.locals) Z ρ s.heap Z ρ s'.heap → Q () s') : wpAny (model prog w) A (storeName env x y) Q E s :=
 local_storeX Re F hx hv fun s' R' F' S' _ => h s' R' F' S'
theorem lget_cells (sc : Scope) : ∀ (lc : Lc) (x : Str), lget (cellsOnly sc lc) x = if isCell (kindS sc x) = true then lget lc x else none
 | [], x => by simp [cellsOnly, lget]
 | (y, v) :: r, x => by
  unfold cellsOnly
  split
  ·rename_i q
   rw [lget_cons, lget_cons, lget_cells sc r x]
   by_cases e : y = x
   ·subst e; simp [q]
   ·simp [e]
  ·rename_i q
   rw [lget_cells sc r x, lget_cons]
   by_cases e : y = x
   ·subst e; simp [q]
   ·simp [e]
theorem isCell_iff {o : Option NameKind} : isCell o = true ↔ o = some .cell := by
 unfold isCell
 split <;> simp_all
theorem FrR.forget {lc : Lc} {h : Heap} {x : Str} {v : V} (hx : kindS sc x = some .local) (F : FrR env sc (lset (cellsOnly sc lc) x v) Z ρ h) : FrR env sc (cellsOnly sc lc) Z ρ h := by
 obtain ⟨m, hn, hm⟩ := F.loc
 refine ⟨F.esc, F.kind, F.glob, F.bins, ⟨m, hn, fun y u hk hl => ?_⟩, fun y hk => ?_, F.inj, F.ownL, F.ownC⟩
 ·rw [lget_cells, hk] at hl
  simp [isCell] at hl
 ·obtain ⟨c, z, e1, e2, e3⟩ := F.cel y hk
  refine ⟨c, z, e1, e2, fun u hu => e3 u ?_⟩
  rw [lget_lset, if_neg (fun q => by subst q; rw [hx] at hk; cases hk)]
  exact hu
theorem forIn_false {M : Model} {A : Around} {E : Value → Shared → Prop} {Q : Bool → Shared → Prop} : ∀ (l : List PySem.Expr) {s : Shared}, Q false s →
  wpAny M A (forIn l false fun c r => if r = true then do let ok ← isTrue c env (eval c env); pure (ForInStep.yield ok) else pure (ForInStep.yield r)) Q E s
 | [], s, q => by rw [List.forIn_nil]; exact wpAny_pure q
 | c :: l, s, q => by
  rw [List.forIn_cons]
  exact wpAny_bind (wpAny_pure (forIn_false l q))
theorem forIn_tsts {kb : Bool → H → Option R} {Q : Bool → Shared → Prop} (S : SI prog w h₀ n I) (ok : OkA n A) : ∀ (l : List PySem.Expr) {hh : H} {s : Shared} {Z : Gh} {ρ : List Addr}, tsts I sc lc hh l kb = some r → Rel h₀ os₀ Z ρ hh s → FrR env sc lc Z ρ s.heap → PB h₀ os₀ Z ρ s kb r Q →
  wpAny (model prog w) A (forIn l true fun c r => if r = true then do let ok ← isTrue c env (eval c env); pure (ForInStep.yield ok) else pure (ForInStep.yield r)) Q E s
 | [], hh, s, Z, ρ, e, Re, F, p => by
  rw [List.forIn_nil]
  exact wpAny_pure (p _ _ _ _ _ StpH.refl Re e)
 | c :: l, hh, s, Z, ρ, e, Re, F, p => by
  rw [List.forIn_cons]
  refine wpAny_bind ?_
  rw [if_pos rfl]
  refine wpAny_bind (S.tst e ok Re F fun b s1 Z1 ρ1 h1 S1 R1 e1 => ?_)
  refine wpAny_pure ?_
  cases b with
  | true => exact forIn_tsts S ok l e1 R1 (F.step S1) fun b s2 Z2 ρ2 h2 S2 R2 e2 => p b s2 Z2 ρ2 h2 (S1.trans S2) R2 e2
  | false => exact forIn_false l (p _ _ _ _ _ S1 R1 e1)
end
end Mine
end
section
set_option maxRecDepth 4000
namespace Mine
open PySem PySem.Calls
variable [Hsh]
section
variable {R : Type} {prog : Program} {w : World} {A : Around} {E : Value → Shared → Prop} {s s' : Shared} {h₀ : Heap} {os₀ : Bg} {Z Z' : Gh} {ρ ρ' : List Addr} {hh h' : H} {env cenv : Env} {sc sc1 : Scope} {lc : Lc}
 {k : KV R} {r : R} {Q : Value → Shared → Prop} {n : Nat} {K : Frag} {P : Prg} {C : Cl R} {I : Ev R} {W : Addr → Prop}
theorem FrR.exists {h : Heap} (F : FrR env sc lc Z ρ h) {a : Addr} (ha : own env a) : ∃ o, h.get? a = some o := by
 rcases ha with rfl | ⟨x, e⟩
 ·obtain ⟨m, ⟨o, es, ep, ho, r⟩, hm⟩ := F.loc
  exact ⟨o, ho⟩
 ·obtain ⟨_, _, _, y, o, ho, _⟩ := F.ownC x a e
  exact ⟨o, ho⟩
structure CAt (h₀ : Heap) (env cenv : Env) (sc sc1 : Scope) (lc : Lc) (St : Nat → Bg → (Addr → Prop) → Heap → Prop) (b : Bg) (W : Addr → Prop) (s₁ : Shared) (Z₁ : Gh) (ρ₁ : List Addr) (D : Addr) (j : Nat) (acc : List F) (Z : Gh) (ρ : List Addr) (hh : H) (s : Shared) : Prop where
 rel : Rel h₀ b Z ρ hh s
 fr : FrR env sc lc Z ρ s.heap
 cfr : FrR cenv sc1 (cellsOnly sc1 lc) Z ρ s.heap
 wok : WOk W Z ρ s.heap
 st : St j b W s.heap
 dW : ∀ a, W a → a ≠ cenv.locals ∧ a ≠ D ∧ ¬ own env a ∧ ¬ own cenv a ∧ s₁.heap.get? a = none
 accs : ∃ ys m, s.heap.get? D = some (lstO ys m) ∧ RFs Z acc ys
 dz : Z D = none ∧ D ∉ ρ
 stp : StpH no Z₁ ρ₁ s₁.heap Z ρ s.heap
 le : acc.length ≤ j
theorem CAt.step {St : Nat → Bg → (Addr → Prop) → Heap → Prop} {b : Bg} {s₁ : Shared} {Z₁ : Gh} {ρ₁ : List Addr} {D : Addr} {j : Nat} {acc : List F} (cat : CAt h₀ env cenv sc sc1 lc St b W s₁ Z₁ ρ₁ D j acc Z ρ hh s)
  (keep : ∀ {j b W h h'}, St j b W h → (∀ a o, W a → h.get? a = some o → h'.get? a = some o) → St j b W h') (S : StpH no Z ρ s.heap Z' ρ' s'.heap) (R' : Rel h₀ b Z' ρ' h' s') :
  CAt h₀ env cenv sc sc1 lc St b W s₁ Z₁ ρ₁ D j acc Z' ρ' h' s' := by
 obtain ⟨rel, fr, cfr, wok, st, dW, ⟨ys, cap, hD, racc⟩, ⟨zD, rD⟩, stp, le⟩ := cat
 obtain ⟨w1, w2⟩ := wok.step S (fun _ _ q => q)
 have d := S.rest D _ hD zD rD (fun q => q)
 exact ⟨R', fr.step S, cfr.step S, w1, keep st w2, dW, ⟨ys, cap, d.1, RFs.mono S.zz racc⟩, d.2, stp.trans S, le⟩
theorem comp_loop (S : SI prog w h₀ n I) (ok : OkA n A) {x : Str} {px : Pos} {elt iter : PySem.Expr} {ifs : List PySem.Expr} {scope : Scope} {pos : Pos} {it : It} {itv : Value} {St : Nat → Bg → (Addr → Prop) → Heap → Prop} {Z0 : Gh} {ρ0 : List Addr} {nt : Bool}
  (fd : Feed prog w h₀ A os₀ nt (nxOf it) itv St Z0 ρ0) (hnt : nt = false) (hx : kindS sc1 x = some .local) {s₁ : Shared} {Z₁ : Gh} {ρ₁ : List Addr} {D : Addr} {kk : List F → H → Option R} {RR : Result → Shared → Prop}
  (dC : cenv.locals ≠ D ∧ ¬ own env cenv.locals ∧ s₁.heap.get? cenv.locals = none ∧ ∀ y c, cenv.cells.lookup y = some c → c ≠ cenv.locals) (dD : ¬ own env D ∧ ¬ own cenv D ∧ s₁.heap.get? D = none)
  (z0 : ∀ a o, Z0 a = some o → Z₁ a = some o) (r0 : ∃ t, ρ₁ = ρ0 ++ t) (hcells : ∀ y c, cenv.cells.lookup y = some c → env.cells.lookup y = some c)
  (fin : ∀ j b W acc Z ρ hh s, CAt h₀ env cenv sc sc1 lc St b W s₁ Z₁ ρ₁ D j acc Z ρ hh s → Rel h₀ os₀ Z ρ hh s → kk acc hh = some r → ∀ s2 : Shared, (∀ a o, ¬ W a → s.heap.get? a = some o → s2.heap.get? a = some o) → Rel h₀ os₀ Z ρ hh s2 → RR (.ok .next) s2) :
  ∀ {m j : Nat} {b : Bg} {W : Addr → Prop} {acc : List F} {Z : Gh} {ρ : List Addr} {hh : H} {s : Shared}, cRun I sc1 (cellsOnly sc1 lc) x elt ifs it m j acc hh kk = some r → fuelOk it m j → CAt h₀ env cenv sc sc1 lc St b W s₁ Z₁ ρ₁ D j acc Z ρ hh s →
   codeAny (model prog w) A (.compLoop (.ListComp elt [⟨.Name x px, iter, ifs, 0⟩] scope pos) 0 itv (.ref D) cenv) RR s := by
 intro m j b W acc Z ρ hh s e hm cat
 have ll := line_ge
 refine codeAny_compLoop_tests (fun m s => ∃ j b W acc Z ρ hh, cRun I sc1 (cellsOnly sc1 lc) x elt ifs it m j acc hh kk = some r ∧ fuelOk it m j ∧ CAt h₀ env cenv sc sc1 lc St b W s₁ Z₁ ρ₁ D j acc Z ρ hh s) ?_ m ⟨j, b, W, acc, Z, ρ, hh, e, hm, cat⟩
 rintro m s ⟨j, b, W, acc, Z, ρ, hh, e, hm, cat⟩
 obtain ⟨rel, fr, cfr, wok, st, dW, ⟨ys, cap, hD, racc⟩, ⟨zD, rD⟩, stp, le⟩ := id cat
 have zz : ∀ a o, Z0 a = some o → Z a = some o := fun a o q => stp.zz _ _ (z0 _ _ q)
 have rr : ∃ t, ρ = ρ0 ++ t := by
  obtain ⟨t, rfl⟩ := r0
  obtain ⟨t', rfl⟩ := stp.rr
  exact ⟨t ++ t', by simp⟩
 rcases cRun_step I sc1 (cellsOnly sc1 lc) x elt ifs e hm with ⟨e1, e2⟩ | ⟨v, m', e1, rfl, hm', hj, e2⟩
 ·exact fd.stop e1 st rel wok zz rr fun s2 hk R2 => fin j b W acc Z ρ hh s cat (fd.weak st rel) e2 s2 hk R2
 ·refine fd.item e1 st rel wok zz rr fun y sa Za b2 W2 Sa wn wokA Ra rva stA _ => ?_
  have stA := stA hnt
  have frA := fr.stepR Sa (fun q => (dW _ q).2.2.1 (.inl rfl)) (fun y c hc q => (dW _ q).2.2.1 (.inr ⟨y, hc⟩))
  have cfrA := cfr.stepR Sa (fun q => (dW _ q).1 rfl) (fun y c hc q => (dW _ q).2.2.2.1 (.inr ⟨y, hc⟩))
  have dA := Sa.rest D _ hD zD rD (fun q => (dW _ q).2.1 rfl)
  have stpA := stp.transR Sa (fun a ha => (dW a ha).2.2.2.2)
  have exO : ∀ {e : Env} {sc : Scope} {lc : Lc} {a : Addr}, FrR e sc lc Z ρ s.heap → own e a → ∃ o, s.heap.get? a = some o := fun F q => F.exists q
  have dW2 : ∀ a, W2 a → a ≠ cenv.locals ∧ a ≠ D ∧ ¬ own env a ∧ ¬ own cenv a ∧ s₁.heap.get? a = none := fun a ha => by
   rcases wn a ha with q | q
   ·exact dW a q
   ·refine ⟨fun e => ?_, fun e => ?_, fun e => ?_, fun e => ?_, stp.was_none rel q⟩
    ·obtain ⟨o, ho⟩ := exO cfr (.inl e); rw [q] at ho; cases ho
    ·rw [e, hD] at q; cases q
    ·obtain ⟨o, ho⟩ := exO fr e; rw [q] at ho; cases ho
    ·obtain ⟨o, ho⟩ := exO cfr e; rw [q] at ho; cases ho
  have raccA := RFs.mono Sa.zz racc
  refine wpAny_assign_Name (local_store Ra cfrA hx rva fun sb Rb Fb Sb => ?_)
  obtain ⟨wokB, keepB⟩ := wokA.step Sb (fun a ha q => (dW2 a ha).1 q)
  have frB := frA.stepW Sb (fun q => dC.2.1 (by rw [← q]; exact .inl rfl)) (fun y c hc q => dC.2.1 (by rw [← q]; exact .inr ⟨y, hc⟩))
  have dB := Sb.rest D _ dA.1 dA.2.1 dA.2.2 (fun q => dC.1 q.symm)
  have catB : CAt h₀ env cenv sc sc1 lc St b2 W2 s₁ Z₁ ρ₁ D (j + 1) acc Za ρ hh sb :=
   ⟨Rb, frB, Fb.forget hx, wokB, fd.keep stA keepB, dW2, ⟨ys, cap, dB.1, raccA⟩, dB.2, stpA.transW Sb (fun a ha => by subst ha; exact dC.2.2.1), by omega⟩
  unfold compOne at e2
  refine forIn_tsts S ok ifs e2 Rb Fb fun b sc' Zc ρc hc Sc Rc ec => ?_
  have catC := catB.step fd.keep Sc Rc
  cases b with
  | false =>
   rw [if_neg (by decide)]
   exact ⟨m', by omega, j + 1, b2, W2, acc, Zc, ρc, hc, ec, hm', catC⟩
  | true =>
   rw [if_pos rfl]
   refine S.ev ec ok Rc (Fb.step Sc) fun yv sd Zd ρd vd hd Sd Rd rvd ed => ?_
   replace ed := asF_some ed; obtain ⟨z, rfl, ed⟩ := ed
   have catD := catC.step fd.keep Sd Rd
   obtain ⟨relD, frD, cfrD, wokD, stD, _, ⟨ysD, capD, hDD, raccD⟩, ⟨zDD, rDD⟩, stpD, leD⟩ := catD
   have hlen := raccD.length
   refine append_at hDD (fun hq hs hg => ?_) (by simp; omega)
   have So : StpH (· = D) Zd ρd sd.heap Zd ρd hq := StpH.one hs ⟨_, hg⟩
   obtain ⟨wokE, keepE⟩ := wokD.step So (fun a ha q => (dW2 a ha).2.1 q)
   refine ⟨m', by omega, j + 1, b2, W2, acc ++ [z], Zd, ρd, hd, ed, hm', ?_⟩
   refine ⟨Rd.frame zDD rDD hs, frD.stepW So (fun q => dD.1 (by rw [← q]; exact .inl rfl)) (fun y c hc q => dD.1 (by rw [← q]; exact .inr ⟨y, hc⟩)),
    cfrD.stepW So (fun q => dC.1 q) (fun y c hc q => dD.2.1 (by rw [← q]; exact .inr ⟨y, hc⟩)), wokE, fd.keep stD keepE, dW2, ⟨ysD ++ [yv], capD + 1, by simpa [lstO] using hg, RFs.append raccD (RFs.one (by unfold RV at rvd; exact rvd))⟩,
    ⟨zDD, rDD⟩, stpD.transW So (fun a ha => by subst ha; exact dD.2.2), by simp; omega⟩
end
end Mine
end
section
set_option maxRecDepth 4000
namespace Mine
open PySem PySem.Calls
variable [Hsh]
section
variable {R : Type} {prog : Program} {w : World} {A : Around} {E : Value → Shared → Prop} {s s' : Shared} {h₀ : Heap} {os₀ : Bg} {Z Z' : Gh} {ρ ρ' : List Addr} {hh h' : H} {env cenv : Env} {sc sc1 : Scope} {lc : Lc}
 {k : KV R} {r : R} {Q : Value → Shared → Prop} {n : Nat} {K : Frag} {P : Prg} {C : Cl R} {I : Ev R} {W : Addr → Prop}
theorem FrR.ext {h h' : Heap} (F : FrR env sc lc Z ρ h) (hk : ∀ a o, ¬ W a → h.get? a = some o → h'.get? a = some o) (d : ∀ a, own env a → ¬ W a) : FrR env sc lc Z ρ h' := by
 obtain ⟨m, hn, hm⟩ := F.loc
 obtain ⟨o, es, ep, ho, r⟩ := hn
 refine ⟨F.esc, F.kind, F.glob, F.bins, ⟨m, ⟨o, es, ep, hk _ _ (d _ (.inl rfl)) ho, r⟩, hm⟩, fun x hx => ?_, F.inj, F.ownL, fun x c e => ?_⟩
 ·obtain ⟨c, y, e1, ⟨oo, e2, e2'⟩, e3⟩ := F.cel x hx
  exact ⟨c, y, e1, ⟨oo, hk _ _ (d _ (.inr ⟨x, e1⟩)) e2, e2'⟩, e3⟩
 ·obtain ⟨a, b, c', y, oo, hy, hy'⟩ := F.ownC x c e
  exact ⟨a, b, c', y, oo, hk _ _ (d _ (.inr ⟨x, e⟩)) hy, hy'⟩
theorem clos_of : ∀ (names : List (Str × NameKind)) (acc : List (Str × Addr)), (∀ p ∈ names, p.2 = .free → ∃ c, env.cells.lookup p.1 = some c) → (∀ y c, acc.lookup y = some c → env.cells.lookup y = some c) →
  ∃ cl : List (Str × Addr), (forIn names acc (fun x cs => if (x.2 == NameKind.free) = true then do let a ← cellOf env x.1; pure (ForInStep.yield ((x.1, a) :: cs)) else pure (ForInStep.yield cs)) : Sem (List (Str × Addr))) = pure cl ∧
   (∀ y c, cl.lookup y = some c → env.cells.lookup y = some c) ∧ (∀ y, ((acc.lookup y).isSome = true ∨ (y, NameKind.free) ∈ names) → ∃ c, cl.lookup y = some c)
 | [], acc, _, h2 => ⟨acc, by rw [List.forIn_nil], h2, fun y hy => by
   rcases hy with hy | hy
   ·exact Option.isSome_iff_exists.mp hy
   ·cases hy⟩
 | (y, kd) :: r, acc, h1, h2 => by
  rw [List.forIn_cons]
  by_cases q : kd = .free
  ·subst q
   obtain ⟨c, hc⟩ := h1 _ (.head _) rfl
   obtain ⟨cl, e, p1, p2⟩ := clos_of r ((y, c) :: acc) (fun p hp => h1 p (.tail _ hp)) (fun z d hz => by
    rw [List.lookup_cons] at hz
    split at hz
    ·rename_i hzy; cases hz; rw [beq_iff_eq.mp hzy]; exact hc
    ·exact h2 z d hz)
   refine ⟨cl, ?_, p1, fun z hz => p2 z ?_⟩
   ·have : cellOf env y = pure c := by unfold cellOf; rw [hc]
    simp only [beq_self_eq_true, if_true, this, pure_bind]
    exact e
   ·rcases hz with hz | hz
    ·left
     rw [List.lookup_cons]
     split
     ·rfl
     ·exact hz
    ·cases hz with
     | head => left; rw [List.lookup_cons]; simp
     | tail _ hz => exact .inr hz
  ·obtain ⟨cl, e, p1, p2⟩ := clos_of r acc (fun p hp => h1 p (.tail _ hp)) h2
   refine ⟨cl, ?_, p1, fun z hz => p2 z ?_⟩
   ·have : (kd == NameKind.free) = false := by simpa using q
    simp only [this, Bool.false_eq_true, if_false, pure_bind]
    exact e
   ·rcases hz with hz | hz
    ·exact .inl hz
    ·cases hz with
     | head => exact absurd rfl q
     | tail _ hz => exact .inr hz
theorem closure_of {scope : Scope} (h1 : ∀ p ∈ scope.names, p.2 = .free → ∃ c, env.cells.lookup p.1 = some c) : ∃ cl : List (Str × Addr), closureFor scope env = pure cl ∧ (∀ y c, cl.lookup y = some c → env.cells.lookup y = some c) ∧
  (∀ y, (y, NameKind.free) ∈ scope.names → ∃ c, cl.lookup y = some c) := by
 obtain ⟨cl, e, p1, p2⟩ := clos_of scope.names [] h1 (fun y c h => by simp at h)
 refine ⟨cl, ?_, p1, fun y hy => p2 y (.inr hy)⟩
 unfold closureFor
 have : (forIn scope.names ([] : List (Str × Addr)) (fun x r => if (x.2 == NameKind.free) = true then do let a ← cellOf env x.1; pure (ForInStep.yield ((x.1, a) :: r)) else pure (ForInStep.yield r)) : Sem (List (Str × Addr))) >>= (fun r => pure r) = pure cl := by
  rw [e]; rfl
 exact this
theorem isFree_iff {k : NameKind} : isFree k = true ↔ k = .free := by cases k <;> simp [isFree]
theorem relabel_eq {scope : Scope} (e : env.scope = sc) (hk : sc.kind = .function) : PySem.relabel scope env = relabelS scope sc := by
 unfold PySem.relabel relabelS
 congr 1
 apply List.map_congr_left
 rintro ⟨nm, kd⟩ -
 dsimp only
 rw [e, hk]
 have h1 : (kd == NameKind.free) = isFree kd := by cases kd <;> rfl
 have h2 : (env.kindOf nm == some NameKind.cell) = isCell (kindS sc nm) := by
  rw [← e, kindS_eq]
  cases env.kindOf nm with
  | none => rfl
  | some q => cases q <;> rfl
 rw [h1, h2]
 cases isFree kd <;> cases isCell (kindS sc nm) <;> rfl
theorem okComp_spec {scope : Scope} {x : Str} (h : okComp scope sc x = true) : scope.kind = .function ∧ (∀ p ∈ scope.names, p.2 ≠ .cell ∧ (p.2 = .free → kindS sc p.1 = some .cell) ∧ (p.2 = .local → scope.names.lookup p.1 = some .local)) ∧ scope.names.lookup x = some .local := by
 unfold okComp at h
 rw [Bool.and_eq_true, Bool.and_eq_true, List.all_eq_true] at h
 obtain ⟨⟨h1, h2⟩, h3⟩ := h
 have lk : ∀ y, (match kindS scope y with | some .local => true | _ => false) = true → scope.names.lookup y = some .local := fun y hy => by
  rw [← lget_lookup]
  split at hy
  ·rename_i q; exact q
  ·cases hy
 refine ⟨?_, fun p hp => ?_, lk x h3⟩
 ·split at h1
  ·rename_i q; exact q
  ·cases h1
 ·have := h2 p hp
  rw [Bool.and_eq_true, Bool.and_eq_true] at this
  obtain ⟨⟨a, b⟩, c⟩ := this
  refine ⟨fun q => (by rw [q] at a; cases a), fun q => ?_, fun q => ?_⟩
  ·rw [q] at b; simp [isFree] at b; exact isCell_iff.mp b
  ·rw [q] at c; simp only [isLoc1, Bool.not_true, Bool.false_or] at c; exact lk _ c
theorem lget_mem {α : Type} : ∀ {l : List (Str × α)} {x : Str} {v : α}, lget l x = some v → (x, v) ∈ l
 | [], _, _, h => by cases h
 | (y, u) :: r, x, v, h => by
  rw [lget_cons] at h
  split at h
  ·rename_i q; subst q; cases h; exact .head _
  ·exact .tail _ (lget_mem h)
theorem relabel_cell {scope : Scope} {x y : Str} (ok : okComp scope sc x = true) (h : kindS (relabelS scope sc) y = some .cell) : (y, NameKind.free) ∈ scope.names ∧ kindS sc y = some .cell := by
 obtain ⟨-, h2, -⟩ := okComp_spec ok
 have := lget_mem h
 simp only [relabelS, List.mem_map] at this
 obtain ⟨⟨nm, kd⟩, hp, e⟩ := this
 dsimp only at e
 split at e
 ·rename_i q
  rw [Bool.and_eq_true] at q
  cases e
  rw [isFree_iff.mp q.1] at hp
  exact ⟨hp, isCell_iff.mp q.2⟩
 ·cases e
  exact absurd rfl (h2 _ hp).1
theorem lookup_map_local : ∀ {l : List (Str × NameKind)} {x : Str}, l.lookup x = some .local → lget (l.map fun p => match isFree p.2 && isCell (kindS sc p.1) with | true => (p.1, NameKind.cell) | false => p) x = some .local
 | [], _, h => by simp at h
 | (y, u) :: r, x, h => by
  rw [List.map_cons]
  by_cases q : y = x
  ·subst q
   have : u = .local := by simpa using h
   subst this
   simp [isFree, lget_cons]
  ·have h' : r.lookup x = some .local := by
    rw [List.lookup_cons] at h
    have : (x == y) = false := by simpa using Ne.symm q
    rw [this] at h; exact h
   have ih := lookup_map_local h'
   cases hc : (isFree u && isCell (kindS sc y))
   ·simp only [hc]; rw [lget_cons, if_neg q]; exact ih
   ·simp only [hc]; rw [lget_cons, if_neg q]; exact ih
end
end Mine
end
section
set_option maxRecDepth 4000
namespace Mine
open PySem PySem.Calls
variable [Hsh]
section
variable {R : Type} {prog : Program} {w : World} {A : Around} {E : Value → Shared → Prop} {s s' : Shared} {h₀ : Heap} {os₀ : Bg} {Z Z' : Gh} {ρ ρ' : List Addr} {hh h' : H} {env cenv : Env} {sc sc1 : Scope} {lc : Lc}
 {k : KV R} {r : R} {Q : Value → Shared → Prop} {n : Nat} {K : Frag} {P : Prg} {C : Cl R} {I : Ev R} {W : Addr → Prop}
theorem comp_core (B : Base w h₀ K P) (S : SI prog w h₀ n I) (HI : HItems prog w h₀ n) (HG : P.hOn = true → HGen prog w h₀ P n) (hg : keepIn K (.ref P.genFn) = true) {x : Str} {px pos ppos : Pos} {elt iter : PySem.Expr} {ifs : List PySem.Expr} {scope : Scope}
  {use : Option (Value → Sem Unit)} {kk : List F → H → Option R} (e : compE P I sc lc hh x elt iter ifs scope kk = some r) (ok : OkA n A) (Re : Rel h₀ os₀ Z ρ hh s) (F : FrR env sc lc Z ρ s.heap)
  (fin : ∀ D CC acc ys m s2 Z2 ρ2 h2, StpH no Z ρ s.heap Z2 ρ2 s2.heap → Rel h₀ os₀ Z2 ρ2 h2 s2 → FrR env sc lc Z2 ρ2 s2.heap → Z2 D = some (lstO ys m) → RFs Z2 acc ys → kk acc h2 = some r →
   (∃ mc, s2.heap.Ns CC mc) → Z2 CC = none → CC ∉ ρ2 → ¬ own env CC → s.heap.get? CC = none → compPost (model prog w) A E use Q (.ref D) CC (.ok .next) s2) :
  wpAny (model prog w) A (comprehension (.ListComp elt [⟨.Name x px, iter, ifs, 0⟩] scope pos) scope env ppos (newList []) false (eval iter env) use) Q E s := by
 unfold compE at e
 replace e := guardB_some e; obtain ⟨okc, e⟩ := e
 obtain ⟨o1, o2, o3⟩ := okComp_spec okc
 have cells : ∀ p ∈ scope.names, p.2 = .free → ∃ c, env.cells.lookup p.1 = some c := fun p hp hf => by
  obtain ⟨c, y, e1, _⟩ := F.cel _ ((o2 p hp).2.1 hf)
  exact ⟨c, e1⟩
 obtain ⟨cl, c1, c2, c3⟩ := closure_of cells
 have hit := iterE_snd (Q := fun itv s2 => wpAny (model prog w) A (newList []) (fun acc s3 =>
   wpAny (model prog w) A (newFunctionEnv scope env.globals cl [] env.qual none .none (some env)) (fun cenv s4 =>
    codeAny (model prog w) A (.compStart (.ListComp elt [⟨.Name x px, iter, ifs, 0⟩] scope pos) 0 itv acc { cenv with scope := PySem.relabel scope env }) (compPost (model prog w) A E use Q acc cenv.locals) s4) E s3) E s2) (E := E) B S HI HG hg e ok Re F ?_
 ·exact wpAny_comprehension_free rfl hit.1 c1 o1 (fun y hy hl => (o2 y hy).2.2 hl) hit.2
 intro it s1 Z1 ρ1 h1 S1 R1 e1
 intro itv s2 W St b kept fresh fd wok Rb st
 have F1 := F.step S1
 have hsome : ∀ a, own env a → ∃ o, s2.heap.get? a = some o := fun a ha => by
  obtain ⟨o, ho⟩ := F1.exists ha
  exact ⟨o, kept _ _ ho⟩
 refine wpAny_newObj_type (wpAny_newFunctionEnv (fun y hy => (o2 y hy).1) (by intro y hy; cases hy) (fun h₁ hns₁ hsb₁ => ?_) o1)
 dsimp only at hns₁ hsb₁ ⊢
 generalize hH2 : s2.heap.push { cls := .type "list", dict := none, data := .seq ([] : List Value).toArray } = H2 at hns₁ hsb₁ ⊢
 have hC : H2.objs.size = s2.heap.objs.size + 1 := by rw [← hH2, Heap.size_push]
 have keep2 : ∀ a o, s2.heap.get? a = some o → h₁.get? a = some o := fun a o ea => by
  have h3 : H2.get? a = some o := by rw [← hH2]; exact Heap.get?_push_of_some _ ea
  exact hsb₁.extBut a o (Nat.ne_of_lt (Heap.lt_size h3)) (Heap.get?_push_of_some _ h3)
 have hDg : h₁.get? s2.heap.objs.size = some (lstO [] 0) := by
  have h3 : H2.get? s2.heap.objs.size = some (lstO [] 0) := by rw [← hH2]; exact Heap.get?_push_size _ rfl
  exact hsb₁.extBut _ _ (Nat.ne_of_lt (Heap.lt_size h3)) (Heap.get?_push_of_some _ h3)
 have below : ∀ a o, s2.heap.get? a = some o → a ≠ s2.heap.objs.size ∧ a ≠ H2.objs.size := fun a o ea => by
  have := Heap.lt_size ea
  exact ⟨Nat.ne_of_lt this, by rw [hC]; exact Nat.ne_of_lt (Nat.lt_succ_of_lt this)⟩
 have fresh2 : ∀ a, s2.heap.objs.size ≤ a → s1.heap.get? a = none := fun a ha => by
  cases q : s1.heap.get? a with
  | none => rfl
  | some o => exact absurd (Heap.lt_size (kept _ _ q)) (Nat.not_lt.mpr ha)
 have R2 : Rel h₀ b Z1 ρ1 h1 { s2 with heap := h₁, toks := s2.toks + ([] : List (Str × Value)).length } := Rb.kept keep2
 have zC : Z1 H2.objs.size = none ∧ H2.objs.size ∉ ρ1 := ⟨Rb.freshZ (by rw [hC]; exact Nat.le_succ _), Rb.freshR (by rw [hC]; exact Nat.le_succ _)⟩
 have zD : Z1 s2.heap.objs.size = none ∧ s2.heap.objs.size ∉ ρ1 := ⟨Rb.freshZ (Nat.le_refl _), Rb.freshR (Nat.le_refl _)⟩
 have kp : ∀ a o, s1.heap.get? a = some o → h₁.get? a = some o := fun a o q => keep2 _ _ (kept _ _ q)
 have nownC : ¬ own env H2.objs.size := fun q => by obtain ⟨o, ho⟩ := hsome _ q; exact (below _ _ ho).2 rfl
 have nownD : ¬ own env s2.heap.objs.size := fun q => by obtain ⟨o, ho⟩ := hsome _ q; exact (below _ _ ho).1 rfl
 have clown : ∀ y c, cl.lookup y = some c → own env c := fun y c q => .inr ⟨y, c2 _ _ q⟩
 have cfr : FrR (compEnvC scope cl H2.objs.size env) (relabelS scope sc) (cellsOnly (relabelS scope sc) lc) Z1 ρ1 h₁ := by
  refine ⟨relabel_eq F.esc F.kind, o1, F.glob, F.bins, ⟨_, hns₁, fun y v hk hl => ?_⟩, fun y hk => ?_, fun y y' c a b => ?_, zC, fun y c q => ?_⟩
  ·rw [lget_cells, hk] at hl
   simp [isCell] at hl
  ·obtain ⟨hm, hc⟩ := relabel_cell okc hk
   obtain ⟨c, hcl⟩ := c3 y hm
   obtain ⟨c', v, e1, ⟨oo, e2, e2'⟩, e3⟩ := F1.cel y hc
   have : c' = c := by rw [c2 _ _ hcl] at e1; exact (Option.some.inj e1).symm
   subst this
   refine ⟨c', v, hcl, ⟨oo, kp _ _ e2, e2'⟩, fun u hu => e3 u ?_⟩
   rw [lget_cells, hk] at hu
   simpa [isCell] using hu
  ·exact F.inj _ _ _ (c2 _ _ a) (c2 _ _ b)
  ·have oc := F1.ownC y c (c2 _ _ q)
   obtain ⟨v, oo, hv, hv'⟩ := oc.2.2.2
   exact ⟨oc.1, oc.2.1, (below _ _ (kept _ _ hv)).2, v, oo, kp _ _ hv, hv'⟩
 have dW : ∀ a, W a → a ≠ H2.objs.size ∧ a ≠ s2.heap.objs.size ∧ ¬ own env a ∧ ¬ own (compEnvC scope cl H2.objs.size env) a ∧ s1.heap.get? a = none := fun a ha => by
  obtain ⟨o, ho⟩ := (wok a ha).1
  have no : ¬ own env a := fun q => by obtain ⟨o', ho'⟩ := F1.exists q; rw [fresh a ha] at ho'; cases ho'
  refine ⟨(below _ _ ho).2, (below _ _ ho).1, no, fun q => ?_, fresh a ha⟩
  rcases q with q | ⟨y, q⟩
  ·exact (below _ _ ho).2 q
  ·exact no (clown _ _ q)
 have hneed : needOf it = false := by
  cases it with
  | items l => dsimp only at e1; cases e1
  | _ => rfl
 have base : ∃ m, cRun I (relabelS scope sc) (cellsOnly (relabelS scope sc) lc) x elt ifs it m 0 [] h1 kk = some r ∧ fuelOk it m 0 := by
  cases it with
  | items l => cases e1
  | fixed l =>
   dsimp only at e1
   replace e1 := guardB_some e1; obtain ⟨gl, e1⟩ := e1
   exact ⟨l.length + 1, e1, by unfold fuelOk; dsimp only; exact ⟨by omega, fitL_le gl⟩⟩
  | live i => exact ⟨100, e1, by unfold fuelOk; dsimp only; omega⟩
 obtain ⟨m0, hrun, hfuel⟩ := base
 have cat : CAt h₀ env (compEnvC scope cl H2.objs.size env) sc (relabelS scope sc) lc St b W s1 Z1 ρ1 s2.heap.objs.size 0 [] Z1 ρ1 h1 { s2 with heap := h₁, toks := s2.toks + ([] : List (Str × Value)).length } :=
  ⟨R2, F1.step (StpH.kept kp), cfr, fun a ha => ⟨by obtain ⟨o, ho⟩ := (wok a ha).1; exact ⟨o, keep2 _ _ ho⟩, (wok a ha).2⟩, fd.keep st (fun a o _ q => keep2 _ _ q), dW, ⟨[], 0, hDg, RFs.nil⟩, zD, StpH.kept kp, Nat.le_refl _⟩
 have loop := comp_loop (env := env) (cenv := compEnvC scope cl H2.objs.size env) (px := px) (iter := iter) (scope := scope) (pos := pos) (RR := compPost (model prog w) A E use Q (.ref s2.heap.objs.size) H2.objs.size) S ok fd hneed (by
  have := lookup_map_local (sc := sc) o3
  exact this) (kk := kk) (r := r) ⟨fun q => by rw [show (compEnvC scope cl H2.objs.size env).locals = s2.heap.objs.size + 1 from hC] at q; exact absurd q (Nat.succ_ne_self _), nownC, fresh2 _ (by show s2.heap.objs.size ≤ H2.objs.size; rw [hC]; exact Nat.le_succ _), fun y c q => by
   obtain ⟨o, ho⟩ := hsome _ (clown _ _ q)
   exact (below _ _ ho).2⟩ ⟨nownD, fun q => by
   rcases q with q | ⟨y, q⟩
   ·rw [show (compEnvC scope cl H2.objs.size env).locals = s2.heap.objs.size + 1 from hC] at q
    exact absurd q.symm (Nat.succ_ne_self _)
   ·exact nownD (clown _ _ q), fresh2 _ (Nat.le_refl _)⟩ (fun _ _ q => q) ⟨[], by simp⟩ (fun y c q => c2 _ _ q) ?_ hrun hfuel cat
 ·exact codeAny_compStart_list loop (fd.self hneed cat.st loop)
 ·intro j b2 W2 acc Za ρa ha sa cata Ra ka sb hk Rb2
  obtain ⟨rel, fr, cfr', wok', st', dW, ⟨ys, cap, hD, racc⟩, ⟨zDa, rDa⟩, stp, le⟩ := cata
  have hDb := hk _ _ (fun q => (dW _ q).2.1 rfl) hD
  have stpb := stp.ext hk (fun a ha => (dW a ha).2.2.2.2)
  have frb := fr.ext hk (fun a ha q => (dW a q).2.2.1 ha)
  have hneD : H2.objs.size ≠ s2.heap.objs.size := by rw [hC]; exact Nat.succ_ne_self _
  refine fin s2.heap.objs.size H2.objs.size acc ys cap sb (put Za s2.heap.objs.size (lstO ys cap)) ρa ha ((S1 : StpH no Z ρ s.heap Z1 ρ1 s1.heap).trans (stpb.freeze1 zDa (fresh2 _ (Nat.le_refl _)))) (Rb2.freeze1 hDb zDa rDa)
   (own_put frb zDa (fun q => nownD (.inl q.symm)) (fun y c q q' => nownD (by rw [← q']; exact .inr ⟨y, q⟩))) (put_self _ _ _) (RFs.mono (put_zz zDa _) racc) ka ?_ ?_ cfr'.ownL.2 nownC ?_
  ·obtain ⟨mc, ⟨o, es, ep, ho, rest⟩, _⟩ := cfr'.loc
   exact ⟨mc, o, es, ep, hk _ _ (fun q => (dW _ q).1 rfl) ho, rest⟩
  ·rw [put_ne _ _ hneD]; exact cfr'.ownL.1
  ·cases q : s.heap.get? H2.objs.size with
   | none => rfl
   | some o =>
    exfalso
    have f := fresh2 H2.objs.size (by rw [hC]; exact Nat.le_succ _)
    by_cases hz : Z H2.objs.size = none
    ·by_cases hr : H2.objs.size ∈ ρ
     ·obtain ⟨t, rfl⟩ := S1.rr
      exact zC.2 (List.mem_append_left _ hr)
     ·have := (S1.rest _ _ q hz hr (fun q => q)).1
      rw [f] at this; cases this
    ·cases hzz : Z H2.objs.size with
     | none => exact hz hzz
     | some p => have := S1.zz _ _ hzz; rw [zC.1] at this; cases this
theorem comp_snd (B : Base w h₀ K P) (S : SI prog w h₀ n I) (HI : HItems prog w h₀ n) (HG : P.hOn = true → HGen prog w h₀ P n) (hg : keepIn K (.ref P.genFn) = true) {x : Str} {px pos : Pos} {elt iter : PySem.Expr} {ifs : List PySem.Expr} {scope : Scope}
  (e : compE P I sc lc hh x elt iter ifs scope (fun acc h2 => k (.f (.lst acc)) h2) = some r) (ok : OkA n A) (Re : Rel h₀ os₀ Z ρ hh s) (F : FrR env sc lc Z ρ s.heap) (p : PV h₀ os₀ Z ρ s k r Q) :
  wpAny (model prog w) A (eval (.ListComp elt [⟨.Name x px, iter, ifs, 0⟩] scope pos) env) Q E s := by
 rw [eval_ListComp]
 refine comp_core B S HI HG hg e ok Re F fun D CC acc ys m s2 Z2 ρ2 h2 S2 R2 F2 hD ra ek ns zC rC nC fC => ?_
 obtain ⟨mc, ns⟩ := ns
 refine ⟨mc, ns, fun h' hs => ?_⟩
 have ex : ∃ o, s2.heap.get? CC = some o := by obtain ⟨o, _, _, ho, _⟩ := ns; exact ⟨o, ho⟩
 obtain ⟨o, ho⟩ := ex
 have hfr : ∀ a p, ¬ a = CC → s2.heap.get? a = some p → h'.get? a = some p := fun a p na e => (hs.2 a na).trans e
 refine p _ { s2 with heap := h' } Z2 ρ2 (.f (.lst acc)) h2 (S2.ext (W := (· = CC)) hfr (fun a ha => by subst ha; exact fC)) (R2.frame zC rC hs) ?_ ek
 unfold RV RF
 exact ⟨D, m, ys, rfl, hD, ra⟩
theorem compUse_snd (B : Base w h₀ K P) (S : SI prog w h₀ n I) (HI : HItems prog w h₀ n) (HG : P.hOn = true → HGen prog w h₀ P n) (hg : keepIn K (.ref P.genFn) = true) {x y : Str} {px py pos : Pos} {elt iter : PySem.Expr} {ifs : List PySem.Expr} {scope : Scope} {kk : Lc → H → Option R} {Q : Unit → Shared → Prop}
  (e : compE P I sc lc hh x elt iter ifs scope (fun acc h2 => kk (lset lc y (.f (.lst acc))) h2) = some r) (hy : kindS sc y = some .local) (ok : OkA n A) (Re : Rel h₀ os₀ Z ρ hh s) (F : FrR env sc lc Z ρ s.heap)
  (p : ∀ s' Z' ρ' lc' h', Stp (own env) Z ρ s Z' ρ' s' → Rel h₀ os₀ Z' ρ' h' s' → FrR env sc lc' Z' ρ' s'.heap → kk lc' h' = some r → Q () s') :
  wpAny (model prog w) A (evalThenUse (.ListComp elt [⟨.Name x px, iter, ifs, 0⟩] scope pos) env fun v => PySem.assignAll v [PySem.assign (.Name y py) env]) Q E s := by
 have h1 : evalThenUse (.ListComp elt [⟨.Name x px, iter, ifs, 0⟩] scope pos) env (fun v => PySem.assignAll v [PySem.assign (.Name y py) env]) = (do
  let _ ← comprehension (.ListComp elt [⟨.Name x px, iter, ifs, 0⟩] scope pos) scope env (firstIterPos [⟨.Name x px, iter, ifs, 0⟩] pos) (newList []) false (eval iter env) (some fun v => PySem.assignAll v [PySem.assign (.Name y py) env])) := rfl
 rw [h1]
 refine wpAny_bind (comp_core (Q := fun _ s2 => wpAny (model prog w) A (pure ()) Q E s2) B S HI HG hg e ok Re F fun D CC acc ys m s2 Z2 ρ2 h2 S2 R2 F2 hD ra ek ns zC rC nC fC => ?_)
 obtain ⟨mc, ns⟩ := ns
 show wpAny (model prog w) A (PySem.assign (.Name y py) env (.ref D)) _ E s2
 refine wpAny_assign_Name (frame_store (v := .f (.lst acc)) R2 F2 (by unfold isLocal; rw [hy]) (by unfold RV RF; exact ⟨D, m, ys, rfl, hD, ra⟩) fun s3 R3 F3 S3 => ?_)
 obtain ⟨o, es, ep, ho, nsr⟩ := ns
 have ho3 := (S3.rest _ _ ho zC rC nC).1
 refine ⟨mc, ⟨o, es, ep, ho3, nsr⟩, fun h' hs => ?_⟩
 have hfr : ∀ a p, ¬ a = CC → s3.heap.get? a = some p → h'.get? a = some p := fun a p na e => (hs.2 a na).trans e
 refine wpAny_pure (p _ Z2 ρ2 _ h2 ((S2.widen.trans S3).ext (W := (· = CC)) hfr (fun a ha => by subst ha; exact fC)) (R3.frame zC rC hs) (F3.ext (W := (· = CC)) hfr (fun a ha q => nC (by rw [← q]; exact ha))) ek)
end
end Mine
end
section
set_option maxRecDepth 4000
namespace Mine
open PySem PySem.Calls
variable [Hsh]
structure All {R : Type} (prog : Program) (w : World) (h₀ : Heap) (n : Nat) (K : Frag) (P : Prg) (C : Cl R) : Prop where
 B : Base w h₀ K P
 SC : SCl prog w h₀ n C
 HM : P.hOn = true → HdrOk prog w h₀ n
 HI : HItems prog w h₀ n
 HG : P.hOn = true → HGen prog w h₀ P n
 hg : keepIn K (.ref P.genFn) = true
section
variable {R : Type} {prog : Program} {w : World} {A : Around} {E : Value → Shared → Prop} {s s' : Shared} {h₀ : Heap} {os₀ : Bg} {Z Z' : Gh} {ρ ρ' : List Addr} {hh h' : H} {env cenv : Env} {sc sc1 : Scope} {lc : Lc}
 {k : KV R} {r : R} {Q : Value → Shared → Prop} {n : Nat} {K : Frag} {P : Prg} {C : Cl R} {I : Ev R} {W : Addr → Prop}
theorem usub_int {i : Int} {t : Tok} (h : ∀ t' tk, Q (.int (-i) t') { s with toks := tk }) : wpAny (model prog w) A (unaryOp .USub (.int i t)) Q E s := by
 first
  | exact PySem.P.neg_int (h _ _)
  | exact PyProof.Rows.neg_int (h _ _)
  | exact neg_int (h _ _)
theorem base_attr {o : PySem.Expr} {name : Str} (hn : notSuper o = true) : attributeBase o name env (eval o env) = eval o env := by
 unfold attributeBase
 split
 ·rename_i id _ _
  simp only [notSuper, Bool.not_eq_true'] at hn
  have : (id != "super") = true := by
   rw [steq_eq] at hn
   simpa using of_decide_eq_false hn
  simp [this]
 ·rfl
theorem ev_snd (X : All prog w h₀ n K P C) (S : SI prog w h₀ n I) {mu : Bool} {e : PySem.Expr} (h : evStep P C I sc lc mu hh e k = some r) (ok : OkA n A) (Re : Rel h₀ os₀ Z ρ hh s) (F : FrR env sc lc Z ρ s.heap) (p : PV h₀ os₀ Z ρ s k r Q) :
  wpAny (model prog w) A (eval e env) Q E s := by
 have B := X.B
 have same : ∀ {v : V} {y : Value} {tk : Nat}, RV Z ρ v y → k v hh = some r → Q y { s with toks := tk } := fun rv q => p _ _ _ _ _ _ StpH.refl Re rv q
 unfold evStep at h
 split at h
 ·replace h := obind_some h; obtain ⟨x, ex, h⟩ := h
  unfold constF at ex
  split at ex
  ·cases ex; exact wpAny_Constant_none (same mkRV_none h)
  ·cases ex; exact wpAny_Constant_bool (same (mkRV_bool _) h)
  ·cases ex; exact wpAny_Constant_int (same (mkRV_int _ _) h)
  ·cases ex; exact wpAny_Constant_str (same (mkRV_str _ _) h)
  ·cases ex
 ·replace h := obind_some h; obtain ⟨v, ev, h⟩ := h
  exact name_snd B ev Re F fun y rv => p _ _ _ _ _ _ StpH.refl Re rv h
 ·refine wpAny_UnaryOp (S.ev h ok Re F fun y s1 Z1 ρ1 v h1 S1 R1 rv1 e1 => ?_)
  replace e1 := asInt_some e1; obtain ⟨i, rfl, e1⟩ := e1
  obtain ⟨t, rfl⟩ := RV_int rv1
  exact usub_int fun t' tk => p _ _ _ _ _ _ S1 R1 (mkRV_int _ _) e1
 ·refine wpAny_BinOp (S.ev h ok Re F fun y s1 Z1 ρ1 v h1 S1 R1 rv1 e1 => ?_)
  refine S.ev e1 ok R1 (F.step S1) fun y2 s2 Z2 ρ2 v2 h2 S2 R2 rv2 e2 => ?_
  exact binop_snd e2 ok R2 (rv1.mono S2.zz S2.rr) rv2 fun y s' Z' ρ' v h' S' R' rv' e' => p _ _ _ _ _ _ ((S1.trans S2).trans S') R' rv' e'
 ·replace h := guardB_some h; obtain ⟨g, h⟩ := h
  exact wpAny_Compare1 (cmpV_snd (kb := fun x h2 => k (.f (.bool x)) h2) S h ok Re F fun c s' Z' ρ' h' S' R' e' => p _ _ _ _ _ _ S' R' (mkRV_bool _) e') (behind_of g)
 ·refine wpAny_IfExp (S.tst h ok Re F fun b s1 Z1 ρ1 h1 S1 R1 e1 => ?_)
  cases b with
  | true => exact S.ev e1 ok R1 (F.step S1) fun y s' Z' ρ' v h' S' R' rv' e' => p _ _ _ _ _ _ (S1.trans S') R' rv' e'
  | false => exact S.ev e1 ok R1 (F.step S1) fun y s' Z' ρ' v h' S' R' rv' e' => p _ _ _ _ _ _ (S1.trans S') R' rv' e'
 ·replace h := guardB_some h; obtain ⟨g, h⟩ := h
  exact tuple_snd S g h ok Re F p
 ·replace h := guardB_some h; obtain ⟨g, h⟩ := h
  exact list_snd S g h ok Re F p
 ·exact comp_snd B S X.HI X.HG X.hg h ok Re F p
 ·refine Subscript_part (S.ev h ok Re F fun y s1 Z1 ρ1 v h1 S1 R1 rv1 e1 => ?_)
  refine wpAny_Slice (part_snd S e1 ok R1 (F.step S1) fun o1 y1 s2 Z2 ρ2 h2 S2 R2 q1 e2 => ?_)
  refine part_snd S e2 ok R2 (F.step (S1.trans S2)) fun o2 y2 s3 Z3 ρ3 h3 S3 R3 q2 e3 => ?_
  rw [evalPart_none]
  refine wpAny_pure ?_
  have S23 := S2.trans S3
  obtain ⟨g1, T, id, g2, g3⟩ := slice_snd (prog := prog) (w := w) (A := A) (E := E) (Q := Q) e3 R3 (rv1.mono S23.zz S23.rr) q1 q2 fun y s' Z' ρ' v h' S' R' rv' e' => p _ _ _ _ _ _ ((S1.trans S23).trans S') R' rv' e'
  exact ⟨T, id, g2, g3, g1⟩
 ·refine Subscript_part (S.ev h ok Re F fun y s1 Z1 ρ1 v h1 S1 R1 rv1 e1 => ?_)
  refine wpAny_Slice ?_
  rw [evalPart_none]
  refine wpAny_pure (wpAny_pure ?_)
  rw [evalPart_some]
  refine S.ev e1 ok R1 (F.step S1) fun y2 s2 Z2 ρ2 v2 h2 S2 R2 rv2 e2 => ?_
  replace e2 := asInt_some e2; obtain ⟨j, rfl, e2⟩ := e2
  replace e2 := guardB_some e2; obtain ⟨gj, e2⟩ := e2
  have gj := of_decide_eq_true gj
  subst gj
  obtain ⟨t, rfl⟩ := RV_int rv2
  obtain ⟨g1, g2⟩ := rev_snd (prog := prog) (w := w) (A := A) (E := E) (Q := Q) (t := t) e2 R2 (rv1.mono S2.zz S2.rr) fun y s' Z' ρ' v h' S' R' rv' e' => p _ _ _ _ _ _ ((S1.trans S2).trans S') R' rv' e'
  exact ⟨"list", _, slot_list_getitem.lookup, g2, g1⟩
 ·refine PyProof.Rows.Subscript_ (S.ev h ok Re F fun y s1 Z1 ρ1 v h1 S1 R1 rv1 e1 => ?_)
  refine S.ev e1 ok R1 (F.step S1) fun y2 s2 Z2 ρ2 v2 h2 S2 R2 rv2 e2 => ?_
  exact subscr_snd e2 R2 (rv1.mono S2.zz S2.rr) rv2 fun y s' Z' ρ' v h' S' R' rv' e' => p _ _ _ _ _ _ ((S1.trans S2).trans S') R' rv' e'
 ·replace h := guardB_some h; obtain ⟨g, h⟩ := h
  exact methodCall_snd B X.SC S g h ok Re F p
 ·rename_i hne
  replace h := guardB_some h; obtain ⟨g, h⟩ := h
  exact plainCall_snd B X.SC X.HM S (fun o x ap q => hne _ _ _ q) g h ok Re F p
 ·replace h := guardB_some h; obtain ⟨g, h⟩ := h
  rw [arm_eval_Attribute, base_attr g]
  refine wpAny_bind (S.ev h ok Re F fun y s1 Z1 ρ1 v h1 S1 R1 rv1 e1 => wpAny_bind (wpAny_standAt (wpAny_bind (wpAny_holding ?_))))
  ·replace e1 := obind_some e1; obtain ⟨v', ea, e1⟩ := e1
   exact attr_snd B.fct B.KX ea R1 rv1 e1 fun y s' Z' ρ' v h' S' R' rv' e' => wpAny_bind (wpAny_letTemporaryGo (wpAny_pure (p _ _ _ _ _ _ (S1.trans S') R' rv' e')))
 ·replace h := guardB_some h; obtain ⟨g, h⟩ := h
  have g := of_decide_eq_true g
  subst g
  refine wpAny_FormattedValue_s (S.ev h ok Re F fun y s1 Z1 ρ1 v h1 S1 R1 rv1 e1 => ?_)
  replace e1 := asStr_some e1; obtain ⟨x, rfl, e1⟩ := e1
  replace e1 := guardB_some e1; obtain ⟨gl, e1⟩ := e1
  have gl := fitS_le gl
  have ll := line_ge
  obtain ⟨t, rfl⟩ := RV_str rv1
  exact formatted_str (fun t' tk => p _ { s1 with toks := tk } _ _ _ _ S1 R1 (mkRV_str _ _) e1) (by omega)
 ·refine wpAny_JoinedStr (joins_snd S ok h (by show (0 : Nat) ≤ sizeLine; exact Nat.zero_le _) Re F fun x s' Z' ρ' h' S' R' e' hx => ⟨hx, ?_⟩)
  exact p _ { s' with toks := s'.toks + 1 } _ _ _ _ S' R' (mkRV_str _ _) e'
 ·cases h
end
end Mine
end
section
set_option maxRecDepth 4000
namespace Mine
open PySem PySem.Calls
variable [Hsh]
section
variable {R : Type} {prog : Program} {w : World} {A : Around} {E : Value → Shared → Prop} {s s' : Shared} {h₀ : Heap} {os₀ : Bg} {Z Z' : Gh} {ρ ρ' : List Addr} {hh h' : H} {env cenv : Env} {sc sc1 : Scope} {lc : Lc}
 {k : KV R} {r : R} {Q : Value → Shared → Prop} {n : Nat} {K : Frag} {P : Prg} {C : Cl R} {I : Ev R} {W : Addr → Prop}
theorem wpAny_release {M : Model} {E : Value → Shared → Prop} {vs keep : List Value} {Q : Unit → Shared → Prop} (q : Q () s) : wpAny M A (release vs keep) Q E s := fun Γ p hΓ => by
 rw [Sem.wp_release]; exact q
theorem assign_snd (X : All prog w h₀ n K P C) (S : SI prog w h₀ n I) {t : PySem.Expr} {v : V} {y : Value} {ka : Lc → H → Option R} {Q : Unit → Shared → Prop} (e : assign I sc t v lc hh ka = some r) (ok : OkA n A) (rv : RV Z ρ v y) (Re : Rel h₀ os₀ Z ρ hh s) (F : FrR env sc lc Z ρ s.heap)
  (p : PA h₀ os₀ env sc Z ρ s ka r Q) : wpAny (model prog w) A (PySem.assign t env y) Q E s := by
 have B := X.B
 unfold assign at e
 split at e
 ·rename_i o name pos
  rw [arm_assign_Attribute]
  refine wpAny_bind (wpAny_holding (S.ev e ok Re F fun yo s1 Z1 ρ1 vo h1 S1 R1 rv1 e1 => ?_))
  dsimp only at e1
  split at e1
  ·rename_i i x
   replace e1 := guardB_some e1; obtain ⟨g, e1⟩ := e1
   rw [Bool.and_eq_true] at g
   split at e1
   ·rename_i l hl
    replace e1 := guardB_some e1; obtain ⟨gl, e1⟩ := e1
    have gl := of_decide_eq_true gl
    have hm := isWsName_mem g.2
    have rvx := rv.mono S1.zz S1.rr
    unfold RV at rv1 rvx
    obtain ⟨a, d, rfl, ha, hd⟩ := rv1
    obtain ⟨d', e1', m, es, e3, e4⟩ := R1.objs i _ hl
    rw [hd] at e1'; cases e1'
    have hlen := e4.length
    refine wpAny_bind (wpAny_standAt (wpAny_bind (wpAny_holding (set_attr (B.KS R1) (R1.fz _ _ ha) e3 B.fct.sa100 B.fct.po100 (B.fct.tk100 _ hm) B.fct.hd100 ?_ (by omega) fun h' tk t' hs hg => ?_))))
    ·have q := e4.getL name
     cases c : lget l name with
     | none => rw [c] at q; dsimp only at q; rw [q]; rfl
     | some f => rw [c] at q; obtain ⟨u, q1, _⟩ := q; rw [q1]; rfl
    ·obtain ⟨m', hg⟩ := hg
     refine wpAny_release ?_
     obtain ⟨R2, S2⟩ := R1.set (p := .attrs (lset l name x)) hd hs ⟨m', _, hg, e4.put rvx⟩
     exact p _ _ _ _ _ ((S1.trans S2).widen) R2 (F.step (S1.trans S2)) e1
   ·cases e1
  ·cases e1
 ·rename_i o i pos
  rw [arm_assign_Subscript]
  refine wpAny_bind (wpAny_holding (S.ev e ok Re F fun yo s1 Z1 ρ1 vo h1 S1 R1 rv1 e1 => ?_))
  refine wpAny_bind (wpAny_holding (S.ev e1 ok R1 (F.step S1) fun yi s2 Z2 ρ2 vi h2 S2 R2 rv2 e2 => ?_))
  dsimp only at e2
  split at e2
  ·rename_i a j x
   split at e2
   ·rename_i l hl
    replace e2 := guardB_some e2; obtain ⟨g, e2⟩ := e2
    rw [Bool.and_eq_true, Bool.and_eq_true] at g
    have g1 := of_decide_eq_true g.1.1
    have g2 := of_decide_eq_true g.1.2
    have g3 := fitL_le g.2
    have S12 := S1.trans S2
    have rvx := rv.mono S12.zz S12.rr
    have rvo := rv1.mono S2.zz S2.rr
    unfold RV at rvo rvx
    obtain ⟨d, rfl, hd⟩ := rvo
    obtain ⟨t, rfl⟩ := RV_int rv2
    obtain ⟨d', e1', m, vs, e3, e4⟩ := R2.objs a _ hl
    rw [hd] at e1'; cases e1'
    have hlen := e4.length
    have hset : vs.toArray.setIfInBounds j.toNat y = (vs.set j.toNat y).toArray := by
     apply Array.toList_inj.mp
     simp
    have hmap : Obj.mapSeq (·.setIfInBounds j.toNat y) (lstO vs m) = lstO (vs.set j.toNat y) m := by
     show (⟨_, _, .seq (vs.toArray.setIfInBounds j.toNat y) (if (vs.toArray.setIfInBounds j.toNat y).size == vs.toArray.size then m else m + 1), _⟩ : Obj) = _
     rw [hset]
     simp [lstO]
    refine wpAny_bind (wpAny_standAt (wpAny_bind (wpAny_holding (ki_setAt (n := m) e3 g1 (by omega) (by simp; omega) ?_))))
    refine wpAny_release ?_
    have hs : Heap.SameBut d s2.heap (s2.heap.update d (Obj.mapSeq (·.setIfInBounds j.toNat y))) := Heap.SameBut.update ..
    have hg : (s2.heap.update d (Obj.mapSeq (·.setIfInBounds j.toNat y))).get? d = some (lstO (vs.set j.toNat y) m) := by
     rw [Heap.get?_update_self _ e3 (by rw [hmap]; rfl), hmap]
    obtain ⟨R3, S3⟩ := R2.set (p := .list (l.set j.toNat x)) hd hs ⟨m, _, hg, RFs.set _ e4 rvx⟩
    exact p _ _ _ _ _ ((S12.trans S3).widen) R3 (F.step (S12.trans S3)) e2
   ·cases e2
  ·cases e2
 ·replace e := obind_some e; obtain ⟨lc1, el, e⟩ := e
  exact asgTarget_snd ok el rv Re F fun s' R' F' S' => p _ _ _ _ _ S' R' F' e
end
end Mine
end
section
set_option maxRecDepth 4000
namespace Mine
open PySem PySem.Calls
variable [Hsh]
section
variable {R : Type} {prog : Program} {w : World} {A : Around} {E : Value → Shared → Prop} {s s' : Shared} {h₀ : Heap} {os₀ : Bg} {Z Z' : Gh} {ρ ρ' : List Addr} {hh h' : H} {env cenv : Env} {sc sc1 : Scope} {lc : Lc}
 {k : KV R} {r : R} {Q : Value → Shared → Prop} {n : Nat} {K : Frag} {P : Prg} {C : Cl R} {I : Ev R} {W : Addr → Prop}
theorem use_snd (X : All prog w h₀ n K P C) (S : SI prog w h₀ n I) {mu : Bool} {e : PySem.Expr} {y : Str} {kk : Lc → H → Option R} (h : evStep P C I sc lc mu hh e (fun v h1 => kk (lset lc y v) h1) = some r) (hc : isCompE e = true) (hy : kindS sc y = some .local)
  {py : Pos} {Q : Unit → Shared → Prop} (ok : OkA n A) (Re : Rel h₀ os₀ Z ρ hh s) (F : FrR env sc lc Z ρ s.heap) (p : PA h₀ os₀ env sc Z ρ s kk r Q) :
  wpAny (model prog w) A (evalThenUse e env fun v => PySem.assignAll v [PySem.assign (.Name y py) env]) Q E s := by
 unfold evStep at h
 split at h <;> first | (cases hc; done) | skip
 ·exact compUse_snd X.B S X.HI X.HG X.hg h hy ok Re F p
 ·cases h
theorem swaps_of (e : env.scope = sc) (ts : List PySem.Expr) (value : PySem.Expr) (line : Nat) : ∃ b, swapsWithSole ts value line env = pure b ∧ (b = true → ∃ y py, ts = [.Name y py] ∧ isCompE value = true ∧ kindS sc y = some .local) := by
 cases ts with
 | nil => exact ⟨false, rfl, nofun⟩
 | cons t l =>
  cases l with
  | cons _ _ => exact ⟨false, rfl, nofun⟩
  | nil =>
   cases value <;> first
    | exact ⟨false, rfl, nofun⟩
    | (cases t <;> first
      | exact ⟨false, rfl, nofun⟩
      | (refine ⟨_, rfl, fun hb => ⟨_, _, rfl, rfl, ?_⟩⟩; (simp only [Bool.and_eq_true, beq_iff_eq] at hb); rw [← e, kindS_eq]; exact hb.1.1.2))
theorem assignAll_snd (X : All prog w h₀ n K P C) (S : SI prog w h₀ n I) {v : V} {y : Value} {Q : Unit → Shared → Prop} (ok : OkA n A) : ∀ {ts : List PySem.Expr} {ka : Lc → H → Option R} {lc : Lc} {hh : H} {s : Shared} {Z : Gh} {ρ : List Addr}, Mine.assignAll I sc ts v lc hh ka = some r → RV Z ρ v y → Rel h₀ os₀ Z ρ hh s → FrR env sc lc Z ρ s.heap →
  PA h₀ os₀ env sc Z ρ s ka r Q → wpAny (model prog w) A (PySem.assignAll y ((assignEach ts env).map (·.2))) Q E s
 | [], ka, lc, hh, s, Z, ρ, e, rv, Re, F, p => wpAny_pure (p _ _ _ _ _ StpH.refl Re F e)
 | t :: l, ka, lc, hh, s, Z, ρ, e, rv, Re, F, p => by
  have hstar : assignEach (t :: l) env = (false, PySem.assign t env) :: assignEach l env := by
   cases t <;> first | rfl | skip
   simp [Mine.assignAll, Mine.assign, asgTarget, obind] at e
  rw [hstar, List.map_cons]
  unfold Mine.assignAll at e
  have main := assign_snd (Q := fun _ s1 => wpAny (model prog w) A (PySem.assignAll y ((assignEach l env).map (·.2))) Q E s1) (E := E) X S e ok rv Re F fun s1 Z1 ρ1 lc1 h1 S1 R1 F1 e1 =>
   assignAll_snd X S ok e1 (rv.mono S1.zz S1.rr) R1 F1 fun s2 Z2 ρ2 lc2 h2 S2 R2 F2 e2 => p _ _ _ _ _ (S1.trans S2) R2 F2 e2
  cases hl : (assignEach l env).map (·.2) with
  | nil =>
   rw [hl] at main
   show wpAny (model prog w) A (PySem.assign t env y) Q E s
   have l0 : l = [] := by
    cases l with
    | nil => rfl
    | cons a b => cases a <;> simp [assignEach] at hl
   subst l0
   exact assign_snd X S e ok rv Re F fun s1 Z1 ρ1 lc1 h1 S1 R1 F1 e1 => p _ _ _ _ _ S1 R1 F1 (by unfold Mine.assignAll at e1; exact e1)
  | cons b c =>
   rw [hl] at main
   exact wpAny_bind (wpAny_holding main)
def foldSet : Lc → List (Str × V) → Lc
 | lc, [] => lc
 | lc, (x, v) :: r => foldSet (lset lc x v) r
theorem lget_foldSet : ∀ (ps : List (Str × V)) (lc : Lc) (y : Str), (ps.map (·.1)).Nodup → lget (foldSet lc ps) y = match lget ps y with | some v => some v | none => lget lc y
 | [], lc, y, _ => rfl
 | (x, v) :: r, lc, y, h => by
  rw [List.map_cons, List.nodup_cons] at h
  unfold foldSet
  rw [lget_foldSet r _ y h.2, lget_cons, lget_lset]
  by_cases q : x = y
  ·subst q
   simp only [if_true]
   cases e : lget r x with
   | none => rfl
   | some u => exact absurd (List.mem_map.mpr ⟨_, lget_mem e, rfl⟩) h.1
  ·simp only [if_neg q]
theorem lget_append {α : Type} : ∀ (a b : List (Str × α)) (y : Str), lget (a ++ b) y = match lget a y with | some v => some v | none => lget b y
 | [], _, _ => rfl
 | (x, v) :: r, b, y => by
  rw [List.cons_append, lget_cons, lget_cons, lget_append r b y]
  by_cases q : x = y <;> simp [q]
theorem lget_rev : ∀ (ps : List (Str × V)) (y : Str), (ps.map (·.1)).Nodup → lget ps.reverse y = lget ps y
 | [], _, _ => rfl
 | (x, v) :: r, y, h => by
  rw [List.map_cons, List.nodup_cons] at h
  rw [List.reverse_cons, lget_append, lget_rev r y h.2, lget_cons, lget_cons]
  by_cases q : x = y
  ·subst q
   cases e : lget r x with
   | none => simp
   | some u => exact absurd (List.mem_map.mpr ⟨_, lget_mem e, rfl⟩) h.1
  ·cases e : lget r y <;> simp [q, lget]
theorem bind_order {Q : Unit → Shared → Prop} : ∀ {ps : List (Str × V)} {ys : List Value} {lc : Lc} {s : Shared}, (∀ p ∈ ps, isLocal sc p.1 = true) → RVs Z ρ (ps.map (·.2)) ys → Rel h₀ os₀ Z ρ hh s → FrR env sc lc Z ρ s.heap →
  (∀ s', Rel h₀ os₀ Z ρ hh s' → FrR env sc (foldSet lc ps) Z ρ s'.heap → Stp (own env) Z ρ s Z ρ s' → Q () s') → wpAny (model prog w) A (assignInOrder ((ps.map (·.1)).map fun x => bindName env x) ys) Q E s
 | [], ys, lc, s, _, rv, Re, F, q => by
  rw [RVs_nil rv]
  exact wpAny_pure (q s Re F StpH.refl)
 | (x, v) :: r, ys, lc, s, hl, rv, Re, F, q => by
  obtain ⟨y, r', rfl, a, b⟩ := RVs_cons rv
  show wpAny (model prog w) A (do holding r' (bindName env x y); assignInOrder ((r.map (·.1)).map fun x => bindName env x) r') Q E s
  refine wpAny_bind (wpAny_holding (wpAny_bindName (frame_store Re F (hl _ (.head _)) a fun s1 R1 F1 S1 => ?_)))
  exact bind_order (fun p hp => hl p (.tail _ hp)) b R1 F1 fun s2 R2 F2 S2 => q s2 R2 F2 (S1.trans S2)
end
end Mine
end
section
set_option maxRecDepth 4000
namespace Mine
open PySem PySem.Calls
variable [Hsh]
section
variable {R : Type} {prog : Program} {w : World} {A : Around} {E : Value → Shared → Prop} {s s' : Shared} {h₀ : Heap} {os₀ : Bg} {Z Z' : Gh} {ρ ρ' : List Addr} {hh h' : H} {env cenv : Env} {sc sc1 : Scope} {lc : Lc}
 {k : KV R} {r : R} {Q : Value → Shared → Prop} {n : Nat} {K : Frag} {P : Prg} {C : Cl R} {I : Ev R} {W : Addr → Prop}
def swName (env : Env) (line : Nat) : PySem.Expr → Option Str
 | .Name id pos => if env.kindOf id == some .local && pos.line == line then some id else none
 | _ => none
theorem swapped_of {ts : List PySem.Expr} {value : PySem.Expr} (g : okTup ts value = true) : swappedStores ts value env = pure none ∨
  ∃ elts c p line, ts = [.Tuple elts c p] ∧ swappedStores ts value env = pure (some (elts.filterMap (swName env line))) ∧ (elts.filterMap (swName env line)).length = elts.length ∧ nodupS (tupNames elts) = true := by
 have none2 : ∀ {ts : List PySem.Expr} {value : PySem.Expr}, (∀ elts c p, ts ≠ [.Tuple elts c p]) → (∀ elts p, ts ≠ [.List elts p]) → swappedStores ts value env = pure none := by
  intro ts value h1 h2
  unfold swappedStores
  split
  ·rename_i q
   split at q
   ·exact absurd rfl (h1 _ _ _)
   ·exact absurd rfl (h2 _ _)
   ·cases q
  ·rfl
 cases ts with
 | nil => exact .inl (none2 (by intros; nofun) (by intros; nofun))
 | cons t l =>
  cases l with
  | cons _ _ => exact .inl (none2 (by intros; nofun) (by intros; nofun))
  | nil =>
   by_cases hT : ∃ elts c p, t = .Tuple elts c p
   ·obtain ⟨elts, c, p, rfl⟩ := hT
    by_cases hV : ∃ vs c2 p2, value = .Tuple vs c2 p2
    ·obtain ⟨vs, c2, p2, rfl⟩ := hV
     simp only [okTup, Bool.and_eq_true, Bool.or_eq_true, Bool.not_eq_true'] at g
     obtain ⟨g1, g2⟩ := g
     unfold swappedStores
     dsimp only
     split
     ·exact .inl rfl
     ·split
      ·exact .inl rfl
      ·split
       ·exact .inl rfl
       ·rename_i hn
        split
        ·exact .inl rfl
        ·rename_i hf
         split
         ·rename_i hc
          rcases g1 with g1 | g1
          ·exact absurd g1 hf
          ·rw [g1] at hc; cases hc
         ·right
          refine ⟨elts, c, p, _, rfl, rfl, ?_, g2⟩
          rw [Bool.or_eq_true, not_or] at hn
          have hq := hn.1
          rw [bne_iff_ne, ne_eq, Decidable.not_not] at hq
          exact hq
    ·left
     unfold swappedStores
     split
     ·rename_i q
      split at q
      ·exact absurd ⟨_, _, _, rfl⟩ hV
      ·exact absurd ⟨_, _, _, rfl⟩ hV
      ·cases q
     ·rfl
   ·by_cases hL : ∃ elts p, t = .List elts p
    ·obtain ⟨elts, p, rfl⟩ := hL
     simp [okTup] at g
    ·exact .inl (none2 (fun a b c q => by cases q; exact hT ⟨_, _, _, rfl⟩) (fun a b q => by cases q; exact hL ⟨_, _, rfl⟩))
theorem sw_names {line : Nat} : ∀ {xs : List (Str × Pos)}, ((xs.map fun p => PySem.Expr.Name p.1 p.2).filterMap (swName env line)).length = (xs.map fun p => PySem.Expr.Name p.1 p.2).length →
  (xs.map fun p => PySem.Expr.Name p.1 p.2).filterMap (swName env line) = xs.map (·.1) ∧ ∀ p ∈ xs, env.kindOf p.1 = some .local
 | [], _ => ⟨rfl, fun _ h => by cases h⟩
 | (x, p) :: r, h => by
  rw [List.map_cons, List.filterMap_cons] at h ⊢
  have hle : ((r.map fun p => PySem.Expr.Name p.1 p.2).filterMap (swName env line)).length ≤ (r.map fun p => PySem.Expr.Name p.1 p.2).length := List.length_filterMap_le _ _
  cases q : swName env line (.Name x p) with
  | none => rw [q] at h; simp only [List.length_cons] at h; omega
  | some id =>
   rw [q] at h
   simp only [List.length_cons, Nat.add_right_cancel_iff] at h
   obtain ⟨h1, h2⟩ := sw_names h
   unfold swName at q
   dsimp only at q
   split at q
   ·rename_i hq
    cases q
    rw [Bool.and_eq_true] at hq
    have hl : env.kindOf x = some .local := by simpa using hq.1
    refine ⟨by rw [h1]; rfl, fun p hp => ?_⟩
    cases hp with
    | head => exact hl
    | tail _ hp => exact h2 p hp
   ·cases q
theorem asg_fold : ∀ {xs : List (Str × Pos)} {vs : List V} {lc lc1 : Lc}, asgNames sc (xs.map fun p => PySem.Expr.Name p.1 p.2) vs lc = some lc1 → lc1 = foldSet lc ((xs.map (·.1)).zip vs) ∧ (∀ p ∈ (xs.map (·.1)).zip vs, isLocal sc p.1 = true) ∧ vs.length = xs.length
 | [], [], lc, lc1, e => by unfold asgNames at e; cases e; exact ⟨rfl, fun _ h => by simp at h, rfl⟩
 | (x, p) :: r, v :: vs, lc, lc1, e => by
  rw [List.map_cons] at e
  unfold asgNames at e
  split at e
  ·rename_i hx
   obtain ⟨h1, h2, h3⟩ := asg_fold e
   refine ⟨h1, fun q hq => ?_, by simp [h3]⟩
   simp only [List.map_cons, List.zip_cons_cons] at hq
   cases hq with
   | head => exact hx
   | tail _ hq => exact h2 q hq
  ·cases e
 | [], _ :: _, _, _, e => by simp [asgNames] at e
 | (x, p) :: r, [], _, _, e => by simp [asgNames] at e
theorem tupNames_map : ∀ xs : List (Str × Pos), tupNames (xs.map fun p => PySem.Expr.Name p.1 p.2) = xs.map (·.1)
 | [] => rfl
 | (x, p) :: r => by rw [List.map_cons, List.map_cons]; unfold tupNames; rw [tupNames_map r]
theorem RVs.rev : ∀ {l : List V} {ys : List Value}, RVs Z ρ l ys → RVs Z ρ l.reverse ys.reverse
 | [], ys, h => by have := RVs_nil h; subst this; exact h
 | v :: l, ys, h => by
  obtain ⟨y, r', rfl, a, b⟩ := RVs_cons h
  rw [List.reverse_cons, List.reverse_cons]
  have app : ∀ {a b : List V} {xs zs : List Value}, RVs Z ρ a xs → RVs Z ρ b zs → RVs Z ρ (a ++ b) (xs ++ zs) := by
   intro a
   induction a with
   | nil => intro b xs zs h1 h2; rw [RVs_nil h1]; exact h2
   | cons v a ih =>
    intro b xs zs h1 h2
    obtain ⟨y, r, rfl, p, q⟩ := RVs_cons h1
    show RVs Z ρ (v :: (a ++ b)) _
    unfold RVs
    exact ⟨y, r ++ zs, rfl, p, ih q h2⟩
  exact app (RVs.rev b) (by unfold RVs; exact ⟨y, [], rfl, a, by unfold RVs; rfl⟩)
theorem assign_stmt (X : All prog w h₀ n K P C) (S : SI prog w h₀ n I) {ts : List PySem.Expr} {value : PySem.Expr} {pos : Pos} {ks : KS R} {Q : Flow → Shared → Prop}
  (g : okTup ts value = true) (e : I.ev sc lc true hh value (fun v h1 => Mine.assignAll I sc ts v lc h1 fun lc1 h2 => ks .next lc1 h2) = some r) (ok : OkA n A) (Re : Rel h₀ os₀ Z ρ hh s) (F : FrR env sc lc Z ρ s.heap)
  (p : PS h₀ os₀ env sc Z ρ s ks r Q) : wpAny (model prog w) A (exec (.Assign ts value pos) env) Q E s := by
 have fin : PA h₀ os₀ env sc Z ρ s (fun lc1 h2 => ks .next lc1 h2) r (fun _ => Q .next) := fun s' Z' ρ' lc' h' S' R' F' e' => p _ _ _ _ .next _ _ S' R' F' rfl e'
 rw [exec_Assign_arm]
 refine wpAny_bind (wpAny_standAt ?_)
 obtain ⟨b, hb, hb'⟩ := swaps_of F.esc ts value pos.line
 rw [hb]
 refine wpAny_bind (wpAny_pure ?_)
 cases b with
 | true =>
  obtain ⟨y, py, rfl, hc, hy⟩ := hb' rfl
  rw [if_pos rfl]
  have e' : I.ev sc lc true hh value (fun v h1 => (fun lc1 h2 => ks .next lc1 h2) (lset lc y v) h1) = some r := by
   have : (fun (v : V) (h1 : H) => Mine.assignAll I sc [.Name y py] v lc h1 fun lc1 h2 => ks .next lc1 h2) = (fun v h1 => (fun lc1 h2 => ks .next lc1 h2) (lset lc y v) h1) := by
    funext v h1
    simp only [Mine.assignAll, Mine.assign, asgTarget, isLocal, hy, obind]
   rw [this] at e; exact e
  refine wpAny_bind (wpAny_mono (S.use e' hc hy ok Re F fin) (fun _ _ q => wpAny_pure q) fun _ _ q => q)
 | false =>
  rw [if_neg (by decide)]
  refine wpAny_bind (S.ev e ok Re F fun yv s1 Z1 ρ1 v h1 S1 R1 rv1 e1 => ?_)
  rcases swapped_of (env := env) g with q | ⟨elts, c, tp, line, rfl, q, ql, qn⟩
  ·rw [q]
   refine wpAny_bind (wpAny_pure ?_)
   show wpAny (model prog w) A (do PySem.assignAll yv ((assignEach ts env).map (·.2)); pure .next) Q E s1
   refine wpAny_bind (assignAll_snd X S ok e1 rv1 R1 (F.step S1) fun s2 Z2 ρ2 lc2 h2 S2 R2 F2 e2 => wpAny_pure (fin _ _ _ _ _ (S1.widen.trans S2) R2 F2 e2))
  ·rw [q]
   refine wpAny_bind (wpAny_pure ?_)
   simp only [Mine.assignAll, Mine.assign] at e1
   replace e1 := obind_some e1; obtain ⟨lc1, el, e1⟩ := e1
   have key : ∀ {l : List V} {a : Addr} {m : Nat} {ys : List Value}, asgNames sc elts l lc = some lc1 → yv = .ref a → Z1 a = some (tupO ys m) → RVs Z1 ρ1 l ys →
     wpAny (model prog w) A (do rule "assign.swapped-stores"; let items ← unpackItems yv (elts.filterMap (swName env line)).length none; assignInOrder ((elts.filterMap (swName env line)).reverse.map fun n => bindName env n) items.reverse; pure .next) Q E s1 := by
    intro l a m ys el ey hz rl
    subst ey
    obtain ⟨-, -, xs, rfl, hxl⟩ := asgNames_shape (env := env) el
    obtain ⟨q1, q2⟩ := sw_names ql
    obtain ⟨f1, f2, f3⟩ := asg_fold el
    rw [tupNames_map] at qn
    have nd := nodupS_iff qn
    have hyl := rl.length
    rw [q1]
    refine wpAny_bind (wpAny_rule (wpAny_bind ?_))
    have hsz : (xs.map (·.1)).length = ys.toArray.size := by simp [hyl, f3]
    rw [hsz]
    refine wpAny_unpackItems_tuple ok.hand ⟨_, R1.fz _ _ hz, rfl, m, rfl⟩ fun h' he => ?_
    have hk : ∀ b o, s1.heap.get? b = some o → h'.get? b = some o := fun b o eb => he b o (Nat.ne_of_lt (Heap.lt_size eb)) eb
    have hz1 : ((xs.map (·.1)).zip l).map (·.1) = xs.map (·.1) := List.map_fst_zip (by simp [f3])
    have hz2 : ((xs.map (·.1)).zip l).map (·.2) = l := List.map_snd_zip (by simp [f3])
    have e1' : (xs.map (·.1)).reverse = (((xs.map (·.1)).zip l).reverse).map (·.1) := by rw [List.map_reverse, hz1]
    have e2' : RVs Z1 ρ1 ((((xs.map (·.1)).zip l).reverse).map (·.2)) ys.toArray.toList.reverse := by
     rw [List.map_reverse, hz2]; exact rl.rev
    rw [e1']
    have Fk := (F.step S1).step (StpH.kept hk)
    refine wpAny_bind (bind_order (s := { s1 with heap := h' }) (fun p hp => f2 p (List.mem_reverse.mp hp)) e2' (R1.kept hk) Fk fun s2 R2 F2 S2 => wpAny_pure (fin s2 _ _ lc1 _ (S1.widen.trans ((StpH.kept hk).trans S2)) R2 (F2.congr fun y => ?_) e1))
    rw [f1, lget_foldSet _ _ _ (by rw [hz1]; exact nd), lget_foldSet _ _ _ (by rw [List.map_reverse, hz1]; exact (List.reverse_perm _).nodup_iff.mpr nd), lget_rev _ _ (by rw [hz1]; exact nd)]
   unfold asgTarget at el
   dsimp only at el
   split at el
   ·unfold RV RF at rv1
    obtain ⟨a, m, ys, ey, hz, rf⟩ := rv1
    exact key el ey hz rf.toV
   ·unfold RV at rv1
    obtain ⟨a, m, ys, ey, hz, rf⟩ := rv1
    exact key el ey hz rf
   ·cases el
end
end Mine
end
section
set_option maxRecDepth 4000
namespace Mine
open PySem PySem.Calls
variable [Hsh]
section
variable {R : Type} (I : Ev R) (sc : Scope) (t : PySem.Expr) (body : List Stmt)
def fRun (it : It) (m j : Nat) (lc : Lc) (h : H) (k : KS R) : Option R := match it with
 | .fixed l => forFix I sc t body (l.drop j) lc h k
 | .items l => forFix I sc t body (l.drop j) lc h k
 | .live i => forLive I sc t body i m j lc h k
def fuelF (it : It) (m j : Nat) : Prop := match it with
 | .fixed l => l.length < m + j
 | .items l => l.length < m + j
 | .live _ => True
theorem fRun_step {it : It} {m j : Nat} {lc : Lc} {h : H} {k : KS R} {r : R} (e : fRun I sc t body it m j lc h k = some r) (hm : fuelF it m j) :
  (nxOf it j h = some none ∧ k .next lc h = some r) ∨ ∃ v m', nxOf it j h = some (some v) ∧ m = m' + 1 ∧ fuelF it m' (j + 1) ∧
   obind (asgTarget sc t v lc h) (fun lc1 => I.exs sc lc1 h body fun fl lc2 h2 => match fl with
    | .next => fRun I sc t body it m' (j + 1) lc2 h2 k
    | .brk => k .next lc2 h2
    | .ret x => k (.ret x) lc2 h2) = some r := by
 have fix : ∀ l : List V, l.length < m + j → forFix I sc t body (l.drop j) lc h k = some r → (some l[j]? = some none ∧ k .next lc h = some r) ∨ ∃ v m', some l[j]? = some (some v) ∧ m = m' + 1 ∧ l.length < m' + (j + 1) ∧
   obind (asgTarget sc t v lc h) (fun lc1 => I.exs sc lc1 h body fun fl lc2 h2 => match fl with
    | .next => forFix I sc t body (l.drop (j + 1)) lc2 h2 k
    | .brk => k .next lc2 h2
    | .ret x => k (.ret x) lc2 h2) = some r := by
  clear e
  intro l hm e
  by_cases hj : j < l.length
  ·rw [List.drop_eq_getElem_cons hj] at e
   unfold forFix at e
   obtain ⟨m', rfl⟩ : ∃ m', m = m' + 1 := ⟨m - 1, by omega⟩
   exact .inr ⟨l[j], m', by simp [hj], rfl, by omega, e⟩
  ·rw [List.drop_eq_nil_of_le (by omega)] at e
   unfold forFix at e
   exact .inl ⟨by simp; omega, e⟩
 cases it with
 | fixed l => exact fix l hm e
 | items l => exact fix l hm e
 | live i =>
  simp only [fRun] at e
  cases m with
  | zero => cases e
  | succ m =>
   unfold forLive at e
   split at e
   ·rename_i l hl
    split at e
    ·rename_i v hv
     exact .inr ⟨.f v, m, by simp [nxOf, hl, hv], rfl, trivial, e⟩
    ·rename_i hv
     exact .inl ⟨by simp [nxOf, hl, hv], e⟩
   ·cases e
end
section
variable {R : Type} {prog : Program} {w : World} {A : Around} {E : Value → Shared → Prop} {s s' : Shared} {h₀ : Heap} {os₀ : Bg} {Z Z' : Gh} {ρ ρ' : List Addr} {hh h' : H} {env cenv : Env} {sc sc1 : Scope} {lc : Lc}
 {k : KV R} {r : R} {Q : Value → Shared → Prop} {n : Nat} {K : Frag} {P : Prg} {C : Cl R} {I : Ev R} {W : Addr → Prop}
theorem for_loop (S : SI prog w h₀ n I) (ok : OkA n A) {t : PySem.Expr} {body : List Stmt} {it : It} {itv : Value} {St : Nat → Bg → (Addr → Prop) → Heap → Prop} {Z0 : Gh} {ρ0 : List Addr}
  (fd : Feed prog w h₀ A os₀ (needOf it) (nxOf it) itv St Z0 ρ0) (ht : needOf it = true → isTup t = true) {s₁ : Shared} {Z₁ : Gh} {ρ₁ : List Addr} {ks : KS R} {RR : Result → Shared → Prop}
  (dW : ∀ a, W a → ¬ own env a ∧ s₁.heap.get? a = none) (z0 : ∀ a o, Z0 a = some o → Z₁ a = some o) (r0 : ∃ t, ρ₁ = ρ0 ++ t)
  (fin : ∀ f s' Z' ρ' fl lc' h', StpH (own env) Z₁ ρ₁ s₁.heap Z' ρ' s'.heap → Rel h₀ os₀ Z' ρ' h' s' → FrR env sc lc' Z' ρ' s'.heap → RFl Z' ρ' fl f → ks fl lc' h' = some r → fl ≠ .brk → RR (.ok f) s')
  {m : Nat} {lc : Lc} {Z : Gh} {ρ : List Addr} {hh : H} {s : Shared} (e : fRun I sc t body it m 0 lc hh ks = some r) (hm : fuelF it m 0) {b : Bg} (rel : Rel h₀ b Z ρ hh s) (fr : FrR env sc lc Z ρ s.heap) (wok : WOk W Z ρ s.heap) (st : St 0 b W s.heap) (stp : StpH (own env) Z₁ ρ₁ s₁.heap Z ρ s.heap) :
  codeAny (model prog w) A (.forLoop t itv body [] env) RR s := by
 refine codeAny_forLoop_any (fun m s => ∃ j b W lc Z ρ hh, fRun I sc t body it m j lc hh ks = some r ∧ fuelF it m j ∧ Rel h₀ b Z ρ hh s ∧ FrR env sc lc Z ρ s.heap ∧ WOk W Z ρ s.heap ∧ St j b W s.heap ∧ StpH (own env) Z₁ ρ₁ s₁.heap Z ρ s.heap ∧ (∀ a, W a → ¬ own env a ∧ s₁.heap.get? a = none)) ?_ m
  ⟨0, b, W, lc, Z, ρ, hh, e, hm, rel, fr, wok, st, stp, dW⟩
 clear dW
 rintro m s ⟨j, b, W, lc, Z, ρ, hh, e, hm, rel, fr, wok, st, stp, dW⟩
 have zz : ∀ a o, Z0 a = some o → Z a = some o := fun a o q => stp.zz _ _ (z0 _ _ q)
 have rr : ∃ t, ρ = ρ0 ++ t := by
  obtain ⟨t, rfl⟩ := r0
  obtain ⟨t', rfl⟩ := stp.rr
  exact ⟨t ++ t', by simp⟩
 rcases fRun_step I sc t body e hm with ⟨e1, e2⟩ | ⟨v, m', e1, rfl, hm', e2⟩
 ·refine fd.stop e1 st rel wok zz rr fun s2 hk R2 => wpAny_execs_nil ?_
  exact fin .next s2 Z ρ .next lc hh (stp.ext hk (fun a ha => (dW a ha).2)) R2 (fr.ext hk (fun a ha q => (dW a q).1 ha)) rfl e2 nofun
 ·refine fd.item e1 st rel wok zz rr fun y sa Za b2 W2 Sa wn wokA Ra rva _ go => ?_
  have dW2 : ∀ a, W2 a → ¬ own env a ∧ s₁.heap.get? a = none := fun a ha => by
   rcases wn a ha with q | q
   ·exact dW a q
   ·exact ⟨fun e => (by obtain ⟨o, ho⟩ := fr.exists e; rw [q] at ho; cases ho), stp.was_none rel q⟩
  have dl2 : ¬ W2 env.locals := fun q => (dW2 _ q).1 (.inl rfl)
  have dc2 : ∀ x c, env.cells.lookup x = some c → ¬ W2 c := fun x c hc q => (dW2 _ q).1 (.inr ⟨x, hc⟩)
  have dl : ¬ W env.locals := fun q => (dW _ q).1 (.inl rfl)
  have dc : ∀ x c, env.cells.lookup x = some c → ¬ W c := fun x c hc q => (dW _ q).1 (.inr ⟨x, hc⟩)
  have frA := fr.stepR Sa dl dc
  have stpA := stp.transR Sa (fun a ha => (dW a ha).2)
  refine go ht fun sb Sb Rb stB => ?_
  have wokB := wokA.self Sb
  have frB := frA.stepW Sb dl2 dc2
  have stpB := stpA.transW Sb (fun a ha => (dW2 a ha).2)
  replace e2 := obind_some e2; obtain ⟨lc1, el, e2⟩ := e2
  refine asgTarget_snd ok el rva Rb frB fun sc' Rc frC Sc => ?_
  obtain ⟨wokC, keepC⟩ := wokB.step Sc (fun a ha q => (dW2 a ha).1 q)
  refine S.exs e2 ok Rc frC fun f sd Zd ρd fl lcd hd Sd Rd frD rfl' ed => ?_
  obtain ⟨wokD, keepD⟩ := wokC.step Sd (fun a ha q => (dW2 a ha).1 q)
  have stpD := (stpB.trans Sc).trans Sd
  cases fl with
  | next =>
   unfold RFl at rfl'; subst rfl'
   exact ⟨m', by omega, j + 1, b2, W2, lcd, Zd, ρd, hd, ed, hm', Rd, frD, wokD, fd.keep (fd.keep stB keepC) keepD, stpD, dW2⟩
  | brk =>
   unfold RFl at rfl'; subst rfl'
   exact fin .next sd Zd ρd .next lcd hd stpD (fd.weak (fd.keep (fd.keep stB keepC) keepD) Rd) frD rfl ed nofun
  | ret x =>
   have rfl0 := rfl'
   unfold RFl at rfl'
   obtain ⟨yv, rfl, rv⟩ := rfl'
   exact fin _ sd Zd ρd (.ret x) lcd hd stpD (fd.weak (fd.keep (fd.keep stB keepC) keepD) Rd) frD rfl0 ed nofun
theorem for_stmt (X : All prog w h₀ n K P C) (S : SI prog w h₀ n I) {t iter : PySem.Expr} {body : List Stmt} {pos : Pos} {ks : KS R} {Q : Flow → Shared → Prop}
  (e : iterE P I sc lc hh iter (fun it h1 => match it with
  | .fixed l => forFix I sc t body l lc h1 ks
  | .items l => guardB (isTup t) (forFix I sc t body l lc h1 ks)
  | .live i => forLive I sc t body i 100 0 lc h1 ks) = some r) (ok : OkA n A) (Re : Rel h₀ os₀ Z ρ hh s) (F : FrR env sc lc Z ρ s.heap)
  (p : PS h₀ os₀ env sc Z ρ s ks r Q) : wpAny (model prog w) A (exec (.For t iter body [] pos) env) Q E s := by
 have hit := iterE_snd (Q := fun itv s2 => codeAny (model prog w) A (.forLoop t itv body [] env) (fun r s' => match r with | .ok f => Q f s' | .error e => cameBackBy (model prog w) A env E e s') s2) (E := E) X.B S X.HI X.HG X.hg e ok Re F ?_
 ·exact wpAny_For hit.2 hit.1
 intro it s1 Z1 ρ1 h1 S1 R1 e1
 intro itv s2 W St b kept fresh fd wok Rb st
 have F1 := F.step S1
 have base : ∃ m, fRun I sc t body it m 0 lc h1 ks = some r ∧ fuelF it m 0 ∧ (needOf it = true → isTup t = true) := by
  cases it with
  | fixed l => exact ⟨l.length + 1, e1, by unfold fuelF; dsimp only; omega, fun q => by cases q⟩
  | items l =>
   dsimp only at e1
   replace e1 := guardB_some e1; obtain ⟨g, e1⟩ := e1
   exact ⟨l.length + 1, e1, by unfold fuelF; dsimp only; omega, fun _ => g⟩
  | live i => exact ⟨100, e1, trivial, fun q => by cases q⟩
 obtain ⟨m, hrun, hfuel, ht⟩ := base
 refine for_loop S ok fd ht (s₁ := s1) (fun a ha => ⟨fun q => ?_, fresh a ha⟩) (fun _ _ q => q) ⟨[], by simp⟩ (fun f s' Z' ρ' fl lc' h' S' R' F' rf ek hb => p f s' Z' ρ' fl lc' h' (S1.widen.trans S') R' F' rf ek) hrun hfuel Rb (F1.step (StpH.kept kept)) wok st (StpH.kept kept)
 obtain ⟨o, ho⟩ := F1.exists q
 rw [fresh a ha] at ho; cases ho
end
end Mine
end
section
set_option maxRecDepth 4000
namespace Mine
open PySem PySem.Calls
variable [Hsh]
section
variable {R : Type} {prog : Program} {w : World} {A : Around} {E : Value → Shared → Prop} {s s' : Shared} {h₀ : Heap} {os₀ : Bg} {Z Z' : Gh} {ρ ρ' : List Addr} {hh h' : H} {env cenv : Env} {sc sc1 : Scope} {lc : Lc}
 {k : KV R} {r : R} {Q : Value → Shared → Prop} {n : Nat} {K : Frag} {P : Prg} {C : Cl R} {I : Ev R} {W : Addr → Prop}
theorem interactive_no (F : FrR env sc lc Z ρ s.heap) : interactive env = false := by
 unfold interactive
 rw [F.esc, F.kind]; rfl
theorem while_stmt (S : SI prog w h₀ n I) {test : PySem.Expr} {body : List Stmt} {pos : Pos} {ks : KS R} {Q : Flow → Shared → Prop} {m : Nat}
  (e : whileL I sc test body m lc hh ks = some r) (ok : OkA n A) (Re : Rel h₀ os₀ Z ρ hh s) (F : FrR env sc lc Z ρ s.heap)
  (p : PS h₀ os₀ env sc Z ρ s ks r Q) : wpAny (model prog w) A (exec (.While test body [] pos) env) Q E s := by
 refine wpAny_While (codeAny_whileLoop (fun m s2 => ∃ lc Z2 ρ2 hh, whileL I sc test body m lc hh ks = some r ∧ Rel h₀ os₀ Z2 ρ2 hh s2 ∧ FrR env sc lc Z2 ρ2 s2.heap ∧ Stp (own env) Z ρ s Z2 ρ2 s2) ?_ m ⟨lc, Z, ρ, hh, e, Re, F, StpH.refl⟩)
 rintro m s1 ⟨lc, Z1, ρ1, hh, e, R1, F1, S1⟩
 cases m with
 | zero => cases e
 | succ m =>
  unfold whileL at e
  refine S.tst e ok R1 F1 fun b s2 Z2 ρ2 h2 S2 R2 e2 => ?_
  cases b with
  | false =>
   rw [if_neg (by decide)]
   exact wpAny_execs_nil (p _ _ _ _ .next _ _ (S1.trans S2.widen) R2 (F1.step S2) rfl e2)
  | true =>
   rw [if_pos rfl]
   refine S.exs e2 ok R2 (F1.step S2) fun f s3 Z3 ρ3 fl lc3 h3 S3 R3 F3 rf e3 => ?_
   have S13 := (S1.trans S2.widen).trans S3
   cases fl with
   | next =>
    unfold RFl at rf; subst rf
    exact ⟨m, Nat.lt_succ_self _, lc3, Z3, ρ3, h3, e3, R3, F3, S13⟩
   | brk =>
    unfold RFl at rf; subst rf
    exact p _ _ _ _ .next _ _ S13 R3 F3 rfl e3
   | ret x =>
    have rf0 := rf
    unfold RFl at rf
    obtain ⟨y, rfl, rv⟩ := rf
    exact p _ _ _ _ (.ret x) _ _ S13 R3 F3 rf0 e3
theorem ex_snd (X : All prog w h₀ n K P C) (S : SI prog w h₀ n I) {st : Stmt} {ks : KS R} {Q : Flow → Shared → Prop} (h : exStep P I sc lc hh st ks = some r) (ok : OkA n A) (Re : Rel h₀ os₀ Z ρ hh s) (F : FrR env sc lc Z ρ s.heap)
  (p : PS h₀ os₀ env sc Z ρ s ks r Q) : wpAny (model prog w) A (exec st env) Q E s := by
 unfold exStep at h
 split at h
 ·replace h := guardB_some h; obtain ⟨g, h⟩ := h
  exact assign_stmt X S g h ok Re F p
 ·replace h := guardB_some h; obtain ⟨g, h⟩ := h
  replace h := obind_some h; obtain ⟨old, eo, h⟩ := h
  refine wpAny_AugAssign_Name (frame_load F g eo fun yo ro => ?_)
  refine S.ev h ok Re F fun y s1 Z1 ρ1 v h1 S1 R1 rv1 e1 => ?_
  have ro1 := ro.mono S1.zz S1.rr
  have F1 := F.step S1
  have store : ∀ {v' : V} {y' : Value} {tk : Nat} {x : Str}, isLocal sc x = true → RV Z1 ρ1 v' y' → ks .next (lset lc x v') h1 = some r → wpAny (model prog w) A (storeName env x y') (fun _ => Q .next) E { s1 with toks := tk } := fun {v' y' tk x} hx rv' ek =>
   frame_store (s := { s1 with toks := tk }) R1 F1 hx rv' fun s2 R2 F2 S2 => p _ _ _ _ .next _ _ (S1.widen.trans S2) R2 F2 rfl ek
  dsimp only at e1
  split at e1
  ·obtain ⟨t, rfl⟩ := RV_int ro1
   obtain ⟨u, rfl⟩ := RV_int rv1
   exact PySem.P.iadd_int (store g (mkRV_int _ _) e1)
  ·obtain ⟨t, rfl⟩ := RV_int ro1
   obtain ⟨u, rfl⟩ := RV_int rv1
   exact PySem.P.isub_int (store g (mkRV_int _ _) e1)
  ·replace e1 := guardB_some e1; obtain ⟨gs, e1⟩ := e1
   rw [Bool.and_eq_true] at gs
   have g1 := fitS_le gs.1
   have g2 := fitS_le gs.2
   have ll := line_ge
   obtain ⟨t, rfl⟩ := RV_str ro1
   obtain ⟨u, rfl⟩ := RV_str rv1
   exact PyProof.Rows.iadd_str (fun t' tk => store g (mkRV_str _ _) e1) (by omega)
  ·cases e1
 ·replace h := guardB_some h; obtain ⟨g, h⟩ := h
  rename_i e pos
  refine wpAny_Expr_any (S.ev h ok Re F fun y s1 Z1 ρ1 v h1 S1 R1 rv1 e1 => p _ _ _ _ .next _ _ S1.widen R1 (F.step S1) rfl e1) (interactive_no F) ?_
  cases e <;> first | rfl | cases g
 ·refine wpAny_If (S.tst h ok Re F fun b s1 Z1 ρ1 h1 S1 R1 e1 => ?_)
  cases b with
  | true => rw [if_pos rfl]; exact S.exs e1 ok R1 (F.step S1) fun f s' Z' ρ' fl lc' h' S' R' F' rf e' => p _ _ _ _ _ _ _ (S1.widen.trans S') R' F' rf e'
  | false => rw [if_neg (by decide)]; exact S.exs e1 ok R1 (F.step S1) fun f s' Z' ρ' fl lc' h' S' R' F' rf e' => p _ _ _ _ _ _ _ (S1.widen.trans S') R' F' rf e'
 ·exact while_stmt S h ok Re F p
 ·exact for_stmt X S h ok Re F p
 ·exact wpAny_Return_some (S.ev h ok Re F fun y s1 Z1 ρ1 v h1 S1 R1 rv1 e1 => p _ _ _ _ (.ret v) _ _ S1.widen R1 (F.step S1) (by unfold RFl; exact ⟨y, rfl, rv1⟩) e1)
 ·exact wpAny_Break (p _ _ _ _ .brk _ _ StpH.refl Re F rfl h)
 ·cases h
theorem exs_snd (S : SI prog w h₀ n I) {ss : List Stmt} {ks : KS R} {Q : Flow → Shared → Prop} (h : exsStep I sc lc hh ss ks = some r) (ok : OkA n A) (Re : Rel h₀ os₀ Z ρ hh s) (F : FrR env sc lc Z ρ s.heap)
  (p : PS h₀ os₀ env sc Z ρ s ks r Q) : wpAny (model prog w) A (execs ss env) Q E s := by
 cases ss with
 | nil => exact wpAny_execs_nil (p _ _ _ _ .next _ _ StpH.refl Re F rfl h)
 | cons st l =>
  refine wpAny_execs_cons (S.ex h ok Re F fun f s1 Z1 ρ1 fl lc1 h1 S1 R1 F1 rf e1 => ?_)
  cases fl with
  | next =>
   unfold RFl at rf; subst rf
   exact S.exs e1 ok R1 F1 fun f s' Z' ρ' fl lc' h' S' R' F' rf e' => p _ _ _ _ _ _ _ (S1.trans S') R' F' rf e'
  | brk =>
   have rf0 := rf
   unfold RFl at rf; subst rf
   exact p _ _ _ _ .brk _ _ S1 R1 F1 rf0 e1
  | ret x =>
   have rf0 := rf
   unfold RFl at rf
   obtain ⟨y, rfl, rv⟩ := rf
   exact p _ _ _ _ (.ret x) _ _ S1 R1 F1 rf0 e1
theorem evr_sound (X : All prog w h₀ n K P C) : ∀ m, SI prog w h₀ n (evr P C m)
 | 0 => ⟨fun h => (by cases h), fun h => (by cases h), fun h => (by cases h), fun h => (by cases h), fun h => (by cases h), fun h => (by cases h)⟩
 | m + 1 => by
  have S := evr_sound X m
  exact ⟨fun h hc hy _ _ _ _ _ _ _ _ _ ok Re F p => use_snd X S h hc hy ok Re F p, fun h _ _ _ _ _ _ _ _ ok Re F p => ev_snd X S h ok Re F p, fun h _ _ _ _ _ _ _ _ ok Re F p => evs_snd S h ok Re F p,
   fun h _ _ _ _ _ _ _ _ ok Re F p => tst_snd S h ok Re F p, fun h _ _ _ _ _ _ _ _ ok Re F p => ex_snd X S h ok Re F p, fun h _ _ _ _ _ _ _ _ ok Re F p => exs_snd S h ok Re F p⟩
end
end Mine
end
section
set_option maxRecDepth 4000
namespace Mine
open PySem PySem.Calls
variable [Hsh]
def BindOk (prog : Program) (w : World) (h₀ : Heap) (fd : FuncData) (fi : FI) : Prop :=
 ∀ {args kws lc}, bindFI fi args kws = some lc → (lc.map (·.1)).Nodup ∧ (∀ p ∈ lc, isLocal fi.scope p.1 = true) ∧
  ∀ {A : Around} {E : Value → Shared → Prop} {s : Shared} {os₀ : Bg} {Z : Gh} {ρ : List Addr} {hh : H} {xs : List Value} {ks : List (Str × Value)} {Q : List (Str × Value) → Shared → Prop}, Rel h₀ os₀ Z ρ hh s → RVs Z ρ args xs → RKs Z ρ kws ks →
   (∀ binds s' Z', (∀ a o, s.heap.get? a = some o → s'.heap.get? a = some o) → StpH no Z ρ s.heap Z' ρ s'.heap → Rel h₀ os₀ Z' ρ hh s' → RKs Z' ρ lc binds → Q binds s') → wpAny (model prog w) A (bindArgs fd ⟨xs, ks⟩) Q E s
structure FnOk (prog : Program) (w : World) (h₀ : Heap) (a : Addr) (fi : FI) : Prop where
 nolim : h₀.NoLimit
 fn : ∃ o fd, h₀.get? a = some o ∧ o.data = .func fd ∧ fd.body = .stmts fi.body ∧ fd.scope = fi.scope ∧ fd.globals = mainGlobals ∧ fd.builtins = builtinsNs ∧ fd.closure = [] ∧ h₀.CodeRec fd.code fd.qualname ∧ BindOk prog w h₀ fd fi
 plain : fi.scope.isCoroutine = false ∧ fi.scope.isGenerator = false ∧ fi.scope.kind = .function
section
variable {R : Type} {prog : Program} {w : World} {A : Around} {E : Value → Shared → Prop} {s s' : Shared} {h₀ : Heap} {os₀ : Bg} {Z Z' : Gh} {ρ ρ' : List Addr} {hh h' : H} {env cenv : Env} {sc sc1 : Scope} {lc : Lc}
 {k : KV R} {r : R} {Q : Value → Shared → Prop} {n : Nat} {K : Frag} {P : Prg} {C : Cl R} {I : Ev R} {W : Addr → Prop}
theorem cells_look {x : Str} : ∀ {names : List (Str × NameKind)} {lo : Nat} {acc : List (Str × Addr)}, ((acc.lookup x).isSome = true ∨ names.lookup x = some .cell) → ((cellsFrom lo names acc).lookup x).isSome = true
 | [], lo, acc, h => by
  rcases h with h | h
  ·exact h
  ·cases h
 | (y, kd) :: r, lo, acc, h => by
  unfold cellsFrom
  split
  ·rename_i hk
   refine cells_look ?_
   rcases h with h | h
   ·left
    rw [List.lookup_cons]
    split
    ·rfl
    ·exact h
   ·rw [List.lookup_cons] at h
    split at h
    ·rename_i hxy
     left
     rw [List.lookup_cons, hxy]; rfl
    ·exact .inr h
  ·rename_i hk
   refine cells_look ?_
   rcases h with h | h
   ·exact .inl h
   ·rw [List.lookup_cons] at h
    split at h
    ·cases h; exact absurd rfl hk
    ·exact .inr h
theorem binds_rel {kindOf : Str → Option NameKind} : ∀ {l : List (Str × V)} {binds : List (Str × Value)} {acc : Lc} {m cm : Str → Option Value}, RKs Z ρ l binds →
  (∀ x v, kindOf x = some .local → lget acc x = some v → ∃ y, m x = some y ∧ RV Z ρ v y) → (∀ x v, kindOf x ≠ some .local → lget acc x = some v → ∃ y, cm x = some y ∧ RV Z ρ v y) →
  (∀ x v, kindOf x = some .local → lget (foldSet acc l) x = some v → ∃ y, bindL kindOf binds m x = some y ∧ RV Z ρ v y) ∧ (∀ x v, kindOf x ≠ some .local → lget (foldSet acc l) x = some v → ∃ y, bindC kindOf binds cm x = some y ∧ RV Z ρ v y)
 | [], _, acc, m, cm, h, h1, h2 => by cases h; exact ⟨h1, h2⟩
 | (nm, v0) :: l, _, acc, m, cm, h, h1, h2 => by
  cases h with
  | cons hv hr =>
   unfold foldSet bindL bindC
   refine binds_rel hr (fun x v hk hl => ?_) (fun x v hk hl => ?_)
   ·rw [lget_lset] at hl
    by_cases q : nm = x
    ·subst q
     rw [if_pos rfl] at hl; cases hl
     rw [if_pos hk]
     exact ⟨_, if_pos rfl, hv⟩
    ·rw [if_neg q] at hl
     obtain ⟨y, e1, e2⟩ := h1 x v hk hl
     refine ⟨y, ?_, e2⟩
     split
     ·simp [Ne.symm q, e1]
     ·exact e1
   ·rw [lget_lset] at hl
    by_cases q : nm = x
    ·subst q
     rw [if_pos rfl] at hl; cases hl
     rw [if_neg hk]
     exact ⟨_, if_pos rfl, hv⟩
    ·rw [if_neg q] at hl
     obtain ⟨y, e1, e2⟩ := h2 x v hk hl
     refine ⟨y, ?_, e2⟩
     split
     ·exact e1
     ·simp [Ne.symm q, e1]
theorem deeper_ok (ok : OkC (n + 1) A) (env : Env) : OkA n (A.deeper env) := by
 refine ⟨?_, ?_, ok.hand⟩
 ·show A.depth + 1 + 3 * n + 10 ≤ 1000; have := ok.dep; omega
 ·show A.units + 3 + 30 * n + 500 ≤ 9900; have := ok.uni; omega
theorem callFn_snd (X : All prog w h₀ n K P C) (FO : ∀ a fi, P.fn a = some fi → FnOk prog w h₀ a fi) : SCl prog w h₀ (n + 1) (callFn P C) := by
 intro a args kws hh k r e A s os₀ Z ρ xs ks Q ok Re ra rk p
 unfold callFn at e
 replace e := obind_some e; obtain ⟨fi, ef, e⟩ := e
 replace e := obind_some e; obtain ⟨lc, el, e⟩ := e
 obtain ⟨nolim, ⟨o, fd, ho, hd, hb, hs, hg, hbn, hcl, hcd, bind⟩, p1, p2, p3⟩ := FO a fi ef
 obtain ⟨nd, loc, bnd⟩ := bind el
 have up : ∀ {st : Shared}, Rel h₀ os₀ Z ρ hh st → ∀ a o, h₀.get? a = some o → st.heap.get? a = some o := fun R a o q => R.fz _ _ (R.base _ _ q)
 rw [← hs] at p1 p2 p3
 refine codeAny_call_function (by have := ok.dep; show A.depth < 1000; omega) (up Re _ _ ho) hd p1 p2 hb (hcd.keeps (up Re)) (bnd Re ra rk fun binds s1 Z1 kept S1 R1 rb => ?_)
 rw [hcl]
 have up1 : ∀ a o, h₀.get? a = some o → s1.heap.get? a = some o := fun a o q => R1.fz _ _ (R1.base _ _ q)
 refine wpAny_newFunctionEnv_cells p3 (fun x hx => ?_) fun env he s2 ic => ?_
 ·have : ∃ q ∈ lc, q.1 = x.1 := by
   clear bnd loc nd el e
   induction rb with
   | nil => cases hx
   | cons _ _ ih =>
    cases hx with
    | head => exact ⟨_, .head _, rfl⟩
    | tail _ hx => obtain ⟨q, h1, h2⟩ := ih hx; exact ⟨q, .tail _ h1, h2⟩
  obtain ⟨q, hq, hqx⟩ := this
  have hl := isLocal_cases (loc q hq)
  rw [hqx, ← hs] at hl
  unfold kindS at hl
  rw [lget_lookup] at hl
  rcases hl with hl | hl
  ·exact .inl hl
  ·exact .inr ⟨hl, cells_look (.inr hl)⟩
 ·have hL : env.locals = s1.heap.objs.size := by rw [he]; rfl
  have keep2 : ∀ b o, s1.heap.get? b = some o → s2.heap.get? b = some o := ic.toInCall.keep
  have esc : env.scope = fi.scope := by rw [he, ← hs]; rfl
  obtain ⟨hm1, hm2⟩ := binds_rel (kindOf := env.kindOf) (acc := []) (m := fun _ => none) (cm := fun _ => none) rb (fun _ _ _ h => by cases h) (fun _ _ _ h => by cases h)
  have hfold : ∀ y, lget lc y = lget (foldSet [] lc) y := fun y => by
   rw [lget_foldSet _ _ _ nd]
   cases lget lc y <;> rfl
  obtain ⟨hh2, tk2, hsame, -⟩ := ic.done
  have R2 : Rel h₀ os₀ Z1 ρ hh s2 := by
   rw [hsame]
   refine R1.kept (fun b o q => ?_)
   have := keep2 b o q
   rw [hsame] at this; exact this
  have fresh : ∀ c, s1.heap.objs.size ≤ c → Z1 c = none ∧ c ∉ ρ := fun c hc => ⟨R1.freshZ hc, R1.freshR hc⟩
  have fr : FrR env fi.scope lc Z1 ρ s2.heap := by
   refine FrR.congr (lc := foldSet [] lc) ?_ hfold
   refine ⟨esc, by rw [← hs]; exact p3, by rw [he]; exact hg, by rw [he]; exact hbn, ⟨_, ic.toInCall.ns, fun x v hk hl => hm1 x v (by rw [← kindS_eq, esc]; exact hk) hl⟩, fun x hk => ?_, fun x x' c h1 h2 => name_of_addr ic.apart (mem_of_lookup h1) (mem_of_lookup h2), ?_, fun x c hc => ?_⟩
   ·have hk' : fd.scope.names.lookup x = some .cell := by
     rw [hs]; unfold kindS at hk; rw [lget_lookup] at hk; exact hk
    have : (env.cells.lookup x).isSome = true := by
     rw [he]
     exact cells_look (lo := s1.heap.objs.size + 1) (acc := []) (.inr hk')
    obtain ⟨c, hc⟩ := Option.isSome_iff_exists.mp this
    refine ⟨c, _, hc, ic.cell x c hc, fun v hv => hm2 x v ?_ hv⟩
    rw [← kindS_eq, esc, hk]; nofun
   ·rw [hL]; exact fresh _ (Nat.le_refl _)
   ·have hab := ic.above x c (mem_of_lookup hc)
    rw [hL] at hab
    refine ⟨(fresh c (Nat.le_of_lt hab)).1, (fresh c (Nat.le_of_lt hab)).2, fun q => ?_, _, ic.cell x c hc⟩
    rw [q, hL] at hab; exact absurd hab (Nat.lt_irrefl _)
  have ownfresh : ∀ a, own env a → s.heap.get? a = none := fun b hb' => by
   have hle : s1.heap.objs.size ≤ b := by
    rcases hb' with q | ⟨x, q⟩
    ·rw [q, hL]; exact Nat.le_refl _
    ·have := ic.above x b (mem_of_lookup q); rw [hL] at this; exact Nat.le_of_lt this
   cases q : s.heap.get? b with
   | none => rfl
   | some ob => exact absurd (Heap.lt_size (kept _ _ q)) (Nat.not_lt.mpr hle)
  refine ⟨(nolim.keeps fun b o q => keep2 _ _ (up1 b o q)), codeAny_func ?_⟩
  refine (evr_sound X 60).exs e (deeper_ok ok env) R2 fr fun f s3 Z3 ρ3 fl lc3 h3 S3 R3 F3 rf e3 => ?_
  have S03 : StpH no Z ρ s.heap Z3 ρ3 s3.heap := (S1.trans (StpH.kept keep2)).transW S3 ownfresh
  refine ⟨_, rfl, ?_⟩
  cases fl with
  | next => unfold RFl at rf; subst rf; exact retK_snd Re e3 S03 R3 mkRV_none p
  | brk => unfold RFl at rf; subst rf; exact retK_snd Re e3 S03 R3 mkRV_none p
  | ret x =>
   unfold RFl at rf
   obtain ⟨y, rfl, rv⟩ := rf
   exact retK_snd Re e3 S03 R3 rv p
end
end Mine
end
section
set_option maxRecDepth 4000
namespace Mine
open PySem PySem.Calls
variable [Hsh]
theorem Base.off {w : World} {h₀ : Heap} {K : Frag} {P : Prg} (B : Base w h₀ K P) : Base w h₀ K P.off := ⟨B.KX, ⟨B.fct.pl100, B.fct.pl279, B.fct.hd100, B.fct.hd279, B.fct.at100, B.fct.at279, B.fct.sa100, B.fct.sa279, B.fct.po100, B.fct.po279, B.fct.tk100, B.fct.tk279, B.fct.clsS, B.fct.clsT⟩, B.glob, B.fn279, B.keepFn, B.wM, B.hM, B.wMk, B.xM, B.xGet, B.sGet⟩
theorem none_snd {R : Type} {prog : Program} {w : World} {h₀ : Heap} {n : Nat} : SCl (R := R) prog w h₀ n (fun _ _ _ _ _ => none) := fun h => (by cases h)
theorem allOff {R : Type} {prog : Program} {w : World} {h₀ : Heap} {K : Frag} {P : Prg} (B : Base w h₀ K P) (HI : ∀ n, HItems prog w h₀ n) (hg : keepIn K (.ref P.genFn) = true) (n : Nat) : All (R := R) prog w h₀ n K P.off (fun _ _ _ _ _ => none) :=
 ⟨B.off, none_snd, fun h => (by cases h), HI n, fun h => (by cases h), hg⟩
end Mine
end
section
set_option maxRecDepth 4000
namespace Mine
open PySem PySem.Calls
variable [Hsh]
section
variable {prog : Program} {w : World} {A : Around} {E : Value → Shared → Prop} {s s' : Shared} {h₀ : Heap} {os₀ : Bg} {Z Z' : Gh} {ρ ρ' : List Addr} {hh h' : H} {n : Nat}
theorem RKw.pairs (hH : ∀ x, Hsh.hsh x = hashStr w x) : ∀ {l : List (Str × F)} {es : List DictEntry}, RKw Z l es → ∃ kvs : List (Str × Value), Pairs (PySem.strKind prog w) es kvs ∧ (∀ e ∈ es, ∃ k, (PySem.strKind prog w).is k e.key = true ∧ e.hash = (PySem.strKind prog w).hash k) ∧
  kvs.map (·.1) = l.map (·.1) ∧ (∀ (j : Nat) (p : Str × F), l[j]? = some p → ∃ v, kvs[j]? = some (p.1, v) ∧ RF Z p.2 v) ∧ kvs.length = l.length
 | [], _, h => by
  cases h
  exact ⟨[], .nil, fun _ h => (by cases h), rfl, fun j p h => (by simp at h), rfl⟩
 | (x, f) :: l, _, h => by
  cases h with
  | @cons _ _ _ t v es hv hr =>
   obtain ⟨kvs, h1, h2, h3, h4, h5⟩ := RKw.pairs hH hr
   have his : (PySem.strKind prog w).is x (.str x t) = true := by
    show Value.isStrOf x (.str x t) = true
    simp [Value.isStrOf]
   refine ⟨(x, v) :: kvs, .cons his rfl h1, fun e he => ?_, by simp [h3], fun j p hj => ?_, by simp [h5]⟩
   ·cases he with
    | head => exact ⟨x, his, hH x⟩
    | tail _ he => exact h2 e he
   ·cases j with
    | zero => simp at hj; subst hj; exact ⟨v, rfl, hv⟩
    | succ j => exact h4 j p (by simpa using hj)
theorem items_snd (hH : ∀ x, Hsh.hsh x = hashStr w x) : HItems prog w h₀ n := by
 intro A E s os₀ Z ρ hh l x ok Re rv nd
 unfold RV at rv
 obtain ⟨a, m, es, rfl, hsy, hz, rk⟩ := rv
 obtain ⟨kvs, k1, k2, k3, k4, k5⟩ := rk.pairs (prog := prog) (w := w) hH
 have dat : ∀ {h : Heap}, h.get? a = some (dicO es m) → h.DictAt (PySem.strKind prog w) a kvs m := fun {h} e =>
  ⟨_, es.toArray, e, ⟨rfl, rfl, rfl⟩, rfl, fun e he => k2 e (by simpa using he), k1, by rw [k3]; exact nd⟩
 have ha := Re.fz _ _ hz
 have dof : s.heap.DictOf (PySem.strKind prog w) a kvs := by
  obtain ⟨o, es', x1, x2, x3, x4, x5, x6⟩ := dat ha
  exact ⟨o, es', m, x1, x2, x3, x4, x5, x6⟩
 refine ⟨fun q => getMethod_builtin ⟨_, ha, rfl⟩ PySem.F.plainAttrs_dict PySem.F.slot_dict_items PySem.F.type_dict_items (fun b e => by cases e; exact ⟨_, ha, rfl⟩) q, fun {Q} q => ?_⟩
 refine call_meetsIn PySem.F.slot_dict_items ⟨_, ha, rfl⟩ PySem.F.entry_dict_items (PySem.F.args_dict_items_1 _) (meets_dict_items (PySem.strKind prog w) a hsy) ⟨⟨kvs, dof⟩, ?_⟩
 have hv : (s.heap.push { cls := .type "dict_items", data := .fields #[.ref a] }).get? s.heap.objs.size = some { cls := .type "dict_items", data := .fields #[.ref a] } := Heap.get?_push_size _ rfl
 have ha1 := Heap.get?_push_of_some { cls := .type "dict_items", data := .fields #[.ref a] } ha
 refine wpAny_pyIter_items (s := { s with heap := s.heap.push { cls := .type "dict_items", data := .fields #[.ref a] } }) ⟨_, hv, rfl, rfl⟩ (dat ha1) ?_
 dsimp only
 have hsz : (s.heap.push { cls := .type "dict_items", data := .fields #[.ref a] }).objs.size = s.heap.objs.size + 1 := Heap.size_push ..
 rw [hsz]
 have keep : ∀ b p, s.heap.get? b = some p → ((s.heap.push { cls := .type "dict_items", data := .fields #[.ref a] }).push { cls := .type "dict_itemiterator", data := .fields #[.none, .bool false, .ref a, .int 0 0, .int kvs.length 0, .int m 0, .none, .none] }).get? b = some p :=
  fun b p e => Heap.get?_push_of_some _ (Heap.get?_push_of_some _ e)
 have hg : ((s.heap.push { cls := .type "dict_items", data := .fields #[.ref a] }).push { cls := .type "dict_itemiterator", data := .fields #[.none, .bool false, .ref a, .int 0 0, .int kvs.length 0, .int m 0, .none, .none] }).get? (s.heap.objs.size + 1)
   = some { cls := .type "dict_itemiterator", data := .fields #[.none, .bool false, .ref a, .int 0 0, .int kvs.length 0, .int m 0, .none, .none] } := by rw [← hsz]; exact Heap.get?_push_size _ rfl
 refine q _ _ (· = s.heap.objs.size + 1) (St1 os₀ (s.heap.objs.size + 1) fun j h => ∃ ok ov, IsItemIter h (s.heap.objs.size + 1) a j kvs.length m ok ov) os₀ keep (fun b hb => ?_) (feed_one (fun st hk => ?_) (fun q => (by cases q)) ?_ ?_) (fun b hb => ?_) (Re.kept keep) ⟨rfl, rfl, .none, .none, hg⟩
 ·subst hb
  cases e : s.heap.get? (s.heap.objs.size + 1) with
  | none => rfl
  | some o => exact absurd (Heap.lt_size e) (Nat.not_lt.mpr (Nat.le_succ _))
 ·obtain ⟨ok', ov, hi⟩ := st
  exact ⟨ok', ov, hk _ hi⟩
 ·intro j v hh' s1 Z1 ρ1 E1 Q1 e st R1 wk hz1 hr1 q1
  obtain ⟨ok', ov, hi⟩ := st
  simp only [nxOf, Option.some.injEq, List.getElem?_map, Option.map_eq_some_iff] at e
  obtain ⟨p, hp, rfl⟩ := e
  obtain ⟨vv, hk1, hk2⟩ := k4 j p hp
  refine wpAny_pyNext_items_item hi (dat (R1.fz _ _ (hz1 _ _ hz))) hk1 fun key h' hkey ho ht hs' hk' => ?_
  obtain ⟨t, rfl⟩ := Value.isStrOf_shape hkey
  have zI := wk _ rfl
  have zT : Z1 s1.heap.objs.size = none ∧ s1.heap.objs.size ∉ ρ1 := ⟨R1.freshZ (Nat.le_refl _), R1.freshR (Nat.le_refl _)⟩
  have R2 : Rel h₀ os₀ Z1 ρ1 hh' { s1 with heap := h' } := R1.agree fun b hb => by
   have nb : b ≠ s.heap.objs.size + 1 := fun e => by
    subst e
    rcases hb with x | x
    ·exact x zI.2.1
    ·exact zI.2.2 x
   have ex : ∃ o, s1.heap.get? b = some o := by
    rcases hb with x | x
    ·cases e : Z1 b with
     | none => exact absurd e x
     | some o => exact ⟨o, R1.fz _ _ e⟩
    ·obtain ⟨i, hi', e⟩ := List.getElem_of_mem x
     obtain ⟨a', e1, e2⟩ := R1.objs i _ (List.getElem?_eq_getElem (R1.len ▸ hi'))
     have : a' = b := by
      obtain ⟨_, q⟩ := List.getElem?_eq_some_iff.mp e1
      rw [← q, e]
     subst this
     cases hO : hh'[i]'(R1.len ▸ hi') with
     | list l => rw [hO] at e2; obtain ⟨n, vs, q, _⟩ := e2; exact ⟨_, q⟩
     | locs l => rw [hO] at e2; obtain ⟨n, vs, q, _⟩ := e2; exact ⟨_, q⟩
     | attrs l => rw [hO] at e2; obtain ⟨n, vs, q, _⟩ := e2; exact ⟨_, q⟩
   obtain ⟨o, eo⟩ := ex
   rw [eo]; exact hk' _ _ nb eo
  have R3 := R2.freeze1 (o := tupO [.str p.1 t, vv] 0) ht zT.1 zT.2
  have S3 : StpH (· = s.heap.objs.size + 1) Z1 ρ1 s1.heap (put Z1 s1.heap.objs.size (tupO [.str p.1 t, vv] 0)) ρ1 h' := by
   refine ⟨put_zz zT.1 _, ⟨[], by simp⟩, fun b o e z r nx => ⟨hk' _ _ nx e, ?_, r⟩, fun b hb l z r => ?_⟩
   ·rw [put_ne _ _ (Nat.ne_of_lt (Heap.lt_size e))]; exact z
   ·obtain ⟨o, e⟩ := l
    subst hb
    exact ⟨⟨_, ho⟩, by rw [put_ne _ _ (Nat.ne_of_lt (Heap.lt_size e))]; exact z, r⟩
  refine q1 _ { s1 with heap := h' } _ os₀ (· = s.heap.objs.size + 1) S3.r (fun _ h => .inl h) (wk.self S3) R3 ?_ (fun q => (by cases q)) fun {target E2 Q2} ht2 q2 => ?_
  ·unfold RV RF
   refine ⟨_, 0, _, rfl, put_self _ _ _, ?_⟩
   unfold RFs
   exact ⟨_, _, rfl, by unfold RF; exact ⟨t, rfl⟩, RFs.one (RF.mono (fun b o e => put_zz zT.1 _ _ _ (hz1 _ _ e)) hk2)⟩
  ·have := ht2 rfl
   cases target with
   | Tuple elts c pos =>
    refine wpAny_letOwnedTupleGo_items (s := { s1 with heap := h' }) ho fun h2 he2 hs2 => ?_
    have zI3 := S3.keepX _ rfl zI.1 zI.2.1 zI.2.2
    exact q2 _ (StpH.one hs2 ⟨_, he2⟩) (R3.frame zI3.2.1 zI3.2.2 hs2) ⟨rfl, rfl, _, _, he2⟩
   | _ => cases this
 ·intro j hh' s1 Z1 ρ1 E1 Q1 e st R1 wk hz1 hr1 q1
  obtain ⟨ok', ov, hi⟩ := st
  simp only [nxOf, Option.some.injEq, List.getElem?_map, Option.map_eq_none_iff] at e
  have hj : kvs[j]? = none := by
   have := List.getElem?_eq_none_iff.mp e
   exact List.getElem?_eq_none_iff.mpr (by omega)
  exact wpAny_pyNext_items_end ok.hand hi (dat (R1.fz _ _ (hz1 _ _ hz))) hj fun h' hs => one_stop R1 wk hs q1
 ·subst hb
  exact ⟨⟨_, hg⟩, Re.freshZ (Nat.le_succ _), Re.freshR (Nat.le_succ _)⟩
end
end Mine
end
section
set_option maxRecDepth 4000
namespace Mine
open PySem PySem.Calls
variable [Hsh]
section
variable {R : Type} {prog : Program} {w : World} {A : Around} {E : Value → Shared → Prop} {s s' : Shared} {h₀ : Heap} {os₀ : Bg} {Z Z' : Gh} {ρ ρ' : List Addr} {hh h' : H} {env cenv : Env} {sc sc1 : Scope} {lc : Lc}
 {k : KV R} {r : R} {Q : Value → Shared → Prop} {n : Nat} {K : Frag} {P : Prg} {C : Cl R} {I : Ev R} {W : Addr → Prop}
theorem enter_snd {a : Addr} {fi : FI} {args : List V} {kws : List (Str × V)} {xs : List Value} {ks : List (Str × Value)} {QR : Value → Shared → Prop} (FO : FnOk prog w h₀ a fi) (el : bindFI fi args kws = some lc) (hdep : A.depth < 1000)
  (Re : Rel h₀ os₀ Z ρ hh s) (ra : RVs Z ρ args xs) (rk : RKs Z ρ kws ks)
  (go : ∀ {E : Value → Shared → Prop} env s2 Z1, Rel h₀ os₀ Z1 ρ hh s2 → FrR env fi.scope lc Z1 ρ s2.heap → StpH no Z ρ s.heap Z1 ρ s2.heap → (∀ a, own env a → s.heap.get? a = none) →
   wpAny (model prog w) (A.deeper env) (execs fi.body env) (fun f s3 => QR (match f with | .ret v => v | _ => .none) s3) E s2) :
  codeAny (model prog w) A (.call (.ref a) ⟨xs, ks⟩) (RetQ QR) s := by
 obtain ⟨nolim, ⟨o, fd, ho, hd, hb, hs, hg, hbn, hcl, hcd, bind⟩, p1, p2, p3⟩ := FO
 obtain ⟨nd, loc, bnd⟩ := bind el
 have up : ∀ {st : Shared}, Rel h₀ os₀ Z ρ hh st → ∀ a o, h₀.get? a = some o → st.heap.get? a = some o := fun R a o q => R.fz _ _ (R.base _ _ q)
 rw [← hs] at p1 p2 p3
 refine codeAny_call_function (hdep) (up Re _ _ ho) hd p1 p2 hb (hcd.keeps (up Re)) (bnd Re ra rk fun binds s1 Z1 kept S1 R1 rb => ?_)
 rw [hcl]
 have up1 : ∀ a o, h₀.get? a = some o → s1.heap.get? a = some o := fun a o q => R1.fz _ _ (R1.base _ _ q)
 refine wpAny_newFunctionEnv_cells p3 (fun x hx => ?_) fun env he s2 ic => ?_
 ·have : ∃ q ∈ lc, q.1 = x.1 := by
   clear bnd loc nd el go
   induction rb with
   | nil => cases hx
   | cons _ _ ih =>
    cases hx with
    | head => exact ⟨_, .head _, rfl⟩
    | tail _ hx => obtain ⟨q, h1, h2⟩ := ih hx; exact ⟨q, .tail _ h1, h2⟩
  obtain ⟨q, hq, hqx⟩ := this
  have hl := isLocal_cases (loc q hq)
  rw [hqx, ← hs] at hl
  unfold kindS at hl
  rw [lget_lookup] at hl
  rcases hl with hl | hl
  ·exact .inl hl
  ·exact .inr ⟨hl, cells_look (.inr hl)⟩
 ·have hL : env.locals = s1.heap.objs.size := by rw [he]; rfl
  have keep2 : ∀ b o, s1.heap.get? b = some o → s2.heap.get? b = some o := ic.toInCall.keep
  have esc : env.scope = fi.scope := by rw [he, ← hs]; rfl
  obtain ⟨hm1, hm2⟩ := binds_rel (kindOf := env.kindOf) (acc := []) (m := fun _ => none) (cm := fun _ => none) rb (fun _ _ _ h => by cases h) (fun _ _ _ h => by cases h)
  have hfold : ∀ y, lget lc y = lget (foldSet [] lc) y := fun y => by
   rw [lget_foldSet _ _ _ nd]
   cases lget lc y <;> rfl
  obtain ⟨hh2, tk2, hsame, -⟩ := ic.done
  have R2 : Rel h₀ os₀ Z1 ρ hh s2 := by
   rw [hsame]
   refine R1.kept (fun b o q => ?_)
   have := keep2 b o q
   rw [hsame] at this; exact this
  have fresh : ∀ c, s1.heap.objs.size ≤ c → Z1 c = none ∧ c ∉ ρ := fun c hc => ⟨R1.freshZ hc, R1.freshR hc⟩
  have fr : FrR env fi.scope lc Z1 ρ s2.heap := by
   refine FrR.congr (lc := foldSet [] lc) ?_ hfold
   refine ⟨esc, by rw [← hs]; exact p3, by rw [he]; exact hg, by rw [he]; exact hbn, ⟨_, ic.toInCall.ns, fun x v hk hl => hm1 x v (by rw [← kindS_eq, esc]; exact hk) hl⟩, fun x hk => ?_, fun x x' c h1 h2 => name_of_addr ic.apart (mem_of_lookup h1) (mem_of_lookup h2), ?_, fun x c hc => ?_⟩
   ·have hk' : fd.scope.names.lookup x = some .cell := by
     rw [hs]; unfold kindS at hk; rw [lget_lookup] at hk; exact hk
    have : (env.cells.lookup x).isSome = true := by
     rw [he]
     exact cells_look (lo := s1.heap.objs.size + 1) (acc := []) (.inr hk')
    obtain ⟨c, hc⟩ := Option.isSome_iff_exists.mp this
    refine ⟨c, _, hc, ic.cell x c hc, fun v hv => hm2 x v ?_ hv⟩
    rw [← kindS_eq, esc, hk]; nofun
   ·rw [hL]; exact fresh _ (Nat.le_refl _)
   ·have hab := ic.above x c (mem_of_lookup hc)
    rw [hL] at hab
    refine ⟨(fresh c (Nat.le_of_lt hab)).1, (fresh c (Nat.le_of_lt hab)).2, fun q => ?_, _, ic.cell x c hc⟩
    rw [q, hL] at hab; exact absurd hab (Nat.lt_irrefl _)
  have ownfresh : ∀ a, own env a → s.heap.get? a = none := fun b hb' => by
   have hle : s1.heap.objs.size ≤ b := by
    rcases hb' with q | ⟨x, q⟩
    ·rw [q, hL]; exact Nat.le_refl _
    ·have := ic.above x b (mem_of_lookup q); rw [hL] at this; exact Nat.le_of_lt this
   cases q : s.heap.get? b with
   | none => rfl
   | some ob => exact absurd (Heap.lt_size (kept _ _ q)) (Nat.not_lt.mpr hle)
  refine ⟨(nolim.keeps fun b o q => keep2 _ _ (up1 b o q)), codeAny_func ?_⟩
  have ownfresh' : ∀ b, own env b → s.heap.get? b = none := ownfresh
  refine wpAny_mono (go (E := fun _ _ => False) env s2 Z1 R2 fr (S1.trans (StpH.kept keep2)) ownfresh') (fun f s3 q => ⟨_, rfl, q⟩) fun _ _ h => h.elim
end
end Mine
end
section
set_option maxRecDepth 4000
namespace Mine
open PySem PySem.Calls
variable [Hsh]
structure HdrFct (K : Frag) : Prop where
 mkI : makesIn K 279 = true
 init : findIn K (.ref 279) "__init__" = some (some (.ref 173))
 isf : typeIn K (.ref 173) = some (.type "function")
def hs1 : Stmt := match fiHInit.body with | a :: _ => a | [] => default
def hs2 : Stmt := match fiHInit.body with | _ :: a :: _ => a | _ => default
def hs3 : Stmt := match fiHInit.body with | _ :: _ :: a :: _ => a | _ => default
def hs4 : Stmt := match fiHInit.body with | _ :: _ :: _ :: a :: _ => a | _ => default
theorem hs_all : fiHInit.body = [hs1, hs2, hs3, hs4] := by kernel_rfl
def aP1 : Stmt → Pos
 | .Assign [.Attribute (.Name _ p) _ _] _ _ => p
 | _ => default
def aP2 : Stmt → Pos
 | .Assign [.Attribute _ _ p] _ _ => p
 | _ => default
def aP3 : Stmt → Pos
 | .Assign _ (.Name _ p) _ => p
 | _ => default
def aP4 : Stmt → Pos
 | .Assign _ _ p => p
 | _ => default
theorem hs3_eq : hs3 = .Assign [.Attribute (.Name "self" (aP1 hs3)) "_headers" (aP2 hs3)] (.Name "headers" (aP3 hs3)) (aP4 hs3) := by kernel_rfl
abbrev R3 : Type := Fl × Lc × H
def hl1 (x : Value) : Lc := [("self", .raw x), ("headers", .f .none)]
def hl2 (x : Value) (i : Nat) : Lc := [("self", .raw x), ("headers", .loc i)]
abbrev k3 : KS R3 := fun fl lc h => some (fl, lc, h)
def noC : Cl R3 := fun _ _ _ _ _ => none
theorem hs1_ok (x : Value) (hh : H) : (evr (R := R3) Pr.off noC 60).ex fiHInit.scope (hl1 x) hh hs1 k3 = some (Fl.next, hl2 x hh.length, hh ++ [O.list []]) := by
 kernel_rfl
theorem hs2_eq (x : Value) (i : Nat) (hh : H) : (evr (R := R3) Pr.off noC 60).ex fiHInit.scope (hl2 x i) hh hs2 k3 =
  (match hh[i]? with | some (.list _) => some (Fl.next, hl2 x i, hh) | _ => none) := by
 kernel_rfl
def ifHead : Stmt → Stmt
 | .If _ (b :: _) _ _ => b
 | _ => default
def forT : Stmt → PySem.Expr
 | .For t _ _ _ _ => t
 | _ => .Tuple [] 0 default
def forB : Stmt → List Stmt
 | .For _ _ b _ _ => b
 | _ => []
def forI : Stmt → Pos
 | .For _ (.Name _ p) _ _ _ => p
 | _ => default
def forP : Stmt → Pos
 | .For _ _ _ _ p => p
 | _ => default
theorem hs4_eq (x : Value) (i : Nat) (hh : H) : (evr (R := R3) Pr.off noC 60).ex fiHInit.scope (hl2 x i) hh hs4 k3 =
  (evr (R := R3) Pr.off noC 58).ex fiHInit.scope (hl2 x i) hh (.For (forT (ifHead hs4)) (.Name "headers" (forI (ifHead hs4))) (forB (ifHead hs4)) [] (forP (ifHead hs4))) (fun fl lc1 h1 => match fl with
    | .next => k3 .next lc1 h1
    | .brk => k3 .brk lc1 h1
    | .ret v => k3 (.ret v) lc1 h1) := by
 kernel_rfl
theorem for_empty {R : Type} {P : Prg} {C : Cl R} {m : Nat} {sc : Scope} {lc : Lc} {h : H} {t : PySem.Expr} {x : Str} {p pos : Pos} {body : List Stmt} {i : Nat} {k : KS R} (hn : nameV P sc lc x = some (.loc i)) (hi : h[i]? = some (.list [])) :
  (evr P C (m + 2)).ex sc lc h (.For t (.Name x p) body [] pos) k = k .next lc h := by
 have e1 : (evr P C (m + 2)).ex = exStep P (evr P C (m + 1)) := rfl
 rw [e1]
 unfold exStep iterE
 dsimp only
 have he : ∀ (k' : KV R), (evr P C (m + 1)).ev sc lc false h (.Name x p) k' = k' (.loc i) h := fun k' => by
  show obind (nameV P sc lc x) (fun v => k' v h) = _
  rw [hn]; rfl
 rw [he]
 simp only [guardB, obind, iterIt, hi, notSet]
 unfold forLive
 simp only [hi, List.getElem?_nil]
theorem hs4_ok (x : Value) (i : Nat) (hh : H) (hi : hh[i]? = some (.list [])) : (evr (R := R3) Pr.off noC 60).ex fiHInit.scope (hl2 x i) hh hs4 k3 = some (Fl.next, hl2 x i, hh) := by
 rw [hs4_eq, for_empty (m := 56) (by kernel_rfl) hi]
end Mine
end
section
set_option maxRecDepth 4000
namespace Mine
open PySem PySem.Calls
variable [Hsh]
section
variable {prog : Program} {w : World} {A : Around} {E : Value → Shared → Prop} {s s' : Shared} {h₀ : Heap} {os₀ : Bg} {Z Z' : Gh} {ρ ρ' : List Addr} {hh h' : H} {env cenv : Env} {sc sc1 : Scope} {lc : Lc}
 {Q : Value → Shared → Prop} {n : Nat} {K : Frag} {P : Prg} {W : Addr → Prop}
theorem k3_some {fl fl' : Fl} {lc lc' : Lc} {h h' : H} (e : k3 fl lc h = some (fl', lc', h')) : fl = fl' ∧ lc = lc' ∧ h = h' := by
 cases e; exact ⟨rfl, rfl, rfl⟩
theorem hs3_snd (B : Base w h₀ K P) {x d : Addr} {i : Nat} {Q : Flow → Shared → Prop} (Re : Rel h₀ os₀ Z ρ hh s) (F : FrR env fiHInit.scope (hl2 (.ref x) i) Z ρ s.heap) (hx : Z x = some (insO 279 d)) (hd : s.heap.get? d = some (dicO [] 0))
  (q : ∀ l h' tk hs t m, ρ[i]? = some l → Heap.SameBut d s.heap h' → h'.get? d = some (dicO [⟨hs, .str "_headers" t, .ref l⟩] m) → Q .next { s with heap := h', toks := tk }) :
  wpAny (model prog w) A (exec hs3 env) Q E s := by
 have n1 : nameV P fiHInit.scope (hl2 (.ref x) i) "headers" = some (.loc i) := by kernel_rfl
 have n2 : nameV P fiHInit.scope (hl2 (.ref x) i) "self" = some (.raw (.ref x)) := by kernel_rfl
 rw [hs3_eq, exec_Assign_arm]
 refine wpAny_bind (wpAny_standAt ?_)
 obtain ⟨b, hb, hb'⟩ := swaps_of F.esc [.Attribute (.Name "self" (aP1 hs3)) "_headers" (aP2 hs3)] (.Name "headers" (aP3 hs3)) (aP4 hs3).line
 rw [hb]
 refine wpAny_bind (wpAny_pure ?_)
 cases b with
 | true => obtain ⟨y, py, q, _⟩ := hb' rfl; cases q
 | false =>
  rw [if_neg (by decide)]
  refine wpAny_bind (name_snd B n1 Re F fun yv rv1 => ?_)
  unfold RV at rv1
  obtain ⟨l, rfl, hl⟩ := rv1
  rcases swapped_of (env := env) (ts := [.Attribute (.Name "self" (aP1 hs3)) "_headers" (aP2 hs3)]) (value := .Name "headers" (aP3 hs3)) rfl with q' | ⟨elts, c, tp, line, q', _⟩
  ·rw [q']
   refine wpAny_bind (wpAny_pure ?_)
   show wpAny (model prog w) A (do PySem.assign (.Attribute (.Name "self" (aP1 hs3)) "_headers" (aP2 hs3)) env (.ref l); pure .next) Q E s
   refine wpAny_bind ?_
   rw [arm_assign_Attribute]
   refine wpAny_bind (wpAny_holding (name_snd B n2 Re F fun yo rv2 => ?_))
   unfold RV at rv2
   subst rv2
   refine wpAny_bind (wpAny_standAt (wpAny_bind (wpAny_holding (set_attr (B.KS Re) (Re.fz _ _ hx) hd B.fct.sa279 B.fct.po279 B.fct.tk279 B.fct.hd279 rfl (by decide) fun h' tk t' hs hg => ?_))))
   obtain ⟨m', hg⟩ := hg
   refine wpAny_release (wpAny_pure (q l h' tk _ t' m' hl hs hg))
  ·cases q'
theorem hdr_snd (B : Base w h₀ K Pr) (HI : ∀ n, HItems prog w h₀ n) (hg : keepIn K (.ref Pr.genFn) = true) (HF : HdrFct K) (FO : FnOk prog w h₀ 173 fiHInit) : HdrOk prog w h₀ (n + 1) := by
 intro A s os₀ Z ρ hh Q ok Re p
 have KS := B.KS Re
 obtain ⟨hp, g, dr, tk, os⟩ := s
 refine make_core (makes_of KS HF.mkI) (looks_findIn KS HF.init) (fun self => bind_fn KS self HF.isf) (.inl rfl) ?_
 have kd : ∀ b o, hp.get? b = some o → (hp.push emptyDict).get? b = some o := fun b o e => Heap.get?_push_of_some _ e
 have Re' : RelH h₀ os₀ Z ρ hh hp g os := Re
 have R1 : RelH h₀ os₀ Z ρ hh (hp.push emptyDict) g os := Re'.kept kd
 have S1 : StpH no Z ρ hp Z ρ (hp.push emptyDict) := StpH.kept kd
 obtain ⟨R2, S2⟩ := R1.push (o := instObj 279 hp.objs.size) rfl
 have hsz : (hp.push emptyDict).objs.size = hp.objs.size + 1 := Heap.size_push ..
 rw [hsz] at R2 S2
 generalize hxx : hp.objs.size + 1 = x at R2 S2 ⊢
 generalize hdd : hp.objs.size = d at R2 S2 hxx ⊢
 have freshd : hp.get? d = none := by
  cases e : hp.get? d with
  | none => rfl
  | some o => exact absurd (Heap.lt_size e) (Nat.not_lt.mpr (Nat.le_of_eq hdd))
 have zd0 : Z d = none := Re'.freshZ (Nat.le_of_eq hdd)
 have rd0 : d ∉ ρ := Re'.freshR (Nat.le_of_eq hdd)
 have dx : d ≠ x := by rw [← hxx]; exact (Nat.succ_ne_self d).symm
 have zx : put Z x (instObj 279 d) x = some (insO 279 d) := put_self _ _ _
 generalize hZ2 : put Z x (instObj 279 d) = Z2 at R2 S2 zx
 have zd2 : Z2 d = none := by rw [← hZ2, put_ne _ _ dx]; exact zd0
 have hd2 : ((hp.push emptyDict).push (instObj 279 d)).get? d = some (dicO [] 0) := by
  refine Heap.get?_push_of_some _ ?_
  rw [← hdd]; exact Heap.get?_push_size _ rfl
 have SA := S1.trans S2
 have hdep : (A.under (.builtin "type.__call__" ⟨[.ref 279], []⟩)).depth = A.depth + 1 := rfl
 have huni : (A.under (.builtin "type.__call__" ⟨[.ref 279], []⟩)).units = A.units + 1 := rfl
 refine codeAny_mono (enter_snd (s := ⟨(hp.push emptyDict).push (instObj 279 d), g, dr, tk, os⟩) (hh := hh) (args := [.raw (.ref x)]) (kws := []) (QR := fun y s' => y = .none ∧ Q (.ref x) s') (lc := hl1 (.ref x)) FO (by kernel_rfl)
  (by rw [hdep]; have := ok.dep; omega) R2 (by unfold RVs; exact ⟨_, _, rfl, by unfold RV; rfl, by unfold RVs; rfl⟩) .nil fun {E} env s3 Z3 R3 F3 S3 fresh => ?_) fun rr s' q => ?_
 ·have X0 := allOff (R := Mine.R3) (prog := prog) (w := w) B HI hg 0
  have S := evr_sound X0 60
  have ok0 : OkA 0 ((A.under (.builtin "type.__call__" ⟨[.ref 279], []⟩)).deeper env) := by
   refine ⟨?_, ?_, ok.hand⟩
   ·show A.depth + 1 + 1 + 3 * 0 + 10 ≤ 1000; have := ok.dep; omega
   ·show A.units + 1 + 3 + 30 * 0 + 500 ≤ 9900; have := ok.uni; omega
  have nd : ¬ own env d := fun q => by have := fresh d q; dsimp only at this; rw [hd2] at this; cases this
  have fr0 : ∀ a, own env a → hp.get? a = none := fun a ha => by
   cases e : hp.get? a with
   | none => rfl
   | some o => have := fresh a ha; dsimp only at this; rw [Heap.get?_push_of_some _ (kd _ _ e)] at this; cases this
  have SB := SA.trans S3
  have d3 := S3.rest d _ hd2 zd2 rd0 (fun q => q)
  rw [hs_all]
  refine wpAny_execs_cons (S.ex (hs1_ok (.ref x) hh) ok0 R3 F3 fun f s4 Z4 ρ4 fl lc4 h4 S4 R4 F4 rf e4 => ?_)
  obtain ⟨rfl, rfl, rfl⟩ := k3_some e4
  unfold RFl at rf; subst rf
  have SC := SB.transW S4 fr0
  have d4 := S4.rest d _ d3.1 d3.2.1 d3.2.2 nd
  have hi2 : (hh ++ [O.list []])[hh.length]? = some (.list []) := by simp
  have e2 : (evr (R := Mine.R3) Pr.off noC 60).ex fiHInit.scope (hl2 (.ref x) hh.length) (hh ++ [O.list []]) hs2 k3 = some (Fl.next, hl2 (.ref x) hh.length, hh ++ [O.list []]) := by
   rw [hs2_eq, hi2]
  refine wpAny_execs_cons (S.ex e2 ok0 R4 F4 fun f s5 Z5 ρ5 fl lc5 h5 S5 R5 F5 rf e5 => ?_)
  obtain ⟨rfl, rfl, rfl⟩ := k3_some e5
  unfold RFl at rf; subst rf
  have SD := SC.transW S5 fr0
  have d5 := S5.rest d _ d4.1 d4.2.1 d4.2.2 nd
  have zx5 : Z5 x = some (insO 279 d) := S5.zz _ _ (S4.zz _ _ (S3.zz _ _ zx))
  refine wpAny_execs_cons (hs3_snd B R5 F5 zx5 d5.1 fun l h' tk' hs t m hl hsb hg' => ?_)
  have R6 : Rel h₀ os₀ Z5 ρ5 (hh ++ [O.list []]) { s5 with heap := h', toks := tk' } := R5.frame d5.2.1 d5.2.2 hsb
  have S6 : StpH (· = d) Z5 ρ5 s5.heap Z5 ρ5 h' := StpH.one hsb ⟨_, hg'⟩
  have F6 := F5.stepW S6 (fun q => nd (.inl q.symm)) (fun y c hc q => nd (.inr ⟨y, by rw [← q]; exact hc⟩))
  have SE := SD.transW S6 (fun a ha => by subst ha; exact freshd)
  refine wpAny_execs_cons (S.ex (hs4_ok (.ref x) hh.length _ hi2) ok0 R6 F6 fun f s7 Z7 ρ7 fl lc7 h7 S7 R7 F7 rf e7 => ?_)
  obtain ⟨rfl, rfl, rfl⟩ := k3_some e7
  unfold RFl at rf; subst rf
  have SF := SE.transW S7 fr0
  have d7 := S7.rest d _ hg' d5.2.1 d5.2.2 nd
  refine wpAny_execs_nil ⟨rfl, ?_⟩
  obtain ⟨t', ht'⟩ := S7.rr
  refine p _ s7 _ ρ7 (SF.freeze1 d7.2.1 freshd) (R7.freeze1 d7.1 d7.2.1 d7.2.2) ?_
  unfold RV
  refine ⟨x, d, l, hs, t, m, rfl, put_zz d7.2.1 _ _ _ (S7.zz _ _ zx5), put_self _ _ _, ?_⟩
  rw [ht', List.getElem?_append_left (List.getElem?_eq_some_iff.mp hl).1]; exact hl
 ·obtain ⟨v, rfl, rfl, q⟩ := q
  exact ⟨rfl, _, rfl, q⟩
end
end Mine
end
section
set_option maxRecDepth 4000
namespace Mine
open PySem PySem.Calls
open PySem.W.X (SegX)
section
variable {M : Model} {A : Around} {c : Code} {fs : List Frame} {P : End → Shared → Prop} {s : Shared} {env : Env}
 {K : Flow → Sem Fin} {H : Value → Sem Fin} {gd : Bool → Bool} {lv : List Value → List Value}
theorem sx_wrap {α : Type} {m : Sem α} {K : α → Sem Fin} {H : Value → Sem Fin} {gd : Bool → Bool} {lv : List Value → List Value}
  (h : wpAny M (A.over c fs) m (fun a s' => SegX M A c (K a) fs s' P) (fun x s' => SegX M A c (H x) fs s' P) s) : SegX M A c (m.wrap K H gd lv) fs s P := by
 rintro Γ p rfl hΓ
 obtain ⟨e, s', hr, hq⟩ := runs_wrap_of_wp (Φ := fun e s' => e.quiet = true ∧ P e s') K H gd lv m (h (Γ.over fs) p (hΓ.over fs)) (fun a p' s' h' => h' Γ p' rfl hΓ) (fun x p' s' h' => h' Γ p' rfl hΓ)
 exact ⟨e, s', hr, hq⟩
theorem sx_bind {α β : Type} {m : Sem α} {K : α → Sem β} {K' : β → Sem Fin} {H' : Value → Sem Fin} {gd : Bool → Bool} {lv : List Value → List Value}
  (h : wpAny M (A.over c fs) m (fun a s' => SegX M A c ((K a).wrap K' H' gd lv) fs s' P) (fun x s' => SegX M A c (H' x) fs s' P) s) : SegX M A c ((m >>= K).wrap K' H' gd lv) fs s P := by
 rw [Sem.bind_eq_wrap', Sem.wrap_wrap]; exact sx_wrap h
theorem sx_execs_nil (h : SegX M A c (K .next) fs s P) : SegX M A c ((execs [] env).wrap K H gd lv) fs s P := h
theorem sx_execs_cons {st : Stmt} {rest : List Stmt}
  (h : SegX M A c ((exec st env).wrap (fun f => match f with | .next => (execs rest env).wrap K H gd lv | f => K f) H gd lv) fs s P) :
  SegX M A c ((execs (st :: rest) env).wrap K H gd lv) fs s P := by rw [execs_cons_wrap]; exact h
theorem sx_If {t : PySem.Expr} {a b : List Stmt} {pos : Pos}
  (h : wpAny M (A.over c fs) (isTrue t env (eval t env)) (fun v s' => if v = true then SegX M A c ((execs a env).wrap K H gd lv) fs s' P else SegX M A c ((execs b env).wrap K H gd lv) fs s' P) (fun x s' => SegX M A c (H x) fs s' P) s) :
  SegX M A c ((exec (.If t a b pos) env).wrap K H gd lv) fs s P := by
 rw [exec_If]
 refine sx_bind (wpAny_standAt (sx_bind (wpAny_mono h (fun v s' h' => ?_) fun _ _ x => x)))
 cases v with
 | true => rw [if_pos rfl] at h' ⊢; exact h'
 | false => rw [if_neg (by decide)] at h' ⊢; exact h'
def loopK (K : Flow → Sem Fin) (H : Value → Sem Fin) (gd : Bool → Bool) (lv : List Value → List Value) (env : Env) : Result → Sem Fin := fun r =>
 ((match r with | .ok f => (.pure f : Sem Flow) | .error e => .raise e).onRaise fun (x : Value) => do
    if (← field x 1) == Value.none then unsupported "frame.own-activation:exception-without-traceback"
    setFlight x env.frame).wrap K H gd lv
theorem sx_call {c' : Code} {hd : Option Value} {g : Bool} {l : List Value} {k : Result → Sem Fin} (x : ∀ p, SegX M A c' (M.den c') (.ret k hd g l c p [] :: fs) s P) : SegX M A c (.call c' hd g l k) fs s P := by
 rintro Γ p rfl hΓ
 obtain ⟨e, s', hr, hq⟩ := x p (Γ.goto c') p rfl (hΓ.goto c')
 exact ⟨e, s', runs_call_seg hr, hq⟩
theorem sx_For {t iter : PySem.Expr} {body orelse : List Stmt} {pos : Pos} (hs : ∀ x, foldedSetIterable iter env x = pure x)
  (h : wpAny M (A.over c fs) (eval iter env) (fun x s₁ => wpAny M (A.over c fs) (pyIter x) (fun it s₂ => ∀ p, SegX M A (.forLoop t it body orelse env) (M.den (.forLoop t it body orelse env))
   (.ret (loopK K H gd lv env) none (gd false) (lv []) c p [] :: fs) s₂ P) (fun x s' => SegX M A c (H x) fs s' P) s₁) (fun x s' => SegX M A c (H x) fs s' P) s) :
  SegX M A c ((exec (.For t iter body orelse pos) env).wrap K H gd lv) fs s P := by
 rw [exec_For]
 refine sx_bind (wpAny_standAt (sx_bind (wpAny_mono h (fun x s₁ h₁ => sx_bind (wpAny_of_eq (hs x) (sx_bind (wpAny_standAt (sx_bind (wpAny_holding (wpAny_mono h₁ (fun it s₂ h₂ => ?_) fun _ _ x => x))))))) fun _ _ x => x)))
 exact sx_call h₂
end
section
variable {prog : Program} {w : World} {A : Around} {c : Code} {fs : List Frame} {P : End → Shared → Prop} {s : Shared} {env : Env}
 {K : Flow → Sem Fin} {H : Value → Sem Fin} {gd : Bool → Bool} {lv : List Value → List Value}
def turnK (t : PySem.Expr) (it : Value) (body : List Stmt) (env : Env) : Flow → Sem Fin := fun f => match f with
 | .next | .cont => .pure (.again (.forLoop t it body [] env))
 | .brk => .pure (.done .next)
 | .ret v => .pure (.done (.ret v))
def turnH (env : Env) : Value → Sem Fin := fun e => (do noteFrame e env; theTreesLotGoes e : Sem Unit).bind fun _ => .raise e
theorem sx_turn {t : PySem.Expr} {it : Value} {body : List Stmt}
  (h : wpAny (model prog w) (A.over (.forLoop t it body [] env) fs) (pyNext it) (fun r s₁ => match r with
   | none => SegX (model prog w) A (.forLoop t it body [] env) (.pure (.again (.block [] env))) fs s₁ P
   | some v => wpAny (model prog w) (A.over (.forLoop t it body [] env) fs) (letOwnedTupleGo t it v) (fun _ s2 => wpAny (model prog w) (A.over (.forLoop t it body [] env) fs) (PySem.assign t env v)
     (fun _ s3 => SegX (model prog w) A (.forLoop t it body [] env) ((execs body env).wrap (turnK t it body env) (turnH env) id id) fs s3 P) (fun x s' => SegX (model prog w) A (.forLoop t it body [] env) (turnH env x) fs s' P) s2)
     (fun x s' => SegX (model prog w) A (.forLoop t it body [] env) (turnH env x) fs s' P) s₁) (fun x s' => SegX (model prog w) A (.forLoop t it body [] env) (turnH env x) fs s' P) s) :
  SegX (model prog w) A (.forLoop t it body [] env) ((model prog w).den (.forLoop t it body [] env)) fs s P := by
 show SegX (model prog w) A (.forLoop t it body [] env) ((forTurn t it body [] env).onRaise (fun x => do noteFrame x env; theTreesLotGoes x)) fs s P
 rw [Sem.onRaise_eq_wrap]
 unfold forTurn
 refine sx_bind (wpAny_standAt (sx_bind (wpAny_onRaise (wpAny_mono h (fun r s₁ h₁ => ?_) fun x s' h' => wpAny_standAt h'))))
 cases r with
 | none => exact h₁
 | some v =>
  refine sx_bind (wpAny_mono h₁ (fun _ s2 h2 => sx_bind (wpAny_mono h2 (fun _ s3 h3 => ?_) fun _ _ x => x)) fun _ _ x => x)
  rw [Sem.bind_eq_wrap', Sem.wrap_wrap]
  exact PySem.W.X.s_eq prog w A _ fs P s3 _ _ (Sem.wrap_congr (execs body env) (K' := turnK t it body env) (H' := turnH env) _ _ (fun f => by cases f <;> rfl) (fun e => rfl)) h3
theorem sx_leaf {k : Result → Sem Fin} {h : Option Value} {g : Bool} {l : List Value} {c₁ : Code} {p₁ : Pos} {kp : List Value} (r : Result) (hk : SegX (model prog w) A c₁ (k r) fs s P) : SegX (model prog w) A c (leafOf r) (.ret k h g l c₁ p₁ kp :: fs) s P :=
 PySem.W.X.s_pop prog w A c fs P s r _ rfl k h g l c₁ p₁ kp hk
theorem sx_block {k : Result → Sem Fin} {h : Option Value} {g : Bool} {l : List Value} {c₁ : Code} {p₁ : Pos} {kp : List Value} (hk : SegX (model prog w) A c₁ (k (.ok .next)) fs s P) :
  SegX (model prog w) A c (.pure (.again (.block [] env))) (.ret k h g l c₁ p₁ kp :: fs) s P := by
 refine PySem.W.X.s_again prog w A c _ P s (.block [] env) rfl ?_
 exact sx_leaf (c := .block [] env) (.ok .next) hk
theorem sx_func {body : List Stmt}
  (h : SegX (model prog w) A (.func body env) ((execs body env).wrap (fun f => .pure (.done (.ret (match f with | .ret v => v | _ => .none))))
   (fun e => (leaving env e).wrap (fun _ => .raise e) .raise id id) id id) fs s P) :
  SegX (model prog w) A (.func body env) ((model prog w).den (.func body env)) fs s P := by
 show SegX _ A _ (.point [] fun _ => ((execs body env).onRaise (leaving env)) >>= _) fs s P
 refine sx_wrap (m := point) (K := fun _ => _) (H := .raise) (gd := id) (lv := fun _ => []) (wpAny_point ?_)
 rw [Sem.onRaise_eq_wrap, Sem.bind_eq_wrap', Sem.wrap_wrap]
 rw [Sem.wrap_congr (execs body env) _ _ (K' := fun f => .pure (.done (.ret (match f with | .ret v => v | _ => .none))))
  (H' := fun e => (leaving env e).wrap (fun _ => .raise e) .raise id id) (fun f => by cases f <;> rfl)
  (fun e => by rw [Sem.bind_eq_wrap, Sem.wrap_wrap]; rfl)]
 exact h
theorem sx_Yield {e : PySem.Expr} {ypos pos : Pos} (hfs : splitAtGen fs = none) (hgd : gd false = false) (hfg : fs.any Frame.guarded = false)
  (h : wpAny (model prog w) (A.over c fs) (eval e env) (fun v s' => ∀ p l (k : Resume → Sem Fin), (∀ s'' P', SegX (model prog w) A c (K .next) fs s'' P' → SegX (model prog w) A c (k (.send .none)) fs s'' P') → P (.susp v false l k c p fs) s')
   (fun x s' => SegX (model prog w) A c (H x) fs s' P) s) (hco : env.scope.isCoroutine = false) (hi : interactive env = false) :
  SegX (model prog w) A c ((exec (.Expr (.Yield (some e) ypos) pos) env).wrap K H gd lv) fs s P := by
 rw [exec_Expr env _ pos hi rfl]
 show SegX (model prog w) A c (.at pos fun _ => ((eval e env >>= fun v => (standAt ypos >>= fun _ => yieldOut env v)) >>= fun x =>
  dropValue (.Yield (some e) ypos) pos x).wrap K H gd lv) fs s P
 have hy : ∀ v, yieldOut env v = yieldValue v := fun v => by simp only [yieldOut, hco, Bool.false_eq_true, if_false]
 simp only [hy]
 refine sx_wrap (m := standAt pos) (K := fun _ => _) (H := .raise) (gd := id) (lv := id) (wpAny_standAt ?_)
 rw [Sem.bind_eq_wrap', Sem.bind_eq_wrap', Sem.wrap_wrap, Sem.wrap_wrap]
 refine sx_wrap (wpAny_mono h (fun v s' h' => ?_) fun _ _ x => x)
 refine sx_wrap (m := standAt ypos) (K := fun _ => _) (H := .raise) (gd := id) (lv := id) (wpAny_standAt ?_)
 show SegX (model prog w) A c (.yield v (gd false) (lv _) _) fs s' P
 rw [hgd]
 exact PySem.W.X.s_yield prog w A c fs P s' v _ _ hfs hfg fun p => h' p _ _ fun s'' P' x => x
end
def GoX (M : Model) (A : Around) (gs : GenState) (s : Shared) (P : End → Shared → Prop) : Prop := match gs with
 | .fresh c => SegX M A c (M.den c) [] s P
 | .suspended k _ c _ fs _ => SegX M A c (k (.send .none)) fs s P
 | _ => False
section
variable {prog : Program} {w : World} {A : Around} {E : Value → Shared → Prop} {s : Shared}
theorem SegX.quiet {M : Model} {c : Code} {t : Sem Fin} {fs : List Frame} {P : End → Shared → Prop} (x : SegX M A c t fs s P) : SegX M A c t fs s (fun e s' => e.quiet = true ∧ P e s') := fun Γ p hc hΓ => by
 obtain ⟨e, s', hr, hq, hp⟩ := x Γ p hc hΓ
 exact ⟨e, s', hr, hq, hq, hp⟩
theorem GoX.mono {M : Model} {gs : GenState} {P P' : End → Shared → Prop} (x : GoX M A gs s P) (h : ∀ e s', e.quiet = true → P e s' → P' e s') : GoX M A gs s P' := by
 cases gs with
 | fresh c => exact PySem.W.X.SegX.mono (SegX.quiet x) fun e s' q => h e s' q.1 q.2
 | suspended k l c p fs cl => exact PySem.W.X.SegX.mono (SegX.quiet x) fun e s' q => h e s' q.1 q.2
 | running => exact x.elim
 | finished => exact x.elim
theorem resume_X {α : Type} {g : Nat} {gs : GenState} {l : List Value} {k : GenResult → Sem α} {Q : α → Shared → Prop} (hg : s.gens[g]? = some gs)
  (hgo : GoX (model prog w) A gs (s.setGen g .running) (fun e s₁ => wpAny (model prog w) A (k e.result) Q E (s₁.setGen g e.genState))) : wpAny (model prog w) A (.resume g (.send .none) l k) Q E s := by
 cases gs with
 | fresh c => exact PySem.W.X.wake_any α prog w hg (.inl ⟨rfl, rfl, rfl, rfl⟩) (fun Γ => Γ.In A) (fun _ h => h) (PySem.W.X.SegX.mono hgo fun e s₁ h Γ p hC => h Γ p hC)
 | suspended k₀ l₀ c₀ p₀ fs₀ cl => exact PySem.W.X.wake_any α prog w hg (.inr ⟨k₀, l₀, p₀, cl, rfl, rfl⟩) (fun Γ => Γ.In A) (fun _ h => h) (PySem.W.X.SegX.mono hgo fun e s₁ h Γ p hC => h Γ p hC)
 | running => exact hgo.elim
 | finished => exact hgo.elim
def GenPost (g : Nat) (Q : Option Value → Shared → Prop) : End → Shared → Prop := fun e s₁ =>
 (∃ v, e.result = .yielded v ∧ Q (some v) (s₁.setGen g e.genState)) ∨
 (e = .ret (.ok (.ret .none)) ∧ ∀ h', (∀ b o, s₁.heap.get? b = some o → h'.get? b = some o) → Q none { s₁.setGen g .finished with heap := h' })
theorem wpAny_pyNext_X {a : Addr} {g : Nat} {gs : GenState} {Q : Option Value → Shared → Prop} (hh : A.handled = none) (hl : s.heap.NoLimit) (hroom : A.depth < recursionLimit)
  (hg : s.heap.IsGen a g) (hgs : s.gens[g]? = some gs) (hgo : GoX (model prog w) A.in1 gs (s.setGen g .running) (GenPost g Q)) :
  wpAny (model prog w) A (pyNext (.ref a)) Q E s := by
 unfold pyNext
 refine wpAny_bind (wpAny_attempt (wpAny_callSpecial?_slot (name := Str.ofString "__next__") hg.typeIs slot_gen_next
  (wpAny_call_entry slot_gen_next hg.typeIs entry_gen_next ?_ (args_gen_next _))))
 show wpAny _ A.in1 (Builtin.Generator.genWake (.ref a) (.send .none)) _ _ s
 unfold Builtin.Generator.genWake
 refine wpAny_bind (wpAny_holding (wpAny_genNumber hg (wpAny_bind (wpAny_genState hgs ?_))))
 cases gs with
 | running => exact hgo.elim
 | finished => exact hgo.elim
 | _ =>
  refine wpAny_bind (wpAny_roomToWake hl hroom ?_)
  show wpAny _ A.in1 (.resume g (.send .none) [] _) _ _ s
  refine resume_X hgs (hgo.mono fun e s₁ _ hp => ?_)
  rcases hp with ⟨v, hv, hq⟩ | ⟨rfl, hp⟩
  ·rw [hv]
   exact wpAny_pure ⟨v, rfl, wpAny_pure hq⟩
  ·show wpAny _ A.in1 (newExc (.type "StopIteration") [] >>= _) _ _ _
   refine wpAny_bind ?_
   simp only [newExc, newTuple]
   refine wpAny_bind (wpAny_newObj_type ?_ (by size_fits))
   refine wpAny_bind (m := firstArgMember _ _) (wpAny_of_eq (a := Value.none) (by first | rfl | (simp only [firstArgMember]; rfl)) ?_)
   refine wpAny_newObj_type ?_ (by size_fits)
   simp only [raiseNew]
   refine wpAny_bind (wpAny_bind (wpAny_handled ?_))
   first | rw [show A.in1.handled = none from hh] | rw [hh]
   refine wpAny_throw ?_
   refine wpAny_bind (wpAny_isInstance (T := "StopIteration") (b := true) ⟨_, Heap.get?_push_size _ rfl, rfl⟩ isSubtype_stop ?_)
   exact wpAny_pure (hp _ fun b o hb => Heap.get?_push_of_some _ (Heap.get?_push_of_some _ hb))
end
end Mine
end
section
set_option maxRecDepth 4000
namespace Mine
open PySem PySem.Calls
open PySem.W.X (SegX)
variable [Hsh]
def bgs (b : Bg) (g : Nat) (gs : GenState) : Bg := ⟨b.os, fun i => if i = g then some gs else b.gb i⟩
def LvItem (h₀ : Heap) (bR : Bg) (a : Addr) (g : Nat) (s₀ : Shared) (Z₀ : Gh) (ρ : List Addr) (hh : H) (W0 : Addr → Prop) (v : F) (rest : (Addr → Prop) → GenState → Heap → Prop) : End → Shared → Prop := fun e s' =>
 ∃ y Z' W', e.result = .yielded y ∧ StpR W0 Z₀ ρ s₀.heap Z' ρ s'.heap ∧ (∀ b, W' b → W0 b ∨ s₀.heap.get? b = none) ∧ WOk W' Z' ρ s'.heap ∧ Rel h₀ bR Z' ρ hh s' ∧ RF Z' v y ∧ s'.heap.IsGen a g ∧ W' a ∧ rest W' e.genState s'.heap
def LvEnd (h₀ : Heap) (bR : Bg) (s₀ : Shared) (Z₀ : Gh) (ρ : List Addr) (hh : H) (W0 : Addr → Prop) : End → Shared → Prop := fun e s' =>
 e = .ret (.ok (.ret .none)) ∧ (∀ b o, ¬ W0 b → s₀.heap.get? b = some o → s'.heap.get? b = some o) ∧ Rel h₀ bR Z₀ ρ hh s'
def Live (prog : Program) (w : World) (h₀ : Heap) (A : Around) (bR : Bg) (a : Addr) (g : Nat) : List F → (Addr → Prop) → GenState → Heap → Prop
 | [], W, gs, h => ∀ s Z ρ hh, Rel h₀ bR Z ρ hh s → WOk W Z ρ s.heap → (∀ b o, W b → h.get? b = some o → s.heap.get? b = some o) → GoX (model prog w) A.in1 gs s (LvEnd h₀ bR s Z ρ hh W)
 | v :: r, W, gs, h => ∀ s Z ρ hh, Rel h₀ bR Z ρ hh s → WOk W Z ρ s.heap → (∀ b o, W b → h.get? b = some o → s.heap.get? b = some o) → GoX (model prog w) A.in1 gs s (LvItem h₀ bR a g s Z ρ hh W v (Live prog w h₀ A bR a g r))
section
variable {prog : Program} {w : World} {A : Around} {E : Value → Shared → Prop} {s s' : Shared} {h₀ : Heap} {os₀ bR : Bg} {Z Z' : Gh} {ρ ρ' : List Addr} {hh h' : H} {env cenv : Env} {sc sc1 : Scope} {lc : Lc} {a : Addr} {g : Nat}
theorem Live.keep {l : List F} {W : Addr → Prop} {gs : GenState} {h h' : Heap} (x : Live prog w h₀ A bR a g l W gs h) (k : ∀ b o, W b → h.get? b = some o → h'.get? b = some o) : Live prog w h₀ A bR a g l W gs h' := by
 cases l with
 | nil => exact fun s Z ρ hh R wk e => x s Z ρ hh R wk fun b o wb q => e b o wb (k b o wb q)
 | cons v r => exact fun s Z ρ hh R wk e => x s Z ρ hh R wk fun b o wb q => e b o wb (k b o wb q)
theorem allBare_set {gens : Array GenState} {x : GenState} (h : AllBare gens) (hx : x.bare = true) : AllBare (gens.setIfInBounds g x) := fun y hy => by
 rcases Array.mem_or_eq_of_mem_setIfInBounds hy with q | q
 ·exact h y q
 ·rw [q]; exact hx
theorem rel_set {gs gs' : GenState} (R : Rel h₀ (bgs os₀ g gs) Z ρ hh s) (hb : gs'.bare = true) : Rel h₀ (bgs os₀ g gs') Z ρ hh (s.setGen g gs') := by
 refine RelH.gens' (R : RelH h₀ (bgs os₀ g gs) Z ρ hh s.heap s.gens s.os) rfl (fun i x hi => ?_) (allBare_set R.gens hb)
 have hg : s.gens[g]? = some gs := R.os.2 g gs (if_pos rfl)
 by_cases q : i = g
 ·subst q
  have : (bgs os₀ i gs').gb i = some gs' := if_pos rfl
  rw [this] at hi; cases hi
  have hl := (Array.getElem?_eq_some_iff.mp hg).1
  show (s.gens.setIfInBounds i gs')[i]? = some gs'
  simp [hl]
 ·have hi' : (bgs os₀ g gs).gb i = some x := by
   have e1 : (bgs os₀ g gs').gb i = os₀.gb i := if_neg q
   have e2 : (bgs os₀ g gs).gb i = os₀.gb i := if_neg q
   rw [e2, ← e1]; exact hi
  have := R.os.2 i x hi'
  show (s.gens.setIfInBounds g gs')[i]? = some x
  rw [Array.getElem?_setIfInBounds_ne (Ne.symm q)]; exact this
theorem rel_weak {gs : GenState} (hgb : os₀.gb g = none) (R : Rel h₀ (bgs os₀ g gs) Z ρ hh s) : Rel h₀ os₀ Z ρ hh s := by
 refine RelH.gens' (R : RelH h₀ (bgs os₀ g gs) Z ρ hh s.heap s.gens s.os) rfl (fun i x hi => ?_) R.gens
 have q : i ≠ g := fun q => by rw [q, hgb] at hi; cases hi
 exact R.os.2 i x ((if_neg q).trans hi)
theorem feed_gen (hH : A.handled = none) (hd : A.depth < 1000) (nolim : h₀.NoLimit) {vals : List F} (hgb : os₀.gb g = none) {Z0 : Gh} {ρ0 : List Addr} :
  Feed prog w h₀ A os₀ false (nxOf (.fixed (vals.map .f))) (.ref a)
   (fun j b W h => ∃ gs, b = bgs os₀ g gs ∧ h.IsGen a g ∧ W a ∧ gs.bare = true ∧ Live prog w h₀ A (bgs os₀ g .running) a g (vals.drop j) W gs h) Z0 ρ0 := by
 have nl : ∀ {b : Bg} {Z ρ hh s}, Rel h₀ b Z ρ hh s → s.heap.NoLimit := fun R => nolim.keeps fun b o q => R.fz _ _ (R.base _ _ q)
 refine ⟨fun st R => ?_, fun st hk => ?_, fun _ st q => ?_, fun {j b W v hh s Z ρ E Q} e st R wk z r q => ?_, fun {j b W hh s Z ρ E Q} e st R wk z r q => ?_⟩
 ·obtain ⟨gs, rfl, _⟩ := st
  exact rel_weak hgb R
 ·obtain ⟨gs, rfl, ⟨o, nm, qn, ho, r⟩, wa, bare, lv⟩ := st
  exact ⟨gs, rfl, ⟨o, nm, qn, hk _ _ wa ho, r⟩, wa, bare, lv.keep hk⟩
 ·obtain ⟨gs, rfl, hgen, _⟩ := st
  exact wpAny_pyIter_gen hgen q
 ·obtain ⟨gs, rfl, hgen, wa, bare, lv⟩ := st
  simp only [nxOf, Option.some.injEq, List.getElem?_map, Option.map_eq_some_iff] at e
  obtain ⟨fv, hfv, rfl⟩ := e
  have hlt := (List.getElem?_eq_some_iff.mp hfv).1
  rw [List.drop_eq_getElem_cons hlt] at lv
  have hv : vals[j] = fv := (List.getElem?_eq_some_iff.mp hfv).2
  rw [hv] at lv
  have hgs : s.gens[g]? = some gs := R.os.2 g gs (if_pos rfl)
  refine wpAny_pyNext_X hH (nl R) (by show A.depth < 1000; exact hd) hgen hgs (GoX.mono (lv (s.setGen g .running) Z ρ hh (rel_set R rfl) wk fun _ _ _ x => x) fun e s' hq hp => .inl ?_)
  obtain ⟨y, Z', W', hres, S', wn, wok', R', rv, hgen', wa', lv'⟩ := hp
  refine ⟨y, hres, ?_⟩
  have R2 := rel_set (gs' := e.genState) R' (End.bare_of_quiet hq)
  have st' : ∃ gs, bgs os₀ g e.genState = bgs os₀ g gs ∧ s'.heap.IsGen a g ∧ W' a ∧ gs.bare = true ∧ Live prog w h₀ A (bgs os₀ g .running) a g (vals.drop (j + 1)) W' gs s'.heap :=
   ⟨_, rfl, hgen', wa', End.bare_of_quiet hq, lv'⟩
  refine q y (s'.setGen g e.genState) Z' _ W' S' wn wok' R2 (by unfold RV; exact rv) (fun _ => st') fun _ q2 => ?_
  obtain ⟨o, nm, qn, ho, hc, _⟩ := hgen'
  exact go_plain (s := s'.setGen g e.genState) ho hc (by decide +kernel) (q2 _ StpH.refl R2 st')
 ·obtain ⟨gs, rfl, hgen, wa, bare, lv⟩ := st
  simp only [nxOf, Option.some.injEq, List.getElem?_map, Option.map_eq_none_iff] at e
  rw [List.drop_eq_nil_of_le (List.getElem?_eq_none_iff.mp e)] at lv
  have hgs : s.gens[g]? = some gs := R.os.2 g gs (if_pos rfl)
  refine wpAny_pyNext_X hH (nl R) (by show A.depth < 1000; exact hd) hgen hgs (GoX.mono (lv (s.setGen g .running) Z ρ hh (rel_set R rfl) wk fun _ _ _ x => x) fun e s' hq hp => .inr ?_)
  obtain ⟨rfl, hk, R'⟩ := hp
  refine ⟨rfl, fun h' hk' => q _ (fun b o nb eb => hk' _ _ (hk b o nb eb)) ?_⟩
  have R2 := rel_weak hgb (rel_set (gs' := .finished) R' rfl)
  exact RelH.kept (R2 : RelH h₀ os₀ Z ρ hh s'.heap (s'.setGen g .finished).gens s'.os) hk'
end
end Mine
end
section
set_option maxRecDepth 4000
namespace Mine
open PySem PySem.Calls
open PySem.W.X (SegX)
variable [Hsh]
section
variable {prog : Program} {w : World} {A : Around} {E : Value → Shared → Prop} {s s' : Shared} {h₀ : Heap} {os₀ bR : Bg} {Z Z' : Gh} {ρ ρ' : List Addr} {hh h' : H} {env cenv : Env} {sc sc1 : Scope} {lc : Lc} {a : Addr} {g : Nat} {P : Prg} {K : Frag}
open Classical in
theorem StpH.wide {X Y : Addr → Prop} {h h' : Heap} (S : StpH X Z ρ h Z' ρ' h') (d : ∀ a, X a → Y a) : StpH Y Z ρ h Z' ρ' h' :=
 ⟨S.zz, S.rr, fun a o e z r n => S.rest a o e z r fun q => n (d a q), fun a _ ⟨o, e⟩ z r => by
  by_cases q : X a
  ·exact S.keepX a q ⟨o, e⟩ z r
  ·have := S.rest a o e z r q
   exact ⟨⟨o, this.1⟩, this.2⟩⟩
open Classical in
theorem StpH.transV {X Y : Addr → Prop} {Z1 Z2 : Gh} {ρ1 ρ2 : List Addr} {h h1 h2 : Heap} (a : StpH X Z ρ h Z1 ρ1 h1) (b : StpH Y Z1 ρ1 h1 Z2 ρ2 h2) (d : ∀ b, Y b → X b ∨ h.get? b = none) : StpH X Z ρ h Z2 ρ2 h2 := by
 refine ⟨fun x o e => b.zz _ _ (a.zz _ _ e), ?_, fun x o e z r nx => ?_, fun x hx ⟨o, e⟩ z r => ?_⟩
 ·obtain ⟨t, rfl⟩ := a.rr
  obtain ⟨t', rfl⟩ := b.rr
  exact ⟨t ++ t', by simp⟩
 ·obtain ⟨e1, z1, r1⟩ := a.rest x o e z r nx
  refine b.rest x o e1 z1 r1 fun q => ?_
  rcases d x q with q | q
  ·exact nx q
  ·rw [q] at e; cases e
 ·obtain ⟨⟨o1, e1⟩, z1, r1⟩ := a.keepX x hx ⟨o, e⟩ z r
  by_cases q : Y x
  ·exact b.keepX x q ⟨o1, e1⟩ z1 r1
  ·have := b.rest x o1 e1 z1 r1 q
   exact ⟨⟨o1, this.1⟩, this.2⟩
open Classical in
theorem StpR.transV {X Y : Addr → Prop} {Z1 Z2 : Gh} {ρ1 ρ2 : List Addr} {h h1 h2 : Heap} (a : StpR X Z ρ h Z1 ρ1 h1) (b : StpR Y Z1 ρ1 h1 Z2 ρ2 h2) (d : ∀ b, Y b → X b ∨ h.get? b = none) : StpR X Z ρ h Z2 ρ2 h2 := by
 refine ⟨fun x o e => b.zz _ _ (a.zz _ _ e), ?_, fun x o e z r nx => ?_⟩
 ·obtain ⟨t, rfl⟩ := a.rr
  obtain ⟨t', rfl⟩ := b.rr
  exact ⟨t ++ t', by simp⟩
 ·obtain ⟨e1, z1, r1⟩ := a.rest x o e z r nx
  refine b.rest x o e1 z1 r1 fun q => ?_
  rcases d x q with q | q
  ·exact nx q
  ·rw [q] at e; cases e
theorem assign_const {y : Str} {py pc pa : Pos} {cst : Const} {kk : Nat} {v : F} {Q : Flow → Shared → Prop} (hc : constF cst = some v) (hy : kindS sc y = some .local) (Re : Rel h₀ os₀ Z ρ hh s) (F : FrR env sc lc Z ρ s.heap)
  (q : ∀ s', Rel h₀ os₀ Z ρ hh s' → FrR env sc (lset lc y (.f v)) Z ρ s'.heap → StpH (· = env.locals) Z ρ s.heap Z ρ s'.heap → Heap.SameBut env.locals s.heap s'.heap → Q .next s') :
  wpAny (model prog w) A (exec (.Assign [.Name y py] (.Constant cst kk pc) pa) env) Q E s := by
 rw [exec_Assign_arm]
 refine wpAny_bind (wpAny_standAt ?_)
 obtain ⟨b, hb, hb'⟩ := swaps_of F.esc [.Name y py] (.Constant cst kk pc) pa.line
 rw [hb]
 refine wpAny_bind (wpAny_pure ?_)
 cases b with
 | true => obtain ⟨_, _, _, q, _⟩ := hb' rfl; cases q
 | false =>
  rw [if_neg (by decide)]
  have main : ∀ (yv : Value) (tk : Nat), RV Z ρ (.f v) yv → wpAny (model prog w) A (do
    let sw ← swappedStores [.Name y py] (.Constant cst kk pc) env
    match sw with
    | some ns => rule "assign.swapped-stores"; let items ← unpackItems yv ns.length none; assignInOrder (ns.reverse.map fun n => bindName env n) items.reverse; pure .next
    | none => PySem.assignAll yv ((assignEach [.Name y py] env).map (·.2)); pure .next) Q E { s with toks := tk } := by
   intro yv tk rv
   rcases swapped_of (env := env) (ts := [.Name y py]) (value := .Constant cst kk pc) rfl with q' | ⟨elts, c, tp, line, q', _⟩
   ·rw [q']
    refine wpAny_bind (wpAny_pure ?_)
    show wpAny (model prog w) A (do PySem.assign (.Name y py) env yv; pure .next) Q E { s with toks := tk }
    refine wpAny_bind (wpAny_assign_Name (local_storeX (s := { s with toks := tk }) Re F hy rv fun s' R' F' S' hs => wpAny_pure (q s' R' F' S' hs)))
   ·cases q'
  unfold constF at hc
  split at hc
  ·cases hc; exact wpAny_bind (wpAny_Constant_none (main _ _ mkRV_none))
  ·cases hc; exact wpAny_bind (wpAny_Constant_bool (main _ _ (mkRV_bool _)))
  ·cases hc; exact wpAny_bind (wpAny_Constant_int (main _ _ (mkRV_int _ _)))
  ·cases hc; exact wpAny_bind (wpAny_Constant_str (main _ _ (mkRV_str _ _)))
  ·cases hc
end
end Mine
end
section
set_option maxRecDepth 4000
namespace Mine
open PySem PySem.Calls
open PySem.W.X (SegX)
variable [Hsh]
def fiGen : FI := fiOf [] theBody[5]?
def g1 : Stmt := match fiGen.body with | a :: _ => a | _ => default
def g2 : Stmt := match fiGen.body with | _ :: a :: _ => a | _ => default
def g3 : Stmt := match fiGen.body with | _ :: _ :: a :: _ => a | _ => default
def g4 : Stmt := match fiGen.body with | _ :: _ :: _ :: a :: _ => a | _ => default
theorem fiGen_body : fiGen.body = [g1, g2, g3, g4] := by kernel_rfl
def pjN : Stmt → Pos
 | .Assign [.Name _ p] _ _ => p
 | _ => default
def pjK : Stmt → Nat
 | .Assign _ (.Constant _ k _) _ => k
 | _ => 0
def pjC : Stmt → Pos
 | .Assign _ (.Constant _ _ p) _ => p
 | _ => default
theorem g1_eq : g1 = .Assign [.Name "pos" (pjN g1)] (.Constant (.int 0) (pjK g1) (pjC g1)) (aP4 g1) := by kernel_rfl
theorem g2_eq : g2 = .Assign [.Name "escape" (pjN g2)] (.Constant (.bool false) (pjK g2) (pjC g2)) (aP4 g2) := by kernel_rfl
def forIt : Stmt → PySem.Expr
 | .For _ i _ _ _ => i
 | _ => .Tuple [] 0 default
def hdS : List Stmt → Stmt
 | a :: _ => a
 | _ => default
def sdS : List Stmt → Stmt
 | _ :: a :: _ => a
 | _ => default
def ifT : Stmt → PySem.Expr
 | .If t _ _ _ => t
 | _ => .Tuple [] 0 default
def ifA : Stmt → List Stmt
 | .If _ a _ _ => a
 | _ => []
def ifB : Stmt → List Stmt
 | .If _ _ b _ => b
 | _ => []
def ifP : Stmt → Pos
 | .If _ _ _ p => p
 | _ => default
def nmP : PySem.Expr → Pos
 | .Name _ p => p
 | _ => default
def yE : Stmt → PySem.Expr
 | .Expr (.Yield (some e) _) _ => e
 | _ => .Tuple [] 0 default
def yP : Stmt → Pos
 | .Expr (.Yield _ p) _ => p
 | _ => default
def yQ : Stmt → Pos
 | .Expr _ p => p
 | _ => default
def gT : PySem.Expr := forT g3
def gIt : PySem.Expr := forIt g3
def gIf : Stmt := hdS (forB g3)
def tuE : PySem.Expr → List PySem.Expr
 | .Tuple es _ _ => es
 | _ => []
def tuC : PySem.Expr → Nat
 | .Tuple _ c _ => c
 | _ => 0
def tuP : PySem.Expr → Pos
 | .Tuple _ _ p => p
 | _ => default
def clF : PySem.Expr → Pos
 | .Call (.Name _ p) _ _ _ => p
 | _ => default
def clA : PySem.Expr → Pos
 | .Call _ [.Name _ p] _ _ => p
 | _ => default
def clP : PySem.Expr → Pos
 | .Call _ _ _ p => p
 | _ => default
theorem g3_eq : g3 = .For gT gIt [gIf] [] (forP g3) := by kernel_rfl
theorem gT_eq : gT = .Tuple (tuE gT) (tuC gT) (tuP gT) := by kernel_rfl
theorem gIt_eq : gIt = .Call (.Name "enumerate" (clF gIt)) [.Name "addr" (clA gIt)] [] (clP gIt) := by kernel_rfl
def gY1 : Stmt := hdS (ifA gIf)
def gA1 : Stmt := sdS (ifA gIf)
def gI2 : Stmt := hdS (ifB gIf)
def gA2 : Stmt := hdS (ifA gI2)
def gY2 : Stmt := hdS (ifB gI2)
def gY3 : Stmt := hdS (ifA g4)
theorem gIf_eq : gIf = .If (.Name "escape" (nmP (ifT gIf))) [gY1, gA1] [gI2] (ifP gIf) := by kernel_rfl
theorem gI2_eq : gI2 = .If (ifT gI2) [gA2] [gY2] (ifP gI2) := by kernel_rfl
theorem g4_eq : g4 = .If (.Name "escape" (nmP (ifT g4))) [gY3] [] (ifP g4) := by kernel_rfl
theorem gA1_eq : gA1 = .Assign [.Name "escape" (pjN gA1)] (.Constant (.bool false) (pjK gA1) (pjC gA1)) (aP4 gA1) := by kernel_rfl
theorem gA2_eq : gA2 = .Assign [.Name "escape" (pjN gA2)] (.Constant (.bool true) (pjK gA2) (pjC gA2)) (aP4 gA2) := by kernel_rfl
theorem gY1_eq : gY1 = .Expr (.Yield (some (yE gY1)) (yP gY1)) (yQ gY1) := by kernel_rfl
theorem gY2_eq : gY2 = .Expr (.Yield (some (yE gY2)) (yP gY2)) (yQ gY2) := by kernel_rfl
theorem gY3_eq : gY3 = .Expr (.Yield (some (yE gY3)) (yP gY3)) (yQ gY3) := by kernel_rfl
def lcH (x : Str) (p : Int) (b : Bool) : Lc := [("addr", .f (.str x)), ("pos", .f (.int p)), ("escape", .f (.bool b))]
def lcT (x : Str) (p : Int) (b : Bool) (c : Nat) : Lc := [("addr", .f (.str x)), ("pos", .f (.int p)), ("escape", .f (.bool b)), ("ch", .f (.str ⟨#[c]⟩))]
abbrev gsc : Scope := fiGen.scope
abbrev gI : Ev R3 := evr Pr.off noC 60
theorem n_escape (x : Str) (p : Int) (b : Bool) : nameV Pr.off gsc (lcH x p b) "escape" = some (.f (.bool b)) := by kernel_rfl
theorem n_escapeT (x : Str) (p : Int) (b : Bool) (c : Nat) : nameV Pr.off gsc (lcT x p b c) "escape" = some (.f (.bool b)) := by kernel_rfl
theorem tgt (x : Str) (p i : Int) (b : Bool) (c : Nat) (hh : H) : asgTarget gsc gT (.f (.tup [.int i, .str ⟨#[c]⟩])) (lcH x p b) hh = some (lcT x i b c) := by kernel_rfl
theorem ev1 (x : Str) (p : Int) (b : Bool) (c : Nat) (hh : H) : gI.ev gsc (lcT x p b c) false hh (yE gY1) (fun v h => some (Fl.ret v, [], h)) = some (Fl.ret (.f (.tup [.int p, .str ⟨#[92, c]⟩])), [], hh) := by kernel_rfl
theorem ev2 (x : Str) (p : Int) (b : Bool) (c : Nat) (hh : H) : gI.ev gsc (lcT x p b c) false hh (yE gY2) (fun v h => some (Fl.ret v, [], h)) = some (Fl.ret (.f (.tup [.int p, .str ⟨#[c]⟩])), [], hh) := by kernel_rfl
theorem ev3 (x : Str) (p : Int) (b : Bool) (hh : H) : gI.ev gsc (lcH x p b) false hh (yE gY3) (fun v h => some (Fl.ret v, [], h)) = some (Fl.ret (.f (.tup [.int p, .str ⟨#[92]⟩])), [], hh) := by kernel_rfl
def flB : Bool → Fl
 | true => .next
 | false => .brk
theorem tst2 (x : Str) (p : Int) (b : Bool) (c : Nat) (hh : H) : gI.tst gsc (lcT x p b c) hh (ifT gI2) (fun b h => some (flB b, [], h)) = some (flB (steq ⟨#[c]⟩ "\\"), [], hh) := by kernel_rfl
theorem n_addr (x : Str) (p : Int) (b : Bool) : nameV Pr.off gsc (lcH x p b) "addr" = some (.f (.str x)) := by kernel_rfl
theorem n_enum (x : Str) (p : Int) (b : Bool) : nameV Pr.off gsc (lcH x p b) "enumerate" = some (.raw (.type "enumerate")) := by kernel_rfl
theorem lset_T (x : Str) (p : Int) (b b' : Bool) (c : Nat) : lset (lcT x p b c) "escape" (.f (.bool b')) = lcT x p b' c := by kernel_rfl
theorem loc_escape : kindS gsc "escape" = some .local := by kernel_rfl
theorem loc_pos : kindS gsc "pos" = some .local := by kernel_rfl
theorem lget_T {x : Str} {p : Int} {b : Bool} {c : Nat} {y : Str} {v : V} (h : lget (lcH x p b) y = some v) : lget (lcT x p b c) y = some v := by
 unfold lcH at h
 unfold lcT
 simp only [lget_cons] at h ⊢
 split at h
 ·rename_i q; rw [if_pos q]; exact h
 ·rename_i q; rw [if_neg q]
  split at h
  ·rename_i q; rw [if_pos q]; exact h
  ·rename_i q; rw [if_neg q]
   split at h
   ·rename_i q; rw [if_pos q]; exact h
   ·cases h
def scalV : V → Bool
 | .f .none => true
 | .f (.bool _) => true
 | .f (.int _) => true
 | .f (.str _) => true
 | _ => false
theorem lget_all {lc : Lc} : ∀ {y : Str} {v : V}, (lc.all fun p => scalV p.2) = true → lget lc y = some v → scalV v = true := by
 induction lc with
 | nil => intro y v _ h; cases h
 | cons p r ih =>
  intro y v ha h
  obtain ⟨z, u⟩ := p
  rw [List.all_cons, Bool.and_eq_true] at ha
  rw [lget_cons] at h
  split at h
  ·cases h; exact ha.1
  ·exact ih ha.2 h
theorem escFrom_true_ne (i : Nat) (l : List Nat) : escFrom i true l ≠ [] := by
 cases l <;> simp [escFrom]
def toF (p : Int × Str) : F := .tup [.int p.1, .str p.2]
def valsAt (x : Str) (i : Nat) (b : Bool) : List F := (escFrom i b (x.cps.toList.drop i)).map toF
theorem valsAt_end {x : Str} {i : Nat} (h : x.cps[i]? = none) (b : Bool) : valsAt x i b = match b with | true => [toF ((i : Int) - 1, ⟨#[92]⟩)] | false => [] := by
 have hl : x.cps.toList.length ≤ i := by simpa using h
 unfold valsAt
 rw [List.drop_eq_nil_of_le hl]
 cases b <;> rfl
theorem valsAt_cons {x : Str} {i c : Nat} (h : x.cps[i]? = some c) (b : Bool) : valsAt x i b = match b with
  | true => toF ((i : Int), ⟨#[92, c]⟩) :: valsAt x (i + 1) false
  | false => match Nat.beq c 92 with
   | true => valsAt x (i + 1) true
   | false => toF ((i : Int), ⟨#[c]⟩) :: valsAt x (i + 1) false := by
 have h2 : i < x.cps.toList.length := by
  have := (Array.getElem?_eq_some_iff.mp h).1; simpa using this
 have h3 : x.cps.toList[i] = c := by
  have := (Array.getElem?_eq_some_iff.mp h).2; simpa using this
 have hv : ∀ b, valsAt x i b = (escFrom i b (c :: x.cps.toList.drop (i + 1))).map toF := fun b => by
  unfold valsAt; rw [List.drop_eq_getElem_cons h2, h3]
 rw [hv]
 cases b with
 | true => rfl
 | false =>
  show List.map toF (match Nat.beq c 92 with | true => escFrom (i + 1) true (x.cps.toList.drop (i + 1)) | false => ((i : Int), (⟨#[c]⟩ : Str)) :: escFrom (i + 1) false (x.cps.toList.drop (i + 1))) = match Nat.beq c 92 with | true => valsAt x (i + 1) true | false => toF ((i : Int), ⟨#[c]⟩) :: valsAt x (i + 1) false
  cases Nat.beq c 92 <;> rfl
theorem steq_bs (c : Nat) : steq ⟨#[c]⟩ "\\" = Nat.beq c 92 := by
 have : steq ⟨#[c]⟩ "\\" = match Nat.beq c 92 with | true => true | false => false := by kernel_rfl
 rw [this]; cases Nat.beq c 92 <;> rfl
end Mine
end
section
set_option maxRecDepth 4000
namespace Mine
open PySem PySem.Calls
open PySem.W.X (SegX)
variable [Hsh]
section
variable {prog : Program} {w : World} {A : Around} {E : Value → Shared → Prop} {s s' : Shared} {h₀ : Heap} {os₀ bR : Bg} {Z Z' : Gh} {ρ ρ' : List Addr} {hh h' : H} {env cenv : Env} {sc sc1 : Scope} {lc : Lc} {a : Addr} {g : Nat} {P : Prg} {K : Frag} {W : Addr → Prop}
theorem RelH.keptBut {h h' : Heap} {gs : Array GenState} {os : OsState} (R : RelH h₀ os₀ Z ρ hh h gs os) (wk : ∀ b, W b → Z b = none ∧ b ∉ ρ) (hk : ∀ b o, ¬ W b → h.get? b = some o → h'.get? b = some o) : RelH h₀ os₀ Z ρ hh h' gs os :=
 R.agree fun b hb => by
  have nw : ¬ W b := fun q => by
   rcases hb with x | x
   ·exact x (wk b q).1
   ·exact (wk b q).2 x
  have ex : ∃ o, h.get? b = some o := by
   rcases hb with x | x
   ·cases e : Z b with
    | none => exact absurd e x
    | some o => exact ⟨o, R.fz _ _ e⟩
   ·exact R.exR x
  obtain ⟨o, e⟩ := ex
  rw [e]; exact hk b o nw e
theorem RV_scal {v : V} {y : Value} (h : scalV v = true) (rv : RV Z ρ v y) : RV Z' ρ' v y := by
 cases v with
 | f x => cases x <;> first | (unfold RV RF at rv ⊢; exact rv) | cases h
 | _ => cases h
theorem FrR.move {h h' : Heap} (F : FrR env sc lc Z ρ h) (hc : env.cells = []) (hs : (lc.all fun p => scalV p.2) = true) (hl : ∀ o, h.get? env.locals = some o → h'.get? env.locals = some o) (own : Z' env.locals = none ∧ env.locals ∉ ρ') : FrR env sc lc Z' ρ' h' := by
 obtain ⟨m, ⟨o, es, ep, ho, r⟩, hm⟩ := F.loc
 refine ⟨F.esc, F.kind, F.glob, F.bins, ⟨m, ⟨o, es, ep, hl _ ho, r⟩, fun x v hk hv => ?_⟩, fun x hk => ?_, F.inj, own, fun x c e => ?_⟩
 ·obtain ⟨y, e, rv⟩ := hm x v hk hv
  exact ⟨y, e, RV_scal (lget_all hs hv) rv⟩
 ·obtain ⟨c, y, e1, _⟩ := F.cel x hk
  rw [hc] at e1; cases e1
 ·rw [hc] at e; cases e
theorem FrR.sub {lc' : Lc} {h : Heap} (F : FrR env sc lc Z ρ h) (hs : ∀ y v, lget lc' y = some v → lget lc y = some v) : FrR env sc lc' Z ρ h := by
 obtain ⟨m, ns, hm⟩ := F.loc
 refine ⟨F.esc, F.kind, F.glob, F.bins, ⟨m, ns, fun x v hk hv => hm x v hk (hs _ _ hv)⟩, fun x hk => ?_, F.inj, F.ownL, F.ownC⟩
 obtain ⟨c, y, e1, e2, e3⟩ := F.cel x hk
 exact ⟨c, y, e1, e2, fun v hv => e3 v (hs _ _ hv)⟩
structure GB (h₀ : Heap) (bR : Bg) (a : Addr) (g : Nat) (env : Env) (W : Addr → Prop) (lc : Lc) (Z : Gh) (ρ : List Addr) (hh : H) (s : Shared) : Prop where
 rel : Rel h₀ bR Z ρ hh s
 fr : FrR env gsc lc Z ρ s.heap
 gen : s.heap.IsGen a g
 wok : WOk W Z ρ s.heap
structure GC (a : Addr) (env : Env) (W : Addr → Prop) : Prop where
 wa : W a
 wl : W env.locals
 cells : env.cells = []
 co : env.scope.isCoroutine = false
theorem GB.move {lc : Lc} (G : GB h₀ bR a g env W lc Z ρ hh s) (C : GC a env W) (hs : (lc.all fun p => scalV p.2) = true) {Z2 : Gh} {ρ2 : List Addr} {hh2 : H} {s2 : Shared} (R : Rel h₀ bR Z2 ρ2 hh2 s2) (wk : WOk W Z2 ρ2 s2.heap) (ag : ∀ b o, W b → s.heap.get? b = some o → s2.heap.get? b = some o) :
  GB h₀ bR a g env W lc Z2 ρ2 hh2 s2 := by
 refine ⟨R, G.fr.move C.cells hs (fun o e => ag _ _ C.wl e) (wk _ C.wl).2, ?_, wk⟩
 obtain ⟨o, nm, qn, ho, r⟩ := G.gen
 exact ⟨o, nm, qn, ag _ _ C.wa ho, r⟩
theorem rho_same {Z1 Z2 : Gh} {ρ1 ρ2 : List Addr} {X : Addr → Prop} {h1 h2 : Heap} {b1 b2 : Bg} {g1 g2 : Array GenState} {o1 o2 : OsState} (S : StpH X Z1 ρ1 h1 Z2 ρ2 h2) (R1 : RelH h₀ b1 Z1 ρ1 hh h1 g1 o1) (R2 : RelH h₀ b2 Z2 ρ2 hh h2 g2 o2) : ρ2 = ρ1 := by
 obtain ⟨t, rfl⟩ := S.rr
 have h1 := R1.len
 have h2 := R2.len
 rw [List.length_append] at h2
 have : t = [] := List.eq_nil_of_length_eq_zero (by omega)
 rw [this, List.append_nil]
def PostV (prog : Program) (w : World) (h₀ : Heap) (A : Around) (bR : Bg) (a : Addr) (g : Nat) (s₀ : Shared) (Z₀ : Gh) (ρ : List Addr) (hh : H) (W0 : Addr → Prop) : List F → End → Shared → Prop
 | [] => LvEnd h₀ bR s₀ Z₀ ρ hh W0
 | v :: r => LvItem h₀ bR a g s₀ Z₀ ρ hh W0 v (Live prog w h₀ A bR a g r)
theorem Live.of {l : List F} {gs : GenState} {h : Heap} (x : ∀ s Z ρ hh, Rel h₀ bR Z ρ hh s → WOk W Z ρ s.heap → (∀ b o, W b → h.get? b = some o → s.heap.get? b = some o) → GoX (model prog w) A.in1 gs s (PostV prog w h₀ A bR a g s Z ρ hh W l)) : Live prog w h₀ A bR a g l W gs h := by
 cases l with
 | nil => exact x
 | cons v r => exact x
theorem gen_yield {c : Code} {fs : List Frame} {Kk : Flow → Sem Fin} {Hk : Value → Sem Fin} {lc : Lc} {ex : PySem.Expr} {yp ep : Pos} {v : F} {r : List F} {s₀ : Shared} {Z₀ : Gh} {W0 : Addr → Prop} {X : Heap → Prop}
  (hfs : splitAtGen fs = none) (hfg : fs.any Frame.guarded = false) (S : SI prog w h₀ 0 gI) (ok : OkA 0 (A.in1.over c fs)) (C : GC a env W) (hs : (lc.all fun p => scalV p.2) = true)
  (ev : gI.ev gsc lc false hh ex (fun v h => some (Fl.ret v, [], h)) = some (Fl.ret (.f v), [], hh)) (G : GB h₀ bR a g env W lc Z ρ hh s) (gx : X s.heap) (kx : ∀ h h', X h → (∀ b o, W b → h.get? b = some o → h'.get? b = some o) → X h')
  (acc : StpR W0 Z₀ ρ s₀.heap Z ρ s.heap) (dW : ∀ b, W b → W0 b ∨ s₀.heap.get? b = none)
  (rest : ∀ s2 Z2 ρ2 hh2, GB h₀ bR a g env W lc Z2 ρ2 hh2 s2 → X s2.heap → SegX (model prog w) A.in1 c (Kk .next) fs s2 (PostV prog w h₀ A bR a g s2 Z2 ρ2 hh2 W r)) :
  SegX (model prog w) A.in1 c ((exec (.Expr (.Yield (some ex) yp) ep) env).wrap Kk Hk id id) fs s (LvItem h₀ bR a g s₀ Z₀ ρ hh W0 v (Live prog w h₀ A bR a g r)) := by
 refine sx_Yield hfs rfl hfg (S.ev ev ok G.rel G.fr fun y s1 Z1 ρ1 v1 h1 S1 R1 rv1 e1 => fun p l k hk => ?_) C.co (interactive_no G.fr)
 cases e1
 have hρ := rho_same S1 G.rel R1
 subst hρ
 obtain ⟨wok1, kp⟩ := G.wok.step S1 (fun _ _ q => q)
 have G1 : GB h₀ bR a g env W lc Z1 ρ1 hh s1 := G.move C hs R1 wok1 kp
 refine ⟨y, Z1, W, rfl, acc.transV S1.r (fun _ q => q.elim), dW, wok1, R1, by unfold RV at rv1; exact rv1, G1.gen, C.wa, Live.of fun s2 Z2 ρ2 hh2 R2 wk2 ag => ?_⟩
 exact hk s2 _ (rest s2 Z2 ρ2 hh2 (G1.move C hs R2 wk2 ag) (kx _ _ (kx _ _ gx kp) ag))
end
end Mine
end
section
set_option maxRecDepth 4000
namespace Mine
open PySem PySem.Calls
open PySem.W.X (SegX)
variable [Hsh]
def WL (a : Addr) (env : Env) (e it : Addr) : Addr → Prop := fun b => b = a ∨ b = env.locals ∨ b = e ∨ b = it
def WT (a : Addr) (env : Env) : Addr → Prop := fun b => b = a ∨ b = env.locals
def gKf : Flow → Sem Fin := fun f => .pure (.done (.ret (match f with | .ret v => v | _ => .none)))
def gHf (env : Env) : Value → Sem Fin := fun e => (leaving env e).wrap (fun _ => .raise e) .raise id id
def gK2 (env : Env) : Flow → Sem Fin := fun f => match f with
 | .next => (execs [g4] env).wrap gKf (gHf env) id id
 | f => gKf f
abbrev c0 (env : Env) : Code := .func [g1, g2, g3, g4] env
abbrev cL (e : Addr) (env : Env) : Code := .forLoop gT (.ref e) [gIf] [] env
abbrev fsL (env : Env) (p0 : Pos) : List Frame := [.ret (loopK (gK2 env) (gHf env) id id env) none (id false) (id []) (c0 env) p0 []]
section
variable {prog : Program} {w : World} {A : Around} {E : Value → Shared → Prop} {s s' : Shared} {h₀ : Heap} {os₀ bR : Bg} {Z Z' : Gh} {ρ ρ' : List Addr} {hh h' : H} {env cenv : Env} {sc sc1 : Scope} {lc : Lc} {a : Addr} {g : Nat} {P : Prg} {K : Frag} {W : Addr → Prop}
 {x : Str} {t : Tok} {e it : Addr} {p0 : Pos}
theorem ok_c0 (ok : OkA 1 A) : OkA 0 (A.in1.over (c0 env) []) := by
 have h1 : (A.in1.over (c0 env) []).depth = A.depth + 0 + 1 := rfl
 have h2 : (A.in1.over (c0 env) []).units = A.units + 1 + 0 + 3 := rfl
 refine ⟨?_, ?_, ok.hand⟩
 ·rw [h1]; have := ok.dep; omega
 ·rw [h2]; have := ok.uni; omega
theorem ok_cL (ok : OkA 1 A) : OkA 0 (A.in1.over (cL e env) (fsL env p0)) := by
 have h1 : (A.in1.over (cL e env) (fsL env p0)).depth = A.depth + 1 + 0 := rfl
 have h2 : (A.in1.over (cL e env) (fsL env p0)).units = A.units + 1 + 3 + 0 := rfl
 refine ⟨?_, ?_, ok.hand⟩
 ·rw [h1]; have := ok.dep; omega
 ·rw [h2]; have := ok.uni; omega
theorem gen_done {s₀ : Shared} {Z₀ : Gh} {W0 : Addr → Prop} (R : Rel h₀ bR Z₀ ρ hh s) (hz : ∀ b o, ¬ W0 b → s₀.heap.get? b = some o → s.heap.get? b = some o) :
  SegX (model prog w) A.in1 (c0 env) (gKf .next) [] s (LvEnd h₀ bR s₀ Z₀ ρ hh W0) :=
 PySem.W.X.s_end prog w A.in1 (c0 env) _ s (.ok (.ret .none)) _ rfl ⟨rfl, hz, R⟩
theorem gen_tail_f (B : Base w h₀ K Pr) {p : Int} {s₀ : Shared} {W0 : Addr → Prop} (G : GB h₀ bR a g env W (lcH x p false) Z ρ hh s) (hz : ∀ b o, ¬ W0 b → s₀.heap.get? b = some o → s.heap.get? b = some o) :
  SegX (model prog w) A.in1 (c0 env) (gK2 env .next) [] s (LvEnd h₀ bR s₀ Z ρ hh W0) := by
 show SegX (model prog w) A.in1 (c0 env) ((execs [g4] env).wrap gKf (gHf env) id id) [] s _
 refine sx_execs_cons ?_
 rw [g4_eq]
 refine sx_If (wpAny_isTrue_value (name_snd B.off (n_escape x p false) G.rel G.fr fun y rv => truthy_snd (b := false) rfl rv ?_) rfl)
 rw [if_neg (by decide)]
 exact sx_execs_nil (sx_execs_nil (gen_done G.rel hz))
theorem gen_tail_t (B : Base w h₀ K Pr) (S : SI prog w h₀ 0 gI) (ok : OkA 1 A) (C : GC a env W) {p : Int} {s₀ : Shared} {Z₀ : Gh} {W0 : Addr → Prop} (G : GB h₀ bR a g env W (lcH x p true) Z ρ hh s) (acc : StpR W0 Z₀ ρ s₀.heap Z ρ s.heap) (dW : ∀ b, W b → W0 b ∨ s₀.heap.get? b = none) :
  SegX (model prog w) A.in1 (c0 env) (gK2 env .next) [] s (LvItem h₀ bR a g s₀ Z₀ ρ hh W0 (toF (p, ⟨#[92]⟩)) (Live prog w h₀ A bR a g [])) := by
 show SegX (model prog w) A.in1 (c0 env) ((execs [g4] env).wrap gKf (gHf env) id id) [] s _
 refine sx_execs_cons ?_
 rw [g4_eq]
 refine sx_If (wpAny_isTrue_value (name_snd B.off (n_escape x p true) G.rel G.fr fun y rv => truthy_snd (b := true) rfl rv ?_) rfl)
 rw [if_pos rfl]
 refine sx_execs_cons ?_
 rw [gY3_eq]
 exact gen_yield (X := fun _ => True) rfl rfl S (ok_c0 ok) C rfl (ev3 x p true hh) G trivial (fun _ _ _ _ => trivial) acc dW fun s2 Z2 ρ2 hh2 G2 _ => sx_execs_nil (sx_execs_nil (gen_done G2.rel fun _ _ _ q => q))
structure Apart (a : Addr) (env : Env) (e it : Addr) : Prop where
 le : env.locals ≠ e
 li : env.locals ≠ it
 ae : a ≠ e
 ai : a ≠ it
 al : a ≠ env.locals
 ei : e ≠ it
def GI (x : Str) (t : Tok) (e it : Addr) (i : Nat) (h : Heap) : Prop := (∃ old, IsEnum h e it i old) ∧ h.IsStrIter it "str_ascii_iterator" x t i
theorem GI.keep {i : Nat} {h h' : Heap} (q : GI x t e it i h) (k : ∀ b o, WL a env e it b → h.get? b = some o → h'.get? b = some o) : GI x t e it i h' := by
 obtain ⟨⟨old, he⟩, o, ho, r⟩ := q
 exact ⟨⟨old, k _ _ (.inr (.inr (.inl rfl))) he⟩, o, k _ _ (.inr (.inr (.inr rfl))) ho, r⟩
theorem own_cells (hc : env.cells = []) {b : Addr} (h : own env b) : b = env.locals := by
 rcases h with h | ⟨y, h⟩
 ·exact h
 ·rw [hc] at h; cases h
end
end Mine
end
section
set_option maxRecDepth 4000
namespace Mine
open PySem PySem.Calls
open PySem.W.X (SegX)
variable [Hsh]
section
variable {prog : Program} {w : World} {A : Around} {E : Value → Shared → Prop} {s s' : Shared} {h₀ : Heap} {os₀ bR : Bg} {Z Z' : Gh} {ρ ρ' : List Addr} {hh h' : H} {env cenv : Env} {sc sc1 : Scope} {lc : Lc} {a : Addr} {g : Nat} {P : Prg} {K : Frag} {W : Addr → Prop}
 {x : Str} {t : Tok} {e it : Addr} {p0 : Pos}
theorem gen_again {P : End → Shared → Prop} {fs : List Frame} (h : SegX (model prog w) A (cL e env) ((model prog w).den (cL e env)) fs s P) : SegX (model prog w) A (cL e env) (turnK gT (.ref e) [gIf] env .next) fs s P :=
 PySem.W.X.s_again prog w A _ _ P s (cL e env) rfl h
theorem gen_head (B : Base w h₀ K Pr) (S : SI prog w h₀ 0 gI) (ok : OkA 1 A) (C : GC a env (WL a env e it)) (D : Apart a env e it) : ∀ (k i : Nat) (b : Bool) (p : Int), x.cps.size - i = k → i ≤ x.cps.size → (b = true → p = (i : Int) - 1) →
  ∀ {s : Shared} {Z : Gh} {ρ : List Addr} {hh : H} {s₀ : Shared} {Z₀ : Gh} {W0 : Addr → Prop}, GB h₀ bR a g env (WL a env e it) (lcH x p b) Z ρ hh s → GI x t e it i s.heap → StpR W0 Z₀ ρ s₀.heap Z ρ s.heap → (∀ b, WL a env e it b → W0 b ∨ s₀.heap.get? b = none) →
  (valsAt x i b = [] → Z = Z₀ ∧ ∀ b o, ¬ W0 b → s₀.heap.get? b = some o → s.heap.get? b = some o) →
  SegX (model prog w) A.in1 (cL e env) ((model prog w).den (cL e env)) (fsL env p0) s (PostV prog w h₀ A bR a g s₀ Z₀ ρ hh W0 (valsAt x i b)) := by
 intro k
 induction k with
 | zero =>
  intro i b p hk hi hp s Z ρ hh s₀ Z₀ W0 G I acc dW hz
  have hin : x.cps[i]? = none := by simp; omega
  have hii : i = x.cps.size := by omega
  have Ds := Draws.strAscii (prog := prog) (w := w) (A := (A.in1.over (cL e env) (fsL env p0)).in1) ok.hand it x t
  obtain ⟨⟨old, he⟩, hsi⟩ := I
  refine sx_turn (wpAny_pyNext_enum_endD Ds he (by rw [← hii]; exact hsi) fun h1 hx => ?_)
  refine sx_block ?_
  show SegX (model prog w) A.in1 (c0 env) (gK2 env .next) [] { s with heap := h1 } _
  have hnz := fun b q => (G.wok b q).2
  have R1 : Rel h₀ bR Z ρ hh { s with heap := h1 } := RelH.keptBut (W := (· = it)) G.rel (fun b q => by subst q; exact hnz _ (.inr (.inr (.inr rfl)))) (fun b o nb eb => hx b o nb eb)
  have CT : GC a env (WT a env) := ⟨.inl rfl, .inr rfl, C.cells, C.co⟩
  have kT : ∀ b o, WT a env b → s.heap.get? b = some o → h1.get? b = some o := fun b o q eb => hx b o (fun eq => by
   subst eq
   rcases q with q | q
   ·exact D.ai q.symm
   ·exact D.li q.symm) eb
  have wT : WOk (WT a env) Z ρ s.heap := fun b q => G.wok b (by
   rcases q with q | q
   ·exact .inl q
   ·exact .inr (.inl q))
  have wT1 : WOk (WT a env) Z ρ h1 := fun b q => by
   obtain ⟨⟨o, ho⟩, r⟩ := wT b q
   exact ⟨⟨o, kT _ _ q ho⟩, r⟩
  have G0 : GB h₀ bR a g env (WT a env) (lcH x p b) Z ρ hh s := ⟨G.rel, G.fr, G.gen, wT⟩
  have G1 := G0.move CT rfl R1 wT1 kT
  rw [valsAt_end hin] at hz ⊢
  cases b with
  | false =>
   obtain ⟨hzz, hz2⟩ := hz rfl
   subst hzz
   refine gen_tail_f B G1 fun b o nb eb => hx b o (fun eq => ?_) (hz2 b o nb eb)
   subst eq
   rcases dW b (.inr (.inr (.inr rfl))) with q | q
   ·exact nb q
   ·rw [q] at eb; cases eb
  | true =>
   have := hp rfl
   subst this
   have SE : StpR (· = it) Z ρ s.heap Z ρ h1 := ⟨fun _ _ q => q, ⟨[], by simp⟩, fun b o eb zb rb nb => ⟨hx b o nb eb, zb, rb⟩⟩
   refine gen_tail_t B S ok CT G1 (acc.transV SE fun b q => by subst q; exact dW _ (.inr (.inr (.inr rfl)))) (fun b q => dW b (by
    rcases q with q | q
    ·exact .inl q
    ·exact .inr (.inl q)))
 | succ k ih =>
  intro i b p hk hi hp s Z ρ hh s₀ Z₀ W0 G I acc dW hz
  have hlt : i < x.cps.size := by omega
  obtain ⟨c, hc⟩ : ∃ c, x.cps[i]? = some c := ⟨x.cps[i], by simp [hlt]⟩
  have Ds := Draws.strAscii (prog := prog) (w := w) (A := (A.in1.over (cL e env) (fsL env p0)).in1) ok.hand it x t
  obtain ⟨⟨old, he⟩, hsi⟩ := I
  refine sx_turn (wpAny_pyNext_enum_itemD Ds he hsi hlt D.ei (by simpa using D.ei) fun v h1 tk hP heo hst1 hT1 hsz hkp => ?_)
  obtain ⟨c', u, hc', rfl⟩ := hP
  have : c' = c := by rw [hc] at hc'; exact (Option.some.inj hc').symm
  subst this
  show wpAny (model prog w) (A.in1.over (cL e env) (fsL env p0)) (letOwnedTupleGo gT (.ref e) (.ref s.heap.objs.size)) _ _ _
  rw [gT_eq]
  refine wpAny_letOwnedTupleGo_enum (s := { s with heap := h1, toks := tk + 1 }) heo fun h2 he2 hs2 => ?_
  rw [← gT_eq]
  dsimp only at hs2 ⊢
  generalize hTT : s.heap.objs.size = T at *
  have fT : ∀ b o, s.heap.get? b = some o → b ≠ T := fun b o eb => by rw [← hTT]; exact Nat.ne_of_lt (Heap.lt_size eb)
  have kept : ∀ b o, b ≠ e → b ≠ it → s.heap.get? b = some o → h2.get? b = some o := fun b o n1 n2 eb => (hs2.2 b n1).trans (hkp b o n1 n2 eb)
  have eT : e ≠ T := fT _ _ he
  have hT2 : h2.get? T = some (tupO [.int i tk, .str ⟨#[c']⟩ u] 0) := (hs2.2 T (Ne.symm eT)).trans hT1
  have zT : Z T = none ∧ T ∉ ρ := ⟨G.rel.freshZ (by rw [hTT]; exact Nat.le_refl _), G.rel.freshR (by rw [hTT]; exact Nat.le_refl _)⟩
  have R1 : Rel h₀ bR Z ρ hh { s with heap := h2, toks := tk + 1 } := RelH.keptBut (W := fun b => b = e ∨ b = it) G.rel (fun b q => by
    rcases q with rfl | rfl
    ·exact (G.wok _ (.inr (.inr (.inl rfl)))).2
    ·exact (G.wok _ (.inr (.inr (.inr rfl)))).2) (fun b o nb eb => kept b o (fun q => nb (.inl q)) (fun q => nb (.inr q)) eb)
  have R2 := R1.freeze1 hT2 zT.1 zT.2
  have F1 := FrR.ext (W := fun b => b = e ∨ b = it) G.fr (fun b o nb eb => kept b o (fun q => nb (.inl q)) (fun q => nb (.inr q)) eb) (fun b q q2 => by
    have := own_cells C.cells q
    subst this
    rcases q2 with q2 | q2
    ·exact D.le q2
    ·exact D.li q2)
  have lT : env.locals ≠ T := by
   obtain ⟨o, ho⟩ := (G.wok _ (.inr (.inl rfl))).1
   exact fT _ _ ho
  have F2 := own_put (o := tupO [.int i tk, .str ⟨#[c']⟩ u] 0) F1 zT.1 lT (fun y c q => by rw [C.cells] at q; cases q)
  generalize hZ2 : put Z T (tupO [.int i tk, .str ⟨#[c']⟩ u] 0) = Z2 at R2 F2
  have zz2 : ∀ b o, Z b = some o → Z2 b = some o := by rw [← hZ2]; exact put_zz zT.1 _
  have hsi1 : h2.IsStrIter it "str_ascii_iterator" x t (i + 1) := by
   obtain ⟨o, ho, r⟩ := hst1
   exact ⟨o, (hs2.2 it (Ne.symm D.ei)).trans ho, r⟩
  have wex : ∀ b, WL a env e it b → ∃ o, h2.get? b = some o := fun b q => by
   rcases q with rfl | rfl | rfl | rfl
   ·obtain ⟨o, ho⟩ := (G.wok _ (.inl rfl)).1
    exact ⟨o, kept _ _ D.ae D.ai ho⟩
   ·obtain ⟨o, ho⟩ := (G.wok _ (.inr (.inl rfl))).1
    exact ⟨o, kept _ _ D.le D.li ho⟩
   ·exact ⟨_, he2⟩
   ·obtain ⟨o, ho, _⟩ := hsi1
    exact ⟨o, ho⟩
  have zw : ∀ b, WL a env e it b → Z2 b = none ∧ b ∉ ρ := fun b q => by
   obtain ⟨⟨o, ho⟩, z, r⟩ := G.wok b q
   rw [← hZ2, put_ne _ _ (fT _ _ ho)]
   exact ⟨z, r⟩
  have S1 : StpR (WL a env e it) Z ρ s.heap Z2 ρ h2 := ⟨zz2, ⟨[], by simp⟩, fun b o eb z r nb => ⟨kept b o (fun q => nb (.inr (.inr (.inl q)))) (fun q => nb (.inr (.inr (.inr q)))) eb, by
   rw [← hZ2, put_ne _ _ (fT _ _ eb)]; exact z, r⟩⟩
  have acc2 := acc.transV S1 dW
  have gen2 : h2.IsGen a g := by
   obtain ⟨o, nm, qn, ho, r⟩ := G.gen
   exact ⟨o, nm, qn, kept _ _ D.ae D.ai ho, r⟩
  have rvT : RV Z2 ρ (.f (.tup [.int i, .str ⟨#[c']⟩])) (.ref T) := by
   unfold RV RF
   refine ⟨T, 0, _, rfl, by rw [← hZ2]; exact put_self _ _ _, ?_⟩
   simp only [RFs]
   exact ⟨_, _, rfl, by unfold RF; exact ⟨_, rfl⟩, _, _, rfl, by unfold RF; exact ⟨_, rfl⟩, rfl⟩
  have okL := ok_cL (e := e) (env := env) (p0 := p0) ok
  refine asgTarget_snd okL (tgt x p i b c' hh) rvT R2 F2 fun s3 R3 F3 S3 => ?_
  have own3 : ∀ b, own env b → b = env.locals := fun b q => own_cells C.cells q
  have at3 : ∀ b o, b ≠ env.locals → WL a env e it b → h2.get? b = some o → s3.heap.get? b = some o := fun b o nb q eb => (S3.rest b o eb (zw b q).1 (zw b q).2 fun q => nb (own3 b q)).1
  have I3 : GI x t e it (i + 1) s3.heap := by
   have he3 : IsEnum s3.heap e it ((i : Int) + 1) (.str ⟨#[c']⟩ u) := at3 e _ (Ne.symm D.le) (.inr (.inr (.inl rfl))) he2
   refine ⟨⟨.str ⟨#[c']⟩ u, ?_⟩, ?_⟩
   ·have : ((i + 1 : Nat) : Int) = (i : Int) + 1 := by omega
    rw [this]; exact he3
   ·obtain ⟨o, ho, r⟩ := hsi1
    exact ⟨o, at3 _ _ (Ne.symm D.li) (.inr (.inr (.inr rfl))) ho, r⟩
  have wok3 : WOk (WL a env e it) Z2 ρ s3.heap := WOk.self (h := h2) (fun b q => ⟨wex b q, zw b q⟩) (S3.wide fun b q => .inr (.inl (own3 b q)))
  have G3 : GB h₀ bR a g env (WL a env e it) (lcT x i b c') Z2 ρ hh s3 := ⟨R3, F3, by
   obtain ⟨o, nm, qn, ho, r⟩ := gen2
   exact ⟨o, nm, qn, at3 _ _ D.al (.inl rfl) ho, r⟩, wok3⟩
  have acc3 : StpR W0 Z₀ ρ s₀.heap Z2 ρ s3.heap := acc2.transV S3.r fun b q => by rw [own3 b q]; exact dW _ (.inr (.inl rfl))
  have go : ∀ {b2 : Bool} {s4 : Shared} {Z4 : Gh} {ρ4 : List Addr} {hh4 : H} {s5 : Shared} {Z5 : Gh} {W5 : Addr → Prop}, GB h₀ bR a g env (WL a env e it) (lcT x i b2 c') Z4 ρ4 hh4 s4 → GI x t e it (i + 1) s4.heap → StpR W5 Z5 ρ4 s5.heap Z4 ρ4 s4.heap →
    (∀ b, WL a env e it b → W5 b ∨ s5.heap.get? b = none) → (valsAt x (i + 1) b2 = [] → Z4 = Z5 ∧ ∀ b o, ¬ W5 b → s5.heap.get? b = some o → s4.heap.get? b = some o) →
    SegX (model prog w) A.in1 (cL e env) (turnK gT (.ref e) [gIf] env .next) (fsL env p0) s4 (PostV prog w h₀ A bR a g s5 Z5 ρ4 hh4 W5 (valsAt x (i + 1) b2)) := by
   intro b2 s4 Z4 ρ4 hh4 s5 Z5 W5 G4 I4 acc4 dW4 hz4
   refine gen_again (ih (i + 1) b2 i (by omega) (by omega) (fun _ => by omega) ⟨G4.rel, G4.fr.sub fun y v => lget_T, G4.gen, G4.wok⟩ I4 acc4 dW4 hz4)
  have asg : ∀ {b2 bb : Bool} {pn pc pa : Pos} {kk : Nat} {Kk : Flow → Sem Fin} {Hk : Value → Sem Fin} {s4 : Shared} {Z4 : Gh} {ρ4 : List Addr} {hh4 : H} {s5 : Shared} {Z5 : Gh} {W5 : Addr → Prop}, (∀ s P, SegX (model prog w) A.in1 (cL e env) (turnK gT (.ref e) [gIf] env .next) (fsL env p0) s P → SegX (model prog w) A.in1 (cL e env) (Kk .next) (fsL env p0) s P) →
    GB h₀ bR a g env (WL a env e it) (lcT x i bb c') Z4 ρ4 hh4 s4 → GI x t e it (i + 1) s4.heap → StpR W5 Z5 ρ4 s5.heap Z4 ρ4 s4.heap → (∀ b, WL a env e it b → W5 b ∨ s5.heap.get? b = none) → (valsAt x (i + 1) b2 = [] → Z4 = Z5 ∧ ∀ b o, ¬ W5 b → s5.heap.get? b = some o → s4.heap.get? b = some o) →
    SegX (model prog w) A.in1 (cL e env) ((exec (.Assign [.Name "escape" pn] (.Constant (.bool b2) kk pc) pa) env).wrap Kk Hk id id) (fsL env p0) s4 (PostV prog w h₀ A bR a g s5 Z5 ρ4 hh4 W5 (valsAt x (i + 1) b2)) := by
   intro b2 bb pn pc pa kk Kk Hk s4 Z4 ρ4 hh4 s5 Z5 W5 hK G4 I4 acc4 dW4 hz4
   refine sx_wrap (assign_const (v := .bool b2) rfl loc_escape G4.rel G4.fr fun s6 R6 F6 S6 hs6 => hK _ _ ?_)
   rw [lset_T] at F6
   have S6w := S6.wide (Y := WL a env e it) fun b q => .inr (.inl q)
   have k6 : ∀ b o, b ≠ env.locals → s4.heap.get? b = some o → s6.heap.get? b = some o := fun b o nb eb => (hs6.2 b nb).trans eb
   refine go ⟨R6, F6, ?_, G4.wok.self S6w⟩ ?_ (acc4.transV S6w.r dW4) dW4 fun hv => ?_
   ·obtain ⟨o, nm, qn, ho, r⟩ := G4.gen
    exact ⟨o, nm, qn, k6 _ _ D.al ho, r⟩
   ·obtain ⟨⟨old', he'⟩, o, ho, r⟩ := I4
    exact ⟨⟨old', k6 _ _ (Ne.symm D.le) he'⟩, o, k6 _ _ (Ne.symm D.li) ho, r⟩
   ·obtain ⟨q1, q2⟩ := hz4 hv
    refine ⟨q1, fun b o nb eb => k6 b o (fun q => ?_) (q2 b o nb eb)⟩
    subst q
    rcases dW4 _ (.inr (.inl rfl)) with q | q
    ·exact nb q
    ·rw [q] at eb; cases eb
  refine sx_execs_cons ?_
  rw [show exec gIf env = exec (.If (.Name "escape" (nmP (ifT gIf))) [gY1, gA1] [gI2] (ifP gIf)) env from congrArg (fun st => exec st env) gIf_eq]
  refine sx_If (wpAny_isTrue_value (name_snd B.off (n_escapeT x i b c') G3.rel G3.fr fun y rv => truthy_snd (b := b) rfl rv ?_) rfl)
  rw [valsAt_cons hc] at hz ⊢
  cases b with
  | true =>
   rw [if_pos rfl]
   refine sx_execs_cons ?_
   rw [show exec gY1 env = exec (.Expr (.Yield (some (yE gY1)) (yP gY1)) (yQ gY1)) env from congrArg (fun st => exec st env) gY1_eq]
   refine gen_yield (X := GI x t e it (i + 1)) rfl rfl S okL C rfl (ev1 x i true c' hh) G3 I3 (fun h h' q k => q.keep k) acc3 dW fun s4 Z4 ρ4 hh4 G4 I4 => ?_
   refine sx_execs_cons ?_
   rw [show exec gA1 env = exec (.Assign [.Name "escape" (pjN gA1)] (.Constant (.bool false) (pjK gA1) (pjC gA1)) (aP4 gA1)) env from congrArg (fun st => exec st env) gA1_eq]
   exact asg (fun s P q => sx_execs_nil (sx_execs_nil q)) G4 I4 (StpH.refl).r (fun b q => .inl q) fun _ => ⟨rfl, fun _ _ _ q => q⟩
  | false =>
   rw [if_neg (by decide)]
   refine sx_execs_cons ?_
   rw [show exec gI2 env = exec (.If (ifT gI2) [gA2] [gY2] (ifP gI2)) env from congrArg (fun st => exec st env) gI2_eq]
   refine sx_If (S.tst (tst2 x i false c' hh) okL G3.rel G3.fr fun bb s4 Z4 ρ4 h4 S4 R4 e4 => ?_)
   rw [steq_bs] at e4
   have hρ := k3_some (fl := flB bb) (lc := []) (h := h4) e4
   obtain ⟨hb, -, hh4⟩ := hρ
   subst hh4
   have hρ4 := rho_same S4 G3.rel R4
   subst hρ4
   obtain ⟨wok4, kp4⟩ := G3.wok.step S4 (fun _ _ q => q)
   have G4 := G3.move C rfl R4 wok4 kp4
   have I4 := I3.keep kp4
   have acc4 := acc3.transV S4.r (fun _ q => q.elim)
   cases hcb : Nat.beq c' 92 with
   | true =>
    rw [hcb] at hb
    have hbb : bb = true := by cases bb with | true => rfl | false => cases hb
    subst hbb
    rw [if_pos rfl]
    refine sx_execs_cons ?_
    rw [show exec gA2 env = exec (.Assign [.Name "escape" (pjN gA2)] (.Constant (.bool true) (pjK gA2) (pjC gA2)) (aP4 gA2)) env from congrArg (fun st => exec st env) gA2_eq]
    refine asg (b2 := true) (fun s P q => sx_execs_nil (sx_execs_nil (sx_execs_nil q))) G4 I4 acc4 dW fun hv => ?_
    exfalso
    unfold valsAt at hv
    exact escFrom_true_ne _ _ (List.map_eq_nil_iff.mp hv)
   | false =>
    rw [hcb] at hb
    have hbb : bb = false := by cases bb with | false => rfl | true => cases hb
    subst hbb
    rw [if_neg (by decide)]
    refine sx_execs_cons ?_
    rw [show exec gY2 env = exec (.Expr (.Yield (some (yE gY2)) (yP gY2)) (yQ gY2)) env from congrArg (fun st => exec st env) gY2_eq]
    refine gen_yield (X := GI x t e it (i + 1)) rfl rfl S okL C rfl (ev2 x i false c' h4) G4 I4 (fun h h' q k => q.keep k) acc4 dW fun s5 Z5 ρ5 hh5 G5 I5 => ?_
    exact sx_execs_nil (sx_execs_nil (sx_execs_nil (go G5 I5 (StpH.refl).r (fun b q => .inl q) fun _ => ⟨rfl, fun _ _ _ q => q⟩)))
end
end Mine
end
section
set_option maxRecDepth 4000
namespace Mine
open PySem PySem.Calls
open PySem.W.X (SegX)
variable [Hsh]
section
variable {prog : Program} {w : World} {A : Around} {E : Value → Shared → Prop} {s s' : Shared} {h₀ : Heap} {os₀ bR : Bg} {Z Z' : Gh} {ρ ρ' : List Addr} {hh h' : H} {env cenv : Env} {sc sc1 : Scope} {lc : Lc} {a : Addr} {g n : Nat} {P : Prg} {K : Frag} {W : Addr → Prop}
 {x : Str} {t : Tok} {e it : Addr} {p0 : Pos}
def lc0 (x : Str) : Lc := [("addr", .f (.str x))]
theorem gen_live (B : Base w h₀ K Pr) (S : SI prog w h₀ 0 gI) (ok : OkA 1 A) (hx : (x.cps.toList.all fun c => decide (c < 128)) = true) (C : GC a env (WT a env)) (hal : a ≠ env.locals) {h : Heap} (F : FrR env gsc (lc0 x) Z ρ h) (gen : h.IsGen a g) :
  Live prog w h₀ A bR a g (valsAt x 0 false) (WT a env) (.fresh (c0 env)) h := by
 refine Live.of fun s Z ρ hh R wk ag => ?_
 show SegX (model prog w) A.in1 (c0 env) ((model prog w).den (c0 env)) [] s _
 have F0 : FrR env gsc (lc0 x) Z ρ s.heap := F.move C.cells rfl (fun o eo => ag _ _ (.inr rfl) eo) (wk _ (.inr rfl)).2
 have G0 : s.heap.IsGen a g := by
  obtain ⟨o, nm, qn, ho, r⟩ := gen
  exact ⟨o, nm, qn, ag _ _ (.inl rfl) ho, r⟩
 refine sx_func ?_
 show SegX (model prog w) A.in1 (c0 env) ((execs [g1, g2, g3, g4] env).wrap gKf (gHf env) id id) [] s _
 refine sx_execs_cons ?_
 rw [show exec g1 env = exec (.Assign [.Name "pos" (pjN g1)] (.Constant (.int 0) (pjK g1) (pjC g1)) (aP4 g1)) env from congrArg (fun st => exec st env) g1_eq]
 refine sx_wrap (assign_const (v := .int 0) rfl loc_pos R F0 fun s1 R1 F1 S1 hs1 => ?_)
 refine sx_execs_cons ?_
 rw [show exec g2 env = exec (.Assign [.Name "escape" (pjN g2)] (.Constant (.bool false) (pjK g2) (pjC g2)) (aP4 g2)) env from congrArg (fun st => exec st env) g2_eq]
 refine sx_wrap (assign_const (v := .bool false) rfl loc_escape R1 F1 fun s2 R2 F2 S2 hs2 => ?_)
 have F2 : FrR env gsc (lcH x 0 false) Z ρ s2.heap := F2
 have k2 : ∀ b o, b ≠ env.locals → s.heap.get? b = some o → s2.heap.get? b = some o := fun b o nb eb => (hs2.2 b nb).trans ((hs1.2 b nb).trans eb)
 have S12 : StpH (· = env.locals) Z ρ s.heap Z ρ s2.heap := S1.trans S2
 have wk2 : WOk (WT a env) Z ρ s2.heap := wk.self (S12.wide fun b q => .inr q)
 refine sx_execs_cons ?_
 rw [show exec g3 env = exec (.For gT gIt [gIf] [] (forP g3)) env from congrArg (fun st => exec st env) g3_eq]
 refine sx_For (fun v => by rw [gIt_eq]; rfl) ?_
 rw [show eval gIt env = eval (.Call (.Name "enumerate" (clF gIt)) [.Name "addr" (clA gIt)] [] (clP gIt)) env from congrArg (fun st => eval st env) gIt_eq]
 refine wpAny_Call_ofName (name_snd B.off (n_enum x 0 false) R2 F2 fun y rv => ?_)
 unfold RV at rv
 subst rv
 refine runs_callWith (K := K) (first := []) rfl .type (name_snd B.off (n_addr x 0 false) R2 F2 fun y rv => ?_)
 obtain ⟨u, rfl⟩ := RV_str rv
 refine ⟨B.off.KS R2, call_enumerate_str fun h3 he hsi hsz hk => wpAny_pyIter_enum (s := { s2 with heap := h3 }) he fun p => ?_⟩
 have hst : strIterType x = "str_ascii_iterator" := by
  unfold strIterType
  rw [if_pos (by rw [← Array.all_toList]; exact hx)]
 rw [hst] at hsi
 generalize hee : s2.heap.objs.size + 1 = e at *
 generalize hit : s2.heap.objs.size = it at *
 have lt2 : ∀ b o, s2.heap.get? b = some o → b ≠ e ∧ b ≠ it := fun b o eb => by
  have := Heap.lt_size eb
  rw [hit] at this
  exact ⟨by rw [← hee]; exact Nat.ne_of_lt (Nat.lt_succ_of_lt this), Nat.ne_of_lt this⟩
 have exA : ∃ o, s2.heap.get? a = some o := (wk2 _ (.inl rfl)).1
 have exL : ∃ o, s2.heap.get? env.locals = some o := (wk2 _ (.inr rfl)).1
 have D : Apart a env e it := by
  obtain ⟨oa, ha⟩ := exA
  obtain ⟨ol, hl⟩ := exL
  exact ⟨(lt2 _ _ hl).1, (lt2 _ _ hl).2, (lt2 _ _ ha).1, (lt2 _ _ ha).2, hal, by rw [← hee]; exact Nat.succ_ne_self _⟩
 have C' : GC a env (WL a env e it) := ⟨.inl rfl, .inr (.inl rfl), C.cells, C.co⟩
 have R3 : Rel h₀ bR Z ρ hh { s2 with heap := h3 } := RelH.kept (R2 : RelH h₀ bR Z ρ hh s2.heap s2.gens s2.os) hk
 have F3 : FrR env gsc (lcH x 0 false) Z ρ h3 := F2.step (StpH.kept hk)
 have fz : ∀ b, it ≤ b → Z b = none ∧ b ∉ ρ := fun b hb => ⟨R2.freshZ (by rw [hit]; exact hb), R2.freshR (by rw [hit]; exact hb)⟩
 have wk3 : WOk (WL a env e it) Z ρ h3 := fun b q => by
  rcases q with rfl | rfl | rfl | rfl
  ·obtain ⟨⟨o, ho⟩, r⟩ := wk2 _ (.inl rfl)
   exact ⟨⟨o, hk _ _ ho⟩, r⟩
  ·obtain ⟨⟨o, ho⟩, r⟩ := wk2 _ (.inr rfl)
   exact ⟨⟨o, hk _ _ ho⟩, r⟩
  ·exact ⟨⟨_, he⟩, fz _ (by rw [← hee]; exact Nat.le_succ _)⟩
  ·obtain ⟨o, ho, _⟩ := hsi
   exact ⟨⟨o, ho⟩, fz _ (Nat.le_refl _)⟩
 have g3' : h3.IsGen a g := by
  obtain ⟨o, nm, qn, ho, r⟩ := G0
  exact ⟨o, nm, qn, hk _ _ (k2 _ _ hal ho), r⟩
 have fr3 : ∀ b, it ≤ b → s.heap.get? b = none := fun b hb => by
  cases q : s.heap.get? b with
  | none => rfl
  | some o =>
   exfalso
   by_cases hl : b = env.locals
   ·obtain ⟨ol, hl'⟩ := exL
    have := Heap.lt_size hl'
    rw [hit, ← hl] at this
    exact absurd this (Nat.not_lt.mpr hb)
   ·have := Heap.lt_size (k2 _ _ hl q)
    rw [hit] at this
    exact absurd this (Nat.not_lt.mpr hb)
 have acc : StpR (WT a env) Z ρ s.heap Z ρ h3 := ((S12.wide (Y := WT a env) fun b q => .inr q).trans (StpH.kept hk)).r
 refine gen_head B S ok C' D x.cps.size 0 false 0 (by omega) (by omega) (fun q => by cases q) (s := { s2 with heap := h3 }) ⟨R3, F3, g3', wk3⟩ ⟨⟨_, he⟩, hsi⟩ acc (fun b q => ?_) fun _ => ⟨rfl, fun b o nb eb => hk _ _ (k2 _ _ (fun q => nb (.inr q)) eb)⟩
 rcases q with rfl | rfl | rfl | rfl
 ·exact .inl (.inl rfl)
 ·exact .inl (.inr rfl)
 ·exact .inr (fr3 _ (by rw [← hee]; exact Nat.le_succ _))
 ·exact .inr (fr3 _ (Nat.le_refl _))
end
end Mine
end
section
set_option maxRecDepth 4000
namespace Mine
open PySem PySem.Calls
open PySem.W.X (SegX)
variable [Hsh]
structure GenOk (prog : Program) (w : World) (h₀ : Heap) (a : Addr) (fi : FI) : Prop where
 nolim : h₀.NoLimit
 fn : ∃ o fd, h₀.get? a = some o ∧ o.data = .func fd ∧ fd.body = .stmts fi.body ∧ fd.scope = fi.scope ∧ fd.globals = mainGlobals ∧ fd.builtins = builtinsNs ∧ fd.closure = [] ∧ h₀.CodeRec fd.code fd.qualname ∧ BindOk prog w h₀ fd fi
 plain : fi.scope.isCoroutine = false ∧ fi.scope.isGenerator = true ∧ fi.scope.kind = .function
section
variable {prog : Program} {w : World} {A : Around} {E : Value → Shared → Prop} {s s' : Shared} {h₀ : Heap} {os₀ bR : Bg} {Z Z' : Gh} {ρ ρ' : List Addr} {hh h' : H} {env cenv : Env} {sc sc1 : Scope} {lc : Lc} {a : Addr} {g n : Nat} {P : Prg} {K : Frag} {W : Addr → Prop}
theorem cells_none : ∀ {names : List (Str × NameKind)} {lo : Nat}, (names.all fun p => match p.2 with | .cell => false | _ => true) = true → cellsFrom lo names [] = []
 | [], lo, _ => rfl
 | (y, kd) :: r, lo, h => by
  rw [List.all_cons, Bool.and_eq_true] at h
  unfold cellsFrom
  split
  ·rename_i q
   cases kd <;> first | exact absurd h.1 Bool.false_ne_true | exact absurd q (by decide)
  ·exact cells_none h.2
theorem gen_snd (B : Base w h₀ K Pr) (HI : ∀ n, HItems prog w h₀ n) (hgk : keepIn K (.ref Pr.genFn) = true) (GO : GenOk prog w h₀ 111 fiGen) : HGen prog w h₀ Pr (n + 1) := by
 intro A E s os₀ Z ρ hh x t ok Re hfit hasc Q q
 show wpAny (model prog w) A (call (.ref 111) [.str x t] []) _ E s
 refine call_ret ?_
 have el : bindFI fiGen [.f (.str x)] [] = some (lc0 x) := by kernel_rfl
 obtain ⟨nolim, ⟨o, fd, ho, hd, hb, hs, hg, hbn, hcl, hcd, bind⟩, p1, p2, p3⟩ := GO
 obtain ⟨nd, loc, bnd⟩ := bind el
 rw [fiGen_body] at hb
 generalize hfi : fiGen = fi at *
 have ra : RVs Z ρ [.f (.str x)] [.str x t] := by
  unfold RVs
  exact ⟨_, _, rfl, mkRV_str _ _, by unfold RVs; rfl⟩
 generalize hlc : lc0 x = lc at *
 have up : ∀ {st : Shared}, Rel h₀ os₀ Z ρ hh st → ∀ a o, h₀.get? a = some o → st.heap.get? a = some o := fun R a o q => R.fz _ _ (R.base _ _ q)
 rw [← hs] at p1 p2 p3
 refine codeAny_call_generator (by have := ok.dep; show A.depth < 1000; omega) (up Re _ _ ho) hd p1 p2 hb (hcd.keeps (up Re)) (bnd Re ra .nil fun binds s1 Z1 kept S1 R1 rb => ?_)
 rw [hcl]
 have up1 : ∀ a o, h₀.get? a = some o → s1.heap.get? a = some o := fun a o q => R1.fz _ _ (R1.base _ _ q)
 refine wpAny_newFunctionEnv_cells p3 (fun x hx => ?_) fun env he s2 ic => ?_
 ·have : ∃ q ∈ lc, q.1 = x.1 := by
   clear bnd loc nd el hlc
   induction rb with
   | nil => cases hx
   | cons _ _ ih =>
    cases hx with
    | head => exact ⟨_, .head _, rfl⟩
    | tail _ hx => obtain ⟨q, h1, h2⟩ := ih hx; exact ⟨q, .tail _ h1, h2⟩
  obtain ⟨q, hq, hqx⟩ := this
  have hl := isLocal_cases (loc q hq)
  rw [hqx, ← hs] at hl
  unfold kindS at hl
  rw [lget_lookup] at hl
  rcases hl with hl | hl
  ·exact .inl hl
  ·exact .inr ⟨hl, cells_look (.inr hl)⟩
 ·have hL : env.locals = s1.heap.objs.size := by rw [he]; rfl
  have keep2 : ∀ b o, s1.heap.get? b = some o → s2.heap.get? b = some o := ic.toInCall.keep
  have esc : env.scope = fi.scope := by rw [he, ← hs]; rfl
  obtain ⟨hm1, hm2⟩ := binds_rel (kindOf := env.kindOf) (acc := []) (m := fun _ => none) (cm := fun _ => none) rb (fun _ _ _ h => by cases h) (fun _ _ _ h => by cases h)
  have hfold : ∀ y, lget lc y = lget (foldSet [] lc) y := fun y => by
   rw [lget_foldSet _ _ _ nd]
   cases lget lc y <;> rfl
  obtain ⟨hh2, tk2, hsame, -⟩ := ic.done
  have R2 : Rel h₀ os₀ Z1 ρ hh s2 := by
   rw [hsame]
   refine R1.kept (fun b o q => ?_)
   have := keep2 b o q
   rw [hsame] at this; exact this
  have fresh : ∀ c, s1.heap.objs.size ≤ c → Z1 c = none ∧ c ∉ ρ := fun c hc => ⟨R1.freshZ hc, R1.freshR hc⟩
  have fr : FrR env fi.scope lc Z1 ρ s2.heap := by
   refine FrR.congr (lc := foldSet [] lc) ?_ hfold
   refine ⟨esc, by rw [← hs]; exact p3, by rw [he]; exact hg, by rw [he]; exact hbn, ⟨_, ic.toInCall.ns, fun x v hk hl => hm1 x v (by rw [← kindS_eq, esc]; exact hk) hl⟩, fun x hk => ?_, fun x x' c h1 h2 => name_of_addr ic.apart (mem_of_lookup h1) (mem_of_lookup h2), ?_, fun x c hc => ?_⟩
   ·have hk' : fd.scope.names.lookup x = some .cell := by
     rw [hs]; unfold kindS at hk; rw [lget_lookup] at hk; exact hk
    have : (env.cells.lookup x).isSome = true := by
     rw [he]
     exact cells_look (lo := s1.heap.objs.size + 1) (acc := []) (.inr hk')
    obtain ⟨c, hc⟩ := Option.isSome_iff_exists.mp this
    refine ⟨c, _, hc, ic.cell x c hc, fun v hv => hm2 x v ?_ hv⟩
    rw [← kindS_eq, esc, hk]; nofun
   ·rw [hL]; exact fresh _ (Nat.le_refl _)
   ·have hab := ic.above x c (mem_of_lookup hc)
    rw [hL] at hab
    refine ⟨(fresh c (Nat.le_of_lt hab)).1, (fresh c (Nat.le_of_lt hab)).2, fun q => ?_, _, ic.cell x c hc⟩
    rw [q, hL] at hab; exact absurd hab (Nat.lt_irrefl _)
  have ownfresh : ∀ a, own env a → s.heap.get? a = none := fun b hb' => by
   have hle : s1.heap.objs.size ≤ b := by
    rcases hb' with q | ⟨x, q⟩
    ·rw [q, hL]; exact Nat.le_refl _
    ·have := ic.above x b (mem_of_lookup q); rw [hL] at this; exact Nat.le_of_lt this
   cases q : s.heap.get? b with
   | none => rfl
   | some ob => exact absurd (Heap.lt_size (kept _ _ q)) (Nat.not_lt.mpr hle)
  subst hfi
  have hcells : env.cells = [] := by
   rw [he]
   show cellsFrom _ fd.scope.names [] = []
   rw [hs]; exact cells_none (by kernel_rfl)
  have Rb : Rel h₀ os₀ Z ρ hh s2 := by
   have R0 : RelH h₀ os₀ Z ρ hh s2.heap s.gens s.os := RelH.kept (Re : RelH h₀ os₀ Z ρ hh s.heap s.gens s.os) (fun b o q => keep2 _ _ (kept _ _ q))
   exact ⟨R0.fz, R0.base, R0.nd, R0.out, R0.len, R0.objs, R2.os, R2.gens⟩
  have gnone : os₀.gb s2.gens.size = none := by
   cases qg : os₀.gb s2.gens.size with
   | none => rfl
   | some y =>
    have := R2.os.2 _ _ qg
    have := (Array.getElem?_eq_some_iff.mp this).1
    exact absurd this (Nat.lt_irrefl _)
  have nl2 : s2.heap.NoLimit := nolim.keeps fun b o q => keep2 _ _ (up1 b o q)
  refine ⟨nl2, _, rfl, ?_⟩
  generalize hob : ({ cls := .type "generator", data := .fields #[.int s2.gens.size 0, .str fd.name s2.toks, .str fd.qualname (s2.toks + 1)] } : Obj) = ob
  have hgg : (s2.heap.push ob).get? s2.heap.objs.size = some ob := Heap.get?_push_size _ (by rw [← hob]; rfl)
  have hgen : (s2.heap.push ob).IsGen s2.heap.objs.size s2.gens.size := ⟨ob, _, _, hgg, by rw [← hob], by rw [← hob], by rw [← hob]⟩
  have kp : ∀ b o, s2.heap.get? b = some o → (s2.heap.push ob).get? b = some o := fun b o e => Heap.get?_push_of_some _ e
  have hla : s2.heap.objs.size ≠ env.locals := by
   obtain ⟨m, ⟨ol, _, _, hl, _⟩, _⟩ := fr.loc
   exact (Nat.ne_of_lt (Heap.lt_size hl)).symm
  have C : GC s2.heap.objs.size env (WT s2.heap.objs.size env) := ⟨.inl rfl, .inr rfl, hcells, by rw [esc, ← hs]; exact p1⟩
  subst hlc
  have F3 : FrR env gsc (lc0 x) Z1 ρ (s2.heap.push ob) := fr.step (StpH.kept kp)
  have ok1 : OkA 1 A := ⟨by have := ok.dep; omega, by have := ok.uni; omega, ok.hand⟩
  have hlive := gen_live (prog := prog) (w := w) (bR := bgs os₀ s2.gens.size .running) B (evr_sound (allOff B HI hgk 0) 60) ok1 hasc C hla F3 hgen
  have freshW : ∀ b, WT s2.heap.objs.size env b → s.heap.get? b = none := fun b hb' => by
   rcases hb' with q' | q'
   ·subst q'
    cases qe : s.heap.get? s2.heap.objs.size with
    | none => rfl
    | some o => exact absurd (Heap.lt_size (keep2 _ _ (kept _ _ qe))) (Nat.lt_irrefl _)
   ·exact ownfresh b (.inl q')
  have wok : WOk (WT s2.heap.objs.size env) Z ρ (s2.heap.push ob) := fun b hb' => by
   refine ⟨?_, ?_, ?_⟩
   ·rcases hb' with q' | q'
    ·subst q'; exact ⟨_, hgg⟩
    ·subst q'
     obtain ⟨m, ⟨ol, _, _, hl, _⟩, _⟩ := F3.loc
     exact ⟨ol, hl⟩
   ·cases qz : Z b with
    | none => rfl
    | some o => have := Re.fz _ _ qz; rw [freshW b hb'] at this; cases this
   ·intro qr
    obtain ⟨o, ho'⟩ := Re.exR qr
    rw [freshW b hb'] at ho'; cases ho'
  have R4 : Rel h₀ (bgs os₀ s2.gens.size (.fresh (c0 env))) Z ρ hh { s2 with gens := s2.gens.push (.fresh (c0 env)), toks := s2.toks + 1 + 1, heap := s2.heap.push ob } := by
   refine RelH.gens' (RelH.kept (Rb : RelH h₀ os₀ Z ρ hh s2.heap s2.gens s2.os) kp) rfl (fun i y hi => ?_) (R2.gens.push rfl)
   by_cases qi : i = s2.gens.size
   ·subst qi
    have : (bgs os₀ s2.gens.size (.fresh (c0 env))).gb s2.gens.size = some (.fresh (c0 env)) := if_pos rfl
    rw [this] at hi; cases hi
    simp
   ·have h2 : (bgs os₀ s2.gens.size (.fresh (c0 env))).gb i = os₀.gb i := if_neg qi
    rw [h2] at hi
    have h3 := Rb.os.2 i y hi
    have hlt := (Array.getElem?_eq_some_iff.mp h3).1
    rw [Array.getElem?_push_lt hlt]
    exact (Array.getElem?_eq_getElem hlt) ▸ h3
  have hmap : ((escPairs x).map fun p => V.f (.tup [.int p.1, .str p.2])) = ((escPairs x).map toF).map V.f := by rw [List.map_map]; rfl
  rw [hmap] at q
  have fd2 := feed_gen (prog := prog) (w := w) (A := A) (h₀ := h₀) (os₀ := os₀) (a := s2.heap.objs.size) (g := s2.gens.size) (vals := (escPairs x).map toF) (Z0 := Z) (ρ0 := ρ) ok.hand (by have := ok.dep; omega) nolim gnone
  exact wpAny_pyIter_gen (s := { s2 with gens := s2.gens.push (.fresh (c0 env)), toks := s2.toks + 1 + 1, heap := s2.heap.push ob }) hgen
   (q (.ref s2.heap.objs.size) _ (WT s2.heap.objs.size env) _ (bgs os₀ s2.gens.size (.fresh (c0 env))) (fun b o' qb => kp _ _ (keep2 _ _ (kept _ _ qb))) freshW fd2 wok R4 ⟨.fresh (c0 env), rfl, hgen, .inl rfl, rfl, hlive⟩)
end
end Mine
end
section
set_option maxRecDepth 100000
namespace Mine
open PySem PySem.Calls
theorem slot_re_search : Slot "re.Pattern" "search" "re.Pattern.search" :=
 .of (owner := "re.Pattern") (n := "search") (by rw [typeLookup_type, builtinLookup_eq_fast]; kernel_rfl) (by decide +kernel) (by decide +kernel) (by decide +kernel)
  (by first | exact .inl (by decide +kernel) | exact .inr (by decide +kernel)) (by rw [isSubtype_type]; kernel_rfl)
theorem type_re_search : typeOf (.builtin "re.Pattern.search") = pure (.type "method_descriptor") := by show builtinType _ = _; rw [builtinType_eq_fast]; kernel_rfl
theorem entry_re_search : entryFor table "re.Pattern.search" = some Builtin.«re.Pattern.search» := entryFor_of_tree (by kernel_rfl)
theorem args_re_search (a b : Value) : argsOk "re.Pattern.search" ⟨[a, b], []⟩ := by
 kernel_rfl
end Mine
end
section
set_option maxRecDepth 100000
namespace Mine
open PySem PySem.Calls
open PySem.Builtin.Re
theorem plain_re : PlainAttrs "re.Pattern" :=
 ⟨⟨"object.__getattribute__", by rw [typeLookup_type, builtinLookup_eq_fast]; kernel_rfl, by decide +kernel⟩, by rw [typeLookup_type, builtinLookup_eq_fast]; kernel_rfl⟩
structure Refuses (code : Array Nat) : Prop where
 hd : Sre.header code = (1, 1 + code.getD 1 0)
 fs : Sre.ops[code.getD 0 0]? = some .INFO ∧ code.getD 2 0 = 4
 set : ∀ c, 32 ≤ c → c < 127 → ∀ seen, ∃ seen', Sre.inSet code c code.size 5 true seen = .ok (false, seen')
theorem admitted_none (m : Sre.M) (h : ∀ i, i < m.lim → ∀ seen, ∃ seen', Sre.inSet m.code (m.text.getD i 0) m.code.size 5 true seen = .ok (false, seen')) :
  ∀ (fuel s : Nat) (seen : Sre.Seen), ∃ seen', Sre.M.admitted m fuel s seen = .ok (none, seen')
 | 0, _, seen => ⟨seen, rfl⟩
 | fuel + 1, s, seen => by
  unfold Sre.M.admitted
  by_cases hs : s ≥ m.lim
  ·rw [if_pos hs]; exact ⟨_, rfl⟩
  ·rw [if_neg hs]
   obtain ⟨seen', e⟩ := h s (by omega) seen
   rw [e]
   exact admitted_none m h fuel (s + 1) seen'
theorem attempt_none {code text : Array Nat} (R : Refuses code) (ht : ∀ i, i < text.size → 32 ≤ text.getD i 0 ∧ text.getD i 0 < 127) (m : Sre.M) (h1 : m.code = code) (h2 : m.text = text) (h3 : m.lim = text.size) (h4 : m.frames = []) (h5 : m.outcome = none) (s : Nat) (b : Bool) :
  (m.attemptFrom s b).answer = some false ∧ (m.attemptFrom s b).frames = [] ∧ (m.attemptFrom s b).outcome = none := by
 have hf : m.hasFirstSet = true := by
  unfold Sre.M.hasFirstSet
  rw [h1, R.fs.1, R.fs.2]; rfl
 obtain ⟨seen', e⟩ := admitted_none m (fun i hi seen => by rw [h1, h2]; exact R.set _ (ht i (h3 ▸ hi)).1 (ht i (h3 ▸ hi)).2 seen) (m.lim + 1 - s) s m.seen
 unfold Sre.M.attemptFrom
 rw [hf, e]
 exact ⟨rfl, h4, h5⟩
theorem search_fails {code text : Array Nat} (R : Refuses code) (ht : ∀ i, i < text.size → 32 ≤ text.getD i 0 ∧ text.getD i 0 < 127) :
  (Sre.forSearch code text 0 0 text.size false).answer = some false ∧ (Sre.forSearch code text 0 0 text.size false).frames = [] ∧ (Sre.forSearch code text 0 0 text.size false).outcome = none := by
 unfold Sre.forSearch
 dsimp only
 split
 ·exact ⟨rfl, rfl, rfl⟩
 ·exact attempt_none R ht _ rfl rfl rfl rfl rfl _ _
theorem drive_fails {prog : Program} {w : World} {A : Around} {E : Value → Shared → Prop} {s : Shared} {m : Sre.M} {Q : Option Sre.M → Shared → Prop} (h1 : m.answer = some false) (h2 : m.frames = []) (h3 : m.outcome = none) (q : Q none s) :
  wpAny (model prog w) A (reRunToEnd m) Q E s := by
 have st : m.step = { m with outcome := some .failed } := by
  unfold Sre.M.step
  rw [h3, h1, h2]; rfl
 have rf : m.runFor reTurnSteps = { m with outcome := some .failed } := by
  have step1 : ∀ k (m : Sre.M), Sre.M.runFor (k + 1) m = if m.outcome.isSome then m else Sre.M.runFor k m.step := fun k m => rfl
  show Sre.M.runFor (3 + 1) m = _
  rw [step1, h3, if_neg (by decide), st]
  rfl
 unfold reRunToEnd
 have dr : reDrive (2 ^ 64) m = pure { m with outcome := some .failed } := by
  show reDrive (18446744073709551615 + 1) m = _
  have : ∀ k (m : Sre.M), reDrive (k + 1) m = (if (m.runFor reTurnSteps).outcome.isSome then pure (m.runFor reTurnSteps) else (do rule "sre.turn"; reDrive k (m.runFor reTurnSteps))) := fun k m => rfl
  rw [this, rf]
  rfl
 rw [dr]
 refine wpAny_bind (wpAny_pure ?_)
 generalize hm : ({ m with outcome := some .failed } : Sre.M) = m2
 have ho : m2.outcome = some .failed := by rw [← hm]
 have loop : ∀ (l : List Nat) {Q : PUnit → Shared → Prop}, Q ⟨⟩ s → wpAny (model prog w) A (forIn l PUnit.unit fun i r => if m2.seen.has i = true then do rule (Sre.names.getD i ""); pure (ForInStep.yield PUnit.unit) else pure (ForInStep.yield PUnit.unit)) Q E s := by
  intro l
  induction l with
  | nil => intro Q q; rw [List.forIn_nil]; exact wpAny_pure q
  | cons i l ih =>
   intro Q q
   rw [List.forIn_cons]
   refine wpAny_bind ?_
   split
   ·exact wpAny_bind (wpAny_rule (wpAny_pure (ih q)))
   ·exact wpAny_pure (ih q)
 refine wpAny_bind (loop _ ?_)
 rw [ho]
 exact wpAny_pure q
theorem named_search (v : Value) : reNamed "re.Pattern.search" "search" ["string", "pos", "endpos"] 1 [v] [] = pure [some v, none, none] := by kernel_rfl
def reObj (p f : Value) (c : Addr) : Obj := { cls := .type "re.Pattern", data := .fields #[p, f, .int 0 0, .none, .none, .ref c, .int 0 0] }
theorem meets_search {prog : Program} {w : World} {a c : Addr} {x : Str} {t : Tok} {p f : Value} {oc : Obj} {items : Array Value} {n : Nat} (hi : oc.data = .seq items n) (R : Refuses ((items.map reRawOf).map (·.toNat)))
  (ht : ∀ i, i < x.cps.size → 32 ≤ x.cps.getD i 0 ∧ x.cps.getD i 0 < 127) (hb : (x.cps.size : Int) < 2 ^ 63) :
  MeetsIn prog w (Builtin.«re.Pattern.search» ⟨[.ref a, .str x t], []⟩) (fun _ RR s => (s.heap.get? a = some (reObj p f c) ∧ s.heap.get? c = some oc) ∧ RR (.ok (.ret .none)) s) :=
 .of_wp fun A RR s ⟨⟨ha, hc⟩, h⟩ => by
  unfold Builtin.«re.Pattern.search»
  refine wpAny_bind ?_
  unfold reTarget
  dsimp only
  rw [named_search]
  refine wpAny_bind (wpAny_pure ?_)
  dsimp only
  refine wpAny_bind (wpAny_pure (wpAny_bind (wpAny_pure ?_)))
  refine wpAny_bind (wpAny_fieldsOf ha rfl ?_)
  refine wpAny_bind (m := reTextOf (.str x t)) ?_
  unfold reTextOf
  refine wpAny_bind (wpAny_pure (a := some x) (wpAny_pure ?_))
  dsimp only
  refine wpAny_bind (m := reNoCollectionInside (.str x t) 0) (wpAny_pure ?_)
  refine wpAny_bind (m := reRawItems (.ref c)) (wpAny_bind (wpAny_seqItems hc hi (wpAny_pure ?_)))
  refine wpAny_pure ?_
  unfold reAnswer
  dsimp only
  have hclip : ∀ i : Int, i = 0 → min i.toNat x.cps.size = 0 := fun i h => by subst h; simp
  have hlim : min ((2 ^ 63 - 1 : Int)).toNat x.cps.size = x.cps.size := by omega
  rw [hclip 0 rfl, hlim]
  obtain ⟨q1, q2, q3⟩ := search_fails R ht
  refine wpAny_bind (drive_fails q1 q2 q3 ?_)
  exact wpAny_pure ⟨_, rfl, h⟩
def codeN : Array Nat := #[14, 10, 4, 1, 1, 22, 0, 31, 16, 127, 0, 13, 7, 22, 0, 31, 16, 127, 0, 1]
def codeV : Array Nat := #[14, 14, 4, 1, 1, 9, 4294966783, 0, 0, 2147483648, 0, 0, 0, 0, 0, 13, 11, 9, 4294966783, 0, 0, 2147483648, 0, 0, 0, 0, 0, 1]
theorem inSetN (c : Nat) (seen : Sre.Seen) : Sre.inSet codeN c codeN.size 5 true seen = if 0 ≤ c && c ≤ 31 then .ok (true, seen.add 22) else if c == 127 then .ok (true, (seen.add 22).add 16) else .ok (false, ((seen.add 22).add 16).add 0) := by kernel_rfl
theorem inSetV (c : Nat) (seen : Sre.Seen) : Sre.inSet codeV c codeV.size 5 true seen = if c < 256 && (codeV.getD (5 + (1 + c / 32)) 0).testBit (c % 32) then .ok (true, seen.add 9) else .ok (false, (seen.add 9).add 0) := by kernel_rfl
theorem refN : Refuses codeN := ⟨by kernel_rfl, ⟨by kernel_rfl, by kernel_rfl⟩, fun c h1 h2 seen => by
 rw [inSetN, if_neg (by simp; omega), if_neg (by simp; omega)]; exact ⟨_, rfl⟩⟩
theorem bitV : ∀ c : Fin 127, 32 ≤ c.val → (codeV.getD (5 + (1 + c.val / 32)) 0).testBit (c.val % 32) = false := by decide +kernel
theorem refV : Refuses codeV := ⟨by kernel_rfl, ⟨by kernel_rfl, by kernel_rfl⟩, fun c h1 h2 seen => by
 rw [inSetV, bitV ⟨c, h2⟩ h1, if_neg (by simp)]; exact ⟨_, rfl⟩⟩
end Mine
end
section
set_option maxRecDepth 4000
namespace Mine
open PySem PySem.Calls
variable [Hsh]
section
variable {prog : Program} {w : World} {A : Around} {E : Value → Shared → Prop} {s s' : Shared} {h₀ : Heap} {os₀ : Bg} {Z Z' : Gh} {ρ ρ' : List Addr} {hh h' : H}
theorem zipL_some : ∀ {ps : List Str} {vs : List V} {lc : Lc}, zipL ps vs = some lc → lc.map (·.1) = ps ∧ vs.length = ps.length ∧ ∀ {Z : Gh} {ρ : List Addr} {xs : List Value}, RVs Z ρ vs xs → RKs Z ρ lc (ps.zip xs)
 | [], [], lc, e => by unfold zipL at e; cases e; exact ⟨rfl, rfl, fun h => by rw [RVs_nil h]; exact .nil⟩
 | x :: r, v :: s, lc, e => by
  unfold zipL at e
  split at e
  ·rename_i l q
   cases e
   obtain ⟨h1, h2, h3⟩ := zipL_some q
   refine ⟨by rw [List.map_cons, h1], by simp [h2], fun h => ?_⟩
   obtain ⟨y, r', rfl, a, b⟩ := RVs_cons h
   exact .cons a (h3 b)
  ·cases e
 | [], _ :: _, _, e => by simp [zipL] at e
 | _ :: _, [], _, e => by simp [zipL] at e
theorem RVs.app : ∀ {a b : List V} {xs zs : List Value}, RVs Z ρ a xs → RVs Z ρ b zs → RVs Z ρ (a ++ b) (xs ++ zs)
 | [], b, xs, zs, h1, h2 => by rw [RVs_nil h1]; exact h2
 | v :: a, b, xs, zs, h1, h2 => by
  obtain ⟨y, r, rfl, p, q⟩ := RVs_cons h1
  show RVs Z ρ (v :: (a ++ b)) _
  unfold RVs
  exact ⟨y, r ++ zs, rfl, p, RVs.app q h2⟩
theorem RVs.dropN : ∀ {a : List V} {xs : List Value} (j : Nat), RVs Z ρ a xs → RVs Z ρ (a.drop j) (xs.drop j)
 | a, xs, 0, h => h
 | [], xs, j + 1, h => by rw [RVs_nil h]; simpa using (show RVs Z ρ [] [] by unfold RVs; rfl)
 | v :: a, xs, j + 1, h => by
  obtain ⟨y, r, rfl, p, q⟩ := RVs_cons h
  exact RVs.dropN j q
theorem RKs.app {l l2 : List (Str × V)} {m m2 : List (Str × Value)} (h : RKs Z ρ l m) (h2 : RKs Z ρ l2 m2) : RKs Z ρ (l ++ l2) (m ++ m2) := by
 induction h with
 | nil => exact h2
 | cons a _ ih => exact .cons a ih
theorem loc_of {fi : FI} {lc : Lc} {ps : List Str} (z1 : lc.map (·.1) = ps) (loc : ps.all (isLocal fi.scope) = true) : ∀ p ∈ lc, isLocal fi.scope p.1 = true := fun p hp =>
 List.all_eq_true.mp loc _ (by rw [← z1]; exact List.mem_map_of_mem hp)
theorem bindOk_plain {fd : FuncData} {fi : FI} (hk : fi.kwarg = none) (ho : fi.kwonly = []) (hd : fi.dflt = []) (nd : nodupS fi.params = true) (loc : fi.params.all (isLocal fi.scope) = true)
  (hb : ∀ xs : List Value, xs.length = fi.params.length → bindArgs fd ⟨xs, []⟩ = pure (fi.params.zip xs)) : BindOk prog w h₀ fd fi := by
 intro args kws lc e
 have e' : kws = [] ∧ zipL fi.params args = some lc := by
  unfold bindFI at e
  rw [hk, ho, hd] at e
  dsimp only at e
  cases kws with
  | nil => exact ⟨rfl, by simpa using e⟩
  | cons _ _ => cases e
 obtain ⟨rfl, ez⟩ := e'
 refine ⟨by rw [(zipL_some ez).1]; exact nodupS_iff nd, loc_of (zipL_some ez).1 loc, fun {A E s os₀ Z ρ hh xs ks Q} Re ra rk q => ?_⟩
 obtain ⟨z1, z2, z3⟩ := zipL_some ez
 cases rk
 rw [hb xs (by rw [ra.length]; exact z2)]
 exact wpAny_pure (q _ s Z (fun _ _ e => e) StpH.refl Re (z3 ra))
theorem bindOk_kwonly {fd : FuncData} {fi : FI} {k : Str} (hk : fi.kwarg = none) (ho : fi.kwonly = [k]) (nd : nodupS (fi.params ++ [k]) = true) (loc : (fi.params ++ [k]).all (isLocal fi.scope) = true)
  (hb : ∀ (xs : List Value) (y : Value), xs.length = fi.params.length → bindArgs fd ⟨xs, [(k, y)]⟩ = pure (fi.params.zip xs ++ [(k, y)])) : BindOk prog w h₀ fd fi := by
 intro args kws lc e
 have e' : ∃ v lc0, kws = [(k, v)] ∧ zipL fi.params args = some lc0 ∧ lc = lc0 ++ [(k, v)] := by
  unfold bindFI at e
  rw [hk, ho] at e
  dsimp only at e
  split at e
  ·rename_i n v
   split at e
   ·rename_i hn
    have hn := (steq_iff _ _).mp hn
    subst hn
    split at e
    ·rename_i lc0 q
     cases e
     exact ⟨v, lc0, rfl, q, rfl⟩
    ·cases e
   ·cases e
  ·cases e
 obtain ⟨v, lc0, rfl, ez, rfl⟩ := e'
 have z0 := (zipL_some ez).1
 have z0' : (lc0 ++ [(k, v)]).map (·.1) = fi.params ++ [k] := by rw [List.map_append, z0]; rfl
 refine ⟨by rw [z0']; exact nodupS_iff nd, loc_of z0' loc, fun {A E s os₀ Z ρ hh xs ks Q} Re ra rk q => ?_⟩
 obtain ⟨z1, z2, z3⟩ := zipL_some ez
 cases rk with
 | cons hy rk =>
  cases rk
  rw [hb xs _ (by rw [ra.length]; exact z2)]
  exact wpAny_pure (q _ s Z (fun _ _ e => e) StpH.refl Re ((z3 ra).app (.cons hy .nil)))
end
end Mine
end
section
set_option maxRecDepth 4000
namespace Mine
open PySem PySem.Calls
variable [Hsh]
section
variable {prog : Program} {w : World} {A : Around} {E : Value → Shared → Prop} {s s' : Shared} {h₀ : Heap} {os₀ : Bg} {Z Z' : Gh} {ρ ρ' : List Addr} {hh h' : H}
theorem ns_put {d : Addr} {es : List DictEntry} {m : Nat} {name : Str} {v : Value} {Q : Unit → Shared → Prop} (hd : s.heap.get? d = some (dicO es m)) (hl : (getL name es).isSome = true)
  (h : ∀ h' tk t' hs, hs = PyData.keyHash w.params name → Heap.SameBut d s.heap h' → (∃ m', h'.get? d = some (dicO (putL name hs (.str name t') v es) m')) → Q () { s with heap := h', toks := tk }) :
  wpAny (model prog w) A (nsSet d name v) Q E s := by
 unfold nsSet
 refine wpAny_bind (wpAny_bind (wpAny_askSetting (wpAny_pure (wpAny_bind (wpAny_mkText (wpAny_bind (wpAny_loadPart hd ?_)))))))
 dsimp only [dicO]
 rw [aRefKeyMayBeTheName_at, getL_ok hl]
 have hput : ∀ t', Obj.putName name (PyData.keyHash w.params name) (.str name t') v (dicO es m) = dicO (putL name (PyData.keyHash w.params name) (.str name t') v es) (putN name es m) := fun t' => putName_dict name _ _ v es m
 have hupd : ∀ t', (s.heap.update d (Obj.putName name (PyData.keyHash w.params name) (.str name t') v)).get? d = some (dicO (putL name (PyData.keyHash w.params name) (.str name t') v es) (putN name es m)) := fun t' => by
  rw [Heap.get?_update_self _ hd (by rw [hput]; rfl), hput]
 refine wpAny_updatePart hd ?_
 exact h _ _ _ _ rfl (Heap.SameBut.update ..) ⟨_, hupd _⟩
theorem putL_low (hs1 hs2 : Int) (t1 t2 : Tok) (y1 y2 : Value) : putL "high" hs2 (.str "high" t2) y2 (putL "low" hs1 (.str "low" t1) y1 []) = [⟨hs1, .str "low" t1, y1⟩, ⟨hs2, .str "high" t2, y2⟩] := by kernel_rfl
theorem bindOk_kwarg {fd : FuncData} {fi : FI} {kn : Str} {o : Obj} (hH : ∀ x, Hsh.hsh x = hashStr w x) (hk : fi.kwarg = some kn) (nd : nodupS (fi.params ++ [kn]) = true) (loc : (fi.params ++ [kn]).all (isLocal fi.scope) = true)
  (h276 : h₀.get? 276 = some o)
  (hb0 : ∀ xs : List Value, xs.length = fi.params.length → bindArgs fd ⟨xs, []⟩ = (do let d ← alloc { cls := .type "dict", data := .dict #[] }; pure (fi.params.zip xs ++ [(kn, .ref d)])))
  (hb2 : ∀ (xs : List Value) (y1 y2 : Value), xs.length = fi.params.length → bindArgs fd ⟨xs, [("low", y1), ("high", y2)]⟩ = (do let d ← alloc { cls := .type "dict", data := .dict #[] }; let _ ← (forIn [(("low" : Str), y1), ("high", y2)] PUnit.unit (fun (p : Str × Value) _ => do nsSet d p.1 p.2; pure (ForInStep.yield PUnit.unit)) : Sem PUnit); pure (fi.params.zip xs ++ [(kn, .ref d)]))) :
  BindOk prog w h₀ fd fi := by
 intro args kws lc e
 have e' : (kws = [] ∧ ∃ lc0 : Lc, zipL fi.params args = some lc0 ∧ lc = lc0 ++ [(kn, .kw [])]) ∨ ∃ (x y : F) (lc0 : Lc), kws = [(("low" : Str), V.f x), (("high" : Str), V.f y)] ∧ zipL fi.params args = some lc0 ∧ lc = lc0 ++ [(kn, V.kw [(("low" : Str), x), (("high" : Str), y)])] := by
  unfold bindFI at e
  rw [hk] at e
  dsimp only at e
  split at e
  ·split at e
   ·rename_i lc0 q
    cases e
    exact .inl ⟨rfl, lc0, q, rfl⟩
   ·cases e
  ·split at e
   ·rename_i hn
    rw [Bool.and_eq_true] at hn
    have h1 := (steq_iff _ _).mp hn.1
    have h2 := (steq_iff _ _).mp hn.2
    subst h1 h2
    split at e
    ·rename_i lc0 q
     cases e
     exact .inr ⟨_, _, lc0, rfl, q, rfl⟩
    ·cases e
   ·cases e
  ·cases e
 have pr : ∀ (lc0 : Lc) (v : V), zipL fi.params args = some lc0 → (lc0 ++ [(kn, v)]).map (·.1) = fi.params ++ [kn] := fun lc0 v ez => by rw [List.map_append, (zipL_some ez).1]; rfl
 have sys : ∀ {s : Shared} {os₀ Z ρ hh}, Rel h₀ os₀ Z ρ hh s → (s.heap.objs.size == sysModules) = false := fun {s os₀ Z ρ hh} Re => by
  have := Heap.lt_size (Re.fz _ _ (Re.base _ _ h276))
  have hs : sysModules ≤ 276 := by decide
  have : s.heap.objs.size ≠ sysModules := Nat.ne_of_gt (Nat.lt_of_le_of_lt hs this)
  exact beq_eq_false_iff_ne.mpr this
 have kh : ∀ x, PyData.keyHash w.params x = Hsh.hsh x := fun x => (hH x).symm
 rcases e' with ⟨rfl, lc0, ez, rfl⟩ | ⟨x, y, lc0, rfl, ez, rfl⟩
 ·refine ⟨by rw [pr _ _ ez]; exact nodupS_iff nd, loc_of (pr _ _ ez) loc, fun {A E s os₀ Z ρ hh xs ks Q} Re ra rk q => ?_⟩
  obtain ⟨z1, z2, z3⟩ := zipL_some ez
  cases rk
  rw [hb0 xs (by rw [ra.length]; exact z2)]
  refine wpAny_bind (wpAny_alloc (wpAny_pure ?_))
  obtain ⟨R1, S1⟩ := RelH.push (Re : RelH h₀ os₀ Z ρ hh s.heap s.gens s.os) (o := dicO [] 0) rfl
  refine q _ { s with heap := s.heap.push (dicO [] 0) } _ (fun b o' eb => Heap.get?_push_of_some _ eb) S1 R1 ((z3 (ra.mono S1.zz S1.rr)).app (.cons ?_ .nil))
  unfold RV
  exact ⟨_, 0, [], rfl, sys Re, put_self _ _ _, .nil⟩
 ·refine ⟨by rw [pr _ _ ez]; exact nodupS_iff nd, loc_of (pr _ _ ez) loc, fun {A E s os₀ Z ρ hh xs ks Q} Re ra rk q => ?_⟩
  obtain ⟨z1, z2, z3⟩ := zipL_some ez
  cases rk with
  | @cons _ _ y1 _ _ hy1 rk =>
  cases rk with
  | @cons _ _ y2 _ _ hy2 rk =>
  cases rk
  rw [hb2 xs y1 y2 (by rw [ra.length]; exact z2)]
  refine wpAny_bind (wpAny_alloc ?_)
  have hsy := sys Re
  have fZ := Re.freshZ (Nat.le_refl s.heap.objs.size)
  have fR := Re.freshR (Nat.le_refl s.heap.objs.size)
  have hg0 : (s.heap.push (dicO [] 0)).get? s.heap.objs.size = some (dicO [] 0) := Heap.get?_push_size _ rfl
  have lt0 : ∀ b o', s.heap.get? b = some o' → b ≠ s.heap.objs.size := fun b o' eb => Nat.ne_of_lt (Heap.lt_size eb)
  rw [List.forIn_cons]
  refine wpAny_bind (wpAny_bind (wpAny_bind (ns_put (s := { s with heap := s.heap.push (dicO [] 0) }) hg0 rfl fun h1 tk1 t1 hs1 e1 sb1 hg1 => ?_)))
  obtain ⟨m1, hg1⟩ := hg1
  refine wpAny_pure ?_
  dsimp only
  rw [List.forIn_cons]
  refine wpAny_bind (wpAny_bind (ns_put (s := { s with heap := h1, toks := tk1 }) hg1 (by rfl) fun h2 tk2 t2 hs2 e2 sb2 hg2 => ?_))
  obtain ⟨m2, hg2⟩ := hg2
  rw [putL_low] at hg2
  rw [kh] at e1 e2
  subst e1 e2
  refine wpAny_pure ?_
  dsimp only
  rw [List.forIn_nil]
  refine wpAny_pure (wpAny_pure ?_)
  have kept : ∀ b o', s.heap.get? b = some o' → h2.get? b = some o' := fun b o' eb => (sb2.2 b (lt0 _ _ eb)).trans ((sb1.2 b (lt0 _ _ eb)).trans (Heap.get?_push_of_some _ eb))
  have R1 : RelH h₀ os₀ Z ρ hh h2 s.gens s.os := RelH.kept (Re : RelH h₀ os₀ Z ρ hh s.heap s.gens s.os) kept
  have R2 := R1.freeze1 hg2 fZ fR
  have S2 : StpH no Z ρ s.heap (put Z s.heap.objs.size (dicO [⟨Hsh.hsh "low", .str "low" t1, y1⟩, ⟨Hsh.hsh "high", .str "high" t2, y2⟩] m2)) ρ h2 := (StpH.kept kept).freeze1 fZ (none_new s _ rfl)
  refine q _ { s with heap := h2, toks := tk2 } _ kept S2 R2 ((z3 (ra.mono S2.zz S2.rr)).app (.cons ?_ .nil))
  unfold RV at hy1 hy2 ⊢
  refine ⟨_, m2, _, rfl, hsy, put_self _ _ _, ?_⟩
  exact .cons (RF.mono S2.zz hy1) (.cons (RF.mono S2.zz hy2) .nil)
end
end Mine
end
section
set_option maxRecDepth 100000
set_option maxHeartbeats 0
namespace Mine
open_top hd for PySem.Challenge.rw_sh0073_01
end Mine
end
section
set_option maxRecDepth 100000
namespace Mine
open PySem PySem.Calls
noncomputable abbrev KP (P : Params) : Frag := hd.heap_39 P
theorem k_pl (P : Params) (x : Str) : plainGet (KP P) 100 x = true ∧ plainGet (KP P) 279 x = true := ⟨by kernel_rfl, by kernel_rfl⟩
theorem k_hd (P : Params) : hasDictIn (KP P) 100 = true ∧ hasDictIn (KP P) 279 = true := ⟨by kernel_rfl, by kernel_rfl⟩
theorem k_at100 (P : Params) : ∀ x ∈ wsNames, findIn (KP P) (.ref 100) x = some none := by
 intro x hx
 simp only [wsNames, List.mem_cons, List.not_mem_nil, or_false] at hx
 rcases hx with rfl | rfl | rfl | rfl | rfl <;> kernel_rfl
theorem k_tk100 (P : Params) : ∀ x ∈ wsNames, takerIn (KP P) 100 x = some none := by
 intro x hx
 simp only [wsNames, List.mem_cons, List.not_mem_nil, or_false] at hx
 rcases hx with rfl | rfl | rfl | rfl | rfl <;> kernel_rfl
theorem k_at279 (P : Params) : findIn (KP P) (.ref 279) "_headers" = some none := by kernel_rfl
theorem k_sa (P : Params) : findIn (KP P) (.ref 100) "__setattr__" = some (some (.builtin "object.__setattr__")) ∧ findIn (KP P) (.ref 279) "__setattr__" = some (some (.builtin "object.__setattr__")) := ⟨by kernel_rfl, by kernel_rfl⟩
theorem k_po (P : Params) : plainOver (KP P) 100 = true ∧ plainOver (KP P) 279 = true := ⟨by kernel_rfl, by kernel_rfl⟩
theorem k_tk279 (P : Params) : takerIn (KP P) 279 "_headers" = some none := by kernel_rfl
def tokOf : Option (Option Value) → Tok
 | some (some (.str _ t)) => t
 | _ => 0
theorem k_cls (P : Params) : readsIn (KP P) 100 (.type "type") = true ∧ findCls (KP P) (.ref 100) (.type "type") "S" = some (.val (.str " " (tokOf (nsIn (KP P) 99 "S")))) ∧ findCls (KP P) (.ref 100) (.type "type") "T" = some (.val (.str "\t" (tokOf (nsIn (KP P) 99 "T")))) :=
 ⟨by kernel_rfl, by kernel_rfl, by kernel_rfl⟩
theorem k_fct (P : Params) : Fct (KP P) Pr where
 pl100 x := (k_pl P x).1
 pl279 x := (k_pl P x).2
 hd100 := (k_hd P).1
 hd279 := (k_hd P).2
 at100 := k_at100 P
 at279 := k_at279 P
 sa100 := (k_sa P).1
 sa279 := (k_sa P).2
 po100 := (k_po P).1
 po279 := (k_po P).2
 tk100 := k_tk100 P
 tk279 := k_tk279 P
 clsS := ⟨_, _, (k_cls P).1, (k_cls P).2.1⟩
 clsT := ⟨_, _, (k_cls P).1, (k_cls P).2.2⟩
theorem nlook_mem {α : Type} : ∀ {l : List (Nat × α)} {x : Nat} {v : α}, nlook l x = some v → (x, v) ∈ l
 | [], _, _, h => by cases h
 | (y, u) :: r, x, v, h => by
  unfold nlook at h
  split at h
  ·rename_i q
   have := Nat.eq_of_beq_eq_true q
   subst this; cases h; exact .head _
  ·exact .tail _ (nlook_mem h)
def gChk (K : Frag) (p : Str × V) : Bool := !(steq p.1 "__name__") && match nsIn K mainGlobals p.1 with
 | some (some (.ref a)) => (match p.2 with
  | .raw (.ref b) => Nat.beq a b
  | _ => false)
 | some (some (.int i _)) => (match p.2 with
  | .f (.int j) => decide (i = j)
  | _ => false)
 | some none => (match bootBuiltins p.1, p.2 with
  | some (.builtin n), .raw (.builtin m) => decide (n = m)
  | some (.type n), .raw (.type m) => decide (n = m)
  | _, _ => false)
 | _ => false
theorem k_glob (P : Params) : gTab.all (gChk (KP P)) = true := by kernel_rfl
theorem k_keep (P : Params) : (fnTab.map (·.1)).all (fun a => keepIn (KP P) (.ref a)) = true ∧ keepIn (KP P) (.ref 100) = true ∧ keepIn (KP P) (.ref 279) = true ∧ keepIn (KP P) (.ref 111) = true := ⟨by kernel_rfl, by kernel_rfl, by kernel_rfl, by kernel_rfl⟩
end Mine
end
section
set_option maxRecDepth 100000
namespace Mine
open PySem PySem.Calls
variable [Hsh]
def esOf : Option Obj → List DictEntry
 | some ⟨_, _, .dict es _, _⟩ => es.toList
 | _ => []
def epOf : Option Obj → Nat
 | some ⟨_, _, .dict _ n, _⟩ => n
 | _ => 0
theorem k_126 (P : Params) : (KP P).lookup 126 = some (dicO (esOf ((KP P).lookup 126)) (epOf ((KP P).lookup 126))) := by kernel_rfl
def enO (P : Params) (e : DictEntry) : DictEntry := match e.key with
 | .str x t => ⟨PyData.keyHash P x, .str x t, e.val⟩
 | _ => e
def isStrE (e : DictEntry) : Bool := match e.key with
 | .str _ _ => true
 | _ => false
theorem k_126h (P : Params) : (esOf ((KP P).lookup 126)).map (enO P) = esOf ((KP P).lookup 126) ∧ (esOf ((KP P).lookup 126)).all isStrE = true := ⟨by kernel_rfl, by kernel_rfl⟩
def xChk (es : List DictEntry) (p : Str × Option Int) : Bool := match es.find? (fun e => Value.isStrOf p.1 e.key), p.2 with
 | some ⟨_, _, .int i _⟩, some j => decide (i = j)
 | none, none => true
 | _, _ => false
theorem k_126x (P : Params) : xTab.all (xChk (esOf ((KP P).lookup 126))) = true := by kernel_rfl
section
variable {prog : Program} {w : World} {A : Around} {E : Value → Shared → Prop} {s s' : Shared} {h₀ : Heap}
theorem k_keys {es : List DictEntry} (h1 : es.map (enO w.params) = es) (h2 : es.all isStrE = true) : KeysOf (PySem.strKind prog w) es.toArray := by
 intro e he
 have he : e ∈ es := by simpa using he
 have hs := List.all_eq_true.mp h2 e he
 obtain ⟨e', he', eq⟩ : ∃ e' ∈ es, enO w.params e' = e := by
  have : e ∈ es.map (enO w.params) := by rw [h1]; exact he
  obtain ⟨e', h, q⟩ := List.mem_map.mp this
  exact ⟨e', h, q⟩
 have hs' := List.all_eq_true.mp h2 e' he'
 unfold enO at eq
 unfold isStrE at hs'
 split at eq
 ·rename_i x t hk
  subst eq
  exact ⟨x, by show Value.isStrOf x (.str x t) = true; simp [Value.isStrOf], rfl⟩
 ·rename_i hk
  split at hs'
  ·rename_i x t q; exact absurd q (hk x t)
  ·cases hs'
theorem x_get {x : Str} {o : Option Int} (e : Pr.exact x = some o) {t : Tok} {d : Value} {Q : Value → Shared → Prop} (KS : (KP w.params).In s.heap)
  (q : ∀ y h' tk, (∀ b p, s.heap.get? b = some p → h'.get? b = some p) → (match o with | some i => ∃ u, y = .int i u | none => y = d) → Q y { s with heap := h', toks := tk }) :
  wpAny (model prog w) A (call (.builtin "dict.get") [.ref 126, .str x t, d]) Q E s := by
 have hd := KS _ _ (k_126 w.params)
 have hx := List.all_eq_true.mp (k_126x w.params) _ (lget_mem e)
 have kk := k_keys (prog := prog) (w := w) (k_126h w.params).1 (k_126h w.params).2
 generalize esOf ((KP w.params).lookup 126) = es at hd hx kk
 refine call_meetsIn PySem.F.slot_dict_get ⟨_, hd, rfl⟩ PySem.F.entry_dict_get (PySem.F.args_dict_get_3 _ _ _) (meets_dict_get_default (PySem.strKind prog w) (k := x) 126 (by show Value.isStrOf x (.str x t) = true; simp [Value.isStrOf]) (by decide) d)
  ⟨fun k => findBy (PySem.strKind prog w).is es.toArray k, ⟨_, es.toArray, _, hd, ⟨rfl, rfl, rfl⟩, rfl, kk, fun k => rfl⟩, ?_⟩
 have hfind : findBy (PySem.strKind prog w).is es.toArray x = (es.find? (fun e => Value.isStrOf x e.key)).map (·.val) := by
  unfold findBy
  rw [← Array.find?_toList]
  rfl
 show Q ((findBy (PySem.strKind prog w).is es.toArray x).getD d) _
 rw [hfind]
 unfold xChk at hx
 dsimp only at hx
 cases qf : es.find? (fun e => Value.isStrOf x e.key) with
 | none =>
  rw [qf] at hx
  cases o with
  | none => exact q _ s.heap _ (fun _ _ e => e) rfl
  | some i => cases hx
 | some en =>
  rw [qf] at hx
  obtain ⟨hs, ky, vl⟩ := en
  cases o with
  | none => cases vl <;> cases hx
  | some j =>
   cases vl with
   | int i u =>
    have := of_decide_eq_true hx
    subst this
    exact q _ s.heap _ (fun _ _ e => e) ⟨u, rfl⟩
   | _ => cases hx
end
def fld (o : Option Obj) (i : Nat) : Value := match o with
 | some ⟨_, _, .fields a, _⟩ => a.getD i .none
 | _ => .none
def itm (o : Option Obj) : Array Value := match o with
 | some ⟨_, _, .seq a _, _⟩ => a
 | _ => #[]
theorem k_145 (P : Params) : (KP P).lookup 145 = some (reObj (fld ((KP P).lookup 145) 0) (fld ((KP P).lookup 145) 1) 144) := by kernel_rfl
theorem k_150 (P : Params) : (KP P).lookup 150 = some (reObj (fld ((KP P).lookup 150) 0) (fld ((KP P).lookup 150) 1) 149) := by kernel_rfl
theorem k_144 (P : Params) : (KP P).lookup 144 = some { cls := .type "tuple", data := .seq (itm ((KP P).lookup 144)) 0 } ∧ ((itm ((KP P).lookup 144)).map Builtin.Re.reRawOf).map (·.toNat) = codeN := ⟨by kernel_rfl, by kernel_rfl⟩
theorem k_149 (P : Params) : (KP P).lookup 149 = some { cls := .type "tuple", data := .seq (itm ((KP P).lookup 149)) 0 } ∧ ((itm ((KP P).lookup 149)).map Builtin.Re.reRawOf).map (·.toNat) = codeV := ⟨by kernel_rfl, by kernel_rfl⟩
section
variable {prog : Program} {w : World} {A : Around} {E : Value → Shared → Prop} {s s' : Shared} {h₀ : Heap}
theorem calm_at {x : Str} (h : calm x = true) : ∀ i, i < x.cps.size → 32 ≤ x.cps.getD i 0 ∧ x.cps.getD i 0 < 127 := fun i hi => by
 unfold calm at h
 have := List.all_eq_true.mp h (x.cps[i]) (by simp)
 rw [Bool.and_eq_true] at this
 have e : x.cps.getD i 0 = x.cps[i] := by simp [Array.getD, hi]
 rw [e]
 exact ⟨of_decide_eq_true this.1, of_decide_eq_true this.2⟩
theorem s_get {P : Params} {a : Addr} (ha : a = 145 ∨ a = 150) {x : Str} {t : Tok} {Q : Value → Shared → Prop} (KS : (KP P).In s.heap) (hc : calm x = true) (hl : x.length ≤ 100000)
  (q : Q .none s) : wpAny (model prog w) A (call (.builtin "re.Pattern.search") [.ref a, .str x t]) Q E s := by
 have hb : (x.cps.size : Int) < 2 ^ 63 := by
  have : x.cps.size ≤ 100000 := hl
  omega
 have main : ∀ {p f : Value} {c : Addr} {items : Array Value} {code : Array Nat}, s.heap.get? a = some (reObj p f c) → s.heap.get? c = some { cls := .type "tuple", data := .seq items 0 } → (items.map Builtin.Re.reRawOf).map (·.toNat) = code → Refuses code →
   wpAny (model prog w) A (call (.builtin "re.Pattern.search") [.ref a, .str x t]) Q E s := by
  intro p f c items code h1 h2 h3 h4
  subst h3
  exact call_meetsIn slot_re_search ⟨_, h1, rfl⟩ entry_re_search (args_re_search _ _) (meets_search (oc := { cls := .type "tuple", data := .seq items 0 }) (n := 0) rfl h4 (calm_at hc) hb) ⟨⟨h1, h2⟩, q⟩
 rcases ha with rfl | rfl
 ·exact main (KS _ _ (k_145 P)) (KS _ _ (k_144 P).1) (k_144 P).2 refN
 ·exact main (KS _ _ (k_150 P)) (KS _ _ (k_149 P).1) (k_149 P).2 refV
theorem s_meth {P : Params} {a : Addr} (ha : a = 145 ∨ a = 150) {pl : Sem Bool} {Q : Value × List Value → Shared → Prop} (KS : (KP P).In s.heap) (q : Q (.builtin "re.Pattern.search", [.ref a]) s) :
  wpAny (model prog w) A (getMethod (.ref a) "search" pl) Q E s := by
 have main : ∀ {p f : Value} {c : Addr}, s.heap.get? a = some (reObj p f c) → wpAny (model prog w) A (getMethod (.ref a) "search" pl) Q E s := fun h =>
  getMethod_builtin ⟨_, h, rfl⟩ plain_re slot_re_search type_re_search (fun b e => by cases e; exact ⟨_, h, rfl⟩) q
 rcases ha with rfl | rfl
 ·exact main (KS _ _ (k_145 P))
 ·exact main (KS _ _ (k_150 P))
end
end Mine
end
section
set_option maxRecDepth 100000
namespace Mine
open PySem PySem.Calls
variable [Hsh]
theorem k_w (P : Params) : ∀ x g, lget wTab x = some g → findIn (KP P) (.ref 100) x = some (some (.ref g)) ∧ isFn (KP P) (.ref g) = true ∧ x ∉ wsNames ∧ keepIn (KP P) (.ref g) = true := by
 intro x g h
 have h := lget_mem h
 simp only [wTab, List.mem_cons, List.not_mem_nil, or_false, Prod.mk.injEq] at h
 rcases h with ⟨rfl, rfl⟩ | ⟨rfl, rfl⟩ | ⟨rfl, rfl⟩ <;> exact ⟨by kernel_rfl, by kernel_rfl, by decide, by kernel_rfl⟩
theorem k_h (P : Params) : ∀ x g, lget hTab x = some g → findIn (KP P) (.ref 279) x = some (some (.ref g)) ∧ isFn (KP P) (.ref g) = true ∧ x ≠ "_headers" ∧ keepIn (KP P) (.ref g) = true := by
 intro x g h
 have h := lget_mem h
 simp only [hTab, List.mem_cons, List.not_mem_nil, or_false, Prod.mk.injEq] at h
 rcases h with ⟨rfl, rfl⟩ | ⟨rfl, rfl⟩ | ⟨rfl, rfl⟩ | ⟨rfl, rfl⟩ | ⟨rfl, rfl⟩ | ⟨rfl, rfl⟩ <;> exact ⟨by kernel_rfl, by kernel_rfl, by decide, by kernel_rfl⟩
theorem k_wMk (P : Params) : makesIn (KP P) 100 = true ∧ findIn (KP P) (.ref 100) "__init__" = some (some (.ref 55)) ∧ typeIn (KP P) (.ref 55) = some (.type "function") := ⟨by kernel_rfl, by kernel_rfl, by kernel_rfl⟩
theorem k_hMk (P : Params) : HdrFct (KP P) := ⟨by kernel_rfl, by kernel_rfl, by kernel_rfl⟩
theorem k_base {w : World} {h₀ : Heap} {prog : Program} {loose : List Str} {mean : ExcName → Option Value} {mg mb : Str → Option Value} (KX : (KP w.params).In h₀) (T : Top prog loose mean mg mb h₀) : Base w h₀ (KP w.params) Pr where
 KX := KX
 fct := k_fct w.params
 glob := by
  intro x v e M A E s env Z ρ Q hk hg hb hkd hx q
  have hc := List.all_eq_true.mp (k_glob w.params) _ (lget_mem e)
  refine ks_loadName_global hkd hx ?_
  have Tk := T.keeps hk
  have ng : s.heap.Ns env.globals mg := by rw [hg]; exact Tk.g
  have nb : s.heap.Ns env.builtins mb := by rw [hb]; exact Tk.b
  unfold gChk at hc
  rw [Bool.and_eq_true] at hc
  obtain ⟨hn, hc⟩ := hc
  dsimp only at hn hc
  have hne : x ≠ "__name__" := by
   rw [steq_eq] at hn
   simpa using hn
  split at hc
  ·rename_i a qa
   split at hc
   ·rename_i b
    have := Nat.eq_of_beq_eq_true hc
    subst this
    exact loadGlobal_global ng (mg_of KX T.g qa) (q _ (by unfold RV; rfl))
   ·cases hc
  ·rename_i i u qa
   split at hc
   ·rename_i j
    have := of_decide_eq_true hc
    subst this
    exact loadGlobal_global ng (mg_of KX T.g qa) (q _ (mkRV_int _ _))
   ·cases hc
  ·rename_i qa
   generalize qb : bootBuiltins x = bv at hc
   split at hc
   ·rename_i n m _
    have := of_decide_eq_true hc
    subst this
    exact loadGlobal_builtin ng (mg_none_of KX T.g qa) nb ((T.builtins x hne).trans qb) (q _ (by unfold RV; rfl))
   ·rename_i n m _
    have := of_decide_eq_true hc
    subst this
    exact loadGlobal_builtin ng (mg_none_of KX T.g qa) nb ((T.builtins x hne).trans qb) (q _ (by unfold RV; rfl))
   ·cases hc
  ·cases hc
 fn279 := fun fi h => by
  have : Pr.fn 279 = none := by kernel_rfl
  rw [this] at h; cases h
 keepFn := fun a h => by
  obtain ⟨h1, h2, h3, -⟩ := k_keep w.params
  rcases h with rfl | rfl | h
  ·exact h2
  ·exact h3
  ·obtain ⟨fi, h⟩ := Option.isSome_iff_exists.mp h
   exact List.all_eq_true.mp h1 a (List.mem_map_of_mem (nlook_mem h))
 wM := k_w w.params
 hM := k_h w.params
 wMk := k_wMk w.params
 xM := ⟨_, k_126 w.params, rfl, rfl⟩
 xGet := fun x o e prog A E s t d Q _ _ KS q => x_get e KS q
 sGet := fun a ha => ⟨"re.Pattern.search", fun KS q => s_meth ha KS q, fun _ _ KS hc hl q => s_get ha KS hc hl (q _ _ fun _ _ e => e)⟩
end Mine
end
section
set_option maxRecDepth 100000
namespace Mine
open PySem PySem.Calls
variable [Hsh]
def fdAt (K : Frag) (a : Addr) : Option FuncData := match K.lookup a with
 | some ⟨_, _, .func fd, _⟩ => some fd
 | _ => none
def codeChk (K : Frag) (fd : FuncData) : Bool := match fd.code with
 | .ref c => (match K.lookup c with
  | some ⟨_, _, .fields (vs : Array Value), _⟩ => (match (vs[1]? : Option Value) with
   | some (Value.str q _) => steq q fd.qualname
   | _ => false)
  | _ => false)
 | _ => false
theorem fdAt_in {K : Frag} {a : Addr} {fd : FuncData} {h : Heap} (e : fdAt K a = some fd) (KX : K.In h) : ∃ o, h.get? a = some o ∧ o.data = .func fd := by
 unfold fdAt at e
 split at e
 ·rename_i q
  cases e
  exact ⟨_, KX _ _ q, rfl⟩
 ·cases e
theorem codeChk_in {K : Frag} {fd : FuncData} {h : Heap} (e : codeChk K fd = true) (KX : K.In h) : h.CodeRec fd.code fd.qualname := by
 unfold codeChk at e
 split at e
 ·rename_i c hc
  split at e
  ·rename_i vs _ q
   split at e
   ·rename_i x t hq
    have := (steq_iff _ _).mp e
    subst this
    exact ⟨c, _, vs, t, hc, KX _ _ q, rfl, hq⟩
   ·cases e
  ·cases e
 ·cases e
structure FnAt (K : Frag) (a : Addr) (fi : FI) : Prop where
 body : (fdAt K a).map (fun fd => (fd.body, fd.scope)) = some (.stmts fi.body, fi.scope)
 rest : (fdAt K a).map (fun fd => (fd.globals, fd.builtins, fd.closure)) = some (mainGlobals, builtinsNs, [])
 code : (fdAt K a).map (codeChk K) = some true
theorem FnAt.get {K : Frag} {a : Addr} {fi : FI} {h : Heap} (F : FnAt K a fi) (KX : K.In h) : ∃ o fd, fdAt K a = some fd ∧ h.get? a = some o ∧ o.data = .func fd ∧ fd.body = .stmts fi.body ∧ fd.scope = fi.scope ∧ fd.globals = mainGlobals ∧ fd.builtins = builtinsNs ∧ fd.closure = [] ∧ h.CodeRec fd.code fd.qualname := by
 have h1 := F.body
 have h2 := F.rest
 have h3 := F.code
 cases e : fdAt K a with
 | none => rw [e] at h1; cases h1
 | some fd =>
  rw [e] at h1 h2 h3
  simp only [Option.map_some, Option.some.injEq, Prod.mk.injEq] at h1 h2 h3
  obtain ⟨o, ho, hd⟩ := fdAt_in e KX
  exact ⟨o, fd, rfl, ho, hd, h1.1, h1.2, h2.1, h2.2.1, h2.2.2, codeChk_in h3 KX⟩
theorem map_fd {K : Frag} {a : Addr} {fd : FuncData} {α : Type} {f : FuncData → α} {x : α} (e : fdAt K a = some fd) (h : (fdAt K a).map f = some x) : f fd = x := by
 rw [e] at h; exact Option.some.inj h
theorem len1 : ∀ {xs : List Value}, xs.length = 1 → ∃ x0, xs = [x0]
 | [x0], _ => ⟨x0, rfl⟩
theorem len2 : ∀ {xs : List Value}, xs.length = 2 → ∃ x0 x1, xs = [x0, x1]
 | [x0, x1], _ => ⟨x0, x1, rfl⟩
theorem len3 : ∀ {xs : List Value}, xs.length = 3 → ∃ x0 x1 x2, xs = [x0, x1, x2]
 | [x0, x1, x2], _ => ⟨x0, x1, x2, rfl⟩
theorem len4 : ∀ {xs : List Value}, xs.length = 4 → ∃ x0 x1 x2 x3, xs = [x0, x1, x2, x3]
 | [x0, x1, x2, x3], _ => ⟨x0, x1, x2, x3, rfl⟩
theorem len7 : ∀ {xs : List Value}, xs.length = 7 → ∃ x0 x1 x2 x3 x4 x5 x6, xs = [x0, x1, x2, x3, x4, x5, x6]
 | [x0, x1, x2, x3, x4, x5, x6], _ => ⟨x0, x1, x2, x3, x4, x5, x6, rfl⟩
theorem at_305 (P : Params) : FnAt (KP P) 305 fiSearch := ⟨by kernel_rfl, by kernel_rfl, by kernel_rfl⟩
theorem ln_305 : fiSearch.params.length = 7 := by kernel_rfl
theorem bd_305 (P : Params) (x0 x1 x2 x3 x4 x5 x6 : Value) : (fdAt (KP P) 305).map (fun fd => bindArgs fd ⟨[x0, x1, x2, x3, x4, x5, x6], []⟩) = some (pure (fiSearch.params.zip [x0, x1, x2, x3, x4, x5, x6])) := by kernel_rfl
theorem at_317 (P : Params) : FnAt (KP P) 317 fiLaw := ⟨by kernel_rfl, by kernel_rfl, by kernel_rfl⟩
theorem ln_317 : fiLaw.params.length = 1 := by kernel_rfl
theorem bd_317 (P : Params) (x0 : Value) : (fdAt (KP P) 317).map (fun fd => bindArgs fd ⟨[x0], []⟩) = some (pure (fiLaw.params.zip [x0])) := by kernel_rfl
theorem at_288 (P : Params) : FnAt (KP P) 288 fiTree := ⟨by kernel_rfl, by kernel_rfl, by kernel_rfl⟩
theorem ln_288 : fiTree.params.length = 1 := by kernel_rfl
theorem bd_288 (P : Params) (x0 : Value) : (fdAt (KP P) 288).map (fun fd => bindArgs fd ⟨[x0], []⟩) = some (pure (fiTree.params.zip [x0])) := by kernel_rfl
theorem at_293 (P : Params) : FnAt (KP P) 293 fiWorths := ⟨by kernel_rfl, by kernel_rfl, by kernel_rfl⟩
theorem ln_293 : fiWorths.params.length = 3 := by kernel_rfl
theorem bd_293 (P : Params) (x0 x1 x2 : Value) : (fdAt (KP P) 293).map (fun fd => bindArgs fd ⟨[x0, x1, x2], []⟩) = some (pure (fiWorths.params.zip [x0, x1, x2])) := by kernel_rfl
theorem at_298 (P : Params) : FnAt (KP P) 298 fiBounds := ⟨by kernel_rfl, by kernel_rfl, by kernel_rfl⟩
theorem ln_298 : fiBounds.params.length = 4 := by kernel_rfl
theorem bd_298 (P : Params) (x0 x1 x2 x3 : Value) : (fdAt (KP P) 298).map (fun fd => bindArgs fd ⟨[x0, x1, x2, x3], []⟩) = some (pure (fiBounds.params.zip [x0, x1, x2, x3])) := by kernel_rfl
theorem at_312 (P : Params) : FnAt (KP P) 312 fiRead := ⟨by kernel_rfl, by kernel_rfl, by kernel_rfl⟩
theorem ln_312 : fiRead.params.length = 2 := by kernel_rfl
theorem bd_312 (P : Params) (x0 x1 : Value) : (fdAt (KP P) 312).map (fun fd => bindArgs fd ⟨[x0, x1], []⟩) = some (pure (fiRead.params.zip [x0, x1])) := by kernel_rfl
theorem at_118 (P : Params) : FnAt (KP P) 118 fiStrip := ⟨by kernel_rfl, by kernel_rfl, by kernel_rfl⟩
theorem ln_118 : fiStrip.params.length = 1 := by kernel_rfl
theorem bd_118 (P : Params) (x0 : Value) : (fdAt (KP P) 118).map (fun fd => bindArgs fd ⟨[x0], []⟩) = some (pure (fiStrip.params.zip [x0])) := by kernel_rfl
theorem at_125 (P : Params) : FnAt (KP P) 125 fiCheck := ⟨by kernel_rfl, by kernel_rfl, by kernel_rfl⟩
theorem ln_125 : fiCheck.params.length = 1 := by kernel_rfl
theorem bd_125 (P : Params) (x0 : Value) : (fdAt (KP P) 125).map (fun fd => bindArgs fd ⟨[x0], []⟩) = some (pure (fiCheck.params.zip [x0])) := by kernel_rfl
theorem at_135 (P : Params) : FnAt (KP P) 135 fiNonT := ⟨by kernel_rfl, by kernel_rfl, by kernel_rfl⟩
theorem ln_135 : fiNonT.params.length = 1 := by kernel_rfl
theorem bd_135 (P : Params) (x0 : Value) : (fdAt (KP P) 135).map (fun fd => bindArgs fd ⟨[x0], []⟩) = some (pure (fiNonT.params.zip [x0])) := by kernel_rfl
theorem at_55 (P : Params) : FnAt (KP P) 55 fiWInit := ⟨by kernel_rfl, by kernel_rfl, by kernel_rfl⟩
theorem ln_55 : fiWInit.params.length = 2 := by kernel_rfl
theorem bd_55 (P : Params) (x0 x1 : Value) : (fdAt (KP P) 55).map (fun fd => bindArgs fd ⟨[x0, x1], []⟩) = some (pure (fiWInit.params.zip [x0, x1])) := by kernel_rfl
theorem at_62 (P : Params) : FnAt (KP P) 62 fiLongest := ⟨by kernel_rfl, by kernel_rfl, by kernel_rfl⟩
theorem ln_62 : fiLongest.params.length = 1 := by kernel_rfl
theorem bd_62 (P : Params) (x0 : Value) : (fdAt (KP P) 62).map (fun fd => bindArgs fd ⟨[x0], []⟩) = some (pure (fiLongest.params.zip [x0])) := by kernel_rfl
theorem at_69 (P : Params) : FnAt (KP P) 69 fiIndent := ⟨by kernel_rfl, by kernel_rfl, by kernel_rfl⟩
theorem ln_69 : fiIndent.params.length = 2 := by kernel_rfl
theorem bd_69 (P : Params) (x0 x1 : Value) : (fdAt (KP P) 69).map (fun fd => bindArgs fd ⟨[x0, x1], []⟩) = some (pure (fiIndent.params.zip [x0, x1])) := by kernel_rfl
theorem at_90 (P : Params) : FnAt (KP P) 90 fiLess := ⟨by kernel_rfl, by kernel_rfl, by kernel_rfl⟩
theorem ln_90 : fiLess.params.length = 2 := by kernel_rfl
theorem bd_90 (P : Params) (x0 x1 : Value) : (fdAt (KP P) 90).map (fun fd => bindArgs fd ⟨[x0, x1], []⟩) = some (pure (fiLess.params.zip [x0, x1])) := by kernel_rfl
theorem at_218 (P : Params) : FnAt (KP P) 218 fiGetAll := ⟨by kernel_rfl, by kernel_rfl, by kernel_rfl⟩
theorem ln_218 : fiGetAll.params.length = 2 := by kernel_rfl
theorem bd_218 (P : Params) (x0 x1 : Value) : (fdAt (KP P) 218).map (fun fd => bindArgs fd ⟨[x0, x1], []⟩) = some (pure (fiGetAll.params.zip [x0, x1])) := by kernel_rfl
theorem at_243 (P : Params) : FnAt (KP P) 243 fiItems := ⟨by kernel_rfl, by kernel_rfl, by kernel_rfl⟩
theorem ln_243 : fiItems.params.length = 1 := by kernel_rfl
theorem bd_243 (P : Params) (x0 : Value) : (fdAt (KP P) 243).map (fun fd => bindArgs fd ⟨[x0], []⟩) = some (pure (fiItems.params.zip [x0])) := by kernel_rfl
theorem at_269 (P : Params) : FnAt (KP P) 269 fiSetd := ⟨by kernel_rfl, by kernel_rfl, by kernel_rfl⟩
theorem ln_269 : fiSetd.params.length = 3 := by kernel_rfl
theorem bd_269 (P : Params) (x0 x1 x2 : Value) : (fdAt (KP P) 269).map (fun fd => bindArgs fd ⟨[x0, x1, x2], []⟩) = some (pure (fiSetd.params.zip [x0, x1, x2])) := by kernel_rfl
theorem at_111 (P : Params) : FnAt (KP P) 111 fiGen := ⟨by kernel_rfl, by kernel_rfl, by kernel_rfl⟩
theorem ln_111 : fiGen.params.length = 1 := by kernel_rfl
theorem bd_111 (P : Params) (x0 : Value) : (fdAt (KP P) 111).map (fun fd => bindArgs fd ⟨[x0], []⟩) = some (pure (fiGen.params.zip [x0])) := by kernel_rfl
section
variable {prog : Program} {w : World} {h₀ : Heap}
theorem fn_305 (KX : (KP w.params).In h₀) (nl : h₀.NoLimit) : FnOk prog w h₀ 305 fiSearch := by
 obtain ⟨o, fd, e, h1, h2, h3, h4, h5, h6, h7, h8⟩ := (at_305 w.params).get KX
 refine ⟨nl, ⟨o, fd, h1, h2, h3, h4, h5, h6, h7, h8, bindOk_plain (by kernel_rfl) (by kernel_rfl) (by kernel_rfl) (by kernel_rfl) (by kernel_rfl) fun xs hl => ?_⟩, by kernel_rfl, by kernel_rfl, by kernel_rfl⟩
 rw [ln_305] at hl
 obtain ⟨x0, x1, x2, x3, x4, x5, x6, rfl⟩ := len7 hl
 exact map_fd e (bd_305 w.params x0 x1 x2 x3 x4 x5 x6)
theorem fn_317 (KX : (KP w.params).In h₀) (nl : h₀.NoLimit) : FnOk prog w h₀ 317 fiLaw := by
 obtain ⟨o, fd, e, h1, h2, h3, h4, h5, h6, h7, h8⟩ := (at_317 w.params).get KX
 refine ⟨nl, ⟨o, fd, h1, h2, h3, h4, h5, h6, h7, h8, bindOk_plain (by kernel_rfl) (by kernel_rfl) (by kernel_rfl) (by kernel_rfl) (by kernel_rfl) fun xs hl => ?_⟩, by kernel_rfl, by kernel_rfl, by kernel_rfl⟩
 rw [ln_317] at hl
 obtain ⟨x0, rfl⟩ := len1 hl
 exact map_fd e (bd_317 w.params x0)
theorem fn_288 (KX : (KP w.params).In h₀) (nl : h₀.NoLimit) : FnOk prog w h₀ 288 fiTree := by
 obtain ⟨o, fd, e, h1, h2, h3, h4, h5, h6, h7, h8⟩ := (at_288 w.params).get KX
 refine ⟨nl, ⟨o, fd, h1, h2, h3, h4, h5, h6, h7, h8, bindOk_plain (by kernel_rfl) (by kernel_rfl) (by kernel_rfl) (by kernel_rfl) (by kernel_rfl) fun xs hl => ?_⟩, by kernel_rfl, by kernel_rfl, by kernel_rfl⟩
 rw [ln_288] at hl
 obtain ⟨x0, rfl⟩ := len1 hl
 exact map_fd e (bd_288 w.params x0)
theorem fn_293 (KX : (KP w.params).In h₀) (nl : h₀.NoLimit) : FnOk prog w h₀ 293 fiWorths := by
 obtain ⟨o, fd, e, h1, h2, h3, h4, h5, h6, h7, h8⟩ := (at_293 w.params).get KX
 refine ⟨nl, ⟨o, fd, h1, h2, h3, h4, h5, h6, h7, h8, bindOk_plain (by kernel_rfl) (by kernel_rfl) (by kernel_rfl) (by kernel_rfl) (by kernel_rfl) fun xs hl => ?_⟩, by kernel_rfl, by kernel_rfl, by kernel_rfl⟩
 rw [ln_293] at hl
 obtain ⟨x0, x1, x2, rfl⟩ := len3 hl
 exact map_fd e (bd_293 w.params x0 x1 x2)
theorem fn_298 (KX : (KP w.params).In h₀) (nl : h₀.NoLimit) : FnOk prog w h₀ 298 fiBounds := by
 obtain ⟨o, fd, e, h1, h2, h3, h4, h5, h6, h7, h8⟩ := (at_298 w.params).get KX
 refine ⟨nl, ⟨o, fd, h1, h2, h3, h4, h5, h6, h7, h8, bindOk_plain (by kernel_rfl) (by kernel_rfl) (by kernel_rfl) (by kernel_rfl) (by kernel_rfl) fun xs hl => ?_⟩, by kernel_rfl, by kernel_rfl, by kernel_rfl⟩
 rw [ln_298] at hl
 obtain ⟨x0, x1, x2, x3, rfl⟩ := len4 hl
 exact map_fd e (bd_298 w.params x0 x1 x2 x3)
theorem fn_312 (KX : (KP w.params).In h₀) (nl : h₀.NoLimit) : FnOk prog w h₀ 312 fiRead := by
 obtain ⟨o, fd, e, h1, h2, h3, h4, h5, h6, h7, h8⟩ := (at_312 w.params).get KX
 refine ⟨nl, ⟨o, fd, h1, h2, h3, h4, h5, h6, h7, h8, bindOk_plain (by kernel_rfl) (by kernel_rfl) (by kernel_rfl) (by kernel_rfl) (by kernel_rfl) fun xs hl => ?_⟩, by kernel_rfl, by kernel_rfl, by kernel_rfl⟩
 rw [ln_312] at hl
 obtain ⟨x0, x1, rfl⟩ := len2 hl
 exact map_fd e (bd_312 w.params x0 x1)
theorem fn_118 (KX : (KP w.params).In h₀) (nl : h₀.NoLimit) : FnOk prog w h₀ 118 fiStrip := by
 obtain ⟨o, fd, e, h1, h2, h3, h4, h5, h6, h7, h8⟩ := (at_118 w.params).get KX
 refine ⟨nl, ⟨o, fd, h1, h2, h3, h4, h5, h6, h7, h8, bindOk_plain (by kernel_rfl) (by kernel_rfl) (by kernel_rfl) (by kernel_rfl) (by kernel_rfl) fun xs hl => ?_⟩, by kernel_rfl, by kernel_rfl, by kernel_rfl⟩
 rw [ln_118] at hl
 obtain ⟨x0, rfl⟩ := len1 hl
 exact map_fd e (bd_118 w.params x0)
theorem fn_125 (KX : (KP w.params).In h₀) (nl : h₀.NoLimit) : FnOk prog w h₀ 125 fiCheck := by
 obtain ⟨o, fd, e, h1, h2, h3, h4, h5, h6, h7, h8⟩ := (at_125 w.params).get KX
 refine ⟨nl, ⟨o, fd, h1, h2, h3, h4, h5, h6, h7, h8, bindOk_plain (by kernel_rfl) (by kernel_rfl) (by kernel_rfl) (by kernel_rfl) (by kernel_rfl) fun xs hl => ?_⟩, by kernel_rfl, by kernel_rfl, by kernel_rfl⟩
 rw [ln_125] at hl
 obtain ⟨x0, rfl⟩ := len1 hl
 exact map_fd e (bd_125 w.params x0)
theorem fn_135 (KX : (KP w.params).In h₀) (nl : h₀.NoLimit) : FnOk prog w h₀ 135 fiNonT := by
 obtain ⟨o, fd, e, h1, h2, h3, h4, h5, h6, h7, h8⟩ := (at_135 w.params).get KX
 refine ⟨nl, ⟨o, fd, h1, h2, h3, h4, h5, h6, h7, h8, bindOk_plain (by kernel_rfl) (by kernel_rfl) (by kernel_rfl) (by kernel_rfl) (by kernel_rfl) fun xs hl => ?_⟩, by kernel_rfl, by kernel_rfl, by kernel_rfl⟩
 rw [ln_135] at hl
 obtain ⟨x0, rfl⟩ := len1 hl
 exact map_fd e (bd_135 w.params x0)
theorem fn_55 (KX : (KP w.params).In h₀) (nl : h₀.NoLimit) : FnOk prog w h₀ 55 fiWInit := by
 obtain ⟨o, fd, e, h1, h2, h3, h4, h5, h6, h7, h8⟩ := (at_55 w.params).get KX
 refine ⟨nl, ⟨o, fd, h1, h2, h3, h4, h5, h6, h7, h8, bindOk_plain (by kernel_rfl) (by kernel_rfl) (by kernel_rfl) (by kernel_rfl) (by kernel_rfl) fun xs hl => ?_⟩, by kernel_rfl, by kernel_rfl, by kernel_rfl⟩
 rw [ln_55] at hl
 obtain ⟨x0, x1, rfl⟩ := len2 hl
 exact map_fd e (bd_55 w.params x0 x1)
theorem fn_62 (KX : (KP w.params).In h₀) (nl : h₀.NoLimit) : FnOk prog w h₀ 62 fiLongest := by
 obtain ⟨o, fd, e, h1, h2, h3, h4, h5, h6, h7, h8⟩ := (at_62 w.params).get KX
 refine ⟨nl, ⟨o, fd, h1, h2, h3, h4, h5, h6, h7, h8, bindOk_plain (by kernel_rfl) (by kernel_rfl) (by kernel_rfl) (by kernel_rfl) (by kernel_rfl) fun xs hl => ?_⟩, by kernel_rfl, by kernel_rfl, by kernel_rfl⟩
 rw [ln_62] at hl
 obtain ⟨x0, rfl⟩ := len1 hl
 exact map_fd e (bd_62 w.params x0)
theorem fn_69 (KX : (KP w.params).In h₀) (nl : h₀.NoLimit) : FnOk prog w h₀ 69 fiIndent := by
 obtain ⟨o, fd, e, h1, h2, h3, h4, h5, h6, h7, h8⟩ := (at_69 w.params).get KX
 refine ⟨nl, ⟨o, fd, h1, h2, h3, h4, h5, h6, h7, h8, bindOk_plain (by kernel_rfl) (by kernel_rfl) (by kernel_rfl) (by kernel_rfl) (by kernel_rfl) fun xs hl => ?_⟩, by kernel_rfl, by kernel_rfl, by kernel_rfl⟩
 rw [ln_69] at hl
 obtain ⟨x0, x1, rfl⟩ := len2 hl
 exact map_fd e (bd_69 w.params x0 x1)
theorem fn_90 (KX : (KP w.params).In h₀) (nl : h₀.NoLimit) : FnOk prog w h₀ 90 fiLess := by
 obtain ⟨o, fd, e, h1, h2, h3, h4, h5, h6, h7, h8⟩ := (at_90 w.params).get KX
 refine ⟨nl, ⟨o, fd, h1, h2, h3, h4, h5, h6, h7, h8, bindOk_plain (by kernel_rfl) (by kernel_rfl) (by kernel_rfl) (by kernel_rfl) (by kernel_rfl) fun xs hl => ?_⟩, by kernel_rfl, by kernel_rfl, by kernel_rfl⟩
 rw [ln_90] at hl
 obtain ⟨x0, x1, rfl⟩ := len2 hl
 exact map_fd e (bd_90 w.params x0 x1)
theorem fn_218 (KX : (KP w.params).In h₀) (nl : h₀.NoLimit) : FnOk prog w h₀ 218 fiGetAll := by
 obtain ⟨o, fd, e, h1, h2, h3, h4, h5, h6, h7, h8⟩ := (at_218 w.params).get KX
 refine ⟨nl, ⟨o, fd, h1, h2, h3, h4, h5, h6, h7, h8, bindOk_plain (by kernel_rfl) (by kernel_rfl) (by kernel_rfl) (by kernel_rfl) (by kernel_rfl) fun xs hl => ?_⟩, by kernel_rfl, by kernel_rfl, by kernel_rfl⟩
 rw [ln_218] at hl
 obtain ⟨x0, x1, rfl⟩ := len2 hl
 exact map_fd e (bd_218 w.params x0 x1)
theorem fn_243 (KX : (KP w.params).In h₀) (nl : h₀.NoLimit) : FnOk prog w h₀ 243 fiItems := by
 obtain ⟨o, fd, e, h1, h2, h3, h4, h5, h6, h7, h8⟩ := (at_243 w.params).get KX
 refine ⟨nl, ⟨o, fd, h1, h2, h3, h4, h5, h6, h7, h8, bindOk_plain (by kernel_rfl) (by kernel_rfl) (by kernel_rfl) (by kernel_rfl) (by kernel_rfl) fun xs hl => ?_⟩, by kernel_rfl, by kernel_rfl, by kernel_rfl⟩
 rw [ln_243] at hl
 obtain ⟨x0, rfl⟩ := len1 hl
 exact map_fd e (bd_243 w.params x0)
theorem fn_269 (KX : (KP w.params).In h₀) (nl : h₀.NoLimit) : FnOk prog w h₀ 269 fiSetd := by
 obtain ⟨o, fd, e, h1, h2, h3, h4, h5, h6, h7, h8⟩ := (at_269 w.params).get KX
 refine ⟨nl, ⟨o, fd, h1, h2, h3, h4, h5, h6, h7, h8, bindOk_plain (by kernel_rfl) (by kernel_rfl) (by kernel_rfl) (by kernel_rfl) (by kernel_rfl) fun xs hl => ?_⟩, by kernel_rfl, by kernel_rfl, by kernel_rfl⟩
 rw [ln_269] at hl
 obtain ⟨x0, x1, x2, rfl⟩ := len3 hl
 exact map_fd e (bd_269 w.params x0 x1 x2)
theorem fn_111 (KX : (KP w.params).In h₀) (nl : h₀.NoLimit) : GenOk prog w h₀ 111 fiGen := by
 obtain ⟨o, fd, e, h1, h2, h3, h4, h5, h6, h7, h8⟩ := (at_111 w.params).get KX
 refine ⟨nl, ⟨o, fd, h1, h2, h3, h4, h5, h6, h7, h8, bindOk_plain (by kernel_rfl) (by kernel_rfl) (by kernel_rfl) (by kernel_rfl) (by kernel_rfl) fun xs hl => ?_⟩, by kernel_rfl, by kernel_rfl, by kernel_rfl⟩
 rw [ln_111] at hl
 obtain ⟨x0, rfl⟩ := len1 hl
 exact map_fd e (bd_111 w.params x0)
end
end Mine
end
section
set_option maxRecDepth 100000
namespace Mine
open PySem PySem.Calls
variable [Hsh]
def ldGo {α : Type} (m : Sem α) (T : Addr) (o : Obj) : Option (Sem α) := match m with
 | .load a _ k => (match Nat.beq a T with
  | true => some (k o)
  | false => none)
 | _ => none
theorem ldGo_wp {α : Type} {M : Model} {A : Around} {E : Value → Shared → Prop} {s : Shared} {m : Sem α} {T : Addr} {o : Obj} {x : α} {Q : α → Shared → Prop} (h : ldGo m T o = some (pure x)) (ho : s.heap.get? T = some o) (q : Q x s) : wpAny M A m Q E s := by
 unfold ldGo at h
 split at h
 ·rename_i a p k
  split at h
  ·rename_i hb
   have := Nat.eq_of_beq_eq_true hb
   subst this
   have hk : k o = pure x := Option.some.inj h
   show wpAny M A (loadPart a p >>= k) Q E s
   refine wpAny_bind (wpAny_loadPart ho ?_)
   rw [hk]
   exact wpAny_pure q
  ·cases h
 ·cases h
theorem bindOk_ld {prog : Program} {w : World} {h₀ : Heap} {fd : FuncData} {fi : FI} {T : Addr} {o : Obj} {items : List Value} (hk : fi.kwarg = none) (ho : fi.kwonly = []) (nd : nodupS fi.params = true) (loc : fi.params.all (isLocal fi.scope) = true)
  (hT : h₀.get? T = some o) (hv : ∀ (Z : Gh) (ρ : List Addr), RVs Z ρ (fi.dflt.map .f) items)
  (hb : ∀ xs : List Value, xs.length ≤ fi.params.length → fi.params.length ≤ xs.length + fi.dflt.length → ldGo (bindArgs fd ⟨xs, []⟩) T o = some (pure (fi.params.zip (xs ++ items.drop (xs.length + fi.dflt.length - fi.params.length))))) : BindOk prog w h₀ fd fi := by
 intro args kws lc e
 have e' : kws = [] ∧ zipL fi.params (args ++ (fi.dflt.map V.f).drop (args.length + fi.dflt.length - fi.params.length)) = some lc := by
  unfold bindFI at e
  rw [hk, ho] at e
  dsimp only at e
  cases kws with
  | nil => exact ⟨rfl, by simpa [List.map_drop] using e⟩
  | cons _ _ => cases e
 obtain ⟨rfl, ez⟩ := e'
 refine ⟨by rw [(zipL_some ez).1]; exact nodupS_iff nd, loc_of (zipL_some ez).1 loc, fun {A E s os₀ Z ρ hh xs ks Q} Re ra rk q => ?_⟩
 obtain ⟨z1, z2, z3⟩ := zipL_some ez
 cases rk
 have hl := ra.length
 simp only [List.length_append, List.length_drop, List.length_map] at z2
 refine ldGo_wp (hb xs (by omega) (by omega)) (Re.fz _ _ (Re.base _ _ hT)) (q _ s Z (fun _ _ e => e) StpH.refl Re (z3 ?_))
 rw [hl]
 exact ra.app ((hv Z ρ).dropN _)
def dfT (K : Frag) (a : Addr) : Addr := match fdAt K a with
 | some fd => (match fd.defaults with
  | .ref t => t
  | _ => 0)
 | none => 0
def obAt (K : Frag) (T : Addr) : Obj := (K.lookup T).getD default
theorem at_226 (P : Params) : FnAt (KP P) 226 fiGet := ⟨by kernel_rfl, by kernel_rfl, by kernel_rfl⟩
theorem at_158 (P : Params) : FnAt (KP P) 158 fiFmt := ⟨by kernel_rfl, by kernel_rfl, by kernel_rfl⟩
theorem at_173 (P : Params) : FnAt (KP P) 173 fiHInit := ⟨by kernel_rfl, by kernel_rfl, by kernel_rfl⟩
theorem at_180 (P : Params) : FnAt (KP P) 180 fiConv := ⟨by kernel_rfl, by kernel_rfl, by kernel_rfl⟩
theorem at_276 (P : Params) : FnAt (KP P) 276 fiAdd := ⟨by kernel_rfl, by kernel_rfl, by kernel_rfl⟩
theorem ob_at {P : Params} {T : Addr} {h : Heap} (KX : (KP P).In h) (e : ((KP P).lookup T).isSome = true) : h.get? T = some (obAt (KP P) T) := by
 obtain ⟨o, ho⟩ := Option.isSome_iff_exists.mp e
 unfold obAt
 rw [ho]
 exact KX _ _ ho
theorem df_226 (P : Params) : ((KP P).lookup (dfT (KP P) 226)).isSome = true := by kernel_rfl
theorem df_158 (P : Params) : ((KP P).lookup (dfT (KP P) 158)).isSome = true := by kernel_rfl
theorem df_173 (P : Params) : ((KP P).lookup (dfT (KP P) 173)).isSome = true := by kernel_rfl
def seqL (o : Obj) : List Value := match o.data with
 | .seq a _ => a.toList
 | _ => []
def tk1 : List Value → Tok
 | _ :: .int _ t :: _ => t
 | _ => 0
theorem it_158 (P : Params) : seqL (obAt (KP P) (dfT (KP P) 158)) = [.none, .int 1 (tk1 (seqL (obAt (KP P) (dfT (KP P) 158))))] := by kernel_rfl
theorem b226_2 (P : Params) (x y : Value) : (fdAt (KP P) 226).map (fun fd => ldGo (bindArgs fd ⟨[x, y], []⟩) (dfT (KP P) 226) (obAt (KP P) (dfT (KP P) 226))) = some (some (pure (fiGet.params.zip [x, y, .none]))) := by kernel_rfl
theorem b226_3 (P : Params) (x y z : Value) : (fdAt (KP P) 226).map (fun fd => ldGo (bindArgs fd ⟨[x, y, z], []⟩) (dfT (KP P) 226) (obAt (KP P) (dfT (KP P) 226))) = some (some (pure (fiGet.params.zip [x, y, z]))) := by kernel_rfl
theorem b173_1 (P : Params) (x : Value) : (fdAt (KP P) 173).map (fun fd => ldGo (bindArgs fd ⟨[x], []⟩) (dfT (KP P) 173) (obAt (KP P) (dfT (KP P) 173))) = some (some (pure (fiHInit.params.zip [x, .none]))) := by kernel_rfl
theorem b173_2 (P : Params) (x y : Value) : (fdAt (KP P) 173).map (fun fd => ldGo (bindArgs fd ⟨[x, y], []⟩) (dfT (KP P) 173) (obAt (KP P) (dfT (KP P) 173))) = some (some (pure (fiHInit.params.zip [x, y]))) := by kernel_rfl
theorem b158_1 (P : Params) (x : Value) : (fdAt (KP P) 158).map (fun fd => ldGo (bindArgs fd ⟨[x], []⟩) (dfT (KP P) 158) (obAt (KP P) (dfT (KP P) 158))) = some (some (pure (fiFmt.params.zip (x :: seqL (obAt (KP P) (dfT (KP P) 158)))))) := by kernel_rfl
theorem b158_2 (P : Params) (x y : Value) : (fdAt (KP P) 158).map (fun fd => ldGo (bindArgs fd ⟨[x, y], []⟩) (dfT (KP P) 158) (obAt (KP P) (dfT (KP P) 158))) = some (some (pure (fiFmt.params.zip (x :: y :: (seqL (obAt (KP P) (dfT (KP P) 158))).drop 1)))) := by kernel_rfl
theorem b158_3 (P : Params) (x y z : Value) : (fdAt (KP P) 158).map (fun fd => ldGo (bindArgs fd ⟨[x, y, z], []⟩) (dfT (KP P) 158) (obAt (KP P) (dfT (KP P) 158))) = some (some (pure (fiFmt.params.zip [x, y, z]))) := by kernel_rfl
theorem b180 (P : Params) (x y z : Value) : (fdAt (KP P) 180).map (fun fd => bindArgs fd ⟨[x, y], [("name", z)]⟩) = some (pure (fiConv.params.zip [x, y] ++ [(("name" : Str), z)])) := by kernel_rfl
theorem b276_0 (P : Params) (x y z : Value) : (fdAt (KP P) 276).map (fun fd => bindArgs fd ⟨[x, y, z], []⟩) = some (do let d ← alloc { cls := .type "dict", data := .dict #[] }; pure (fiAdd.params.zip [x, y, z] ++ [(("_params" : Str), Value.ref d)])) := by kernel_rfl
theorem b276_2 (P : Params) (x y z y1 y2 : Value) : (fdAt (KP P) 276).map (fun fd => bindArgs fd ⟨[x, y, z], [("low", y1), ("high", y2)]⟩) = some (do let d ← alloc { cls := .type "dict", data := .dict #[] }; let _ ← (forIn [(("low" : Str), y1), ("high", y2)] PUnit.unit (fun (p : Str × Value) _ => do nsSet d p.1 p.2; pure (ForInStep.yield PUnit.unit)) : Sem PUnit); pure (fiAdd.params.zip [x, y, z] ++ [(("_params" : Str), Value.ref d)])) := by kernel_rfl
section
variable {prog : Program} {w : World} {h₀ : Heap}
theorem fn_226 (KX : (KP w.params).In h₀) (nl : h₀.NoLimit) : FnOk prog w h₀ 226 fiGet := by
 obtain ⟨o, fd, e, h1, h2, h3, h4, h5, h6, h7, h8⟩ := (at_226 w.params).get KX
 refine ⟨nl, ⟨o, fd, h1, h2, h3, h4, h5, h6, h7, h8, bindOk_ld (items := [.none]) (by kernel_rfl) (by kernel_rfl) (by kernel_rfl) (by kernel_rfl) (ob_at KX (df_226 w.params)) (fun Z ρ => ?_) fun xs hl hm => ?_⟩, by kernel_rfl, by kernel_rfl, by kernel_rfl⟩
 ·have : fiGet.dflt = [.none] := rfl
  rw [this]
  show RVs Z ρ [V.f .none] [Value.none]
  unfold RVs
  exact ⟨_, _, rfl, mkRV_none, by unfold RVs; rfl⟩
 ·have hp : fiGet.params.length = 3 := by kernel_rfl
  have hd : fiGet.dflt.length = 1 := rfl
  rw [hp] at hl hm ⊢
  rw [hd] at hm ⊢
  by_cases h : xs.length = 2
  ·obtain ⟨x, y, rfl⟩ := len2 h
   exact map_fd e (b226_2 w.params x y)
  ·obtain ⟨x, y, z, rfl⟩ := len3 (show xs.length = 3 by omega)
   exact map_fd e (b226_3 w.params x y z)
theorem fn_173 (KX : (KP w.params).In h₀) (nl : h₀.NoLimit) : FnOk prog w h₀ 173 fiHInit := by
 obtain ⟨o, fd, e, h1, h2, h3, h4, h5, h6, h7, h8⟩ := (at_173 w.params).get KX
 refine ⟨nl, ⟨o, fd, h1, h2, h3, h4, h5, h6, h7, h8, bindOk_ld (items := [.none]) (by kernel_rfl) (by kernel_rfl) (by kernel_rfl) (by kernel_rfl) (ob_at KX (df_173 w.params)) (fun Z ρ => ?_) fun xs hl hm => ?_⟩, by kernel_rfl, by kernel_rfl, by kernel_rfl⟩
 ·have : fiHInit.dflt = [.none] := by kernel_rfl
  rw [this]
  show RVs Z ρ [V.f .none] [Value.none]
  unfold RVs
  exact ⟨_, _, rfl, mkRV_none, by unfold RVs; rfl⟩
 ·have hp : fiHInit.params.length = 2 := by kernel_rfl
  have hd : fiHInit.dflt.length = 1 := by kernel_rfl
  rw [hp] at hl hm ⊢
  rw [hd] at hm ⊢
  by_cases h : xs.length = 1
  ·obtain ⟨x, rfl⟩ := len1 h
   exact map_fd e (b173_1 w.params x)
  ·obtain ⟨x, y, rfl⟩ := len2 (show xs.length = 2 by omega)
   exact map_fd e (b173_2 w.params x y)
theorem fn_158 (KX : (KP w.params).In h₀) (nl : h₀.NoLimit) : FnOk prog w h₀ 158 fiFmt := by
 obtain ⟨o, fd, e, h1, h2, h3, h4, h5, h6, h7, h8⟩ := (at_158 w.params).get KX
 refine ⟨nl, ⟨o, fd, h1, h2, h3, h4, h5, h6, h7, h8, bindOk_ld (items := seqL (obAt (KP w.params) (dfT (KP w.params) 158))) (by kernel_rfl) (by kernel_rfl) (by kernel_rfl) (by kernel_rfl) (ob_at KX (df_158 w.params)) (fun Z ρ => ?_) fun xs hl hm => ?_⟩, by kernel_rfl, by kernel_rfl, by kernel_rfl⟩
 ·rw [it_158]
  have : fiFmt.dflt = [.none, .int 1] := by kernel_rfl
  rw [this]
  show RVs Z ρ [V.f .none, V.f (.int 1)] _
  unfold RVs
  refine ⟨_, _, rfl, mkRV_none, ?_⟩
  unfold RVs
  exact ⟨_, _, rfl, mkRV_int _ _, by unfold RVs; rfl⟩
 ·have hp : fiFmt.params.length = 3 := by kernel_rfl
  have hd : fiFmt.dflt.length = 2 := by kernel_rfl
  rw [hp] at hl hm ⊢
  rw [hd] at hm ⊢
  have h123 : xs.length = 1 ∨ xs.length = 2 ∨ xs.length = 3 := by omega
  rcases h123 with h | h | h
  ·obtain ⟨x, rfl⟩ := len1 h
   exact map_fd e (b158_1 w.params x)
  ·obtain ⟨x, y, rfl⟩ := len2 h
   exact map_fd e (b158_2 w.params x y)
  ·obtain ⟨x, y, z, rfl⟩ := len3 h
   have := map_fd e (b158_3 w.params x y z)
   rw [this]
   have hs : (seqL (obAt (KP w.params) (dfT (KP w.params) 158))).drop 2 = [] := by rw [it_158]; rfl
   show _ = some (pure (fiFmt.params.zip ([x, y, z] ++ (seqL (obAt (KP w.params) (dfT (KP w.params) 158))).drop 2)))
   rw [hs]; rfl
theorem fn_180 (KX : (KP w.params).In h₀) (nl : h₀.NoLimit) : FnOk prog w h₀ 180 fiConv := by
 obtain ⟨o, fd, e, h1, h2, h3, h4, h5, h6, h7, h8⟩ := (at_180 w.params).get KX
 refine ⟨nl, ⟨o, fd, h1, h2, h3, h4, h5, h6, h7, h8, bindOk_kwonly (k := "name") (by kernel_rfl) (by kernel_rfl) (by kernel_rfl) (by kernel_rfl) fun xs y hl => ?_⟩, by kernel_rfl, by kernel_rfl, by kernel_rfl⟩
 have hp : fiConv.params.length = 2 := by kernel_rfl
 rw [hp] at hl
 obtain ⟨x, z, rfl⟩ := len2 hl
 exact map_fd e (b180 w.params x z y)
theorem fn_276 (hH : ∀ x, Hsh.hsh x = hashStr w x) (KX : (KP w.params).In h₀) (nl : h₀.NoLimit) : FnOk prog w h₀ 276 fiAdd := by
 obtain ⟨o, fd, e, h1, h2, h3, h4, h5, h6, h7, h8⟩ := (at_276 w.params).get KX
 have hp : fiAdd.params.length = 3 := by kernel_rfl
 refine ⟨nl, ⟨o, fd, h1, h2, h3, h4, h5, h6, h7, h8, bindOk_kwarg (kn := "_params") hH (by kernel_rfl) (by kernel_rfl) (by kernel_rfl) h1 (fun xs hl => ?_) fun xs y1 y2 hl => ?_⟩, by kernel_rfl, by kernel_rfl, by kernel_rfl⟩
 ·rw [hp] at hl
  obtain ⟨x, y, z, rfl⟩ := len3 hl
  exact map_fd e (b276_0 w.params x y z)
 ·rw [hp] at hl
  obtain ⟨x, y, z, rfl⟩ := len3 hl
  exact map_fd e (b276_2 w.params x y z y1 y2)
theorem fn_all (hH : ∀ x, Hsh.hsh x = hashStr w x) (KX : (KP w.params).In h₀) (nl : h₀.NoLimit) : ∀ a fi, Pr.fn a = some fi → FnOk prog w h₀ a fi := by
 intro a fi h
 have h := nlook_mem h
 simp only [fnTab, List.mem_cons, List.not_mem_nil, or_false, Prod.mk.injEq] at h
 rcases h with ⟨rfl, rfl⟩ | ⟨rfl, rfl⟩ | ⟨rfl, rfl⟩ | ⟨rfl, rfl⟩ | ⟨rfl, rfl⟩ | ⟨rfl, rfl⟩ | ⟨rfl, rfl⟩ | ⟨rfl, rfl⟩ | ⟨rfl, rfl⟩ | ⟨rfl, rfl⟩ | ⟨rfl, rfl⟩ | ⟨rfl, rfl⟩ | ⟨rfl, rfl⟩ | ⟨rfl, rfl⟩ | ⟨rfl, rfl⟩ | ⟨rfl, rfl⟩ | ⟨rfl, rfl⟩ | ⟨rfl, rfl⟩ | ⟨rfl, rfl⟩ | ⟨rfl, rfl⟩
 ·exact fn_305 KX nl
 ·exact fn_317 KX nl
 ·exact fn_288 KX nl
 ·exact fn_293 KX nl
 ·exact fn_298 KX nl
 ·exact fn_312 KX nl
 ·exact fn_118 KX nl
 ·exact fn_125 KX nl
 ·exact fn_135 KX nl
 ·exact fn_158 KX nl
 ·exact fn_55 KX nl
 ·exact fn_62 KX nl
 ·exact fn_69 KX nl
 ·exact fn_90 KX nl
 ·exact fn_180 KX nl
 ·exact fn_218 KX nl
 ·exact fn_226 KX nl
 ·exact fn_243 KX nl
 ·exact fn_269 KX nl
 ·exact fn_276 hH KX nl
end
end Mine
end
section
set_option maxRecDepth 100000
namespace Mine
open PySem PySem.Calls
def kT : KV Unit := fun v _ => match v with
 | .f (.bool true) => some ()
 | _ => none
theorem kT_some {v : V} {h : H} (e : kT v h = some ()) : v = .f (.bool true) := by
 unfold kT at e
 split at e
 ·rfl
 ·cases e
theorem RFs_ints [Hsh] {Z : Gh} : ∀ {vs : List Value} {ns : List Int}, IntsAre vs ns → RFs Z (ns.map .int) vs := by
 intro vs ns h
 induction h with
 | nil => unfold RFs; rfl
 | cons _ _ _ ih =>
  rw [List.map_cons]
  unfold RFs
  exact ⟨_, _, rfl, by unfold RF; exact ⟨_, rfl⟩, ih⟩
theorem law_at (P : Params) : nsIn (KP P) mainGlobals "law" = some (some (.ref 317)) := by kernel_rfl
theorem SCl.up [Hsh] {R : Type} {prog : Program} {w : World} {h₀ : Heap} {n : Nat} {C : Cl R} (S : SCl prog w h₀ n C) : SCl prog w h₀ (n + 1) C := by
 intro a args kws hh k r e A s os₀ Z ρ xs ks Q ok Re ra rk p
 exact S e ⟨by have := ok.dep; omega, by have := ok.uni; omega, ok.hand⟩ Re ra rk p
theorem tow_snd [Hsh] {prog : Program} {w : World} {h₀ : Heap} {K : Frag} (B : Base w h₀ K Pr) (FO : ∀ a fi, Pr.fn a = some fi → FnOk prog w h₀ a fi) (HM : ∀ n, HdrOk prog w h₀ (n + 1)) (HI : ∀ n, HItems prog w h₀ n) (HG : ∀ n, HGen prog w h₀ Pr (n + 1))
  (hg : keepIn K (.ref Pr.genFn) = true) {n : Nat} {C : Cl Unit} (T : Tow n C) : 1 ≤ n ∧ SCl prog w h₀ n C ∧ SCl prog w h₀ (n + 1) (callFn Pr C) := by
 have nx : ∀ {n : Nat} {C : Cl Unit}, 1 ≤ n → SCl prog w h₀ n C → SCl prog w h₀ (n + 1) (callFn Pr C) := by
  intro n C hn SC
  obtain ⟨m, rfl⟩ : ∃ m, n = m + 1 := ⟨n - 1, by omega⟩
  exact callFn_snd ⟨B, SC, fun _ => HM m, HI (m + 1), fun _ => HG m, hg⟩ FO
 induction T with
 | zero => exact ⟨Nat.le_refl _, none_snd, nx (Nat.le_refl _) none_snd⟩
 | @step n C a0 S T hS ih =>
  have SC : SCl prog w h₀ (n + 1) (ext C a0 S) := by
   intro a args kws hh k r e
   unfold ext at e
   split at e
   ·rename_i q
    have q := Nat.eq_of_beq_eq_true q
    subst q
    exact fun {A s os₀ Z ρ xs ks Q} => ih.2.2 (hS _ _ _ _ _ e)
   ·exact SCl.up ih.2.1 e
  exact ⟨Nat.le_add_left _ _, SC, nx (Nat.le_add_left _ _) SC⟩
theorem top_run {prog : Program} {loose : List Str} {mean : ExcName → Option Value} {mg mb : Str → Option Value} {pr : Program} {w : World} {s₁ : Shared} (KX : (KP w.params).In s₁.heap) (T : Top prog loose mean mg mb s₁.heap) (hg : s₁.gens = #[]) {fa a : Addr} (hfa : mg "law" = some (.ref fa))
  {vs : List Value} {ns : List Int} (hl : s₁.heap.get? a = some (lstO vs 0)) (hI : IntsAre vs ns) {n : Nat} {C : Cl Unit} (tow : Tow n C) (hn : n ≤ 100) (hrun : callFn Pr C 317 [.f (.lst (ns.map .int))] [] [] kT = some ()) {Q : Value → Shared → Prop} {E : Value → Shared → Prop}
  (q : ∀ s', (∀ b o, s₁.heap.get? b = some o → s'.heap.get? b = some o) → s'.os = s₁.os → AllBare s'.gens → Q (.bool true) s') :
  wpAny (model pr w) callerA (call (.ref fa) [.ref a]) Q E s₁ := by
 have h317 := mg_of KX T.g (law_at w.params)
 rw [h317] at hfa
 have hfa : 317 = fa := by injection hfa with h; injection h
 subst hfa
 letI : Hsh := ⟨hashStr w⟩
 have hH : ∀ x, Hsh.hsh x = hashStr w x := fun _ => rfl
 have B := k_base (w := w) KX T
 have nl := T.nolimit
 have HI : ∀ n, HItems pr w s₁.heap n := fun n => items_snd hH
 have hgk : keepIn (KP w.params) (.ref Pr.genFn) = true := (k_keep w.params).2.2.2
 have HM : ∀ n, HdrOk pr w s₁.heap (n + 1) := fun n => hdr_snd B HI hgk (k_hMk w.params) (fn_173 KX nl)
 have HG : ∀ n, HGen pr w s₁.heap Pr (n + 1) := fun n => gen_snd B HI hgk (fn_111 KX nl)
 have SC : SCl (R := Unit) pr w s₁.heap (n + 1) (callFn Pr C) := (tow_snd B (fn_all (prog := pr) hH KX nl) HM HI HG hgk tow).2.2
 have R0 : Rel s₁.heap ⟨s₁.os, fun _ => none⟩ (fun b => s₁.heap.get? b) [] [] s₁ := by
  refine ⟨fun _ _ e => e, fun _ _ e => e, List.nodup_nil, fun _ h => (nomatch h), rfl, fun i o e => ?_, ⟨rfl, fun _ _ h => (nomatch h)⟩, AllBare.of_eq hg⟩
  simp at e
 have ok : OkC (n + 1) callerA := ⟨by have : callerA.depth = callerA.depth := rfl; have h : callerA.depth ≤ 600 := (by decide); omega, by have h : callerA.units ≤ 1000 := (by decide); omega, rfl⟩
 refine call_ret (SC hrun ok R0 (xs := [.ref a]) (ks := []) ?_ .nil fun y s' Z' ρ' v h' S' R' rv' e' => ?_)
 ·unfold RVs
  refine ⟨_, _, rfl, ?_, by unfold RVs; rfl⟩
  unfold RV RF
  exact ⟨a, 0, vs, rfl, hl, RFs_ints hI⟩
 ·have := kT_some e'
  subst this
  rw [RV_bool rv']
  exact q s' (fun b o e => R'.fz _ _ (S'.zz _ _ e)) R'.os.1 R'.gens
theorem lst_at {P : Params} {h : Heap} {a : Addr} {l : List PyData} {ob : Obj} {vs : List Value} {n : Nat} (w : Well P h (.ref a) (ofPy (.list l))) (ho : h.get? a = some ob) (hd : ob.data = .seq vs.toArray n) : h.get? a = some (lstO vs 0) := by
 have w' : Well P h (.ref a) (.list (ofPys l)) := w
 cases w' with
 | @list _ vs' _ h1 h2 =>
  rw [h1] at ho
  cases ho
  have : vs'.toArray = vs.toArray := by injection hd
  have : vs' = vs := by simpa using this
  subst this
  exact h1
theorem final_of {n : Nat} {C : Cl Unit} (tow : Tow n C) (hn : n ≤ 100) (hrun : ∀ ns : List Int, ns.length ≤ 63 → callFn Pr C 317 [.f (.lst (ns.map .int))] [] [] kT = some ()) : PySem.Challenge.rw_sh0073_01.Holds := by
 refine hd ?_
 k_fill
 intro w s₀ s₁ mg mb G Y fa o pm cd doc dV kV ho hd hcd hD hmg hg args vals as hpre hlay hrd hwl hlo
 have KX := kIn_of Y
 clear hd hcd hD ho
 have hsh := (pre_splitW hpre).1
 have hcond := (pre_splitW hpre).2
 wrow_hasAll hsh hlay <;> (wrow_readAll hrd hwl hlo)
 rename IntsAre _ _ => hI
 rename Well _ _ _ _ => w1
 rename Heap.IsList _ _ _ => hL
 rename ReadsAll _ _ _ _ => ra
 clear hpre
 w_cond hcond
 rename ¬ _ < _ => hlen
 dsimp only
 obtain ⟨ob, hob, hcl, n', hda⟩ := hL
 refine top_run KX G.T hg hmg (lst_at w1 hob hda) hI tow hn (hrun _ (by omega)) fun s' hk hos hb => ?_
 exact ⟨.inl ⟨.bool true, .bool true, [], rfl, fun _ => rfl, .bool true, by kernel_rfl, fun _ => ⟨.nil, fun _ h => nomatch h⟩⟩, .of_keep hk, hos, hb⟩
end Mine
end
set_option maxRecDepth 100000 in
theorem PySem.Challenge.cw_sh0073_01_holds : PySem.Challenge.rw_sh0073_01.Holds :=
  Mine.final_of Mine.Q.tower (by decide) fun ns hn => (Mine.Q.law_true ns (by omega) Mine.kT).trans rfl
